import PyProof.Rows.All
import Wide.All
import OpenK.AllK
import Wide.FinOn
import Lean
import PySem.Challenge.RW_fc0182_01
open PySem PySem.W PyProof.Rows
set_option Elab.async false
set_option maxRecDepth 100000
set_option linter.all false
namespace Mine
abbrev prog : Program := PySem.Challenge.pw_fc0182_01
end Mine
section
namespace Mine
/-- the text's statements, and the function objects made of them -/
def stmtAt (i : Nat) : Stmt := match prog.main.body[i]? with | some s => s | none => .Return none default
def inClass (i j : Nat) : Stmt := match stmtAt i with | .ClassDef _ _ _ body _ _ _ _ _ _ _ => (match body[j]? with | some s => s | none => .Return none default) | _ => .Return none default
def fnOf (st : Stmt) (qual : Str) (dfl pm code : Value) : FuncData := match st with
  | .FunctionDef name args body _ _ _ scope _ _ _ => { name, qualname := qual, params := args, body := .stmts body, scope, globals := mainGlobals, closure := [], defaults := dfl, kwdefaults := .none, doc := .none, pyModule := pm, code, builtins := builtinsNs }
  | _ => default
def fobj (f : FuncData) : Obj := { cls := .type "function", data := .func f }
def F_unpack : FuncData := fnOf (stmtAt 71) "_unpack" (Value.none) (Value.str (Str.ofString "bson") 1616) (Value.ref 1027)
def F_UNPACK_INT_FROM : FuncData := fnOf (stmtAt 72) "_UNPACK_INT_FROM" (Value.none) (Value.str (Str.ofString "bson") 1616) (Value.ref 1034)
def F_utf_8_decode : FuncData := fnOf (stmtAt 76) "_utf_8_decode" (Value.none) (Value.str (Str.ofString "bson") 1616) (Value.ref 1062)
def F_utf_8_encode : FuncData := fnOf (stmtAt 77) "_utf_8_encode" (Value.none) (Value.str (Str.ofString "bson") 1616) (Value.ref 1069)
def F_index_nul : FuncData := fnOf (stmtAt 78) "_index_nul" (Value.none) (Value.str (Str.ofString "bson") 1616) (Value.ref 1076)
def Fget_data_and_view : FuncData := fnOf (stmtAt 79) "get_data_and_view" (Value.none) (Value.str (Str.ofString "bson") 1616) (Value.ref 1083)
def F_raise_unknown_type : FuncData := fnOf (stmtAt 80) "_raise_unknown_type" (Value.none) (Value.str (Str.ofString "bson") 1616) (Value.ref 1090)
def F_get_int : FuncData := fnOf (stmtAt 81) "_get_int" (Value.none) (Value.str (Str.ofString "bson") 1616) (Value.ref 1097)
def F_get_c_string : FuncData := fnOf (stmtAt 82) "_get_c_string" (Value.none) (Value.str (Str.ofString "bson") 1616) (Value.ref 1104)
def F_get_string : FuncData := fnOf (stmtAt 83) "_get_string" (Value.none) (Value.str (Str.ofString "bson") 1616) (Value.ref 1111)
def F_get_object_size : FuncData := fnOf (stmtAt 84) "_get_object_size" (Value.none) (Value.str (Str.ofString "bson") 1616) (Value.ref 1118)
def F_get_object : FuncData := fnOf (stmtAt 85) "_get_object" (Value.none) (Value.str (Str.ofString "bson") 1616) (Value.ref 1125)
def F_get_array : FuncData := fnOf (stmtAt 86) "_get_array" (Value.none) (Value.str (Str.ofString "bson") 1616) (Value.ref 1132)
def F_get_boolean : FuncData := fnOf (stmtAt 89) "_get_boolean" (Value.none) (Value.str (Str.ofString "bson") 1616) (Value.ref 1153)
def F_get_code : FuncData := fnOf (stmtAt 91) "_get_code" (Value.none) (Value.str (Str.ofString "bson") 1616) (Value.ref 1167)
def F_get_code_w_scope : FuncData := fnOf (stmtAt 92) "_get_code_w_scope" (Value.none) (Value.str (Str.ofString "bson") 1616) (Value.ref 1174)
def F_get_element : FuncData := fnOf (stmtAt 98) "_get_element" (Value.none) (Value.str (Str.ofString "bson") 1616) (Value.ref 1216)
def F_element_to_dict : FuncData := fnOf (stmtAt 99) "_element_to_dict" (Value.none) (Value.str (Str.ofString "bson") 1616) (Value.ref 1223)
def F_elements_to_dict : FuncData := fnOf (stmtAt 100) "_elements_to_dict" (Value.none) (Value.str (Str.ofString "bson") 1616) (Value.ref 1230)
def F_bson_to_dict : FuncData := fnOf (stmtAt 101) "_bson_to_dict" (Value.none) (Value.str (Str.ofString "bson") 1616) (Value.ref 1237)
def F_PACK_INT : FuncData := fnOf (stmtAt 102) "_PACK_INT" (Value.none) (Value.str (Str.ofString "bson") 1616) (Value.ref 1244)
def F_make_c_string : FuncData := fnOf (stmtAt 107) "_make_c_string" (Value.none) (Value.str (Str.ofString "bson") 1616) (Value.ref 1279)
def F_make_name : FuncData := fnOf (stmtAt 108) "_make_name" (Value.none) (Value.str (Str.ofString "bson") 1616) (Value.ref 1286)
def F_encode_mapping : FuncData := fnOf (stmtAt 110) "_encode_mapping" (Value.none) (Value.str (Str.ofString "bson") 1616) (Value.ref 1298)
def F_encode_list : FuncData := fnOf (stmtAt 112) "_encode_list" (Value.none) (Value.str (Str.ofString "bson") 1616) (Value.ref 1310)
def F_encode_text : FuncData := fnOf (stmtAt 113) "_encode_text" (Value.none) (Value.str (Str.ofString "bson") 1616) (Value.ref 1317)
def F_encode_bool : FuncData := fnOf (stmtAt 117) "_encode_bool" (Value.none) (Value.str (Str.ofString "bson") 1616) (Value.ref 1345)
def F_encode_none : FuncData := fnOf (stmtAt 119) "_encode_none" (Value.none) (Value.str (Str.ofString "bson") 1616) (Value.ref 1359)
def F_encode_code : FuncData := fnOf (stmtAt 121) "_encode_code" (Value.none) (Value.str (Str.ofString "bson") 1616) (Value.ref 1373)
def F_encode_int : FuncData := fnOf (stmtAt 122) "_encode_int" (Value.none) (Value.str (Str.ofString "bson") 1616) (Value.ref 1380)
def F_name_value_to_bson : FuncData := fnOf (stmtAt 128) "_name_value_to_bson" (Value.ref 1417) (Value.str (Str.ofString "bson") 1616) (Value.ref 1423)
def F_element_to_bson : FuncData := fnOf (stmtAt 129) "_element_to_bson" (Value.none) (Value.str (Str.ofString "bson") 1616) (Value.ref 1430)
def F_dict_to_bson : FuncData := fnOf (stmtAt 130) "_dict_to_bson" (Value.ref 1432) (Value.str (Str.ofString "bson") 1616) (Value.ref 1438)
def Fencode : FuncData := fnOf (stmtAt 131) "encode" (Value.ref 1440) (Value.str (Str.ofString "bson") 1616) (Value.ref 1446)
def Fdecode : FuncData := fnOf (stmtAt 132) "decode" (Value.ref 1448) (Value.str (Str.ofString "bson") 1616) (Value.ref 1454)
def F_decode_all : FuncData := fnOf (stmtAt 133) "_decode_all" (Value.none) (Value.str (Str.ofString "bson") 1616) (Value.ref 1461)
def Fdecode_all : FuncData := fnOf (stmtAt 134) "decode_all" (Value.ref 1463) (Value.str (Str.ofString "bson") 1616) (Value.ref 1469)
def Fis_valid : FuncData := fnOf (stmtAt 135) "is_valid" (Value.none) (Value.str (Str.ofString "bson") 1616) (Value.ref 1476)
def F_law_leaf : FuncData := fnOf (stmtAt 138) "_law_leaf" (Value.none) (Value.str (Str.ofString "law_fc0182_01") 2325) (Value.ref 1484)
def F_law_laid : FuncData := fnOf (stmtAt 139) "_law_laid" (Value.none) (Value.str (Str.ofString "law_fc0182_01") 2325) (Value.ref 1489)
def F_law_wrapped : FuncData := fnOf (stmtAt 140) "_law_wrapped" (Value.none) (Value.str (Str.ofString "law_fc0182_01") 2325) (Value.ref 1494)
def F_law_all : FuncData := fnOf (stmtAt 141) "_law_all" (Value.none) (Value.str (Str.ofString "law_fc0182_01") 2325) (Value.ref 1499)
def Flaw : FuncData := fnOf (stmtAt 142) "law" (Value.none) (Value.str (Str.ofString "law_fc0182_01") 2325) (Value.ref 1504)
def F_Code___init__ : FuncData := fnOf (inClass 14 1) "Code.__init__" (Value.ref 164) (Value.str (Str.ofString "bson.code") 435) (Value.ref 170)
def F_Code_scope : FuncData := fnOf (inClass 14 2) "Code.scope" (Value.none) (Value.str (Str.ofString "bson.code") 435) (Value.ref 177)
def F_Code___eq__ : FuncData := fnOf (inClass 14 3) "Code.__eq__" (Value.none) (Value.str (Str.ofString "bson.code") 435) (Value.ref 185)
def K (P : Params) : Frag := [(45, { cls := Value.type "dict", data := Data.dict #[{ hash := PyData.keyHash P (Str.ofString "__module__"), key := Value.str (Str.ofString "__module__") 203, val := Value.str (Str.ofString "bson.uuids") 194 }, { hash := PyData.keyHash P (Str.ofString "__firstlineno__"), key := Value.str (Str.ofString "__firstlineno__") 207, val := Value.int 5 206 }, { hash := PyData.keyHash P (Str.ofString "__init__"), key := Value.str (Str.ofString "__init__") 217, val := Value.ref 36 }, { hash := PyData.keyHash P (Str.ofString "__eq__"), key := Value.str (Str.ofString "__eq__") 225, val := Value.ref 43 }, { hash := PyData.keyHash P (Str.ofString "__static_attributes__"), key := Value.str (Str.ofString "__static_attributes__") 228, val := Value.ref 44 }, { hash := PyData.keyHash P (Str.ofString "__dict__"), key := Value.str (Str.ofString "__dict__") 230, val := Value.ref 47 }, { hash := PyData.keyHash P (Str.ofString "__weakref__"), key := Value.str (Str.ofString "__weakref__") 232, val := Value.ref 48 }, { hash := PyData.keyHash P (Str.ofString "__doc__"), key := Value.str (Str.ofString "__doc__") 233, val := Value.none }, { hash := PyData.keyHash P (Str.ofString "__hash__"), key := Value.str (Str.ofString "__hash__") 234, val := Value.none }] 5 }),
  (46, { cls := Value.type "type", data := Data.cls { name := Str.ofString "UUID", bases := [Value.type "object"], mro := [Value.ref 46, Value.type "object"], ns := 45, qualname := Str.ofString "UUID" }, slots := #[none, none, some (Value.str (Str.ofString "UUID") 196), some (Value.str (Str.ofString "UUID") 204), some (Value.builtin "object.__new__"), some (Value.bool true)] }),
  (151, { cls := Value.type "dict", data := Data.dict #[{ hash := PyData.keyHash P (Str.ofString "__module__"), key := Value.str (Str.ofString "__module__") 319, val := Value.str (Str.ofString "bson.binary") 244 }, { hash := PyData.keyHash P (Str.ofString "__firstlineno__"), key := Value.str (Str.ofString "__firstlineno__") 323, val := Value.int 35 322 }, { hash := PyData.keyHash P (Str.ofString "_type_marker"), key := Value.str (Str.ofString "_type_marker") 325, val := Value.int 5 324 }, { hash := PyData.keyHash P (Str.ofString "__init__"), key := Value.str (Str.ofString "__init__") 335, val := Value.ref 89 }, { hash := PyData.keyHash P (Str.ofString "from_uuid"), key := Value.str (Str.ofString "from_uuid") 360, val := Value.ref 99 }, { hash := PyData.keyHash P (Str.ofString "as_uuid"), key := Value.str (Str.ofString "as_uuid") 369, val := Value.ref 108 }, { hash := PyData.keyHash P (Str.ofString "from_vector"), key := Value.str (Str.ofString "from_vector") 391, val := Value.ref 118 }, { hash := PyData.keyHash P (Str.ofString "as_vector"), key := Value.str (Str.ofString "as_vector") 399, val := Value.ref 127 }, { hash := PyData.keyHash P (Str.ofString "subtype"), key := Value.str (Str.ofString "subtype") 407, val := Value.ref 135 }, { hash := PyData.keyHash P (Str.ofString "__eq__"), key := Value.str (Str.ofString "__eq__") 415, val := Value.ref 142 }, { hash := PyData.keyHash P (Str.ofString "__ne__"), key := Value.str (Str.ofString "__ne__") 423, val := Value.ref 149 }, { hash := PyData.keyHash P (Str.ofString "__static_attributes__"), key := Value.str (Str.ofString "__static_attributes__") 426, val := Value.ref 150 }, { hash := PyData.keyHash P (Str.ofString "__dict__"), key := Value.str (Str.ofString "__dict__") 428, val := Value.ref 153 }, { hash := PyData.keyHash P (Str.ofString "__weakref__"), key := Value.str (Str.ofString "__weakref__") 430, val := Value.ref 154 }, { hash := PyData.keyHash P (Str.ofString "__doc__"), key := Value.str (Str.ofString "__doc__") 431, val := Value.none }, { hash := PyData.keyHash P (Str.ofString "__hash__"), key := Value.str (Str.ofString "__hash__") 432, val := Value.none }] 5 }),
  (152, { cls := Value.type "type", data := Data.cls { name := Str.ofString "Binary", bases := [Value.type "object"], mro := [Value.ref 152, Value.type "object"], ns := 151, qualname := Str.ofString "Binary" }, slots := #[none, none, some (Value.str (Str.ofString "Binary") 312), some (Value.str (Str.ofString "Binary") 320), some (Value.builtin "object.__new__"), some (Value.bool true)] }),
  (164, { cls := Value.type "tuple", data := Data.seq #[Value.none] }),
  (170, { cls := Value.type "code", data := Data.fields #[Value.str (Str.ofString "__init__") 451, Value.str (Str.ofString "Code.__init__") 452, Value.str (Str.ofString "/claim/cut.py") 453, Value.int 111 0, Value.int 3 0, Value.int 0 0, Value.int 0 0, Value.int 11 0, Value.ref 165, Value.bool true, Value.int 181 0, Value.ref 166, Value.none, Value.ref 167, Value.ref 168, Value.ref 169, Value.int 458 0, Value.int 111 0, Value.str (Str.ofString "/claim/cut.py") 459] }),
  (171, fobj F_Code___init__),
  (177, { cls := Value.type "code", data := Data.fields #[Value.str (Str.ofString "scope") 461, Value.str (Str.ofString "Code.scope") 462, Value.str (Str.ofString "/claim/cut.py") 463, Value.int 133 0, Value.int 1 0, Value.int 0 0, Value.int 0 0, Value.int 3 0, Value.ref 172, Value.bool true, Value.int 181 0, Value.ref 173, Value.none, Value.ref 174, Value.ref 175, Value.ref 176, Value.int 465 0, Value.int 133 0, Value.str (Str.ofString "/claim/cut.py") 466] }),
  (178, fobj F_Code_scope),
  (179, { cls := Value.type "property", data := Data.fields #[Value.ref 178, Value.none, Value.none, Value.none, Value.str (Str.ofString "scope") 468, Value.bool false] }),
  (185, { cls := Value.type "code", data := Data.fields #[Value.str (Str.ofString "__eq__") 469, Value.str (Str.ofString "Code.__eq__") 470, Value.str (Str.ofString "/claim/cut.py") 471, Value.int 137 0, Value.int 2 0, Value.int 0 0, Value.int 0 0, Value.int 3 0, Value.ref 180, Value.bool true, Value.int 181 0, Value.ref 181, Value.none, Value.ref 182, Value.ref 183, Value.ref 184, Value.int 474 0, Value.int 137 0, Value.str (Str.ofString "/claim/cut.py") 475] }),
  (186, fobj F_Code___eq__),
  (195, { cls := Value.type "dict", data := Data.dict #[{ hash := PyData.keyHash P (Str.ofString "__module__"), key := Value.str (Str.ofString "__module__") 444, val := Value.str (Str.ofString "bson.code") 435 }, { hash := PyData.keyHash P (Str.ofString "__firstlineno__"), key := Value.str (Str.ofString "__firstlineno__") 448, val := Value.int 108 447 }, { hash := PyData.keyHash P (Str.ofString "_type_marker"), key := Value.str (Str.ofString "_type_marker") 450, val := Value.int 13 449 }, { hash := PyData.keyHash P (Str.ofString "__init__"), key := Value.str (Str.ofString "__init__") 460, val := Value.ref 171 }, { hash := PyData.keyHash P (Str.ofString "scope"), key := Value.str (Str.ofString "scope") 468, val := Value.ref 179 }, { hash := PyData.keyHash P (Str.ofString "__eq__"), key := Value.str (Str.ofString "__eq__") 476, val := Value.ref 186 }, { hash := PyData.keyHash P (Str.ofString "__ne__"), key := Value.str (Str.ofString "__ne__") 484, val := Value.ref 193 }, { hash := PyData.keyHash P (Str.ofString "__static_attributes__"), key := Value.str (Str.ofString "__static_attributes__") 487, val := Value.ref 194 }, { hash := PyData.keyHash P (Str.ofString "__dict__"), key := Value.str (Str.ofString "__dict__") 489, val := Value.ref 197 }, { hash := PyData.keyHash P (Str.ofString "__weakref__"), key := Value.str (Str.ofString "__weakref__") 491, val := Value.ref 198 }, { hash := PyData.keyHash P (Str.ofString "__doc__"), key := Value.str (Str.ofString "__doc__") 492, val := Value.none }, { hash := PyData.keyHash P (Str.ofString "__hash__"), key := Value.str (Str.ofString "__hash__") 493, val := Value.none }] 5 }),
  (196, { cls := Value.type "type", data := Data.cls { name := Str.ofString "Code", bases := [Value.type "object"], mro := [Value.ref 196, Value.type "object"], ns := 195, qualname := Str.ofString "Code" }, slots := #[none, none, some (Value.str (Str.ofString "Code") 437), some (Value.str (Str.ofString "Code") 445), some (Value.builtin "object.__new__"), some (Value.bool true)] }),
  (255, { cls := Value.type "dict", data := Data.dict #[{ hash := PyData.keyHash P (Str.ofString "__module__"), key := Value.str (Str.ofString "__module__") 552, val := Value.str (Str.ofString "bson.codec_options") 496 }, { hash := PyData.keyHash P (Str.ofString "__firstlineno__"), key := Value.str (Str.ofString "__firstlineno__") 556, val := Value.int 161 555 }, { hash := PyData.keyHash P (Str.ofString "__init__"), key := Value.str (Str.ofString "__init__") 568, val := Value.ref 253 }, { hash := PyData.keyHash P (Str.ofString "__static_attributes__"), key := Value.str (Str.ofString "__static_attributes__") 572, val := Value.ref 254 }, { hash := PyData.keyHash P (Str.ofString "__dict__"), key := Value.str (Str.ofString "__dict__") 574, val := Value.ref 257 }, { hash := PyData.keyHash P (Str.ofString "__weakref__"), key := Value.str (Str.ofString "__weakref__") 576, val := Value.ref 258 }, { hash := PyData.keyHash P (Str.ofString "__doc__"), key := Value.str (Str.ofString "__doc__") 577, val := Value.none }] 4 }),
  (256, { cls := Value.type "type", data := Data.cls { name := Str.ofString "CodecOptions", bases := [Value.type "object"], mro := [Value.ref 256, Value.type "object"], ns := 255, qualname := Str.ofString "CodecOptions" }, slots := #[none, none, some (Value.str (Str.ofString "CodecOptions") 545), some (Value.str (Str.ofString "CodecOptions") 553), some (Value.builtin "object.__new__"), some (Value.bool true)] }),
  (261, { cls := Value.type "dict", data := Data.dict #[{ hash := PyData.keyHash P (Str.ofString "uuid_representation"), key := Value.str (Str.ofString "uuid_representation") 593, val := Value.int 0 557 }, { hash := PyData.keyHash P (Str.ofString "unicode_decode_error_handler"), key := Value.str (Str.ofString "unicode_decode_error_handler") 595, val := Value.str (Str.ofString "strict") 558 }, { hash := PyData.keyHash P (Str.ofString "type_registry"), key := Value.str (Str.ofString "type_registry") 597, val := Value.ref 265 }] 3 }),
  (262, { cls := Value.ref 256, dict := some 261 }),
  (333, { cls := Value.type "dict", data := Data.dict #[{ hash := PyData.keyHash P (Str.ofString "__module__"), key := Value.str (Str.ofString "__module__") 608, val := Value.str (Str.ofString "bson.datetime_ms") 599 }, { hash := PyData.keyHash P (Str.ofString "__firstlineno__"), key := Value.str (Str.ofString "__firstlineno__") 612, val := Value.int 176 611 }, { hash := PyData.keyHash P (Str.ofString "__init__"), key := Value.str (Str.ofString "__init__") 620, val := Value.ref 282 }, { hash := PyData.keyHash P (Str.ofString "__lt__"), key := Value.str (Str.ofString "__lt__") 628, val := Value.ref 289 }, { hash := PyData.keyHash P (Str.ofString "__le__"), key := Value.str (Str.ofString "__le__") 636, val := Value.ref 296 }, { hash := PyData.keyHash P (Str.ofString "__eq__"), key := Value.str (Str.ofString "__eq__") 644, val := Value.ref 303 }, { hash := PyData.keyHash P (Str.ofString "__ne__"), key := Value.str (Str.ofString "__ne__") 652, val := Value.ref 310 }, { hash := PyData.keyHash P (Str.ofString "__gt__"), key := Value.str (Str.ofString "__gt__") 660, val := Value.ref 317 }, { hash := PyData.keyHash P (Str.ofString "__ge__"), key := Value.str (Str.ofString "__ge__") 668, val := Value.ref 324 }, { hash := PyData.keyHash P (Str.ofString "_type_marker"), key := Value.str (Str.ofString "_type_marker") 670, val := Value.int 9 669 }, { hash := PyData.keyHash P (Str.ofString "__int__"), key := Value.str (Str.ofString "__int__") 677, val := Value.ref 331 }, { hash := PyData.keyHash P (Str.ofString "__static_attributes__"), key := Value.str (Str.ofString "__static_attributes__") 679, val := Value.ref 332 }, { hash := PyData.keyHash P (Str.ofString "__dict__"), key := Value.str (Str.ofString "__dict__") 681, val := Value.ref 335 }, { hash := PyData.keyHash P (Str.ofString "__weakref__"), key := Value.str (Str.ofString "__weakref__") 683, val := Value.ref 336 }, { hash := PyData.keyHash P (Str.ofString "__doc__"), key := Value.str (Str.ofString "__doc__") 684, val := Value.none }, { hash := PyData.keyHash P (Str.ofString "__hash__"), key := Value.str (Str.ofString "__hash__") 685, val := Value.none }] 5 }),
  (334, { cls := Value.type "type", data := Data.cls { name := Str.ofString "DatetimeMS", bases := [Value.type "object"], mro := [Value.ref 334, Value.type "object"], ns := 333, qualname := Str.ofString "DatetimeMS" }, slots := #[none, none, some (Value.str (Str.ofString "DatetimeMS") 601), some (Value.str (Str.ofString "DatetimeMS") 609), some (Value.builtin "object.__new__"), some (Value.bool true)] }),
  (655, { cls := Value.type "dict", data := Data.dict #[{ hash := PyData.keyHash P (Str.ofString "__module__"), key := Value.str (Str.ofString "__module__") 1102, val := Value.str (Str.ofString "bson.int64") 1093 }, { hash := PyData.keyHash P (Str.ofString "__firstlineno__"), key := Value.str (Str.ofString "__firstlineno__") 1106, val := Value.int 376 1105 }, { hash := PyData.keyHash P (Str.ofString "_type_marker"), key := Value.str (Str.ofString "_type_marker") 1108, val := Value.int 18 1107 }, { hash := PyData.keyHash P (Str.ofString "__init__"), key := Value.str (Str.ofString "__init__") 1116, val := Value.ref 646 }, { hash := PyData.keyHash P (Str.ofString "__eq__"), key := Value.str (Str.ofString "__eq__") 1124, val := Value.ref 653 }, { hash := PyData.keyHash P (Str.ofString "__static_attributes__"), key := Value.str (Str.ofString "__static_attributes__") 1126, val := Value.ref 654 }, { hash := PyData.keyHash P (Str.ofString "__dict__"), key := Value.str (Str.ofString "__dict__") 1128, val := Value.ref 657 }, { hash := PyData.keyHash P (Str.ofString "__weakref__"), key := Value.str (Str.ofString "__weakref__") 1130, val := Value.ref 658 }, { hash := PyData.keyHash P (Str.ofString "__doc__"), key := Value.str (Str.ofString "__doc__") 1131, val := Value.none }, { hash := PyData.keyHash P (Str.ofString "__hash__"), key := Value.str (Str.ofString "__hash__") 1132, val := Value.none }] 5 }),
  (656, { cls := Value.type "type", data := Data.cls { name := Str.ofString "Int64", bases := [Value.type "object"], mro := [Value.ref 656, Value.type "object"], ns := 655, qualname := Str.ofString "Int64" }, slots := #[none, none, some (Value.str (Str.ofString "Int64") 1095), some (Value.str (Str.ofString "Int64") 1103), some (Value.builtin "object.__new__"), some (Value.bool true)] }),
  (1027, { cls := Value.type "code", data := Data.fields #[Value.str (Str.ofString "_unpack") 1618, Value.str (Str.ofString "_unpack") 1619, Value.str (Str.ofString "/claim/cut.py") 1620, Value.int 609 0, Value.int 4 0, Value.int 0 0, Value.int 0 0, Value.int 3 0, Value.ref 1022, Value.bool true, Value.int 181 0, Value.ref 1023, Value.none, Value.ref 1024, Value.ref 1025, Value.ref 1026, Value.int 1625 0, Value.int 609 0, Value.str (Str.ofString "/claim/cut.py") 1626] }),
  (1028, fobj F_unpack),
  (1034, { cls := Value.type "code", data := Data.fields #[Value.str (Str.ofString "_UNPACK_INT_FROM") 1628, Value.str (Str.ofString "_UNPACK_INT_FROM") 1629, Value.str (Str.ofString "/claim/cut.py") 1630, Value.int 613 0, Value.int 2 0, Value.int 0 0, Value.int 0 0, Value.int 3 0, Value.ref 1029, Value.bool true, Value.int 181 0, Value.ref 1030, Value.none, Value.ref 1031, Value.ref 1032, Value.ref 1033, Value.int 1633 0, Value.int 613 0, Value.str (Str.ofString "/claim/cut.py") 1634] }),
  (1035, fobj F_UNPACK_INT_FROM),
  (1062, { cls := Value.type "code", data := Data.fields #[Value.str (Str.ofString "_utf_8_decode") 1660, Value.str (Str.ofString "_utf_8_decode") 1661, Value.str (Str.ofString "/claim/cut.py") 1662, Value.int 625 0, Value.int 3 0, Value.int 0 0, Value.int 0 0, Value.int 3 0, Value.ref 1057, Value.bool true, Value.int 181 0, Value.ref 1058, Value.none, Value.ref 1059, Value.ref 1060, Value.ref 1061, Value.int 1666 0, Value.int 625 0, Value.str (Str.ofString "/claim/cut.py") 1667] }),
  (1063, fobj F_utf_8_decode),
  (1069, { cls := Value.type "code", data := Data.fields #[Value.str (Str.ofString "_utf_8_encode") 1669, Value.str (Str.ofString "_utf_8_encode") 1670, Value.str (Str.ofString "/claim/cut.py") 1671, Value.int 627 0, Value.int 1 0, Value.int 0 0, Value.int 0 0, Value.int 3 0, Value.ref 1064, Value.bool true, Value.int 181 0, Value.ref 1065, Value.none, Value.ref 1066, Value.ref 1067, Value.ref 1068, Value.int 1673 0, Value.int 627 0, Value.str (Str.ofString "/claim/cut.py") 1674] }),
  (1070, fobj F_utf_8_encode),
  (1076, { cls := Value.type "code", data := Data.fields #[Value.str (Str.ofString "_index_nul") 1676, Value.str (Str.ofString "_index_nul") 1677, Value.str (Str.ofString "/claim/cut.py") 1678, Value.int 629 0, Value.int 2 0, Value.int 0 0, Value.int 0 0, Value.int 3 0, Value.ref 1071, Value.bool true, Value.int 181 0, Value.ref 1072, Value.none, Value.ref 1073, Value.ref 1074, Value.ref 1075, Value.int 1682 0, Value.int 629 0, Value.str (Str.ofString "/claim/cut.py") 1683] }),
  (1077, fobj F_index_nul),
  (1083, { cls := Value.type "code", data := Data.fields #[Value.str (Str.ofString "get_data_and_view") 1685, Value.str (Str.ofString "get_data_and_view") 1686, Value.str (Str.ofString "/claim/cut.py") 1687, Value.int 634 0, Value.int 1 0, Value.int 0 0, Value.int 0 0, Value.int 3 0, Value.ref 1078, Value.bool true, Value.int 181 0, Value.ref 1079, Value.none, Value.ref 1080, Value.ref 1081, Value.ref 1082, Value.int 1689 0, Value.int 634 0, Value.str (Str.ofString "/claim/cut.py") 1690] }),
  (1084, fobj Fget_data_and_view),
  (1090, { cls := Value.type "code", data := Data.fields #[Value.str (Str.ofString "_raise_unknown_type") 1692, Value.str (Str.ofString "_raise_unknown_type") 1693, Value.str (Str.ofString "/claim/cut.py") 1694, Value.int 636 0, Value.int 2 0, Value.int 0 0, Value.int 0 0, Value.int 3 0, Value.ref 1085, Value.bool true, Value.int 181 0, Value.ref 1086, Value.none, Value.ref 1087, Value.ref 1088, Value.ref 1089, Value.int 1697 0, Value.int 636 0, Value.str (Str.ofString "/claim/cut.py") 1698] }),
  (1091, fobj F_raise_unknown_type),
  (1097, { cls := Value.type "code", data := Data.fields #[Value.str (Str.ofString "_get_int") 1700, Value.str (Str.ofString "_get_int") 1701, Value.str (Str.ofString "/claim/cut.py") 1702, Value.int 638 0, Value.int 6 0, Value.int 0 0, Value.int 0 0, Value.int 3 0, Value.ref 1092, Value.bool true, Value.int 181 0, Value.ref 1093, Value.none, Value.ref 1094, Value.ref 1095, Value.ref 1096, Value.int 1709 0, Value.int 638 0, Value.str (Str.ofString "/claim/cut.py") 1710] }),
  (1098, fobj F_get_int),
  (1104, { cls := Value.type "code", data := Data.fields #[Value.str (Str.ofString "_get_c_string") 1712, Value.str (Str.ofString "_get_c_string") 1713, Value.str (Str.ofString "/claim/cut.py") 1714, Value.int 640 0, Value.int 4 0, Value.int 0 0, Value.int 0 0, Value.int 3 0, Value.ref 1099, Value.bool true, Value.int 181 0, Value.ref 1100, Value.none, Value.ref 1101, Value.ref 1102, Value.ref 1103, Value.int 1720 0, Value.int 640 0, Value.str (Str.ofString "/claim/cut.py") 1721] }),
  (1105, fobj F_get_c_string),
  (1111, { cls := Value.type "code", data := Data.fields #[Value.str (Str.ofString "_get_string") 1723, Value.str (Str.ofString "_get_string") 1724, Value.str (Str.ofString "/claim/cut.py") 1725, Value.int 643 0, Value.int 6 0, Value.int 0 0, Value.int 0 0, Value.int 3 0, Value.ref 1106, Value.bool true, Value.int 181 0, Value.ref 1107, Value.none, Value.ref 1108, Value.ref 1109, Value.ref 1110, Value.int 1734 0, Value.int 643 0, Value.str (Str.ofString "/claim/cut.py") 1735] }),
  (1112, fobj F_get_string),
  (1118, { cls := Value.type "code", data := Data.fields #[Value.str (Str.ofString "_get_object_size") 1737, Value.str (Str.ofString "_get_object_size") 1738, Value.str (Str.ofString "/claim/cut.py") 1739, Value.int 652 0, Value.int 3 0, Value.int 0 0, Value.int 0 0, Value.int 3 0, Value.ref 1113, Value.bool true, Value.int 181 0, Value.ref 1114, Value.none, Value.ref 1115, Value.ref 1116, Value.ref 1117, Value.int 1746 0, Value.int 652 0, Value.str (Str.ofString "/claim/cut.py") 1747] }),
  (1119, fobj F_get_object_size),
  (1125, { cls := Value.type "code", data := Data.fields #[Value.str (Str.ofString "_get_object") 1749, Value.str (Str.ofString "_get_object") 1750, Value.str (Str.ofString "/claim/cut.py") 1751, Value.int 665 0, Value.int 6 0, Value.int 0 0, Value.int 0 0, Value.int 3 0, Value.ref 1120, Value.bool true, Value.int 181 0, Value.ref 1121, Value.none, Value.ref 1122, Value.ref 1123, Value.ref 1124, Value.int 1761 0, Value.int 665 0, Value.str (Str.ofString "/claim/cut.py") 1762] }),
  (1126, fobj F_get_object),
  (1132, { cls := Value.type "code", data := Data.fields #[Value.str (Str.ofString "_get_array") 1764, Value.str (Str.ofString "_get_array") 1765, Value.str (Str.ofString "/claim/cut.py") 1766, Value.int 672 0, Value.int 6 0, Value.int 0 0, Value.int 0 0, Value.int 3 0, Value.ref 1127, Value.bool true, Value.int 181 0, Value.ref 1128, Value.none, Value.ref 1129, Value.ref 1130, Value.ref 1131, Value.int 1778 0, Value.int 672 0, Value.str (Str.ofString "/claim/cut.py") 1779] }),
  (1133, fobj F_get_array),
  (1153, { cls := Value.type "code", data := Data.fields #[Value.str (Str.ofString "_get_boolean") 1813, Value.str (Str.ofString "_get_boolean") 1814, Value.str (Str.ofString "/claim/cut.py") 1815, Value.int 717 0, Value.int 6 0, Value.int 0 0, Value.int 0 0, Value.int 3 0, Value.ref 1148, Value.bool true, Value.int 181 0, Value.ref 1149, Value.none, Value.ref 1150, Value.ref 1151, Value.ref 1152, Value.int 1824 0, Value.int 717 0, Value.str (Str.ofString "/claim/cut.py") 1825] }),
  (1154, fobj F_get_boolean),
  (1167, { cls := Value.type "code", data := Data.fields #[Value.str (Str.ofString "_get_code") 1839, Value.str (Str.ofString "_get_code") 1840, Value.str (Str.ofString "/claim/cut.py") 1841, Value.int 727 0, Value.int 6 0, Value.int 0 0, Value.int 0 0, Value.int 3 0, Value.ref 1162, Value.bool true, Value.int 181 0, Value.ref 1163, Value.none, Value.ref 1164, Value.ref 1165, Value.ref 1166, Value.int 1849 0, Value.int 727 0, Value.str (Str.ofString "/claim/cut.py") 1850] }),
  (1168, fobj F_get_code),
  (1174, { cls := Value.type "code", data := Data.fields #[Value.str (Str.ofString "_get_code_w_scope") 1852, Value.str (Str.ofString "_get_code_w_scope") 1853, Value.str (Str.ofString "/claim/cut.py") 1854, Value.int 730 0, Value.int 6 0, Value.int 0 0, Value.int 0 0, Value.int 3 0, Value.ref 1169, Value.bool true, Value.int 181 0, Value.ref 1170, Value.none, Value.ref 1171, Value.ref 1172, Value.ref 1173, Value.int 1864 0, Value.int 730 0, Value.str (Str.ofString "/claim/cut.py") 1865] }),
  (1175, fobj F_get_code_w_scope),
  (1216, { cls := Value.type "code", data := Data.fields #[Value.str (Str.ofString "_get_element") 1935, Value.str (Str.ofString "_get_element") 1936, Value.str (Str.ofString "/claim/cut.py") 1937, Value.int 754 0, Value.int 7 0, Value.int 0 0, Value.int 0 0, Value.int 3 0, Value.ref 1211, Value.bool true, Value.int 181 0, Value.ref 1212, Value.none, Value.ref 1213, Value.ref 1214, Value.ref 1215, Value.int 1945 0, Value.int 754 0, Value.str (Str.ofString "/claim/cut.py") 1946] }),
  (1217, fobj F_get_element),
  (1223, { cls := Value.type "code", data := Data.fields #[Value.str (Str.ofString "_element_to_dict") 1948, Value.str (Str.ofString "_element_to_dict") 1949, Value.str (Str.ofString "/claim/cut.py") 1950, Value.int 796 0, Value.int 5 0, Value.int 0 0, Value.int 0 0, Value.int 3 0, Value.ref 1218, Value.bool true, Value.int 181 0, Value.ref 1219, Value.none, Value.ref 1220, Value.ref 1221, Value.ref 1222, Value.int 1959 0, Value.int 796 0, Value.str (Str.ofString "/claim/cut.py") 1960] }),
  (1224, fobj F_element_to_dict),
  (1230, { cls := Value.type "code", data := Data.fields #[Value.str (Str.ofString "_elements_to_dict") 1962, Value.str (Str.ofString "_elements_to_dict") 1963, Value.str (Str.ofString "/claim/cut.py") 1964, Value.int 805 0, Value.int 5 0, Value.int 0 0, Value.int 0 0, Value.int 3 0, Value.ref 1225, Value.bool true, Value.int 181 0, Value.ref 1226, Value.none, Value.ref 1227, Value.ref 1228, Value.ref 1229, Value.int 1974 0, Value.int 805 0, Value.str (Str.ofString "/claim/cut.py") 1975] }),
  (1231, fobj F_elements_to_dict),
  (1237, { cls := Value.type "code", data := Data.fields #[Value.str (Str.ofString "_bson_to_dict") 1977, Value.str (Str.ofString "_bson_to_dict") 1978, Value.str (Str.ofString "/claim/cut.py") 1979, Value.int 814 0, Value.int 2 0, Value.int 0 0, Value.int 0 0, Value.int 3 0, Value.ref 1232, Value.bool true, Value.int 181 0, Value.ref 1233, Value.none, Value.ref 1234, Value.ref 1235, Value.ref 1236, Value.int 1986 0, Value.int 814 0, Value.str (Str.ofString "/claim/cut.py") 1987] }),
  (1238, fobj F_bson_to_dict),
  (1244, { cls := Value.type "code", data := Data.fields #[Value.str (Str.ofString "_PACK_INT") 1989, Value.str (Str.ofString "_PACK_INT") 1990, Value.str (Str.ofString "/claim/cut.py") 1991, Value.int 823 0, Value.int 1 0, Value.int 0 0, Value.int 0 0, Value.int 3 0, Value.ref 1239, Value.bool true, Value.int 181 0, Value.ref 1240, Value.none, Value.ref 1241, Value.ref 1242, Value.ref 1243, Value.int 1993 0, Value.int 823 0, Value.str (Str.ofString "/claim/cut.py") 1994] }),
  (1245, fobj F_PACK_INT),
  (1279, { cls := Value.type "code", data := Data.fields #[Value.str (Str.ofString "_make_c_string") 2026, Value.str (Str.ofString "_make_c_string") 2027, Value.str (Str.ofString "/claim/cut.py") 2028, Value.int 846 0, Value.int 1 0, Value.int 0 0, Value.int 0 0, Value.int 3 0, Value.ref 1274, Value.bool true, Value.int 181 0, Value.ref 1275, Value.none, Value.ref 1276, Value.ref 1277, Value.ref 1278, Value.int 2030 0, Value.int 846 0, Value.str (Str.ofString "/claim/cut.py") 2031] }),
  (1280, fobj F_make_c_string),
  (1286, { cls := Value.type "code", data := Data.fields #[Value.str (Str.ofString "_make_name") 2033, Value.str (Str.ofString "_make_name") 2034, Value.str (Str.ofString "/claim/cut.py") 2035, Value.int 855 0, Value.int 1 0, Value.int 0 0, Value.int 0 0, Value.int 3 0, Value.ref 1281, Value.bool true, Value.int 181 0, Value.ref 1282, Value.none, Value.ref 1283, Value.ref 1284, Value.ref 1285, Value.int 2037 0, Value.int 855 0, Value.str (Str.ofString "/claim/cut.py") 2038] }),
  (1287, fobj F_make_name),
  (1298, { cls := Value.type "code", data := Data.fields #[Value.str (Str.ofString "_encode_mapping") 2050, Value.str (Str.ofString "_encode_mapping") 2051, Value.str (Str.ofString "/claim/cut.py") 2052, Value.int 861 0, Value.int 4 0, Value.int 0 0, Value.int 0 0, Value.int 3 0, Value.ref 1295, Value.bool true, Value.int 181 0, Value.ref 1296, Value.none, Value.none, Value.none, Value.ref 1297, Value.int 2053 0, Value.int 861 0, Value.str (Str.ofString "/claim/cut.py") 2054] }),
  (1299, fobj F_encode_mapping),
  (1310, { cls := Value.type "code", data := Data.fields #[Value.str (Str.ofString "_encode_list") 2070, Value.str (Str.ofString "_encode_list") 2071, Value.str (Str.ofString "/claim/cut.py") 2072, Value.int 876 0, Value.int 4 0, Value.int 0 0, Value.int 0 0, Value.int 3 0, Value.ref 1307, Value.bool true, Value.int 181 0, Value.ref 1308, Value.none, Value.none, Value.none, Value.ref 1309, Value.int 2073 0, Value.int 876 0, Value.str (Str.ofString "/claim/cut.py") 2074] }),
  (1311, fobj F_encode_list),
  (1317, { cls := Value.type "code", data := Data.fields #[Value.str (Str.ofString "_encode_text") 2076, Value.str (Str.ofString "_encode_text") 2077, Value.str (Str.ofString "/claim/cut.py") 2078, Value.int 879 0, Value.int 4 0, Value.int 0 0, Value.int 0 0, Value.int 3 0, Value.ref 1312, Value.bool true, Value.int 181 0, Value.ref 1313, Value.none, Value.ref 1314, Value.ref 1315, Value.ref 1316, Value.int 2084 0, Value.int 879 0, Value.str (Str.ofString "/claim/cut.py") 2085] }),
  (1318, fobj F_encode_text),
  (1345, { cls := Value.type "code", data := Data.fields #[Value.str (Str.ofString "_encode_bool") 2121, Value.str (Str.ofString "_encode_bool") 2122, Value.str (Str.ofString "/claim/cut.py") 2123, Value.int 894 0, Value.int 4 0, Value.int 0 0, Value.int 0 0, Value.int 3 0, Value.ref 1340, Value.bool true, Value.int 181 0, Value.ref 1341, Value.none, Value.ref 1342, Value.ref 1343, Value.ref 1344, Value.int 2128 0, Value.int 894 0, Value.str (Str.ofString "/claim/cut.py") 2129] }),
  (1346, fobj F_encode_bool),
  (1359, { cls := Value.type "code", data := Data.fields #[Value.str (Str.ofString "_encode_none") 2142, Value.str (Str.ofString "_encode_none") 2143, Value.str (Str.ofString "/claim/cut.py") 2144, Value.int 899 0, Value.int 4 0, Value.int 0 0, Value.int 0 0, Value.int 3 0, Value.ref 1354, Value.bool true, Value.int 181 0, Value.ref 1355, Value.none, Value.ref 1356, Value.ref 1357, Value.ref 1358, Value.int 2149 0, Value.int 899 0, Value.str (Str.ofString "/claim/cut.py") 2150] }),
  (1360, fobj F_encode_none),
  (1373, { cls := Value.type "code", data := Data.fields #[Value.str (Str.ofString "_encode_code") 2164, Value.str (Str.ofString "_encode_code") 2165, Value.str (Str.ofString "/claim/cut.py") 2166, Value.int 923 0, Value.int 4 0, Value.int 0 0, Value.int 0 0, Value.int 3 0, Value.ref 1368, Value.bool true, Value.int 181 0, Value.ref 1369, Value.none, Value.ref 1370, Value.ref 1371, Value.ref 1372, Value.int 2175 0, Value.int 923 0, Value.str (Str.ofString "/claim/cut.py") 2176] }),
  (1374, fobj F_encode_code),
  (1380, { cls := Value.type "code", data := Data.fields #[Value.str (Str.ofString "_encode_int") 2178, Value.str (Str.ofString "_encode_int") 2179, Value.str (Str.ofString "/claim/cut.py") 2180, Value.int 931 0, Value.int 4 0, Value.int 0 0, Value.int 0 0, Value.int 3 0, Value.ref 1375, Value.bool true, Value.int 181 0, Value.ref 1376, Value.none, Value.ref 1377, Value.ref 1378, Value.ref 1379, Value.int 2185 0, Value.int 931 0, Value.str (Str.ofString "/claim/cut.py") 2186] }),
  (1381, fobj F_encode_int),
  (1417, { cls := Value.type "tuple", data := Data.seq #[Value.bool false] }),
  (1423, { cls := Value.type "code", data := Data.fields #[Value.str (Str.ofString "_name_value_to_bson") 2238, Value.str (Str.ofString "_name_value_to_bson") 2239, Value.str (Str.ofString "/claim/cut.py") 2240, Value.int 952 0, Value.int 5 0, Value.int 0 0, Value.int 0 0, Value.int 3 0, Value.ref 1418, Value.bool true, Value.int 181 0, Value.ref 1419, Value.none, Value.ref 1420, Value.ref 1421, Value.ref 1422, Value.int 2248 0, Value.int 952 0, Value.str (Str.ofString "/claim/cut.py") 2249] }),
  (1424, fobj F_name_value_to_bson),
  (1430, { cls := Value.type "code", data := Data.fields #[Value.str (Str.ofString "_element_to_bson") 2251, Value.str (Str.ofString "_element_to_bson") 2252, Value.str (Str.ofString "/claim/cut.py") 2253, Value.int 1001 0, Value.int 4 0, Value.int 0 0, Value.int 0 0, Value.int 3 0, Value.ref 1425, Value.bool true, Value.int 181 0, Value.ref 1426, Value.none, Value.ref 1427, Value.ref 1428, Value.ref 1429, Value.int 2259 0, Value.int 1001 0, Value.str (Str.ofString "/claim/cut.py") 2260] }),
  (1431, fobj F_element_to_bson),
  (1432, { cls := Value.type "tuple", data := Data.seq #[Value.bool true] }),
  (1438, { cls := Value.type "code", data := Data.fields #[Value.str (Str.ofString "_dict_to_bson") 2262, Value.str (Str.ofString "_dict_to_bson") 2263, Value.str (Str.ofString "/claim/cut.py") 2264, Value.int 1011 0, Value.int 4 0, Value.int 0 0, Value.int 0 0, Value.int 3 0, Value.ref 1433, Value.bool true, Value.int 181 0, Value.ref 1434, Value.none, Value.ref 1435, Value.ref 1436, Value.ref 1437, Value.int 2274 0, Value.int 1011 0, Value.str (Str.ofString "/claim/cut.py") 2275] }),
  (1439, fobj F_dict_to_bson),
  (1440, { cls := Value.type "tuple", data := Data.seq #[Value.bool false, Value.ref 262] }),
  (1446, { cls := Value.type "code", data := Data.fields #[Value.str (Str.ofString "encode") 2277, Value.str (Str.ofString "encode") 2278, Value.str (Str.ofString "/claim/cut.py") 2279, Value.int 1025 0, Value.int 3 0, Value.int 0 0, Value.int 0 0, Value.int 3 0, Value.ref 1441, Value.bool true, Value.int 181 0, Value.ref 1442, Value.none, Value.ref 1443, Value.ref 1444, Value.ref 1445, Value.int 2283 0, Value.int 1025 0, Value.str (Str.ofString "/claim/cut.py") 2284] }),
  (1447, fobj Fencode),
  (1448, { cls := Value.type "tuple", data := Data.seq #[Value.none] }),
  (1454, { cls := Value.type "code", data := Data.fields #[Value.str (Str.ofString "decode") 2286, Value.str (Str.ofString "decode") 2287, Value.str (Str.ofString "/claim/cut.py") 2288, Value.int 1029 0, Value.int 2 0, Value.int 0 0, Value.int 0 0, Value.int 3 0, Value.ref 1449, Value.bool true, Value.int 181 0, Value.ref 1450, Value.none, Value.ref 1451, Value.ref 1452, Value.ref 1453, Value.int 2292 0, Value.int 1029 0, Value.str (Str.ofString "/claim/cut.py") 2293] }),
  (1455, fobj Fdecode),
  (1461, { cls := Value.type "code", data := Data.fields #[Value.str (Str.ofString "_decode_all") 2295, Value.str (Str.ofString "_decode_all") 2296, Value.str (Str.ofString "/claim/cut.py") 2297, Value.int 1034 0, Value.int 2 0, Value.int 0 0, Value.int 0 0, Value.int 3 0, Value.ref 1456, Value.bool true, Value.int 181 0, Value.ref 1457, Value.none, Value.ref 1458, Value.ref 1459, Value.ref 1460, Value.int 2307 0, Value.int 1034 0, Value.str (Str.ofString "/claim/cut.py") 2308] }),
  (1462, fobj F_decode_all),
  (1463, { cls := Value.type "tuple", data := Data.seq #[Value.none] }),
  (1469, { cls := Value.type "code", data := Data.fields #[Value.str (Str.ofString "decode_all") 2310, Value.str (Str.ofString "decode_all") 2311, Value.str (Str.ofString "/claim/cut.py") 2312, Value.int 1058 0, Value.int 2 0, Value.int 0 0, Value.int 0 0, Value.int 3 0, Value.ref 1464, Value.bool true, Value.int 181 0, Value.ref 1465, Value.none, Value.ref 1466, Value.ref 1467, Value.ref 1468, Value.int 2315 0, Value.int 1058 0, Value.str (Str.ofString "/claim/cut.py") 2316] }),
  (1470, fobj Fdecode_all),
  (1476, { cls := Value.type "code", data := Data.fields #[Value.str (Str.ofString "is_valid") 2318, Value.str (Str.ofString "is_valid") 2319, Value.str (Str.ofString "/claim/cut.py") 2320, Value.int 1064 0, Value.int 1 0, Value.int 0 0, Value.int 0 0, Value.int 3 0, Value.ref 1471, Value.bool true, Value.int 181 0, Value.ref 1472, Value.none, Value.ref 1473, Value.ref 1474, Value.ref 1475, Value.int 2322 0, Value.int 1064 0, Value.str (Str.ofString "/claim/cut.py") 2323] }),
  (1477, fobj Fis_valid),
  (1478, { cls := Value.type "list", data := Data.seq #[Value.int 12 2327, Value.int 11 2328, Value.int 6 2329, Value.int 31 2330, Value.int 8 2331, Value.int 100 2332, Value.int 10 2333, Value.int 7 2334] }),
  (1484, { cls := Value.type "code", data := Data.fields #[Value.str (Str.ofString "_law_leaf") 2336, Value.str (Str.ofString "_law_leaf") 2337, Value.str (Str.ofString "/claim/cut.py") 2338, Value.int 1074 0, Value.int 1 0, Value.int 0 0, Value.int 0 0, Value.int 3 0, Value.ref 1479, Value.bool true, Value.int 181 0, Value.ref 1480, Value.none, Value.ref 1481, Value.ref 1482, Value.ref 1483, Value.int 2346 0, Value.int 1074 0, Value.str (Str.ofString "/claim/cut.py") 2347] }),
  (1485, fobj F_law_leaf),
  (1489, { cls := Value.type "code", data := Data.fields #[Value.str (Str.ofString "_law_laid") 2349, Value.str (Str.ofString "_law_laid") 2350, Value.str (Str.ofString "/claim/cut.py") 2351, Value.int 1082 0, Value.int 2 0, Value.int 0 0, Value.int 0 0, Value.int 3 0, Value.ref 1486, Value.bool true, Value.int 181 0, Value.ref 1487, Value.none, Value.none, Value.none, Value.ref 1488, Value.int 2352 0, Value.int 1082 0, Value.str (Str.ofString "/claim/cut.py") 2353] }),
  (1490, fobj F_law_laid),
  (1494, { cls := Value.type "code", data := Data.fields #[Value.str (Str.ofString "_law_wrapped") 2355, Value.str (Str.ofString "_law_wrapped") 2356, Value.str (Str.ofString "/claim/cut.py") 2357, Value.int 1092 0, Value.int 2 0, Value.int 0 0, Value.int 0 0, Value.int 3 0, Value.ref 1491, Value.bool true, Value.int 181 0, Value.ref 1492, Value.none, Value.none, Value.none, Value.ref 1493, Value.int 2358 0, Value.int 1092 0, Value.str (Str.ofString "/claim/cut.py") 2359] }),
  (1495, fobj F_law_wrapped),
  (1499, { cls := Value.type "code", data := Data.fields #[Value.str (Str.ofString "_law_all") 2361, Value.str (Str.ofString "_law_all") 2362, Value.str (Str.ofString "/claim/cut.py") 2363, Value.int 1101 0, Value.int 1 0, Value.int 0 0, Value.int 0 0, Value.int 3 0, Value.ref 1496, Value.bool true, Value.int 181 0, Value.ref 1497, Value.none, Value.none, Value.none, Value.ref 1498, Value.int 2364 0, Value.int 1101 0, Value.str (Str.ofString "/claim/cut.py") 2365] }),
  (1500, fobj F_law_all),
  (1504, { cls := Value.type "code", data := Data.fields #[Value.str (Str.ofString "law") 2367, Value.str (Str.ofString "law") 2368, Value.str (Str.ofString "/claim/cut.py") 2369, Value.int 1106 0, Value.int 1 0, Value.int 0 0, Value.int 0 0, Value.int 3 0, Value.ref 1501, Value.bool true, Value.int 181 0, Value.ref 1502, Value.none, Value.none, Value.none, Value.ref 1503, Value.int 2370 0, Value.int 1106 0, Value.str (Str.ofString "/claim/cut.py") 2371] }),
  (1505, fobj Flaw)]
def kAddrs : List Addr := [45, 46, 151, 152, 164, 170, 171, 177, 178, 179, 185, 186, 195, 196, 255, 256, 261, 262, 333, 334, 655, 656, 1027, 1028, 1034, 1035, 1062, 1063, 1069, 1070, 1076, 1077, 1083, 1084, 1090, 1091, 1097, 1098, 1104, 1105, 1111, 1112, 1118, 1119, 1125, 1126, 1132, 1133, 1153, 1154, 1167, 1168, 1174, 1175, 1216, 1217, 1223, 1224, 1230, 1231, 1237, 1238, 1244, 1245, 1279, 1280, 1286, 1287, 1298, 1299, 1310, 1311, 1317, 1318, 1345, 1346, 1359, 1360, 1373, 1374, 1380, 1381, 1417, 1423, 1424, 1430, 1431, 1432, 1438, 1439, 1440, 1446, 1447, 1448, 1454, 1455, 1461, 1462, 1463, 1469, 1470, 1476, 1477, 1478, 1484, 1485, 1489, 1490, 1494, 1495, 1499, 1500, 1504, 1505]
def glTab : List (Str × Value) := [(Str.ofString "_unpack", Value.ref 1028), (Str.ofString "_UNPACK_INT_FROM", Value.ref 1035), (Str.ofString "_utf_8_decode", Value.ref 1063), (Str.ofString "_utf_8_encode", Value.ref 1070), (Str.ofString "_index_nul", Value.ref 1077), (Str.ofString "get_data_and_view", Value.ref 1084), (Str.ofString "_raise_unknown_type", Value.ref 1091), (Str.ofString "_get_int", Value.ref 1098), (Str.ofString "_get_c_string", Value.ref 1105), (Str.ofString "_get_string", Value.ref 1112), (Str.ofString "_get_object_size", Value.ref 1119), (Str.ofString "_get_object", Value.ref 1126), (Str.ofString "_get_array", Value.ref 1133), (Str.ofString "_get_boolean", Value.ref 1154), (Str.ofString "_get_code", Value.ref 1168), (Str.ofString "_get_code_w_scope", Value.ref 1175), (Str.ofString "_get_element", Value.ref 1217), (Str.ofString "_element_to_dict", Value.ref 1224), (Str.ofString "_elements_to_dict", Value.ref 1231), (Str.ofString "_bson_to_dict", Value.ref 1238), (Str.ofString "_PACK_INT", Value.ref 1245), (Str.ofString "_make_c_string", Value.ref 1280), (Str.ofString "_make_name", Value.ref 1287), (Str.ofString "_encode_mapping", Value.ref 1299), (Str.ofString "_encode_list", Value.ref 1311), (Str.ofString "_encode_text", Value.ref 1318), (Str.ofString "_encode_bool", Value.ref 1346), (Str.ofString "_encode_none", Value.ref 1360), (Str.ofString "_encode_code", Value.ref 1374), (Str.ofString "_encode_int", Value.ref 1381), (Str.ofString "_name_value_to_bson", Value.ref 1424), (Str.ofString "_element_to_bson", Value.ref 1431), (Str.ofString "_dict_to_bson", Value.ref 1439), (Str.ofString "encode", Value.ref 1447), (Str.ofString "decode", Value.ref 1455), (Str.ofString "_decode_all", Value.ref 1462), (Str.ofString "decode_all", Value.ref 1470), (Str.ofString "is_valid", Value.ref 1477), (Str.ofString "_law_leaf", Value.ref 1485), (Str.ofString "_law_laid", Value.ref 1490), (Str.ofString "_law_wrapped", Value.ref 1495), (Str.ofString "_law_all", Value.ref 1500), (Str.ofString "law", Value.ref 1505), (Str.ofString "UUID", Value.ref 46), (Str.ofString "Binary", Value.ref 152), (Str.ofString "Code", Value.ref 196), (Str.ofString "CodecOptions", Value.ref 256), (Str.ofString "DatetimeMS", Value.ref 334), (Str.ofString "Int64", Value.ref 656), (Str.ofString "InvalidBSON", Value.ref 576), (Str.ofString "InvalidDocument", Value.ref 618), (Str.ofString "DEFAULT_CODEC_OPTIONS", Value.ref 262), (Str.ofString "_law_rest", Value.ref 1478), (Str.ofString "len", Value.builtin "len"), (Str.ofString "str", Value.type "str"), (Str.ofString "bytes", Value.type "bytes"), (Str.ofString "isinstance", Value.builtin "isinstance"), (Str.ofString "range", Value.type "range"), (Str.ofString "enumerate", Value.type "enumerate"), (Str.ofString "int", Value.type "int"), (Str.ofString "bool", Value.type "bool"), (Str.ofString "dict", Value.type "dict"), (Str.ofString "list", Value.type "list"), (Str.ofString "tuple", Value.type "tuple"), (Str.ofString "Exception", Value.type "Exception"), (Str.ofString "ValueError", Value.type "ValueError"), (Str.ofString "KeyError", Value.type "KeyError"), (Str.ofString "TypeError", Value.type "TypeError"), (Str.ofString "OverflowError", Value.type "OverflowError")]
def glF (x : Str) : Option Value := glTab.lookup x
theorem gl_all : glTab.map (fun p => glF p.1) = glTab.map fun p => some p.2 := by kernel_rfl
theorem gl_at (i : Nat) {x : Str} {v : Value} (h : glTab[i]? = some (x, v)) : glF x = some v := List.map_inj_left.mp gl_all (x, v) (List.mem_of_getElem? h)
theorem gl__unpack : glF "_unpack" = some (Value.ref 1028) := gl_at 0 rfl
theorem gl__UNPACK_INT_FROM : glF "_UNPACK_INT_FROM" = some (Value.ref 1035) := gl_at 1 rfl
theorem gl__utf_8_decode : glF "_utf_8_decode" = some (Value.ref 1063) := gl_at 2 rfl
theorem gl__utf_8_encode : glF "_utf_8_encode" = some (Value.ref 1070) := gl_at 3 rfl
theorem gl__index_nul : glF "_index_nul" = some (Value.ref 1077) := gl_at 4 rfl
theorem gl_get_data_and_view : glF "get_data_and_view" = some (Value.ref 1084) := gl_at 5 rfl
theorem gl__raise_unknown_type : glF "_raise_unknown_type" = some (Value.ref 1091) := gl_at 6 rfl
theorem gl__get_int : glF "_get_int" = some (Value.ref 1098) := gl_at 7 rfl
theorem gl__get_c_string : glF "_get_c_string" = some (Value.ref 1105) := gl_at 8 rfl
theorem gl__get_string : glF "_get_string" = some (Value.ref 1112) := gl_at 9 rfl
theorem gl__get_object_size : glF "_get_object_size" = some (Value.ref 1119) := gl_at 10 rfl
theorem gl__get_object : glF "_get_object" = some (Value.ref 1126) := gl_at 11 rfl
theorem gl__get_array : glF "_get_array" = some (Value.ref 1133) := gl_at 12 rfl
theorem gl__get_boolean : glF "_get_boolean" = some (Value.ref 1154) := gl_at 13 rfl
theorem gl__get_code : glF "_get_code" = some (Value.ref 1168) := gl_at 14 rfl
theorem gl__get_code_w_scope : glF "_get_code_w_scope" = some (Value.ref 1175) := gl_at 15 rfl
theorem gl__get_element : glF "_get_element" = some (Value.ref 1217) := gl_at 16 rfl
theorem gl__element_to_dict : glF "_element_to_dict" = some (Value.ref 1224) := gl_at 17 rfl
theorem gl__elements_to_dict : glF "_elements_to_dict" = some (Value.ref 1231) := gl_at 18 rfl
theorem gl__bson_to_dict : glF "_bson_to_dict" = some (Value.ref 1238) := gl_at 19 rfl
theorem gl__PACK_INT : glF "_PACK_INT" = some (Value.ref 1245) := gl_at 20 rfl
theorem gl__make_c_string : glF "_make_c_string" = some (Value.ref 1280) := gl_at 21 rfl
theorem gl__make_name : glF "_make_name" = some (Value.ref 1287) := gl_at 22 rfl
theorem gl__encode_mapping : glF "_encode_mapping" = some (Value.ref 1299) := gl_at 23 rfl
theorem gl__encode_list : glF "_encode_list" = some (Value.ref 1311) := gl_at 24 rfl
theorem gl__encode_text : glF "_encode_text" = some (Value.ref 1318) := gl_at 25 rfl
theorem gl__encode_bool : glF "_encode_bool" = some (Value.ref 1346) := gl_at 26 rfl
theorem gl__encode_none : glF "_encode_none" = some (Value.ref 1360) := gl_at 27 rfl
theorem gl__encode_code : glF "_encode_code" = some (Value.ref 1374) := gl_at 28 rfl
theorem gl__encode_int : glF "_encode_int" = some (Value.ref 1381) := gl_at 29 rfl
theorem gl__name_value_to_bson : glF "_name_value_to_bson" = some (Value.ref 1424) := gl_at 30 rfl
theorem gl__element_to_bson : glF "_element_to_bson" = some (Value.ref 1431) := gl_at 31 rfl
theorem gl__dict_to_bson : glF "_dict_to_bson" = some (Value.ref 1439) := gl_at 32 rfl
theorem gl_encode : glF "encode" = some (Value.ref 1447) := gl_at 33 rfl
theorem gl_decode : glF "decode" = some (Value.ref 1455) := gl_at 34 rfl
theorem gl__decode_all : glF "_decode_all" = some (Value.ref 1462) := gl_at 35 rfl
theorem gl_decode_all : glF "decode_all" = some (Value.ref 1470) := gl_at 36 rfl
theorem gl_is_valid : glF "is_valid" = some (Value.ref 1477) := gl_at 37 rfl
theorem gl__law_leaf : glF "_law_leaf" = some (Value.ref 1485) := gl_at 38 rfl
theorem gl__law_laid : glF "_law_laid" = some (Value.ref 1490) := gl_at 39 rfl
theorem gl__law_wrapped : glF "_law_wrapped" = some (Value.ref 1495) := gl_at 40 rfl
theorem gl__law_all : glF "_law_all" = some (Value.ref 1500) := gl_at 41 rfl
theorem gl_law : glF "law" = some (Value.ref 1505) := gl_at 42 rfl
theorem gl_UUID : glF "UUID" = some (Value.ref 46) := gl_at 43 rfl
theorem gl_Binary : glF "Binary" = some (Value.ref 152) := gl_at 44 rfl
theorem gl_Code : glF "Code" = some (Value.ref 196) := gl_at 45 rfl
theorem gl_CodecOptions : glF "CodecOptions" = some (Value.ref 256) := gl_at 46 rfl
theorem gl_DatetimeMS : glF "DatetimeMS" = some (Value.ref 334) := gl_at 47 rfl
theorem gl_Int64 : glF "Int64" = some (Value.ref 656) := gl_at 48 rfl
theorem gl_InvalidBSON : glF "InvalidBSON" = some (Value.ref 576) := gl_at 49 rfl
theorem gl_InvalidDocument : glF "InvalidDocument" = some (Value.ref 618) := gl_at 50 rfl
theorem gl_DEFAULT_CODEC_OPTIONS : glF "DEFAULT_CODEC_OPTIONS" = some (Value.ref 262) := gl_at 51 rfl
theorem gl__law_rest : glF "_law_rest" = some (Value.ref 1478) := gl_at 52 rfl
theorem gl_len : glF "len" = some (Value.builtin "len") := gl_at 53 rfl
theorem gl_str : glF "str" = some (Value.type "str") := gl_at 54 rfl
theorem gl_bytes : glF "bytes" = some (Value.type "bytes") := gl_at 55 rfl
theorem gl_isinstance : glF "isinstance" = some (Value.builtin "isinstance") := gl_at 56 rfl
theorem gl_range : glF "range" = some (Value.type "range") := gl_at 57 rfl
theorem gl_enumerate : glF "enumerate" = some (Value.type "enumerate") := gl_at 58 rfl
theorem gl_int : glF "int" = some (Value.type "int") := gl_at 59 rfl
theorem gl_bool : glF "bool" = some (Value.type "bool") := gl_at 60 rfl
theorem gl_dict : glF "dict" = some (Value.type "dict") := gl_at 61 rfl
theorem gl_list : glF "list" = some (Value.type "list") := gl_at 62 rfl
theorem gl_tuple : glF "tuple" = some (Value.type "tuple") := gl_at 63 rfl
theorem gl_Exception : glF "Exception" = some (Value.type "Exception") := gl_at 64 rfl
theorem gl_ValueError : glF "ValueError" = some (Value.type "ValueError") := gl_at 65 rfl
theorem gl_KeyError : glF "KeyError" = some (Value.type "KeyError") := gl_at 66 rfl
theorem gl_TypeError : glF "TypeError" = some (Value.type "TypeError") := gl_at 67 rfl
theorem gl_OverflowError : glF "OverflowError" = some (Value.type "OverflowError") := gl_at 68 rfl
theorem kF_Code___init__ (P : Params) : (K P).lookup 171 = some (fobj F_Code___init__) := by kernel_rfl
theorem kF_Code_scope (P : Params) : (K P).lookup 178 = some (fobj F_Code_scope) := by kernel_rfl
theorem kF_Code___eq__ (P : Params) : (K P).lookup 186 = some (fobj F_Code___eq__) := by kernel_rfl
theorem kF_unpack (P : Params) : (K P).lookup 1028 = some (fobj F_unpack) := by kernel_rfl
theorem kF_UNPACK_INT_FROM (P : Params) : (K P).lookup 1035 = some (fobj F_UNPACK_INT_FROM) := by kernel_rfl
theorem kF_utf_8_decode (P : Params) : (K P).lookup 1063 = some (fobj F_utf_8_decode) := by kernel_rfl
theorem kF_utf_8_encode (P : Params) : (K P).lookup 1070 = some (fobj F_utf_8_encode) := by kernel_rfl
theorem kF_index_nul (P : Params) : (K P).lookup 1077 = some (fobj F_index_nul) := by kernel_rfl
theorem kFget_data_and_view (P : Params) : (K P).lookup 1084 = some (fobj Fget_data_and_view) := by kernel_rfl
theorem kF_raise_unknown_type (P : Params) : (K P).lookup 1091 = some (fobj F_raise_unknown_type) := by kernel_rfl
theorem kF_get_int (P : Params) : (K P).lookup 1098 = some (fobj F_get_int) := by kernel_rfl
theorem kF_get_c_string (P : Params) : (K P).lookup 1105 = some (fobj F_get_c_string) := by kernel_rfl
theorem kF_get_string (P : Params) : (K P).lookup 1112 = some (fobj F_get_string) := by kernel_rfl
theorem kF_get_object_size (P : Params) : (K P).lookup 1119 = some (fobj F_get_object_size) := by kernel_rfl
theorem kF_get_object (P : Params) : (K P).lookup 1126 = some (fobj F_get_object) := by kernel_rfl
theorem kF_get_array (P : Params) : (K P).lookup 1133 = some (fobj F_get_array) := by kernel_rfl
theorem kF_get_boolean (P : Params) : (K P).lookup 1154 = some (fobj F_get_boolean) := by kernel_rfl
theorem kF_get_code (P : Params) : (K P).lookup 1168 = some (fobj F_get_code) := by kernel_rfl
theorem kF_get_code_w_scope (P : Params) : (K P).lookup 1175 = some (fobj F_get_code_w_scope) := by kernel_rfl
theorem kF_get_element (P : Params) : (K P).lookup 1217 = some (fobj F_get_element) := by kernel_rfl
theorem kF_element_to_dict (P : Params) : (K P).lookup 1224 = some (fobj F_element_to_dict) := by kernel_rfl
theorem kF_elements_to_dict (P : Params) : (K P).lookup 1231 = some (fobj F_elements_to_dict) := by kernel_rfl
theorem kF_bson_to_dict (P : Params) : (K P).lookup 1238 = some (fobj F_bson_to_dict) := by kernel_rfl
theorem kF_PACK_INT (P : Params) : (K P).lookup 1245 = some (fobj F_PACK_INT) := by kernel_rfl
theorem kF_make_c_string (P : Params) : (K P).lookup 1280 = some (fobj F_make_c_string) := by kernel_rfl
theorem kF_make_name (P : Params) : (K P).lookup 1287 = some (fobj F_make_name) := by kernel_rfl
theorem kF_encode_mapping (P : Params) : (K P).lookup 1299 = some (fobj F_encode_mapping) := by kernel_rfl
theorem kF_encode_list (P : Params) : (K P).lookup 1311 = some (fobj F_encode_list) := by kernel_rfl
theorem kF_encode_text (P : Params) : (K P).lookup 1318 = some (fobj F_encode_text) := by kernel_rfl
theorem kF_encode_bool (P : Params) : (K P).lookup 1346 = some (fobj F_encode_bool) := by kernel_rfl
theorem kF_encode_none (P : Params) : (K P).lookup 1360 = some (fobj F_encode_none) := by kernel_rfl
theorem kF_encode_code (P : Params) : (K P).lookup 1374 = some (fobj F_encode_code) := by kernel_rfl
theorem kF_encode_int (P : Params) : (K P).lookup 1381 = some (fobj F_encode_int) := by kernel_rfl
theorem kF_name_value_to_bson (P : Params) : (K P).lookup 1424 = some (fobj F_name_value_to_bson) := by kernel_rfl
theorem kF_element_to_bson (P : Params) : (K P).lookup 1431 = some (fobj F_element_to_bson) := by kernel_rfl
theorem kF_dict_to_bson (P : Params) : (K P).lookup 1439 = some (fobj F_dict_to_bson) := by kernel_rfl
theorem kFencode (P : Params) : (K P).lookup 1447 = some (fobj Fencode) := by kernel_rfl
theorem kFdecode (P : Params) : (K P).lookup 1455 = some (fobj Fdecode) := by kernel_rfl
theorem kF_decode_all (P : Params) : (K P).lookup 1462 = some (fobj F_decode_all) := by kernel_rfl
theorem kFdecode_all (P : Params) : (K P).lookup 1470 = some (fobj Fdecode_all) := by kernel_rfl
theorem kFis_valid (P : Params) : (K P).lookup 1477 = some (fobj Fis_valid) := by kernel_rfl
theorem kF_law_leaf (P : Params) : (K P).lookup 1485 = some (fobj F_law_leaf) := by kernel_rfl
theorem kF_law_laid (P : Params) : (K P).lookup 1490 = some (fobj F_law_laid) := by kernel_rfl
theorem kF_law_wrapped (P : Params) : (K P).lookup 1495 = some (fobj F_law_wrapped) := by kernel_rfl
theorem kF_law_all (P : Params) : (K P).lookup 1500 = some (fobj F_law_all) := by kernel_rfl
theorem kFlaw (P : Params) : (K P).lookup 1505 = some (fobj Flaw) := by kernel_rfl
end Mine
end
section
namespace Mine
/-! what is looked up behind the top -/
def lookN (mg mb : Str → Option Value) (p : Str × Value) : Option Value × Option Value := match p.2 with
  | .ref _ => (mg p.1, none)
  | _ => (mg p.1, mb p.1)
def saidN (p : Str × Value) : Option Value × Option Value := match p.2 with
  | .ref _ => (some p.2, none)
  | _ => (none, some p.2)
structure SaysM (w : World) (h : Heap) : Prop where
  frag : (K w.params).In h
  names : ∃ mg mb, h.Ns mainGlobals mg ∧ h.Ns builtinsNs mb ∧ ∀ x v, glF x = some v → mg x = some v ∨ (mg x = none ∧ mb x = some v)
  sys : ∃ o, h.get? sysModules = some o
theorem glF_mem {x : Str} {v : Value} (h : glF x = some v) : (x, v) ∈ glTab := by
  unfold glF at h
  revert h
  induction glTab with
  | nil => intro h; cases h
  | cons p r ih =>
    intro h
    rw [List.lookup_cons] at h
    cases e : x == p.1 with
    | true =>
      rw [e] at h
      cases h
      rw [show x = p.1 from eq_of_beq e]
      exact .head _
    | false => rw [e] at h; exact .tail _ (ih h)
def myHook : Hook where
  α := List (Option Obj) × List (Option Value × Option Value) × Bool
  obs s := (kAddrs.map s.heap.get?, glTab.map (lookN (s.heap.nsMap mainGlobals) (s.heap.nsMap builtinsNs)), s.heap.isNs mainGlobals && s.heap.isNs builtinsNs && (s.heap.get? sysModules).isSome)
  val w := ((K w.params).map fun p => some p.2, glTab.map saidN, true)
  says := SaysM
  of := fun w s e => by
    obtain ⟨e1, e2⟩ := Prod.mk.inj e
    obtain ⟨e2, e3⟩ := Prod.mk.inj e2
    simp only [Bool.and_eq_true] at e3
    obtain ⟨⟨a, b⟩, c⟩ := e3
    refine ⟨InK.of (K := K) (as := kAddrs) (fun _ => by kernel_rfl) w s e1, ⟨_, _, .of_isNs a, .of_isNs b, fun x v h => ?_⟩, Option.isSome_iff_exists.mp c⟩
    have := List.map_inj_left.mp e2 _ (glF_mem h)
    unfold lookN saidN at this
    dsimp only at this
    cases v <;> dsimp only at this <;> obtain ⟨u1, u2⟩ := Prod.mk.inj this <;> first | exact .inl u1 | exact .inr ⟨u1, u2⟩
  keeps := fun w h h' x k => ⟨InK.keeps (K := K) w h h' x.frag k, let ⟨mg, mb, a, b, c⟩ := x.names; ⟨mg, mb, a.keeps k, b.keeps k, c⟩, let ⟨o, e⟩ := x.sys; ⟨o, k _ _ e⟩⟩
end Mine
end

namespace Mine.Top
/-! names that are taken ahead: o_head's quick twins of its own trees (for each tree a proof of quadratic size, together a compiled file of 1 GB) are then not laid; the kernel reads the trees as they are -/
theorem head_of.tw1616588963408604256 : True := trivial
theorem head_of.tw9858793757385026594 : True := trivial
theorem head_of.tw4023686146388102116 : True := trivial
theorem head_of.tw13212550617025176293 : True := trivial
theorem head_of.tw17239176090874587494 : True := trivial
theorem head_of.tw3904989271125247430 : True := trivial
theorem head_of.tw10699023918456085383 : True := trivial
theorem head_of.tw3264840201165493159 : True := trivial
theorem head_of.tw12365901039534527336 : True := trivial
theorem head_of.tw9519735399091373418 : True := trivial
theorem head_of.tw5356741393291741802 : True := trivial
theorem head_of.tw3887669807397883084 : True := trivial
theorem head_of.tw7540208064460487789 : True := trivial
theorem head_of.tw7596081241172813293 : True := trivial
theorem head_of.tw12398233065992077837 : True := trivial
theorem head_of.tw3202909483345334831 : True := trivial
theorem head_of.tw9330816013134775056 : True := trivial
theorem head_of.tw3412965047762904273 : True := trivial
theorem head_of.tw6328087526507941201 : True := trivial
theorem head_of.tw455688355944794642 : True := trivial
theorem head_of.tw12139206871303481427 : True := trivial
theorem head_of.tw1315298154900042900 : True := trivial
theorem head_of.tw6428212618970894548 : True := trivial
theorem head_of.tw4666890196365073044 : True := trivial
theorem head_of.tw12028462453604322774 : True := trivial
theorem head_of.tw8792511479636846871 : True := trivial
theorem head_of.tw17183039340564894199 : True := trivial
theorem head_of.tw4193444831972957112 : True := trivial
theorem head_of.tw9916318054523847929 : True := trivial
theorem head_of.tw9745535930120828602 : True := trivial
theorem head_of.tw1345721487497591803 : True := trivial
theorem head_of.tw13372531257720138844 : True := trivial
theorem head_of.tw16295834841153136828 : True := trivial
theorem head_of.tw17368708191306358108 : True := trivial
theorem head_of.tw11550386457203972349 : True := trivial
theorem head_of.tw1258399803586630110 : True := trivial
theorem head_of.tw3444347076882560959 : True := trivial
theorem head_of.tw14236252917029610381 : True := trivial
theorem head_of.tw8169253755648387648 : True := trivial
theorem head_of.tw8595267018842490523 : True := trivial
theorem head_of.tw7084677047384176645 : True := trivial
theorem head_of.tw15214413647051112488 : True := trivial
theorem head_of.tw9803720009538644647 : True := trivial
theorem head_of.tw3895697419856936451 : True := trivial
theorem head_of.tw7917817849067654548 : True := trivial
theorem head_of.tw14390322838308506038 : True := trivial
theorem head_of.tw9381201401228784918 : True := trivial
theorem head_of.tw5783518631589608295 : True := trivial
theorem head_of.tw11321542502980913606 : True := trivial
theorem head_of.tw16893782504200193648 : True := trivial
theorem head_of.tw12847901926704561589 : True := trivial
theorem head_of.tw6356661874650396803 : True := trivial
theorem head_of.tw1512688686361693667 : True := trivial
theorem head_of.tw719864436929971510 : True := trivial
theorem head_of.tw7925899250270756520 : True := trivial
theorem head_of.tw14726181271574507646 : True := trivial
theorem head_of.tw1268687224867570975 : True := trivial
theorem head_of.tw17737928333109211491 : True := trivial
theorem head_of.tw4693006336214566997 : True := trivial
theorem head_of.tw4685333911265252266 : True := trivial
theorem head_of.tw7124763627560906665 : True := trivial
theorem head_of.tw18204911955916922647 : True := trivial
theorem head_of.tw14874343359488917234 : True := trivial
theorem head_of.tw1815522816637172854 : True := trivial
theorem head_of.tw16604443827938895424 : True := trivial
theorem head_of.tw15410318323918276108 : True := trivial
theorem head_of.tw14344098884150858480 : True := trivial
theorem head_of.tw8443995012994618190 : True := trivial
theorem head_of.tw12461329432983826760 : True := trivial
theorem head_of.tw17969982843800739930 : True := trivial
theorem head_of.tw447889297153311948 : True := trivial
theorem head_of.tw16907565202043855373 : True := trivial
theorem head_of.tw7977600521071123271 : True := trivial
theorem head_of.tw15423798483985144904 : True := trivial
theorem head_of.tw17648497907871814556 : True := trivial
theorem head_of.tw15641315754548784955 : True := trivial
theorem head_of.tw8853099537970155592 : True := trivial
theorem head_of.tw12195330403209426333 : True := trivial
theorem head_of.tw4840554218139211337 : True := trivial
theorem head_of.tw6277733810548871645 : True := trivial
theorem head_of.tw13190289671209449218 : True := trivial
theorem head_of.tw15487739911612896683 : True := trivial
theorem head_of.tw2860526261070849961 : True := trivial
theorem head_of.tw3987193554576357640 : True := trivial
theorem head_of.tw16067917541029509863 : True := trivial
theorem head_of.tw10713853059570722040 : True := trivial
theorem head_of.tw10830023526070186103 : True := trivial
theorem head_of.tw12499622573959037331 : True := trivial
theorem head_of.tw12363279857064282220 : True := trivial
theorem head_of.tw9221382262368938528 : True := trivial
theorem head_of.tw6373933455836375508 : True := trivial
theorem head_of.tw17743784739641574645 : True := trivial
theorem head_of.tw18117103286269846266 : True := trivial
theorem head_of.tw4511543714966328232 : True := trivial
theorem head_of.tw14702724470833520594 : True := trivial
theorem head_of.tw14225137139140771856 : True := trivial
theorem head_of.tw10679198589709873348 : True := trivial
theorem head_of.tw4107816702133600831 : True := trivial
theorem head_of.tw6126568256139035960 : True := trivial
theorem head_of.tw5036872645831517160 : True := trivial
theorem head_of.tw13316364975907929547 : True := trivial
theorem head_of.tw7523324417219568982 : True := trivial
theorem head_of.tw8859363951151045739 : True := trivial
theorem head_of.tw8435386487945333142 : True := trivial
theorem head_of.tw4720072335548167136 : True := trivial
theorem head_of.tw13377655257794531555 : True := trivial
theorem head_of.tw6030841868295930902 : True := trivial
theorem head_of.tw11892110263756551470 : True := trivial
theorem head_of.tw8561019874529417901 : True := trivial
theorem head_of.tw13451956119481734776 : True := trivial
theorem head_of.tw12486060429532971810 : True := trivial
theorem head_of.tw7478783622368512337 : True := trivial
theorem head_of.tw5193573909996795974 : True := trivial
theorem head_of.tw6937730724447842037 : True := trivial
theorem head_of.tw10513646125265171751 : True := trivial
theorem head_of.tw6119867720076891807 : True := trivial
theorem head_of.tw11914730792668187572 : True := trivial
theorem head_of.tw16224132437345646766 : True := trivial
theorem head_of.tw2599169441938088332 : True := trivial
theorem head_of.tw15343881603135436110 : True := trivial
theorem head_of.tw5528306672631126059 : True := trivial
theorem head_of.tw15927326028918095696 : True := trivial
theorem head_of.tw11772822454333891820 : True := trivial
theorem head_of.tw11233496828935003432 : True := trivial
theorem head_of.tw8998967990322555542 : True := trivial
theorem head_of.tw2113841305590381763 : True := trivial
theorem head_of.tw17245043781774371346 : True := trivial
theorem head_of.tw13684513105524836846 : True := trivial
theorem head_of.tw11973891238100394730 : True := trivial
theorem head_of.tw13994290713012360216 : True := trivial
theorem head_of.tw3481714104983369713 : True := trivial
theorem head_of.tw13524004147142808585 : True := trivial
theorem head_of.tw17585406083063519610 : True := trivial
theorem head_of.tw17212293757286661486 : True := trivial
theorem head_of.tw219697517664933021 : True := trivial
theorem head_of.tw3288405331286224408 : True := trivial
theorem head_of.tw8021927681533335611 : True := trivial
theorem head_of.tw10720286761608649271 : True := trivial
theorem head_of.tw9844020022793865191 : True := trivial
theorem head_of.tw9622814470251462793 : True := trivial
theorem head_of.tw5231660684384327145 : True := trivial
theorem head_of.tw5015755504415396371 : True := trivial
theorem head_of.tw468213790693278502 : True := trivial
theorem head_of.tw15893547355282816198 : True := trivial
theorem head_of.tw18206040765258587703 : True := trivial
theorem head_of.tw10283613279897071263 : True := trivial
theorem head_of.tw5649055397494926523 : True := trivial
theorem head_of.tw14942302871983718744 : True := trivial
theorem head_of.tw13143088119022294791 : True := trivial
theorem head_of.tw1841813772257675821 : True := trivial
theorem head_of.tw9813490470516800054 : True := trivial
theorem head_of.tw10776578434029071465 : True := trivial
theorem head_of.tw6015869842507901844 : True := trivial
theorem head_of.tw2108454947867409005 : True := trivial
theorem head_of.tw11539074268320398762 : True := trivial
theorem head_of.tw2659678826255656910 : True := trivial
theorem head_of.tw3546628311465903582 : True := trivial
theorem head_of.tw15376632357584532570 : True := trivial
theorem head_of.tw7397388850954534833 : True := trivial
theorem head_of.tw18218044360298151188 : True := trivial
theorem head_of.tw17452957645081247179 : True := trivial
theorem head_of.tw10865620253319286688 : True := trivial
theorem head_of.tw3747872111031758111 : True := trivial
theorem head_of.tw16909922825448904431 : True := trivial
theorem head_of.tw3956064156895684614 : True := trivial
theorem head_of.tw15039344723112290194 : True := trivial
theorem head_of.tw8632111121910454529 : True := trivial
theorem head_of.tw12773814111790124271 : True := trivial
theorem head_of.tw9504806321483740063 : True := trivial
theorem head_of.tw7601454271249669416 : True := trivial
theorem head_of.tw12435419616307954368 : True := trivial
theorem head_of.tw10876612209232331465 : True := trivial
theorem head_of.tw4400580605158058019 : True := trivial
theorem head_of.tw7232225946136378161 : True := trivial
theorem head_of.tw11405777946577297924 : True := trivial
theorem head_of.tw5860937479434708451 : True := trivial
theorem head_of.tw11020905375827856243 : True := trivial
theorem head_of.tw11284472704439273685 : True := trivial
theorem head_of.tw3093944954397682474 : True := trivial
theorem head_of.tw17917652310629781524 : True := trivial
theorem head_of.tw819884855941757748 : True := trivial
theorem head_of.tw743728892307402469 : True := trivial
theorem head_of.tw9978270636000378808 : True := trivial
theorem head_of.tw12391212805493915182 : True := trivial
theorem head_of.tw5500311834383615681 : True := trivial
theorem head_of.tw6417738773633706455 : True := trivial
theorem head_of.tw13675536741553266718 : True := trivial
theorem head_of.tw9594062473593303088 : True := trivial
theorem head_of.tw13964992272518920490 : True := trivial
theorem head_of.tw7929639234627052281 : True := trivial
theorem head_of.tw5538533744841903292 : True := trivial
theorem head_of.tw2390355499140549426 : True := trivial
theorem head_of.tw8236207841644427398 : True := trivial
theorem head_of.tw5764287813480457500 : True := trivial
theorem head_of.tw15003893706681681228 : True := trivial
theorem head_of.tw502072467045247087 : True := trivial
theorem head_of.tw5873271502099735831 : True := trivial
theorem head_of.tw2701839710065242222 : True := trivial
theorem head_of.tw8133270490138266740 : True := trivial
theorem head_of.tw1611471746329783714 : True := trivial
theorem head_of.tw16273179110259511085 : True := trivial
theorem head_of.tw18163389869463703642 : True := trivial
theorem head_of.tw905032882516893437 : True := trivial
theorem head_of.tw3262344679177352921 : True := trivial
theorem head_of.tw10285688050558303267 : True := trivial
theorem head_of.tw14969003233617295477 : True := trivial
theorem head_of.tw12450250867208667469 : True := trivial
theorem head_of.tw34954967825939031 : True := trivial
theorem head_of.tw10041147850441630818 : True := trivial
theorem head_of.tw8184111362774830377 : True := trivial
theorem head_of.tw3462906971691992633 : True := trivial
theorem head_of.tw15306894434255405820 : True := trivial
theorem head_of.tw10734782084580200021 : True := trivial
theorem head_of.tw12839648791510672276 : True := trivial
theorem head_of.tw4668873373145121793 : True := trivial
theorem head_of.tw5903877670185530182 : True := trivial
theorem head_of.tw10408812589900544887 : True := trivial
theorem head_of.tw5142166464631845459 : True := trivial
theorem head_of.tw15577275962601635638 : True := trivial
theorem head_of.tw17012746157842506552 : True := trivial
theorem head_of.tw18317039538872484963 : True := trivial
theorem head_of.tw16202817964939170468 : True := trivial
theorem head_of.tw3998061090596392394 : True := trivial
theorem head_of.tw15337214233591406225 : True := trivial
theorem head_of.tw16320448041854818691 : True := trivial
theorem head_of.tw9504598051692383621 : True := trivial
theorem head_of.tw11532950515573781500 : True := trivial
theorem head_of.tw15905914514544370183 : True := trivial
theorem head_of.tw8601607719505828009 : True := trivial
theorem head_of.tw14748987191966089474 : True := trivial
theorem head_of.tw7736848682619659279 : True := trivial
theorem head_of.tw2658478202826443787 : True := trivial
theorem head_of.tw14898599548811719407 : True := trivial
theorem head_of.tw9712139838032949464 : True := trivial
theorem head_of.tw16692735892047104619 : True := trivial
theorem head_of.tw9591386076717117113 : True := trivial
theorem head_of.tw10998914448572300179 : True := trivial
theorem head_of.tw10854507105683417000 : True := trivial
theorem head_of.tw1283698754731375897 : True := trivial
theorem head_of.tw8510556185941557063 : True := trivial
theorem head_of.tw15272645140666221854 : True := trivial
theorem head_of.tw17300982603329801894 : True := trivial
theorem head_of.tw10401889556211969433 : True := trivial
theorem head_of.tw7179196287433252539 : True := trivial
theorem head_of.tw4066980751651875147 : True := trivial
theorem head_of.tw14952122034462374941 : True := trivial
theorem head_of.tw2793723433763964991 : True := trivial
theorem head_of.tw8538975491582664811 : True := trivial
theorem head_of.tw11339039793052517415 : True := trivial
theorem head_of.tw9252195451266390575 : True := trivial
theorem head_of.tw9454966457861343386 : True := trivial
theorem head_of.tw13284879142273851040 : True := trivial
theorem head_of.tw10729013254353602416 : True := trivial
theorem head_of.tw5695432115783660278 : True := trivial
theorem head_of.tw9539049743514556163 : True := trivial
theorem head_of.tw8304206124196525288 : True := trivial
theorem head_of.tw2806254856361616202 : True := trivial
theorem head_of.tw17140813883430137214 : True := trivial
theorem head_of.tw17090943558706185991 : True := trivial
theorem head_of.tw7842836135483998879 : True := trivial
theorem head_of.tw1290297083299387895 : True := trivial
theorem head_of.tw15637997027489598561 : True := trivial
theorem head_of.tw15801822090768744860 : True := trivial
theorem head_of.tw16180998243722193799 : True := trivial
theorem head_of.tw6187782723418406876 : True := trivial
theorem head_of.tw17350517002271104149 : True := trivial
theorem head_of.tw6144699455155659931 : True := trivial
theorem head_of.tw14618568770327243987 : True := trivial
theorem head_of.tw6675345397834471695 : True := trivial
theorem head_of.tw10232220254107559787 : True := trivial
theorem head_of.tw7373114503466470194 : True := trivial
theorem head_of.tw5661173754191171443 : True := trivial
theorem head_of.tw2955162852747126255 : True := trivial
theorem head_of.tw10113395205927502415 : True := trivial
theorem head_of.tw12725347064966371644 : True := trivial
theorem head_of.tw5717933555408087042 : True := trivial
theorem head_of.tw11982042648533585980 : True := trivial
theorem head_of.tw3229151136054973492 : True := trivial
theorem head_of.tw8209558563057975987 : True := trivial
theorem head_of.tw254175703239864565 : True := trivial
theorem head_of.tw778642517369659678 : True := trivial
theorem head_of.tw7160900029489920512 : True := trivial
theorem head_of.tw8167763415486382730 : True := trivial
theorem head_of.tw3090967812990933227 : True := trivial
theorem head_of.tw10359412738736024507 : True := trivial
theorem head_of.tw4631205245558447178 : True := trivial
theorem head_of.tw11696496886022386771 : True := trivial
theorem head_of.tw11872676109590510310 : True := trivial
theorem head_of.tw11011957724279680247 : True := trivial
theorem head_of.tw10217317752449040055 : True := trivial
theorem head_of.tw1599778771834255081 : True := trivial
theorem head_of.tw3057473434135311948 : True := trivial
theorem head_of.tw3220193335719885938 : True := trivial
theorem head_of.tw4706277332281708940 : True := trivial
theorem head_of.tw11532046060212470729 : True := trivial
theorem head_of.tw4315306446031179914 : True := trivial
theorem head_of.tw11746820912622509894 : True := trivial
theorem head_of.tw10616896757248928394 : True := trivial
theorem head_of.tw2783041487565834443 : True := trivial
theorem head_of.tw9462563775033081770 : True := trivial
theorem head_of.tw12251405206101153167 : True := trivial
theorem head_of.tw1982449878323558370 : True := trivial
theorem head_of.tw11072371570524167569 : True := trivial
theorem head_of.tw12254537099252648240 : True := trivial
theorem head_of.tw15735586954659843408 : True := trivial
theorem head_of.tw15932598105432925617 : True := trivial
theorem head_of.tw9978899174323665795 : True := trivial
theorem head_of.tw6674148856898556211 : True := trivial
theorem head_of.tw16225202864450496337 : True := trivial
theorem head_of.tw8621389574651252995 : True := trivial
theorem head_of.tw1311109741664331754 : True := trivial
theorem head_of.tw1275945414528934049 : True := trivial
theorem head_of.tw11701832594446466815 : True := trivial
theorem head_of.tw3563149742989609178 : True := trivial
theorem head_of.tw6854215507414589230 : True := trivial
theorem head_of.tw6659878419651666090 : True := trivial
theorem head_of.tw6229509830277880888 : True := trivial
theorem head_of.tw13514609372431813214 : True := trivial
theorem head_of.tw11071809054919536151 : True := trivial
theorem head_of.tw18196724192014500123 : True := trivial
theorem head_of.tw6449643329906525953 : True := trivial
theorem head_of.tw6592542623383596206 : True := trivial
theorem head_of.tw4272406381635771058 : True := trivial
theorem head_of.tw11869668151308752952 : True := trivial
theorem head_of.tw8747362506204267324 : True := trivial
theorem head_of.tw5790178592200079446 : True := trivial
theorem head_of.tw6607461102564050683 : True := trivial
theorem head_of.tw2367577866223072827 : True := trivial
theorem head_of.tw7982846690364990495 : True := trivial
theorem head_of.tw8240448487011056565 : True := trivial
theorem head_of.tw2827616505300689927 : True := trivial
theorem head_of.tw11861508153742467324 : True := trivial
theorem head_of.tw510361754230274616 : True := trivial
theorem head_of.tw8604048800220323830 : True := trivial
theorem head_of.tw9995359185729466823 : True := trivial
theorem head_of.tw2890451020198990209 : True := trivial
theorem head_of.tw9386903808399126866 : True := trivial
end Mine.Top
namespace Mine
/-- does the view know the class InvalidBSON -/
def InvNamed (q : Program) : Bool := (ownsOf q).any fun o => o.name == "InvalidBSON" && o.newId == "Exception.__new__" && o.bm == [.type "Exception", .type "BaseException", .type "object"]
/-- the walk of the law, as the head asks it, for any view that knows InvalidBSON; proved at the end -/
def LawWalks : Prop := ∀ {q : Program} {loose : List Str} {XP : (Str → Option Value) → Heap → Prop} {d : DefRec} {kwd : List (Str × Expr)}, d.name = "law" → InvNamed q = true →
    WalkO q loose XP myHook.says PySem.Challenge.rw_fc0182_01.row.toRowW d kwd fun f vs => PySem.call f vs
/-- what the head is asked to know of the text: the two exception classes and the law; the other names are loose -/
def viewS : Program := { prog with main := { prog.main with body := [stmtAt 42, stmtAt 43, stmtAt 142] } }
def looseS : List Str := [Str.ofString "_wall", Str.ofString "UUID", Str.ofString "_turned", Str.ofString "OLD_UUID_SUBTYPE", Str.ofString "UUID_SUBTYPE", Str.ofString "UuidRepresentation", Str.ofString "STANDARD", Str.ofString "ALL_UUID_SUBTYPES", Str.ofString "ALL_UUID_REPRESENTATIONS", Str.ofString "UUID_REPRESENTATION_NAMES", Str.ofString "Binary", Str.ofString "Code", Str.ofString "TypeRegistry", Str.ofString "CodecOptions", Str.ofString "DEFAULT_CODEC_OPTIONS", Str.ofString "DatetimeMS", Str.ofString "DBRef", Str.ofString "Decimal", Str.ofString "_PACK_64", Str.ofString "_UNPACK_64", Str.ofString "_EXPONENT_MASK", Str.ofString "_EXPONENT_BIAS", Str.ofString "_MAX_DIGITS", Str.ofString "_SIGN", Str.ofString "_NINF", Str.ofString "_PINF", Str.ofString "_NNAN", Str.ofString "_PNAN", Str.ofString "_NSNAN", Str.ofString "_PSNAN", Str.ofString "_check_fits", Str.ofString "_decimal_to_128", Str.ofString "Decimal128", Str.ofString "InvalidStringData", Str.ofString "InvalidDocument", Str.ofString "InvalidId", Str.ofString "Int64", Str.ofString "MaxKey", Str.ofString "MinKey", Str.ofString "_HEX_DIGITS", Str.ofString "_from_hex", Str.ofString "_raise_invalid_id", Str.ofString "ObjectId", Str.ofString "_IGNORECASE", Str.ofString "_LOCALE", Str.ofString "_MULTILINE", Str.ofString "_DOTALL", Str.ofString "_UNICODE", Str.ofString "_VERBOSE", Str.ofString "str_flags_to_int", Str.ofString "Regex", Str.ofString "UPPERBOUND", Str.ofString "Timestamp", Str.ofString "_unpack", Str.ofString "_UNPACK_INT_FROM", Str.ofString "_UNPACK_LENGTH_SUBTYPE_FROM", Str.ofString "_UNPACK_LONG_FROM", Str.ofString "_UNPACK_TIMESTAMP_FROM", Str.ofString "_utf_8_decode", Str.ofString "_utf_8_encode", Str.ofString "_index_nul", Str.ofString "get_data_and_view", Str.ofString "_raise_unknown_type", Str.ofString "_get_int", Str.ofString "_get_c_string", Str.ofString "_get_string", Str.ofString "_get_object_size", Str.ofString "_get_object", Str.ofString "_get_array", Str.ofString "_get_binary", Str.ofString "_get_oid", Str.ofString "_get_boolean", Str.ofString "_get_date", Str.ofString "_get_code", Str.ofString "_get_code_w_scope", Str.ofString "_get_regex", Str.ofString "_get_ref", Str.ofString "_get_timestamp", Str.ofString "_get_int64", Str.ofString "_get_decimal128", Str.ofString "_get_element", Str.ofString "_element_to_dict", Str.ofString "_elements_to_dict", Str.ofString "_bson_to_dict", Str.ofString "_PACK_INT", Str.ofString "_PACK_LENGTH_SUBTYPE", Str.ofString "_PACK_LONG", Str.ofString "_PACK_TIMESTAMP", Str.ofString "_make_c_string_check", Str.ofString "_make_c_string", Str.ofString "_make_name", Str.ofString "_encode_bytes", Str.ofString "_encode_mapping", Str.ofString "_encode_dbref", Str.ofString "_encode_list", Str.ofString "_encode_text", Str.ofString "_encode_binary", Str.ofString "_encode_uuid", Str.ofString "_encode_objectid", Str.ofString "_encode_bool", Str.ofString "_encode_datetime_ms", Str.ofString "_encode_none", Str.ofString "_encode_regex", Str.ofString "_encode_code", Str.ofString "_encode_int", Str.ofString "_encode_timestamp", Str.ofString "_encode_long", Str.ofString "_encode_decimal128", Str.ofString "_encode_minkey", Str.ofString "_encode_maxkey", Str.ofString "_name_value_to_bson", Str.ofString "_element_to_bson", Str.ofString "_dict_to_bson", Str.ofString "encode", Str.ofString "decode", Str.ofString "_decode_all", Str.ofString "decode_all", Str.ofString "is_valid", Str.ofString "_law_rest", Str.ofString "_law_leaf", Str.ofString "_law_laid", Str.ofString "_law_wrapped", Str.ofString "_law_all"]
/-- the kit's rule for a head, for this law, with the view above, its walk asked under LawWalks. (o_head takes the rule by its name, from the namespace at hand; the view q that it finds by itself, and what goes with it, is not used.) -/
theorem Top.PySem.W.holds_open {q : Program} {loose : List Str} {Xt : Shared → Bool} {XP : (Str → Option Value) → Heap → Prop} {α : Type} {Yf : Shared → α} {Ya : World → α} {YP : World → Heap → Prop} {d : DefRec} {kwd : List (Str × Expr)} {N : Nat} [W : Nonempty (PLift LawWalks)]
    (left : LeftO PySem.Challenge.rw_fc0182_01.row.prog viewS looseS (fun _ => true) Yf Ya N) (hY : ∀ w s, Yf s = Ya w → YP w s.heap) (hYk : ∀ w h h', YP w h → (∀ b o, h.get? b = some o → h'.get? b = some o) → YP w h')
    (_hX : ∀ s, Xt s = true → XP (s.heap.nsMap mainGlobals) s.heap) (_hXk : ∀ mg h h', XP mg h → (∀ b o, h.get? b = some o → h'.get? b = some o) → XP mg h')
    (hdef : defOf viewS PySem.Challenge.rw_fc0182_01.row.name = some (d, kwd)) (hp : PySem.Challenge.rw_fc0182_01.row.prog.theDef PySem.Challenge.rw_fc0182_01.row.name = some (d.params, d.body, d.scope)) (hk : kwWritten? d.params.kwonlyargs d.params.kw_defaults = some kwd)
    (_hRf : ∀ s, Xt s = true → RecFacts PySem.Challenge.rw_fc0182_01.row.records s.heap) (hwr : (!PySem.Challenge.rw_fc0182_01.row.writes || PySem.Challenge.rw_fc0182_01.row.records.isEmpty) = true)
    (k1 : PySem.Challenge.rw_fc0182_01.row.wellSaid = true) (ok : (chainsOk viewS && opensWell PySem.Challenge.rw_fc0182_01.row.prog && (frees PySem.Challenge.rw_fc0182_01.row.toRowW && PySem.Challenge.rw_fc0182_01.row.within.isEmpty)) = true) (hb : PySem.Challenge.rw_fc0182_01.row.prog.bare) (hw : PySem.Challenge.rw_fc0182_01.row.toRowW.promised)
    (call : LawWalks → WalkO viewS looseS (fun _ _ => True) YP PySem.Challenge.rw_fc0182_01.row.toRowW d kwd fun f vs => PySem.call f vs) : PySem.Challenge.rw_fc0182_01.row.Holds :=
  _root_.PySem.W.holds_open (Xt := fun _ => true) (XP := fun _ _ => True) left hY hYk (fun _ _ => trivial) (fun _ _ _ _ _ => trivial) hdef hp hk (fun _ _ => recFacts_of (by rfl)) hwr k1 ok hb hw (call (Nonempty.elim W fun x => x.down))
namespace Top
set_option Elab.async true in
set_option maxHeartbeats 8000000 in
theorem head_of [Nonempty (PLift LawWalks)] : PySem.Challenge.rw_fc0182_01.Holds := by
  w_on
  o_law
  o_head myHook
  case hw => w_witness2
  intro W
  exact W (by rfl) (by decide +kernel)
end Top
theorem holds_of (W : LawWalks) : PySem.Challenge.rw_fc0182_01.Holds := @Top.head_of ⟨⟨W⟩⟩
end Mine
section
namespace Mine

/-- abstract values -/
inductive PV where
  | none
  | bool (b : Bool)
  | int (i : Int)
  | str (s : Str)
  | bytes (b : List UInt8)
  | list (ds : List PV)
  | tuple (ds : List PV)
  | dict (ks : List Str) (ds : List PV)
  | code (text : Str) (scope : PV)
  | ext (v : Value)

abbrev lstObj (vs : List Value) (n : Nat) : Obj := { cls := .type "list", data := .seq vs.toArray n }
abbrev tupObj (vs : List Value) : Obj := { cls := .type "tuple", data := .seq vs.toArray }
abbrev dctObj (es : List DictEntry) (n : Nat) : Obj := { cls := .type "dict", data := .dict es.toArray n }
abbrev codeCls : Addr := 196
abbrev insObj (dx : Addr) : Obj := { cls := .ref codeCls, dict := some dx, data := .plain }

/-- entries of a dict with str keys -/
def Ents (P : Params) : List Str → List Value → List DictEntry → Prop
  | [], [], [] => True
  | k :: ks, v :: vs, e :: es => (∃ t, e.key = .str k t) ∧ e.hash = PyData.keyHash P k ∧ e.val = v ∧ Ents P ks vs es
  | _, _, _ => False

/-- an object's own dict: two entries, in the order of their storing -/
def CodeEnts (P : Params) (vt vs : Value) (es : List DictEntry) : Prop := Ents P ["text", "_scope"] [vt, vs] es

mutual
def Rep (P : Params) (h : Heap) (X : Addr → Prop) : PV → Value → Prop
  | .none, v => v = .none
  | .bool b, v => v = .bool b
  | .int i, v => ∃ t, v = .int i t
  | .str s, v => ∃ t, v = .str s t
  | .bytes b, v => ∃ t, v = .bytes b.toArray t
  | .list ds, v => ∃ a vs n, v = .ref a ∧ h.get? a = some (lstObj vs n) ∧ ¬ X a ∧ Reps P h X ds vs
  | .tuple ds, v => ∃ a vs, v = .ref a ∧ h.get? a = some (tupObj vs) ∧ ¬ X a ∧ Reps P h X ds vs
  | .dict ks ds, v => ∃ a es vs n, v = .ref a ∧ h.get? a = some (dctObj es n) ∧ ¬ X a ∧ (a ≠ sysModules ∧ Ents P ks vs es) ∧ Reps P h X ds vs
  | .code x sc, v => ∃ a dx es n vt vs, v = .ref a ∧ h.get? a = some (insObj dx) ∧ ¬ X a ∧ h.get? dx = some (dctObj es n) ∧ ¬ X dx ∧ CodeEnts P vt vs es ∧ (∃ t, vt = .str x t) ∧ Rep P h X sc vs
  | .ext u, v => v = u
def Reps (P : Params) (h : Heap) (X : Addr → Prop) : List PV → List Value → Prop
  | [], vs => vs = []
  | d :: ds, vs => ∃ v r, vs = v :: r ∧ Rep P h X d v ∧ Reps P h X ds r
end

def Keep (X : Addr → Prop) (h h' : Heap) : Prop := ∀ a o, h.get? a = some o → ¬ X a → h'.get? a = some o
structure Ext (X X' : Addr → Prop) (h h' : Heap) : Prop where
  keep : Keep X h h'
  grow : ∀ a, X' a → X a ∨ h.get? a = none

theorem Ext.refl {X : Addr → Prop} {h : Heap} : Ext X X h h := ⟨fun _ _ e _ => e, fun _ x => .inl x⟩
theorem Ext.trans {X X' X'' : Addr → Prop} {h h' h'' : Heap} (x : Ext X X' h h') (y : Ext X' X'' h' h'') : Ext X X'' h h'' := by
  refine ⟨fun a o e n => y.keep a o (x.keep a o e n) fun q => ?_, fun a q => ?_⟩
  · rcases x.grow a q with q | q
    · exact n q
    · rw [e] at q; cases q
  · rcases y.grow a q with q | q
    · exact x.grow a q
    · by_cases hx : X a
      · exact .inl hx
      · cases e : h.get? a with
        | none => exact .inr rfl
        | some o => have := x.keep a o e hx; rw [q] at this; cases this
theorem Ext.not_in {X X' : Addr → Prop} {h h' : Heap} (x : Ext X X' h h') {a : Addr} {o : Obj} (e : h.get? a = some o) (n : ¬ X a) : ¬ X' a := fun q => by
  rcases x.grow a q with q | q
  · exact n q
  · rw [e] at q; cases q

mutual
theorem Rep.ext {P : Params} {X X' : Addr → Prop} {h h' : Heap} (x : Ext X X' h h') : ∀ {d : PV} {v : Value}, Rep P h X d v → Rep P h' X' d v
  | .none, _, r => by simpa only [Rep] using r
  | .bool _, _, r => by simpa only [Rep] using r
  | .int _, _, r => by simpa only [Rep] using r
  | .str _, _, r => by simpa only [Rep] using r
  | .bytes _, _, r => by simpa only [Rep] using r
  | .list _, _, r => by
    simp only [Rep] at r ⊢
    obtain ⟨a, vs, n, e, ho, hx, hr⟩ := r
    exact ⟨a, vs, n, e, x.keep _ _ ho hx, x.not_in ho hx, Reps.ext x hr⟩
  | .tuple _, _, r => by
    simp only [Rep] at r ⊢
    obtain ⟨a, vs, e, ho, hx, hr⟩ := r
    exact ⟨a, vs, e, x.keep _ _ ho hx, x.not_in ho hx, Reps.ext x hr⟩
  | .dict _ _, _, r => by
    simp only [Rep] at r ⊢
    obtain ⟨a, es, vs, n, e, ho, hx, he, hr⟩ := r
    exact ⟨a, es, vs, n, e, x.keep _ _ ho hx, x.not_in ho hx, he, Reps.ext x hr⟩
  | .code _ _, _, r => by
    simp only [Rep] at r ⊢
    obtain ⟨a, dx, es, n, vt, vs, e, ho, hx, hd, hy, he, ht, hr⟩ := r
    exact ⟨a, dx, es, n, vt, vs, e, x.keep _ _ ho hx, x.not_in ho hx, x.keep _ _ hd hy, x.not_in hd hy, he, ht, Rep.ext x hr⟩
  | .ext _, _, r => by simpa only [Rep] using r
theorem Reps.ext {P : Params} {X X' : Addr → Prop} {h h' : Heap} (x : Ext X X' h h') : ∀ {ds : List PV} {vs : List Value}, Reps P h X ds vs → Reps P h' X' ds vs
  | [], _, r => by simpa only [Reps] using r
  | _ :: _, _, r => by
    simp only [Reps] at r ⊢
    obtain ⟨v, rr, e, h1, h2⟩ := r
    exact ⟨v, rr, e, Rep.ext x h1, Reps.ext x h2⟩
end

theorem Reps.length {P : Params} {h : Heap} {X : Addr → Prop} : ∀ {ds : List PV} {vs : List Value}, Reps P h X ds vs → vs.length = ds.length
  | [], _, r => by simp only [Reps] at r; subst r; rfl
  | _ :: _, _, r => by
    simp only [Reps] at r
    obtain ⟨v, rr, rfl, _, h2⟩ := r
    simp [Reps.length h2]
theorem Reps.cons {P : Params} {h : Heap} {X : Addr → Prop} {d : PV} {ds : List PV} {v : Value} {vs : List Value} (a : Rep P h X d v) (b : Reps P h X ds vs) : Reps P h X (d :: ds) (v :: vs) := by
  simp only [Reps]; exact ⟨v, vs, rfl, a, b⟩
theorem Reps.nil {P : Params} {h : Heap} {X : Addr → Prop} : Reps P h X [] [] := by simp only [Reps]
theorem Reps.append {P : Params} {h : Heap} {X : Addr → Prop} : ∀ {ds es : List PV} {vs us : List Value}, Reps P h X ds vs → Reps P h X es us → Reps P h X (ds ++ es) (vs ++ us)
  | [], _, _, _, a, b => by simp only [Reps] at a; subst a; exact b
  | _ :: _, _, _, _, a, b => by
    simp only [Reps] at a
    obtain ⟨v, rr, rfl, h1, h2⟩ := a
    exact Reps.cons h1 (Reps.append h2 b)
theorem Reps.get {P : Params} {h : Heap} {X : Addr → Prop} : ∀ {ds : List PV} {vs : List Value} {i : Nat} {d : PV}, Reps P h X ds vs → ds[i]? = some d → ∃ v, vs[i]? = some v ∧ Rep P h X d v
  | [], _, _, _, _, e => by simp at e
  | _ :: _, _, 0, _, r, e => by
    simp only [Reps] at r
    obtain ⟨v, rr, rfl, h1, h2⟩ := r
    simp at e; subst e
    exact ⟨v, rfl, h1⟩
  | _ :: _, _, i + 1, _, r, e => by
    simp only [Reps] at r
    obtain ⟨v, rr, rfl, h1, h2⟩ := r
    simp at e
    obtain ⟨u, hu, hr⟩ := Reps.get h2 e
    exact ⟨u, by simpa using hu, hr⟩
theorem Reps.take {P : Params} {h : Heap} {X : Addr → Prop} : ∀ {ds : List PV} {vs : List Value} (n : Nat), Reps P h X ds vs → Reps P h X (ds.take n) (vs.take n)
  | [], _, n, r => by simp only [Reps] at r; subst r; simpa using Reps.nil
  | _ :: _, _, 0, _ => by simpa using Reps.nil
  | _ :: _, _, n + 1, r => by
    simp only [Reps] at r
    obtain ⟨v, rr, rfl, h1, h2⟩ := r
    simpa using Reps.cons h1 (Reps.take n h2)
theorem Reps.drop {P : Params} {h : Heap} {X : Addr → Prop} : ∀ {ds : List PV} {vs : List Value} (n : Nat), Reps P h X ds vs → Reps P h X (ds.drop n) (vs.drop n)
  | [], _, n, r => by simp only [Reps] at r; subst r; simpa using Reps.nil
  | _ :: _, _, 0, r => by simpa using r
  | _ :: _, _, n + 1, r => by
    simp only [Reps] at r
    obtain ⟨v, rr, rfl, h1, h2⟩ := r
    simpa using Reps.drop n h2

/-- what a call may do to what stood: all stays, but the frames' slots -/
structure Up (S : List Addr) (h h' : Heap) : Prop where
  keep : ∀ a o, h.get? a = some o → a ∉ S → h'.get? a = some o
  frame : ∀ a o, h.get? a = some o → a ∈ S → ∃ sl, h'.get? a = some { o with slots := sl }
theorem Up.refl {S : List Addr} {h : Heap} : Up S h h := ⟨fun _ _ e _ => e, fun _ o e _ => ⟨o.slots, e⟩⟩
theorem Up.trans {S : List Addr} {h h' h'' : Heap} (x : Up S h h') (y : Up S h' h'') : Up S h h'' := by
  refine ⟨fun a o e n => y.keep a o (x.keep a o e n) n, fun a o e m => ?_⟩
  obtain ⟨_, e1⟩ := x.frame a o e m
  obtain ⟨sl, e2⟩ := y.frame a _ e1 m
  exact ⟨sl, e2⟩
theorem Up.of_keeps {S : List Addr} {h h' : Heap} (k : ∀ b o, h.get? b = some o → h'.get? b = some o) : Up S h h' :=
  ⟨fun a o e _ => k a o e, fun a o e _ => ⟨o.slots, k a o e⟩⟩
theorem Up.any {S : List Addr} {h h' : Heap} (x : Up S h h') {a : Addr} {o : Obj} (e : h.get? a = some o) : ∃ sl, h'.get? a = some { o with slots := sl } := by
  by_cases m : a ∈ S
  · exact x.frame a o e m
  · exact ⟨o.slots, x.keep a o e m⟩
theorem Up.ns {S : List Addr} {h h' : Heap} (x : Up S h h') {a : Addr} {m : Str → Option Value} (n : h.Ns a m) : h'.Ns a m := by
  obtain ⟨o, es, ep, ho, hd, r⟩ := n
  obtain ⟨sl, e⟩ := x.any ho
  exact ⟨_, es, ep, e, hd, r⟩
theorem Up.frames {S : List Addr} {h h' base : Heap} (x : Up S h h') {l : List Env} (f : h.FunFrames base l) : h'.FunFrames base l :=
  f.of_keeps fun _ o e _ => let ⟨_, e'⟩ := x.any e; ⟨_, e', rfl⟩
theorem Up.weaken {S T : List Addr} {h h' : Heap} (x : Up S h h') (f : ∀ a, a ∈ S → a ∈ T) : Up T h h' :=
  ⟨fun a o e n => x.keep a o e fun m => n (f a m), fun _ _ e _ => x.any e⟩
theorem Up.toExt {S : List Addr} {X : Addr → Prop} {h h' : Heap} (x : Up S h h') (f : ∀ a, a ∈ S → X a) : Ext X X h h' :=
  ⟨fun a o e n => x.keep a o e fun m => n (f a m), fun _ q => .inl q⟩
end Mine
end
section
namespace Mine

/-- the record of an exception, its first entry told or not -/
def RecAt (h B : Heap) (e : Addr) (cls : Value) (t : Value) (cx : Value) (told : Bool) (fl : Value) : Prop :=
  ∃ oe ws, h.get? e = some oe ∧ oe.cls = cls ∧ oe.data = .fields ws ∧ ws[0]? = some t ∧ ws[2]? = some cx ∧ 2 < ws.size ∧
    ((told = false ∧ ws[1]? = some .none) ∨ ∃ T oT ts, ws[1]? = some (.ref T) ∧ B.get? T = none ∧ T ≠ e ∧ h.get? T = some oT ∧ oT.data = .fields ts ∧ ts[3]? = some fl)

structure FlyAt (B : Heap) (l : List Env) (e : Addr) (cls : Value) (t : Value) (kn : Bool) (vs : List Value) (cx : Value) (told : Bool) (fl : Value) (h : Heap) : Prop where
  stays : B.StaysIn h
  new : B.get? e = none
  frames : h.FunFrames B l
  tup : kn = true → ∃ a, t = .ref a ∧ h.TupAt a vs ∧ B.get? a = none
  recd : RecAt h B e cls t cx told fl

section
variable {M : Model} {A : Around} {E : Value → Shared → Prop} {s : Shared} {B : Heap} {l : List Env} {env : Env} {L e : Addr} {t : Value} {kn : Bool} {cls cx : Value} {vs : List Value}

theorem fly_frames {told : Bool} {fl : Value} (F : FlyAt B l e cls t kn vs cx told fl s.heap) : e ∉ l.filterMap (·.frame) := fun hm => by
  obtain ⟨_, o, ho, hnf⟩ := F.frames.mem hm
  obtain ⟨oe, ws, he, _, hd, _⟩ := F.recd
  rw [he] at ho; cases ho
  exact hnf ws hd

/-- a new entry for this frame -/
theorem fly_entry {outer : List Env} {told hadNext : Bool} {fl head : Value} {Q : Unit → Shared → Prop} (hfr : A.frames = some (env :: outer)) (hf : env.frame = some L) (F : FlyAt B (env :: outer) e cls t kn vs cx told fl s.heap)
    (h : ∀ h', FlyAt B (env :: outer) e cls t kn vs cx true (rawInt L) h' → s.heap.UpToSlots h' → s.heap.objs.size ≤ h'.objs.size → Q () { s with heap := h' }) :
    wpAny M A (do let a ← frameOf env; let pl ← entryPlaceOf L hadNext; let b ← EntryCells.newEntry head a .none (rawInt L) .none pl; setField (.ref e) 1 b) Q E s := by
  have hene := fly_frames F
  obtain ⟨oe, ws, he, hc, hd, h0, h2, hsz, _⟩ := F.recd
  refine wpAny_bind (wpAny_frameOf_fun hfr F.frames hf fun h₁ hs₁ => ?_)
  refine wpAny_bind (wpAny_entryPlaceOf fun pl hpl => ?_)
  unfold EntryCells.newEntry newFields
  refine wpAny_bind (wpAny_newObj_type ?_ (hpl.sizeOk5 _ _ _ _ _))
  have he₁ : h₁.get? e = some oe := (hs₁.2.1 e hene).trans he
  have kb₁ : B.StaysIn h₁ := fun b o hbo => (hs₁.2.1 b fun hm => by rw [(F.frames.mem hm).1] at hbo; cases hbo).trans (F.stays b o hbo)
  generalize hO : ({ cls := .type "traceback", dict := none, data := .fields ([head, .ref L, .none, rawInt L, .none] ++ (if pl.isEmpty then List.replicate 6 Value.none else pl)).toArray } : Obj) = O
  have he₂ := Heap.get?_push_of_some (h := h₁) O he₁
  subst hO
  refine wpAny_setField he₂ hd (Nat.lt_of_succ_lt hsz) ?_
  have hTe : h₁.objs.size ≠ e := Nat.ne_of_gt (Heap.lt_size he₁)
  have hd₃ := Obj.data_mapFields hd (·.setIfInBounds 1 (Value.ref h₁.objs.size))
  have he₃ := Heap.get?_update_self (Obj.mapFields (·.setIfInBounds 1 (Value.ref h₁.objs.size))) he₂ (Obj.isFreed_of_fields hd₃)
  have hT₃ := (Heap.get?_update_other (h₁.push { cls := .type "traceback", dict := none, data := .fields ([head, .ref L, .none, rawInt L, .none] ++ (if pl.isEmpty then List.replicate 6 Value.none else pl)).toArray })
    (Obj.mapFields (·.setIfInBounds 1 (Value.ref h₁.objs.size))) (Ne.symm hTe)).trans (Heap.get?_push_size h₁ rfl)
  have keep : ∀ b o, b ≠ e → h₁.get? b = some o →
      ((h₁.push { cls := .type "traceback", dict := none, data := .fields ([head, .ref L, .none, rawInt L, .none] ++ (if pl.isEmpty then List.replicate 6 Value.none else pl)).toArray }).update e (Obj.mapFields (·.setIfInBounds 1 (Value.ref h₁.objs.size)))).get? b = some o :=
    fun b o hbe hb => by
      rw [Heap.get?_update_other _ _ (Ne.symm hbe)]
      exact Heap.get?_push_of_some _ hb
  have noRecord : ∀ b o, s.heap.get? b = some o → (∀ vs, o.data ≠ .fields vs) → b ≠ e := fun b o hb hnf q => by
    rw [q, he] at hb; injection hb with hb; subst hb; exact hnf ws hd
  have up : ∀ b o, s.heap.get? b = some o → (∀ vs, o.data ≠ .fields vs) → ∃ sl, ((h₁.push { cls := .type "traceback", dict := none, data := .fields ([head, .ref L, .none, rawInt L, .none] ++ (if pl.isEmpty then List.replicate 6 Value.none else pl)).toArray }).update e (Obj.mapFields (·.setIfInBounds 1 (Value.ref h₁.objs.size)))).get? b = some { o with slots := sl } := fun b o hb hnf => by
    obtain ⟨sl, hs⟩ := hs₁.2.2 b o hb
    exact ⟨sl, keep b _ (noRecord b o hb hnf) hs⟩
  refine h _ ⟨fun b o hbo => keep b o (fun q => by rw [q, F.new] at hbo; cases hbo) (kb₁ b o hbo), F.new, F.frames.of_keeps fun b o hb hnf => ?_, fun z => let ⟨a, q1, q2, q3⟩ := F.tup z; ⟨a, q1, q2.of_slots up, q3⟩, ?_⟩ up (by rw [Heap.size_after_update, Heap.size_push, hs₁.1]; exact Nat.le_succ _)
  · obtain ⟨sl, hs⟩ := up b o hb hnf
    exact ⟨_, hs, rfl⟩
  · exact ⟨_, _, he₃, (Obj.cls_mapFields _ _).trans hc, hd₃, by rw [Array.getElem?_setIfInBounds_ne (by decide)]; exact h0, by rw [Array.getElem?_setIfInBounds_ne (by decide)]; exact h2, by rw [Array.size_setIfInBounds]; exact hsz,
      .inr ⟨h₁.objs.size, _, _, by simp [Nat.lt_of_succ_lt hsz], kb₁.fresh, hTe, hT₃, rfl, by first | (simp; done) | (rcases hpl with rfl | ⟨_, _, _, _, _, _, _, rfl⟩ <;> simp)⟩⟩

theorem fly_note {outer : List Env} {told : Bool} {Q : Unit → Shared → Prop} (hfr : A.frames = some (env :: outer)) (hf : env.frame = some L) (F : FlyAt B (env :: outer) e cls t kn vs cx told .none s.heap)
    (h : ∀ h', FlyAt B (env :: outer) e cls t kn vs cx true (rawInt L) h' → s.heap.UpToSlots h' → s.heap.objs.size ≤ h'.objs.size → Q () { s with heap := h' }) :
    wpAny M A (noteFrame (.ref e) env) Q E s := by
  have F' := F
  obtain ⟨oe, ws, he, hc, hd, h0, h2, hsz, h1⟩ := F.recd
  unfold noteFrame
  simp only [hf]
  rcases h1 with ⟨_, h1⟩ | ⟨T, oT, ts, h1, hnT, hTe, hT, hdT, h3⟩
  · refine wpAny_bind (wpAny_field he hd h1 ?_)
    rw [if_neg (by decide)]
    exact fly_entry hfr hf F' h
  · refine wpAny_bind (wpAny_field he hd h1 ?_)
    rw [if_pos (show (Value.ref T != Value.none) = true from by simp)]
    refine wpAny_bind (wpAny_field hT hdT h3 ?_)
    rw [if_neg (show ¬ ((Value.none == rawInt L) = true) from by simp [rawInt])]
    refine wpAny_bind (wpAny_setField hT hdT (Array.getElem?_eq_some_iff.mp h3).1 ?_)
    have other : ∀ b, b ≠ T → (s.heap.update T (Obj.mapFields (·.setIfInBounds 3 Value.none))).get? b = s.heap.get? b := fun b hb => Heap.get?_update_other _ _ (Ne.symm hb)
    have noRecord : ∀ b o, s.heap.get? b = some o → (∀ vs, o.data ≠ .fields vs) → b ≠ T := fun b o hb hnf q => by
      rw [q, hT] at hb; injection hb with hb; subst hb; exact hnf ts hdT
    have up : s.heap.UpToSlots (s.heap.update T (Obj.mapFields (·.setIfInBounds 3 Value.none))) := fun b o hb hnf => ⟨o.slots, (other b (noRecord b o hb hnf)).trans hb⟩
    refine fly_entry (fl := .none) (told := true) hfr hf ⟨fun b o hbo => (other b fun q => by rw [q, hnT] at hbo; cases hbo).trans (F.stays b o hbo), F.new, F.frames.of_keeps fun b o hb hnf => ⟨o, (other b (noRecord b o hb hnf)).trans hb, rfl⟩, fun z => let ⟨a, q1, q2, q3⟩ := F.tup z; ⟨a, q1, q2.of_slots up, q3⟩, ?_⟩
      fun h' k1 k2 k3 => h h' k1 (up.trans k2) (by rw [Heap.size_after_update] at k3; exact k3)
    exact ⟨oe, ws, (other e (Ne.symm hTe)).trans he, hc, hd, h0, h2, hsz, .inr ⟨T, _, _, h1, hnT, hTe, Heap.get?_update_self _ hT (Obj.isFreed_of_fields (Obj.data_mapFields hdT _)), Obj.data_mapFields hdT _, by simp [(Array.getElem?_eq_some_iff.mp h3).1]⟩⟩

theorem fly_again {outer : List Env} {Q : Unit → Shared → Prop} (hf : env.frame = some L) (F : FlyAt B (env :: outer) e cls t kn vs cx true (rawInt L) s.heap) (h : Q () s) :
    wpAny M A (noteFrame (.ref e) env) Q E s := by
  obtain ⟨oe, ws, he, hc, hd, h0, h2, hsz, h1⟩ := F.recd
  rcases h1 with ⟨q, _⟩ | ⟨T, oT, ts, h1, hnT, hTe, hT, hdT, h3⟩
  · cases q
  unfold noteFrame
  simp only [hf]
  refine wpAny_bind (wpAny_field he hd h1 ?_)
  rw [if_pos (show (Value.ref T != Value.none) = true from by simp)]
  refine wpAny_bind (wpAny_field hT hdT h3 ?_)
  rw [if_pos (show (rawInt L == rawInt L) = true from by simp)]
  exact wpAny_pure h

theorem fly_land {fl : Value} {Q : Unit → Shared → Prop} (F : FlyAt B l e cls t kn vs cx true fl s.heap)
    (h : ∀ h', FlyAt B l e cls t kn vs cx true .none h' → s.heap.UpToSlots h' → s.heap.objs.size ≤ h'.objs.size → Q () { s with heap := h' }) :
    wpAny M A (setFlight (.ref e) none) Q E s := by
  obtain ⟨oe, ws, he, hc, hd, h0, h2, hsz, h1⟩ := F.recd
  rcases h1 with ⟨q, _⟩ | ⟨T, oT, ts, h1, hnT, hTe, hT, hdT, h3⟩
  · cases q
  unfold setFlight
  refine wpAny_bind (wpAny_field he hd h1 ?_)
  rw [if_pos (show (Value.ref T != Value.none) = true from by simp)]
  refine wpAny_setField hT hdT (Array.getElem?_eq_some_iff.mp h3).1 ?_
  have other : ∀ b, b ≠ T → (s.heap.update T (Obj.mapFields (·.setIfInBounds 3 ((none : Option Addr).elim Value.none fun f => rawInt f)))).get? b = s.heap.get? b :=
    fun b hb => Heap.get?_update_other _ _ (Ne.symm hb)
  have noRecord : ∀ b o, s.heap.get? b = some o → (∀ vs, o.data ≠ .fields vs) → b ≠ T := fun b o hb hnf q => by
    rw [q, hT] at hb; injection hb with hb; subst hb; exact hnf ts hdT
  have up : s.heap.UpToSlots (s.heap.update T (Obj.mapFields (·.setIfInBounds 3 ((none : Option Addr).elim Value.none fun f => rawInt f)))) := fun b o hb hnf => ⟨o.slots, (other b (noRecord b o hb hnf)).trans hb⟩
  refine h _ ⟨fun b o hbo => (other b fun q => by rw [q, hnT] at hbo; cases hbo).trans (F.stays b o hbo), F.new, F.frames.of_keeps fun b o hb hnf => ⟨o, (other b (noRecord b o hb hnf)).trans hb, rfl⟩, fun z => let ⟨a, q1, q2, q3⟩ := F.tup z; ⟨a, q1, q2.of_slots up, q3⟩, ?_⟩ up (by rw [Heap.size_after_update]; exact Nat.le_refl _)
  exact ⟨oe, ws, (other e (Ne.symm hTe)).trans he, hc, hd, h0, h2, hsz, .inr ⟨T, _, _, h1, hnT, hTe, Heap.get?_update_self _ hT (Obj.isFreed_of_fields (Obj.data_mapFields hdT _)), Obj.data_mapFields hdT _, by simp [(Array.getElem?_eq_some_iff.mp h3).1]⟩⟩

theorem FlyAt.pop {outer : List Env} {told : Bool} {fl : Value} {h : Heap} (F : FlyAt B (env :: outer) e cls t kn vs cx told fl h) : FlyAt B outer e cls t kn vs cx told fl h :=
  ⟨F.stays, F.new, F.frames.2.2, F.tup, F.recd⟩

theorem fly_leave {outer : List Env} {told : Bool} {Q : Unit → Shared → Prop} (hfr : A.frames = some (env :: outer)) (hf : env.frame = some L) (F : FlyAt B (env :: outer) e cls t kn vs cx told .none s.heap)
    (h : ∀ h', FlyAt B outer e cls t kn vs cx true .none h' → s.heap.UpToSlots h' → s.heap.objs.size ≤ h'.objs.size → Q () { s with heap := h' }) :
    wpAny M A (leaving env (.ref e)) Q E s := by
  unfold leaving
  refine wpAny_bind (fly_note hfr hf F fun h₁ F₁ u₁ z₁ => ?_)
  exact fly_land F₁ fun h₂ F₂ u₂ z₂ => h h₂ F₂.pop (u₁.trans u₂) (Nat.le_trans z₁ z₂)
theorem fly_leave_again {outer : List Env} {Q : Unit → Shared → Prop} (hf : env.frame = some L) (F : FlyAt B (env :: outer) e cls t kn vs cx true (rawInt L) s.heap)
    (h : ∀ h', FlyAt B outer e cls t kn vs cx true .none h' → s.heap.UpToSlots h' → s.heap.objs.size ≤ h'.objs.size → Q () { s with heap := h' }) :
    wpAny M A (leaving env (.ref e)) Q E s := by
  unfold leaving
  refine wpAny_bind (fly_again hf F ?_)
  exact fly_land F fun h₂ F₂ u₂ z₂ => h h₂ F₂.pop u₂ z₂

end

/-- the heap that stands beneath a flight: the frames hidden -/
structure Under (S : List Addr) (h B : Heap) : Prop where
  keep : ∀ b o, h.get? b = some o → b ∉ S → B.get? b = some o
  none : ∀ b, b ∈ S → B.get? b = none
theorem under_hide (S : List Addr) (h : Heap) : Under S h (hideAll h S) := ⟨fun _ _ e n => hideAll_get _ e n, fun _ m => hideAll_none _ m⟩
theorem hide_frames {h base : Heap} {l : List Env} (F : h.FunFrames base l) : h.FunFrames (hideAll h (l.filterMap (·.frame))) l :=
  funFrames_hide F fun _ he _ hf => List.mem_filterMap.mpr ⟨_, he, hf⟩

structure Exc where
  cls : Value
  args : List PV
  chained : Bool := false
  known : Bool := true

/-- an exception on its way through these frames -/
def GoneF (P : Params) (l : List Env) (h : Heap) (x : Exc) (a : Addr) (told : Bool) (fl : Value) (h' : Heap) : Prop :=
  ∃ B t vs cx, (∀ H Y, Reps P H Y x.args vs) ∧ (x.chained = false → cx = .none) ∧ FlyAt B l a x.cls t x.known vs cx told fl h' ∧ Under (l.filterMap (·.frame)) h B ∧ h.UpToSlots h' ∧ (h.get? a = none ∧ ∀ b, x.known = true → t = .ref b → h.get? b = none)
def Gone (P : Params) (l : List Env) (h : Heap) (x : Exc) (a : Addr) (h' : Heap) : Prop := ∃ told, GoneF P l h x a told .none h'
/-- in a frame: raised or arrived, or told of already -/
def Here (P : Params) (env : Env) (l : List Env) (h : Heap) (x : Exc) (a : Addr) (h' : Heap) : Prop :=
  ∃ told fl, (fl = .none ∨ (told = true ∧ ∃ L, env.frame = some L ∧ fl = rawInt L)) ∧ GoneF P l h x a told fl h'
theorem Gone.here {P : Params} {env : Env} {l : List Env} {h h' : Heap} {x : Exc} {a : Addr} (g : Gone P l h x a h') : Here P env l h x a h' := let ⟨t, g⟩ := g; ⟨t, _, .inl rfl, g⟩
section
variable {M : Model} {A : Around} {E : Value → Shared → Prop} {s : Shared} {P : Params} {env : Env} {outer : List Env} {h : Heap} {x : Exc} {a L : Addr}
/-- told of in this frame -/
theorem here_note {Q : Unit → Shared → Prop} (hfr : A.frames = some (env :: outer)) (hf : env.frame = some L) (G : Here P env (env :: outer) h x a s.heap)
    (k : ∀ h', GoneF P (env :: outer) h x a true (rawInt L) h' → Q () { s with heap := h' }) : wpAny M A (noteFrame (.ref a) env) Q E s := by
  obtain ⟨told, fl, c, B, t, vs, cx, g1, g2, g3, g4, g5, g7⟩ := G
  rcases c with rfl | ⟨rfl, L', hL', rfl⟩
  · exact fly_note hfr hf g3 fun h' F u _ => k h' ⟨B, t, vs, cx, g1, g2, F, g4, g5.trans u, g7⟩
  · rw [hf] at hL'; cases hL'
    exact fly_again hf g3 (k _ ⟨B, t, vs, cx, g1, g2, g3, g4, g5, g7⟩)
theorem gone_land {Q : Unit → Shared → Prop} {l : List Env} {fl : Value} (G : GoneF P l h x a true fl s.heap) (k : ∀ h', GoneF P l h x a true .none h' → Q () { s with heap := h' }) : wpAny M A (setFlight (.ref a) none) Q E s := by
  obtain ⟨B, t, vs, cx, g1, g2, g3, g4, g5, g7⟩ := G
  exact fly_land g3 fun h' F u _ => k h' ⟨B, t, vs, cx, g1, g2, F, g4, g5.trans u, g7⟩
/-- back in the frame behind a loop or a clause -/
theorem gone_set {Q : Unit → Shared → Prop} {l : List Env} {fl : Value} (hf : env.frame = some L) (G : GoneF P l h x a true fl s.heap) (k : ∀ h', GoneF P l h x a true (rawInt L) h' → Q () { s with heap := h' }) :
    wpAny M A (setFlight (.ref a) env.frame) Q E s := by
  obtain ⟨B, t, vs, cx, g1, g2, F, g4, g5, g7⟩ := G
  obtain ⟨oe, ws, he, hc, hd, h0, h2, hsz, h1⟩ := F.recd
  rcases h1 with ⟨q, _⟩ | ⟨T, oT, ts, h1, hnT, hTe, hT, hdT, h3⟩
  · cases q
  unfold setFlight
  refine wpAny_bind (wpAny_field he hd h1 ?_)
  rw [if_pos (show (Value.ref T != Value.none) = true from by simp), hf]
  refine wpAny_setField hT hdT (Array.getElem?_eq_some_iff.mp h3).1 ?_
  have other : ∀ b, b ≠ T → (s.heap.update T (Obj.mapFields (·.setIfInBounds 3 ((some L : Option Addr).elim Value.none fun f => rawInt f)))).get? b = s.heap.get? b :=
    fun b hb => Heap.get?_update_other _ _ (Ne.symm hb)
  have noRecord : ∀ b o, s.heap.get? b = some o → (∀ vs, o.data ≠ .fields vs) → b ≠ T := fun b o hb hnf q => by
    rw [q, hT] at hb; injection hb with hb; subst hb; exact hnf ts hdT
  have up : s.heap.UpToSlots (s.heap.update T (Obj.mapFields (·.setIfInBounds 3 ((some L : Option Addr).elim Value.none fun f => rawInt f)))) := fun b o hb hnf => ⟨o.slots, (other b (noRecord b o hb hnf)).trans hb⟩
  refine k _ ⟨B, t, vs, cx, g1, g2, ⟨fun b o hbo => (other b fun q => by rw [q, hnT] at hbo; cases hbo).trans (F.stays b o hbo), F.new, F.frames.of_keeps fun b o hb hnf => ⟨o, (other b (noRecord b o hb hnf)).trans hb, rfl⟩, fun z => let ⟨a, q1, q2, q3⟩ := F.tup z; ⟨a, q1, q2.of_slots up, q3⟩, ?_⟩, g4, g5.trans up, g7⟩
  exact ⟨oe, ws, (other _ (Ne.symm hTe)).trans he, hc, hd, h0, h2, hsz, .inr ⟨T, _, _, h1, hnT, hTe, Heap.get?_update_self _ hT (Obj.isFreed_of_fields (Obj.data_mapFields hdT _)), Obj.data_mapFields hdT _, by simp [(Array.getElem?_eq_some_iff.mp h3).1]⟩⟩
theorem gone_told {β : Type} {Q : β → Shared → Prop} {l : List Env} {fl : Value} {u v : Sem β} (G : GoneF P l h x a true fl s.heap) (k : wpAny M A v Q E s) : wpAny M A (do if (← field (.ref a) 1) == .none then u else v) Q E s := by
  obtain ⟨B, t, vs, cx, g1, g2, F, g4, g5, g7⟩ := G
  obtain ⟨oe, ws, he, hc, hd, h0, h2, hsz, h1⟩ := F.recd
  rcases h1 with ⟨q, _⟩ | ⟨T, oT, ts, h1, hnT, hTe, hT, hdT, h3⟩
  · cases q
  refine wpAny_bind (wpAny_field he hd h1 ?_)
  rw [if_neg (show ¬ ((Value.ref T == Value.none) = true) from by simp)]
  exact k
theorem gone_back {Q : Unit → Shared → Prop} {l : List Env} {fl : Value} (hf : env.frame = some L) (G : GoneF P l h x a true fl s.heap) (k : ∀ h', GoneF P l h x a true (rawInt L) h' → Q () { s with heap := h' }) :
    wpAny M A (do
      if (← field (.ref a) 1) == .none then unsupported "frame.own-activation:exception-without-traceback"
      setFlight (.ref a) env.frame) Q E s := gone_told G (gone_set hf G k)
theorem passOn_here {α : Type} {what : String} {Q' : α → Shared → Prop} {l : List Env} {fl : Value} (hf : env.frame = some L) (G : GoneF P l h x a true fl s.heap) (k : ∀ h', GoneF P l h x a true (rawInt L) h' → E (.ref a) { s with heap := h' }) :
    wpAny M A (PySem.passOn what (.ref a) env : Sem α) Q' E s := by
  unfold PySem.passOn
  exact gone_told G (wpAny_bind (gone_set hf G fun h' g => wpAny_throw (k h' g)))
/-- out of the frame -/
theorem here_leave {Q : Unit → Shared → Prop} (hfr : A.frames = some (env :: outer)) (hf : env.frame = some L) (G : Here P env (env :: outer) h x a s.heap)
    (k : ∀ h' B t vs cx, (∀ H Y, Reps P H Y x.args vs) → (x.chained = false → cx = .none) → FlyAt B outer a x.cls t x.known vs cx true .none h' → Under ((env :: outer).filterMap (·.frame)) h B → h.UpToSlots h' → (h.get? a = none ∧ ∀ b, x.known = true → t = .ref b → h.get? b = none) → Q () { s with heap := h' }) :
    wpAny M A (leaving env (.ref a)) Q E s := by
  unfold leaving
  refine wpAny_bind (here_note hfr hf G fun h₁ G₁ => gone_land G₁ fun h₂ G₂ => ?_)
  obtain ⟨B, t, vs, cx, g1, g2, g3, g4, g5, g7⟩ := G₂
  exact k h₂ B t vs cx g1 g2 g3.pop g4 g5 g7
end
end Mine
end
section
namespace Mine

/-- what is known of the heap behind the top's run -/
structure Bs (gl : Str → Option Value) (K : Frag) (h : Heap) : Prop where
  names : ∃ mg mb, h.Ns mainGlobals mg ∧ h.Ns builtinsNs mb ∧ ∀ x v, gl x = some v → mg x = some v ∨ (mg x = none ∧ mb x = some v)
  nolimit : h.NoLimit
  nodigits : ∃ mc, h.Ns cStatics mc ∧ mc "sys.int_max_str_digits" = none
  frag : K.In h
  sys : ∃ o, h.get? sysModules = some o
  exc : ∃ mg, OwnCls "InvalidBSON" 576 [.type "Exception", .type "BaseException", .type "object"] "Exception.__new__" mg h
theorem Bs.keeps {gl : Str → Option Value} {K : Frag} {h h' : Heap} (x : Bs gl K h) (k : ∀ b o, h.get? b = some o → h'.get? b = some o) : Bs gl K h' :=
  ⟨let ⟨mg, mb, a, b, c⟩ := x.names; ⟨mg, mb, a.keeps k, b.keeps k, c⟩, x.nolimit.keeps k, let ⟨mc, a, b⟩ := x.nodigits; ⟨mc, a.keeps k, b⟩, x.frag.keeps k, let ⟨o, e⟩ := x.sys; ⟨o, k _ _ e⟩, let ⟨mg, e⟩ := x.exc; ⟨mg, e.keeps k⟩⟩

structure St where
  vars : List (Str × PV)
  own : Option Str := none

/-- one activation -/
structure Cx where
  w : World
  gl : Str → Option Value
  K : Frag
  base : Heap
  env : Env
  fenv : Env
  outer : List Env
  dp : Nat
  un : Nat
  gd : Option (List Code)
  h0 : Heap
  M : Addr → Prop
  os : OsState
  S : List Addr
  hd : Option Value := none
  lw : Bool := true
  cw : Bool := true
abbrev Cx.A (C : Cx) : Around := { handled := C.hd, depth := C.dp, frames := some (C.fenv :: C.outer), guards := C.gd, units := C.un }
def Cx.S' (C : Cx) : List Addr := (C.fenv :: C.outer).filterMap (·.frame)
abbrev Cx.P (C : Cx) : Params := C.w.params

/-- the activation's fixed facts -/
structure Cx.Ok (C : Cx) : Prop where
  bs : Bs C.gl C.K C.base
  kind : C.env.scope.kind = .function
  glob : C.env.globals = mainGlobals
  blt : C.env.builtins = builtinsNs
  fr : C.env.frame = C.fenv.frame
  fk : C.fenv.scope.kind = .function
  ss : ∀ a, a ∈ C.S' → C.h0.get? a = none ∨ a ∈ C.S
  sm : ∀ a, a ∈ C.S' → C.M a
  lm : C.M C.env.locals
  cm : ∀ x c, C.env.cells.lookup x = some c → C.M c
  cd : ∀ x y c, C.env.cells.lookup x = some c → C.env.cells.lookup y = some c → x = y
  cl : ∀ x c, C.env.cells.lookup x = some c → c ≠ C.env.locals
  ml : C.lw = true → C.h0.get? C.env.locals = none
  mc : C.cw = true → ∀ x c, C.env.cells.lookup x = some c → C.h0.get? c = none
  ce : ∀ x, C.env.kindOf x = some .cell → ∃ c, C.env.cells.lookup x = some c
  fl : ∃ L, C.fenv.frame = some L

def VarAt (env : Env) (h : Heap) (x : Str) (v : Value) : Prop :=
  (env.kindOf x = some .local ∧ ∃ m, h.Ns env.locals m ∧ m x = some v) ∨
  (env.kindOf x = some .cell ∧ ∃ c, env.cells.lookup x = some c ∧ h.IsCell c (some v))

def OwnAt (P : Params) (h : Heap) (X : Addr → Prop) (a : Addr) : PV → Prop
  | .list ds => ∃ vs n, h.get? a = some (lstObj vs n) ∧ Reps P h X ds vs
  | .dict ks ds => ∃ es vs n, h.get? a = some (dctObj es n) ∧ (a ≠ sysModules ∧ Ents P ks vs es) ∧ Reps P h X ds vs
  | _ => False

structure Inv (C : Cx) (s : Shared) (σ : St) (X : Addr → Prop) : Prop where
  stay : C.base.StaysIn s.heap
  up : Up C.S C.h0 s.heap
  frames : s.heap.FunFrames C.base (C.fenv :: C.outer)
  gens : s.gens = #[]
  os : s.os = C.os
  mx : ∀ a, C.M a → X a
  xb : ∀ a, X a → C.base.get? a = none
  xl : ∀ a, X a → ∃ o, s.heap.get? a = some o
  ns : ∃ m, s.heap.Ns C.env.locals m
  cells : ∀ x c, C.env.cells.lookup x = some c → ∃ v, s.heap.IsCell c v
  vars : ∀ x d, σ.vars.lookup x = some d → σ.own ≠ some x → ∃ v, VarAt C.env s.heap x v ∧ Rep C.P s.heap X d v
  own : ∀ x, σ.own = some x → ∃ a d, σ.vars.lookup x = some d ∧ VarAt C.env s.heap x (.ref a) ∧ X a ∧ ¬ C.M a ∧ C.h0.get? a = none ∧ OwnAt C.P s.heap X a d ∧ ∀ b, X b → C.M b ∨ b = a
  xm : σ.own = none → ∀ a, X a → C.M a

theorem VarAt.keeps {env : Env} {h h' : Heap} {x : Str} {v : Value} (k : ∀ b o, h.get? b = some o → h'.get? b = some o) (a : VarAt env h x v) : VarAt env h' x v :=
  a.imp (fun ⟨e, m, n, z⟩ => ⟨e, m, n.keeps k, z⟩) fun ⟨e, c, n, z⟩ => ⟨e, c, n, z.keeps k⟩
theorem Ext.of_keeps {X : Addr → Prop} {h h' : Heap} (k : ∀ b o, h.get? b = some o → h'.get? b = some o) : Ext X X h h' :=
  ⟨fun a o e _ => k a o e, fun _ q => .inl q⟩
theorem OwnAt.keeps {P : Params} {h h' : Heap} {X : Addr → Prop} {a : Addr} (k : ∀ b o, h.get? b = some o → h'.get? b = some o) : ∀ {d : PV}, OwnAt P h X a d → OwnAt P h' X a d
  | .list _, ⟨vs, n, e, r⟩ => ⟨vs, n, k _ _ e, Reps.ext (Ext.of_keeps k) r⟩
  | .dict _ _, ⟨es, vs, n, e, q, r⟩ => ⟨es, vs, n, k _ _ e, q, Reps.ext (Ext.of_keeps k) r⟩

/-- a step that leaves all that stood -/
theorem Inv.step {C : Cx} {s : Shared} {σ : St} {X : Addr → Prop} (I : Inv C s σ X) {h' : Heap} {t : Nat} (k : ∀ b o, s.heap.get? b = some o → h'.get? b = some o) :
    Inv C { s with heap := h', toks := t } σ X where
  stay := fun b o e => k b o (I.stay b o e)
  up := I.up.trans (Up.of_keeps k)
  frames := I.frames.of_keeps fun b o e _ => ⟨o, k b o e, rfl⟩
  gens := I.gens
  os := I.os
  mx := I.mx
  xb := I.xb
  xl := fun a q => let ⟨o, e⟩ := I.xl a q; ⟨o, k a o e⟩
  ns := let ⟨m, n⟩ := I.ns; ⟨m, n.keeps k⟩
  cells := fun x c e => let ⟨v, q⟩ := I.cells x c e; ⟨v, q.keeps k⟩
  vars := fun x d e n => let ⟨v, a, r⟩ := I.vars x d e n; ⟨v, a.keeps k, Rep.ext (Ext.of_keeps k) r⟩
  own := fun x e => let ⟨a, d, p1, p2, p3, p4, p5, p6, p7⟩ := I.own x e; ⟨a, d, p1, p2.keeps k, p3, p4, p5, p6.keeps k, p7⟩
  xm := I.xm

def EvP (C : Cx) (Q : PV → St → Prop) (X : Addr → Prop) (h : Heap) (v : Value) (s' : Shared) : Prop :=
  ∃ d σ' X', Q d σ' ∧ Inv C s' σ' X' ∧ Rep C.P s'.heap X' d v ∧ Ext X X' h s'.heap

/-- an exception on its way in this frame: just made, or come out of a call -/
def ErP (C : Cx) (R : Exc → St → Prop) (X : Addr → Prop) (h : Heap) (v : Value) (s' : Shared) : Prop :=
  ∃ x σ' X' a h₁, v = .ref a ∧ R x σ' ∧ Inv C { s' with heap := h₁ } σ' X' ∧ Ext X X' h h₁ ∧ Here C.P C.fenv (C.fenv :: C.outer) h₁ x a s'.heap

/-- an expression's triple -/
def TE (C : Cx) (e : Expr) (σ : St) (Q : PV → St → Prop) (R : Exc → St → Prop) : Prop :=
  ∀ s X, Inv C s σ X → wpAny (model prog C.w) C.A (eval e C.env) (EvP C Q X s.heap) (ErP C R X s.heap) s

theorem EvP.of {C : Cx} {Q : PV → St → Prop} {X X' : Addr → Prop} {h h' : Heap} {v : Value} {s' : Shared} (x : Ext X X' h h') (e : EvP C Q X' h' v s') : EvP C Q X h v s' := by
  obtain ⟨d, σ', X'', q, i, r, y⟩ := e
  exact ⟨d, σ', X'', q, i, r, x.trans y⟩
theorem Inv.fresh {C : Cx} {s : Shared} {σ : St} {X : Addr → Prop} (I : Inv C s σ X) : ¬ X s.heap.objs.size := fun q => by obtain ⟨o, e⟩ := I.xl _ q; exact absurd (Heap.lt_size e) (Nat.lt_irrefl _)
theorem ErP.of {C : Cx} {R : Exc → St → Prop} {X X' : Addr → Prop} {h h' : Heap} {v : Value} {s' : Shared} (x : Ext X X' h h') (e : ErP C R X' h' v s') : ErP C R X h v s' := by
  obtain ⟨d, σ', X'', a, h₁, z, q, f, y, g⟩ := e
  exact ⟨d, σ', X'', a, h₁, z, q, f, x.trans y, g⟩

/-- a built-in step: it makes at most new things -/
def Pur (w : World) (A : Around) (t : Sem Value) (s : Shared) (X : Addr → Prop) (K : PV → Prop) : Prop :=
  ∀ E, wpAny (model prog w) A t (fun v s' => ∃ d h' k, K d ∧ s' = { s with heap := h', toks := k } ∧ (∀ b o, s.heap.get? b = some o → h'.get? b = some o) ∧ Rep w.params h' X d v) E s

theorem Pur.use {C : Cx} {t : Sem Value} {s : Shared} {σ : St} {X : Addr → Prop} {K : PV → Prop} {Q : PV → St → Prop} {R : Exc → St → Prop} (p : Pur C.w C.A t s X K) (I : Inv C s σ X) (h : ∀ d, K d → Q d σ) :
    wpAny (model prog C.w) C.A t (EvP C Q X s.heap) (ErP C R X s.heap) s := by
  refine wpAny_mono (p _) (fun v s' ⟨d, h', k, q, e, ke, r⟩ => ?_) fun _ _ y => y
  subst e
  exact ⟨d, σ, X, h d q, I.step ke, r, Ext.of_keeps ke⟩

theorem TE.mono {C : Cx} {e : Expr} {σ : St} {Q Q' : PV → St → Prop} {R R' : Exc → St → Prop} (t : TE C e σ Q R) (h : ∀ d σ, Q d σ → Q' d σ) (h' : ∀ x σ, R x σ → R' x σ) : TE C e σ Q' R' := fun s X I =>
  wpAny_mono (t s X I) (fun _ _ ⟨d, σ', X', q, r⟩ => ⟨d, σ', X', h d σ' q, r⟩) fun _ _ ⟨x, σ', X', a, h₁, z, q, r⟩ => ⟨x, σ', X', a, h₁, z, h' x σ' q, r⟩

/-- one after the other -/
theorem wp_then {C : Cx} {α : Type} {t : Sem Value} {f : Value → Sem α} {s : Shared} {X : Addr → Prop} {h : Heap} {Q₁ : PV → St → Prop} {R : Exc → St → Prop} {Q : α → Shared → Prop}
    (a : wpAny (model prog C.w) C.A t (EvP C Q₁ X h) (ErP C R X h) s)
    (b : ∀ v d σ X' s', Q₁ d σ → Inv C s' σ X' → Rep C.P s'.heap X' d v → Ext X X' h s'.heap → wpAny (model prog C.w) C.A (f v) Q (ErP C R X' s'.heap) s')
    : wpAny (model prog C.w) C.A t (fun v s' => wpAny (model prog C.w) C.A (f v) Q (ErP C R X h) s') (ErP C R X h) s :=
  wpAny_mono a (fun v s' ⟨d, σ, X', q, i, r, x⟩ => wpAny_mono (b v d σ X' s' q i r x) (fun _ _ y => y) fun _ _ y => ErP.of x y) fun _ _ y => y
end Mine
end
section
namespace Mine

def EvB (C : Cx) (Q : Bool → St → Prop) (X : Addr → Prop) (h : Heap) (b : Bool) (s' : Shared) : Prop :=
  ∃ σ' X', Q b σ' ∧ Inv C s' σ' X' ∧ Ext X X' h s'.heap
def EvA (C : Cx) (Q : List PV → St → Prop) (X : Addr → Prop) (h : Heap) (vs : List Value) (s' : Shared) : Prop :=
  ∃ ds σ' X', Q ds σ' ∧ Inv C s' σ' X' ∧ Reps C.P s'.heap X' ds vs ∧ Ext X X' h s'.heap
theorem EvB.of {C : Cx} {Q : Bool → St → Prop} {X X' : Addr → Prop} {h h' : Heap} {v : Bool} {s' : Shared} (x : Ext X X' h h') (e : EvB C Q X' h' v s') : EvB C Q X h v s' := by
  obtain ⟨σ', X'', q, i, y⟩ := e
  exact ⟨σ', X'', q, i, x.trans y⟩
theorem EvA.of {C : Cx} {Q : List PV → St → Prop} {X X' : Addr → Prop} {h h' : Heap} {v : List Value} {s' : Shared} (x : Ext X X' h h') (e : EvA C Q X' h' v s') : EvA C Q X h v s' := by
  obtain ⟨d, σ', X'', q, i, r, y⟩ := e
  exact ⟨d, σ', X'', q, i, r, x.trans y⟩
/-- a test's triple -/
def TB (C : Cx) (e : Expr) (σ : St) (Q : Bool → St → Prop) (R : Exc → St → Prop) : Prop :=
  ∀ s X, Inv C s σ X → wpAny (model prog C.w) C.A (isTrue e C.env (eval e C.env)) (EvB C Q X s.heap) (ErP C R X s.heap) s
/-- the triple of a row of arguments -/
def TA (C : Cx) (es : List Expr) (σ : St) (Q : List PV → St → Prop) (R : Exc → St → Prop) : Prop :=
  ∀ pos s X, Inv C s σ X → wpAny (model prog C.w) C.A (spliced (backTo pos (starEach es C.env))) (EvA C Q X s.heap) (ErP C R X s.heap) s

section
variable {C : Cx} {σ : St} {R : Exc → St → Prop}

theorem Inv.tok {s : Shared} {X : Addr → Prop} (I : Inv C s σ X) (t : Nat) : Inv C { s with toks := t } σ X := I.step fun _ _ e => e

theorem TE.const_none {k pos} {Q : PV → St → Prop} (h : Q .none σ) : TE C (.Constant .none k pos) σ Q R := fun s X I =>
  wpAny_Constant_none ⟨_, _, X, h, I, by simp only [Rep], Ext.refl⟩
theorem TE.const_bool {b k pos} {Q : PV → St → Prop} (h : Q (.bool b) σ) : TE C (.Constant (.bool b) k pos) σ Q R := fun s X I =>
  wpAny_Constant_bool ⟨_, _, X, h, I, by simp only [Rep], Ext.refl⟩
theorem TE.const_int {i k pos} {Q : PV → St → Prop} (h : Q (.int i) σ) : TE C (.Constant (.int i) k pos) σ Q R := fun s X I =>
  wpAny_Constant_int ⟨_, _, X, h, I.tok _, by simp only [Rep]; exact ⟨_, rfl⟩, Ext.refl⟩
theorem TE.const_str {x k pos} {Q : PV → St → Prop} (h : Q (.str x) σ) : TE C (.Constant (.str x) k pos) σ Q R := fun s X I =>
  wpAny_Constant_str ⟨_, _, X, h, I.tok _, by simp only [Rep]; exact ⟨_, rfl⟩, Ext.refl⟩
theorem TE.const_bytes {x k pos} {Q : PV → St → Prop} (h : Q (.bytes x) σ) : TE C (.Constant (.bytes x) k pos) σ Q R := fun s X I => by
  show wpAny _ _ (mkTextBytes x.toArray) _ _ s
  exact wpAny_bind (wpAny_fresh (wpAny_pure ⟨_, _, X, h, I.tok _, by simp only [Rep]; exact ⟨_, rfl⟩, Ext.refl⟩))

/-- the state behind a look at a name: what was held apart is held no more -/
def St.seen (σ : St) (x : Str) : St := if σ.own = some x then { σ with own := none } else σ

theorem Rep.sub {P : Params} {h : Heap} {X Y : Addr → Prop} (f : ∀ a, Y a → X a) {d : PV} {v : Value} (r : Rep P h X d v) : Rep P h Y d v :=
  Rep.ext ⟨fun _ _ e _ => e, fun a q => .inl (f a q)⟩ r
theorem Reps.sub {P : Params} {h : Heap} {X Y : Addr → Prop} (f : ∀ a, Y a → X a) {d : List PV} {v : List Value} (r : Reps P h X d v) : Reps P h Y d v :=
  Reps.ext ⟨fun _ _ e _ => e, fun a q => .inl (f a q)⟩ r

theorem own_rep {P : Params} {h : Heap} {X Y : Addr → Prop} {a : Addr} (f : ∀ a, Y a → X a) (n : ¬ Y a) : ∀ {d : PV}, OwnAt P h X a d → Rep P h Y d (.ref a)
  | .list _, ⟨vs, m, e, r⟩ => by simp only [Rep]; exact ⟨a, vs, m, rfl, e, n, Reps.sub f r⟩
  | .dict _ _, ⟨es, vs, m, e, q, r⟩ => by simp only [Rep]; exact ⟨a, es, vs, m, rfl, e, n, q, Reps.sub f r⟩

theorem Inv.seen {s : Shared} {X : Addr → Prop} (I : Inv C s σ X) {x : Str} {d : PV} (e : σ.vars.lookup x = some d) :
    ∃ v X', VarAt C.env s.heap x v ∧ Rep C.P s.heap X' d v ∧ Inv C s (σ.seen x) X' ∧ Ext X X' s.heap s.heap := by
  by_cases ho : σ.own = some x
  · obtain ⟨a, d', p1, p2, p3, p4, p5, p6, p7⟩ := I.own x ho
    rw [e] at p1; cases p1
    refine ⟨.ref a, C.M, p2, own_rep I.mx p4 p6, ?_, ⟨fun _ _ e _ => e, fun a q => .inl (I.mx a q)⟩⟩
    unfold St.seen
    rw [if_pos ho]
    exact { I with
      mx := fun _ q => q
      xb := fun a q => I.xb a (I.mx a q)
      xl := fun a q => I.xl a (I.mx a q)
      vars := fun y d' e' n => by
        by_cases hy : y = x
        · subst hy
          rw [e] at e'; cases e'
          exact ⟨.ref a, p2, own_rep I.mx p4 p6⟩
        · obtain ⟨v, q1, q2⟩ := I.vars y d' e' (by rw [ho]; intro z; exact hy (Option.some.inj z).symm)
          exact ⟨v, q1, Rep.sub I.mx q2⟩
      own := fun y e' => nomatch e'
      xm := fun _ a q => q }
  · obtain ⟨v, q1, q2⟩ := I.vars x d e ho
    refine ⟨v, X, q1, q2, ?_, Ext.refl⟩
    unfold St.seen
    rw [if_neg ho]
    exact I

theorem load_var {M : Model} {A : Around} {E : Value → Shared → Prop} {s : Shared} {x : Str} {v : Value} {Q : Value → Shared → Prop} (ok : C.Ok) (a : VarAt C.env s.heap x v) (h : Q v s) :
    wpAny M A (loadName C.env x) Q E s := by
  rcases a with ⟨k, m, n, e⟩ | ⟨k, c, e, i⟩
  · exact wpAny_loadName_local ok.kind k n e h
  · exact wpAny_loadName_cell ok.kind k e i h

theorem TE.name_var (ok : C.Ok) {x : Str} {d : PV} {pos} {Q : PV → St → Prop} (e : σ.vars.lookup x = some d) (hd : (x == ("__debug__" : Str)) = false) (h : Q d (σ.seen x)) : TE C (.Name x pos) σ Q R := fun s X I => by
  obtain ⟨v, X', a, r, i, ex⟩ := I.seen e
  exact wpAny_Name (load_var ok a ⟨d, _, X', h, i, r, ex⟩) hd

theorem load_glob {M : Model} {A : Around} {E : Value → Shared → Prop} {s : Shared} {x : Str} {v : Value} {Q : Value → Shared → Prop} (ok : C.Ok) (st : C.base.StaysIn s.heap) (k : C.env.kindOf x = some .globalImplicit) (e : C.gl x = some v) (h : Q v s) :
    wpAny M A (loadName C.env x) Q E s := by
  obtain ⟨mg, mb, hg, hb, hx⟩ := ok.bs.names
  have hg' := hg.keeps st
  have hb' := hb.keeps st
  unfold loadName
  simp only [Env.blockKind, ok.kind, k, ScopeKind.isAnnotationScope, Bool.false_and, Bool.false_eq_true, if_false]
  unfold loadGlobal
  rw [ok.glob, ok.blt]
  refine wpAny_bind (wpAny_nsGet hg' ?_)
  rcases hx x v e with q | ⟨q1, q2⟩
  · rw [q]; exact wpAny_pure h
  · rw [q1]
    refine wpAny_bind (wpAny_nsGet hb' ?_)
    rw [q2]; exact wpAny_pure h

theorem TE.name_glob (ok : C.Ok) {x : Str} {v : Value} {pos} {Q : PV → St → Prop} (k : C.env.kindOf x = some .globalImplicit) (e : C.gl x = some v) (hd : (x == ("__debug__" : Str)) = false) (h : Q (.ext v) σ) : TE C (.Name x pos) σ Q R := fun s X I =>
  wpAny_Name (load_glob ok I.stay k e ⟨_, _, X, h, I, by simp only [Rep], Ext.refl⟩) hd

/-- two values, one after the other, then what is made of them -/
theorem TE.two {l r : Expr} {Q : PV → St → Prop} {f : Value → Value → Sem Value} {e : Expr}
    (rule : ∀ {Q : Value → Shared → Prop} {E : Value → Shared → Prop} {s : Shared}, wpAny (model prog C.w) C.A (eval l C.env) (fun a s₁ => wpAny (model prog C.w) C.A (eval r C.env) (fun b s₂ => wpAny (model prog C.w) C.A (f a b) Q E s₂) E s₁) E s → wpAny (model prog C.w) C.A (eval e C.env) Q E s)
    (h : TE C l σ (fun a σ₁ => TE C r σ₁ (fun b σ₂ => ∀ s X va vb, Inv C s σ₂ X → Rep C.P s.heap X a va → Rep C.P s.heap X b vb → Pur C.w C.A (f va vb) s X fun d => Q d σ₂) R) R) :
    TE C e σ Q R := fun s X I => by
  refine rule (wpAny_mono (h s X I) (fun va s₁ ⟨a, σ₁, X₁, q₁, i₁, r₁, x₁⟩ => ?_) fun _ _ y => y)
  refine wpAny_mono (q₁ s₁ X₁ i₁) (fun vb s₂ ⟨b, σ₂, X₂, q₂, i₂, r₂, x₂⟩ => ?_) fun _ _ y => ErP.of x₁ y
  exact wpAny_mono (Pur.use (q₂ s₂ X₂ va vb i₂ (Rep.ext x₂ r₁) r₂) i₂ fun _ z => z) (fun _ _ y => EvP.of (x₁.trans x₂) y) fun _ _ y => ErP.of (x₁.trans x₂) y

theorem TE.binop {l r : Expr} {op : Operator} {pos} {Q : PV → St → Prop}
    (h : TE C l σ (fun a σ₁ => TE C r σ₁ (fun b σ₂ => ∀ s X va vb, Inv C s σ₂ X → Rep C.P s.heap X a va → Rep C.P s.heap X b vb → Pur C.w C.A (binaryOp op va vb) s X fun d => Q d σ₂) R) R) :
    TE C (.BinOp l op r pos) σ Q R := TE.two (fun x => wpAny_BinOp x) h
theorem TE.cmp {l r : Expr} {op : CmpOp} {pos} {Q : PV → St → Prop} (hm : behindInMarks op r = false)
    (h : TE C l σ (fun a σ₁ => TE C r σ₁ (fun b σ₂ => ∀ s X va vb, Inv C s σ₂ X → Rep C.P s.heap X a va → Rep C.P s.heap X b vb → Pur C.w C.A (compareOp op va vb) s X fun d => Q d σ₂) R) R) :
    TE C (.Compare l [op] [r] pos) σ Q R := TE.two (fun x => wpAny_Compare1 x hm) h

theorem TE.unop {e : Expr} {op : UnaryOp} {pos} {Q : PV → St → Prop}
    (h : TE C e σ (fun a σ₁ => ∀ s X va, Inv C s σ₁ X → Rep C.P s.heap X a va → Pur C.w C.A (unaryOp op va) s X fun d => Q d σ₁) R) : TE C (.UnaryOp op e pos) σ Q R := fun s X I => by
  refine wpAny_UnaryOp (wpAny_mono (h s X I) (fun va s₁ ⟨a, σ₁, X₁, q₁, i₁, r₁, x₁⟩ => ?_) fun _ _ y => y)
  exact wpAny_mono (Pur.use (q₁ s₁ X₁ va i₁ r₁) i₁ fun _ z => z) (fun _ _ y => EvP.of x₁ y) fun _ _ y => ErP.of x₁ y

theorem TE.ifexp {t b o : Expr} {pos} {Q : PV → St → Prop} (h : TB C t σ (fun c σ₁ => if c then TE C b σ₁ Q R else TE C o σ₁ Q R) R) : TE C (.IfExp t b o pos) σ Q R := fun s X I => by
  refine wpAny_IfExp (wpAny_mono (h s X I) (fun c s₁ ⟨σ₁, X₁, q₁, i₁, x₁⟩ => ?_) fun _ _ y => y)
  cases c
  · exact wpAny_mono (q₁ s₁ X₁ i₁) (fun _ _ y => EvP.of x₁ y) fun _ _ y => ErP.of x₁ y
  · exact wpAny_mono (q₁ s₁ X₁ i₁) (fun _ _ y => EvP.of x₁ y) fun _ _ y => ErP.of x₁ y


theorem TB.of_cmp {l r : Expr} {op : CmpOp} {pos} {Q : Bool → St → Prop} (hm : behindInMarks op r = false)
    (h : TE C l σ (fun a σ₁ => TE C r σ₁ (fun b σ₂ => ∀ s X va vb, Inv C s σ₂ X → Rep C.P s.heap X a va → Rep C.P s.heap X b vb → Pur C.w C.A (compareOp op va vb) s X fun d => ∃ c, d = .bool c ∧ Q c σ₂) R) R) :
    TB C (.Compare l [op] [r] pos) σ Q R := fun s X I => by
  refine wpAny_isTrue_Compare1 (wpAny_mono (h s X I) (fun va s₁ ⟨a, σ₁, X₁, q₁, i₁, r₁, x₁⟩ => ?_) fun _ _ y => y) hm
  refine wpAny_mono (q₁ s₁ X₁ i₁) (fun vb s₂ ⟨b, σ₂, X₂, q₂, i₂, r₂, x₂⟩ => ?_) fun _ _ y => ErP.of x₁ y
  refine wpAny_mono (q₂ s₂ X₂ va vb i₂ (Rep.ext x₂ r₁) r₂ _) (fun v s' ⟨d, h', k, ⟨c, e, q⟩, e', ke, r⟩ => ?_) fun _ _ y => y
  subst e e'
  simp only [Rep] at r
  subst r
  exact wpAny_truthy_bool ⟨σ₂, X₂, q, i₂.step ke, (x₁.trans x₂).trans (Ext.of_keeps ke)⟩

theorem TB.not {e : Expr} {pos} {Q : Bool → St → Prop} (h : TB C e σ (fun b σ₁ => Q (!b) σ₁) R) : TB C (.UnaryOp .Not e pos) σ Q R := fun s X I =>
  wpAny_isTrue_Not (wpAny_mono (h s X I) (fun _ _ ⟨σ₁, X₁, q, i, x⟩ => ⟨σ₁, X₁, q, i, x⟩) fun _ _ y => y)

theorem TB.ifexp {t b o : Expr} {pos} {Q : Bool → St → Prop} (h : TB C t σ (fun c σ₁ => if c then TB C b σ₁ Q R else TB C o σ₁ Q R) R) : TB C (.IfExp t b o pos) σ Q R := fun s X I => by
  rw [arm_isTrue_IfExp]
  refine wpAny_bind (wpAny_mono (h s X I) (fun c s₁ ⟨σ₁, X₁, q₁, i₁, x₁⟩ => ?_) fun _ _ y => y)
  cases c
  · exact wpAny_mono (q₁ s₁ X₁ i₁) (fun _ _ y => EvB.of x₁ y) fun _ _ y => ErP.of x₁ y
  · exact wpAny_mono (q₁ s₁ X₁ i₁) (fun _ _ y => EvB.of x₁ y) fun _ _ y => ErP.of x₁ y

/-- several tests joined -/
def TBs (C : Cx) (op : BoolOp) (es : List Expr) (σ : St) (Q : Bool → St → Prop) (R : Exc → St → Prop) : Prop :=
  ∀ s X, Inv C s σ X → wpAny (model prog C.w) C.A (allTrue op es C.env) (EvB C Q X s.heap) (ErP C R X s.heap) s
theorem TB.bool {op : BoolOp} {es : List Expr} {pos} {Q : Bool → St → Prop} (h : TBs C op es σ Q R) : TB C (.BoolOp op es pos) σ Q R := fun s X I => wpAny_isTrue_BoolOp (h s X I)
theorem TBs.and_nil {Q : Bool → St → Prop} (h : Q true σ) : TBs C .And [] σ Q R := fun s X I => wpAny_allTrue_And_nil ⟨σ, X, h, I, Ext.refl⟩
theorem TBs.or_nil {Q : Bool → St → Prop} (h : Q false σ) : TBs C .Or [] σ Q R := fun s X I => wpAny_allTrue_Or_nil ⟨σ, X, h, I, Ext.refl⟩
theorem TBs.and_cons {e : Expr} {es : List Expr} {Q : Bool → St → Prop} (h : TB C e σ (fun b σ₁ => if b then TBs C .And es σ₁ Q R else Q false σ₁) R) : TBs C .And (e :: es) σ Q R := fun s X I => by
  refine wpAny_allTrue_And_cons (wpAny_mono (h s X I) (fun c s₁ ⟨σ₁, X₁, q₁, i₁, x₁⟩ => ?_) fun _ _ y => y)
  cases c
  · exact ⟨σ₁, X₁, q₁, i₁, x₁⟩
  · exact wpAny_mono (q₁ s₁ X₁ i₁) (fun _ _ y => EvB.of x₁ y) fun _ _ y => ErP.of x₁ y
theorem TBs.or_cons {e : Expr} {es : List Expr} {Q : Bool → St → Prop} (h : TB C e σ (fun b σ₁ => if b then Q true σ₁ else TBs C .Or es σ₁ Q R) R) : TBs C .Or (e :: es) σ Q R := fun s X I => by
  refine wpAny_allTrue_Or_cons (wpAny_mono (h s X I) (fun c s₁ ⟨σ₁, X₁, q₁, i₁, x₁⟩ => ?_) fun _ _ y => y)
  cases c
  · exact wpAny_mono (q₁ s₁ X₁ i₁) (fun _ _ y => EvB.of x₁ y) fun _ _ y => ErP.of x₁ y
  · exact ⟨σ₁, X₁, q₁, i₁, x₁⟩

/-- the truth of a value: a step -/
def Tru (w : World) (A : Around) (v : Value) (s : Shared) (b : Bool) : Prop :=
  ∀ E (Q : Bool → Shared → Prop), (∀ k, Q b { s with toks := k }) → wpAny (model prog w) A (truthy v) Q E s

theorem TB.value {e : Expr} {Q : Bool → St → Prop} (he : ∀ env whole, isTrue e env whole = (do let v ← whole; standAt e.pos; holding [v] (truthy v)))
    (h : TE C e σ (fun d σ₁ => ∀ s X v, Inv C s σ₁ X → Rep C.P s.heap X d v → ∃ b, Tru C.w C.A v s b ∧ Q b σ₁) R) : TB C e σ Q R := fun s X I => by
  refine wpAny_isTrue_value (wpAny_mono (h s X I) (fun v s₁ ⟨d, σ₁, X₁, q₁, i₁, r₁, x₁⟩ => ?_) fun _ _ y => y) (he _ _)
  obtain ⟨b, t, q⟩ := q₁ s₁ X₁ v i₁ r₁
  exact t _ _ fun k => ⟨σ₁, X₁, q, i₁.tok k, x₁⟩

theorem TE.and2 {a b : Expr} {pos} {Q : PV → St → Prop}
    (h : TE C a σ (fun d σ₁ => ∀ s X v, Inv C s σ₁ X → Rep C.P s.heap X d v → ∃ c, Tru C.w C.A v s c ∧ if c then TE C b σ₁ Q R else Q d σ₁) R) : TE C (.BoolOp .And [a, b] pos) σ Q R := fun s X I => by
  refine wpAny_And2 (wpAny_mono (h s X I) (fun v s₁ ⟨d, σ₁, X₁, q₁, i₁, r₁, x₁⟩ => ?_) fun _ _ y => y)
  obtain ⟨c, t, q⟩ := q₁ s₁ X₁ v i₁ r₁
  refine t _ _ fun k => ?_
  cases c
  · exact ⟨d, σ₁, X₁, q, i₁.tok k, r₁, x₁⟩
  · exact wpAny_mono (q _ X₁ (i₁.tok k)) (fun _ _ y => EvP.of x₁ y) fun _ _ y => ErP.of x₁ y
theorem TE.or2 {a b : Expr} {pos} {Q : PV → St → Prop}
    (h : TE C a σ (fun d σ₁ => ∀ s X v, Inv C s σ₁ X → Rep C.P s.heap X d v → ∃ c, Tru C.w C.A v s c ∧ if c then Q d σ₁ else TE C b σ₁ Q R) R) : TE C (.BoolOp .Or [a, b] pos) σ Q R := fun s X I => by
  refine wpAny_Or2 (wpAny_mono (h s X I) (fun v s₁ ⟨d, σ₁, X₁, q₁, i₁, r₁, x₁⟩ => ?_) fun _ _ y => y)
  obtain ⟨c, t, q⟩ := q₁ s₁ X₁ v i₁ r₁
  refine t _ _ fun k => ?_
  cases c
  · exact wpAny_mono (q _ X₁ (i₁.tok k)) (fun _ _ y => EvP.of x₁ y) fun _ _ y => ErP.of x₁ y
  · exact ⟨d, σ₁, X₁, q, i₁.tok k, r₁, x₁⟩

def notStar : Expr → Bool
  | .Starred .. => false
  | _ => true
theorem starEach_plain {e : Expr} (h : notStar e = true) (rest : List Expr) (env : Env) : starEach (e :: rest) env = (false, eval e env) :: starEach rest env := by
  cases e <;> first | rfl | cases h
theorem TA.nil {Q : List PV → St → Prop} (h : Q [] σ) : TA C [] σ Q R := fun pos s X I => wpAny_items_nil ⟨[], σ, X, h, I, Reps.nil, Ext.refl⟩
theorem TA.cons {e : Expr} {es : List Expr} {Q : List PV → St → Prop} (n : notStar e = true) (h : TE C e σ (fun d σ₁ => TA C es σ₁ (fun ds σ₂ => Q (d :: ds) σ₂) R) R) : TA C (e :: es) σ Q R := fun pos s X I => by
  refine wpAny_items_cons (wpAny_mono (h s X I) (fun v s₁ ⟨d, σ₁, X₁, q₁, i₁, r₁, x₁⟩ => ?_) fun _ _ y => y) (starEach_plain n _ _)
  exact wpAny_mono (q₁ pos s₁ X₁ i₁) (fun vs s₂ ⟨ds, σ₂, X₂, q₂, i₂, r₂, x₂⟩ => ⟨d :: ds, σ₂, X₂, q₂, i₂, Reps.cons (Rep.ext x₂ r₁) r₂, x₁.trans x₂⟩) fun _ _ y => ErP.of x₁ y

theorem push_keeps (h : Heap) (o : Obj) : ∀ b x, h.get? b = some x → (h.push o).get? b = some x := fun _ _ e => Heap.get?_push_of_some o e
end
end Mine
end
section
namespace Mine
section
variable {w : World} {A : Around} {s : Shared} {X : Addr → Prop} {K : PV → Prop}

/-- a step that makes nothing -/
theorem Pur.tok {t : Sem Value} {d : PV} (hK : K d) (rule : ∀ (E : Value → Shared → Prop) (Q : Value → Shared → Prop), (∀ v k, (∀ h Y, Rep w.params h Y d v) → Q v { s with toks := k }) → wpAny (model prog w) A t Q E s) : Pur w A t s X K := fun E =>
  rule E _ fun v k r => ⟨d, s.heap, k, hK, rfl, fun _ _ e => e, r _ _⟩
/-- a step that hands on what is there -/
theorem Pur.same {t : Sem Value} {d : PV} {v : Value} (hK : K d) (r : Rep w.params s.heap X d v) (rule : ∀ (E : Value → Shared → Prop) (Q : Value → Shared → Prop), (∀ k, Q v { s with toks := k }) → wpAny (model prog w) A t Q E s) : Pur w A t s X K := fun E =>
  rule E _ fun k => ⟨d, s.heap, k, hK, rfl, fun _ _ e => e, r⟩
/-- a step that makes one thing -/
theorem Pur.made {t : Sem Value} {d : PV} {o : Obj} (hK : K d) (r : Rep w.params (s.heap.push o) X d (.ref s.heap.objs.size)) (rule : ∀ (E : Value → Shared → Prop) (Q : Value → Shared → Prop), (∀ k, Q (.ref s.heap.objs.size) { s with heap := s.heap.push o, toks := k }) → wpAny (model prog w) A t Q E s) : Pur w A t s X K := fun E =>
  rule E _ fun k => ⟨d, s.heap.push o, k, hK, rfl, push_keeps _ _, r⟩

theorem rep_int {h : Heap} {Y : Addr → Prop} (i : Int) (t : Tok) {P : Params} : Rep P h Y (.int i) (.int i t) := by simp only [Rep]; exact ⟨_, rfl⟩
theorem rep_str {h : Heap} {Y : Addr → Prop} (i : Str) (t : Tok) {P : Params} : Rep P h Y (.str i) (.str i t) := by simp only [Rep]; exact ⟨_, rfl⟩
theorem rep_bytes {h : Heap} {Y : Addr → Prop} (i : List UInt8) (t : Tok) {P : Params} : Rep P h Y (.bytes i) (.bytes i.toArray t) := by simp only [Rep]; exact ⟨_, rfl⟩
theorem rep_bool {h : Heap} {Y : Addr → Prop} (i : Bool) {P : Params} : Rep P h Y (.bool i) (.bool i) := by simp only [Rep]
theorem rep_none {h : Heap} {Y : Addr → Prop} {P : Params} : Rep P h Y .none .none := by simp only [Rep]
theorem rep_list {h : Heap} {Y : Addr → Prop} {P : Params} {vs : List Value} {ds : List PV} {n : Nat} {a : Addr} (e : h.get? a = some (lstObj vs n)) (y : ¬ Y a) (r : Reps P h Y ds vs) : Rep P h Y (.list ds) (.ref a) := by
  simp only [Rep]; exact ⟨a, vs, n, rfl, e, y, r⟩
theorem rep_tuple {h : Heap} {Y : Addr → Prop} {P : Params} {vs : List Value} {ds : List PV} {a : Addr} (e : h.get? a = some (tupObj vs)) (y : ¬ Y a) (r : Reps P h Y ds vs) : Rep P h Y (.tuple ds) (.ref a) := by
  simp only [Rep]; exact ⟨a, vs, rfl, e, y, r⟩
theorem Ext.push {h : Heap} {o : Obj} : Ext X X h (h.push o) := Ext.of_keeps (push_keeps _ _)
theorem new_list {h : Heap} {P : Params} {vs : List Value} {ds : List PV} (hx : ¬ X h.objs.size) (r : Reps P h X ds vs) : Rep P (h.push (lstObj vs 0)) X (.list ds) (.ref h.objs.size) :=
  rep_list (n := 0) (Heap.get?_push_size _ rfl) hx (Reps.ext Ext.push r)
theorem new_tuple {h : Heap} {P : Params} {vs : List Value} {ds : List PV} (hx : ¬ X h.objs.size) (r : Reps P h X ds vs) : Rep P (h.push (tupObj vs)) X (.tuple ds) (.ref h.objs.size) :=
  rep_tuple (Heap.get?_push_size _ rfl) hx (Reps.ext Ext.push r)

theorem isList_of {h : Heap} {a : Addr} {vs : List Value} {n : Nat} (e : h.get? a = some (lstObj vs n)) : h.IsList a vs.toArray := ⟨_, e, rfl, n, rfl⟩
theorem isTup_of {h : Heap} {a : Addr} {vs : List Value} (e : h.get? a = some (tupObj vs)) : IsTup h a vs.toArray := ⟨_, e, rfl, 0, rfl⟩

/-- what a two-sided operator gives -/
def binW (op : Operator) (a b : PV) (K : PV → Prop) : Prop := match op, a, b with
  | .Add, .int x, .int y => K (.int (x + y))
  | .Sub, .int x, .int y => K (.int (x - y))
  | .Mod, .int x, .int y => y ≠ 0 ∧ K (.int (x.fmod y))
  | .FloorDiv, .int x, .int y => (y ≠ 0 ∧ Builtin.divisionGoesByPylong x y = false) ∧ K (.int (x.fdiv y))
  | .Add, .str x, .str y => x.length + y.length ≤ 16777216 ∧ K (.str (x ++ y))
  | .Add, .bytes x, .bytes y => x.length + y.length ≤ 16777216 ∧ K (.bytes (x ++ y))
  | .Add, .list x, .list y => x.length + y.length ≤ 16777216 ∧ K (.list (x ++ y))
  | _, _, _ => False

theorem binW_sound {op : Operator} {a b : PV} {va vb : Value} (hx : ¬ X s.heap.objs.size) (ra : Rep w.params s.heap X a va) (rb : Rep w.params s.heap X b vb) (h : binW op a b K) : Pur w A (binaryOp op va vb) s X K := by
  unfold binW at h
  split at h
  · simp only [Rep] at ra rb; obtain ⟨t, rfl⟩ := ra; obtain ⟨u, rfl⟩ := rb
    exact Pur.tok h fun E Q k => add_int (k _ _ fun _ _ => rep_int _ _)
  · simp only [Rep] at ra rb; obtain ⟨t, rfl⟩ := ra; obtain ⟨u, rfl⟩ := rb
    exact Pur.tok h fun E Q k => sub_int (k _ _ fun _ _ => rep_int _ _)
  · simp only [Rep] at ra rb; obtain ⟨t, rfl⟩ := ra; obtain ⟨u, rfl⟩ := rb
    exact Pur.tok h.2 fun E Q k => mod_int h.1 (k _ _ fun _ _ => rep_int _ _)
  · simp only [Rep] at ra rb; obtain ⟨t, rfl⟩ := ra; obtain ⟨u, rfl⟩ := rb
    exact Pur.tok h.2 fun E Q k => floordiv_int h.1.1 (k _ _ fun _ _ => rep_int _ _) (.inl h.1.2)
  · simp only [Rep] at ra rb; obtain ⟨t, rfl⟩ := ra; obtain ⟨u, rfl⟩ := rb
    exact Pur.tok h.2 fun E Q k => add_str (fun t' k' => k _ _ fun _ _ => rep_str _ _) (by rw [sizeLine_eq]; exact h.1)
  · simp only [Rep] at ra rb; obtain ⟨t, rfl⟩ := ra; obtain ⟨u, rfl⟩ := rb
    exact Pur.tok h.2 fun E Q k => KBy.add_bytes (by simpa using h.1) fun t' k' => by rw [List.append_toArray]; exact k _ _ fun _ _ => rep_bytes _ _
  · simp only [Rep] at ra rb
    obtain ⟨a, vs, n, rfl, ea, na, r1⟩ := ra
    obtain ⟨b, us, m, rfl, eb, nb, r2⟩ := rb
    refine Pur.made h.2 (new_list hx (Reps.append r1 r2)) fun E Q k => ?_
    refine concat_meets ⟨_, ea, rfl⟩ ⟨_, eb, rfl⟩ noFill_list_add seq_list_add PySem.F.slot_list_add PySem.F.entry_list_add (PySem.F.args_list_add_2 _ _) (list_addW a b vs.toArray us.toArray n m none none #[] #[] (by simp only [List.size_toArray, sizeLine_eq]; rw [Reps.length r1, Reps.length r2]; exact h.1)) ⟨ea, eb, ?_⟩
    rw [List.append_toArray]
    exact k _
  · exact h.elim

/-- sums in place: the same -/
def augW (op : Operator) (a b : PV) (K : PV → Prop) : Prop := match op, a, b with
  | .Add, .int x, .int y => K (.int (x + y))
  | .Sub, .int x, .int y => K (.int (x - y))
  | _, _, _ => False
theorem augW_sound {op : Operator} {a b : PV} {va vb : Value} (ra : Rep w.params s.heap X a va) (rb : Rep w.params s.heap X b vb) (h : augW op a b K) : Pur w A (inplaceOp op va vb) s X K := by
  unfold augW at h
  split at h
  · simp only [Rep] at ra rb; obtain ⟨t, rfl⟩ := ra; obtain ⟨u, rfl⟩ := rb
    exact Pur.tok h fun E Q k => iadd_int (k _ _ fun _ _ => rep_int _ _)
  · simp only [Rep] at ra rb; obtain ⟨t, rfl⟩ := ra; obtain ⟨u, rfl⟩ := rb
    exact Pur.tok h fun E Q k => isub_int (k _ _ fun _ _ => rep_int _ _)
  · exact h.elim

def unW (op : UnaryOp) (a : PV) (K : PV → Prop) : Prop := match op, a with
  | .USub, .int x => K (.int (-x))
  | _, _ => False
theorem unW_sound {op : UnaryOp} {a : PV} {va : Value} (ra : Rep w.params s.heap X a va) (h : unW op a K) : Pur w A (unaryOp op va) s X K := by
  unfold unW at h
  split at h
  · simp only [Rep] at ra; obtain ⟨t, rfl⟩ := ra
    exact Pur.tok h fun E Q k => neg_int (k _ _ fun _ _ => rep_int _ _)
  · exact h.elim
end
end Mine
end
section
namespace Mine
section
variable {w : World} {A : Around} {s : Shared} {X : Addr → Prop} {K : PV → Prop}

theorem ents_keys {P : Params} : ∀ {ks : List Str} {vs : List Value} {es : List DictEntry}, Ents P ks vs es → ∀ e ∈ es, ∃ k t, e.key = .str k t ∧ e.hash = PyData.keyHash P k
  | [], [], [], _, _, h => nomatch h
  | _ :: _, _ :: _, _ :: _, ⟨⟨t, e1⟩, e2, _, _⟩, _, .head _ => ⟨_, t, e1, e2⟩
  | _ :: _, _ :: _, _ :: _, ⟨_, _, _, r⟩, _, .tail _ m => ents_keys r _ m
def lookF (x : Str) : List Str → List Value → Option Value
  | k :: ks, v :: vs => if x = k then some v else lookF x ks vs
  | _, _ => none
theorem ents_find {P : Params} {x : Str} : ∀ {ks : List Str} {vs : List Value} {es : List DictEntry}, Ents P ks vs es → (es.find? fun e => Value.isStrOf x e.key).map (·.val) = lookF x ks vs
  | [], [], [], _ => rfl
  | k :: ks, v :: vs, e :: es, ⟨⟨t, e1⟩, _, e3, r⟩ => by
    have hk : Value.isStrOf x e.key = decide (x = k) := by
      rw [e1]
      by_cases h : x = k
      · subst h
        have : Value.isStrOf x (.str x t) = true := by rw [← isStr_of]; simp [Value.isStr]
        rw [this]; simp
      · have h2 : Value.isStrOf x (.str k t) = false := by rw [← isStr_of]; simpa [Value.isStr] using Ne.symm h
        rw [h2]; simp [h]
    rw [List.find?_cons, hk]
    by_cases h : x = k
    · simp [h, lookF, e3]
    · simp only [h, decide_false, lookF, if_false]
      exact ents_find r
theorem ents_map {h : Heap} {a : Addr} {es : List DictEntry} {n : Nat} {ks : List Str} {vs : List Value} (ho : h.get? a = some (dctObj es n)) (e : Ents w.params ks vs es) :
    h.MapOf (strKind prog w) a fun x => lookF x ks vs :=
  ⟨_, es.toArray, n, ho, ⟨rfl, rfl, rfl⟩, rfl, fun en he => by
    obtain ⟨k, t, e1, e2⟩ := ents_keys e en (by simpa using he)
    exact ⟨k, by rw [e1]; exact strKind_is prog w k t, e2⟩, fun x => by
    unfold findBy
    rw [List.find?_toArray]
    exact ents_find e⟩
theorem lookF_some {x : Str} : ∀ {ks : List Str} {vs : List Value}, ks.length = vs.length → (lookF x ks vs).isSome = ks.contains x
  | [], _, _ => rfl
  | _ :: _, [], h => nomatch h
  | k :: ks, v :: vs, h => by
    have := lookF_some (x := x) (ks := ks) (vs := vs) (by simpa using h)
    unfold lookF
    by_cases e : x = k
    · simp [e]
    · have e' : (x == k) = false := by simpa using e
      simp [e, List.contains_cons, this, e']
theorem ents_len {P : Params} : ∀ {ks : List Str} {vs : List Value} {es : List DictEntry}, Ents P ks vs es → ks.length = vs.length ∧ es.length = vs.length
  | [], [], [], _ => ⟨rfl, rfl⟩
  | _ :: _, _ :: _, _ :: _, ⟨_, _, _, r⟩ => by have := ents_len r; simp [this.1, this.2]

def isNoneF : PV → Bool
  | .none => true
  | _ => false
theorem isNone_rep {P : Params} {h : Heap} {d : PV} {v : Value} (n : ∀ u, d ≠ .ext u) (r : Rep P h X d v) : (v == Value.none) = isNoneF d := by
  cases d <;> simp only [Rep] at r
  case none => subst r; rfl
  case bool => subst r; rfl
  case ext u => exact absurd rfl (n u)
  case int => obtain ⟨_, rfl⟩ := r; rfl
  case str => obtain ⟨_, rfl⟩ := r; rfl
  case bytes => obtain ⟨_, rfl⟩ := r; rfl
  case list => obtain ⟨_, _, _, rfl, _⟩ := r; rfl
  case tuple => obtain ⟨_, _, rfl, _⟩ := r; rfl
  case dict => obtain ⟨_, _, _, _, rfl, _⟩ := r; rfl
  case code => obtain ⟨_, _, _, _, _, _, rfl, _⟩ := r; rfl

def notExt : PV → Bool
  | .ext _ => false
  | _ => true

/-- what a comparison says -/
def cmpW (op : CmpOp) (a b : PV) (K : Bool → Prop) : Prop := match op, a, b with
  | .Eq, .int x, .int y => K (x == y)
  | .NotEq, .int x, .int y => K (x != y)
  | .Lt, .int x, .int y => K (decide (x < y))
  | .LtE, .int x, .int y => K (decide (x ≤ y))
  | .Gt, .int x, .int y => K (decide (y < x))
  | .GtE, .int x, .int y => K (decide (y ≤ x))
  | .Eq, .bytes x, .bytes y => K (x == y)
  | .NotEq, .bytes x, .bytes y => K (x != y)
  | .Eq, .str x, .str y => K (x == y)
  | .NotEq, .str x, .str y => K (x != y)
  | .Is, x, .none => notExt x = true ∧ K (isNoneF x)
  | .IsNot, x, .none => notExt x = true ∧ K (!isNoneF x)
  | .In, .str x, .str y => K (!(Builtin.Str.occurrences y x 0 y.length 1).isEmpty)
  | .In, .str x, .dict ks _ => K (ks.contains x)
  | _, _, _ => False

theorem cmpW_sound {op : CmpOp} {a b : PV} {va vb : Value} {K : Bool → Prop} (ra : Rep w.params s.heap X a va) (rb : Rep w.params s.heap X b vb) (h : cmpW op a b K) : Pur w A (compareOp op va vb) s X fun d => ∃ c, d = .bool c ∧ K c := by
  unfold cmpW at h
  split at h
  · simp only [Rep] at ra rb; obtain ⟨t, rfl⟩ := ra; obtain ⟨u, rfl⟩ := rb
    exact Pur.same ⟨_, rfl, h⟩ (rep_bool _) fun E Q k => eq_int (k s.toks)
  · simp only [Rep] at ra rb; obtain ⟨t, rfl⟩ := ra; obtain ⟨u, rfl⟩ := rb
    exact Pur.same ⟨_, rfl, h⟩ (rep_bool _) fun E Q k => ne_int (k s.toks)
  · simp only [Rep] at ra rb; obtain ⟨t, rfl⟩ := ra; obtain ⟨u, rfl⟩ := rb
    exact Pur.same ⟨_, rfl, h⟩ (rep_bool _) fun E Q k => lt_int (k s.toks)
  · simp only [Rep] at ra rb; obtain ⟨t, rfl⟩ := ra; obtain ⟨u, rfl⟩ := rb
    exact Pur.same ⟨_, rfl, h⟩ (rep_bool _) fun E Q k => le_int (k s.toks)
  · simp only [Rep] at ra rb; obtain ⟨t, rfl⟩ := ra; obtain ⟨u, rfl⟩ := rb
    exact Pur.same ⟨_, rfl, h⟩ (rep_bool _) fun E Q k => gt_int (k s.toks)
  · simp only [Rep] at ra rb; obtain ⟨t, rfl⟩ := ra; obtain ⟨u, rfl⟩ := rb
    exact Pur.same ⟨_, rfl, h⟩ (rep_bool _) fun E Q k => ge_int (k s.toks)
  · simp only [Rep] at ra rb; obtain ⟨t, rfl⟩ := ra; obtain ⟨u, rfl⟩ := rb
    exact Pur.same ⟨_, rfl, h⟩ (rep_bool _) fun E Q k => W.eq_bytes (by simpa using k s.toks)
  · simp only [Rep] at ra rb; obtain ⟨t, rfl⟩ := ra; obtain ⟨u, rfl⟩ := rb
    exact Pur.same ⟨_, rfl, h⟩ (rep_bool _) fun E Q k => W.ne_bytes (by simpa using k s.toks)
  · simp only [Rep] at ra rb; obtain ⟨t, rfl⟩ := ra; obtain ⟨u, rfl⟩ := rb
    exact Pur.same ⟨_, rfl, h⟩ (rep_bool _) fun E Q k => PyProof.Rows.eq_str (k s.toks)
  · simp only [Rep] at ra rb; obtain ⟨t, rfl⟩ := ra; obtain ⟨u, rfl⟩ := rb
    exact Pur.same ⟨_, rfl, h⟩ (rep_bool _) fun E Q k => PyProof.Rows.ne_str (k s.toks)
  · simp only [Rep] at rb; subst rb
    rename_i x y
    refine Pur.same ⟨_, rfl, h.2⟩ (rep_bool _) fun E Q k => is_none ?_
    rw [isNone_rep (fun u e => by subst e; exact absurd h.1 (by simp [notExt])) ra]
    exact k s.toks
  · simp only [Rep] at rb; subst rb
    refine Pur.same ⟨_, rfl, h.2⟩ (rep_bool _) fun E Q k => isNot_none ?_
    rw [isNone_rep (fun u e => by subst e; exact absurd h.1 (by simp [notExt])) ra]
    exact k s.toks
  · simp only [Rep] at ra rb; obtain ⟨t, rfl⟩ := ra; obtain ⟨u, rfl⟩ := rb
    exact Pur.same ⟨_, rfl, h⟩ (rep_bool _) fun E Q k => in_str (k s.toks)
  · simp only [Rep] at ra rb
    obtain ⟨t, rfl⟩ := ra
    obtain ⟨a, es, vs, n, rfl, ea, na, he, r2⟩ := rb
    refine Pur.same ⟨_, rfl, h⟩ (rep_bool _) fun E Q k => wpAny_in_of (strKind_is prog w _ t) (by simpa using he.1) (ents_map ea he.2) ?_
    rw [lookF_some (ents_len he.2).1]
    exact k _
  · exact h.elim

/-- the truth of a value -/
def truW (d : PV) (K : Bool → Prop) : Prop := match d with
  | .none => K false
  | .bool b => K b
  | .int i => K (i != 0)
  | .bytes b => b.length ≤ 1099511627776 ∧ K (((b.length : Nat) : Int) != 0)
  | _ => False
theorem truW_sound {d : PV} {v : Value} {K : Bool → Prop} (r : Rep w.params s.heap X d v) (h : truW d K) : ∃ b, Tru w A v s b ∧ K b := by
  unfold truW at h
  split at h
  · simp only [Rep] at r; subst r
    exact ⟨_, fun E Q k => wpAny_pure (k s.toks), h⟩
  · simp only [Rep] at r; subst r
    exact ⟨_, fun E Q k => wpAny_truthy_bool (k s.toks), h⟩
  · simp only [Rep] at r; obtain ⟨t, rfl⟩ := r
    exact ⟨_, fun E Q k => truthy_int (k s.toks), h⟩
  · simp only [Rep] at r; obtain ⟨t, rfl⟩ := r
    exact ⟨_, fun E Q k => W.truthy_bytes (by simpa using h.1) (by simpa using k _), h.2⟩
  · exact h.elim
end
end Mine
end
section
namespace Mine
section
variable {w : World} {A : Around} {s : Shared} {X : Addr → Prop} {K : PV → Prop}

theorem subscripted_op (slice : Expr) (o i : Value) : ∃ ops, subscripted slice false o i = operate ops (getItem o i) := by
  unfold subscripted
  split
  · exact ⟨_, rfl⟩
  · rename_i h; cases h
  · exact ⟨_, rfl⟩

/-- an item at a place -/
def itemW (a b : PV) (K : PV → Prop) : Prop := match a, b with
  | .bytes x, .int i => (0 ≤ i ∧ i < x.length ∧ x.length ≤ 1099511627776) ∧ K (.int ((x.getD i.toNat 0).toNat : Int))
  | .list ds, .int i => (0 ≤ i ∧ i < 2 ^ 63) ∧ (match ds[i.toNat]? with | some d => K d | none => False)
  | .tuple ds, .int i => (0 ≤ i ∧ i < 2 ^ 63) ∧ (match ds[i.toNat]? with | some d => K d | none => False)
  | .str x, .int i => (0 ≤ i ∧ i < x.length ∧ x.length ≤ 1099511627776) ∧ K (.str ⟨#[x.cps.getD i.toNat 0]⟩)
  | _, _ => False

theorem seqIndex_nat {i : Int} {n : Nat} (h0 : 0 ≤ i) (h1 : i < n) : seqIndex? i n = some i.toNat := by
  have hn : ¬ i < 0 := by omega
  simp [seqIndex?, hn, h0, h1]

theorem itemW_sound {value slice : Expr} {a b : PV} {va vb : Value} (ra : Rep w.params s.heap X a va) (rb : Rep w.params s.heap X b vb) (h : itemW a b K) : Pur w A (subscriptTail value slice va vb) s X K := by
  obtain ⟨ops, hops⟩ := subscripted_op slice va vb
  cases a <;> cases b <;> simp only [itemW] at h <;> try exact h.elim
  case str.int x i =>
    simp only [Rep] at ra rb; obtain ⟨t, rfl⟩ := ra; obtain ⟨u, rfl⟩ := rb
    have hlt : i.toNat < x.cps.size := by have := h.1.2.1; simp only [Str.length] at this; omega
    refine Pur.tok h.2 fun E Q k => tail_any (typeIs_str _ _ _) slot_str_getitem.lookup (getItem_str (c := x.cps.getD i.toNat 0) ?_ ?_ (k _ _ fun _ _ => rep_str _ _)) hops
    · have := h.1.1; have := h.1.2.1; have := h.1.2.2
      rw [decide_eq_false (by omega), decide_eq_false (by omega)]; rfl
    · rw [seqIndex_nat h.1.1 h.1.2.1]
      simp [Array.getD, hlt]
  case bytes.int x i =>
    simp only [Rep] at ra rb; obtain ⟨t, rfl⟩ := ra; obtain ⟨u, rfl⟩ := rb
    exact Pur.tok h.2 fun E Q k => tail_any (W.typeIs_bytes _ _ _) FB.slot_bytes_getitem.lookup (W.getItem_bytes h.1.2.2 h.1.1 h.1.2.1 (k _ _ fun _ _ => rep_int _ _)) hops
  case list.int ds i =>
    simp only [Rep] at ra rb
    obtain ⟨a, vs, n, rfl, ea, na, r1⟩ := ra
    obtain ⟨u, rfl⟩ := rb
    obtain ⟨⟨h0, h1⟩, h2⟩ := h
    split at h2
    · rename_i d hd
      obtain ⟨v, hv, rv⟩ := Reps.get r1 hd
      exact Pur.same h2 rv fun E Q k => tail_any (isList_of ea).typeIs slot_list_getitem.lookup (wpAny_getItem_list (isList_of ea) h0 h1 (by simpa using hv) (k s.toks)) hops
    · exact h2.elim
  case tuple.int ds i =>
    simp only [Rep] at ra rb
    obtain ⟨a, vs, rfl, ea, na, r1⟩ := ra
    obtain ⟨u, rfl⟩ := rb
    obtain ⟨⟨h0, h1⟩, h2⟩ := h
    split at h2
    · rename_i d hd
      obtain ⟨v, hv, rv⟩ := Reps.get r1 hd
      have hlt : i.toNat < vs.length := (List.getElem?_eq_some_iff.mp hv).1
      exact Pur.same h2 rv fun E Q k => tail_any (isTup_of ea).typeIs slot_tuple_getitem.lookup (getItem_tuple (isTup_of ea) (by omega) h1 (seqIndex_nat h0 (by simp; omega)) (by simpa using hv) (k s.toks)) hops
    · exact h2.elim

/-- a piece -/
def cutF {α : Type} (l : List α) (lo hi : Option Int) : List α := (l.drop (lo.elim 0 (clipAt l.length))).take (hi.elim l.length (clipAt l.length) - lo.elim 0 (clipAt l.length))
def strCut (x : Str) (i : Int) : Str := if (Builtin.Str.strSliceIndices none (some i) 1 x.length).length == x.length then x else ⟨((Builtin.Str.strSliceIndices none (some i) 1 x.length).filterMap (x.cps[·]?)).toArray⟩
def sliceW (a : PV) (lo hi : Option Int) (K : PV → Prop) : Prop := match a, lo, hi with
  | .bytes x, lo, hi => x.length ≤ 16777216 ∧ K (.bytes (cutF x lo hi))
  | .list x, lo, hi => x.length ≤ 16777216 ∧ K (.list (cutF x lo hi))
  | .str x, none, some i => (x.length ≤ 16777216 ∧ (strCut x i).length ≤ 16777216) ∧ K (.str (strCut x i))
  | _, _, _ => False

theorem Reps.cut {P : Params} {h : Heap} {ds : List PV} {vs : List Value} (r : Reps P h X ds vs) (lo hi : Option Int) : Reps P h X (cutF ds lo hi) (cutF vs lo hi) := by
  unfold cutF
  rw [Reps.length r]
  exact Reps.take _ (Reps.drop _ r)

abbrev slcObj (l u : Value) : Obj := { cls := .type "slice", data := .fields #[l, u, .none] }
theorem sliceW_sound {value slice : Expr} {a : PV} {va l u : Value} {lo hi : Option Int} (hx : ∀ a, X a → ∃ o, s.heap.get? a = some o) (ra : Rep w.params s.heap X a va) (pl : IsPart l lo) (pu : IsPart u hi) (h : sliceW a lo hi K) :
    Pur w A (subscriptTail value slice va (.ref s.heap.objs.size)) { s with heap := s.heap.push (slcObj l u) } X K := by
  obtain ⟨ops, hops⟩ := subscripted_op slice va (.ref s.heap.objs.size)
  cases a <;> try exact h.elim
  case bytes x =>
    simp only [sliceW] at h
    simp only [Rep] at ra; obtain ⟨t, rfl⟩ := ra
    refine Pur.tok h.2 fun E Q k => tail_any (W.typeIs_bytes _ _ _) FB.slot_bytes_getitem.lookup (getItem_meets (W.typeIs_bytes _ _ _) (by decide) FB.slot_bytes_getitem FB.entry_bytes_getitem (FB.args_bytes_getitem_2 _ _) (KBc.meets_slice2 x.toArray t _ pl pu) ?_) hops
    refine ⟨Heap.IsSliceOf.new _ _ _ _, Nat.le_trans (KBc.size_picked_le _ _ _) (by rw [sizeLine_eq]; simpa using h.1), fun t' k' => ?_⟩
    rw [KBc.picked_eq]
    exact k _ _ fun _ _ => by simpa [cutF] using rep_bytes _ _
  case list x =>
    simp only [sliceW] at h
    simp only [Rep] at ra
    obtain ⟨a, vs, n, rfl, ea, na, r1⟩ := ra
    have e' : (s.heap.push (slcObj l u)).get? a = some (lstObj vs n) := push_keeps _ _ _ _ ea
    have hl : ({ s with heap := s.heap.push (slcObj l u) } : Shared).heap.IsList a vs.toArray := isList_of e'
    have fr : ¬ X (s.heap.push (slcObj l u)).objs.size := fun q => by
      obtain ⟨o, q2⟩ := hx _ q
      have q3 := Heap.lt_size q2
      rw [Heap.size_push] at q3
      exact absurd q3 (Nat.not_lt.mpr (Nat.le_succ _))
    refine Pur.made (o := lstObj (cutF vs lo hi) 0) h.2 (new_list fr (Reps.ext Ext.push (Reps.cut r1 lo hi))) fun E Q k => tail_any hl.typeIs list_getitem_lookup
      (wpAny_getItem_list_slice hl (Heap.IsSliceOf.new ..) pl pu .none (by simp) ?_ (by rw [sizeLine_eq]; simpa [Reps.length r1] using h.1)) hops
    have e : slicePick vs.toArray lo hi none = (cutF vs lo hi).toArray := by rw [slicePick_plain]; simp [cutF]
    rw [e]
    exact k s.toks
  case str x =>
    simp only [Rep] at ra; obtain ⟨t, rfl⟩ := ra
    cases pl <;> try exact h.elim
    cases pu <;> try exact h.elim
    rename_i i ti
    simp only [sliceW] at h
    have hS : ({ s with heap := s.heap.push (slcObj .none (.int i ti)) } : Shared).heap.IsSlice s.heap.objs.size none (some (i, ti)) none := ⟨_, Heap.get?_push_size _ rfl, rfl, rfl⟩
    refine Pur.tok h.2 fun E Q k => tail_any (typeIs_str _ _ _) slot_str_getitem.lookup (wpAny_getItem_str_slice (l := none) (u := some (i, ti)) (st := none) hS rfl ?_) hops
    unfold sliceMade
    by_cases c : ((Builtin.Str.strSliceIndices none (some i) 1 x.length).length == x.length) = true
    · have e : strCut x i = x := by unfold strCut; rw [if_pos c]
      rw [if_pos (by show ((1 : Int) == 1 && _) = true; simpa [slicePicked] using c)]
      rw [e] at k
      exact k _ _ fun _ _ => rep_str _ _
    · have e : strCut x i = ⟨((Builtin.Str.strSliceIndices none (some i) 1 x.length).filterMap (x.cps[·]?)).toArray⟩ := by unfold strCut; rw [if_neg c]
      rw [if_neg (by show ¬ ((1 : Int) == 1 && _) = true; simpa [slicePicked] using c)]
      refine ⟨?_, k _ _ fun _ _ => ?_⟩
      · rw [sizeLine_eq]
        have := h.1.2
        rw [e] at this
        exact this
      · rw [e]; exact rep_str _ _
end

section
variable {C : Cx} {σ : St} {R : Exc → St → Prop}
def EvO (C : Cx) (Q : Option Int → St → Prop) (X : Addr → Prop) (h : Heap) (v : Value) (s' : Shared) : Prop :=
  ∃ o σ' X', Q o σ' ∧ Inv C s' σ' X' ∧ IsPart v o ∧ Ext X X' h s'.heap
/-- the triple of a slice's part -/
def TO (C : Cx) (e : Option Expr) (σ : St) (Q : Option Int → St → Prop) (R : Exc → St → Prop) : Prop :=
  ∀ s X, Inv C s σ X → wpAny (model prog C.w) C.A (evalPart e C.env) (EvO C Q X s.heap) (ErP C R X s.heap) s
theorem TO.none {Q : Option Int → St → Prop} (h : Q none σ) : TO C none σ Q R := fun s X I => wpAny_pure ⟨_, σ, X, h, I, .none, Ext.refl⟩
def intW (d : PV) (K : Int → Prop) : Prop := match d with
  | .int i => K i
  | _ => False
theorem TO.some {e : Expr} {Q : Option Int → St → Prop} (h : TE C e σ (fun d σ₁ => intW d fun i => Q (some i) σ₁) R) : TO C (some e) σ Q R := fun s X I => by
  refine wpAny_mono (h s X I) (fun v s' ⟨d, σ', X', q, i, r, x⟩ => ?_) fun _ _ y => y
  cases d <;> try exact q.elim
  case int k =>
    simp only [Rep] at r; obtain ⟨t, rfl⟩ := r
    exact ⟨_, σ', X', q, i, .int _ _, x⟩

theorem TE.item {v i : Expr} {pos} {Q : PV → St → Prop} (h : TE C v σ (fun a σ₁ => TE C i σ₁ (fun b σ₂ => itemW a b fun d => Q d σ₂) R) R) : TE C (.Subscript v i pos) σ Q R :=
  TE.two (fun x => Subscript_ x) (TE.mono h (fun _ _ y => TE.mono y (fun _ _ z _ _ _ _ _ ra rb => itemW_sound ra rb z) fun _ _ z => z) fun _ _ z => z)

theorem TE.slice {v : Expr} {lo hi : Option Expr} {p pos} {Q : PV → St → Prop} (h : TE C v σ (fun a σ₁ => TO C lo σ₁ (fun l σ₂ => TO C hi σ₂ (fun u σ₃ => sliceW a l u fun d => Q d σ₃) R) R) R) : TE C (.Subscript v (.Slice lo hi none p) pos) σ Q R := fun s X I => by
  refine Subscript_ (wpAny_mono (h s X I) (fun va s₁ ⟨a, σ₁, X₁, q₁, i₁, r₁, x₁⟩ => wpAny_Slice ?_) fun _ _ y => y)
  refine wpAny_mono (q₁ s₁ X₁ i₁) (fun vl s₂ ⟨l, σ₂, X₂, q₂, i₂, p₂, x₂⟩ => ?_) fun _ _ y => ErP.of x₁ y
  refine wpAny_mono (q₂ s₂ X₂ i₂) (fun vu s₃ ⟨u, σ₃, X₃, q₃, i₃, p₃, x₃⟩ => ?_) fun _ _ y => ErP.of (x₁.trans x₂) y
  rw [evalPart_none]
  refine wpAny_pure ?_
  have i₄ : Inv C { s₃ with heap := s₃.heap.push (slcObj vl vu) } σ₃ X₃ := i₃.step (push_keeps _ _)
  have x₄ : Ext X X₃ s.heap (s₃.heap.push (slcObj vl vu)) := ((x₁.trans x₂).trans x₃).trans Ext.push
  refine wpAny_mono (Pur.use (sliceW_sound i₃.xl (Rep.ext (x₂.trans x₃) r₁) p₂ p₃ q₃) i₄ fun _ z => z) (fun _ _ y => EvP.of x₄ y) fun _ _ y => ErP.of x₄ y

theorem TE.list {es : List Expr} {pos} {Q : PV → St → Prop} (h : TA C es σ (fun ds σ₁ => ds.length ≤ 16777216 ∧ Q (.list ds) σ₁) R) : TE C (.List es pos) σ Q R := fun s X I => by
  refine wpAny_List (wpAny_mono (h pos s X I) (fun vs s₁ ⟨ds, σ₁, X₁, ⟨z, q₁⟩, i₁, r₁, x₁⟩ => ?_) fun _ _ y => y)
  refine ⟨by rw [Reps.length r₁, sizeLine_eq]; exact z, .list ds, σ₁, X₁, q₁, i₁.step (t := s₁.toks) (push_keeps _ _), new_list i₁.fresh r₁, x₁.trans Ext.push⟩
theorem TE.tuple {es : List Expr} {k pos} {Q : PV → St → Prop} (h : TA C es σ (fun ds σ₁ => ds.length ≤ 16777216 ∧ Q (.tuple ds) σ₁) R) : TE C (.Tuple es k pos) σ Q R := fun s X I => by
  refine wpAny_Tuple (wpAny_mono (h pos s X I) (fun vs s₁ ⟨ds, σ₁, X₁, ⟨z, q₁⟩, i₁, r₁, x₁⟩ => ?_) fun _ _ y => y)
  refine ⟨by rw [Reps.length r₁, sizeLine_eq]; exact z, .tuple ds, σ₁, X₁, q₁, i₁.step (t := s₁.toks) (push_keeps _ _), new_tuple i₁.fresh r₁, x₁.trans Ext.push⟩
end
end Mine
end
section
namespace Mine

inductive Out where
  | next | brk | cont
  | ret (d : PV)

def FlowRep (C : Cx) (h : Heap) (X : Addr → Prop) : Out → Flow → Prop
  | .next, f => f = .next
  | .brk, f => f = .brk
  | .cont, f => f = .cont
  | .ret d, f => ∃ v, f = .ret v ∧ Rep C.P h X d v
def EvS (C : Cx) (Q : Out → St → Prop) (X : Addr → Prop) (h : Heap) (f : Flow) (s' : Shared) : Prop :=
  ∃ o σ' X', Q o σ' ∧ Inv C s' σ' X' ∧ FlowRep C s'.heap X' o f ∧ Ext X X' h s'.heap
theorem EvS.of {C : Cx} {Q : Out → St → Prop} {X X' : Addr → Prop} {h h' : Heap} {v : Flow} {s' : Shared} (x : Ext X X' h h') (e : EvS C Q X' h' v s') : EvS C Q X h v s' := by
  obtain ⟨d, σ', X'', q, i, r, y⟩ := e
  exact ⟨d, σ', X'', q, i, r, x.trans y⟩
/-- a statement's triple, a suite's triple -/
def T1 (C : Cx) (st : Stmt) (σ : St) (Q : Out → St → Prop) (R : Exc → St → Prop) : Prop :=
  ∀ s X, Inv C s σ X → wpAny (model prog C.w) C.A (exec st C.env) (EvS C Q X s.heap) (ErP C R X s.heap) s
def TS (C : Cx) (sts : List Stmt) (σ : St) (Q : Out → St → Prop) (R : Exc → St → Prop) : Prop :=
  ∀ s X, Inv C s σ X → wpAny (model prog C.w) C.A (execs sts C.env) (EvS C Q X s.heap) (ErP C R X s.heap) s

/-- the exception that is handled at present, as the base shows it -/
def HdAt (P : Params) (base : Heap) (e : Addr) (x : Exc) : Prop :=
  ∃ oe ws t vs, base.get? e = some oe ∧ oe.cls = x.cls ∧ oe.data = .fields ws ∧ ws[0]? = some t ∧ (x.known = true → ∃ a, t = .ref a ∧ base.TupAt a vs) ∧ (∀ H Y, Reps P H Y x.args vs) ∧ (x.chained = false → ws[2]? = some .none)
def hdNone : Params → Heap → Option Value → Prop := fun _ _ v => v = none
def hdAny : Params → Heap → Option Value → Prop := fun P base v => v = none ∨ ∃ e x, v = some (.ref e) ∧ HdAt P base e x ∧ x.chained = false

/-- what a call of a def of the text does: n frames deep at most -/
def CallG (Hd : Params → Heap → Option Value → Prop) (gl : Str → Option Value) (K : Params → Frag) (n : Nat) (f : Addr) (ds : List PV) (Qd : PV → Prop) (Rx : Exc → Prop) : Prop :=
  ∀ (w : World) (base : Heap) (l : List Env) (dp un : Nat) (gd : Option (List Code)) (hd : Option Value) (s : Shared) (X : Addr → Prop) (vs : List Value),
    Bs gl (K w.params) base → base.StaysIn s.heap → s.heap.FunFrames base l → s.gens = #[] → Hd w.params base hd →
    (∀ a, a ∈ l.filterMap (·.frame) → X a) → (∀ a, X a → base.get? a = none) → (∀ a, X a → ∃ o, s.heap.get? a = some o) → Reps w.params s.heap X ds vs →
    dp + n < recursionLimit → un + 8 * n < cLine →
    codeAny (model prog w) { handled := hd, depth := dp, frames := some l, guards := gd, units := un } (.call (.ref f) ⟨vs, []⟩)
      (fun r s' => match r with
        | .ok (.ret v) => ∃ d, Qd d ∧ Rep w.params s'.heap X d v ∧ Up (l.filterMap (·.frame)) s.heap s'.heap ∧ s'.gens = #[] ∧ s'.os = s.os
        | .ok _ => False
        | .error v => ∃ x a, v = .ref a ∧ Rx x ∧ Gone w.params l s.heap x a s'.heap ∧ s'.gens = #[] ∧ s'.os = s.os) s
abbrev CallOk := CallG hdNone

theorem CallG.mono {Hd : Params → Heap → Option Value → Prop} {gl : Str → Option Value} {K : Params → Frag} {n m : Nat} {f : Addr} {ds : List PV} {Qd Qd' : PV → Prop} {Rx Rx' : Exc → Prop} (h : CallG Hd gl K n f ds Qd Rx) (lt : n ≤ m) (q : ∀ d, Qd d → Qd' d) (r : ∀ x, Rx x → Rx' x) : CallG Hd gl K m f ds Qd' Rx' :=
  fun w base l dp un gd hd s X vs a1 a2 a3 a4 a5 a6 a7 a8 a9 a10 a11 =>
    codeAny_mono (h w base l dp un gd hd s X vs a1 a2 a3 a4 a5 a6 a7 a8 a9 (by omega) (by omega)) fun rr _ z => by
      match rr, z with
      | .error e, ⟨x, a, e', z, t⟩ => exact ⟨x, a, e', r x z, t⟩
      | .ok (.ret v), ⟨d, e, r⟩ => exact ⟨d, q d e, r⟩
theorem CallG.plain {gl : Str → Option Value} {K : Params → Frag} {n : Nat} {f : Addr} {ds : List PV} {Qd : PV → Prop} {Rx : Exc → Prop} (h : CallG hdAny gl K n f ds Qd Rx) : CallOk gl K n f ds Qd Rx :=
  fun w base l dp un gd hd s X vs a1 a2 a3 a4 a5 => h w base l dp un gd hd s X vs a1 a2 a3 a4 (.inl a5)

/-- a call's triple within a frame -/
def TC (C : Cx) (f : Value) (ds : List PV) (σ : St) (Q : PV → St → Prop) (R : Exc → St → Prop) : Prop :=
  ∀ s X vs, Inv C s σ X → Reps C.P s.heap X ds vs → wpAny (model prog C.w) C.A (call f vs) (EvP C Q X s.heap) (ErP C R X s.heap) s

theorem VarAt.up {env : Env} {S : List Addr} {h h' : Heap} {x : Str} {v : Value} (k : Up S h h') (a : VarAt env h x v) : VarAt env h' x v :=
  a.imp (fun ⟨e, m, n, z⟩ => ⟨e, m, k.ns n, z⟩) fun ⟨e, c, n, o, ho, hd⟩ => ⟨e, c, n, let ⟨_, q⟩ := k.any ho; ⟨_, q, hd⟩⟩
theorem OwnAt.up {P : Params} {S : List Addr} {h h' : Heap} {X : Addr → Prop} {a : Addr} (k : Up S h h') (f : ∀ a, a ∈ S → X a) (n : a ∉ S) : ∀ {d : PV}, OwnAt P h X a d → OwnAt P h' X a d
  | .list _, ⟨vs, m, e, r⟩ => ⟨vs, m, k.keep _ _ e n, Reps.ext (k.toExt f) r⟩
  | .dict _ _, ⟨es, vs, m, e, q, r⟩ => ⟨es, vs, m, k.keep _ _ e n, q, Reps.ext (k.toExt f) r⟩

/-- the frame's facts stand behind a call -/
theorem Inv.after {C : Cx} {s s' : Shared} {σ : St} {X : Addr → Prop} (ok : C.Ok) (I : Inv C s σ X) (k : Up C.S' s.heap s'.heap) (g : s'.gens = #[]) (o : s'.os = s.os) : Inv C s' σ X where
  stay := fun b x e => k.keep b x (I.stay b x e) fun m => by
    have := (I.frames.mem m).1
    rw [e] at this; cases this
  up := by
    refine ⟨fun a x e n => k.keep a x (I.up.keep a x e n) fun m => ?_, fun a x e m => ?_⟩
    · rcases ok.ss a m with q | q
      · rw [q] at e; cases e
      · exact n q
    · obtain ⟨sl, e1⟩ := I.up.frame a x e m
      obtain ⟨sl', e2⟩ := k.any e1
      exact ⟨sl', e2⟩
  frames := k.frames I.frames
  gens := g
  os := o.trans I.os
  mx := I.mx
  xb := I.xb
  xl := fun a q => let ⟨o, e⟩ := I.xl a q; let ⟨_, e'⟩ := k.any e; ⟨_, e'⟩
  ns := let ⟨m, n⟩ := I.ns; ⟨m, k.ns n⟩
  cells := fun x c e => let ⟨v, o, ho, hd⟩ := I.cells x c e; let ⟨_, q⟩ := k.any ho; ⟨v, _, q, hd⟩
  vars := fun x d e n => let ⟨v, a, r⟩ := I.vars x d e n; ⟨v, a.up k, Rep.ext (k.toExt fun a m => I.mx a (ok.sm a m)) r⟩
  own := fun x e => let ⟨a, d, p1, p2, p3, p4, p5, p6, p7⟩ := I.own x e
    ⟨a, d, p1, p2.up k, p3, p4, p5, p6.up k (fun a m => I.mx a (ok.sm a m)) fun m => p4 (ok.sm a m), p7⟩
  xm := I.xm

theorem TC.call {C : Cx} {Hd : Params → Heap → Option Value → Prop} {K : Params → Frag} {n : Nat} {f : Addr} {ds : List PV} {σ : St} {Qd : PV → Prop} {Rx : Exc → Prop} {Q : PV → St → Prop} {R : Exc → St → Prop} (ok : C.Ok) (hh : Hd C.P C.base C.hd) (hK : C.K = K C.w.params) (h : CallG Hd C.gl K n f ds Qd Rx) (hd : C.dp + n < recursionLimit) (hu : C.un + 8 * n < cLine)
    (q : ∀ d, Qd d → Q d σ) (r : ∀ x, Rx x → R x σ) : TC C (.ref f) ds σ Q R := fun s X vs I rs => by
  refine wpAny_call (codeAny_mono (h C.w C.base (C.fenv :: C.outer) C.dp C.un C.gd C.hd s X vs (hK ▸ ok.bs) I.stay I.frames I.gens hh (fun a m => I.mx a (ok.sm a m)) I.xb I.xl rs hd hu) fun r₀ s' z => ?_)
  match r₀, z with
  | .ok (.ret v), ⟨d, q1, r1, u, g, o⟩ => exact ⟨d, σ, X, q d q1, I.after ok u g o, r1, u.toExt fun a m => I.mx a (ok.sm a m)⟩
  | .error _, ⟨x, a, rfl, rx, G, g, o⟩ => exact ⟨x, σ, X, a, s.heap, rfl, r x rx, { I with gens := g, os := o.trans I.os }, Ext.refl, G.here⟩
end Mine
end
section
namespace Mine

structure Dn where
  names : List (Str × NameKind)
  n : Nat
  hd : Option (Addr × Exc) := none

/-- the activation and what is known of it beforehand -/
structure Ls (gl : Str → Option Value) (K : Params → Frag) (C : Cx) (D : Dn) : Prop where
  ok : C.Ok
  names : C.env.scope.names = D.names
  glq : C.gl = gl
  kq : C.K = K C.P
  room : C.dp + D.n < recursionLimit
  units : C.un + 8 * D.n + 5 < cLine
  hd : match D.hd with
    | none => C.hd = none
    | some (e, x) => C.hd = some (.ref e) ∧ HdAt C.P C.base e x
structure Lk (gl : Str → Option Value) (K : Params → Frag) (C : Cx) (D : Dn) : Prop extends Ls gl K C D where
  fe : C.env = C.fenv
  fr : C.env.frame = some C.env.locals

theorem bindL_skip {k : Str → Option NameKind} {x : Str} : ∀ {binds : List (Str × Value)} {m : Str → Option Value}, x ∉ binds.map (·.1) → bindL k binds m x = m x
  | [], _, _ => rfl
  | (n, v) :: r, m, h => by
    unfold bindL
    rw [bindL_skip (fun q => h (List.mem_cons_of_mem _ q))]
    split
    · have : x ≠ n := fun e => h (by simp [e])
      simp [this]
    · rfl
theorem bindC_skip {k : Str → Option NameKind} {x : Str} : ∀ {binds : List (Str × Value)} {m : Str → Option Value}, x ∉ binds.map (·.1) → bindC k binds m x = m x
  | [], _, _ => rfl
  | (n, v) :: r, m, h => by
    unfold bindC
    rw [bindC_skip (fun q => h (List.mem_cons_of_mem _ q))]
    split
    · rfl
    · have : x ≠ n := fun e => h (by simp [e])
      simp [this]
theorem zip_names {names : List Str} {us : List Value} {x : Str} (h : x ∉ names) : x ∉ (names.zip us).map (·.1) := fun q => by
  obtain ⟨⟨a, b⟩, hm, rfl⟩ := List.mem_map.mp q
  exact h (List.of_mem_zip hm).1
theorem bind_get {P : Params} {h : Heap} {X : Addr → Prop} {k : Str → Option NameKind} {x : Str} {d : PV} : ∀ {names : List Str} {us : List Value} {ds : List PV} {m cm : Str → Option Value}, names.Nodup → Reps P h X ds us →
    (names.zip ds).lookup x = some d → ∃ v, Rep P h X d v ∧ (k x = some .local → bindL k (names.zip us) m x = some v) ∧ (k x ≠ some .local → bindC k (names.zip us) cm x = some v)
  | [], _, _, _, _, _, _, e => by simp at e
  | _ :: _, _, [], _, _, _, _, e => by simp at e
  | n :: r, us, d' :: ds, m, cm, hn, hr, e => by
    simp only [Reps] at hr
    obtain ⟨v, q, rfl, h1, h2⟩ := hr
    obtain ⟨hn1, hn2⟩ := List.nodup_cons.mp hn
    simp only [List.zip_cons_cons, List.lookup_cons] at e
    by_cases hx : x = n
    · subst hx
      simp at e; subst e
      refine ⟨v, h1, fun hk => ?_, fun hk => ?_⟩
      · simp only [List.zip_cons_cons, bindL, hk, if_true]
        rw [bindL_skip (zip_names hn1)]; simp
      · simp only [List.zip_cons_cons, bindC, if_neg hk]
        rw [bindC_skip (zip_names hn1)]; simp
    · have hb : (x == n) = false := by simpa using hx
      rw [hb] at e
      simp only [List.zip_cons_cons, bindL, bindC]
      exact bind_get hn2 h2 e

def retOf : Out → PV
  | .ret d => d
  | _ => .none

theorem CallG.intro {Hd : Params → Heap → Option Value → Prop} {gl : Str → Option Value} {K : Params → Frag} {n : Nat} {f : Addr} {fd : FuncData} {body : List Stmt} {names : List Str} {ds ds' : List PV} {Qd : PV → Prop} {Rx : Exc → Prop} (hd0 : Option (Addr × Exc) → Prop)
    (hHd : ∀ P base v, Hd P base v → ∃ q : Option (Addr × Exc), hd0 q ∧ match q with | none => v = none | some (e, x) => v = some (.ref e) ∧ HdAt P base e x)
    (ho : ∀ P, ∃ oc od osl, (K P).lookup f = some ⟨oc, od, .func fd, osl⟩) (hcd : ∀ P, codeIn (K P) fd.code fd.qualname = true)
    (hbody : fd.body = .stmts body) (hglob : fd.globals = mainGlobals) (hblt : fd.builtins = builtinsNs) (hclo : fd.closure = [])
    (hco : fd.scope.isCoroutine = false) (hgen : fd.scope.isGenerator = false) (hk : fd.scope.kind = .function)
    (hbind : ∀ P s X vs, (K P).In s.heap → (∀ a, X a → ∀ o, (K P).lookup a ≠ some o) → Reps P s.heap X ds vs → ∃ us, BindsTo s fd ⟨vs, []⟩ (names.zip us) ∧ Reps P s.heap X ds' us)
    (hkind : ∀ x ∈ names, fd.scope.names.lookup x = some .local ∨ fd.scope.names.lookup x = some .cell) (hnames : names.Nodup)
    (h : ∀ C q, hd0 q → Lk gl K C ⟨fd.scope.names, n, q⟩ → C.lw = true → C.cw = true → TS C body ⟨names.zip ds', none⟩ (fun o _ => Qd (retOf o)) fun x _ => Rx x) :
    CallG Hd gl K (n + 1) f ds Qd Rx := fun w base l dp un gd hd s X vs a1 a2 a3 a4 a5 a6 a7 a8 a9 a10 a11 => by
  obtain ⟨q, hq0, hq⟩ := hHd _ _ _ a5
  obtain ⟨oc, od, osl, hf⟩ := ho w.params
  have hlim : s.heap.NoLimit := a1.nolimit.keeps a2
  have KI : (K w.params).In s.heap := a1.frag.keeps a2
  obtain ⟨us, hb, hus⟩ := hbind w.params s X vs KI (fun a x o e => by have := a1.frag _ _ e; rw [a7 a x] at this; cases this) a9
  refine codeAny_call_function (by show dp < recursionLimit; omega) (KI _ _ hf) rfl hco hgen hbody (codeRec_of KI (hcd w.params)) ?_
  refine hb _ _ _ _ ?_
  rw [hclo]
  refine wpAny_newFunctionEnv_cells hk (fun x hx => ?_) fun env he s₁ IC => ?_
  · have hm : x.1 ∈ names := (List.of_mem_zip (a := x.1) (b := x.2) hx).1
    rcases hkind _ hm with q | q
    · exact .inl q
    · exact .inr ⟨q, cellsFrom_some _ _ _ (.inl q)⟩
  have hL : env.locals = s.heap.objs.size := by rw [he]; rfl
  have hfr : env.frame = some s.heap.objs.size := by rw [he]; rfl
  have hsc : env.scope = fd.scope := by rw [he]; rfl
  have hcl : env.cells = cellsFrom (s.heap.objs.size + 1) fd.scope.names [] := by rw [he]; rfl
  have keep := IC.toInCall.keep
  have hLn : s.heap.get? s.heap.objs.size = none := Heap.get?_none_of_le (Nat.le_refl _)
  have hbn : ∀ a, s.heap.objs.size ≤ a → base.get? a = none := fun a ha => fresh_of_stays a2 (Heap.get?_none_of_le ha)
  refine ⟨hlim.keeps keep, codeAny_func ?_⟩
  let C : Cx := ⟨w, gl, K w.params, base, env, env, l, dp + 1, un + 3, gd, s.heap, fun a => a = s.heap.objs.size ∨ (∃ x, env.cells.lookup x = some a) ∨ X a, s.os, l.filterMap (·.frame), hd, true, true⟩
  have hS' : ∀ a, a ∈ C.S' → a = s.heap.objs.size ∨ a ∈ l.filterMap (·.frame) := fun a m => by
    have m' : a ∈ (env :: l).filterMap (·.frame) := m
    rw [List.filterMap_cons, hfr] at m'
    exact List.mem_cons.mp m'
  have ok : C.Ok := by
    refine ⟨a1, by show env.scope.kind = _; rw [hsc]; exact hk, by show env.globals = _; rw [he]; exact hglob, by show env.builtins = _; rw [he]; exact hblt, rfl, by show env.scope.kind = _; rw [hsc]; exact hk, fun a m => ?_, fun a m => ?_, .inl hL, fun x c e => .inr (.inl ⟨x, e⟩), fun x y c e e' => ?_, fun x c e => ?_, fun _ => by show s.heap.get? env.locals = none; rw [hL]; exact hLn, fun _ x c e => Heap.get?_none_of_le (Nat.le_of_lt (by have := IC.above x c (mem_of_lookup e); rw [hL] at this; exact this)), fun x e => ?_, ⟨_, hfr⟩⟩
    · rcases hS' a m with q | q
      · exact .inl (by rw [q]; exact hLn)
      · exact .inr q
    · rcases hS' a m with q | q
      · exact .inl q
      · exact .inr (.inr (a6 a q))
    · exact name_of_addr IC.apart (mem_of_lookup e) (mem_of_lookup e')
    · exact Nat.ne_of_gt (IC.above x c (mem_of_lookup e))
    · rw [show C.env.cells = _ from hcl]
      refine Option.isSome_iff_exists.mp (cellsFrom_some (x := x) fd.scope.names (s.heap.objs.size + 1) [] (.inl ?_))
      rw [← hsc]; exact e
  have lk : Lk gl K C ⟨fd.scope.names, n, q⟩ := ⟨⟨ok, by show env.scope.names = _; rw [hsc], rfl, rfl, by show dp + 1 + n < recursionLimit; omega, by show un + 3 + 8 * n + 5 < cLine; omega, by
    cases q with
    | none => exact hq
    | some q => exact hq⟩, rfl, by show env.frame = some env.locals; rw [hfr, hL]⟩
  obtain ⟨h₁, tk, hs₁⟩ := IC.toInCall.same
  obtain ⟨oL, esL, epL, hoL, hdL, rL⟩ := IC.toInCall.ns
  rw [hL] at hoL
  have ext : Ext X C.M s.heap s₁.heap := ⟨fun a o e _ => keep a o e, fun a m => by
    rcases m with m | ⟨x, m⟩ | m
    · exact .inr (by rw [m]; exact hLn)
    · have := IC.above _ _ (mem_of_lookup m); rw [hL] at this; exact .inr (Heap.get?_none_of_le (Nat.le_of_lt this))
    · exact .inl m⟩
  have I : Inv C s₁ ⟨names.zip ds', none⟩ C.M := by
    refine ⟨fun b o e => keep b o (a2 b o e), Up.of_keeps keep, ⟨by show env.scope.kind ≠ _; rw [hsc, hk]; decide, ⟨_, oL, hfr, hbn _ (Nat.le_refl _), hoL, fun vs q => by rw [hdL] at q; cases q⟩, a3.of_keeps fun b o e _ => ⟨o, keep b o e, rfl⟩⟩, by rw [hs₁]; exact a4, by rw [hs₁], fun a m => m, fun a m => ?_, fun a m => ?_, ⟨_, IC.toInCall.ns⟩, fun x c e => ⟨_, IC.cell x c e⟩, fun x d e _ => ?_, fun x e => (nomatch e), fun _ a m => m⟩
    · rcases m with m | ⟨x, m⟩ | m
      · exact hbn a (Nat.le_of_eq m.symm)
      · have := IC.above _ _ (mem_of_lookup m); rw [hL] at this; exact hbn a (Nat.le_of_lt this)
      · exact a7 a m
    · rcases m with m | ⟨x, m⟩ | m
      · rw [m]; exact ⟨_, hoL⟩
      · obtain ⟨o, q, _⟩ := IC.cell _ _ m; exact ⟨o, q⟩
      · obtain ⟨o, q⟩ := a8 a m; exact ⟨o, keep a o q⟩
    · obtain ⟨v, r, b1, b2⟩ := bind_get (k := env.kindOf) (m := fun _ => none) (cm := fun _ => none) hnames hus e
      have hm : x ∈ names := by
        have := mem_of_lookup e
        exact (List.of_mem_zip this).1
      have hk2 : env.kindOf x = fd.scope.names.lookup x := by rw [← hsc]; rfl
      refine ⟨v, ?_, Rep.ext ext r⟩
      rcases hkind x hm with q | q
      · exact .inl ⟨hk2.trans q, _, IC.toInCall.ns, b1 (hk2.trans q)⟩
      · have hne : env.kindOf x ≠ some .local := by rw [hk2, q]; decide
        obtain ⟨c, hc⟩ := Option.isSome_iff_exists.mp (cellsFrom_some (x := x) fd.scope.names (s.heap.objs.size + 1) [] (.inl q))
        rw [← hcl] at hc
        refine .inr ⟨hk2.trans q, c, hc, ?_⟩
        have := IC.cell x c hc
        rw [b2 hne] at this
        exact this
  refine wpAny_mono (h C q hq0 lk rfl rfl s₁ C.M I) (fun fl s' ⟨o, σ', X', q', I', fr, _⟩ => ?_) fun v s' ⟨x, σ', X', a, h₂, e, rx, I', _, G⟩ => ?_
  · have sub : ∀ a, X a → X' a := fun a m => I'.mx a (.inr (.inr m))
    refine ⟨retOf o, q', ?_, I'.up, I'.gens, I'.os⟩
    cases o with
    | ret d =>
      obtain ⟨v, rfl, r⟩ := fr
      exact Rep.sub sub r
    | _ => cases fr; exact rep_none
  · subst e
    refine here_leave (by rfl) hfr G fun h' B t ws cx g1 g2 F g4 g5 g7 => ⟨x, a, rfl, rx, ⟨true, B, t, ws, cx, g1, g2, F, ⟨fun b o eb nb => ?_, fun b m => ?_⟩, ?_, ?_⟩, I'.gens, I'.os⟩
    · refine g4.keep b o (I'.up.keep b o eb nb) fun m => ?_
      rcases hS' b m with q | q
      · rw [q, hLn] at eb; cases eb
      · exact nb q
    · refine g4.none b ?_
      show b ∈ (env :: l).filterMap (·.frame)
      rw [List.filterMap_cons, hfr]
      exact List.mem_cons_of_mem _ m
    · exact (show s.heap.UpToSlots h₂ from fun b o eb _ => I'.up.any eb).trans g5
    · have low : ∀ b, h₂.get? b = none → s.heap.get? b = none := fun b hb => by
        cases ea : s.heap.get? b with
        | none => rfl
        | some o =>
          obtain ⟨sl, e2⟩ := I'.up.any ea
          rw [show h₂.get? b = none from hb] at e2
          cases e2
      exact ⟨low a g7.1, fun b z q => low b (g7.2 b z q)⟩
end Mine
end
section
namespace Mine

def setv (x : Str) (d : PV) : List (Str × PV) → List (Str × PV)
  | [] => [(x, d)]
  | (y, e) :: r => if x == y then (x, d) :: r else (y, e) :: setv x d r
theorem lookup_setv {x y : Str} {d : PV} : ∀ {l : List (Str × PV)}, (setv x d l).lookup y = if y = x then some d else l.lookup y
  | [] => by
    by_cases h : y = x
    · subst h; simp [setv]
    · have : (y == x) = false := by simpa using h
      simp [setv, this, h]
  | (z, e) :: r => by
    unfold setv
    by_cases hz : x = z
    · subst hz
      by_cases h : y = x
      · subst h; simp
      · have : (y == x) = false := by simpa using h
        simp [List.lookup_cons, this, h]
    · have hz' : (x == z) = false := by simpa using hz
      rw [hz', if_neg (by decide), List.lookup_cons, List.lookup_cons, lookup_setv (l := r)]
      by_cases h : y = z
      · subst h
        have : y ≠ x := fun q => hz q.symm
        simp [this]
      · have : (y == z) = false := by simpa using h
        rw [this]
def St.put (σ : St) (x : Str) (d : PV) : St := { σ with vars := setv x d σ.vars }

theorem frames_any {h h' base : Heap} (k : ∀ b o, h.get? b = some o → (∀ vs, o.data ≠ .fields vs) → ∃ o', h'.get? b = some o' ∧ ∀ vs, o'.data ≠ .fields vs) : ∀ {l : List Env}, h.FunFrames base l → h'.FunFrames base l
  | [], _ => trivial
  | _ :: _, ⟨hk, ⟨L, o, hf, hn, ho, hd⟩, hr⟩ => ⟨hk, let ⟨o', ho', hd'⟩ := k L o ho hd; ⟨L, o', hf, hn, ho', hd'⟩, frames_any k hr⟩

section
variable {C : Cx} {σ σ' : St} {s : Shared} {X : Addr → Prop} {R : Exc → St → Prop}

theorem Ext.but {h h' : Heap} {a : Addr} (hx : X a) (sb : Heap.SameBut a h h') : Ext X X h h' :=
  ⟨fun b o e n => (sb.2 b fun q => n (q ▸ hx)).trans e, fun _ q => .inl q⟩

theorem Inv.poke {h' : Heap} {a0 : Addr} {t : Nat} (I : Inv C s σ X) (hx : X a0) (hn : C.h0.get? a0 = none) (sb : Heap.SameBut a0 s.heap h') (hex : ∃ o', h'.get? a0 = some o' ∧ ∀ vs, o'.data ≠ .fields vs)
    (ns' : ∃ m, h'.Ns C.env.locals m) (cells' : ∀ x c, C.env.cells.lookup x = some c → ∃ v, h'.IsCell c v)
    (vars' : ∀ x d, σ'.vars.lookup x = some d → σ'.own ≠ some x → ∃ v, VarAt C.env h' x v ∧ Rep C.P h' X d v)
    (own' : ∀ x, σ'.own = some x → ∃ a d, σ'.vars.lookup x = some d ∧ VarAt C.env h' x (.ref a) ∧ X a ∧ ¬ C.M a ∧ C.h0.get? a = none ∧ OwnAt C.P h' X a d ∧ ∀ b, X b → C.M b ∨ b = a)
    (xm' : σ'.own = none → ∀ a, X a → C.M a) : Inv C { s with heap := h', toks := t } σ' X where
  stay := fun b o e => (sb.2 b fun q => by rw [q, I.xb a0 hx] at e; cases e).trans (I.stay b o e)
  up := ⟨fun b o e n => (sb.2 b fun q => by rw [q, hn] at e; cases e).trans (I.up.keep b o e n), fun b o e m => let ⟨sl, q⟩ := I.up.frame b o e m; ⟨sl, (sb.2 b fun z => by rw [z, hn] at e; cases e).trans q⟩⟩
  frames := frames_any (fun b o e nf => by
    by_cases q : b = a0
    · subst q; exact hex
    · exact ⟨o, (sb.2 b q).trans e, nf⟩) I.frames
  gens := I.gens
  os := I.os
  mx := I.mx
  xb := I.xb
  xl := fun a q => by
    by_cases z : a = a0
    · obtain ⟨o, e, _⟩ := hex; exact ⟨o, z ▸ e⟩
    · obtain ⟨o, e⟩ := I.xl a q; exact ⟨o, (sb.2 a z).trans e⟩
  ns := ns'
  cells := cells'
  vars := vars'
  own := own'
  xm := xm'

theorem ns_one {h : Heap} {a : Addr} {m m' : Str → Option Value} (x : h.Ns a m) (y : h.Ns a m') : m = m' := x.eq_nsMap.trans y.eq_nsMap.symm

theorem store2 {v : Value} {d : PV} {x : Str} (ok : C.Ok) (I : Inv C s σ X) (hk : (C.env.kindOf x = some .local ∧ C.lw = true) ∨ (C.env.kindOf x = some .cell ∧ C.cw = true)) (ho : σ.own ≠ some x) (r : Rep C.P s.heap X d v) {M : Model} {A : Around} {Q : Unit → Shared → Prop} {E : Value → Shared → Prop}
    (h : ∀ h' t, Inv C { s with heap := h', toks := t } (σ.put x d) X → Ext X X s.heap h' → VarAt C.env h' x v → (∀ y u, y ≠ x → VarAt C.env s.heap y u → VarAt C.env h' y u) → (∀ b, b ≠ C.env.locals → (∀ y c, C.env.cells.lookup y = some c → b ≠ c) → h'.get? b = s.heap.get? b) → Q () { s with heap := h', toks := t }) : wpAny M A (storeName C.env x v) Q E s := by
  rcases hk with ⟨hk, hlw⟩ | ⟨hk, hcw⟩
  · obtain ⟨m, hns⟩ := I.ns
    refine wpAny_storeName_local hk hns (fun h' hn' sb => ?_) (by rw [ok.kind]; rfl)
    have hX : X C.env.locals := I.mx _ ok.lm
    have ext := Ext.but hX sb
    have at' : ∀ {y u}, y ≠ x → VarAt C.env s.heap y u → VarAt C.env h' y u := fun {y u} hy hv => by
      rcases hv with ⟨k, m₂, n₂, e⟩ | ⟨k, c, e, i⟩
      · exact .inl ⟨k, _, hn', by rw [if_neg hy, ns_one hns n₂]; exact e⟩
      · exact .inr ⟨k, c, e, i.sameBut sb (ok.cl _ _ e)⟩
    refine h h' _ (I.poke hX (ok.ml hlw) sb ?_ ⟨_, hn'⟩ (fun y c e => let ⟨u, q⟩ := I.cells y c e; ⟨u, q.sameBut sb (ok.cl _ _ e)⟩) (fun y d' e n => ?_) (fun y e => ?_) I.xm) ext (.inl ⟨hk, _, hn', by simp⟩) (fun _ _ => at') fun b q _ => sb.2 b q
    · obtain ⟨o, es, ep, e, hd, _⟩ := hn'
      exact ⟨o, e, fun vs q => by rw [hd] at q; cases q⟩
    · have e' : (setv x d σ.vars).lookup y = some d' := e
      rw [lookup_setv] at e'
      by_cases hy : y = x
      · subst hy
        simp at e'; subst e'
        exact ⟨v, .inl ⟨hk, _, hn', by simp⟩, Rep.ext ext r⟩
      · rw [if_neg hy] at e'
        obtain ⟨u, p1, p2⟩ := I.vars y d' e' n
        exact ⟨u, at' hy p1, Rep.ext ext p2⟩
    · obtain ⟨a, d', p1, p2, p3, p4, p5, p6, p7⟩ := I.own y e
      have hy : y ≠ x := fun q => ho (q ▸ e)
      have hne : a ≠ C.env.locals := fun q => p4 (q ▸ ok.lm)
      refine ⟨a, d', by show (setv x d σ.vars).lookup y = _; rw [lookup_setv, if_neg hy]; exact p1, at' hy p2, p3, p4, p5, ?_, p7⟩
      cases d' <;> first | exact p6.elim | skip
      · obtain ⟨vs, k, e1, e2⟩ := p6; exact ⟨vs, k, (sb.2 a hne).trans e1, Reps.ext ext e2⟩
      · obtain ⟨es, vs, k, e1, e2, e3⟩ := p6; exact ⟨es, vs, k, (sb.2 a hne).trans e1, e2, Reps.ext ext e3⟩
  · obtain ⟨c, hc⟩ := ok.ce x hk
    obtain ⟨v₀, hv₀⟩ := I.cells x c hc
    refine wpAny_storeName_cell ok.kind hk hc hv₀ fun h' hc' sb => ?_
    have hX : X c := I.mx _ (ok.cm x c hc)
    have ext := Ext.but hX sb
    obtain ⟨m, hns⟩ := I.ns
    have hns' : h'.Ns C.env.locals m := hns.sameBut sb (Ne.symm (ok.cl _ _ hc))
    have at' : ∀ {y u}, y ≠ x → VarAt C.env s.heap y u → VarAt C.env h' y u := fun {y u} hy hv => by
      rcases hv with ⟨k, m₂, n₂, e⟩ | ⟨k, c', e, i⟩
      · exact .inl ⟨k, m₂, n₂.sameBut sb (Ne.symm (ok.cl _ _ hc)), e⟩
      · exact .inr ⟨k, c', e, i.sameBut sb fun q => hy (ok.cd _ _ c' e (q ▸ hc))⟩
    refine h h' s.toks (I.poke hX (ok.mc hcw x c hc) sb ?_ ⟨_, hns'⟩ (fun y c' e => ?_) (fun y d' e n => ?_) (fun y e => ?_) I.xm) ext (.inr ⟨hk, c, hc, hc'⟩) (fun _ _ => at') fun b _ q => sb.2 b (q _ _ hc)
    · obtain ⟨o, e, hd⟩ := hc'
      exact ⟨o, e, fun vs q => by rw [hd] at q; cases q⟩
    · by_cases q : c' = c
      · subst q; exact ⟨_, hc'⟩
      · obtain ⟨u, i⟩ := I.cells y c' e; exact ⟨u, i.sameBut sb q⟩
    · have e' : (setv x d σ.vars).lookup y = some d' := e
      rw [lookup_setv] at e'
      by_cases hy : y = x
      · subst hy
        simp at e'; subst e'
        exact ⟨v, .inr ⟨hk, c, hc, hc'⟩, Rep.ext ext r⟩
      · rw [if_neg hy] at e'
        obtain ⟨u, p1, p2⟩ := I.vars y d' e' n
        exact ⟨u, at' hy p1, Rep.ext ext p2⟩
    · obtain ⟨a, d', p1, p2, p3, p4, p5, p6, p7⟩ := I.own y e
      have hy : y ≠ x := fun q => ho (q ▸ e)
      have hne : a ≠ c := fun q => p4 (q ▸ ok.cm x c hc)
      refine ⟨a, d', by show (setv x d σ.vars).lookup y = _; rw [lookup_setv, if_neg hy]; exact p1, at' hy p2, p3, p4, p5, ?_, p7⟩
      cases d' <;> first | exact p6.elim | skip
      · obtain ⟨vs, k, e1, e2⟩ := p6; exact ⟨vs, k, (sb.2 a hne).trans e1, Reps.ext ext e2⟩
      · obtain ⟨es, vs, k, e1, e2, e3⟩ := p6; exact ⟨es, vs, k, (sb.2 a hne).trans e1, e2, Reps.ext ext e3⟩

theorem store {v : Value} {d : PV} {x : Str} (ok : C.Ok) (I : Inv C s σ X) (hk : (C.env.kindOf x = some .local ∧ C.lw = true) ∨ (C.env.kindOf x = some .cell ∧ C.cw = true)) (ho : σ.own ≠ some x) (r : Rep C.P s.heap X d v) {M : Model} {A : Around} {Q : Unit → Shared → Prop} {E : Value → Shared → Prop}
    (h : ∀ h' t, Inv C { s with heap := h', toks := t } (σ.put x d) X → Ext X X s.heap h' → Q () { s with heap := h', toks := t }) : wpAny M A (storeName C.env x v) Q E s :=
  store2 ok I hk ho r fun h' t i x _ _ _ => h h' t i x

theorem VarAt.but {y : Str} {u : Value} {h h' : Heap} {a : Addr} (ok : C.Ok) (hm : ¬ C.M a) (sb : Heap.SameBut a h h') (v : VarAt C.env h y u) : VarAt C.env h' y u := by
  rcases v with ⟨k, m, n, e⟩ | ⟨k, c, e, i⟩
  · exact .inl ⟨k, m, n.sameBut sb fun q => hm (q ▸ ok.lm), e⟩
  · exact .inr ⟨k, c, e, i.sameBut sb fun q => hm (q ▸ ok.cm _ _ e)⟩

/-- the owned thing changes -/
theorem Inv.ownChange {x : Str} {a : Addr} {d' : PV} {h' : Heap} {t : Nat} (ok : C.Ok) (I : Inv C s σ X) (ho : σ.own = some x) (va : VarAt C.env s.heap x (.ref a)) (hX : X a) (hM : ¬ C.M a) (h0 : C.h0.get? a = none) (hb : ∀ b, X b → C.M b ∨ b = a)
    (sb : Heap.SameBut a s.heap h') (hO : OwnAt C.P h' X a d') : Inv C { s with heap := h', toks := t } (σ.put x d') X := by
  obtain ⟨m, hns⟩ := I.ns
  refine I.poke hX h0 sb ?_ ⟨m, hns.sameBut sb fun q => hM (q ▸ ok.lm)⟩ (fun y c e => let ⟨v, i⟩ := I.cells y c e; ⟨v, i.sameBut sb fun q => hM (q ▸ ok.cm _ _ e)⟩) (fun y d e n => ?_) (fun y e => ?_) fun e => ?_
  · cases d' <;> first | exact hO.elim | skip
    · obtain ⟨vs, k, e1, _⟩ := hO; exact ⟨_, e1, fun _ q => by cases q⟩
    · obtain ⟨es, vs, k, e1, _⟩ := hO; exact ⟨_, e1, fun _ q => by cases q⟩
  · have e' : (setv x d' σ.vars).lookup y = some d := e
    have n' : σ.own ≠ some y := n
    have hy : y ≠ x := fun q => n' (by rw [ho, q])
    rw [lookup_setv, if_neg hy] at e'
    obtain ⟨v, p1, p2⟩ := I.vars y d e' n'
    exact ⟨v, p1.but ok hM sb, Rep.ext (Ext.but hX sb) p2⟩
  · have e' : σ.own = some y := e
    rw [ho] at e'; cases e'
    exact ⟨a, d', by show (setv x d' σ.vars).lookup x = _; rw [lookup_setv, if_pos rfl], va.but ok hM sb, hX, hM, h0, hO, hb⟩
  · have e' : σ.own = none := e
    rw [ho] at e'; cases e'

def St.take (σ : St) (x : Str) (d : PV) : St := { vars := setv x d σ.vars, own := some x }

/-- a new thing, owned by one name -/
theorem newOwn {o : Obj} {x : Str} {d : PV} (ok : C.Ok) (I : Inv C s σ X) (hno : σ.own = none) (hk : (C.env.kindOf x = some .local ∧ C.lw = true) ∨ (C.env.kindOf x = some .cell ∧ C.cw = true)) (hf : o.isFreed = false)
    (hO : (∃ vs ds, o = lstObj vs 0 ∧ d = .list ds ∧ Reps C.P s.heap X ds vs) ∨ (o = dctObj [] 0 ∧ d = .dict [] [])) {M : Model} {A : Around} {Q : Unit → Shared → Prop} {E : Value → Shared → Prop}
    (h : ∀ h' t X', Inv C { s with heap := h', toks := t } (σ.take x d) X' → Ext X X' s.heap h' → Q () { s with heap := h', toks := t }) : wpAny M A (storeName C.env x (.ref s.heap.objs.size)) Q E { s with heap := s.heap.push o } := by
  have keep := push_keeps s.heap o
  have I1 : Inv C { s with heap := s.heap.push o } σ X := I.step keep
  have na : s.heap.get? s.heap.objs.size = none := Heap.get?_none_of_le (Nat.le_refl _)
  have nX : ¬ X s.heap.objs.size := I.fresh
  have sM : ∀ b, X b → C.M b := I.xm hno
  have nsys : s.heap.objs.size ≠ sysModules := fun q => by
    obtain ⟨o', e⟩ := ok.bs.sys
    have := I.stay _ _ e
    rw [← q, na] at this; cases this
  have r1 : Rep C.P (s.heap.push o) X d (.ref s.heap.objs.size) := by
    rcases hO with ⟨vs, ds, rfl, rfl, hr⟩ | ⟨rfl, rfl⟩
    · exact rep_list (n := 0) (Heap.get?_push_size _ rfl) nX (Reps.ext Ext.push hr)
    · simp only [Rep]; exact ⟨_, [], [], 0, rfl, Heap.get?_push_size _ rfl, nX, ⟨nsys, trivial⟩, Reps.nil⟩
  have h0n : C.h0.get? s.heap.objs.size = none := by
    cases e : C.h0.get? s.heap.objs.size with
    | none => rfl
    | some o' => obtain ⟨sl, q⟩ := I.up.any e; rw [na] at q; cases q
  refine store2 ok I1 hk (by rw [hno]; exact fun q => nomatch q) r1 fun h' t I2 x2 v2 at2 _ => ?_
  have ext : Ext X (fun b => X b ∨ b = s.heap.objs.size) s.heap h' := by
    refine ⟨fun b p e n => x2.keep b p (keep b p e) n, fun b q => ?_⟩
    rcases q with q | q
    · exact .inl q
    · exact .inr (by rw [q]; exact na)
  have ext2 : Ext X (fun b => X b ∨ b = s.heap.objs.size) s.heap h' := ext
  have same : h'.get? s.heap.objs.size = some o := x2.keep _ _ (Heap.get?_push_size _ hf) nX
  refine h h' t _ ?_ ext
  refine { I2 with
    mx := fun a m => .inl (I2.mx a m)
    xb := fun a q => ?_
    xl := fun a q => ?_
    vars := fun y d' e n => ?_
    own := fun y e => ?_
    xm := fun e => ?_ }
  · rcases q with q | q
    · exact I2.xb a q
    · rw [q]; exact fresh_of_stays I.stay na
  · rcases q with q | q
    · exact I2.xl a q
    · exact ⟨o, by rw [q]; exact same⟩
  · have e' : (setv x d σ.vars).lookup y = some d' := e
    have n' : some x ≠ some y := n
    have hy : y ≠ x := fun q => n' (by rw [q])
    rw [lookup_setv, if_neg hy] at e'
    obtain ⟨u, p1, p2⟩ := I.vars y d' e' (by rw [hno]; exact fun q => nomatch q)
    exact ⟨u, at2 y u hy (p1.keeps keep), Rep.ext ext p2⟩
  · have e' : some x = some y := e
    cases e'
    refine ⟨_, d, by show (setv x d σ.vars).lookup x = _; rw [lookup_setv, if_pos rfl], v2, .inr rfl, fun m => nX (I.mx _ m), h0n, ?_, fun b q => q.imp (sM b) id⟩
    rcases hO with ⟨vs, ds, rfl, rfl, hr⟩ | ⟨rfl, rfl⟩
    · exact ⟨vs, 0, same, Reps.ext ext hr⟩
    · exact ⟨[], [], 0, same, ⟨nsys, trivial⟩, Reps.nil⟩
  · cases e

/-- a heap with some things hidden -/
noncomputable def hideP (h : Heap) (p : Addr → Prop) : Heap := by
  classical exact hideAll h ((List.range h.objs.size).filter fun a => decide (p a))
theorem hideP_some {h : Heap} {p : Addr → Prop} {a : Addr} {o : Obj} (e : h.get? a = some o) (n : ¬ p a) : (hideP h p).get? a = some o := by
  unfold hideP
  exact hideAll_get _ e fun m => n (by simpa using (List.mem_filter.mp m).2)
theorem of_hideP {h : Heap} {p : Addr → Prop} {a : Addr} {o : Obj} (e : (hideP h p).get? a = some o) : h.get? a = some o := by
  unfold hideP at e
  exact of_hideAll _ e
theorem hideP_none {h : Heap} {p : Addr → Prop} {a : Addr} (q : p a) : (hideP h p).get? a = none := by
  cases e : (hideP h p).get? a with
  | none => rfl
  | some o =>
    have lt := Heap.lt_size (of_hideP e)
    unfold hideP at e
    rw [hideAll_none _ (List.mem_filter.mpr ⟨List.mem_range.mpr lt, by simpa using q⟩)] at e
    cases e

/-- the same activation, looked at from a later heap -/
def Cx.within (C : Cx) (h : Heap) (S : List Addr) (wr : Bool) : Cx := { C with h0 := h, S := S, lw := wr, cw := wr }
theorem Cx.Ok.within {h : Heap} {S : List Addr} {wr : Bool} (ok : C.Ok) (ss : ∀ a, a ∈ C.S' → h.get? a = none ∨ a ∈ S) (hw : wr = true → h.get? C.env.locals = none ∧ ∀ x c, C.env.cells.lookup x = some c → h.get? c = none) : (C.within h S wr).Ok :=
  { ok with
    ss := ss
    ml := fun e => (hw e).1
    mc := fun e => (hw e).2 }
theorem Inv.within {h : Heap} {S : List Addr} {wr : Bool} (I : Inv C s σ X) (sub : ∀ a o, h.get? a = some o → s.heap.get? a = some o) (own : ∀ a, X a → ¬ C.M a → h.get? a = none) : Inv (C.within h S wr) s σ X :=
  { I with
    up := ⟨fun a o e _ => sub a o e, fun a o e _ => ⟨o.slots, sub a o e⟩⟩
    own := fun x e => let ⟨a, d, p1, p2, p3, p4, p5, p6, p7⟩ := I.own x e; ⟨a, d, p1, p2, p3, p4, own a p3 p4, p6, p7⟩ }
theorem Inv.outof {h : Heap} {S : List Addr} {wr : Bool} {s' : Shared} {X' : Addr → Prop} (I : Inv C s σ X) (hk : ∀ a o, s.heap.get? a = some o → C.h0.get? a ≠ none → h.get? a = some o) (hS : ∀ a, a ∈ S → C.h0.get? a = none ∨ a ∈ C.S)
    (I' : Inv (C.within h S wr) s' σ' X') : Inv C s' σ' X' :=
  { I' with
    up := by
      refine ⟨fun a o e n => ?_, fun a o e m => ?_⟩
      · refine I'.up.keep a o (hk a o (I.up.keep a o e n) (by rw [e]; exact fun q => nomatch q)) fun m => ?_
        rcases hS a m with q | q
        · rw [e] at q; cases q
        · exact n q
      · obtain ⟨sl, e1⟩ := I.up.frame a o e m
        obtain ⟨sl2, e2⟩ := I'.up.any (hk a _ e1 (by rw [e]; exact fun q => nomatch q))
        exact ⟨sl2, e2⟩
    own := fun x e => by
      obtain ⟨a, d, p1, p2, p3, p4, p5, p6, p7⟩ := I'.own x e
      refine ⟨a, d, p1, p2, p3, p4, ?_, p6, p7⟩
      cases q : C.h0.get? a with
      | none => rfl
      | some o =>
        obtain ⟨sl, e1⟩ := I.up.any q
        have := hk a _ e1 (by rw [q]; exact fun q => nomatch q)
        rw [show (C.within h S wr).h0 = h from rfl] at p5
        rw [p5] at this; cases this }

/-- nothing but new things, and the owned one -/
noncomputable abbrev Cx.still (C : Cx) (X : Addr → Prop) (h : Heap) : Cx := C.within (hideP h fun a => X a ∧ ¬ C.M a) C.S' false
theorem Cx.Ok.still (ok : C.Ok) (h : Heap) : (C.still X h).Ok := ok.within (fun _ m => .inr m) fun e => nomatch e
theorem Inv.still (I : Inv C s σ X) : Inv (C.still X s.heap) s σ X := I.within (fun _ _ e => of_hideP e) fun _ h1 h2 => hideP_none ⟨h1, h2⟩
theorem Inv.unstill {s' : Shared} {X' : Addr → Prop} (ok : C.Ok) (I : Inv C s σ X) (I' : Inv (C.still X s.heap) s' σ' X') : Inv C s' σ' X' :=
  Inv.outof I (fun a o e n => hideP_some e fun ⟨q1, q2⟩ => by
    by_cases ho : σ.own = none
    · exact q2 (I.xm ho a q1)
    · obtain ⟨x, hx⟩ := Option.ne_none_iff_exists'.mp ho
      obtain ⟨a', d, p1, p2, p3, p4, p5, p6, p7⟩ := I.own x hx
      rcases p7 a q1 with q | q
      · exact q2 q
      · subst q; exact n p5) (fun a m => ok.ss a m) I'
theorem var_one {h : Heap} {x : Str} {u v : Value} {env : Env} (a : VarAt env h x u) (b : VarAt env h x v) : u = v := by
  rcases a with ⟨k, m, n, e⟩ | ⟨k, c, e, o, ho, hd⟩ <;> rcases b with ⟨k', m', n', e'⟩ | ⟨k', c', e', o', ho', hd'⟩
  · rw [ns_one n n', e'] at e; cases e; rfl
  · rw [k] at k'; cases k'
  · rw [k] at k'; cases k'
  · rw [e] at e'; cases e'; rw [ho] at ho'; cases ho'; rw [hd] at hd'; cases hd'; rfl
/-- what is looked at stands still -/
theorem still_var {s' : Shared} {X' : Addr → Prop} {x : Str} {v : Value} (ok : C.Ok) (I : Inv C s σ X) (I' : Inv (C.still X s.heap) s' σ' X') (va : VarAt C.env s.heap x v) : VarAt C.env s'.heap x v := by
  have notOwn : ∀ a, C.M a → ¬ (X a ∧ ¬ C.M a) := fun a m q => q.2 m
  rcases va with ⟨k, m, n, e⟩ | ⟨k, c, e, i⟩
  · refine .inl ⟨k, m, ?_, e⟩
    obtain ⟨o, es, ep, ho, hd, r⟩ := n
    obtain ⟨sl, q⟩ := I'.up.any (hideP_some ho (notOwn _ ok.lm))
    exact ⟨_, es, ep, q, hd, r⟩
  · refine .inr ⟨k, c, e, ?_⟩
    obtain ⟨o, ho, hd⟩ := i
    obtain ⟨sl, q⟩ := I'.up.any (hideP_some ho (notOwn _ (ok.cm _ _ e)))
    exact ⟨_, q, hd⟩
theorem ErP.unstill {v : Value} {s' : Shared} (ok : C.Ok) (I : Inv C s σ X) (e : ErP (C.still X s.heap) R X s.heap v s') : ErP C R X s.heap v s' := by
  obtain ⟨x, σ', X', a, h₁, z, q, f, y, g⟩ := e
  exact ⟨x, σ', X', a, h₁, z, q, Inv.unstill ok I f, y, g⟩
end
end Mine
end
section
namespace Mine
section
variable {C : Cx} {σ σ' : St} {s : Shared} {X : Addr → Prop} {R : Exc → St → Prop} {Q : Out → St → Prop}

theorem TS.nil (h : Q .next σ) : TS C [] σ Q R := fun s X I => wpAny_execs_nil ⟨.next, σ, X, h, I, rfl, Ext.refl⟩
theorem TS.cons {st : Stmt} {rest : List Stmt} (h : T1 C st σ (fun o σ₁ => match o with | .next => TS C rest σ₁ Q R | o => Q o σ₁) R) : TS C (st :: rest) σ Q R := fun s X I => by
  refine wpAny_execs_cons (wpAny_mono (h s X I) (fun f s₁ ⟨o, σ₁, X₁, q₁, i₁, r₁, x₁⟩ => ?_) fun _ _ y => y)
  cases o with
  | next =>
    cases r₁
    exact wpAny_mono (q₁ s₁ X₁ i₁) (fun _ _ y => EvS.of x₁ y) fun _ _ y => ErP.of x₁ y
  | brk => cases r₁; exact ⟨.brk, σ₁, X₁, q₁, i₁, rfl, x₁⟩
  | cont => cases r₁; exact ⟨.cont, σ₁, X₁, q₁, i₁, rfl, x₁⟩
  | ret d => obtain ⟨v, rfl, r⟩ := r₁; exact ⟨.ret d, σ₁, X₁, q₁, i₁, ⟨v, rfl, r⟩, x₁⟩

theorem T1.ret {e : Expr} {pos} (h : TE C e σ (fun d σ₁ => Q (.ret d) σ₁) R) : T1 C (.Return (some e) pos) σ Q R := fun s X I =>
  wpAny_Return_some (wpAny_mono (h s X I) (fun v _ ⟨d, σ₁, X₁, q, i, r, x⟩ => ⟨.ret d, σ₁, X₁, q, i, ⟨v, rfl, r⟩, x⟩) fun _ _ y => y)
theorem T1.if {t : Expr} {b o : List Stmt} {pos} (h : TB C t σ (fun c σ₁ => if c then TS C b σ₁ Q R else TS C o σ₁ Q R) R) : T1 C (.If t b o pos) σ Q R := fun s X I => by
  refine wpAny_If (wpAny_mono (h s X I) (fun c s₁ ⟨σ₁, X₁, q₁, i₁, x₁⟩ => ?_) fun _ _ y => y)
  cases c
  · exact wpAny_mono (q₁ s₁ X₁ i₁) (fun _ _ y => EvS.of x₁ y) fun _ _ y => ErP.of x₁ y
  · exact wpAny_mono (q₁ s₁ X₁ i₁) (fun _ _ y => EvS.of x₁ y) fun _ _ y => ErP.of x₁ y
theorem T1.expr {e : Expr} {pos} (ok : C.Ok) (hs : swapsWith e none pos.line C.env = pure false) (h : TE C e σ (fun _ σ₁ => Q .next σ₁) R) : T1 C (.Expr e pos) σ Q R := fun s X I =>
  wpAny_Expr_any (wpAny_mono (h s X I) (fun _ _ ⟨_, σ₁, X₁, q, i, _, x⟩ => ⟨.next, σ₁, X₁, q, i, rfl, x⟩) fun _ _ y => y) (by unfold interactive; rw [ok.kind]; rfl) hs

def canStore (C : Cx) (x : Str) : Prop := (C.env.kindOf x = some .local ∧ C.lw = true) ∨ (C.env.kindOf x = some .cell ∧ C.cw = true)

theorem T1.assign {x : Str} {e : Expr} {p pos} (ok : C.Ok) (hk : canStore C x) (hs : swapsWith e (some (.Name x p)) pos.line C.env = pure false)
    (h : TE C e σ (fun d σ₁ => σ₁.own ≠ some x ∧ Q .next (σ₁.put x d)) R) : T1 C (.Assign [.Name x p] e pos) σ Q R := fun s X I => by
  refine wpAny_Assign_Name (wpAny_mono (h s X I) (fun v s₁ ⟨d, σ₁, X₁, ⟨q0, q⟩, i, r, x⟩ => ?_) fun _ _ y => y) hs
  exact store ok i hk q0 r fun h' t i' x' => ⟨.next, _, X₁, q, i', rfl, x.trans x'⟩

theorem T1.aug {x : Str} {e : Expr} {op : Operator} {d₀ : PV} {p pos} (ok : C.Ok) (hk : canStore C x) (hl : σ.vars.lookup x = some d₀) (ho : σ.own ≠ some x)
    (h : TE C e σ (fun d σ₁ => σ₁.own ≠ some x ∧ augW op d₀ d fun r => Q .next (σ₁.put x r)) R) : T1 C (.AugAssign (.Name x p) op e pos) σ Q R := fun s X I => by
  obtain ⟨v₀, a₀, r₀⟩ := I.vars x d₀ hl ho
  refine wpAny_AugAssign_Name (load_var ok a₀ (wpAny_mono (h s X I) (fun v s₁ ⟨d, σ₁, X₁, ⟨q0, q⟩, i, r, x⟩ => ?_) fun _ _ y => y))
  refine wpAny_mono (augW_sound (w := C.w) (A := C.A) (Rep.ext x r₀) r q _) (fun w s₂ ⟨d₂, h', k, q₂, e', ke, r₂⟩ => ?_) fun _ _ y => y
  subst e'
  exact store ok (i.step ke) hk q0 r₂ fun h'' t i' x' => ⟨.next, _, X₁, q₂, i', rfl, (x.trans (Ext.of_keeps ke)).trans x'⟩

/-- several names at once -/
theorem storeAll (ok : C.Ok) {R' : Value → Shared → Prop} : ∀ {xs : List (Str × Pos)} {ds : List PV} {vs : List Value} {σ : St} {s : Shared} {X : Addr → Prop} {Q' : Unit → Shared → Prop}, Inv C s σ X → (∀ x ∈ xs, canStore C x.1 ∧ σ.own ≠ some x.1) → Reps C.P s.heap X ds vs → xs.length = ds.length →
    (∀ h' t, Inv C { s with heap := h', toks := t } ((xs.zip ds).foldl (fun σ p => σ.put p.1.1 p.2) σ) X → Ext X X s.heap h' → Q' () { s with heap := h', toks := t }) →
    wpAny (model prog C.w) C.A (assignInOrder ((assignEach (xs.map fun x => .Name x.1 x.2) C.env).map (·.2)) vs) Q' R' s
  | [], _, vs, σ, s, X, Q', I, _, _, hl, k => by
    show wpAny _ _ (assignInOrder [] _) _ _ _
    exact assignInOrder_nil (k s.heap s.toks (by simpa using I) Ext.refl)
  | (x, p) :: r, [], _, _, _, _, _, _, _, _, hl, _ => by simp at hl
  | (x, p) :: r, d :: ds, vs, σ, s, X, Q', I, hc, hr, hl, k => by
    simp only [Reps] at hr
    obtain ⟨v, q, rfl, h1, h2⟩ := hr
    show wpAny _ _ (assignInOrder (assign (.Name x p) C.env :: ((assignEach (r.map fun x => .Name x.1 x.2) C.env).map (·.2))) (v :: q)) _ _ _
    refine assignInOrder_cons (wpAny_assign_Name (store ok I (hc _ (.head _)).1 (hc _ (.head _)).2 h1 fun h' t i' x' => ?_))
    refine storeAll ok i' (fun y hy => ⟨(hc y (.tail _ hy)).1, (hc y (.tail _ hy)).2⟩) (Reps.ext x' h2) (by simpa using hl) fun h'' t' i'' x'' => k h'' t' (by simpa using i'') (x'.trans x'')

theorem assign_each_len (env : Env) : ∀ (xs : List (Str × Pos)), (assignEach (xs.map fun x => .Name x.1 x.2) env).length = xs.length ∧ (assignEach (xs.map fun x => .Name x.1 x.2) env).findIdx? (·.1) = none
  | [] => ⟨rfl, rfl⟩
  | x :: r => by
    have := assign_each_len env r
    have e : assignEach ((x :: r).map fun x => .Name x.1 x.2) env = (false, assign (.Name x.1 x.2) env) :: assignEach (r.map fun x => .Name x.1 x.2) env := rfl
    rw [e]
    exact ⟨by simp [this.1], by rw [List.findIdx?_cons]; simp [this.2]⟩

/-- unpacking a tuple into names -/
theorem assign_tup (ok : C.Ok) (hh : C.hd = none) {xs : List (Str × Pos)} {k} {p : Pos} {ds : List PV} {v : Value} (I : Inv C s σ X) (r : Rep C.P s.heap X (.tuple ds) v) (hl : xs.length = ds.length) (hc : ∀ x ∈ xs, canStore C x.1 ∧ σ.own ≠ some x.1) {Q' : Unit → Shared → Prop} {R' : Value → Shared → Prop}
    (h : ∀ h' t, Inv C { s with heap := h', toks := t } ((xs.zip ds).foldl (fun σ p => σ.put p.1.1 p.2) σ) X → Ext X X s.heap h' → Q' () { s with heap := h', toks := t }) :
    wpAny (model prog C.w) C.A (assign (.Tuple (xs.map fun x => .Name x.1 x.2) k p) C.env v) Q' R' s := by
  simp only [Rep] at r
  obtain ⟨a, vs, rfl, ea, na, rs⟩ := r
  have hlen := assign_each_len C.env xs
  refine assign_Tuple_tuple hh (isTup_of ea) (by rw [hlen.1, hl]; simp [Reps.length rs]) hlen.2 fun h' he => ?_
  have keep : ∀ b o, s.heap.get? b = some o → h'.get? b = some o := fun b o e => he b o (Nat.ne_of_lt (Heap.lt_size e)) e
  have i' := I.step (t := s.toks) keep
  exact storeAll ok i' hc (Reps.ext (Ext.of_keeps keep) rs) hl fun h'' t i'' x'' => h h'' t i'' ((Ext.of_keeps keep).trans x'')

theorem assign_one {M : Model} {A : Around} {E : Value → Shared → Prop} {env : Env} {t value : Expr} {pos : Pos} {Q' : Flow → Shared → Prop} (hs : swapsWith value (some t) pos.line env = pure false) (hw : swappedStores [t] value env = pure none) (hn : notStar t = true)
    (h : wpAny M A (eval value env) (fun v s₁ => wpAny M A (PySem.assign t env v) (fun _ => Q' .next) E s₁) E s) : wpAny M A (exec (.Assign [t] value pos) env) Q' E s := by
  refine wpAny_Assign_stores (wpAny_mono h (fun v s₁ h₁ => ?_) fun _ _ y => y) hs hw
  have e : (assignEach [t] env).map (·.2) = [PySem.assign t env] := by cases t <;> first | rfl | cases hn
  rw [e]
  exact h₁

theorem T1.tup (ok : C.Ok) (hh : C.hd = none) {xs : List (Str × Pos)} {e T : Expr} {k} {p pos : Pos} (hT : T = .Tuple (xs.map fun x => .Name x.1 x.2) k p) (hw : swappedStores [T] e C.env = pure none) (hs : swapsWith e (some T) pos.line C.env = pure false)
    (h : TE C e σ (fun d σ₁ => match d with
      | .tuple ds => xs.length = ds.length ∧ (∀ x ∈ xs, canStore C x.1 ∧ σ₁.own ≠ some x.1) ∧ Q .next ((xs.zip ds).foldl (fun σ p => σ.put p.1.1 p.2) σ₁)
      | _ => False) R) : T1 C (.Assign [T] e pos) σ Q R := fun s X I => by
  refine assign_one hs hw (by subst hT; rfl) (wpAny_mono (h s X I) (fun v s₁ ⟨d, σ₁, X₁, q, i, r, x⟩ => ?_) fun _ _ y => y)
  cases d <;> try exact q.elim
  rename_i ds
  obtain ⟨q1, q2, q3⟩ := q
  subst hT
  exact assign_tup ok hh i r q1 q2 fun h' t i' x' => ⟨.next, _, X₁, q3, i', rfl, x.trans x'⟩
end
end Mine
end
section
namespace Mine
section
variable {C : Cx} {σ σ' : St} {s : Shared} {X : Addr → Prop} {R : Exc → St → Prop} {Q : Out → St → Prop}

theorem T1.take_list {x : Str} {es : List Expr} {p pos pos'} (ok : C.Ok) (hk : canStore C x)
    (h : TA C es σ (fun ds σ₁ => ds.length ≤ 16777216 ∧ σ₁.own = none ∧ Q .next (σ₁.take x (.list ds))) R) : T1 C (.Assign [.Name x p] (.List es pos') pos) σ Q R := fun s X I => by
  refine wpAny_Assign_Name (wpAny_List (wpAny_mono (h pos' s X I) (fun vs s₁ ⟨ds, σ₁, X₁, ⟨z, q0, q⟩, i, r, x⟩ => ⟨by rw [Reps.length r, sizeLine_eq]; exact z, ?_⟩) fun _ _ y => y)) rfl
  exact newOwn (o := lstObj vs 0) ok i q0 hk rfl (.inl ⟨vs, ds, rfl, rfl, r⟩) fun h' t X' i' x' => ⟨.next, _, X', q, i', rfl, x.trans x'⟩
theorem T1.take_dict {x : Str} {p pos pos'} (ok : C.Ok) (hk : canStore C x) (h0 : σ.own = none) (h : Q .next (σ.take x (.dict [] []))) : T1 C (.Assign [.Name x p] (.Dict [] [] pos') pos) σ Q R := fun s X I => by
  refine wpAny_Assign_Name ?_ rfl
  rw [eval_Dict_empty]
  refine wpAny_bind (wpAny_standAt ?_)
  refine wpAny_newObj_type ?_
  exact newOwn (o := dctObj [] 0) ok I h0 hk rfl (.inr ⟨rfl, rfl⟩) fun h' t X' i' x' => ⟨.next, _, X', h, i', rfl, x'⟩

/-- x[-1], the list being owned: it stays so -/
theorem TE.peek {x : Str} {p p1 p2 p3 : Pos} {k : Nat} {Q : PV → St → Prop} (ok : C.Ok) (ho : σ.own = some x) (hd : (x == ("__debug__" : Str)) = false)
    (h : match σ.vars.lookup x with | some (.list ds) => (ds.length ≤ 16777216 ∧ match ds.getLast? with | some d => Q d σ | none => False) | _ => False) : TE C (.Subscript (.Name x p) (.UnaryOp .USub (.Constant (.int 1) k p1) p2) p3) σ Q R := fun s X I => by
  obtain ⟨a, d, e1, va, hX, hM, h0, hO, hb⟩ := I.own x ho
  rw [e1] at h
  cases d <;> try exact h.elim
  rename_i ds
  obtain ⟨hz, h⟩ := h
  obtain ⟨vs, n, ea, r⟩ := hO
  cases hl : ds.getLast? with
  | none => rw [hl] at h; exact h.elim
  | some d =>
    rw [hl] at h
    obtain ⟨ds', rfl⟩ : ∃ ds', ds = ds' ++ [d] := by
      exact List.getLast?_eq_some_iff.mp hl
    have hlen := Reps.length r
    have hi : (ds' ++ [d])[ds'.length]? = some d := by simp
    obtain ⟨v, hv, rv⟩ := Reps.get r hi
    refine Subscript_ (wpAny_Name (load_var ok va ?_) hd)
    refine wpAny_UnaryOp (wpAny_Constant_int ?_)
    refine neg_int ?_
    obtain ⟨ops, hops⟩ := subscripted_op (.UnaryOp .USub (.Constant (.int 1) k p1) p2) (.ref a) (.int (-1) (s.toks + 1))
    have hvl : vs.length = ds'.length + 1 := by rw [hlen]; simp
    refine tail_any (isList_of ea).typeIs slot_list_getitem.lookup (wpAny_getItem_list_neg (isList_of ea) (by decide) ?_ (by decide) (x := v) ?_ ?_) hops
    · simp only [List.size_toArray, hvl]; omega
    · simp only [List.size_toArray, hvl, List.getElem?_toArray]
      rw [show (-1 + ((ds'.length + 1 : Nat) : Int)).toNat = ds'.length by omega]; exact hv
    · exact ⟨d, σ, X, h, I.tok _, rv, Ext.refl⟩

theorem setItem_last {w : World} {A : Around} {E : Value → Shared → Prop} {l : Addr} {vs : List Value} {n : Nat} {u v : Value} {t : Tok} {Q' : Unit → Shared → Prop} (ho : s.heap.get? l = some (lstObj (vs ++ [u]) n))
    (h : ∀ h' n', Heap.SameBut l s.heap h' → h'.get? l = some (lstObj (vs ++ [v]) n') → Q' () { s with heap := h' }) : wpAny (model prog w) A (setItem (.ref l) (.int (-1) t) v) Q' E s := by
  have hl : s.heap.IsList l (vs ++ [u]).toArray := isList_of ho
  unfold setItem
  try with_reducible refine wpAny_holding ?_
  first | refine wpAny_bind (wpAny_pure ?_) | skip
  refine wpAny_bind (wpAny_sequenceKey hl.typeIs (by decide) ?_)
  refine wpAny_bind (wpAny_callSpecial?_slot (name := Str.ofString "__setitem__") hl.typeIs slot_list_setitem
    (wpAny_call_entry slot_list_setitem hl.typeIs entry_list_setitem ?_ (args_list_setitem _ _ _)))
  show wpAny _ _ (Builtin.List.listSubscript? (.int (-1) t) >>= _) _ _ s
  refine wpAny_bind (wpAny_listSubscript_int (fitsIndex_neg (by decide) (by decide)) ?_)
  have hidx : seqIndex? (-1) (vs ++ [u]).toArray.size = some vs.length := by
    rw [seqIndex_neg (by decide) (by simp; omega)]
    congr 1
    simp; omega
  have hx : (vs ++ [u]).toArray[vs.length]? = some u := by simp
  show wpAny _ _ ((Builtin.List.listItems (.ref l) >>= fun xs => pure ((seqIndex? (-1) xs.size).bind fun i => xs[i]?.map (i, ·))) >>= _) _ _ s
  refine wpAny_bind (wpAny_bind ?_)
  show wpAny _ _ (seqItems? (.ref l) >>= _) _ _ s
  refine wpAny_bind (wpAny_seqItems ho rfl (wpAny_pure (wpAny_pure ?_)))
  rw [hidx]
  simp only [Option.bind_some, hx, Option.map_some]
  show wpAny _ _ (setSeqItemAt l vs.length v >>= _) _ _ s
  have hfin : (s.heap.update l (Obj.mapSeq (·.setIfInBounds vs.length v))).get? l = some (lstObj (vs ++ [v]) n) := by
    rw [Heap.get?_update_self _ ho (by simp [Obj.mapSeq]; rfl)]
    simp [Obj.mapSeq]
  refine wpAny_bind (wpAny_setSeqItemAt ho rfl ?_)
  first
    | exact wpAny_bind (wpAny_pure (wpAny_pure ⟨.none, rfl, wpAny_pure (h _ _ (Heap.SameBut.update ..) hfin)⟩))
    | exact wpAny_pure ⟨.none, rfl, wpAny_pure (h _ _ (Heap.SameBut.update ..) hfin)⟩

/-- x[-1] = e, the list being owned -/
theorem T1.setlast {x : Str} {e : Expr} {p p1 p2 p3 pos : Pos} {k : Nat} (ok : C.Ok) (hd : (x == ("__debug__" : Str)) = false) (hs : swapsWith e (some (.Subscript (.Name x p) (.UnaryOp .USub (.Constant (.int 1) k p1) p2) p3)) pos.line C.env = pure false)
    (h : TE C e σ (fun d σ₁ => σ₁.own = some x ∧ match σ₁.vars.lookup x with | some (.list ds) => ds ≠ [] ∧ Q .next (σ₁.put x (.list (ds.dropLast ++ [d]))) | _ => False) R) :
    T1 C (.Assign [.Subscript (.Name x p) (.UnaryOp .USub (.Constant (.int 1) k p1) p2) p3] e pos) σ Q R := fun s X I => by
  refine wpAny_Assign_Subscript (wpAny_mono (h s X I) (fun v s₁ ⟨d, σ₁, X₁, ⟨ho, q⟩, i, r, x⟩ => ?_) fun _ _ y => y) hs
  obtain ⟨a, d', e1, va, hX, hM, h0, hO, hb⟩ := i.own _ ho
  rw [e1] at q
  cases d' <;> try exact q.elim
  rename_i ds
  obtain ⟨hne, q⟩ := q
  obtain ⟨vs, n, ea, rs⟩ := hO
  obtain ⟨ds', d₀, rfl⟩ : ∃ ds' d₀, ds = ds' ++ [d₀] := ⟨ds.dropLast, ds.getLast hne, (List.dropLast_concat_getLast hne).symm⟩
  have hvl := Reps.length rs
  obtain ⟨vs', u, rfl⟩ : ∃ vs' u, vs = vs' ++ [u] := by
    have : vs ≠ [] := by intro z; subst z; simp at hvl
    exact ⟨vs.dropLast, vs.getLast this, (List.dropLast_concat_getLast this).symm⟩
  have rs' : Reps C.P s₁.heap X₁ ds' vs' := by
    have := Reps.take ds'.length rs
    have e : vs'.length = ds'.length := by simpa using hvl
    rw [List.take_left, ← e, List.take_left] at this
    exact this
  refine wpAny_Name (load_var ok va ?_) hd
  refine wpAny_UnaryOp (wpAny_Constant_int (neg_int ?_))
  refine setItem_last (s := { s₁ with toks := s₁.toks + 1 + 1 }) ea fun h' n' sb e' => ?_
  have ext := Ext.but hX sb
  refine ⟨.next, _, X₁, q, Inv.ownChange (s := s₁) (t := s₁.toks + 1 + 1) ok i ho va hX hM h0 hb sb ?_, rfl, x.trans ext⟩
  rw [List.dropLast_concat]
  exact ⟨vs' ++ [v], n', e', Reps.append (Reps.ext ext rs') (Reps.cons (Rep.ext ext r) Reps.nil)⟩

/-- x.append(e), the list being owned -/
theorem T1.append {x : Str} {e : Expr} {p p1 p2 pos : Pos} (ok : C.Ok) (hd : (x == ("__debug__" : Str)) = false) (ho : σ.own = some x) (hn : notStar e = true) (hline : (p1.endLine == p2.line) = true)
    (hl : match σ.vars.lookup x with | some (.list _) => True | _ => False)
    (h : ∀ X h, TE (C.still X h) e σ (fun d σ₁ => σ₁.own = some x ∧ match σ₁.vars.lookup x with | some (.list ds) => ds.length ≤ 16777216 ∧ Q .next (σ₁.put x (.list (ds ++ [d]))) | _ => False) R) :
    T1 C (.Expr (.Call (.Attribute (.Name x p) "append" p1) [e] [] p2) pos) σ Q R := fun s X I => by
  obtain ⟨a, d0, e0, va0, hX0, hM0, h00, hO0, hb0⟩ := I.own _ ho
  rw [e0] at hl
  cases d0 <;> try exact hl.elim
  obtain ⟨vs0, n0, ea0, rs0⟩ := hO0
  have hs : starEach [e] C.env = [(false, eval e C.env)] := by rw [starEach_plain hn]; rfl
  refine wpAny_Expr_any ?_ (by unfold interactive; rw [ok.kind]; rfl) rfl
  refine Call_method1 rfl hs hline (wpAny_Name (load_var ok va0 ?_) hd)
  refine ⟨"list", "list.append", F.plainAttrs_list, slot_list_append, by rfl, ⟨_, ea0, rfl⟩, fun b q => by cases q; exact ⟨_, ea0, rfl⟩, ?_⟩
  refine Calls.callWith_builtin rfl (Calls.evalArgs_plain (Calls.spliced_cons (wpAny_mono (h X s.heap s X I.still) (fun v s₁ ⟨d, σ₁, X₁, ⟨q0, q⟩, i, r, x1⟩ => Calls.spliced_nil ?_) fun _ _ y => ErP.unstill ok I y)))
  have i' := Inv.unstill ok I i
  obtain ⟨a', d', e1, va, hX, hM, h0, hO, hb⟩ := i'.own _ q0
  have := var_one va (still_var ok I i va0)
  cases this
  rw [e1] at q
  cases d' <;> try exact q.elim
  rename_i ds
  obtain ⟨hz, q⟩ := q
  obtain ⟨vs, n, ea, rs⟩ := hO
  show wpAny _ _ (call (.builtin "list.append") [.ref a, v]) _ _ _
  refine append_at ea (fun h' sb e' => ?_) (by rw [List.size_toArray, Reps.length rs, sizeLine_eq]; exact hz)
  have ext := Ext.but hX sb
  rw [List.push_toArray] at e'
  exact ⟨.next, _, X₁, q, Inv.ownChange (s := s₁) (t := s₁.toks) ok i' q0 va hX hM h0 hb sb ⟨vs ++ [v], n + 1, e', Reps.append (Reps.ext ext rs) (Reps.cons (Rep.ext ext r) Reps.nil)⟩, rfl, x1.trans ext⟩
end
end Mine
end
section
namespace Mine
section
variable {w : World}
theorem ents_pairs {P : Params} {prog : Program} : ∀ {ks : List Str} {vs : List Value} {es : List DictEntry}, Ents P ks vs es → Pairs (strKind prog w) es (ks.zip vs)
  | [], [], [], _ => .nil
  | _ :: _, _ :: _, _ :: _, ⟨⟨t, e1⟩, _, e3, r⟩ => .cons (by rw [e1]; exact strKind_is prog w _ t) e3 (ents_pairs r)
theorem ents_of {prog : Program} : ∀ {ks : List Str} {vs : List Value} {es : List DictEntry}, ks.length = vs.length → Pairs (strKind prog w) es (ks.zip vs) → (∀ e ∈ es, ∃ k, (strKind prog w).is k e.key = true ∧ e.hash = (strKind prog w).hash k) → Ents w.params ks vs es
  | [], [], _, _, .nil, _ => trivial
  | [], _ :: _, _, h, _, _ => nomatch h
  | _ :: _, [], _, h, _, _ => nomatch h
  | k :: ks, v :: vs, _, h, .cons (e := e) h1 h2 h3, hk => by
    obtain ⟨t, ht⟩ := Value.isStrOf_shape h1
    refine ⟨⟨t, ht⟩, ?_, h2, ents_of (by simpa using h) h3 fun e he => hk e (.tail _ he)⟩
    obtain ⟨k', q1, q2⟩ := hk e (.head _)
    have : k' = k := (strKind prog w).inj _ _ _ q1 h1
    subst this
    exact q2
theorem zip_keys {ks : List Str} {vs : List Value} (h : ks.length = vs.length) : (ks.zip vs).map (·.1) = ks := by
  rw [List.map_fst_zip (Nat.le_of_eq h)]
theorem ents_dict {h : Heap} {a : Addr} {es : List DictEntry} {n : Nat} {ks : List Str} {vs : List Value} (ho : h.get? a = some (dctObj es n)) (e : Ents w.params ks vs es) (nd : ks.Nodup) : h.DictOf (strKind prog w) a (ks.zip vs) :=
  ⟨_, es.toArray, n, ho, ⟨rfl, rfl, rfl⟩, rfl, fun en he => by
    obtain ⟨k, t, e1, e2⟩ := ents_keys e en (by simpa using he)
    exact ⟨k, by rw [e1]; exact strKind_is prog w k t, e2⟩, by simpa using ents_pairs e, by rw [zip_keys (ents_len e).1]; exact nd⟩
end

section
variable {C : Cx} {σ σ' : St} {s : Shared} {X : Addr → Prop} {R : Exc → St → Prop} {Q : Out → St → Prop}
theorem setKey {w : World} {A : Around} {E : Value → Shared → Prop} {a : Addr} {es : List DictEntry} {n : Nat} {ks : List Str} {vs : List Value} {k : Str} {v : Value} {t : Tok} {Q' : Unit → Shared → Prop} (ho : s.heap.get? a = some (dctObj es n)) (he : Ents w.params ks vs es) (nd : ks.Nodup) (nk : k ∉ ks) (hz : ks.length ≤ 16777216)
    (h : ∀ h' es' n', Heap.SameBut a s.heap h' → h'.get? a = some (dctObj es' n') → Ents w.params (ks ++ [k]) (vs ++ [v]) es' → Q' () { s with heap := h', toks := s.toks + 1 }) : wpAny (model prog w) A (setItem (.ref a) (.str k t) v) Q' E s := by
  have hl := (ents_len he).1
  have hst : stored (ks.zip vs) k v = (ks ++ [k]).zip (vs ++ [v]) := by
    unfold stored
    have hany : ((ks.zip vs).any fun kv => kv.1 = k) = false := by
      rw [List.any_eq_false]
      intro kv hm q
      have := (List.of_mem_zip (a := kv.1) (b := kv.2) hm).1
      have q' : kv.1 = k := by simpa using q
      exact nk (q' ▸ this)
    rw [hany, if_neg (by decide), List.zip_append hl]
    rfl
  refine wpAny_setItem_pairs (strKind_is prog w k t) (ents_dict ho he nd) (fun h' hd sb => ?_) (by rw [sizeLine_eq]; simp [hl]; omega)
  rw [hst] at hd
  obtain ⟨⟨oc, od, odt, osl⟩, es', ep, ho', ⟨x1, x2, x3⟩, hdt, hk, hp, hn⟩ := hd
  dsimp only at x1 x2 x3 hdt
  subst x1 x2 x3 hdt
  refine h h' es'.toList ep sb (by simpa using ho') (ents_of (by simp [hl]) hp fun e hm => hk e (by simpa using hm))

/-- x[y] = e, the dict being owned -/
theorem T1.setkey {x y : Str} {e : Expr} {p p1 p2 pos : Pos} (ok : C.Ok) (hdx : (x == ("__debug__" : Str)) = false) (hdy : (y == ("__debug__" : Str)) = false) (hs : swapsWith e (some (.Subscript (.Name x p) (.Name y p1) p2)) pos.line C.env = pure false)
    (h : TE C e σ (fun d σ₁ => σ₁.own = some x ∧ σ₁.own ≠ some y ∧ match σ₁.vars.lookup x, σ₁.vars.lookup y with | some (.dict ks ds), some (.str k) => (ks.Nodup ∧ k ∉ ks ∧ ks.length ≤ 16777216) ∧ Q .next (σ₁.put x (.dict (ks ++ [k]) (ds ++ [d]))) | _, _ => False) R) :
    T1 C (.Assign [.Subscript (.Name x p) (.Name y p1) p2] e pos) σ Q R := fun s X I => by
  refine wpAny_Assign_Subscript (wpAny_mono (h s X I) (fun v s₁ ⟨d, σ₁, X₁, ⟨ho, hoy, q⟩, i, r, x⟩ => ?_) fun _ _ z => z) hs
  obtain ⟨a, d', e1, va, hX, hM, h0, hO, hb⟩ := i.own _ ho
  rw [e1] at q
  cases d' <;> try exact q.elim
  rename_i ks ds
  cases ey : σ₁.vars.lookup y with
  | none => rw [ey] at q; exact q.elim
  | some dy =>
    rw [ey] at q
    obtain ⟨vy, vay, ry⟩ := i.vars y dy ey hoy
    cases dy <;> try exact q.elim
    rename_i k
    obtain ⟨⟨q1, q2, q3⟩, q⟩ := q
    simp only [Rep] at ry
    obtain ⟨ty, rfl⟩ := ry
    obtain ⟨es, vs, n, ea, he, rs⟩ := hO
    refine wpAny_Name (load_var ok va ?_) hdx
    refine wpAny_Name (load_var ok vay ?_) hdy
    refine setKey ea he.2 q1 q2 q3 fun h' es' n' sb e' he' => ?_
    have ext := Ext.but hX sb
    exact ⟨.next, _, X₁, q, Inv.ownChange (s := s₁) (t := s₁.toks + 1) ok i ho va hX hM h0 hb sb ⟨es', vs ++ [v], n', e', ⟨he.1, he'⟩, Reps.append (Reps.ext ext rs) (Reps.cons (Rep.ext ext r) Reps.nil)⟩, rfl, x.trans ext⟩
end
end Mine
end
section
namespace Mine

/-- the kinds of things that data are made of -/
def DataObj (o : Obj) : Prop := o.cls = .type "list" ∨ o.cls = .type "tuple" ∨ o.cls = .type "dict" ∨ o.cls = .ref codeCls
mutual
theorem Rep.at {P : Params} {X : Addr → Prop} {h h' : Heap} (k : ∀ a o, h.get? a = some o → ¬ X a → DataObj o → h'.get? a = some o) : ∀ {d : PV} {v : Value}, Rep P h X d v → Rep P h' X d v
  | .none, _, r => by simpa only [Rep] using r
  | .bool _, _, r => by simpa only [Rep] using r
  | .int _, _, r => by simpa only [Rep] using r
  | .str _, _, r => by simpa only [Rep] using r
  | .bytes _, _, r => by simpa only [Rep] using r
  | .list _, _, r => by
    simp only [Rep] at r ⊢
    obtain ⟨a, vs, n, e, ho, hx, hr⟩ := r
    exact ⟨a, vs, n, e, k _ _ ho hx (.inl rfl), hx, Reps.at k hr⟩
  | .tuple _, _, r => by
    simp only [Rep] at r ⊢
    obtain ⟨a, vs, e, ho, hx, hr⟩ := r
    exact ⟨a, vs, e, k _ _ ho hx (.inr (.inl rfl)), hx, Reps.at k hr⟩
  | .dict _ _, _, r => by
    simp only [Rep] at r ⊢
    obtain ⟨a, es, vs, n, e, ho, hx, he, hr⟩ := r
    exact ⟨a, es, vs, n, e, k _ _ ho hx (.inr (.inr (.inl rfl))), hx, he, Reps.at k hr⟩
  | .code _ _, _, r => by
    simp only [Rep] at r ⊢
    obtain ⟨a, dx, es, n, vt, vs, e, ho, hx, hd, hy, he, ht, hr⟩ := r
    exact ⟨a, dx, es, n, vt, vs, e, k _ _ ho hx (.inr (.inr (.inr rfl))), hx, k _ _ hd hy (.inr (.inr (.inl rfl))), hy, he, ht, Rep.at k hr⟩
  | .ext _, _, r => by simpa only [Rep] using r
theorem Reps.at {P : Params} {X : Addr → Prop} {h h' : Heap} (k : ∀ a o, h.get? a = some o → ¬ X a → DataObj o → h'.get? a = some o) : ∀ {ds : List PV} {vs : List Value}, Reps P h X ds vs → Reps P h' X ds vs
  | [], _, r => by simpa only [Reps] using r
  | _ :: _, _, r => by
    simp only [Reps] at r ⊢
    obtain ⟨v, rr, e, h1, h2⟩ := r
    exact ⟨v, rr, e, Rep.at k h1, Reps.at k h2⟩
end

/-- an iterator at work -/
structure Itr (w : World) (A : Around) (target : Expr) (I : Addr) (fp wr : List Addr) (es : List PV) (vs : List Value) (ds : List PV) (St : Nat → Heap → Prop) : Prop where
  sub : ∀ a, a ∈ wr → a ∈ fp
  frame : ∀ i h h', St i h → (∀ a, a ∈ fp → ∀ o, h.get? a = some o → h'.get? a = some o) → St i h'
  live : ∀ i h, St i h → ∀ a, a ∈ fp → ∃ o, h.get? a = some o
  odd : ∀ i h, St i h → ∀ a, a ∈ wr → ∀ o, h.get? a = some o → ¬ DataObj o
  item : ∀ i (s : Shared) (Q : Value → Shared → Prop) (E : Value → Shared → Prop) d, ds[i]? = some d → St i s.heap →
    (∀ v h' t, St (i + 1) h' → (∀ b o, b ∉ wr → s.heap.get? b = some o → h'.get? b = some o) → (∀ X, (∀ a, X a → ∃ o, s.heap.get? a = some o) → Reps w.params s.heap X es vs → Rep w.params h' X d v) → Q v { s with heap := h', toks := t }) →
    wpAny (model prog w) A (pyNext (.ref I)) (fun r s₁ => match r with | none => False | some v => wpAny (model prog w) A (letOwnedTupleGo target (.ref I) v) (fun _ s₂ => Q v s₂) E s₁) E s
  done : ∀ (s : Shared) (Q : Shared → Prop) (E : Value → Shared → Prop), St ds.length s.heap →
    (∀ h' t, (∀ b o, b ∉ wr → s.heap.get? b = some o → h'.get? b = some o) → Q { s with heap := h', toks := t }) → wpAny (model prog w) A (pyNext (.ref I)) (fun r s₁ => r = none ∧ Q s₁) E s
  self : ∀ i (s : Shared) (Q : Value → Shared → Prop) (E : Value → Shared → Prop), St i s.heap → Q (.ref I) s → wpAny (model prog w) A (pyIter (.ref I)) Q E s

theorem frames_mem {h h' base : Heap} : ∀ {l : List Env}, (∀ b, b ∈ l.filterMap (·.frame) → ∀ o, h.get? b = some o → (∀ vs, o.data ≠ .fields vs) → ∃ o', h'.get? b = some o' ∧ ∀ vs, o'.data ≠ .fields vs) → h.FunFrames base l → h'.FunFrames base l
  | [], _, _ => trivial
  | env :: r, k, ⟨hk, ⟨L, o, hf, hn, ho, hd⟩, hr⟩ => by
    have hm : L ∈ (env :: r).filterMap (·.frame) := by rw [List.filterMap_cons, hf]; exact .head _
    obtain ⟨o', ho', hd'⟩ := k L hm o ho hd
    exact ⟨hk, ⟨L, o', hf, hn, ho', hd'⟩, frames_mem (fun b m => k b (by rw [List.filterMap_cons, hf]; exact .tail _ m)) hr⟩

section
variable {C : Cx} {σ σ' : St} {s : Shared} {X : Addr → Prop} {R : Exc → St → Prop} {Q : Out → St → Prop}

/-- what an iterator changes touches no datum -/
theorem Inv.turn {wr : List Addr} {h' : Heap} {t : Nat} (I : Inv C s σ X) (hk : ∀ b o, b ∉ wr → s.heap.get? b = some o → h'.get? b = some o) (odd : ∀ a, a ∈ wr → ∀ o, s.heap.get? a = some o → ¬ DataObj o) (hx : ∀ a, a ∈ wr → ¬ X a)
    (h0 : ∀ a, a ∈ wr → C.h0.get? a = none) (hb : ∀ a, a ∈ wr → C.base.get? a = none) (ok : C.Ok) : Inv C { s with heap := h', toks := t } σ X := by
  have kx : ∀ a o, X a → s.heap.get? a = some o → h'.get? a = some o := fun a o q e => hk a o (fun m => hx a m q) e
  have kd : ∀ a o, s.heap.get? a = some o → ¬ X a → DataObj o → h'.get? a = some o := fun a o e _ d => hk a o (fun m => odd a m o e d) e
  have hns : ∀ {m}, s.heap.Ns C.env.locals m → h'.Ns C.env.locals m := fun n => let ⟨o, es, ep, e, r⟩ := n; ⟨o, es, ep, kx _ _ (I.mx _ ok.lm) e, r⟩
  have hce : ∀ {x c v}, C.env.cells.lookup x = some c → s.heap.IsCell c v → h'.IsCell c v := fun q i => let ⟨o, e, d⟩ := i; ⟨o, kx _ _ (I.mx _ (ok.cm _ _ q)) e, d⟩
  have hva : ∀ {x v}, VarAt C.env s.heap x v → VarAt C.env h' x v := fun v => v.imp (fun ⟨k, m, n, e⟩ => ⟨k, m, hns n, e⟩) fun ⟨k, c, e, i⟩ => ⟨k, c, e, hce e i⟩
  refine ⟨fun b o e => hk b o (fun m => by rw [hb b m] at e; cases e) (I.stay b o e), ⟨fun a o e n => hk a o (fun m => by rw [h0 a m] at e; cases e) (I.up.keep a o e n), fun a o e m => ?_⟩, frames_mem (h := s.heap) (fun b m o e nf => ⟨o, kx b o (I.mx _ (ok.sm b m)) e, nf⟩) I.frames, I.gens, I.os, I.mx, I.xb, fun a q => let ⟨o, e⟩ := I.xl a q; ⟨o, kx a o q e⟩, let ⟨m, n⟩ := I.ns; ⟨m, hns n⟩, fun x c e => let ⟨v, i⟩ := I.cells x c e; ⟨v, hce e i⟩, fun x d e n => let ⟨v, a, r⟩ := I.vars x d e n; ⟨v, hva a, Rep.at kd r⟩, fun x e => ?_, I.xm⟩
  · obtain ⟨sl, q⟩ := I.up.frame a o e m
    exact ⟨sl, hk a _ (fun m => by rw [h0 a m] at e; cases e) q⟩
  · obtain ⟨a, d, p1, p2, p3, p4, p5, p6, p7⟩ := I.own x e
    refine ⟨a, d, p1, hva p2, p3, p4, p5, ?_, p7⟩
    cases d <;> first | exact p6.elim | skip
    · obtain ⟨vs, k, e1, e2⟩ := p6; exact ⟨vs, k, kx _ _ p3 e1, Reps.at kd e2⟩
    · obtain ⟨es, vs, k, e1, e2, e3⟩ := p6; exact ⟨es, vs, k, kx _ _ p3 e1, e2, Reps.at kd e3⟩

/-- an iteration's source -/
def TI (C : Cx) (iter target : Expr) (σ : St) (Q : List PV → St → Prop) (R : Exc → St → Prop) : Prop :=
  ∀ s X, Inv C s σ X → wpAny (model prog C.w) C.A (eval iter C.env) (fun x s₁ => wpAny (model prog C.w) C.A (pyIter x) (fun it s₂ =>
    ∃ ds σ' X' I fp wr es vs T, it = .ref I ∧ Q ds σ' ∧ Inv C s₂ σ' X' ∧ Ext X X' s.heap s₂.heap ∧ Itr C.w C.A target I fp wr es vs ds T ∧ T 0 s₂.heap ∧ Reps C.P s₂.heap X' es vs ∧ (∀ a, a ∈ fp → ¬ X' a) ∧
      (∀ a, a ∈ wr → C.h0.get? a = none ∧ C.base.get? a = none ∧ (X a ∨ s.heap.get? a = none))) (ErP C R X s.heap) s₁) (ErP C R X s.heap) s

/-- a target that takes a datum -/
inductive Bind (C : Cx) : Expr → PV → St → St → Prop
  | name {x : Str} {p : Pos} {d : PV} {σ : St} : canStore C x → σ.own ≠ some x → Bind C (.Name x p) d σ (σ.put x d)
  | tup {xs : List (Str × Pos)} {k} {p : Pos} {ds : List PV} {σ : St} : xs.length = ds.length → (∀ x ∈ xs, canStore C x.1 ∧ σ.own ≠ some x.1) →
      Bind C (.Tuple (xs.map fun x => .Name x.1 x.2) k p) (.tuple ds) σ ((xs.zip ds).foldl (fun σ p => σ.put p.1.1 p.2) σ)
theorem bind_assign {t : Expr} {d : PV} {v : Value} (ok : C.Ok) (hh : C.hd = none) (b : Bind C t d σ σ') (I : Inv C s σ X) (r : Rep C.P s.heap X d v) {Q' : Unit → Shared → Prop} {R' : Value → Shared → Prop}
    (h : ∀ h' t, Inv C { s with heap := h', toks := t } σ' X → Ext X X s.heap h' → Q' () { s with heap := h', toks := t }) : wpAny (model prog C.w) C.A (assign t C.env v) Q' R' s := by
  cases b with
  | name hc ho => exact wpAny_assign_Name (store ok I hc ho r h)
  | tup hl hc => exact assign_tup ok hh I r hl hc h

/-- what is left of a loop -/
def ForT (C : Cx) (t : Expr) (body : List Stmt) (Q : Out → St → Prop) (R : Exc → St → Prop) : List PV → St → Prop
  | [], σ => Q .next σ
  | d :: ds, σ => ∃ σ₁, Bind C t d σ σ₁ ∧ TS C body σ₁ (fun o σ₂ => match o with | .next => ForT C t body Q R ds σ₂ | .cont => ForT C t body Q R ds σ₂ | .brk => Q .next σ₂ | .ret d => Q (.ret d) σ₂) R

theorem ErP.passes (ok : C.Ok) (he : C.env = C.fenv) {h : Heap} {X : Addr → Prop} {v : Value} {s' : Shared} (e : ErP C R X h v s') : notedBy (model prog C.w) C.A C.env (cameBackBy (model prog C.w) C.A C.env (ErP C R X h)) v s' := by
  obtain ⟨x, σ', X', a, h₁, rfl, q, i, y, g⟩ := e
  obtain ⟨L, hL⟩ := ok.fl
  unfold notedBy cameBackBy
  rw [he]
  refine here_note (env := C.fenv) (outer := C.outer) rfl hL g fun h2 g2 => ?_
  exact gone_back hL g2 fun h3 g3 => ⟨x, σ', X', a, h₁, rfl, q, i, y, ⟨true, _, .inr ⟨rfl, L, hL, rfl⟩, g3⟩⟩

theorem T1.while {t : Expr} {b o : List Stmt} {pos} (ok : C.Ok) (he : C.env = C.fenv) (Φ : Nat → St → Prop) (n : Nat) (h0 : Φ n σ)
    (turn : ∀ n σ, Φ n σ → TB C t σ (fun c σ₁ => if c then TS C b σ₁ (fun o σ₂ => match o with | .next => ∃ m, m < n ∧ Φ m σ₂ | .cont => ∃ m, m < n ∧ Φ m σ₂ | .brk => Q .next σ₂ | .ret d => Q (.ret d) σ₂) R else TS C o σ₁ Q R) R) : T1 C (.While t b o pos) σ Q R := fun s X I => by
  refine wpAny_While (codeAny_whileLoop (fun n s' => ∃ σ' X', Φ n σ' ∧ Inv C s' σ' X' ∧ Ext X X' s.heap s'.heap) (fun n s₁ ⟨σ₁, X₁, f, i, x⟩ => ?_) n ⟨σ, X, h0, I, Ext.refl⟩)
  refine wpAny_mono (turn n σ₁ f s₁ X₁ i) (fun c s₂ ⟨σ₂, X₂, q₂, i₂, x₂⟩ => ?_) fun _ _ y => ErP.passes ok he (ErP.of x y)
  cases c with
  | true =>
    refine wpAny_mono (q₂ s₂ X₂ i₂) (fun f s₃ ⟨o, σ₃, X₃, q₃, i₃, r₃, x₃⟩ => ?_) fun _ _ y => ErP.passes ok he (ErP.of (x.trans x₂) y)
    have xx := (x.trans x₂).trans x₃
    cases o with
    | next => cases r₃; obtain ⟨m, hm, hf⟩ := q₃; exact ⟨m, hm, σ₃, X₃, hf, i₃, xx⟩
    | cont => cases r₃; obtain ⟨m, hm, hf⟩ := q₃; exact ⟨m, hm, σ₃, X₃, hf, i₃, xx⟩
    | brk => cases r₃; exact ⟨.next, σ₃, X₃, q₃, i₃, rfl, xx⟩
    | ret d => obtain ⟨v, rfl, r⟩ := r₃; exact ⟨.ret d, σ₃, X₃, q₃, i₃, ⟨v, rfl, r⟩, xx⟩
  | false => exact wpAny_mono (q₂ s₂ X₂ i₂) (fun f s₃ y => EvS.of (x.trans x₂) y) fun _ _ y => ErP.passes ok he (ErP.of (x.trans x₂) y)

theorem T1.for {t iter : Expr} {b : List Stmt} {pos} (ok : C.Ok) (he : C.env = C.fenv) (hh : C.hd = none) (hs : ∀ x, foldedSetIterable iter C.env x = pure x)
    (h : TI C iter t σ (fun ds σ₁ => ForT C t b Q R ds σ₁) R) : T1 C (.For t iter b [] pos) σ Q R := fun s X I => by
  refine wpAny_For (wpAny_mono (h s X I) (fun xv s₁ h₁ => wpAny_mono h₁ (fun it s₂ h₂ => ?_) fun _ _ y => y) fun _ _ y => y) hs
  obtain ⟨ds, σ', X', It, fp, wr, es, vs, T, rfl, q, i, x, W, st, rs, nf, nw⟩ := h₂
  have wr0 : ∀ a, a ∈ wr → C.h0.get? a = none := fun a m => (nw a m).1
  have wrb : ∀ a, a ∈ wr → C.base.get? a = none := fun a m => (nw a m).2.1
  refine codeAny_forLoop_any (fun n s' => ∃ k σ₁ X₁, n = ds.length + 1 - k ∧ k ≤ ds.length ∧ ForT C t b Q R (ds.drop k) σ₁ ∧ Inv C s' σ₁ X₁ ∧ Ext X X₁ s.heap s'.heap ∧ T k s'.heap ∧ Reps C.P s'.heap X₁ es vs ∧ (∀ a, a ∈ fp → ¬ X₁ a)) ?_ (ds.length + 1) ⟨0, σ', X', rfl, Nat.zero_le _, q, i, x, st, rs, nf⟩
  rintro n s₃ ⟨k, σ₁, X₁, rfl, hk, q₁, i₁, x₁, st₁, rs₁, nf₁⟩
  have ext : ∀ {h' : Heap}, (∀ b o, b ∉ wr → s₃.heap.get? b = some o → h'.get? b = some o) → Ext X X₁ s.heap h' := fun hk' => ⟨fun a o e n => hk' a o (fun m => by
    rcases (nw a m).2.2 with q | q
    · exact n q
    · rw [q] at e; cases e) (x₁.keep a o e n), x₁.grow⟩
  have wx : ∀ a, a ∈ wr → ¬ X₁ a := fun a m => nf₁ a (W.sub a m)
  have turn : ∀ {h' : Heap} {tk}, (∀ b o, b ∉ wr → s₃.heap.get? b = some o → h'.get? b = some o) → Inv C { s₃ with heap := h', toks := tk } σ₁ X₁ := fun hk' => i₁.turn hk' (W.odd _ _ st₁) wx wr0 wrb ok
  have rat : ∀ {h' : Heap}, (∀ b o, b ∉ wr → s₃.heap.get? b = some o → h'.get? b = some o) → Reps C.P h' X₁ es vs := fun hk' => Reps.at (fun a o e _ d => hk' a o (fun m => W.odd _ _ st₁ a m o e d) e) rs₁
  cases hd : ds[k]? with
  | none =>
    have hkl : k = ds.length := Nat.le_antisymm hk (by simpa using hd)
    subst hkl
    refine wpAny_mono (W.done s₃ (fun s₄ => ∃ h' tk, s₄ = { s₃ with heap := h', toks := tk } ∧ ∀ b o, b ∉ wr → s₃.heap.get? b = some o → h'.get? b = some o) _ st₁ fun h' tk hk' => ⟨h', tk, rfl, hk'⟩) (fun r s₄ ⟨hr, h', tk, e, hk'⟩ => ?_) fun _ _ y => y
    subst hr e
    rw [List.drop_length] at q₁
    exact wpAny_execs_nil ⟨.next, σ₁, X₁, q₁, turn hk', rfl, ext hk'⟩
  | some d =>
    have hlt : k < ds.length := (List.getElem?_eq_some_iff.mp hd).1
    have hdrop : ds.drop k = d :: ds.drop (k + 1) := by
      rw [List.drop_eq_getElem_cons hlt]
      have := (List.getElem?_eq_some_iff.mp hd).2
      rw [this]
    rw [hdrop] at q₁
    obtain ⟨σ₂, bd, q₂⟩ := q₁
    refine wpAny_mono (W.item k s₃ (fun v s₄ => ∃ h' tk, s₄ = { s₃ with heap := h', toks := tk } ∧ T (k + 1) h' ∧ (∀ b o, b ∉ wr → s₃.heap.get? b = some o → h'.get? b = some o) ∧ Rep C.P h' X₁ d v) _ d hd st₁ fun v h' tk st' hk' hr => ⟨h', tk, rfl, st', hk', hr X₁ i₁.xl rs₁⟩) (fun r s₄ h₄ => ?_) fun _ _ y => y
    cases r with
    | none => exact h₄.elim
    | some v =>
      refine wpAny_mono h₄ (fun _ s₅ ⟨h', tk, e, st', hk', hr⟩ => ?_) fun _ _ y => y
      subst e
      refine bind_assign ok hh bd (turn hk') hr fun h'' tk' i' x' => ?_
      have xx : Ext X X₁ s.heap h'' := (ext hk').trans x'
      have live' := W.live _ _ st'
      refine wpAny_mono (q₂ _ X₁ i') (fun f s₆ ⟨o, σ₆, X₆, q₆, i₆, r₆, x₆⟩ => ?_) fun _ _ y => ErP.passes ok he (ErP.of xx y)
      have keepfp : ∀ a, a ∈ fp → ∀ o, h'.get? a = some o → s₆.heap.get? a = some o := fun a m o e => x₆.keep a o (x'.keep a o e (nf₁ a m)) (nf₁ a m)
      have nf6 : ∀ a, a ∈ fp → ¬ X₆ a := fun a m => by
        obtain ⟨o, e⟩ := live' a m
        exact x₆.not_in (x'.keep a o e (nf₁ a m)) (nf₁ a m)
      have more : ForT C t b Q R (ds.drop (k + 1)) σ₆ → ∃ m, m < ds.length + 1 - k ∧ ∃ k' σ₁ X₁, m = ds.length + 1 - k' ∧ k' ≤ ds.length ∧ ForT C t b Q R (ds.drop k') σ₁ ∧ Inv C s₆ σ₁ X₁ ∧ Ext X X₁ s.heap s₆.heap ∧ T k' s₆.heap ∧ Reps C.P s₆.heap X₁ es vs ∧ (∀ a, a ∈ fp → ¬ X₁ a) :=
        fun q => ⟨ds.length + 1 - (k + 1), by omega, k + 1, σ₆, X₆, rfl, hlt, q, i₆, xx.trans x₆, W.frame _ _ _ st' keepfp, Reps.ext (x'.trans x₆) (rat hk'), nf6⟩
      cases o with
      | next => cases r₆; exact more q₆
      | cont => cases r₆; exact more q₆
      | brk => cases r₆; exact ⟨.next, σ₆, X₆, q₆, i₆, rfl, xx.trans x₆⟩
      | ret d => obtain ⟨v, rfl, r⟩ := r₆; exact ⟨.ret d, σ₆, X₆, q₆, i₆, ⟨v, rfl, r⟩, xx.trans x₆⟩
end
end Mine
end
section
namespace Mine
theorem not_data {o : Obj} {n : String} (h : o.cls = .type n) (h1 : n ≠ "list") (h2 : n ≠ "tuple") (h3 : n ≠ "dict") : ¬ DataObj o := fun q => by
  unfold DataObj at q
  rw [h] at q
  rcases q with q | q | q | q
  · exact h1 (Value.type.inj q)
  · exact h2 (Value.type.inj q)
  · exact h3 (Value.type.inj q)
  · cases q

section
variable {w : World} {A : Around} {E : Value → Shared → Prop} {s : Shared}
theorem letgo_plain {t : Expr} {I : Addr} {v : Value} {o : Obj} {n : String} {Q : Unit → Shared → Prop} (ho : s.heap.get? I = some o) (hc : o.cls = .type n)
    (hn : (["enumerate", "zip", "dict_itemiterator", "dict_reverseitemiterator", "odict_iterator", "itertools.zip_longest", "itertools.pairwise"].contains n) = false) (h : Q () s) : wpAny (model prog w) A (letOwnedTupleGo t (.ref I) v) Q E s := by
  unfold letOwnedTupleGo
  have main : wpAny (model prog w) A (do
      let (.ref r, .ref a) := ((.ref I : Value), v) | return
      let o ← load r
      match o.cls, o.data with
      | .type n, .fields vs =>
        if ["enumerate", "zip", "dict_itemiterator", "dict_reverseitemiterator", "odict_iterator", "itertools.zip_longest", "itertools.pairwise"].contains n && vs[0]? == some (rawInt a) then
          rule "for.unpacks-the-owned-tuple"
          updateField r 0 .none
      | _, _ => pure ()) Q E s := by
    cases v <;> try exact wpAny_pure h
    refine wpAny_bind (wpAny_load ho ?_)
    rw [hc]
    obtain ⟨cc, dd, dt, sl⟩ := o
    cases dt <;> first | exact wpAny_pure h | skip
    dsimp only
    rw [hn, Bool.false_and, if_neg (by decide)]
    exact wpAny_pure h
  split
  · exact main
  · exact main
  · exact wpAny_pure h

theorem Itr.list {target : Expr} {I ax : Addr} {vs : List Value} {ds : List PV} {n : Nat} (hh : A.handled = none) (hne : ax ≠ I) (hl : vs.length = ds.length) :
    Itr w A target I [I, ax] [I] ds vs ds (fun i h => h.IsListIter I ax i ∧ h.get? ax = some (lstObj vs n)) where
  sub := fun a m => by rw [List.mem_singleton.mp m]; exact .head _
  frame := fun i h h' st k => ⟨st.1.at fun o e => k I (.head _) o e, k ax (.tail _ (.head _)) _ st.2⟩
  live := fun i h st a m => by
    rcases List.mem_cons.mp m with rfl | m
    · obtain ⟨o, e, _⟩ := st.1; exact ⟨o, e⟩
    · rw [List.mem_singleton.mp m]; exact ⟨_, st.2⟩
  odd := fun i h st a m o e => by
    rw [List.mem_singleton.mp m] at e
    obtain ⟨o', e', hc, _⟩ := st.1
    rw [e] at e'; cases e'
    exact not_data hc (by decide) (by decide) (by decide)
  item := fun i s Q E d hd st k => by
    have hlt : i < vs.length := by rw [hl]; exact (List.getElem?_eq_some_iff.mp hd).1
    refine wpAny_pyNext_list_item st.1 (isList_of st.2) (x := vs[i]) (by simp [hlt]) fun h' hit' sb => ?_
    obtain ⟨o', e', hc, hdt⟩ := hit'
    refine letgo_plain (s := { s with heap := h' }) e' hc (by decide) ?_
    refine k vs[i] h' s.toks ⟨⟨o', e', hc, hdt⟩, (sb.2 ax hne).trans st.2⟩ (fun b o nb e => (sb.2 b fun q => nb (by simp [q])).trans e) fun X hX rs => ?_
    obtain ⟨v, hv, rv⟩ := Reps.get rs hd
    rw [List.getElem?_eq_getElem hlt] at hv
    cases hv
    refine Rep.at (fun a o e _ dt => (sb.2 a fun q => ?_).trans e) rv
    subst q
    obtain ⟨o₂, e₂, hc₂, _⟩ := st.1
    rw [e] at e₂; cases e₂
    exact not_data hc₂ (by decide) (by decide) (by decide) dt
  done := fun s Q E st k => by
    refine wpAny_pyNext_list_end hh st.1 (isList_of st.2) (by simp [hl]) fun h' he => ⟨rfl, k h' s.toks fun b o nb e => he b o (fun q => nb (by simp [q])) e⟩
  self := fun _ s Q E st q => wpAny_pyIter_listiter st.1 q

/-- range(a, b) -/
def rangeF (a b : Int) : List PV := (List.range (b - a).toNat).map fun (i : Nat) => PV.int (a + (i : Int))
theorem Itr.range {target : Expr} {I : Addr} {a b : Int} (hh : A.handled = none) :
    Itr w A target I [I] [I] [] [] (rangeF a b) (fun i h => IsRangeIter h I (a + (i : Nat) * 1) (((b - a).toNat : Int) - (i : Nat)) 1) where
  sub := fun a m => m
  frame := fun i h h' st k => k I (.head _) _ st
  live := fun i h st a m => by rw [List.mem_singleton.mp m]; exact ⟨_, st⟩
  odd := fun i h st a m o e => by
    rw [List.mem_singleton.mp m] at e
    rw [st] at e; cases e
    exact not_data rfl (by decide) (by decide) (by decide)
  item := fun i s Q E d hd st k => by
    have hlt : i < (b - a).toNat := by have := (List.getElem?_eq_some_iff.mp hd).1; simpa [rangeF] using this
    have hdv : d = .int (a + (i : Int)) := by
      unfold rangeF at hd
      rw [List.getElem?_map, List.getElem?_range hlt] at hd
      simpa using hd.symm
    subst hdv
    refine wpAny_pyNext_range_item st (by omega) fun h' hit' sb => ?_
    have e' : a + (i : Nat) * 1 + 1 = a + ((i + 1 : Nat) : Int) * 1 := by push_cast; omega
    have e2 : ((b - a).toNat : Int) - (i : Nat) - 1 = ((b - a).toNat : Int) - ((i + 1 : Nat) : Int) := by push_cast; omega
    rw [e', e2] at hit'
    refine letgo_plain (s := { s with heap := h', toks := s.toks + 1 }) hit' rfl (by decide) ?_
    refine k _ h' (s.toks + 1) hit' (fun c o nb e => (sb.2 c fun q => nb (by simp [q])).trans e) fun X hX rs => ?_
    rw [show a + (i : Int) = a + (i : Nat) * 1 by omega]
    exact rep_int _ _
  done := fun s Q E st k => by
    have hlen : (rangeF a b).length = (b - a).toNat := by simp [rangeF]
    rw [hlen] at st
    refine wpAny_pyNext_range_end hh st (by omega) fun h' he => ⟨rfl, k h' s.toks fun c o nb e => he c o (fun q => nb (by simp [q])) e⟩
  self := fun _ s Q E st q => wpAny_pyIter_rangeiter st q

theorem entry_itemiter_iter : entryFor table "dict_itemiterator.__iter__" = some Builtin.«dict_keyiterator.__iter__» :=
  entryFor_alias (id' := "dict_keyiterator.__iter__") (by rw [fastTable_eq_tree]; kernel_rfl) rfl (by decide +kernel) (by rw [fastTable_eq_tree]; kernel_rfl)
theorem pyIter_itemiter {it d : Addr} {i n ep : Nat} {ok ov : Value} {Q : Value → Shared → Prop} (hit : IsItemIter s.heap it d i n ep ok ov) (h : Q (.ref it) s) : wpAny (model prog w) A (pyIter (.ref it)) Q E s := by
  have hT : s.TypeIs (.ref it) "dict_itemiterator" := ⟨_, hit, rfl⟩
  refine wpAny_pyIter_slot hT F.slot_dict_itemiterator_iter (wpAny_call_entry F.slot_dict_itemiterator_iter hT entry_itemiter_iter ?_ (F.args_dict_itemiterator_iter_1 _))
  show wpAny _ _ (ret (.ref it)) _ _ s
  exact wpAny_pure ⟨_, rfl, "dict_itemiterator", _, hT, F.slot_dict_itemiterator_next.lookup, h⟩
/-- d.items() -/
def itemsF (ks : List Str) (ds : List PV) : List PV := (ks.zip ds).map fun p => .tuple [.str p.1, p.2]
theorem Itr.items {xs : List Expr} {x1} {pos : Pos} {I d : Addr} {ks : List Str} {vs : List Value} {ds : List PV} {es : List DictEntry} {n : Nat} (hh : A.handled = none) (hne : d ≠ I) (he : Ents w.params ks vs es) (nd : ks.Nodup) (hl : vs.length = ds.length) :
    Itr w A (.Tuple xs x1 pos) I [I, d] [I] ds vs (itemsF ks ds) (fun i h => (∃ ok ov, IsItemIter h I d i vs.length n ok ov) ∧ h.get? d = some (dctObj es n)) where
  sub := fun a m => by rw [List.mem_singleton.mp m]; exact .head _
  frame := fun i h h' st k => ⟨let ⟨ok, ov, e⟩ := st.1; ⟨ok, ov, k I (.head _) _ e⟩, k d (.tail _ (.head _)) _ st.2⟩
  live := fun i h st a m => by
    rcases List.mem_cons.mp m with rfl | m
    · obtain ⟨ok, ov, e⟩ := st.1; exact ⟨_, e⟩
    · rw [List.mem_singleton.mp m]; exact ⟨_, st.2⟩
  odd := fun i h st a m o e => by
    rw [List.mem_singleton.mp m] at e
    obtain ⟨ok, ov, e'⟩ := st.1
    rw [e'] at e; cases e
    exact not_data rfl (by decide) (by decide) (by decide)
  item := fun i s Q E dd hd st k => by
    obtain ⟨⟨ok, ov, hit⟩, ho⟩ := st
    have kl := (ents_len he).1
    have hlz : (ks.zip ds).length = vs.length := by rw [List.length_zip, kl, hl, Nat.min_self]
    have hlt : i < vs.length := by
      have := (List.getElem?_eq_some_iff.mp hd).1
      rw [← hlz]; simpa [itemsF] using this
    have hk : i < ks.length := by rw [kl]; exact hlt
    have hds : i < ds.length := by rw [← hl]; exact hlt
    have hdd : dd = .tuple [.str ks[i], ds[i]] := by
      unfold itemsF at hd
      rw [List.getElem?_map, List.getElem?_eq_getElem (by rw [hlz]; exact hlt), List.getElem_zip] at hd
      simpa using hd.symm
    subst hdd
    have hm := ents_dict (w := w) ho he nd
    have hat : s.heap.DictAt (strKind prog w) d (ks.zip vs) n := by
      obtain ⟨o, es', ep, q1, q2, q3, q4⟩ := hm
      rw [ho] at q1; cases q1
      cases q3
      exact ⟨_, _, ho, q2, rfl, q4⟩
    have hzl : (ks.zip vs).length = vs.length := by rw [List.length_zip, kl, Nat.min_self]
    rw [← hzl] at hit
    refine wpAny_pyNext_items_item hit hat (k := ks[i]) (v := vs[i]) (by rw [List.getElem?_eq_getElem (by rw [hzl]; exact hlt), List.getElem_zip]) fun key h' hkey hout htup hsz keep => ?_
    refine wpAny_letOwnedTupleGo_items (s := { s with heap := h' }) hout fun h'' hit2 sb => ?_
    have dlt := Heap.lt_size ho
    have hI : s.heap.objs.size ≠ I := Nat.ne_of_gt (Heap.lt_size hit)
    have keep2 : ∀ b o, b ∉ [I] → s.heap.get? b = some o → h''.get? b = some o := fun b o nb e => (sb.2 b fun q => nb (by simp [q])).trans (keep b o (fun q => nb (by simp [q])) e)
    refine k (.ref s.heap.objs.size) h'' s.toks ⟨⟨key, vs[i], by rw [hzl] at hit2; exact hit2⟩, keep2 d _ (by simpa using hne) ho⟩ keep2 fun X hX rs => ?_
    obtain ⟨v, hv, rv⟩ := Reps.get rs (List.getElem?_eq_getElem hds)
    rw [List.getElem?_eq_getElem hlt] at hv
    cases hv
    obtain ⟨t, ht⟩ := Value.isStrOf_shape hkey
    subst ht
    refine rep_tuple (vs := [.str ks[i] t, vs[i]]) ((sb.2 _ hI).trans htup) (fun q => by obtain ⟨o, e⟩ := hX _ q; exact absurd (Heap.lt_size e) (Nat.lt_irrefl _)) (Reps.cons (rep_str _ _) (Reps.cons ?_ Reps.nil))
    refine Rep.at (fun a o e _ dt => keep2 a o (fun q => ?_) e) rv
    rw [List.mem_singleton.mp q, hit] at e
    cases e
    exact not_data rfl (by decide) (by decide) (by decide) dt
  done := fun s Q E st k => by
    obtain ⟨⟨ok, ov, hit⟩, ho⟩ := st
    have kl := (ents_len he).1
    have hlen : (itemsF ks ds).length = vs.length := by simp [itemsF, kl, hl]
    rw [hlen] at hit
    have hm := ents_dict (w := w) ho he nd
    have hat : s.heap.DictAt (strKind prog w) d (ks.zip vs) n := by
      obtain ⟨o, es', ep, q1, q2, q3, q4⟩ := hm
      rw [ho] at q1; cases q1
      cases q3
      exact ⟨_, _, ho, q2, rfl, q4⟩
    have hzl : (ks.zip vs).length = vs.length := by rw [List.length_zip, kl, Nat.min_self]
    have hit' : IsItemIter s.heap I d vs.length (ks.zip vs).length n ok ov := by rw [hzl]; exact hit
    refine wpAny_pyNext_items_end hh hit' hat (by rw [List.getElem?_eq_none]; rw [hzl]; exact Nat.le_refl _) fun h' he => ⟨rfl, k h' s.toks fun c o nb e => he c o (fun q => nb (by simp [q])) e⟩
  self := fun _ s Q E st q => by obtain ⟨ok, ov, e⟩ := st.1; exact pyIter_itemiter e q

/-- enumerate(l) -/
def enumF (ds : List PV) : List PV := (List.range ds.length).zipWith (fun (i : Nat) d => PV.tuple [.int (i : Int), d]) ds
theorem Itr.enumerate {xs : List Expr} {x1} {pos : Pos} {e it l : Addr} {vs : List Value} {ds : List PV} {n : Nat} (hh : A.handled = none) (hei : e ≠ it) (hle : l ≠ e) (hli : l ≠ it) (hl : vs.length = ds.length) :
    Itr w A (.Tuple xs x1 pos) e [e, it, l] [e, it] ds vs (enumF ds) (fun i h => (∃ old, IsEnum h e it i old) ∧ h.IsListIter it l i ∧ h.get? l = some (lstObj vs n)) where
  sub := fun a m => by
    rcases List.mem_cons.mp m with rfl | m
    · exact .head _
    · rw [List.mem_singleton.mp m]; exact .tail _ (.head _)
  frame := fun i h h' st k => ⟨let ⟨old, q⟩ := st.1; ⟨old, k e (.head _) _ q⟩, st.2.1.at fun o q => k it (.tail _ (.head _)) o q, k l (.tail _ (.tail _ (.head _))) _ st.2.2⟩
  live := fun i h st a m => by
    rcases List.mem_cons.mp m with rfl | m
    · obtain ⟨old, q⟩ := st.1; exact ⟨_, q⟩
    · rcases List.mem_cons.mp m with rfl | m
      · obtain ⟨o, q, _⟩ := st.2.1; exact ⟨o, q⟩
      · rw [List.mem_singleton.mp m]; exact ⟨_, st.2.2⟩
  odd := fun i h st a m o q => by
    rcases List.mem_cons.mp m with rfl | m
    · obtain ⟨old, q'⟩ := st.1
      rw [q'] at q; cases q
      exact not_data rfl (by decide) (by decide) (by decide)
    · rw [List.mem_singleton.mp m] at q
      obtain ⟨o', q', hc, _⟩ := st.2.1
      rw [q] at q'; cases q'
      exact not_data hc (by decide) (by decide) (by decide)
  item := fun i s Q E dd hd st k => by
    obtain ⟨⟨old, he⟩, hit, ho⟩ := st
    have hlen : (enumF ds).length = ds.length := by simp [enumF]
    have hds : i < ds.length := by rw [← hlen]; exact (List.getElem?_eq_some_iff.mp hd).1
    have hlt : i < vs.length := by rw [hl]; exact hds
    have hdd : dd = .tuple [.int (i : Int), ds[i]] := by
      have := (List.getElem?_eq_some_iff.mp hd).2
      rw [← this]
      simp [enumF]
    subst hdd
    refine wpAny_pyNext_enum_item he hit (isList_of ho) (x := vs[i]) (by simp [hlt]) hei fun h' hout hit' htup hsz keep => ?_
    refine wpAny_letOwnedTupleGo_enum (s := { s with heap := h', toks := s.toks + 1 }) hout fun h'' he' sb => ?_
    have hel := Heap.lt_size he
    obtain ⟨oi, qi, hci, hdi⟩ := id hit
    have hil := Heap.lt_size qi
    have keep2 : ∀ b o, b ∉ [e, it] → s.heap.get? b = some o → h''.get? b = some o := fun b o nb q => (sb.2 b fun z => nb (by simp [z])).trans (keep b o (fun z => nb (by simp [z])) (fun z => nb (by simp [z])) q)
    refine k (.ref s.heap.objs.size) h'' (s.toks + 1) ⟨⟨_, by simpa using he'⟩, hit'.at fun o q => (sb.2 it hei.symm).trans q, keep2 l _ (by simp [hle, hli]) ho⟩ keep2 fun X hX rs => ?_
    obtain ⟨v, hv, rv⟩ := Reps.get rs (List.getElem?_eq_getElem hds)
    rw [List.getElem?_eq_getElem hlt] at hv
    cases hv
    refine rep_tuple (vs := [.int i s.toks, vs[i]]) ((sb.2 _ (Nat.ne_of_gt hel)).trans htup) (fun q => by obtain ⟨o, e⟩ := hX _ q; exact absurd (Heap.lt_size e) (Nat.lt_irrefl _)) (Reps.cons (rep_int _ _) (Reps.cons ?_ Reps.nil))
    refine Rep.at (fun a o q _ dt => keep2 a o (fun z => ?_) q) rv
    rcases List.mem_cons.mp z with rfl | z
    · rw [he] at q; cases q
      exact not_data rfl (by decide) (by decide) (by decide) dt
    · rw [List.mem_singleton.mp z, qi] at q; cases q
      exact not_data hci (by decide) (by decide) (by decide) dt
  done := fun s Q E st k => by
    obtain ⟨⟨old, he⟩, hit, ho⟩ := st
    have hlen : (enumF ds).length = vs.length := by simp [enumF, hl]
    rw [hlen] at he hit
    refine wpAny_pyNext_enum_end hh he hit (isList_of ho) (by simp) fun h' hx => ⟨rfl, k h' s.toks fun c o nb q => hx c o (fun z => nb (by simp [z])) q⟩
  self := fun _ s Q E st q => by obtain ⟨old, e⟩ := st.1; exact wpAny_pyIter_enum e q
end
end Mine
end
section
namespace Mine
section
variable {C : Cx} {σ σ' : St} {s : Shared} {X : Addr → Prop} {R : Exc → St → Prop}

theorem plain_args {args : List Expr} (h : args.all notStar = true) (pos : Pos) (env : Env) : (backTo pos (starEach args env)).any (·.1) = false := by
  induction args with
  | nil => rfl
  | cons e r ih =>
    rw [List.all_cons, Bool.and_eq_true] at h
    rw [starEach_plain h.1]
    show (false || (backTo pos (starEach r env)).any (·.1)) = false
    rw [ih h.2]; rfl
theorem evalArgs_row {args : List Expr} (h : args.all notStar = true) {M : Model} {A : Around} {E : Value → Shared → Prop} {f : Value} {pos : Pos} {env : Env} {Q : Args → Shared → Prop}
    (k : wpAny M A (spliced (backTo pos (starEach args env))) (fun vs s₁ => Q ⟨vs, []⟩ s₁) E s) : wpAny M A (evalArgs f true (backTo pos (starEach args env)) []) Q E s := by
  cases args with
  | nil =>
    unfold evalArgs
    show wpAny M A (spliced [] >>= _) Q E s
    refine wpAny_bind (wpAny_mono k (fun vs s' h' => ?_) fun _ _ x => x)
    first
      | exact wpAny_holding (wpAny_bind (wpAny_pure (wpAny_bind (wpAny_pure (wpAny_pure h')))))
      | exact wpAny_bind (wpAny_pure (wpAny_holding (wpAny_bind (wpAny_pure (wpAny_pure h')))))
  | cons e r =>
    rw [List.all_cons, Bool.and_eq_true] at h
    rw [starEach_plain h.1] at k ⊢
    exact Calls.evalArgs_plain k

/-- what may be called -/
def Callee (C : Cx) (f : Value) : Prop := (∃ T, f = .type T) ∨ (∃ id, f = .builtin id) ∨ keepIn C.K f = true
theorem callWith_any {f : Value} {args : List Expr} {first : List Value} {pos : Pos} (ha : args.all notStar = true) (hf : Callee C f) (ok : C.Ok) {E : Value → Shared → Prop} {Q : Value → Shared → Prop}
    (k : wpAny (model prog C.w) C.A (spliced (backTo pos (starEach args C.env))) (fun vs s₁ => C.base.StaysIn s₁.heap ∧ wpAny (model prog C.w) C.A (call f (first ++ vs)) Q E s₁) E s) :
    wpAny (model prog C.w) C.A (callWith pos f first (backTo pos (starEach args C.env)) []) Q E s := by
  rcases hf with ⟨T, rfl⟩ | ⟨id, rfl⟩ | hk
  · exact PyProof.Rows.callWith_type (plain_args ha _ _) (evalArgs_row ha (wpAny_mono k (fun _ _ y => y.2) fun _ _ y => y))
  · exact Calls.callWith_builtin (plain_args ha _ _) (evalArgs_row ha (wpAny_mono k (fun _ _ y => y.2) fun _ _ y => y))
  · exact callWith_of (P := fun h => C.K.In h) (by rw [plain_args ha]; rfl) (keeps_K hk) (evalArgs_row ha (wpAny_mono k (fun _ _ y => ⟨ok.bs.frag.keeps y.1, y.2⟩) fun _ _ y => y))

/-- a call of a global name -/
theorem TE.call {x : Str} {f : Value} {args : List Expr} {p pos} {Q : PV → St → Prop} (ok : C.Ok) (k : C.env.kindOf x = some .globalImplicit) (e : C.gl x = some f) (hd : (x == ("__debug__" : Str)) = false) (ha : args.all notStar = true) (hf : Callee C f)
    (h : TA C args σ (fun ds σ₁ => TC C f ds σ₁ Q R) R) : TE C (.Call (.Name x p) args [] pos) σ Q R := fun s X I => by
  show wpAny _ _ (eval (.Name x p) C.env >>= fun f => callWith pos f [] (backTo pos (starEach args C.env)) []) _ _ _
  refine wpAny_bind (wpAny_Name (load_glob ok I.stay k e ?_) hd)
  refine callWith_any ha hf ok (wpAny_mono (h pos s X I) (fun vs s₁ ⟨ds, σ₁, X₁, q, i, r, x⟩ => ⟨i.stay, ?_⟩) fun _ _ y => y)
  exact wpAny_mono (q s₁ X₁ vs i r) (fun _ _ y => EvP.of x y) fun _ _ y => ErP.of x y

theorem TC.pur {f : Value} {ds : List PV} {Q : PV → St → Prop} (h : ∀ s X vs, Inv C s σ X → Reps C.P s.heap X ds vs → Pur C.w C.A (PySem.call f vs) s X fun d => Q d σ) : TC C f ds σ Q R := fun s X vs I r =>
  Pur.use (h s X vs I r) I fun _ q => q

/-- a method of a built-in thing -/
theorem TE.meth {o : Expr} {name : Str} {args : List Expr} {T id : String} {ap pos} {Q : PV → St → Prop} (ok : C.Ok) (ha : args.all notStar = true) (hlen : args.length < 20) (hline : (ap.endLine == pos.line) = true) (hbase : ∀ env, attributeBase o name env (eval o env) = eval o env)
    (pa : PlainAttrs T) (slot : Slot T name id) (hty : typeOf (.builtin id) = pure (.type "method_descriptor"))
    (h : TE C o σ (fun d σ₁ => (∀ (s : Shared) (X : Addr → Prop) (v : Value), Rep C.P s.heap X d v → s.TypeIs v T ∧ ∀ a, v = .ref a → ∃ o : Obj, s.heap.get? a = some o ∧ o.dict = none) ∧ TA C args σ₁ (fun ds σ₂ => TC C (.builtin id) (d :: ds) σ₂ Q R) R) R) : TE C (.Call (.Attribute o name ap) args [] pos) σ Q R := fun s X I => by
  refine wpAny_Call_method_lateS (hbase _) ?_ hline (wpAny_mono (h s X I) (fun v s₁ ⟨d, σ₁, X₁, ⟨qt, q⟩, i, r, x⟩ => ?_) fun _ _ y => y)
  · have := plain_args ha pos C.env
    rw [List.any_eq_false] at this
    simp only [keywordEach, backToKw, List.map_nil, List.all_nil, Bool.and_true, List.length_nil, Nat.add_zero, List.isEmpty_nil, if_true, Bool.and_eq_true, List.all_eq_true, decide_eq_true_eq]
    exact ⟨fun y hy => by have := this y hy; simpa using this, by omega⟩
  · obtain ⟨t1, t2⟩ := qt s₁ X₁ v r
    refine ⟨T, id, pa, slot, hty, t1, t2, ?_⟩
    refine callWith_any ha (.inr (.inl ⟨id, rfl⟩)) ok (wpAny_mono (q pos s₁ X₁ i) (fun vs s₂ ⟨ds, σ₂, X₂, q₂, i₂, r₂, x₂⟩ => ⟨i₂.stay, ?_⟩) fun _ _ y => ErP.of x y)
    exact wpAny_mono (q₂ s₂ X₂ (v :: vs) i₂ (Reps.cons (Rep.ext x₂ r) r₂)) (fun _ _ y => EvP.of (x.trans x₂) y) fun _ _ y => ErP.of (x.trans x₂) y
end
end Mine
end
section
namespace Mine
section
variable {C : Cx} {σ σ' : St} {s : Shared} {X : Addr → Prop} {R : Exc → St → Prop} {Q : List PV → St → Prop}

theorem wr_new {s₂ : Shared} {X' : Addr → Prop} {a : Addr} (I : Inv C s₂ σ X') (x : Ext X X' s.heap s₂.heap) (n : s₂.heap.get? a = none) : C.h0.get? a = none ∧ C.base.get? a = none ∧ (X a ∨ s.heap.get? a = none) := by
  refine ⟨?_, fresh_of_stays I.stay n, ?_⟩
  · cases e : C.h0.get? a with
    | none => rfl
    | some o => obtain ⟨_, q⟩ := I.up.any e; rw [n] at q; cases q
  · by_cases hx : X a
    · exact .inl hx
    · cases e : s.heap.get? a with
      | none => exact .inr rfl
      | some o => have := x.keep a o e hx; rw [n] at this; cases this
theorem new_none (h : Heap) : h.get? h.objs.size = none := Heap.get?_none_of_le (Nat.le_refl _)

theorem TI.list {e t : Expr} (hh : C.hd = none) (h : TE C e σ (fun d σ₁ => match d with | .list ds => Q ds σ₁ | _ => False) R) : TI C e t σ Q R := fun s X I => by
  refine wpAny_mono (h s X I) (fun v s₁ ⟨d, σ₁, X₁, q, i, r, x⟩ => ?_) fun _ _ y => y
  cases d <;> try exact q.elim
  rename_i ds
  simp only [Rep] at r
  obtain ⟨a, vs, n, rfl, ea, na, rs⟩ := r
  refine wpAny_pyIter_list (isList_of ea) ?_
  have nf := i.fresh
  refine ⟨ds, σ₁, X₁, s₁.heap.objs.size, _, _, ds, vs, _, rfl, q, i.step (t := s₁.toks) (push_keeps _ _), x.trans Ext.push, Itr.list (n := n) hh (Nat.ne_of_lt (Heap.lt_size ea)) (Reps.length rs), ⟨⟨_, Heap.get?_push_size _ rfl, rfl, rfl⟩, push_keeps _ _ _ _ ea⟩, Reps.ext Ext.push rs, fun b m => ?_, fun b m => ?_⟩
  · rcases List.mem_cons.mp m with rfl | m
    · exact nf
    · rw [List.mem_singleton.mp m]; exact na
  · rw [List.mem_singleton.mp m]
    exact wr_new i x (new_none _)

theorem range_iter (hh : C.hd = none) {t : Expr} {s₁ : Shared} {X₁ : Addr → Prop} {σ₁ : St} {a b : Int} {ta tb tc : Tok} {E : Value → Shared → Prop} (x : Ext X X₁ s.heap s₁.heap) (i : Inv C s₁ σ₁ X₁) (hz : (-(2 ^ 62) ≤ a ∧ a < 2 ^ 62) ∧ -(2 ^ 62) ≤ b ∧ b < 2 ^ 62) (q : Q (rangeF a b) σ₁) (tk : Nat) :
    wpAny (model prog C.w) C.A (pyIter (.ref s₁.heap.objs.size)) (fun it s₂ =>
      ∃ ds σ' X' I fp wr es vs T, it = .ref I ∧ Q ds σ' ∧ Inv C s₂ σ' X' ∧ Ext X X' s.heap s₂.heap ∧ Itr C.w C.A t I fp wr es vs ds T ∧ T 0 s₂.heap ∧ Reps C.P s₂.heap X' es vs ∧ (∀ a, a ∈ fp → ¬ X' a) ∧
        (∀ a, a ∈ wr → C.h0.get? a = none ∧ C.base.get? a = none ∧ (X a ∨ s.heap.get? a = none))) E { s₁ with heap := s₁.heap.push { cls := .type "range", data := .fields #[.int a ta, .int b tb, .int 1 tc] }, toks := tk } := by
  refine wpAny_pyIter_range (s := { s₁ with heap := s₁.heap.push { cls := .type "range", data := .fields #[.int a ta, .int b tb, .int 1 tc] }, toks := tk }) (IsRange.new _ _ _ _ _ _ _) (small_one hz.1.1 hz.1.2 hz.2.1 hz.2.2) ?_
  have i1 : Inv C { s₁ with heap := s₁.heap.push { cls := .type "range", data := .fields #[.int a ta, .int b tb, .int 1 tc] }, toks := tk } σ₁ X₁ := i.step (push_keeps _ _)
  have x1 : Ext X X₁ s.heap (s₁.heap.push { cls := .type "range", data := .fields #[.int a ta, .int b tb, .int 1 tc] }) := x.trans Ext.push
  have nf := i1.fresh
  refine ⟨rangeF a b, σ₁, X₁, _, _, _, [], [], _, rfl, q, i1.step (t := tk) (push_keeps _ _), x1.trans Ext.push, Itr.range (a := a) (b := b) hh, ?_, Reps.nil, fun b m => ?_, fun b m => ?_⟩
  · have e : Builtin.Range.rangeSize a b 1 = ((b - a).toNat : Int) - (0 : Nat) := by
      rw [rangeSize_one]; split <;> omega
    have := Heap.get?_push_size (s₁.heap.push { cls := .type "range", data := .fields #[.int a ta, .int b tb, .int 1 tc] }) (o := { cls := .type "range_iterator", data := .fields #[rawInt a, rawInt (Builtin.Range.rangeSize a b 1), rawInt 1] }) rfl
    rw [e] at this
    show IsRangeIter _ _ (a + (0 : Nat) * 1) _ 1
    rw [show a + ((0 : Nat) : Int) * 1 = a by omega]
    rw [e]
    exact this
  · rw [List.mem_singleton.mp m]; exact nf
  · rw [List.mem_singleton.mp m]
    exact wr_new i1 x1 (new_none _)

theorem TI.range2 {e₁ e₂ t : Expr} {p pos} (ok : C.Ok) (hh : C.hd = none) (k : C.env.kindOf "range" = some .globalImplicit) (e : C.gl "range" = some (.type "range")) (n1 : notStar e₁ = true) (n2 : notStar e₂ = true)
    (h : TE C e₁ σ (fun d₁ σ₁ => TE C e₂ σ₁ (fun d₂ σ₂ => match d₁, d₂ with | .int a, .int b => ((-(2 ^ 62) ≤ a ∧ a < 2 ^ 62) ∧ -(2 ^ 62) ≤ b ∧ b < 2 ^ 62) ∧ Q (rangeF a b) σ₂ | _, _ => False) R) R) : TI C (.Call (.Name "range" p) [e₁, e₂] [] pos) t σ Q R := fun s X I => by
  show wpAny _ _ (eval (.Name "range" p) C.env >>= fun f => callWith pos f [] (backTo pos (starEach [e₁, e₂] C.env)) []) _ _ _
  refine wpAny_bind (wpAny_Name (load_glob ok I.stay k e ?_) (by decide))
  have ha : [e₁, e₂].all notStar = true := by simp [n1, n2]
  have ta : TA C [e₁, e₂] σ (fun ds σ₂ => match ds with | [.int a, .int b] => ((-(2 ^ 62) ≤ a ∧ a < 2 ^ 62) ∧ -(2 ^ 62) ≤ b ∧ b < 2 ^ 62) ∧ Q (rangeF a b) σ₂ | _ => False) R :=
    TA.cons n1 (TE.mono h (fun d₁ σ₁ y => TA.cons n2 (TE.mono y (fun d₂ σ₂ z => TA.nil (by cases d₁ <;> cases d₂ <;> exact z)) fun _ _ z => z)) fun _ _ z => z)
  refine callWith_any ha (.inl ⟨_, rfl⟩) ok (wpAny_mono (ta pos s X I) (fun vs s₁ ⟨ds, σ₁, X₁, q, i, r, x⟩ => ⟨i.stay, ?_⟩) fun _ _ y => y)
  dsimp only at q
  split at q
  · rename_i a b
    simp only [Reps, Rep] at r
    obtain ⟨_, _, rfl, ⟨ta, rfl⟩, _, _, rfl, ⟨tb, rfl⟩, rfl⟩ := r
    exact call_range_2 (range_iter hh x i q.1 q.2 _)
  · exact q.elim
theorem TI.range1 {e₁ t : Expr} {p pos} (ok : C.Ok) (hh : C.hd = none) (k : C.env.kindOf "range" = some .globalImplicit) (e : C.gl "range" = some (.type "range")) (n1 : notStar e₁ = true)
    (h : TE C e₁ σ (fun d₁ σ₁ => match d₁ with | .int b => (-(2 ^ 62) ≤ b ∧ b < 2 ^ 62) ∧ Q (rangeF 0 b) σ₁ | _ => False) R) : TI C (.Call (.Name "range" p) [e₁] [] pos) t σ Q R := fun s X I => by
  show wpAny _ _ (eval (.Name "range" p) C.env >>= fun f => callWith pos f [] (backTo pos (starEach [e₁] C.env)) []) _ _ _
  refine wpAny_bind (wpAny_Name (load_glob ok I.stay k e ?_) (by decide))
  have ha : [e₁].all notStar = true := by simp [n1]
  have ta : TA C [e₁] σ (fun ds σ₂ => match ds with | [.int b] => (-(2 ^ 62) ≤ b ∧ b < 2 ^ 62) ∧ Q (rangeF 0 b) σ₂ | _ => False) R :=
    TA.cons n1 (TE.mono h (fun d₁ σ₁ y => TA.nil (by cases d₁ <;> exact y)) fun _ _ z => z)
  refine callWith_any ha (.inl ⟨_, rfl⟩) ok (wpAny_mono (ta pos s X I) (fun vs s₁ ⟨ds, σ₁, X₁, q, i, r, x⟩ => ⟨i.stay, ?_⟩) fun _ _ y => y)
  dsimp only at q
  split at q
  · rename_i b
    simp only [Reps, Rep] at r
    obtain ⟨_, _, rfl, ⟨tb, rfl⟩, rfl⟩ := r
    exact call_range_1 (range_iter hh x i ⟨by decide, q.1⟩ q.2 _)
  · exact q.elim

/-- d.items() -/
theorem TI.items {o : Expr} {xs : List Expr} {x1} {tp ap pos : Pos} (hh : C.hd = none) (hline : (ap.endLine == pos.line) = true) (hbase : ∀ env, attributeBase o "items" env (eval o env) = eval o env)
    (h : TE C o σ (fun d σ₁ => match d with | .dict ks ds => ks.Nodup ∧ Q (itemsF ks ds) σ₁ | _ => False) R) : TI C (.Call (.Attribute o "items" ap) [] [] pos) (.Tuple xs x1 tp) σ Q R := fun s X I => by
  refine wpAny_Call_method_lateS (hbase _) rfl hline (wpAny_mono (h s X I) (fun v s₁ ⟨d, σ₁, X₁, q, i, r, x⟩ => ?_) fun _ _ y => y)
  cases d <;> try exact q.elim
  rename_i ks ds
  simp only [Rep] at r
  obtain ⟨a, es, vs, n, rfl, ea, na, ⟨hsys, he⟩, rs⟩ := r
  have hm := ents_dict (w := C.w) ea he q.1
  refine ⟨"dict", "dict.items", F.plainAttrs_dict, F.slot_dict_items, F.type_dict_items, ⟨_, ea, rfl⟩, fun b e => by cases e; exact ⟨_, ea, rfl⟩, ?_⟩
  show wpAny _ _ (callWith pos (.builtin "dict.items") [.ref a] [] []) _ _ _
  refine method_meetsIn F.slot_dict_items F.entry_dict_items rfl (PySem.evalArgs_none ⟨rfl, hm.typeIs, F.args_dict_items_1 _, _, meets_dict_items (strKind prog C.w) a (by simpa using hsys), ⟨_, hm⟩, ?_⟩)
  have i1 : Inv C { s₁ with heap := s₁.heap.push { cls := .type "dict_items", data := .fields #[.ref a] } } σ₁ X₁ := i.step (t := s₁.toks) (push_keeps _ _)
  have ea1 := push_keeps s₁.heap { cls := .type "dict_items", data := .fields #[.ref a] } _ _ ea
  have hat : (s₁.heap.push { cls := .type "dict_items", data := .fields #[.ref a] }).DictAt (strKind prog C.w) a (ks.zip vs) n := by
    obtain ⟨o, es', ep, q1, q2, q3, q4⟩ := ents_dict (w := C.w) ea1 he q.1
    rw [ea1] at q1; cases q1
    cases q3
    exact ⟨_, _, ea1, q2, rfl, q4⟩
  refine wpAny_pyIter_items (s := { s₁ with heap := s₁.heap.push { cls := .type "dict_items", data := .fields #[.ref a] } }) ⟨_, Heap.get?_push_size _ rfl, rfl, rfl⟩ hat ?_
  have kl := (ents_len he).1
  have hzl : (ks.zip vs).length = vs.length := by rw [List.length_zip, kl, Nat.min_self]
  have x1 : Ext X X₁ s.heap (s₁.heap.push { cls := .type "dict_items", data := .fields #[.ref a] }) := x.trans Ext.push
  have nf := i1.fresh
  refine ⟨itemsF ks ds, σ₁, X₁, _, _, _, ds, vs, _, rfl, q.2, i1.step (t := s₁.toks) (push_keeps _ _), x1.trans Ext.push, Itr.items (n := n) hh (Nat.ne_of_lt (Heap.lt_size ea1)) he q.1 (Reps.length rs), ⟨⟨.none, .none, ?_⟩, push_keeps _ _ _ _ ea1⟩, Reps.ext (Ext.push.trans Ext.push) rs, fun b m => ?_, fun b m => ?_⟩
  · have z := Heap.get?_push_size (s₁.heap.push { cls := .type "dict_items", data := .fields #[.ref a] }) (o := { cls := .type "dict_itemiterator", data := .fields #[.none, .bool false, .ref a, .int 0 0, .int (ks.zip vs).length 0, .int n 0, .none, .none] }) rfl
    rw [← hzl]
    exact z
  · rcases List.mem_cons.mp m with rfl | m
    · exact nf
    · rw [List.mem_singleton.mp m]; exact na
  · rw [List.mem_singleton.mp m]
    exact wr_new i1 x1 (new_none _)

theorem TI.enumerate {e₁ : Expr} {xs : List Expr} {x1} {tp p pos : Pos} (ok : C.Ok) (hh : C.hd = none) (k : C.env.kindOf "enumerate" = some .globalImplicit) (e : C.gl "enumerate" = some (.type "enumerate")) (n1 : notStar e₁ = true)
    (h : TE C e₁ σ (fun d σ₁ => match d with | .list ds => Q (enumF ds) σ₁ | _ => False) R) : TI C (.Call (.Name "enumerate" p) [e₁] [] pos) (.Tuple xs x1 tp) σ Q R := fun s X I => by
  show wpAny _ _ (eval (.Name "enumerate" p) C.env >>= fun f => callWith pos f [] (backTo pos (starEach [e₁] C.env)) []) _ _ _
  refine wpAny_bind (wpAny_Name (load_glob ok I.stay k e ?_) (by decide))
  have ha : [e₁].all notStar = true := by simp [n1]
  have ta : TA C [e₁] σ (fun ds σ₂ => match ds with | [.list b] => Q (enumF b) σ₂ | _ => False) R :=
    TA.cons n1 (TE.mono h (fun d₁ σ₁ y => TA.nil (by cases d₁ <;> exact y)) fun _ _ z => z)
  refine callWith_any ha (.inl ⟨_, rfl⟩) ok (wpAny_mono (ta pos s X I) (fun vs s₁ ⟨ds, σ₁, X₁, q, i, r, x⟩ => ⟨i.stay, ?_⟩) fun _ _ y => y)
  dsimp only at q
  split at q
  · rename_i ds
    simp only [Reps, Rep] at r
    obtain ⟨_, _, rfl, ⟨a, vs, n, rfl, ea, na, rs⟩, rfl⟩ := r
    refine call_enumerate_list (isList_of ea) fun h' he hit hz keep => ?_
    have i1 : Inv C { s₁ with heap := h' } σ₁ X₁ := i.step (t := s₁.toks) keep
    have x1 : Ext X X₁ s.heap h' := x.trans (Ext.of_keeps keep)
    refine wpAny_pyIter_enum (s := { s₁ with heap := h' }) he ?_
    have la := Heap.lt_size ea
    have nl : ∀ b, s₁.heap.objs.size ≤ b → s₁.heap.get? b = none := fun b hb => Heap.get?_none_of_le hb
    have nX : ∀ b, s₁.heap.objs.size ≤ b → ¬ X₁ b := fun b hb q => by
      obtain ⟨o, e⟩ := i.xl b q
      rw [nl b hb] at e; cases e
    refine ⟨enumF ds, σ₁, X₁, _, _, _, ds, vs, _, rfl, q, i1, x1, Itr.enumerate (n := n) hh (Nat.succ_ne_self _) (Nat.ne_of_lt (Nat.lt_succ_of_lt la)) (Nat.ne_of_lt la) (Reps.length rs), ⟨⟨_, he⟩, hit, keep _ _ ea⟩, Reps.ext (Ext.of_keeps keep) rs, fun b m => ?_, fun b m => ?_⟩
    · rcases List.mem_cons.mp m with rfl | m
      · exact nX _ (Nat.le_succ _)
      · rcases List.mem_cons.mp m with rfl | m
        · exact nX _ (Nat.le_refl _)
        · rw [List.mem_singleton.mp m]; exact na
    · rcases List.mem_cons.mp m with rfl | m
      · exact wr_new i x (nl _ (Nat.le_succ _))
      · rw [List.mem_singleton.mp m]; exact wr_new i x (nl _ (Nat.le_refl _))
  · exact q.elim
end
end Mine
end
section
namespace Mine

def flat : PV → Bool
  | .int _ => true
  | .str _ => true
  | _ => false
theorem flat_rep {P : Params} {h H : Heap} {X Y : Addr → Prop} {d : PV} {v : Value} (f : flat d = true) (r : Rep P h X d v) : Rep P H Y d v := by
  cases d <;> first | cases f | skip
  · simp only [Rep] at r ⊢; exact r
  · simp only [Rep] at r ⊢; exact r
theorem flat_reps {P : Params} {h H : Heap} {X Y : Addr → Prop} : ∀ {ds : List PV} {vs : List Value}, ds.all flat = true → Reps P h X ds vs → Reps P H Y ds vs
  | [], _, _, r => by simpa only [Reps] using r
  | d :: ds, _, f, r => by
    rw [List.all_cons, Bool.and_eq_true] at f
    simp only [Reps] at r ⊢
    obtain ⟨v, q, e, h1, h2⟩ := r
    exact ⟨v, q, e, flat_rep f.1 h1, flat_reps f.2 h2⟩

abbrev recObj (cls : Value) (ws : List Value) : Obj := { cls := cls, data := .fields ws.toArray }
/-- raised, with what it is chained to -/
theorem Gone.raised {P : Params} {l : List Env} {base h h' : Heap} {x : Exc} {a : Addr} {o : Obj} {t cx : Value} {vs : List Value} {ws : Array Value} (hk : ∀ b o, h.get? b = some o → h'.get? b = some o) (ha : h.get? a = none) (hat : h'.get? a = some o) (hoc : o.cls = x.cls) (hod : o.data = .fields ws) (h0 : ws[0]? = some t) (h1 : ws[1]? = some .none) (h2 : ws[2]? = some cx)
    (htup : x.known = true → ∃ b, t = .ref b ∧ h.get? b = none ∧ h'.get? b = some (tupObj vs)) (fr : h.FunFrames base l) (r : ∀ H Y, Reps P H Y x.args vs) (hc : x.chained = false → cx = .none) : Gone P l h x a h' := by
  have U := under_hide (l.filterMap (·.frame)) h
  have low : ∀ b, h.get? b = none → (hideAll h (l.filterMap (·.frame))).get? b = none := fun b hb => by
    cases q : (hideAll h (l.filterMap (·.frame))).get? b with
    | none => rfl
    | some o => have := of_hideAll _ q; rw [hb] at this; cases this
  exact ⟨_, _, t, vs, _, r, hc, ⟨fun b o e => hk b o (of_hideAll _ e), low a ha, (hide_frames fr).of_keeps fun b o e _ => ⟨o, hk b o e, rfl⟩, fun z => let ⟨b, q1, q2, q3⟩ := htup z; ⟨b, q1, ⟨_, _, q3, rfl, rfl⟩, low b q2⟩, _, _, hat, hoc, hod, h0, h2, (Array.getElem?_eq_some_iff.mp h2).1, .inl ⟨rfl, h1⟩⟩, U, Heap.UpToSlots.of_keeps hk, ha, fun b z q => by obtain ⟨b', q1, q2, _⟩ := htup z; rw [q1] at q; cases q; exact q2⟩

section
variable {w : World} {A : Around} {E : Value → Shared → Prop} {s : Shared}
theorem entry_unchain : entryFor table "proto.unchain" = some Builtin.«proto.unchain» := entryFor_of_tree (by kernel_rfl)
/-- raised while another is handled, which is chained to none -/
theorem raiseNew_in {α : Type} {a e : Addr} {ws : List Value} {cls : Value} {oe : Obj} {wse : Array Value} {Q : α → Shared → Prop} (hh : A.handled = some (.ref e)) (hne : e ≠ a) (ha : s.heap.get? a = some (recObj cls ws)) (hz : 2 < ws.length) (he : s.heap.get? e = some oe) (hd : oe.data = .fields wse) (h2 : wse[2]? = some .none)
    (h : ∀ h', Heap.SameBut a s.heap h' → h'.get? a = some (recObj cls (ws.set 2 (.ref e))) → E (.ref a) { s with heap := h' }) : wpAny (model prog w) A (raiseNew (.ref a) : Sem α) Q E s := by
  unfold raiseNew
  refine wpAny_bind (wpAny_handled ?_)
  rw [hh]
  dsimp only
  rw [if_pos (show (Value.ref e != Value.ref a) = true from by simpa using hne)]
  refine wpAny_bind (wpAny_holding (wpAny_runValue (codeAny_builtin entry_unchain ?_)))
  unfold Builtin.«proto.unchain»
  refine wpAny_bind (wpAny_field he hd h2 ?_)
  rw [if_pos (by decide)]
  refine wpAny_pure ?_
  show wpAny _ _ (setField (.ref a) 2 (.ref e) >>= _) _ _ s
  refine wpAny_bind (wpAny_setField ha rfl (by simpa using hz) ?_)
  refine wpAny_throw (h _ (Heap.SameBut.update ..) ?_)
  have e3 : (recObj cls ws).mapFields (·.setIfInBounds 2 (.ref e)) = recObj cls (ws.set 2 (.ref e)) := by
    simp [Obj.mapFields, List.setIfInBounds_toArray]
  rw [Heap.get?_update_self _ ha (by rw [e3]; rfl), e3]
end
end Mine
end
section
namespace Mine
section
variable {M : Model} {A : Around} {E : Value → Shared → Prop} {s : Shared} {env : Env}
variable {nm q : Str} {Ca N : Addr} {bs bm : List Value} {hdct : Bool} {sn : List Str} {sub : List Value} {ab : Bool} {col : Option Bool} {dd : Option Addr} {k0 k1 k2 k3 k5 : Option Value} {newId : String}
abbrev rec0 (t : Addr) : List Value := [.ref t, .none, .none, .none, .bool false, .none]
theorem raiseStmt_own {x : Sem Value} {Q : Flow → Shared → Prop} (hbase : bm.contains (.type "BaseException") = true)
    (h : wpAny M A x (fun v s₁ => ∃ e t, v = .ref e ∧ s₁.heap.get? Ca = some (excClassObj nm q Ca N bs bm hdct sn sub ab col dd k0 k1 k2 k3 k5 newId) ∧
      s₁.heap.get? e = some (recObj (.ref Ca) (rec0 t)) ∧ wpAny M A (raiseNew (.ref e) : Sem Flow) Q E s₁) E s) :
    wpAny M A (raiseStmt env (some x) none) Q E s := by
  have hcB : (Value.ref Ca :: bm).contains (.type "BaseException") = true := by rw [List.contains_cons, hbase, Bool.or_true]
  unfold raiseStmt
  refine wpAny_bind (wpAny_mono h (fun v s₁ h₁ => ?_) fun _ _ x => x)
  obtain ⟨e, t, rfl, hC, he, hE⟩ := h₁
  obtain ⟨hp, g, d, tk, os⟩ := s₁
  repeat (first | with_reducible refine wpAny_loadPart_at he ?_ | with_reducible refine wpAny_loadPart_at hC ?_ | (with_reducible refine wpAny_isSubtype_exc hC ?_; rw [hcB]) | wp_step)
  exact hE
theorem raiseStmt_ownN {x c : Sem Value} {Q : Flow → Shared → Prop} (hbase : bm.contains (.type "BaseException") = true)
    (h : wpAny M A x (fun v s₁ => wpAny M A c (fun cv s₂ => cv = .none ∧ ∃ e t, v = .ref e ∧ e ≠ Ca ∧ s₂.heap.get? Ca = some (excClassObj nm q Ca N bs bm hdct sn sub ab col dd k0 k1 k2 k3 k5 newId) ∧
      s₂.heap.get? e = some (recObj (.ref Ca) (rec0 t)) ∧ ∀ h', Heap.SameBut e s₂.heap h' → h'.get? e = some (recObj (.ref Ca) [.ref t, .none, .none, .none, .bool true, .none]) → wpAny M A (raiseNew (.ref e) : Sem Flow) Q E { s₂ with heap := h' }) E s₁) E s) :
    wpAny M A (raiseStmt env (some x) (some c)) Q E s := by
  have hcB : (Value.ref Ca :: bm).contains (.type "BaseException") = true := by rw [List.contains_cons, hbase, Bool.or_true]
  unfold raiseStmt
  refine wpAny_bind (wpAny_mono h (fun v s₁ h₁ => ?_) fun _ _ x => x)
  refine wpAny_bind (wpAny_holding (wpAny_mono h₁ (fun cv s₂ h₂ => ?_) fun _ _ x => x))
  obtain ⟨rfl, e, t, rfl, hne, hC, he, hE⟩ := h₂
  obtain ⟨hp, g, d, tk, os⟩ := s₂
  refine wpAny_bind (wpAny_pure ?_)
  dsimp only
  have he1 : (hp.update e (Obj.mapFields (·.setIfInBounds 3 .none))).get? e = some (recObj (.ref Ca) (rec0 t)) := by
    rw [Heap.get?_update_self _ he rfl]; rfl
  have he2 : ((hp.update e (Obj.mapFields (·.setIfInBounds 3 .none))).update e (Obj.mapFields (·.setIfInBounds 4 (.bool true)))).get? e = some (recObj (.ref Ca) [.ref t, .none, .none, .none, .bool true, .none]) := by
    rw [Heap.get?_update_self _ he1 rfl]; rfl
  have hC2 : ((hp.update e (Obj.mapFields (·.setIfInBounds 3 .none))).update e (Obj.mapFields (·.setIfInBounds 4 (.bool true)))).get? Ca = some (excClassObj nm q Ca N bs bm hdct sn sub ab col dd k0 k1 k2 k3 k5 newId) := by
    rw [Heap.get?_update_other _ _ hne, Heap.get?_update_other _ _ hne]; exact hC
  have final := hE _ ((Heap.SameBut.update _ e (Obj.mapFields (·.setIfInBounds 3 .none))).trans (Heap.SameBut.update _ e (Obj.mapFields (·.setIfInBounds 4 (.bool true))))) he2
  refine wpAny_bind (wpAny_holding ?_)
  have step1 : ∀ {Q' : Value → Shared → Prop}, Q' (.ref e) ⟨hp, g, d, tk, os⟩ → wpAny M A (excFromValue (.ref e) "exceptions must derive from BaseException") Q' E ⟨hp, g, d, tk, os⟩ := fun {Q'} hq => by
    unfold excFromValue
    repeat (first | with_reducible refine wpAny_loadPart_at he ?_ | with_reducible refine wpAny_loadPart_at hC ?_ | (with_reducible refine wpAny_isSubtype_exc hC ?_; rw [hcB]) | wp_step)
    exact hq
  refine step1 ?_
  refine wpAny_bind (wpAny_pure ?_)
  refine wpAny_bind (wpAny_setField he rfl (Nat.le_of_ble_eq_true rfl) ?_)
  refine wpAny_bind (wpAny_setField he1 rfl (Nat.le_of_ble_eq_true rfl) ?_)
  repeat (first | with_reducible refine wpAny_loadPart_at he2 ?_ | with_reducible refine wpAny_loadPart_at hC2 ?_ | (with_reducible refine wpAny_isSubtype_exc hC2 ?_; rw [hcB]) | wp_step)
  exact final
end

section
variable {C : Cx} {σ σ' : St} {s : Shared} {X : Addr → Prop} {R : Exc → St → Prop} {Q : Out → St → Prop}
abbrev bsonCls : Addr := 576
/-- a new InvalidBSON -/
theorem exc_call {x : Str} {args : List Expr} {np pos : Pos} {Qa : List PV → St → Prop} (ok : C.Ok) (k : C.env.kindOf x = some .globalImplicit) (e : C.gl x = some (.ref bsonCls)) (hd : (x == ("__debug__" : Str)) = false) (ha : args.all notStar = true)
    (h : TA C args σ (fun ds σ₁ => (ds.all flat = true ∧ ds.length ≤ 16777216) ∧ Qa ds σ₁) R) {Q' : Value → Shared → Prop} (I : Inv C s σ X)
    (kk : ∀ h₁ s₂ ds vs σ₁ X₁ a, Qa ds σ₁ → ds.all flat = true → Inv C { s₂ with heap := h₁ } σ₁ X₁ → Reps C.P h₁ X₁ ds vs → Ext X X₁ s.heap h₁ → Heap.MadeExcOf h₁ s₂.heap a (.ref bsonCls) vs → Q' (.ref a) s₂) :
    wpAny (model prog C.w) C.A (eval (.Call (.Name x np) args [] pos) C.env) Q' (ErP C R X s.heap) s := by
  refine wpAny_Call_ofName (wpAny_Name (load_glob ok I.stay k e ?_) hd)
  obtain ⟨mg, O⟩ := ok.bs.exc
  obtain ⟨tl, N, nm, q, bs, hdct, sn, sub, ab, col, dd, k0, k1, k2, k3, k5, mN, hC, hN, hni, T⟩ := O.obj
  unfold callWith
  refine wpAny_bind (wpAny_holding (evalArgs_row ha (wpAny_mono (h pos s X I) (fun vs s₁ ⟨ds, σ₁, X₁, ⟨⟨f1, f2⟩, q1⟩, i, r, x⟩ => wpAny_bind (wpAny_standAt ?_)) fun _ _ y => y)))
  have hplain := plain_args ha pos C.env
  have hC1 := i.stay _ _ hC
  have hN1 := hN.keeps i.stay
  have T1 := T.keeps i.stay
  have hlen : ([] ++ vs).length ≤ sizeLine := by rw [List.nil_append, Reps.length r, sizeLine_eq]; exact f2
  obtain ⟨hp, g, d, tk, os⟩ := s₁
  have hkw : (backToKw pos (keywordEach [] C.env)).any (fun x => x.1.isNone) = false := rfl
  simp only [hplain, hkw, Bool.or_false]
  refine wpAny_bind (wpAny_keeperOf_exc hC1 ?_)
  refine wpAny_bind (wpAny_call_exc_subT (hrest := hlen) PySem.F.excBase_Exception T1 hC1 hN1 hni fun h' a hm => wpAny_bind (wpAny_holding (wpAny_point (wpAny_pure ?_))))
  exact kk hp ⟨h', g, d, tk, os⟩ ds vs σ₁ X₁ a q1 f1 i r x hm

theorem ErP.mk {x : Exc} {a : Addr} {h h₁ : Heap} {X' : Addr → Prop} {s' : Shared} (r : R x σ) (i : Inv C { s' with heap := h₁ } σ X') (y : Ext X X' h h₁) (g : Gone C.P (C.fenv :: C.outer) h₁ x a s'.heap) : ErP C R X h (.ref a) s' :=
  ⟨x, σ, X', a, h₁, rfl, r, i, y, g.here⟩
theorem evalOpt_some (e : Expr) (env : Env) : evalOpt (some e) env = some (eval e env) := rfl

theorem T1.raise_own {x : Str} {args : List Expr} {np cp pos : Pos} (ok : C.Ok) (hh : C.hd = none) (k : C.env.kindOf x = some .globalImplicit) (e : C.gl x = some (.ref bsonCls)) (hd : (x == ("__debug__" : Str)) = false) (ha : args.all notStar = true)
    (h : TA C args σ (fun ds σ₁ => (ds.all flat = true ∧ ds.length ≤ 16777216) ∧ R ⟨.ref bsonCls, ds, false, true⟩ σ₁) R) : T1 C (.Raise (some (.Call (.Name x np) args [] cp)) none pos) σ Q R := fun s X I => by
  obtain ⟨mg, O⟩ := ok.bs.exc
  obtain ⟨tl, N, nm, q, bs, hdct, sn, sub, ab, col, dd, k0, k1, k2, k3, k5, mN, hC, hN, hni, T⟩ := O.obj
  show wpAny _ _ (do standAt pos; raiseStmt C.env (some (do let v ← eval (.Call (.Name x np) args [] cp) C.env; standAt pos; pure v)) none) _ _ s
  refine wpAny_bind (wpAny_standAt (raiseStmt_own (Ca := bsonCls) (nm := nm) (q := q) (N := N) (bs := bs) (bm := tl) (hdct := hdct) (sn := sn) (sub := sub) (ab := ab) (col := col) (dd := dd) (k0 := k0) (k1 := k1) (k2 := k2) (k3 := k3) (k5 := k5) (newId := "Exception.__new__") (T.hasType (by decide)) ?_))
  refine wpAny_bind (exc_call ok k e hd ha h I fun h₁ s₂ ds vs σ₁ X₁ a r f i rs y hm => wpAny_bind (wpAny_standAt (wpAny_pure ?_)))
  obtain ⟨t, hat, htn, htup⟩ := hm.there
  refine ⟨a, t, rfl, hm.keeps _ _ (i.stay _ _ hC), hat, wpAny_raiseNew_none hh ?_⟩
  exact ErP.mk r i y (Gone.raised hm.keeps hm.new hat rfl rfl rfl rfl rfl (fun _ => ⟨t, rfl, htn, htup⟩) i.frames (fun H Y => flat_reps f rs) fun _ => rfl)

/-- the same while another exception is handled -/
theorem T1.raise_ownH {x : Str} {args : List Expr} {np cp pos : Pos} {ee : Addr} {xe : Exc} (ok : C.Ok) (hh : C.hd = some (.ref ee)) (he : HdAt C.P C.base ee xe) (hx : xe.chained = false) (k : C.env.kindOf x = some .globalImplicit) (e : C.gl x = some (.ref bsonCls)) (hd : (x == ("__debug__" : Str)) = false) (ha : args.all notStar = true)
    (h : TA C args σ (fun ds σ₁ => (ds.all flat = true ∧ ds.length ≤ 16777216) ∧ R ⟨.ref bsonCls, ds, true, true⟩ σ₁) R) : T1 C (.Raise (some (.Call (.Name x np) args [] cp)) none pos) σ Q R := fun s X I => by
  obtain ⟨mg, O⟩ := ok.bs.exc
  obtain ⟨tl, N, nm, q, bs, hdct, sn, sub, ab, col, dd, k0, k1, k2, k3, k5, mN, hC, hN, hni, T⟩ := O.obj
  obtain ⟨oe, wse, te, vse, e1, e2, e3, e4, e5, e6, e7⟩ := he
  show wpAny _ _ (do standAt pos; raiseStmt C.env (some (do let v ← eval (.Call (.Name x np) args [] cp) C.env; standAt pos; pure v)) none) _ _ s
  refine wpAny_bind (wpAny_standAt (raiseStmt_own (Ca := bsonCls) (nm := nm) (q := q) (N := N) (bs := bs) (bm := tl) (hdct := hdct) (sn := sn) (sub := sub) (ab := ab) (col := col) (dd := dd) (k0 := k0) (k1 := k1) (k2 := k2) (k3 := k3) (k5 := k5) (newId := "Exception.__new__") (T.hasType (by decide)) ?_))
  refine wpAny_bind (exc_call ok k e hd ha h I fun h₁ s₂ ds vs σ₁ X₁ a r f i rs y hm => wpAny_bind (wpAny_standAt (wpAny_pure ?_)))
  obtain ⟨t, hat, htn, htup⟩ := hm.there
  have hel : h₁.get? ee = some oe := i.stay _ _ e1
  have hne : ee ≠ a := fun z => by have := hm.new; rw [← z, hel] at this; cases this
  refine ⟨a, t, rfl, hm.keeps _ _ (i.stay _ _ hC), hat, raiseNew_in hh hne hat (Nat.le_of_ble_eq_true rfl) (hm.keeps _ _ hel) e3 (e7 hx) fun h' sb ha' => ?_⟩
  have ha2 : ∀ {b o}, h₁.get? b = some o → b ≠ a := fun {b o} q z => by have := hm.new; rw [← z, q] at this; cases this
  exact ErP.mk (s' := { s₂ with heap := h' }) r i y (Gone.raised (fun b o q => (sb.2 b (ha2 q)).trans (hm.keeps b o q)) hm.new ha' rfl rfl rfl rfl rfl (fun _ => ⟨t, rfl, htn, (sb.2 t fun z => by rw [z, hat] at htup; cases htup).trans htup⟩) i.frames (fun H Y => flat_reps f rs) fun z => nomatch z)

/-- from None -/
theorem T1.raise_ownN {x : Str} {args : List Expr} {np cp pos pc : Pos} {kc : Nat} {ee : Addr} {xe : Exc} (ok : C.Ok) (hh : C.hd = some (.ref ee)) (he : HdAt C.P C.base ee xe) (hx : xe.chained = false) (k : C.env.kindOf x = some .globalImplicit) (e : C.gl x = some (.ref bsonCls)) (hd : (x == ("__debug__" : Str)) = false) (ha : args.all notStar = true)
    (h : TA C args σ (fun ds σ₁ => (ds.all flat = true ∧ ds.length ≤ 16777216) ∧ R ⟨.ref bsonCls, ds, true, true⟩ σ₁) R) : T1 C (.Raise (some (.Call (.Name x np) args [] cp)) (some (.Constant .none kc pc)) pos) σ Q R := fun s X I => by
  obtain ⟨mg, O⟩ := ok.bs.exc
  obtain ⟨tl, N, nm, q, bs, hdct, sn, sub, ab, col, dd, k0, k1, k2, k3, k5, mN, hC, hN, hni, T⟩ := O.obj
  obtain ⟨oe, wse, te, vse, e1, e2, e3, e4, e5, e6, e7⟩ := he
  show wpAny _ _ (do standAt pos; raiseStmt C.env (some (do let v ← eval (.Call (.Name x np) args [] cp) C.env; standAt pos; pure v)) (some (do let v ← eval (.Constant .none kc pc) C.env; standAt pos; pure v))) _ _ s
  refine wpAny_bind (wpAny_standAt (raiseStmt_ownN (Ca := bsonCls) (nm := nm) (q := q) (N := N) (bs := bs) (bm := tl) (hdct := hdct) (sn := sn) (sub := sub) (ab := ab) (col := col) (dd := dd) (k0 := k0) (k1 := k1) (k2 := k2) (k3 := k3) (k5 := k5) (newId := "Exception.__new__") (T.hasType (by decide)) ?_))
  refine wpAny_bind (exc_call ok k e hd ha h I fun h₁ s₂ ds vs σ₁ X₁ a r f i rs y hm => wpAny_bind (wpAny_standAt (wpAny_pure ?_)))
  refine wpAny_bind (wpAny_Constant_none (wpAny_bind (wpAny_standAt (wpAny_pure ?_))))
  obtain ⟨t, hat, htn, htup⟩ := hm.there
  have hel : h₁.get? ee = some oe := i.stay _ _ e1
  have hne : ee ≠ a := fun z => by have := hm.new; rw [← z, hel] at this; cases this
  have ha2 : ∀ {b o}, h₁.get? b = some o → b ≠ a := fun {b o} q z => by have := hm.new; rw [← z, q] at this; cases this
  have hCl := i.stay _ _ hC
  refine ⟨rfl, a, t, rfl, Ne.symm (ha2 hCl), hm.keeps _ _ hCl, hat, fun h2 sb2 hat2 => raiseNew_in (s := { s₂ with heap := h2 }) hh hne hat2 (Nat.le_of_ble_eq_true rfl) ((sb2.2 _ hne).trans (hm.keeps _ _ hel)) e3 (e7 hx) fun h' sb ha' => ?_⟩
  have hta : t ≠ a := fun z => by rw [z, hat] at htup; cases htup
  exact ErP.mk (s' := { s₂ with heap := h' }) r i y (Gone.raised (fun b o q => (sb.2 b (ha2 q)).trans ((sb2.2 b (ha2 q)).trans (hm.keeps b o q))) hm.new ha' rfl rfl rfl rfl rfl (fun _ => ⟨t, rfl, htn, (sb.2 t hta).trans ((sb2.2 t hta).trans htup)⟩) i.frames (fun H Y => flat_reps f rs) fun z => nomatch z)

/-- a built-in exception -/
theorem T1.raise_type {cls newId initId : String} (FC : ExcCallFacts cls newId initId) (FR : ExcRaiseFacts cls) {x : Str} {e₀ : Expr} {np cp pos : Pos} (ok : C.Ok) (hh : C.hd = none) (k : C.env.kindOf x = some .globalImplicit) (e : C.gl x = some (.type cls)) (hd : (x == ("__debug__" : Str)) = false) (hn : notStar e₀ = true)
    (h : TE C e₀ σ (fun d σ₁ => flat d = true ∧ R ⟨.type cls, [d], false, true⟩ σ₁) R) : T1 C (.Raise (some (.Call (.Name x np) [e₀] [] cp)) none pos) σ Q R := fun s X I => by
  have ta : TA C [e₀] σ (fun ds σ₁ => ∃ d, ds = [d] ∧ flat d = true ∧ R ⟨.type cls, ds, false, true⟩ σ₁) R := TA.cons hn (TE.mono h (fun d σ₁ y => TA.nil ⟨d, rfl, y.1, y.2⟩) fun _ _ y => y)
  refine Raise_madeB FC FR hh (wpAny_Name (load_glob ok I.stay k e ⟨rfl, wpAny_mono (ta cp s X I) (fun vs s₁ ⟨ds, σ₁, X₁, ⟨d, e, f, r⟩, i, rs, y⟩ => ?_) fun _ _ y => y⟩) hd) (starEach_plain hn _ _)
  subst e
  refine ⟨by rw [Reps.length rs, sizeLine_eq]; exact Nat.le_of_ble_eq_true rfl, fun h' a hm' => ?_⟩
  have hm := Heap.MadeExc.of hm'
  obtain ⟨t, hat, htn, htup⟩ := hm.there
  exact ErP.mk (s' := { s₁ with heap := h' }) r i y (Gone.raised hm.keeps hm.new hat rfl rfl rfl rfl rfl (fun _ => ⟨t, rfl, htn, htup⟩) i.frames (fun H Y => flat_reps (by simp [f]) rs) fun _ => rfl)

theorem T1.raise_key {x : Str} {e₀ : Expr} {np cp pos : Pos} (ok : C.Ok) (hh : C.hd = none) (k : C.env.kindOf x = some .globalImplicit) (e : C.gl x = some (.type "KeyError")) (hd : (x == ("__debug__" : Str)) = false) (hn : notStar e₀ = true)
    (h : TE C e₀ σ (fun d σ₁ => flat d = true ∧ R ⟨.type "KeyError", [], false, false⟩ σ₁) R) : T1 C (.Raise (some (.Call (.Name x np) [e₀] [] cp)) none pos) σ Q R := fun s X I => by
  have ta : TA C [e₀] σ (fun ds σ₁ => ds.length = 1 ∧ R ⟨.type "KeyError", [], false, false⟩ σ₁) R := TA.cons hn (TE.mono h (fun d σ₁ y => TA.nil ⟨rfl, y.2⟩) fun _ _ y => y)
  refine Raise_new hh (wpAny_Call_ofName (wpAny_Name (load_glob ok I.stay k e ?_) hd))
  refine callWith_any (by simp [hn]) (.inl ⟨_, rfl⟩) ok (wpAny_mono (ta cp s X I) (fun vs s₁ ⟨ds, σ₁, X₁, ⟨hl, r⟩, i, rs, y⟩ => ⟨i.stay, ?_⟩) fun _ _ y => y)
  refine call_exc_raise excClass_KeyError (fun h' a hm => ?_) (by rw [List.nil_append, Reps.length rs, hl, sizeLine_eq]; exact Nat.le_of_ble_eq_true rfl)
  obtain ⟨ob, t, e1, e2, e3⟩ := hm.there
  exact ErP.mk (s' := { s₁ with heap := h' }) r i y (Gone.raised hm.keeps hm.new e1 e2 e3 rfl rfl rfl (fun z => nomatch z) i.frames (vs := []) (fun H Y => Reps.nil) fun _ => rfl)
end
end Mine
end
section
namespace Mine

def Cx.handling (C : Cx) (B : Heap) (e : Addr) : Cx := { C with base := B, hd := some (.ref e) }

/-- does a clause take an exception -/
def excRel (cls c : Value) (b : Bool) : Prop :=
  (∃ X T, cls = .type X ∧ c = .type T ∧ isSubtype (.type T) (.type "BaseException") = pure true ∧ isSubtype (.type ((Manifest.find? T).elim "type" fun x => x.metatype)) (.type "tuple") = pure false ∧ isSubtype (.type X) (.type T) = pure b) ∨
  (cls = .ref bsonCls ∧ ∃ T, c = .type T ∧ isSubtype (.type T) (.type "BaseException") = pure true ∧ isSubtype (.type ((Manifest.find? T).elim "type" fun x => x.metatype)) (.type "tuple") = pure false ∧ ([.type "Exception", .type "BaseException", .type "object"] : List Value).contains (.type T) = b) ∨
  (cls = .ref bsonCls ∧ c = .ref bsonCls ∧ b = true)

theorem excRel_matches {cls c : Value} {b : Bool} {M : Model} {A : Around} {E : Value → Shared → Prop} {s : Shared} {e : Addr} {oe : Obj} {mg : Str → Option Value} {Q : Bool → Shared → Prop} (r : excRel cls c b) (O : OwnCls "InvalidBSON" 576 [.type "Exception", .type "BaseException", .type "object"] "Exception.__new__" mg s.heap)
    (he : s.heap.get? e = some oe) (hc : oe.cls = cls) (h : Q b s) : wpAny M A (excMatches (.ref e) c) Q E s := by
  rcases r with ⟨X, T, rfl, rfl, h1, h2, h3⟩ | ⟨rfl, T, rfl, h1, h2, h3⟩ | ⟨rfl, rfl, rfl⟩
  · exact wpAny_excMatches_type ⟨oe, he, hc⟩ h1 h2 h3 h
  · obtain ⟨tl, N, nm, q, bs, hdct, sn, sub, ab, col, dd, k0, k1, k2, k3, k5, mN, hC, hN, hni, T1⟩ := O.obj
    obtain ⟨hp, g, d, tk, os⟩ := s
    refine wpAny_excMatches_sub_type hC he hc h1 h2 ?_
    rw [T1.hasType h3]
    exact h
  · obtain ⟨tl, N, nm, q, bs, hdct, sn, sub, ab, col, dd, k0, k1, k2, k3, k5, mN, hC, hN, hni, T1⟩ := O.obj
    obtain ⟨hp, g, d, tk, os⟩ := s
    exact wpAny_excMatches_sub_self hC he hc (T1.hasType (by decide)) h

section
variable {C : Cx} {σ σ' : St} {s : Shared} {X : Addr → Prop} {R : Exc → St → Prop} {Q : Out → St → Prop}

/-- what the clauses do -/
def HandleT (C : Cx) (Q : Out → St → Prop) (R : Exc → St → Prop) (x : Exc) (σ : St) : List ExceptHandler → Prop
  | [] => R x σ
  | .ExceptHandler (some (.Name T _)) none (b₀ :: body) _ :: rest => C.env.kindOf T = some .globalImplicit ∧ (T == ("__debug__" : Str)) = false ∧ ∃ c b, C.gl T = some c ∧ excRel x.cls c b ∧
      if b then (match b₀ with
        | .Raise none none _ => R x σ
        | b₀ => ∀ B' e, (C.handling B' e).Ok → HdAt C.P B' e x → TS (C.handling B' e) (b₀ :: body) σ Q R) else HandleT C Q R x σ rest
  | _ => False

theorem frames_base {h B B' : Heap} : ∀ {l : List Env}, (∀ b, b ∈ l.filterMap (·.frame) → B'.get? b = none) → h.FunFrames B l → h.FunFrames B' l
  | [], _, _ => trivial
  | env :: r, k, ⟨hk, ⟨L, o, hf, hn, ho, hd⟩, hr⟩ => ⟨hk, ⟨L, o, hf, k L (by rw [List.filterMap_cons, hf]; exact .head _), ho, hd⟩, frames_base (fun b m => k b (by rw [List.filterMap_cons, hf]; exact .tail _ m)) hr⟩

theorem Inv.rebase {B' : Heap} {e : Addr} (I : Inv C s σ X) (st : B'.StaysIn s.heap) (hx : ∀ a, X a → B'.get? a = none) (ok : C.Ok) : Inv (C.handling B' e) s σ X :=
  { I with
    stay := st
    frames := frames_base (fun b m => hx b (I.mx b (ok.sm b m))) I.frames
    xb := hx }
theorem Inv.unbase {B' : Heap} {e : Addr} (hB : C.base.StaysIn B') (I : Inv (C.handling B' e) s σ X) : Inv C s σ X :=
  { I with
    stay := fun b o q => I.stay b o (hB b o q)
    frames := funFrames_base hB I.frames
    xb := fun a q => fresh_of_stays hB (I.xb a q) }
theorem ErP.unbase {B' : Heap} {e : Addr} {h : Heap} {v : Value} {s' : Shared} (hB : C.base.StaysIn B') (q : ErP (C.handling B' e) R X h v s') : ErP C R X h v s' := by
  obtain ⟨x, σ', X', a, h₁, z, r, i, y, g⟩ := q
  exact ⟨x, σ', X', a, h₁, z, r, Inv.unbase (s := { s' with heap := h₁ }) hB i, y, g⟩

theorem ErP.passesAt (ok : C.Ok) (he : C.env = C.fenv) {h : Heap} {X : Addr → Prop} {v : Value} {s' : Shared} {hd : Option Value} (e : ErP C R X h v s') : notedBy (model prog C.w) { C.A with handled := hd } C.env (cameBackBy (model prog C.w) C.A C.env (ErP C R X h)) v s' := by
  obtain ⟨x, σ', X', a, h₁, rfl, q, i, y, g⟩ := e
  obtain ⟨L, hL⟩ := ok.fl
  unfold notedBy cameBackBy
  rw [he]
  refine here_note (env := C.fenv) (outer := C.outer) rfl hL g fun h2 g2 => ?_
  exact gone_back hL g2 fun h3 g3 => ⟨x, σ', X', a, h₁, rfl, q, i, y, ⟨true, _, .inr ⟨rfl, L, hL, rfl⟩, g3⟩⟩

theorem gone_up {h₁ : Heap} {x : Exc} {a : Addr} {told : Bool} {fl : Value} {s' : Shared} (_ok : C.Ok) (I : Inv C { s' with heap := h₁ } σ X) (g : GoneF C.P (C.fenv :: C.outer) h₁ x a told fl s'.heap) : Up C.S' h₁ s'.heap := by
  obtain ⟨B, t, vs, cx, g1, g2, g3, g4, g5, g6⟩ := g
  refine ⟨fun b o e n => g3.stays b o (g4.keep b o e n), fun b o e m => ?_⟩
  obtain ⟨_, o', e', hd⟩ := I.frames.mem m
  have e2 : h₁.get? b = some o' := e'
  rw [e] at e2; cases e2
  exact g5 b o e hd

theorem handle_sound {x : Exc} {a : Addr} {h₁ : Heap} {h : Heap} {X' : Addr → Prop} (ok : C.Ok) (he : C.env = C.fenv) (hh : C.hd = none) : ∀ {hs : List ExceptHandler} {s : Shared}, HandleT C Q R x σ hs → Inv C { s with heap := h₁ } σ X' → Ext X X' h h₁ → GoneF C.P (C.fenv :: C.outer) h₁ x a true .none s.heap →
    wpAny (model prog C.w) C.A (handleBy (.ref a) C.env hs) (EvS C Q X h) (ErP C R X h) s
  | [], s, H, I, y, G => by
    obtain ⟨L, hL⟩ := ok.fl
    exact wpAny_handleBy_nil (passOn_here (by rw [he]; exact hL) G fun h' g => ⟨x, σ, X', a, h₁, rfl, H, I, y, ⟨true, _, .inr ⟨rfl, L, hL, rfl⟩, g⟩⟩)
  | .ExceptHandler ty nm bd pos :: rest, s, H, I, y, G => by
    cases ty with
    | none => exact H.elim
    | some te =>
      cases nm with
      | some _ => cases te <;> exact H.elim
      | none =>
        cases bd with
        | nil => cases te <;> exact H.elim
        | cons b₀ body =>
        cases te with
        | Name T pT =>
          obtain ⟨kT, dT, c, b, eT, rel, H⟩ := H
          obtain ⟨L, hL⟩ := ok.fl
          have up := gone_up ok I G
          have I₁ : Inv C s σ X' := Inv.after (s := { s with heap := h₁ }) ok I up I.gens rfl
          have y₁ : Ext X X' h s.heap := y.trans (up.toExt fun a m => I.mx a (ok.sm a m))
          obtain ⟨mg, O⟩ := ok.bs.exc
          have O₁ := O.keeps I₁.stay
          have G' := G
          obtain ⟨B, t, vs, cx, g1, g2, F, g4, g5, g7⟩ := G
          obtain ⟨oe, ws, hoe, hoc, hod, h0, h2, hsz, h1⟩ := F.recd
          refine wpAny_handleBy_cons (codeAny_handlers_test (wpAny_Name (load_glob (C := C) ok I₁.stay kT eT ?_) dT)) (by intro q; cases q)
          refine excRel_matches rel O₁ hoe hoc ?_
          cases b with
          | false => exact handle_sound ok he hh H I y G'
          | true =>
            refine codeAny_handlers_suite (gone_land G' fun h₄ G₄ => ?_)
            have up₄ := gone_up (s' := { s with heap := h₄ }) ok I G₄
            have I₄ : Inv C { s with heap := h₄ } σ X' := Inv.after (s := { s with heap := h₁ }) ok I up₄ I.gens rfl
            have y₄ : Ext X X' h h₄ := y.trans (up₄.toExt fun a m => I.mx a (ok.sm a m))
            have st : C.base.StaysIn (hideP h₄ X') := fun b o q => hideP_some (I₄.stay b o q) fun z => by rw [I₄.xb b z] at q; cases q
            have notX : ∀ b, h₁.get? b = none → ¬ X' b := fun b q z => by
              obtain ⟨o, e⟩ := I.xl b z
              rw [show h₁.get? b = some o from e] at q; cases q
            have hd' : HdAt C.P (hideP h₄ X') a x := by
              obtain ⟨B, t, vs, cx, g1, g2, F, g4, g5, g7⟩ := G₄
              obtain ⟨oe, ws, hoe, hoc, hod, h0, h2, hsz, h1⟩ := F.recd
              refine ⟨oe, ws, t, vs, hideP_some hoe (notX a g7.1), hoc, hod, h0, fun z => ?_, g1, fun z => by rw [h2, g2 z]⟩
              obtain ⟨b, q1, ⟨o, n, q2, q3, q4⟩, q5⟩ := F.tup z
              exact ⟨b, q1, o, n, hideP_some q2 (notX b (g7.2 b z q1)), q3, q4⟩
            have ok' : (C.handling (hideP h₄ X') a).Ok := { ok with bs := ok.bs.keeps st }
            have main : (∀ B' e, (C.handling B' e).Ok → HdAt C.P B' e x → TS (C.handling B' e) (b₀ :: body) σ Q R) → wpAny (model prog C.w) { C.A with handled := some (.ref a) } (execs (b₀ :: body) C.env) (EvS C Q X h) (notedBy (model prog C.w) { C.A with handled := some (.ref a) } C.env (cameBackBy (model prog C.w) C.A C.env (ErP C R X h))) { s with heap := h₄ } := fun H => by
              have I₅ : Inv (C.handling (hideP h₄ X') a) { s with heap := h₄ } σ X' := I₄.rebase (fun b o q => of_hideP q) (fun b q => hideP_none q) ok
              refine wpAny_mono (H _ a ok' hd' { s with heap := h₄ } X' I₅) (fun f s₆ ⟨o, σ₆, X₆, q₆, i₆, r₆, x₆⟩ => ⟨o, σ₆, X₆, q₆, Inv.unbase st i₆, r₆, y₄.trans x₆⟩) fun v s₆ q => ?_
              exact ErP.passesAt ok he (ErP.of y₄ (ErP.unbase st q))
            have bare : R x σ → ∀ p, b₀ = .Raise none none p → wpAny (model prog C.w) { C.A with handled := some (.ref a) } (execs (b₀ :: body) C.env) (EvS C Q X h) (notedBy (model prog C.w) { C.A with handled := some (.ref a) } C.env (cameBackBy (model prog C.w) C.A C.env (ErP C R X h))) { s with heap := h₄ } := fun r p e => by
              subst e
              refine wpAny_execs_cons ?_
              rw [arm_exec_Raise]
              refine wpAny_bind (wpAny_standAt ?_)
              show wpAny _ _ (raiseStmt C.env none none) _ _ _
              unfold raiseStmt
              refine wpAny_bind (wpAny_handled ?_)
              refine wpAny_bind (wpAny_rule ?_)
              refine gone_told G₄ (wpAny_bind (gone_set (by rw [he]; exact hL) G₄ fun h₅ G₅ => wpAny_throw ?_))
              unfold notedBy cameBackBy
              rw [he]
              refine here_note (env := C.fenv) (outer := C.outer) rfl hL ⟨true, _, .inr ⟨rfl, L, hL, rfl⟩, G₅⟩ fun h6 g6 => ?_
              exact gone_back hL g6 fun h7 g7 => ⟨x, σ, X', a, h₁, rfl, r, I, y, ⟨true, _, .inr ⟨rfl, L, hL, rfl⟩, g7⟩⟩
            cases b₀ <;> first | exact main H | skip
            rename_i ex ca pp
            cases ex <;> first | exact main H | skip
            cases ca <;> first | exact main H | skip
            exact bare H _ rfl
        | _ => exact H.elim

theorem T1.try {body orelse : List Stmt} {h₀ : ExceptHandler} {hs : List ExceptHandler} {pos : Pos} (ok : C.Ok) (he : C.env = C.fenv) (hh : C.hd = none)
    (h : TS C body σ (fun o σ₁ => match o with | .next => TS C orelse σ₁ Q R | o => Q o σ₁) fun x σ₁ => HandleT C Q R x σ₁ (h₀ :: hs)) : T1 C (.Try body (h₀ :: hs) orelse [] pos) σ Q R := fun s X I => by
  obtain ⟨L, hL⟩ := ok.fl
  refine wpAny_Try_except (wpAny_mono (h s X I) (fun f s₁ ⟨o, σ₁, X₁, q₁, i₁, r₁, x₁⟩ => ?_) fun v s₁ ⟨x, σ₁, X₁, a, h₁, e, r, i, y, g⟩ => ?_)
  · cases o with
    | next =>
      cases r₁
      exact wpAny_mono (q₁ s₁ X₁ i₁) (fun _ _ y => EvS.of x₁ y) fun _ _ y => ErP.of x₁ y
    | brk => cases r₁; exact ⟨.brk, σ₁, X₁, q₁, i₁, rfl, x₁⟩
    | cont => cases r₁; exact ⟨.cont, σ₁, X₁, q₁, i₁, rfl, x₁⟩
    | ret d => obtain ⟨v, rfl, r⟩ := r₁; exact ⟨.ret d, σ₁, X₁, q₁, i₁, ⟨v, rfl, r⟩, x₁⟩
  · subst e
    rw [he]
    refine here_note (env := C.fenv) (outer := C.outer) rfl hL g fun h2 g2 => gone_land g2 fun h3 g3 => ?_
    rw [← he]
    exact handle_sound (s := { s₁ with heap := h3 }) ok he hh r i y g3
end
end Mine
end
section
namespace Mine
section
variable {C : Cx} {σ σ' : St} {s : Shared} {X : Addr → Prop} {R : Exc → St → Prop} {Q : Out → St → Prop}

/-- the frame's own names change while an exception is on its way -/
theorem gone_local {P : Params} {l : List Env} {h₂ h5 h6 : Heap} {x : Exc} {a L : Addr} {fl : Value} {oL o5 o2 : Obj} (G : GoneF P l h₂ x a true fl h5) (sb : Heap.SameBut L h5 h6) (hm : L ∈ l.filterMap (·.frame)) (h6L : h6.get? L = some oL) (hdL : ∃ es n, oL.data = .dict es n) (h5L : h5.get? L = some o5) (hd5 : ∃ es n, o5.data = .dict es n) (h2L : h₂.get? L = some o2) :
    GoneF P l (h₂.update L fun _ => oL) x a true fl h6 := by
  obtain ⟨B, t, vs, cx, g1, g2, F, g4, g5, g7⟩ := G
  obtain ⟨es, n, hdL⟩ := hdL
  obtain ⟨es5, n5, hd5⟩ := hd5
  have hfree : oL.isFreed = false := (Heap.get?_some_iff.mp h6L).2
  have up2 : ∀ b, b ≠ L → (h₂.update L fun _ => oL).get? b = h₂.get? b := fun b q => Heap.get?_update_other _ _ (Ne.symm q)
  have upL : (h₂.update L fun _ => oL).get? L = some oL := Heap.get?_update_self _ h2L hfree
  have notL : ∀ {b o}, h5.get? b = some o → (∀ es n, o.data ≠ .dict es n) → b ≠ L := fun e q z => by rw [z, h5L] at e; cases e; exact q _ _ hd5
  have BL : ∀ b o, B.get? b = some o → b ≠ L := fun b o e z => by rw [z, g4.none L hm] at e; cases e
  refine ⟨B, t, vs, cx, g1, g2, ⟨fun b o e => (sb.2 b (BL b o e)).trans (F.stays b o e), F.new, frames_any (fun b o e nf => ?_) F.frames, fun z => ?_, ?_⟩, ⟨fun b o e nb => ?_, g4.none⟩, fun b o e nf => ?_, ?_, fun b z q => ?_⟩
  · by_cases q : b = L
    · exact ⟨oL, q ▸ h6L, fun vs z => by rw [hdL] at z; cases z⟩
    · exact ⟨o, (sb.2 b q).trans e, nf⟩
  · obtain ⟨b, q1, ⟨o, n, q2, q3, q4⟩, q5⟩ := F.tup z
    exact ⟨b, q1, ⟨o, n, (sb.2 b (notL q2 fun _ _ w => by rw [q4] at w; cases w)).trans q2, q3, q4⟩, q5⟩
  · obtain ⟨oe, ws, he, hc, hd, h0, h2, hsz, h1⟩ := F.recd
    refine ⟨oe, ws, (sb.2 a (notL he fun _ _ w => by rw [hd] at w; cases w)).trans he, hc, hd, h0, h2, hsz, h1.imp id fun ⟨T, oT, ts, k1, k2, k3, k4, k5, k6⟩ => ⟨T, oT, ts, k1, k2, k3, (sb.2 T (notL k4 fun _ _ w => by rw [k5] at w; cases w)).trans k4, k5, k6⟩⟩
  · have hb : b ≠ L := fun q => nb (q ▸ hm)
    rw [up2 b hb] at e
    exact g4.keep b o e nb
  · by_cases q : b = L
    · subst q
      rw [upL] at e; cases e
      exact ⟨_, h6L⟩
    · rw [up2 b q] at e
      obtain ⟨sl, w⟩ := g5 b o e nf
      exact ⟨sl, (sb.2 b q).trans w⟩
  · have : a ≠ L := fun q => by have := g7.1; rw [q, h2L] at this; cases this
    rw [up2 a this]; exact g7.1
  · have hb : b ≠ L := fun w => by have := g7.2 b z q; rw [w, h2L] at this; cases this
    rw [up2 b hb]; exact g7.2 b z q

theorem HdAt.keeps {P : Params} {h h' : Heap} {e : Addr} {x : Exc} (k : ∀ b o, h.get? b = some o → h'.get? b = some o) (H : HdAt P h e x) : HdAt P h' e x := by
  obtain ⟨oe, ws, t, vs, a1, a2, a3, a4, a5, a6, a7⟩ := H
  exact ⟨oe, ws, t, vs, k _ _ a1, a2, a3, a4, fun z => let ⟨b, q, r⟩ := a5 z; ⟨b, q, r.keeps k⟩, a6, a7⟩

/-- one clause with a name, whose suite raises -/
theorem T1.try_as {body : List Stmt} {b₀ : Stmt} {suite : List Stmt} {T n : Str} {Tt : String} {pT hp pos : Pos} (ok : C.Ok) (he : C.env = C.fenv) (hL : C.env.frame = some C.env.locals) (hh : C.hd = none)
    (kT : C.env.kindOf T = some .globalImplicit) (dT : (T == ("__debug__" : Str)) = false) (eT : C.gl T = some (.type Tt)) (hexc : isSubtype (.type Tt) (.type "BaseException") = pure true) (hnt : isSubtype (.type ((Manifest.find? Tt).elim "type" fun x => x.metatype)) (.type "tuple") = pure false)
    (kn : C.env.kindOf n = some .local) (hlw : C.lw = true)
    (h : TS C body σ Q fun x σ₁ => ∃ Xt, x.cls = .type Xt ∧ isSubtype (.type Xt) (.type Tt) = pure true ∧ σ₁.own = none ∧ ∀ B' e, (C.handling B' e).Ok → HdAt C.P B' e x → TS (C.handling B' e) (b₀ :: suite) (σ₁.put n (.ext (.ref e))) (fun _ _ => False) fun x σ₂ => σ₂.own = none ∧ R x ⟨[], none⟩) :
    T1 C (.Try body [.ExceptHandler (some (.Name T pT)) (some n) (b₀ :: suite) hp] [] [] pos) σ Q R := fun s X I => by
  refine wpAny_Try_except (wpAny_mono (h s X I) (fun f s₁ ⟨o, σ₁, X₁, q₁, i₁, r₁, x₁⟩ => ?_) fun v s₁ ⟨x, σ₁, X₁, a, h₁, e, ⟨Xt, hcls, hsub, hno, H⟩, i, y, g⟩ => ?_)
  · cases o with
    | next => cases r₁; exact wpAny_execs_nil ⟨.next, σ₁, X₁, q₁, i₁, rfl, x₁⟩
    | brk => cases r₁; exact ⟨.brk, σ₁, X₁, q₁, i₁, rfl, x₁⟩
    | cont => cases r₁; exact ⟨.cont, σ₁, X₁, q₁, i₁, rfl, x₁⟩
    | ret d => obtain ⟨v, rfl, r⟩ := r₁; exact ⟨.ret d, σ₁, X₁, q₁, i₁, ⟨v, rfl, r⟩, x₁⟩
  · subst e
    have hLf : C.fenv.frame = some C.env.locals := by rw [← he]; exact hL
    have memL : C.env.locals ∈ (C.fenv :: C.outer).filterMap (·.frame) := by rw [List.filterMap_cons, hLf]; exact .head _
    refine here_note (env := C.env) (outer := C.outer) (by show some (C.fenv :: C.outer) = _; rw [he]) hL (by rw [he]; exact g) fun h2 g2 => gone_land g2 fun h3 g3 => ?_
    have up3 := gone_up (s' := { s₁ with heap := h3 }) ok i (by rw [he] at g3; exact g3)
    have I3 : Inv C { s₁ with heap := h3 } σ₁ X₁ := Inv.after (s := { s₁ with heap := h₁ }) ok i up3 i.gens rfl
    have hoe : ∃ oe, h3.get? a = some oe ∧ oe.cls = .type Xt := by
      obtain ⟨B, t, vs, cx, k1, k2, F, _⟩ := g3
      obtain ⟨oe, ws, q1, q2, _⟩ := F.recd
      exact ⟨oe, q1, q2.trans hcls⟩
    refine wpAny_handleBy_builtin_as (X := Xt) (T := Tt) (b := true) hexc hnt hsub (wpAny_Name (load_glob (C := C) ok I3.stay kT eT ⟨rfl, hoe, ?_⟩) dT)
    rw [if_pos rfl]
    refine gone_land g3 fun h₄ G₄ => ?_
    have up₄ := gone_up (s' := { s₁ with heap := h₄ }) ok i (by rw [he] at G₄; exact G₄)
    have I₄ : Inv C { s₁ with heap := h₄ } σ₁ X₁ := Inv.after (s := { s₁ with heap := h₁ }) ok i up₄ i.gens rfl
    have y₄ : Ext X X₁ s.heap h₄ := y.trans (up₄.toExt fun a m => i.mx a (ok.sm a m))
    have st : C.base.StaysIn (hideP h₄ X₁) := fun b o q => hideP_some (I₄.stay b o q) fun z => by rw [I₄.xb b z] at q; cases q
    have notX : ∀ b, h₁.get? b = none → ¬ X₁ b := fun b q z => by
      obtain ⟨o, e⟩ := i.xl b z
      rw [show h₁.get? b = some o from e] at q; cases q
    have hd' : HdAt C.P (hideP h₄ X₁) a x := by
      obtain ⟨B, t, vs, cx, g1, g2, F, g4, g5, g7⟩ := G₄
      obtain ⟨oe, ws, hoe, hoc, hod, h0, h2, hsz, h1⟩ := F.recd
      refine ⟨oe, ws, t, vs, hideP_some hoe (notX a g7.1), hoc, hod, h0, fun z => ?_, g1, fun z => by rw [h2, g2 z]⟩
      obtain ⟨b, q1, ⟨o, n, q2, q3, q4⟩, q5⟩ := F.tup z
      exact ⟨b, q1, o, n, hideP_some q2 (notX b (g7.2 b z q1)), q3, q4⟩
    have ok' : (C.handling (hideP h₄ X₁) a).Ok := { ok with bs := ok.bs.keeps st }
    have I₅ : Inv (C.handling (hideP h₄ X₁) a) { s₁ with heap := h₄ } σ₁ X₁ := I₄.rebase (fun b o q => of_hideP q) (fun b q => hideP_none q) ok
    refine store (C := C.handling (hideP h₄ X₁) a) (d := .ext (.ref a)) ok' I₅ (.inl ⟨kn, hlw⟩) (by rw [hno]; exact fun q => nomatch q) (by simp only [Rep]) fun h5 t5 I6 x6 => ?_
    refine wpAny_mono (H _ a ok' hd' _ X₁ I6) (fun f s₆ ⟨o, σ₆, X₆, q₆, _⟩ => q₆.elim) fun v s₆ ⟨x7, σ7, X7, a7, h7, e7, ⟨n7, r7⟩, i7, y7, g7⟩ => ?_
    subst e7
    refine here_note (env := C.env) (outer := C.outer) (by show some (C.fenv :: C.outer) = _; rw [he]) hL (by rw [he]; exact g7) fun h8 g8 => ?_
    have i7' : Inv C { s₆ with heap := h7 } σ7 X7 := Inv.unbase (s := { s₆ with heap := h7 }) st i7
    have up8 := gone_up (s' := { s₆ with heap := h8 }) ok i7' (by rw [he] at g8; exact g8)
    have I8 : Inv C { s₆ with heap := h8 } σ7 X7 := Inv.after (s := { s₆ with heap := h7 }) ok i7' up8 i7'.gens rfl
    obtain ⟨m8, n8⟩ := I8.ns
    refine wpAny_nameGoes kn n8 (by rw [ok.kind]; rfl) fun h9 m9 n9 sb => ?_
    obtain ⟨oL, es, ep, e9, d9, _⟩ := id n9
    obtain ⟨o8, es8, ep8, e8, d8, _⟩ := id n8
    obtain ⟨m7, o7, es7, ep7, e77, d7, _⟩ := i7'.ns
    have G9 := gone_local g8 sb (by rw [he]; rw [← he]; rw [List.filterMap_cons, hL]; exact .head _) e9 ⟨_, _, d9⟩ e8 ⟨_, _, d8⟩ e77
    refine passOn_here hL (s := { s₆ with heap := h9, toks := s₆.toks + 1 }) G9 fun h10 G10 => ?_
    have hfree : oL.isFreed = false := (Heap.get?_some_iff.mp e9).2
    have upL : (h7.update C.env.locals fun _ => oL).get? C.env.locals = some oL := Heap.get?_update_self _ e77 hfree
    have sbu : Heap.SameBut C.env.locals h7 (h7.update C.env.locals fun _ => oL) := Heap.SameBut.update ..
    have hX7 : X7 C.env.locals := i7'.mx _ ok.lm
    have Ifin : Inv C { s₆ with heap := h7.update C.env.locals fun _ => oL, toks := s₆.toks + 1 } ⟨[], none⟩ X7 := by
      refine Inv.poke (s := { s₆ with heap := h7 }) (t := s₆.toks + 1) i7' hX7 (ok.ml hlw) sbu ⟨oL, upL, fun vs z => by rw [d9] at z; cases z⟩ ?_ (fun y c q => let ⟨u, w⟩ := i7'.cells y c q; ⟨u, w.sameBut sbu (ok.cl _ _ q)⟩) (fun y d q => nomatch q) (fun y q => nomatch q) fun _ b q => i7'.xm n7 b q
      obtain ⟨oL', es', ep', q1, q2, q3⟩ := n9
      rw [e9] at q1; cases q1
      exact ⟨m9, oL, es', ep', upL, q2, q3⟩
    have E10 : ErP C R X s.heap (.ref a7) { s₆ with heap := h10, toks := s₆.toks + 1 } :=
      ⟨x7, ⟨[], none⟩, X7, a7, _, rfl, r7, Ifin, ((y₄.trans x6).trans y7).trans (Ext.but hX7 sbu), ⟨true, _, .inr ⟨rfl, _, hLf, rfl⟩, by rw [he] at G10; rw [← he] at G10; rw [← he]; exact G10⟩⟩
    exact ErP.passesAt ok he E10
end
end Mine
end
section
namespace Mine

theorem closure_go {env : Env} (f : Str × NameKind → List (Str × Addr) → Sem (ForInStep (List (Str × Addr))))
    (hf : ∀ name kind cs, f (name, kind) cs = if kind == .free then (do let c ← cellOf env name; pure (.yield ((name, c) :: cs))) else pure (.yield cs)) :
    ∀ (names : List (Str × NameKind)) (acc : List (Str × Addr)), (∀ x, (x, NameKind.free) ∈ names → ∃ c, env.cells.lookup x = some c) →
      ∃ cl, (forIn names acc f : Sem _) = pure cl ∧ (∀ x c, cl.lookup x = some c → acc.lookup x = some c ∨ env.cells.lookup x = some c) ∧ ∀ x, ((x, NameKind.free) ∈ names ∨ (acc.lookup x).isSome = true) → (cl.lookup x).isSome = true
  | [], acc, _ => ⟨acc, rfl, fun _ _ e => .inl e, fun x h => by
    rcases h with h | h
    · cases h
    · exact h⟩
  | (n, k) :: r, acc, hc => by
    rw [List.forIn_cons, hf]
    by_cases hk : (k == NameKind.free) = true
    · have hk' : k = .free := by cases k <;> first | rfl | cases hk
      subst hk'
      obtain ⟨c, hcn⟩ := hc n (.head _)
      obtain ⟨cl, e, h1, h2⟩ := closure_go f hf r ((n, c) :: acc) fun x hx => hc x (.tail _ hx)
      refine ⟨cl, ?_, fun x d q => ?_, fun x q => ?_⟩
      · rw [if_pos hk]
        unfold cellOf
        rw [hcn]
        exact e
      · rcases h1 x d q with z | z
        · rw [List.lookup_cons] at z
          by_cases hx : x = n
          · subst hx; simp at z; subst z; exact .inr hcn
          · have : (x == n) = false := by simpa using hx
            rw [this] at z; exact .inl z
        · exact .inr z
      · refine h2 x ?_
        rcases q with q | q
        · rcases List.mem_cons.mp q with z | z
          · cases z; right; simp
          · exact .inl z
        · right
          rw [List.lookup_cons]
          cases x == n <;> simp_all
    · obtain ⟨cl, e, h1, h2⟩ := closure_go f hf r acc fun x hx => hc x (.tail _ hx)
      refine ⟨cl, ?_, h1, fun x q => h2 x ?_⟩
      · rw [if_neg hk]; exact e
      · rcases q with q | q
        · rcases List.mem_cons.mp q with z | z
          · cases z; exact absurd rfl hk
          · exact .inl z
        · exact .inr q
theorem closure_ok {env : Env} {scope : Scope} (h : ∀ x, (x, NameKind.free) ∈ scope.names → ∃ c, env.cells.lookup x = some c) :
    ∃ cl, closureFor scope env = pure cl ∧ (∀ x c, cl.lookup x = some c → env.cells.lookup x = some c) ∧ ∀ x, (x, NameKind.free) ∈ scope.names → ∃ c, cl.lookup x = some c := by
  have key : ∃ f : Str × NameKind → List (Str × Addr) → Sem (ForInStep (List (Str × Addr))), (∀ name kind cs, f (name, kind) cs = if kind == .free then (do let c ← cellOf env name; pure (.yield ((name, c) :: cs))) else pure (.yield cs)) ∧ closureFor scope env = (forIn scope.names ([] : List (Str × Addr)) f >>= pure) := by
    refine ⟨_, ?_, rfl⟩
    intro name kind cs
    cases hk : (kind == NameKind.free) <;> simp [hk]
  obtain ⟨f, hf, hcl⟩ := key
  obtain ⟨cl, e, h1, h2⟩ := closure_go (env := env) f hf scope.names [] h
  exact ⟨cl, by rw [hcl, e]; rfl, fun x c q => (h1 x c q).resolve_left (fun z => nomatch z), fun x q => Option.isSome_iff_exists.mp (h2 x (.inl q))⟩
end Mine
end
section
namespace Mine
section
variable {w : World} {A : Around} {E : Value → Shared → Prop} {s : Shared}
abbrev never : Value → Shared → Prop := fun _ _ => False
theorem compLoop_run {e : Expr} {target : Expr} {p : Pos} {it acc : Value} {env : Env} {emit : Sem Unit} {R : Result → Shared → Prop}
    (he : (∃ a b c d, e = .ListComp a b c d) ∨ ∃ a b c d f, e = .DictComp a b c d f) (heq : compTurn e 0 it acc env = (standAt p >>= fun _ => pyNext it >>= fun r => match r with
      | none => pure (.done .next)
      | some v => letOwnedTupleGo target it v >>= fun _ => assign target env v >>= fun _ => emit >>= fun _ => again (.compLoop e 0 it acc env)))
    (I : Nat → Shared → Prop)
    (turn : ∀ n s, I n s → wpAny (model prog w) A (pyNext it) (fun r s₁ => match r with
      | none => R (.ok .next) s₁
      | some v => wpAny (model prog w) A (letOwnedTupleGo target it v) (fun _ s₂ => wpAny (model prog w) A (assign target env v) (fun _ s₃ => wpAny (model prog w) A emit (fun _ s₄ => ∃ m, m < n ∧ I m s₄) never s₃) never s₂) never s₁) never s)
    (n : Nat) (h : I n s) : codeAny (model prog w) A (.compLoop e 0 it acc env) R s := by
  refine codeAny_loop rfl I (fun n s hI => ?_) n h
  have hshow : ∀ {Qf : Fin → Shared → Prop} {Ef : Value → Shared → Prop}, wpAny (model prog w) A ((compTurn e 0 it acc env).onRaise (fun x => do noteFrame x env; theTreesLotGoes x)) Qf Ef s →
      wpAny (model prog w) (A.under (Code.compLoop e 0 it acc env)) ((model prog w).den (Code.compLoop e 0 it acc env)) Qf Ef s := fun h => by
    rcases he with ⟨a, b, c, d, rfl⟩ | ⟨a, b, c, d, f, rfl⟩ <;> exact h
  refine hshow (wpAny_noted ?_)
  rw [heq]
  have no : ∀ {v : Value} {s' : Shared} {E' : Value → Shared → Prop}, never v s' → E' v s' := fun h => h.elim
  refine wpAny_bind (wpAny_standAt (wpAny_bind (wpAny_mono (turn n s hI) (fun r s₁ h₁ => ?_) fun _ _ h' => no h')))
  cases r with
  | none => exact wpAny_pure h₁
  | some v => exact wpAny_bind (wpAny_mono h₁ (fun _ s₂ h₂ => wpAny_bind (wpAny_mono h₂ (fun _ s₃ h₃ => wpAny_bind (wpAny_mono h₃ (fun _ s₄ h₄ => wpAny_pure ⟨rfl, h₄⟩) fun _ _ h' => no h')) fun _ _ h' => no h')) fun _ _ h' => no h')
end

/-- the context of a comprehension's element -/
structure CompOf (C : Cx) (scope : Scope) (C' : Cx) : Prop where
  ok : C'.Ok
  names : C'.env.scope.names = (relabel scope C.env).names
  w : C'.w = C.w
  gl : C'.gl = C.gl
  K : C'.K = C.K
  base : C'.base = C.base
  dp : C'.dp = C.dp
  un : C'.un = C.un
  hd : C'.hd = C.hd
  lw : C'.lw = true

/-- one element made and put to the others -/
def EmitT (C : Cx) (em : Env → Addr → Sem Unit) (σ : St) (a a' : PV) : Prop :=
  ∀ s X D, Inv C s σ X → C.M D → C.h0.get? D = s.heap.get? D → D ∉ C.S → OwnAt C.P s.heap X D a →
    wpAny (model prog C.w) C.A (em C.env D) (fun _ s' => ∃ h₁ σ' X', Inv C { s' with heap := h₁ } σ' X' ∧ Ext X X' s.heap h₁ ∧ Heap.SameBut D h₁ s'.heap ∧ OwnAt C.P s'.heap X' D a') never s

abbrev emL (elt : Expr) (env : Env) (D : Addr) : Sem Unit := eval elt env >>= fun x => call (.builtin "list.append") [.ref D, x] >>= fun _ => pure ()
theorem emit_list {C : Cx} {elt : Expr} {σ : St} {es : List PV} {e : PV} (h : TE C elt σ (fun v _ => v = e) fun _ _ => False) (hz : es.length ≤ 16777216) : EmitT C (emL elt) σ (.list es) (.list (es ++ [e])) := fun s X D I hM h0 hS ⟨vs, n, eD, rs⟩ => by
  refine wpAny_bind (wpAny_mono (h s X I) (fun v s₁ ⟨d, σ₁, X₁, q, i, r, x⟩ => ?_) fun v s' ⟨_, _, _, _, _, _, f, _⟩ => f.elim)
  subst q
  have eD1 : s₁.heap.get? D = some (lstObj vs n) := i.up.keep D _ (h0.trans eD) hS
  have hlen : vs.toArray.size ≤ sizeLine := by rw [List.size_toArray, Reps.length rs, sizeLine_eq]; exact hz
  refine wpAny_bind (append_at eD1 (fun h' sb e' => wpAny_pure ?_) hlen)
  rw [List.push_toArray] at e'
  have hX : X₁ D := i.mx D hM
  exact ⟨s₁.heap, σ₁, X₁, i, x, sb, vs ++ [v], n + 1, e', Reps.ext (Ext.but hX sb) (Reps.append (Reps.ext x rs) (Reps.cons r Reps.nil))⟩

abbrev emD (kx vx : Expr) (env : Env) (D : Addr) : Sem Unit := eval kx env >>= fun kv => holding [kv] (eval vx env) >>= fun vv => standAt { kx.pos with endLine := vx.pos.endLine, endCol := vx.pos.endCol } >>= fun _ => holding [kv, vv] (dictSet D kv vv)
theorem dictKey {w : World} {A : Around} {E : Value → Shared → Prop} {s : Shared} {a : Addr} {es : List DictEntry} {n : Nat} {ks : List Str} {vs : List Value} {k : Str} {v : Value} {t : Tok} {Q' : Unit → Shared → Prop} (ho : s.heap.get? a = some (dctObj es n)) (he : Ents w.params ks vs es) (nd : ks.Nodup) (nk : k ∉ ks) (hz : ks.length ≤ 16777216)
    (h : ∀ h' es' n', Heap.SameBut a s.heap h' → h'.get? a = some (dctObj es' n') → Ents w.params (ks ++ [k]) (vs ++ [v]) es' → Q' () { s with heap := h', toks := s.toks + 1 }) : wpAny (model prog w) A (dictSet a (.str k t) v) Q' E s := by
  have hl := (ents_len he).1
  have hst : stored (ks.zip vs) k v = (ks ++ [k]).zip (vs ++ [v]) := by
    unfold stored
    have hany : ((ks.zip vs).any fun kv => kv.1 = k) = false := by
      rw [List.any_eq_false]
      intro kv hm q
      have := (List.of_mem_zip (a := kv.1) (b := kv.2) hm).1
      have q' : kv.1 = k := by simpa using q
      exact nk (q' ▸ this)
    rw [hany, if_neg (by decide), List.zip_append hl]
    rfl
  refine wpAny_dictSet_pairs (strKind_is prog w k t) (ents_dict ho he nd) (fun h' hd sb => ?_) (by rw [sizeLine_eq]; simp [hl]; omega)
  rw [hst] at hd
  obtain ⟨⟨oc, od, odt, osl⟩, es', ep, ho', ⟨x1, x2, x3⟩, hdt, hk, hp, hn⟩ := hd
  dsimp only at x1 x2 x3 hdt
  subst x1 x2 x3 hdt
  refine h h' es'.toList ep sb (by simpa using ho') (ents_of (by simp [hl]) hp fun e hm => hk e (by simpa using hm))
theorem emit_dict {C : Cx} {kx vx : Expr} {σ : St} {ks : List Str} {ds : List PV} {k : Str} {e : PV} (h : TE C kx σ (fun kv σ₁ => kv = .str k ∧ TE C vx σ₁ (fun v _ => v = e) fun _ _ => False) fun _ _ => False) (nd : ks.Nodup) (nk : k ∉ ks) (hz : ks.length ≤ 16777216) : EmitT C (emD kx vx) σ (.dict ks ds) (.dict (ks ++ [k]) (ds ++ [e])) := fun s X D I hM h0 hS ⟨es, vs, n, eD, ⟨hsys, he⟩, rs⟩ => by
  refine wpAny_bind (wpAny_mono (h s X I) (fun kv s₁ ⟨d, σ₁, X₁, ⟨q, q2⟩, i, r, x⟩ => ?_) fun v s' ⟨_, _, _, _, _, _, f, _⟩ => f.elim)
  subst q
  simp only [Rep] at r
  obtain ⟨t, rfl⟩ := r
  refine wpAny_bind (wpAny_holding (wpAny_mono (q2 s₁ X₁ i) (fun v s₂ ⟨d, σ₂, X₂, q, i₂, r₂, x₂⟩ => ?_) fun v s' ⟨_, _, _, _, _, _, f, _⟩ => f.elim))
  subst q
  have eD1 : s₂.heap.get? D = some (dctObj es n) := i₂.up.keep D _ (h0.trans eD) hS
  refine wpAny_bind (wpAny_standAt (wpAny_holding (dictKey eD1 he nd nk hz fun h' es' n' sb e' he' => ?_)))
  have hX : X₂ D := i₂.mx D hM
  exact ⟨s₂.heap, σ₂, X₂, i₂.tok _, x.trans x₂, sb, es', vs ++ [v], n', e', ⟨hsys, he'⟩, Reps.ext (Ext.but hX sb) (Reps.append (Reps.ext (x.trans x₂) rs) (Reps.cons r₂ Reps.nil))⟩
end Mine
end
section
namespace Mine

theorem lookup_relabel {names : List (Str × NameKind)} {env : Env} {x : Str} :
    (names.map fun (n, k) => if (k == .free && env.scope.kind == .function && env.kindOf n == some .cell) then (n, NameKind.cell) else (n, k)).lookup x =
      (names.lookup x).map fun k => if (k == .free && env.scope.kind == .function && env.kindOf x == some .cell) then .cell else k := by
  induction names with
  | nil => rfl
  | cons a r ih =>
    obtain ⟨n, k⟩ := a
    show List.lookup x ((if (k == NameKind.free && env.scope.kind == .function && env.kindOf n == some .cell) = true then (n, NameKind.cell) else (n, k)) :: _) = _
    cases hx : x == n with
    | true =>
      have hxn : x = n := by simpa using hx
      subst hxn
      by_cases hc : (k == NameKind.free && env.scope.kind == .function && env.kindOf x == some .cell) = true
      · rw [if_pos hc]
        simp only [List.lookup_cons, hx, Option.map_some]
        rw [if_pos hc]
      · rw [if_neg hc]
        simp only [List.lookup_cons, hx, Option.map_some]
        rw [if_neg hc]
    | false =>
      by_cases hc : (k == NameKind.free && env.scope.kind == .function && env.kindOf n == some .cell) = true
      · rw [if_pos hc]; simp only [List.lookup_cons, hx]; exact ih
      · rw [if_neg hc]; simp only [List.lookup_cons, hx]; exact ih

section
variable {C : Cx} {σ σc : St} {s s₂ : Shared} {X X₂ : Addr → Prop} {R : Exc → St → Prop}

/-- the comprehension's context, with what is held still -/
def Cx.comp (C : Cx) (scope : Scope) (cl : List (Str × Addr)) (Lc : Addr) (M' : Addr → Prop) (h : Heap) : Cx :=
  { C with env := compEnvC scope cl Lc C.env, M := M', h0 := h, S := C.S', lw := true, cw := false }

structure CompSet (C : Cx) (scope : Scope) (cl : List (Str × Addr)) (σ σc : St) : Prop where
  kind : scope.kind = .function
  nocell : ∀ y ∈ scope.names, y.2 ≠ .cell
  sub : ∀ x c, cl.lookup x = some c → C.env.cells.lookup x = some c
  all : ∀ x, (x, NameKind.free) ∈ scope.names → ∃ c, cl.lookup x = some c
  free : ∀ x, (x, NameKind.free) ∈ scope.names → C.env.kindOf x = some .cell
  noown : σc.own = none
  vars : ∀ x d, σc.vars.lookup x = some d → σ.vars.lookup x = some d ∧ σ.own ≠ some x ∧ scope.names.lookup x = some .free

theorem CompSet.kindOf {scope : Scope} {cl : List (Str × Addr)} (ok : C.Ok) (S : CompSet C scope cl σ σc) {Lc : Addr} {M' : Addr → Prop} {h : Heap} {x : Str} (e : (C.comp scope cl Lc M' h).env.kindOf x = some .cell) : ∃ c, cl.lookup x = some c := by
  have e' : ((relabel scope C.env).names).lookup x = some .cell := e
  unfold relabel at e'
  rw [lookup_relabel] at e'
  cases hl : scope.names.lookup x with
  | none => rw [hl] at e'; cases e'
  | some k =>
    have hm := mem_of_lookup hl
    rw [hl] at e'
    simp only [Option.map_some, Option.some.injEq] at e'
    split at e'
    · rename_i hc
      simp only [Bool.and_eq_true] at hc
      have : k = .free := by have := hc.1.1; cases k <;> first | rfl | cases this
      subst this
      exact S.all x hm
    · subst e'
      exact absurd rfl (S.nocell _ hm)

theorem CompSet.ok {scope : Scope} {cl : List (Str × Addr)} (ok : C.Ok) (S : CompSet C scope cl σ σc) {Lc : Addr} {M' : Addr → Prop} {h : Heap} (hM : ∀ a, C.M a → M' a) (hL : M' Lc) (h0 : h.get? Lc = none) (hne : ∀ x c, C.env.cells.lookup x = some c → c ≠ Lc) : (C.comp scope cl Lc M' h).Ok where
  bs := ok.bs
  kind := S.kind
  glob := ok.glob
  blt := ok.blt
  fr := ok.fr
  fk := ok.fk
  ss := fun a m => .inr m
  sm := fun a m => hM a (ok.sm a m)
  lm := hL
  cm := fun x c e => hM c (ok.cm x c (S.sub x c e))
  cd := fun x y c e e' => ok.cd x y c (S.sub x c e) (S.sub y c e')
  cl := fun x c e => hne x c (S.sub x c e)
  ml := fun _ => h0
  mc := fun e => nomatch e
  ce := fun x e => S.kindOf ok e
  fl := ok.fl

theorem CompSet.inv {scope : Scope} {cl : List (Str × Addr)} (ok : C.Ok) (S : CompSet C scope cl σ σc) {Lc : Addr} {M' : Addr → Prop} {h : Heap} (I : Inv C s₂ σ X₂)
    (sub : ∀ a o, h.get? a = some o → s.heap.get? a = some o) (keep : ∀ a o, s₂.heap.get? a = some o → X₂ a → a ∉ C.S' → s.heap.get? a = some o) (frame : ∀ a o, s₂.heap.get? a = some o → a ∈ C.S' → ∃ sl, s.heap.get? a = some { o with slots := sl }) (data : ∀ d v, Rep C.P s₂.heap X₂ d v → Rep C.P s.heap M' d v)
    (stay : C.base.StaysIn s.heap) (gens : s.gens = #[]) (os : s.os = C.os) (hM : ∀ a, C.M a → M' a) (hb : ∀ a, M' a → C.base.get? a = none) (hl : ∀ a, M' a → ∃ o, s.heap.get? a = some o) (ns : ∃ m, s.heap.Ns Lc m) : Inv (C.comp scope cl Lc M' h) s σc M' := by
  have anyf : ∀ a o, s₂.heap.get? a = some o → C.M a → ∃ sl, s.heap.get? a = some { o with slots := sl } := fun a o e m => by
    by_cases q : a ∈ C.S'
    · exact frame a o e q
    · exact ⟨o.slots, keep a o e (I.mx a m) q⟩
  have cell : ∀ {x c v}, C.env.cells.lookup x = some c → s₂.heap.IsCell c v → s.heap.IsCell c v := fun {x c v} q ⟨o, e, d⟩ => by
    obtain ⟨sl, e'⟩ := anyf c o e (ok.cm _ _ q)
    exact ⟨_, e', d⟩
  refine ⟨stay, ⟨fun a o e _ => sub a o e, fun a o e _ => ⟨o.slots, sub a o e⟩⟩, ?_, gens, os, fun _ m => m, hb, hl, ns, fun x c e => let ⟨v, i⟩ := I.cells x c (S.sub x c e); ⟨v, cell (S.sub x c e) i⟩, fun x d e n => ?_, fun x e => ?_, fun _ _ m => m⟩
  · refine frames_mem (fun b m o e nf => ?_) I.frames
    obtain ⟨sl, e'⟩ := frame b o e m
    exact ⟨_, e', nf⟩
  · obtain ⟨e1, e2, e3⟩ := S.vars x d e
    obtain ⟨v, va, r⟩ := I.vars x d e1 e2
    have hf := S.free x (mem_of_lookup e3)
    refine ⟨v, ?_, data d v r⟩
    rcases va with ⟨k, _⟩ | ⟨k, c, q, i⟩
    · rw [hf] at k; cases k
    · obtain ⟨c', hc'⟩ := S.all x (mem_of_lookup e3)
      have : c' = c := by have := S.sub x c' hc'; rw [q] at this; exact (Option.some.inj this).symm
      subst this
      refine .inr ⟨?_, c', hc', cell q i⟩
      show ((relabel scope C.env).names).lookup x = _
      unfold relabel
      rw [lookup_relabel, e3]
      simp [ok.kind, hf]
  · rw [S.noown] at e; cases e

/-- behind the comprehension: what the activation knew still holds -/
theorem Inv.afterW {wr : List Addr} {s' : Shared} (ok : C.Ok) (I : Inv C s₂ σ X₂) (keep : ∀ a o, s₂.heap.get? a = some o → a ∉ wr → a ∉ C.S' → s'.heap.get? a = some o) (frame : ∀ a o, s₂.heap.get? a = some o → a ∈ C.S' → ∃ sl, s'.heap.get? a = some { o with slots := sl })
    (odd : ∀ a, a ∈ wr → ∀ o, s₂.heap.get? a = some o → ¬ DataObj o) (hx : ∀ a, a ∈ wr → ¬ X₂ a) (h0 : ∀ a, a ∈ wr → C.h0.get? a = none) (hb : ∀ a, a ∈ wr → C.base.get? a = none) (g : s'.gens = #[]) (o : s'.os = s₂.os) :
    Inv C s' σ X₂ ∧ ∀ x v, VarAt C.env s₂.heap x v → VarAt C.env s'.heap x v := by
  have fx : ∀ a, a ∈ C.S' → X₂ a := fun a m => I.mx a (ok.sm a m)
  have data : ∀ d v, Rep C.P s₂.heap X₂ d v → Rep C.P s'.heap X₂ d v := fun d v r => Rep.at (fun a o e n dt => keep a o e (fun m => odd a m o e dt) fun m => n (fx a m)) r
  have anyf : ∀ a o, s₂.heap.get? a = some o → a ∉ wr → ∃ sl, s'.heap.get? a = some { o with slots := sl } := fun a o e m => by
    by_cases q : a ∈ C.S'
    · exact frame a o e q
    · exact ⟨o.slots, keep a o e m q⟩
  have hns : ∀ {m}, s₂.heap.Ns C.env.locals m → s'.heap.Ns C.env.locals m := fun ⟨o, es, ep, e, r⟩ => by
    obtain ⟨sl, e'⟩ := anyf _ o e fun m => hx _ m (I.mx _ ok.lm)
    exact ⟨_, es, ep, e', r⟩
  have hce : ∀ {x c v}, C.env.cells.lookup x = some c → s₂.heap.IsCell c v → s'.heap.IsCell c v := fun {x c v} q ⟨o, e, d⟩ => by
    obtain ⟨sl, e'⟩ := anyf _ o e fun m => hx _ m (I.mx _ (ok.cm _ _ q))
    exact ⟨_, e', d⟩
  have hva : ∀ {x v}, VarAt C.env s₂.heap x v → VarAt C.env s'.heap x v := fun v => v.imp (fun ⟨k, m, n, e⟩ => ⟨k, m, hns n, e⟩) fun ⟨k, c, e, i⟩ => ⟨k, c, e, hce e i⟩
  refine ⟨⟨fun b o e => ?_, ⟨fun a o e n => ?_, fun a o e m => ?_⟩, frames_mem (fun b m o e nf => let ⟨sl, q⟩ := frame b o e m; ⟨_, q, nf⟩) I.frames, g, o.trans I.os, I.mx, I.xb, fun a q => ?_, let ⟨m, n⟩ := I.ns; ⟨m, hns n⟩, fun x c e => let ⟨v, i⟩ := I.cells x c e; ⟨v, hce e i⟩, fun x d e n => let ⟨v, a, r⟩ := I.vars x d e n; ⟨v, hva a, data d v r⟩, fun x e => ?_, I.xm⟩, fun _ _ => hva⟩
  · exact keep b o (I.stay b o e) (fun m => by rw [hb b m] at e; cases e) fun m => by have := I.xb b (fx b m); rw [this] at e; cases e
  · refine keep a o (I.up.keep a o e n) (fun m => by rw [h0 a m] at e; cases e) fun m => ?_
    rcases ok.ss a m with q | q
    · rw [q] at e; cases e
    · exact n q
  · obtain ⟨sl, e1⟩ := I.up.frame a o e m
    obtain ⟨sl2, e2⟩ := anyf a _ e1 fun m => by rw [h0 a m] at e; cases e
    exact ⟨sl2, e2⟩
  · obtain ⟨o, e⟩ := I.xl a q
    obtain ⟨sl, e'⟩ := anyf a o e fun m => hx a m q
    exact ⟨_, e'⟩
  · obtain ⟨a, d, p1, p2, p3, p4, p5, p6, p7⟩ := I.own x e
    have na : a ∉ wr := fun m => hx a m p3
    have nS : a ∉ C.S' := fun m => p4 (ok.sm a m)
    refine ⟨a, d, p1, hva p2, p3, p4, p5, ?_, p7⟩
    have rat : ∀ {ds vs}, Reps C.P s₂.heap X₂ ds vs → Reps C.P s'.heap X₂ ds vs := fun r => Reps.at (fun a o e n dt => keep a o e (fun m => odd a m o e dt) fun m => n (fx a m)) r
    cases d <;> first | exact p6.elim | skip
    · obtain ⟨vs, k, e1, e2⟩ := p6; exact ⟨vs, k, keep _ _ e1 na nS, rat e2⟩
    · obtain ⟨es, vs, k, e1, e2, e3⟩ := p6; exact ⟨es, vs, k, keep _ _ e1 na nS, e2, rat e3⟩
end
end Mine
end
section
namespace Mine
section
variable {C : Cx} {σ σc : St} {s₂ : Shared} {X₂ : Addr → Prop}

/-- how a comprehension left the heap -/
structure CompLeft (C : Cx) (s₂ : Shared) (wr : List Addr) (s : Shared) : Prop where
  keep : ∀ a o, s₂.heap.get? a = some o → a ∉ wr → a ∉ C.S' → s.heap.get? a = some o
  frame : ∀ a o, s₂.heap.get? a = some o → a ∈ C.S' → ∃ sl, s.heap.get? a = some { o with slots := sl }
  gens : s.gens = #[]
  os : s.os = C.os

theorem OwnAt.imp {P : Params} {h h' : Heap} {X Y : Addr → Prop} {a : Addr} (e : ∀ o, h.get? a = some o → h'.get? a = some o) (f : ∀ ds vs, Reps P h X ds vs → Reps P h' Y ds vs) : ∀ {d : PV}, OwnAt P h X a d → OwnAt P h' Y a d
  | .list _, ⟨vs, n, q, r⟩ => ⟨vs, n, e _ q, f _ _ r⟩
  | .dict _ _, ⟨es, vs, n, q, z, r⟩ => ⟨es, vs, n, e _ q, z, f _ _ r⟩

theorem comp_body {e target : Expr} {p : Pos} {em : Env → Addr → Sem Unit} {o0 : Obj} {acc : Nat → PV} {scope : Scope} {cl : List (Str × Addr)} {It : Addr} {fp wr : List Addr} {es : List PV} {vs : List Value} {ds : List PV} {T : Nat → Heap → Prop} {newAcc : Sem Value} {E : Value → Shared → Prop}
    (ok : C.Ok) (hh : C.hd = none) (S : CompSet C scope cl σ σc) (hkn : ∀ x ∈ scope.names, x.2 = .local → scope.names.lookup x.1 = some .local)
    (he : (∃ a b c d, e = .ListComp a b c d) ∨ ∃ a b c d f, e = .DictComp a b c d f)
    (heq : ∀ (it : Value) (D : Addr) env, compTurn e 0 it (.ref D) env = (standAt p >>= fun _ => pyNext it >>= fun r => match r with
      | none => pure (.done .next)
      | some v => letOwnedTupleGo target it v >>= fun _ => PySem.assign target env v >>= fun _ => em env D >>= fun _ => again (.compLoop e 0 it (.ref D) env)))
    (hstart : ∀ (Rr : Result → Shared → Prop) it a env s, codeAny (model prog C.w) C.A (.compLoop e 0 it a env) Rr s → wpAny (model prog C.w) C.A (pyIter it) (fun it' s' => codeAny (model prog C.w) C.A (.compLoop e 0 it' a env) Rr s') never s → codeAny (model prog C.w) C.A (.compStart e 0 it a env) Rr s)
    (hnew : ∀ {Q : Value → Shared → Prop}, Q (.ref s₂.heap.objs.size) { s₂ with heap := s₂.heap.push o0 } → wpAny (model prog C.w) C.A newAcc Q E s₂)
    (hacc : (o0 = lstObj [] 0 ∧ acc 0 = .list []) ∨ (o0 = dctObj [] 0 ∧ acc 0 = .dict [] []))
    (I : Inv C s₂ σ X₂) (W : Itr C.w C.A target It fp wr es vs ds T) (st : T 0 s₂.heap) (rs : Reps C.P s₂.heap X₂ es vs) (nf : ∀ a, a ∈ fp → ¬ X₂ a) (nb : ∀ a, a ∈ wr → C.base.get? a = none)
    (elt : ∀ k d, ds[k]? = some d → ∀ C', CompOf C scope C' → ∃ σ', Bind C' target d σc σ' ∧ EmitT C' em σ' (acc k) (acc (k + 1)))
    {RR : Value → Addr → Result → Shared → Prop}
    (hR : ∀ D Lc s', s₂.heap.get? D = none → s₂.heap.get? Lc = none → D ≠ Lc → CompLeft C s₂ wr s' → (∃ m, s'.heap.Ns Lc m) → OwnAt C.P s'.heap (fun a => X₂ a ∨ a = Lc ∨ a = D) D (acc ds.length) → RR (.ref D) Lc (.ok .next) s') :
    wpAny (model prog C.w) C.A newAcc (fun accv s₃ => wpAny (model prog C.w) C.A (newFunctionEnv scope C.env.globals cl [] C.env.qual none .none (some C.env)) (fun cenv s₄ =>
      codeAny (model prog C.w) C.A (.compStart e 0 (.ref It) accv { cenv with scope := relabel scope C.env }) (RR accv cenv.locals) s₄) E s₃) E s₂ := by
  refine hnew (wpAny_newFunctionEnv S.nocell (by intro y hy; simp at hy) (fun h₁ hns₁ hsb₁ => ?_) S.kind)
  dsimp only at hns₁ hsb₁ ⊢
  generalize hDd : s₂.heap.objs.size = D at *
  generalize hH2 : s₂.heap.push o0 = H2 at hns₁ hsb₁ ⊢
  generalize hLl : H2.objs.size = Lc at *
  have hsz : Lc = D + 1 := by rw [← hLl, ← hH2, Heap.size_push, hDd]
  have hDL : D ≠ Lc := by omega
  have nD : s₂.heap.get? D = none := Heap.get?_none_of_le (by omega)
  have nL : s₂.heap.get? Lc = none := Heap.get?_none_of_le (by omega)
  have liveD : ∀ {a o}, s₂.heap.get? a = some o → a ≠ D ∧ a ≠ Lc := fun {a o} e => ⟨fun q => (by rw [q, nD] at e; cases e), fun q => (by rw [q, nL] at e; cases e)⟩
  have o0f : o0.isFreed = false := by rcases hacc with ⟨rfl, _⟩ | ⟨rfl, _⟩ <;> rfl
  have keep1 : ∀ b o, s₂.heap.get? b = some o → h₁.get? b = some o := fun b o e => hsb₁.extBut b o (liveD e).2 (Heap.get?_push_of_some _ (hH2 ▸ Heap.get?_push_of_some _ e))
  have hD1 : h₁.get? D = some o0 := hsb₁.extBut D _ hDL (Heap.get?_push_of_some _ (by rw [← hH2, ← hDd]; exact Heap.get?_push_size _ o0f))
  have fpX : ∀ a, a ∈ wr → ¬ X₂ a := fun a m => nf a (W.sub a m)
  have S'X : ∀ a, a ∈ C.S' → X₂ a := fun a m => I.mx a (ok.sm a m)
  have S'live : ∀ a, a ∈ C.S' → ∃ o, s₂.heap.get? a = some o := fun a m => let ⟨_, o, e, _⟩ := I.frames.mem m; ⟨o, e⟩
  have fplive := W.live _ _ st
  -- the set of what must not be referred to
  let M' : Addr → Prop := fun a => X₂ a ∨ a = Lc ∨ a = D
  have hM'S : ∀ a, C.M a → M' a := fun a m => .inl (I.mx a m)
  have baseD : C.base.get? D = none := fresh_of_stays I.stay nD
  have baseL : C.base.get? Lc = none := fresh_of_stays I.stay nL
  have hb : ∀ a, M' a → C.base.get? a = none := fun a m => by
    rcases m with m | m | m
    · exact I.xb a m
    · rw [m]; exact baseL
    · rw [m]; exact baseD
  have toM : ∀ {d v}, Rep C.P s₂.heap X₂ d v → Rep C.P s₂.heap M' d v := fun r => Rep.ext ⟨fun _ _ e _ => e, fun a q => by
    rcases q with q | q | q
    · exact .inl q
    · exact .inr (by rw [q]; exact nL)
    · exact .inr (by rw [q]; exact nD)⟩ r
  have toMs : ∀ {d v}, Reps C.P s₂.heap X₂ d v → Reps C.P s₂.heap M' d v := fun r => Reps.ext ⟨fun _ _ e _ => e, fun a q => by
    rcases q with q | q | q
    · exact .inl q
    · exact .inr (by rw [q]; exact nL)
    · exact .inr (by rw [q]; exact nD)⟩ r
  have atS : ∀ {s : Shared}, CompLeft C s₂ wr s → ∀ a o, s₂.heap.get? a = some o → ¬ M' a → DataObj o → s.heap.get? a = some o := fun L a o e n dt => L.keep a o e (fun m => W.odd _ _ st a m o e dt) fun m => n (.inl (S'X a m))
  have hne : ∀ x c, C.env.cells.lookup x = some c → c ≠ Lc := fun x c e q => by
    obtain ⟨v, o, e', _⟩ := I.cells x c e
    exact (liveD e').2 q
  have hDS : D ∉ C.S' := fun m => by obtain ⟨o, e⟩ := S'live D m; exact (liveD e).1 rfl
  -- the loop
  have loop : ∀ s₃ : Shared, s₃ = { s₂ with heap := h₁, toks := s₂.toks + ([] : List (Str × Value)).length } →
      codeAny (model prog C.w) C.A (.compLoop e 0 (.ref It) (.ref D) (compEnvC scope cl Lc C.env)) (RR (.ref D) Lc) s₃ := by
    rintro s₃ rfl
    refine compLoop_run (emit := em (compEnvC scope cl Lc C.env) D) (target := target) (p := p) he (heq _ _ _)
      (fun n s => ∃ k, n = ds.length + 1 - k ∧ k ≤ ds.length ∧ CompLeft C s₂ wr s ∧ T k s.heap ∧ (∃ m, s.heap.Ns Lc m) ∧ OwnAt C.P s.heap M' D (acc k)) ?_ (ds.length + 1)
      ⟨0, rfl, Nat.zero_le _, ⟨fun a o e _ _ => keep1 a o e, fun a o e _ => ⟨o.slots, keep1 a o e⟩, I.gens, I.os⟩, W.frame _ _ _ st fun a m o e => keep1 a o e, ⟨_, hns₁⟩, ?_⟩
    · rintro n s ⟨k, rfl, hk, L, st, hns, hO⟩
      have livM : ∀ a, M' a → ∃ o, s.heap.get? a = some o := fun a m => by
        rcases m with m | m | m
        · obtain ⟨o, e⟩ := I.xl a m
          by_cases q : a ∈ C.S'
          · obtain ⟨sl, e'⟩ := L.frame a o e q; exact ⟨_, e'⟩
          · exact ⟨o, L.keep a o e (fun z => fpX a z m) q⟩
        · obtain ⟨_, o, _, _, e, _⟩ := hns; exact ⟨o, m ▸ e⟩
        · cases hacck : acc k <;> rw [hacck] at hO <;> first | exact hO.elim | skip
          · obtain ⟨ws, n, e, _⟩ := hO; exact ⟨_, m ▸ e⟩
          · obtain ⟨ws, us, n, e, _⟩ := hO; exact ⟨_, m ▸ e⟩
      have wrne : ∀ a, a ∈ wr → a ≠ Lc ∧ a ≠ D := fun a m => let ⟨o, e⟩ := fplive a (W.sub a m); ⟨(liveD e).2, (liveD e).1⟩
      have L' : ∀ {h' : Heap} {tk : Nat}, (∀ b o, b ∉ wr → s.heap.get? b = some o → h'.get? b = some o) → CompLeft C s₂ wr { s with heap := h', toks := tk } := fun hk' =>
        ⟨fun a o e n1 n2 => hk' a o n1 (L.keep a o e n1 n2), fun a o e m => let ⟨sl, q⟩ := L.frame a o e m; ⟨sl, hk' a _ (fun z => fpX a z (S'X a m)) q⟩, L.gens, L.os⟩
      have ns' : ∀ {h' : Heap}, (∀ b o, b ∉ wr → s.heap.get? b = some o → h'.get? b = some o) → ∃ m, h'.Ns Lc m := fun hk' =>
        let ⟨m, o, es, ep, e, r⟩ := hns; ⟨m, o, es, ep, hk' _ _ (fun z => (wrne _ z).1 rfl) e, r⟩
      have own' : ∀ {h' : Heap}, (∀ b o, b ∉ wr → s.heap.get? b = some o → h'.get? b = some o) → OwnAt C.P h' M' D (acc k) := fun hk' =>
        hO.imp (fun o e => hk' _ _ (fun z => (wrne _ z).2 rfl) e) fun _ _ r => Reps.at (fun a o e n dt => hk' a o (fun m => W.odd _ _ st a m o e dt) e) r
      cases hd : ds[k]? with
      | none =>
        have hkl : k = ds.length := Nat.le_antisymm hk (by simpa using hd)
        subst hkl
        refine wpAny_mono (W.done s (fun s₄ => ∃ h' tk, s₄ = { s with heap := h', toks := tk } ∧ ∀ b o, b ∉ wr → s.heap.get? b = some o → h'.get? b = some o) _ st fun h' tk hk' => ⟨h', tk, rfl, hk'⟩) (fun r s₄ ⟨hr, h', tk, e, hk'⟩ => ?_) fun _ _ y => y
        subst hr e
        exact hR D Lc _ nD nL hDL (L' hk') (ns' hk') (own' hk')
      | some d =>
        have hlt : k < ds.length := (List.getElem?_eq_some_iff.mp hd).1
        have rsM : Reps C.P s.heap M' es vs := Reps.at (atS L) (toMs rs)
        refine wpAny_mono (W.item k s (fun v s₄ => ∃ h' tk, s₄ = { s with heap := h', toks := tk } ∧ T (k + 1) h' ∧ (∀ b o, b ∉ wr → s.heap.get? b = some o → h'.get? b = some o) ∧ Rep C.P h' M' d v) _ d hd st fun v h' tk st' hk' hr => ⟨h', tk, rfl, st', hk', hr M' livM rsM⟩) (fun r s₄ h₄ => ?_) fun _ _ y => y
        cases r with
        | none => exact h₄.elim
        | some v =>
          refine wpAny_mono h₄ (fun _ s₅ ⟨h', tk, e, st', hk', hr⟩ => ?_) fun _ _ y => y
          subst e
          have LL := L' (tk := tk) hk'
          have livM' : ∀ a, M' a → ∃ o, h'.get? a = some o := fun a m => by
            obtain ⟨o, e⟩ := livM a m
            refine ⟨o, hk' a o (fun z => ?_) e⟩
            rcases m with m | m | m
            · exact fpX a z m
            · exact (wrne a z).1 m
            · exact (wrne a z).2 m
          let C' := C.comp scope cl Lc M' (hideP h' fun a => a = Lc)
          have ok' : C'.Ok := S.ok ok hM'S (.inr (.inl rfl)) (hideP_none rfl) hne
          have cof : CompOf C scope C' := ⟨ok', rfl, rfl, rfl, rfl, rfl, rfl, rfl, rfl, rfl⟩
          have I' : Inv C' { s with heap := h', toks := tk } σc M' := S.inv ok I (fun a o e => of_hideP e) (fun a o e m n => LL.keep a o e (fun z => fpX a z m) n) LL.frame (fun d v r => Rep.at (atS LL) (toM r))
            (fun b o e => LL.keep b o (I.stay b o e) (fun z => by rw [nb b z] at e; cases e) fun m => by rw [I.xb b (S'X b m)] at e; cases e) LL.gens LL.os hM'S hb livM' (ns' hk')
          obtain ⟨σ', bd, emt⟩ := elt k d hd C' cof
          refine bind_assign (C := C') ok' hh bd I' hr fun h₆ t₆ I₆ x₆ => ?_
          have hDh : ∃ o, h'.get? D = some o := livM' D (.inr (.inr rfl))
          obtain ⟨oD, eD⟩ := hDh
          have eDh : C'.h0.get? D = some oD := hideP_some eD hDL
          have eD6 : h₆.get? D = some oD := I₆.up.keep D oD eDh hDS
          have own6 : OwnAt C.P h₆ M' D (acc k) := (own' hk').imp (fun o e => by rw [eD] at e; cases e; exact eD6) fun _ _ r => Reps.ext x₆ r
          refine wpAny_mono (emt { s with heap := h₆, toks := t₆ } M' D I₆ (.inr (.inr rfl)) (eDh.trans eD6.symm) hDS own6) (fun _ s₇ ⟨h₈, σ₈, X₈, I₈, x₈, sb, hO8⟩ => ?_) fun _ _ y => y
          have keep8 : ∀ a o, h'.get? a = some o → a ≠ Lc → a ≠ D → a ∉ C.S' → s₇.heap.get? a = some o := fun a o e n1 n2 n3 => (sb.2 a n2).trans (I₈.up.keep a o (hideP_some e n1) n3)
          refine ⟨ds.length + 1 - (k + 1), by omega, k + 1, rfl, hlt, ⟨fun a o e n1 n2 => keep8 a o (LL.keep a o e n1 n2) (liveD e).2 (liveD e).1 n2, fun a o e m => ?_, I₈.gens, I₈.os⟩, W.frame _ _ _ st' fun a m o e => ?_, ?_, ?_⟩
          · obtain ⟨sl, q⟩ := LL.frame a o e m
            obtain ⟨sl2, q2⟩ := I₈.up.any (hideP_some (p := fun a => a = Lc) q (liveD e).2)
            exact ⟨sl2, (sb.2 a (liveD e).1).trans q2⟩
          · obtain ⟨o', e'⟩ := fplive a m
            exact keep8 a o e (liveD e').2 (liveD e').1 fun z => nf a m (S'X a z)
          · obtain ⟨m, n⟩ := I₈.ns
            exact ⟨m, n.sameBut sb (Ne.symm hDL)⟩
          · exact hO8.imp (fun _ e => e) fun _ _ r => Reps.sub (fun a m => I₈.mx a m) r
    · rcases hacc with ⟨rfl, q⟩ | ⟨rfl, q⟩
      · rw [q]; exact ⟨[], 0, hD1, Reps.nil⟩
      · rw [q]
        refine ⟨[], [], 0, hD1, ⟨fun z => ?_, trivial⟩, Reps.nil⟩
        obtain ⟨o, e⟩ := ok.bs.sys
        have := I.stay _ _ e
        rw [← z, nD] at this; cases this
  refine hstart _ _ _ _ _ (loop _ rfl) (W.self 0 _ _ _ (W.frame _ _ _ st fun a m o e => keep1 a o e) (loop _ rfl))
end
end Mine
end
section
namespace Mine
section
variable {C : Cx} {σ σc : St} {s s₂ : Shared} {X X₂ : Addr → Prop} {R : Exc → St → Prop}

def Cx.plus (C : Cx) (Lc : Addr) : Cx := { C with M := fun a => C.M a ∨ a = Lc }
theorem Cx.Ok.plus {Lc : Addr} (ok : C.Ok) : (C.plus Lc).Ok :=
  { ok with
    sm := fun a m => .inl (ok.sm a m)
    lm := .inl ok.lm
    cm := fun x c e => .inl (ok.cm x c e) }

theorem Inv.afterZ {wr : List Addr} {s' : Shared} {Lc : Addr} (ok : C.Ok) (I : Inv C s₂ σ X₂) (L : CompLeft C s₂ wr s')
    (odd : ∀ a, a ∈ wr → ∀ o, s₂.heap.get? a = some o → ¬ DataObj o) (hx : ∀ a, a ∈ wr → ¬ X₂ a) (h0 : ∀ a, a ∈ wr → C.h0.get? a = none) (hb : ∀ a, a ∈ wr → C.base.get? a = none) (nL : s₂.heap.get? Lc = none) (lv : ∃ o, s'.heap.get? Lc = some o) :
    Inv (C.plus Lc) s' σ (fun a => X₂ a ∨ a = Lc) := by
  obtain ⟨J, hva⟩ := Inv.afterW (s' := s') ok I L.keep L.frame odd hx h0 hb L.gens (L.os.trans I.os.symm)
  have S'X : ∀ a, a ∈ C.S' → X₂ a := fun a m => I.mx a (ok.sm a m)
  have toZ : Ext X₂ (fun a => X₂ a ∨ a = Lc) s₂.heap s₂.heap := ⟨fun _ _ e _ => e, fun a q => by
    rcases q with q | q
    · exact .inl q
    · exact .inr (by rw [q]; exact nL)⟩
  have atZ : ∀ a o, s₂.heap.get? a = some o → ¬ (X₂ a ∨ a = Lc) → DataObj o → s'.heap.get? a = some o := fun a o e n dt => L.keep a o e (fun m => odd a m o e dt) fun m => n (.inl (S'X a m))
  refine { J with
    mx := fun a m => by rcases m with m | m
                        · exact .inl (J.mx a m)
                        · exact .inr m
    xb := fun a q => by rcases q with q | q
                        · exact J.xb a q
                        · rw [q]; exact fresh_of_stays I.stay nL
    xl := fun a q => by rcases q with q | q
                        · exact J.xl a q
                        · rw [q]; exact lv
    vars := fun x d e n => let ⟨v, va, r⟩ := I.vars x d e n; ⟨v, hva x v va, Rep.at atZ (Rep.ext toZ r)⟩
    own := fun x e => ?_
    xm := fun e a q => q.imp (J.xm e a) id }
  obtain ⟨a, d, p1, p2, p3, p4, p5, p6, p7⟩ := I.own x e
  obtain ⟨o, ho⟩ := I.xl a p3
  have neL : a ≠ Lc := fun q => by rw [q, nL] at ho; cases ho
  refine ⟨a, d, p1, hva x _ p2, .inl p3, fun m => m.elim p4 neL, p5, ?_, fun b q => ?_⟩
  · exact p6.imp (fun o e => L.keep a o e (fun m => hx a m p3) fun m => p4 (ok.sm a m)) fun _ _ r => Reps.at atZ (Reps.ext toZ r)
  · rcases q with q | q
    · exact (p7 b q).imp .inl id
    · exact .inl (.inr q)

/-- the comprehension's names go -/
theorem Inv.letgo {Lc : Addr} {X' : Addr → Prop} {h' : Heap} (ok : C.Ok) (I : Inv (C.plus Lc) s σ X') (hM : ¬ C.M Lc) (h0 : C.h0.get? Lc = none) (hb : C.base.get? Lc = none) (sb : Heap.SameBut Lc s.heap h') :
    Inv C { s with heap := h' } σ (fun a => X' a ∧ a ≠ Lc) ∧ ∀ {d v}, Rep C.P s.heap X' d v → Rep C.P h' (fun a => X' a ∧ a ≠ Lc) d v := by
  have hX : X' Lc := I.mx _ (.inr rfl)
  have neM : ∀ {a}, C.M a → a ≠ Lc := fun m q => hM (q ▸ m)
  have dat : ∀ {d v}, Rep C.P s.heap X' d v → Rep C.P h' (fun a => X' a ∧ a ≠ Lc) d v := fun r => Rep.sub (fun a q => q.1) (Rep.ext (Ext.but hX sb) r)
  have dats : ∀ {d v}, Reps C.P s.heap X' d v → Reps C.P h' (fun a => X' a ∧ a ≠ Lc) d v := fun r => Reps.sub (fun a q => q.1) (Reps.ext (Ext.but hX sb) r)
  have hva : ∀ {x v}, VarAt C.env s.heap x v → VarAt C.env h' x v := fun v => v.but ok hM sb
  refine ⟨⟨fun b o e => (sb.2 b fun q => by rw [q, hb] at e; cases e).trans (I.stay b o e), ⟨fun a o e n => (sb.2 a fun q => by rw [q, h0] at e; cases e).trans (I.up.keep a o e n), fun a o e m => let ⟨sl, q⟩ := I.up.frame a o e m; ⟨sl, (sb.2 a fun z => by rw [z, h0] at e; cases e).trans q⟩⟩,
    frames_mem (fun b m o e nf => ⟨o, (sb.2 b (neM (ok.sm b m))).trans e, nf⟩) I.frames, I.gens, I.os, fun a m => ⟨I.mx a (.inl m), neM m⟩, fun a q => I.xb a q.1, fun a q => let ⟨o, e⟩ := I.xl a q.1; ⟨o, (sb.2 a q.2).trans e⟩,
    let ⟨m, n⟩ := I.ns; ⟨m, n.sameBut sb (neM ok.lm)⟩, fun x c e => let ⟨v, i⟩ := I.cells x c e; ⟨v, i.sameBut sb (neM (ok.cm _ _ e))⟩, fun x d e n => let ⟨v, a, r⟩ := I.vars x d e n; ⟨v, hva a, dat r⟩, fun x e => ?_, fun e a q => ?_⟩, dat⟩
  · obtain ⟨a, d, p1, p2, p3, p4, p5, p6, p7⟩ := I.own x e
    have neL : a ≠ Lc := fun q => p4 (.inr q)
    refine ⟨a, d, p1, hva p2, ⟨p3, neL⟩, fun m => p4 (.inl m), p5, p6.imp (fun o e => (sb.2 a neL).trans e) fun _ _ r => dats r, fun b q => ?_⟩
    rcases p7 b q.1 with z | z
    · rcases z with z | z
      · exact .inl z
      · exact absurd z q.2
    · exact .inr z
  · rcases I.xm e a q.1 with z | z
    · exact z
    · exact absurd z q.2

/-- what a comprehension's scope must be like, to be told by a look -/
structure CompScope (C : Cx) (scope : Scope) : Prop where
  kind : scope.kind = .function
  nocell : ∀ y ∈ scope.names, y.2 ≠ .cell
  names : ∀ x ∈ scope.names, x.2 = .local → scope.names.lookup x.1 = some .local
  free : ∀ x, (x, NameKind.free) ∈ scope.names → C.env.kindOf x = some .cell
structure CompVars (scope : Scope) (σ σc : St) : Prop where
  noown : σc.own = none
  vars : ∀ x d, σc.vars.lookup x = some d → σ.vars.lookup x = some d ∧ σ.own ≠ some x ∧ scope.names.lookup x = some .free

theorem own_elim {P : Params} {h : Heap} {Y : Addr → Prop} {D : Addr} {d : PV} (n : ¬ Y D) (o : OwnAt P h Y D d) : Rep P h Y d (.ref D) := own_rep (fun _ q => q) n o

/-- the whole of a comprehension -/
theorem comp_whole {e target iter : Expr} {p p' : Pos} {em : Env → Addr → Sem Unit} {o0 : Obj} {scope : Scope} {newAcc : Sem Value} {use : Option (Value → Sem Unit)} {g : Comprehension} {gs : List Comprehension}
    (ok : C.Ok) (hh : C.hd = none) (hcl : clausesOf e = g :: gs) (hs : ∀ x, foldedSetIterable g.iter C.env x = pure x) (Sc : CompScope C scope)
    (he : (∃ a b c d, e = .ListComp a b c d) ∨ ∃ a b c d f, e = .DictComp a b c d f)
    (heq : ∀ (it : Value) (D : Addr) env, compTurn e 0 it (.ref D) env = (standAt p >>= fun _ => pyNext it >>= fun r => match r with
      | none => pure (.done .next)
      | some v => letOwnedTupleGo target it v >>= fun _ => PySem.assign target env v >>= fun _ => em env D >>= fun _ => again (.compLoop e 0 it (.ref D) env)))
    (hstart : ∀ (Rr : Result → Shared → Prop) it a env s, codeAny (model prog C.w) C.A (.compLoop e 0 it a env) Rr s → wpAny (model prog C.w) C.A (pyIter it) (fun it' s' => codeAny (model prog C.w) C.A (.compLoop e 0 it' a env) Rr s') never s → codeAny (model prog C.w) C.A (.compStart e 0 it a env) Rr s)
    (hnew : ∀ {Q : Value → Shared → Prop} {E : Value → Shared → Prop} {s₂ : Shared}, Q (.ref s₂.heap.objs.size) { s₂ with heap := s₂.heap.push o0 } → wpAny (model prog C.w) C.A newAcc Q E s₂)
    {Qf : (Nat → PV) → List PV → St → Prop}
    (h : TI C iter target σ (fun ds σ₁ => ∃ acc σc, CompVars scope σ₁ σc ∧ ((o0 = lstObj [] 0 ∧ acc 0 = .list []) ∨ (o0 = dctObj [] 0 ∧ acc 0 = .dict [] [])) ∧ (∀ k d, ds[k]? = some d → ∀ C', CompOf C scope C' → ∃ σ', Bind C' target d σc σ' ∧ EmitT C' em σ' (acc k) (acc (k + 1))) ∧ Qf acc ds σ₁) R)
    {Q : Value → Shared → Prop} (I : Inv C s σ X)
    (hR : ∀ acc ds σ₁ X₁ D Lc s', Qf acc ds σ₁ → Inv (C.plus Lc) s' σ₁ X₁ → ¬ C.M Lc → C.h0.get? Lc = none → C.base.get? Lc = none → (X Lc ∨ s.heap.get? Lc = none) → (∀ h', Heap.SameBut Lc s'.heap h' → Ext X (fun a => X₁ a ∧ a ≠ Lc) s.heap h') → Rep C.P s'.heap X₁ (acc ds.length) (.ref D) → (∃ m, s'.heap.Ns Lc m) →
      compPost (model prog C.w) C.A (ErP C R X s.heap) use Q (.ref D) Lc (.ok .next) s') :
    wpAny (model prog C.w) C.A (comprehension e scope C.env p' newAcc false (eval iter C.env) use) Q (ErP C R X s.heap) s := by
  obtain ⟨cl, hclos, hsub, hall⟩ := closure_ok (env := C.env) (scope := scope) fun x m => ok.ce x (Sc.free x m)
  refine wpAny_comprehension_free hcl hs hclos Sc.kind Sc.names (wpAny_mono (h s X I) (fun xv s₁ h₁ => wpAny_mono h₁ (fun it s₂ h₂ => ?_) fun _ _ y => y) fun _ _ y => y)
  obtain ⟨ds, σ₁, X₂, It, fp, wr, es, vs, T, rfl, ⟨acc, σc, cv, hacc, elt, qf⟩, I₂, x₂, W, st, rs, nf, nw⟩ := h₂
  have S : CompSet C scope cl σ₁ σc := ⟨Sc.kind, Sc.nocell, hsub, hall, Sc.free, cv.noown, cv.vars⟩
  have fpX : ∀ a, a ∈ wr → ¬ X₂ a := fun a m => nf a (W.sub a m)
  refine comp_body (RR := fun a L => compPost (model prog C.w) C.A (ErP C R X s.heap) use Q a L) ok hh S Sc.names he heq hstart hnew hacc I₂ W st rs nf (fun a m => (nw a m).2.1) elt fun D Lc s' nD nL hDL L ns hO => ?_
  have hM : ¬ C.M Lc := fun m => by obtain ⟨o, e⟩ := I₂.xl Lc (I₂.mx Lc m); rw [nL] at e; cases e
  have h0 : C.h0.get? Lc = none := by
    cases e : C.h0.get? Lc with
    | none => rfl
    | some o => obtain ⟨_, q⟩ := I₂.up.any e; rw [nL] at q; cases q
  have hb : C.base.get? Lc = none := fresh_of_stays I₂.stay nL
  have IZ := Inv.afterZ (Lc := Lc) ok I₂ L (W.odd _ _ st) fpX (fun a m => (nw a m).1) (fun a m => (nw a m).2.1) nL (by obtain ⟨_, o, _, _, e, _⟩ := ns; exact ⟨o, e⟩)
  refine hR acc ds σ₁ _ D Lc s' qf IZ hM h0 hb (wr_new I₂ x₂ nL).2.2 (fun h' sb => ⟨fun a o e n => ?_, fun a q => ?_⟩) ?_ ns
  · have e2 := x₂.keep a o e n
    have nX2 : ¬ X₂ a := x₂.not_in e n
    have nwr : a ∉ wr := fun m => by
      rcases (nw a m).2.2 with q | q
      · exact n q
      · rw [q] at e; cases e
    exact (sb.2 a fun q => by rw [q, nL] at e2; cases e2).trans (L.keep a o e2 nwr fun m => nX2 (I₂.mx a (ok.sm a m)))
  · rcases q.1 with z | z
    · exact x₂.grow a z
    · exact absurd z q.2
  · refine own_rep (fun a q => q.imp id .inl) (fun q => ?_) hO
    rcases q with q | q
    · obtain ⟨o, e⟩ := I₂.xl D q; rw [nD] at e; cases e
    · exact hDL q

/-- the element's part of a list comprehension -/
def LcT (C : Cx) (scope : Scope) (target elt : Expr) (σ : St) (ds es : List PV) : Prop :=
  ds.length ≤ 16777216 ∧ es.length = ds.length ∧ ∃ σc, CompVars scope σ σc ∧ ∀ (k : Nat) (d e : PV), ds[k]? = some d → es[k]? = some e → ∀ C', CompOf C scope C' → ∃ σ', Bind C' target d σc σ' ∧ TE C' elt σ' (fun v _ => v = e) fun _ _ => False
theorem lc_acc {scope : Scope} {target elt : Expr} {ds es : List PV} (h : LcT C scope target elt σ ds es) : ∃ acc : Nat → PV, ∃ σc, CompVars scope σ σc ∧ ((lstObj [] 0 = lstObj [] 0 ∧ acc 0 = .list []) ∨ (lstObj [] 0 = dctObj [] 0 ∧ acc 0 = .dict [] [])) ∧
    (∀ k d, ds[k]? = some d → ∀ C', CompOf C scope C' → ∃ σ', Bind C' target d σc σ' ∧ EmitT C' (emL elt) σ' (acc k) (acc (k + 1))) ∧ acc ds.length = .list es := by
  obtain ⟨h1, h2, σc, h3, h4⟩ := h
  refine ⟨fun k => .list (es.take k), σc, h3, .inl ⟨rfl, by simp⟩, fun k d hd C' cf => ?_, by dsimp only; rw [← h2, List.take_length]⟩
  have hk : k < es.length := by rw [h2]; exact (List.getElem?_eq_some_iff.mp hd).1
  obtain ⟨σ', b, t⟩ := h4 k d es[k] hd (List.getElem?_eq_getElem hk) C' cf
  refine ⟨σ', b, ?_⟩
  have e : es.take (k + 1) = es.take k ++ [es[k]] := by rw [List.take_succ, List.getElem?_eq_getElem hk]; rfl
  dsimp only
  rw [e]
  exact emit_list t (by rw [List.length_take]; omega)

theorem TE.listcomp {elt target iter : Expr} {scope : Scope} {pos : Pos} {Q : PV → St → Prop} (ok : C.Ok) (hh : C.hd = none) (hs : ∀ x, foldedSetIterable iter C.env x = pure x) (Sc : CompScope C scope)
    (h : TI C iter target σ (fun ds σ₁ => ∃ es, LcT C scope target elt σ₁ ds es ∧ Q (.list es) σ₁) R) : TE C (.ListComp elt [⟨target, iter, [], 0⟩] scope pos) σ Q R := fun s X I => by
  rw [eval_ListComp]
  refine comp_whole (em := emL elt) (o0 := lstObj [] 0) (use := none) ok hh rfl hs Sc (.inl ⟨_, _, _, _, rfl⟩) (fun it D env => compTurn_list1 elt target iter scope pos it (.ref D) env)
    (fun Rr it a env s h0 h1 => codeAny_compStart_list h0 (wpAny_mono h1 (fun _ _ y => y) fun _ _ y => y.elim)) (fun hq => wpAny_newObj_type hq)
    (Qf := fun acc ds σ₁ => ∃ es, acc ds.length = .list es ∧ Q (.list es) σ₁) (fun s X I => wpAny_mono (h s X I) (fun xv s₁ h₁ => wpAny_mono h₁ (fun it s₂ ⟨ds, σ', X', I', fp, wr, es, vs, T, e, ⟨out, lc, q⟩, rest⟩ => ?_) fun _ _ y => y) fun _ _ y => y) I ?_
  · obtain ⟨acc, σc, c1, c2, c3, c4⟩ := lc_acc lc
    exact ⟨ds, σ', X', I', fp, wr, es, vs, T, e, ⟨acc, σc, c1, c2, c3, out, c4, q⟩, rest⟩
  · intro acc ds σ₁ X₁ D Lc s' ⟨out, ha, q⟩ IZ hM h0 hb hLX hx hr ⟨m, hn⟩
    refine ⟨m, hn, fun h' sb => ?_⟩
    obtain ⟨J, dat⟩ := Inv.letgo ok IZ hM h0 hb sb
    rw [ha] at hr
    exact ⟨.list out, σ₁, _, q, J, dat hr, hx h' sb⟩

/-- the same, put to a name at once -/
theorem T1.assign_listcomp {y : Str} {elt target iter : Expr} {scope : Scope} {py pos spos : Pos} {Q : Out → St → Prop} (ok : C.Ok) (hh : C.hd = none) (hs : ∀ x, foldedSetIterable iter C.env x = pure x) (Sc : CompScope C scope)
    (hsw : swapsWith (.ListComp elt [⟨target, iter, [], 0⟩] scope pos) (some (.Name y py)) spos.line C.env = pure true) (hk : canStore C y)
    (h : TI C iter target σ (fun ds σ₁ => ∃ es, LcT C scope target elt σ₁ ds es ∧ σ₁.own ≠ some y ∧ Q .next (σ₁.put y (.list es))) R) : T1 C (.Assign [.Name y py] (.ListComp elt [⟨target, iter, [], 0⟩] scope pos) spos) σ Q R := fun s X I => by
  rw [exec_Assign_Name_used _ _ _ _ hsw]
  refine wpAny_bind (wpAny_standAt (wpAny_bind ?_))
  show wpAny _ C.A (do let _ ← comprehension (.ListComp elt [⟨target, iter, [], 0⟩] scope pos) scope C.env _ (newList []) false (eval iter C.env) (some (PySem.assign (.Name y py) C.env))) _ _ s
  refine wpAny_bind (wpAny_mono (comp_whole (em := emL elt) (o0 := lstObj [] 0) (use := some (PySem.assign (.Name y py) C.env)) (Q := fun _ s' => EvS C Q X s.heap .next s') ok hh rfl hs Sc (.inl ⟨_, _, _, _, rfl⟩) (fun it D env => compTurn_list1 elt target iter scope pos it (.ref D) env)
    (fun Rr it a env s h0 h1 => codeAny_compStart_list h0 (wpAny_mono h1 (fun _ _ y => y) fun _ _ y => y.elim)) (fun hq => wpAny_newObj_type hq)
    (Qf := fun acc ds σ₁ => ∃ es, acc ds.length = .list es ∧ σ₁.own ≠ some y ∧ Q .next (σ₁.put y (.list es))) (fun s X I => wpAny_mono (h s X I) (fun xv s₁ h₁ => wpAny_mono h₁ (fun it s₂ ⟨ds, σ', X', I', fp, wr, es, vs, T, e, ⟨out, lc, q⟩, rest⟩ => ?_) fun _ _ y => y) fun _ _ y => y) I ?_) (fun _ s' q => wpAny_pure (wpAny_pure q)) fun _ _ y => y)
  · obtain ⟨acc, σc, c1, c2, c3, c4⟩ := lc_acc lc
    exact ⟨ds, σ', X', I', fp, wr, es, vs, T, e, ⟨acc, σc, c1, c2, c3, out, c4, q⟩, rest⟩
  · intro acc ds σ₁ X₁ D Lc s' ⟨out, ha, q0, q⟩ IZ hM h0 hb hLX hx hr ⟨m, hn⟩
    rw [ha] at hr
    show wpAny _ C.A (PySem.assign (.Name y py) C.env (.ref D)) _ _ _
    refine wpAny_assign_Name (store2 (C := C.plus Lc) ok.plus IZ hk q0 hr fun h2 t2 I2 x2 _ _ same => ?_)
    have hLc : h2.get? Lc = s'.heap.get? Lc := same Lc (fun q => hM (q ▸ ok.lm)) fun z c e q => hM (q ▸ ok.cm _ _ e)
    obtain ⟨oL, esL, epL, eL, rL⟩ := hn
    refine ⟨m, ⟨oL, esL, epL, hLc.trans eL, rL⟩, fun h3 sb => ?_⟩
    obtain ⟨J, dat⟩ := Inv.letgo ok I2 hM h0 hb sb
    have hX1 : X₁ Lc := IZ.mx _ (.inr rfl)
    refine ⟨.next, _, _, q, J, rfl, ?_⟩
    have x0 := hx s'.heap (Heap.SameBut.refl ..)
    refine ⟨fun a o e n => ?_, x0.grow⟩
    have e1 := x0.keep a o e n
    have n1 := x0.not_in e n
    by_cases hL : a = Lc
    · subst hL
      rcases hLX with z | z
      · exact absurd z n
      · rw [z] at e; cases e
    · exact (sb.2 a hL).trans (x2.keep a o e1 fun z => n1 ⟨z, hL⟩)
end
end Mine
end
section
namespace Mine
section
variable {C : Cx} {σ σc : St} {s s₂ : Shared} {X X₂ : Addr → Prop} {R : Exc → St → Prop}
theorem compTurn_dict1 (kx vx target iter : Expr) (scope : Scope) (pos : Pos) (it : Value) (D : Addr) (env : Env) :
    compTurn (.DictComp kx vx [⟨target, iter, [], 0⟩] scope pos) 0 it (.ref D) env = (standAt iter.pos >>= fun _ => pyNext it >>= fun r => match r with
      | none => pure (.done .next)
      | some v => letOwnedTupleGo target it v >>= fun _ => assign target env v >>= fun _ => emD kx vx env D >>= fun _ =>
          again (.compLoop (.DictComp kx vx [⟨target, iter, [], 0⟩] scope pos) 0 it (.ref D) env)) := by rfl

def DcT (C : Cx) (scope : Scope) (target kx vx : Expr) (σ : St) (ds : List PV) (ks : List Str) (es : List PV) : Prop :=
  (ds.length ≤ 16777216 ∧ ks.Nodup) ∧ (ks.length = ds.length ∧ es.length = ds.length) ∧ ∃ σc, CompVars scope σ σc ∧ ∀ (k : Nat) (d : PV) (x : Str) (e : PV), ds[k]? = some d → ks[k]? = some x → es[k]? = some e → ∀ C', CompOf C scope C' → ∃ σ', Bind C' target d σc σ' ∧ TE C' kx σ' (fun kv σ₁ => kv = .str x ∧ TE C' vx σ₁ (fun v _ => v = e) fun _ _ => False) fun _ _ => False
theorem dc_acc {scope : Scope} {target kx vx : Expr} {ds es : List PV} {ks : List Str} (h : DcT C scope target kx vx σ ds ks es) : ∃ acc : Nat → PV, ∃ σc, CompVars scope σ σc ∧ ((dctObj [] 0 = lstObj [] 0 ∧ acc 0 = .list []) ∨ (dctObj [] 0 = dctObj [] 0 ∧ acc 0 = .dict [] [])) ∧
    (∀ k d, ds[k]? = some d → ∀ C', CompOf C scope C' → ∃ σ', Bind C' target d σc σ' ∧ EmitT C' (emD kx vx) σ' (acc k) (acc (k + 1))) ∧ acc ds.length = .dict ks es := by
  obtain ⟨⟨h1, h1b⟩, ⟨h2, h2b⟩, σc, h3, h4⟩ := h
  refine ⟨fun k => .dict (ks.take k) (es.take k), σc, h3, .inr ⟨rfl, by simp⟩, fun k d hd C' cf => ?_, by dsimp only; rw [← h2, List.take_length, h2, ← h2b, List.take_length]⟩
  have hds := (List.getElem?_eq_some_iff.mp hd).1
  have hk : k < es.length := by rw [h2b]; exact hds
  have hk2 : k < ks.length := by rw [h2]; exact hds
  obtain ⟨σ', b, t⟩ := h4 k d ks[k] es[k] hd (List.getElem?_eq_getElem hk2) (List.getElem?_eq_getElem hk) C' cf
  refine ⟨σ', b, ?_⟩
  have e : es.take (k + 1) = es.take k ++ [es[k]] := by rw [List.take_succ, List.getElem?_eq_getElem hk]; rfl
  have e' : ks.take (k + 1) = ks.take k ++ [ks[k]] := by rw [List.take_succ, List.getElem?_eq_getElem hk2]; rfl
  dsimp only
  rw [e, e']
  refine emit_dict t (h1b.sublist (List.take_sublist _ _)) (fun hm => ?_) (by rw [List.length_take]; omega)
  have nd : (ks.take (k + 1)).Nodup := h1b.sublist (List.take_sublist _ _)
  rw [e', List.nodup_append] at nd
  exact nd.2.2 _ hm _ (by simp) rfl

theorem TE.dictcomp {kx vx target iter : Expr} {scope : Scope} {pos : Pos} {Q : PV → St → Prop} (ok : C.Ok) (hh : C.hd = none) (hs : ∀ x, foldedSetIterable iter C.env x = pure x) (Sc : CompScope C scope)
    (h : TI C iter target σ (fun ds σ₁ => ∃ ks es, DcT C scope target kx vx σ₁ ds ks es ∧ Q (.dict ks es) σ₁) R) : TE C (.DictComp kx vx [⟨target, iter, [], 0⟩] scope pos) σ Q R := fun s X I => by
  show wpAny _ C.A (comprehension (.DictComp kx vx [⟨target, iter, [], 0⟩] scope pos) scope C.env _ newDict false (eval iter C.env) none) _ _ s
  refine comp_whole (em := emD kx vx) (o0 := dctObj [] 0) (use := none) ok hh rfl hs Sc (.inr ⟨_, _, _, _, _, rfl⟩) (fun it D env => compTurn_dict1 kx vx target iter scope pos it D env)
    (fun Rr it a env s h0 h1 => codeAny_compStart_dict h0 (wpAny_mono h1 (fun _ _ y => y) fun _ _ y => y.elim)) (fun hq => wpAny_newObj_type hq)
    (Qf := fun acc ds σ₁ => ∃ ks es, acc ds.length = .dict ks es ∧ Q (.dict ks es) σ₁) (fun s X I => wpAny_mono (h s X I) (fun xv s₁ h₁ => wpAny_mono h₁ (fun it s₂ ⟨ds, σ', X', I', fp, wr, es, vs, T, e, ⟨ko, out, lc, q⟩, rest⟩ => ?_) fun _ _ y => y) fun _ _ y => y) I ?_
  · obtain ⟨acc, σc, c1, c2, c3, c4⟩ := dc_acc lc
    exact ⟨ds, σ', X', I', fp, wr, es, vs, T, e, ⟨acc, σc, c1, c2, c3, ko, out, c4, q⟩, rest⟩
  · intro acc ds σ₁ X₁ D Lc s' ⟨ko, out, ha, q⟩ IZ hM h0 hb hLX hx hr ⟨m, hn⟩
    refine ⟨m, hn, fun h' sb => ?_⟩
    obtain ⟨J, dat⟩ := Inv.letgo ok IZ hM h0 hb sb
    rw [ha] at hr
    exact ⟨.dict ko out, σ₁, _, q, J, dat hr, hx h' sb⟩

theorem T1.assign_dictcomp {y : Str} {kx vx target iter : Expr} {scope : Scope} {py pos spos : Pos} {Q : Out → St → Prop} (ok : C.Ok) (hh : C.hd = none) (hs : ∀ x, foldedSetIterable iter C.env x = pure x) (Sc : CompScope C scope)
    (hsw : swapsWith (.DictComp kx vx [⟨target, iter, [], 0⟩] scope pos) (some (.Name y py)) spos.line C.env = pure true) (hk : canStore C y)
    (h : TI C iter target σ (fun ds σ₁ => ∃ ks es, DcT C scope target kx vx σ₁ ds ks es ∧ σ₁.own ≠ some y ∧ Q .next (σ₁.put y (.dict ks es))) R) : T1 C (.Assign [.Name y py] (.DictComp kx vx [⟨target, iter, [], 0⟩] scope pos) spos) σ Q R := fun s X I => by
  rw [exec_Assign_Name_used _ _ _ _ hsw]
  refine wpAny_bind (wpAny_standAt (wpAny_bind ?_))
  show wpAny _ C.A (do let _ ← comprehension (.DictComp kx vx [⟨target, iter, [], 0⟩] scope pos) scope C.env _ newDict false (eval iter C.env) (some (PySem.assign (.Name y py) C.env))) _ _ s
  refine wpAny_bind (wpAny_mono (comp_whole (em := emD kx vx) (o0 := dctObj [] 0) (use := some (PySem.assign (.Name y py) C.env)) (Q := fun _ s' => EvS C Q X s.heap .next s') ok hh rfl hs Sc (.inr ⟨_, _, _, _, _, rfl⟩) (fun it D env => compTurn_dict1 kx vx target iter scope pos it D env)
    (fun Rr it a env s h0 h1 => codeAny_compStart_dict h0 (wpAny_mono h1 (fun _ _ y => y) fun _ _ y => y.elim)) (fun hq => wpAny_newObj_type hq)
    (Qf := fun acc ds σ₁ => ∃ ks es, acc ds.length = .dict ks es ∧ σ₁.own ≠ some y ∧ Q .next (σ₁.put y (.dict ks es))) (fun s X I => wpAny_mono (h s X I) (fun xv s₁ h₁ => wpAny_mono h₁ (fun it s₂ ⟨ds, σ', X', I', fp, wr, es, vs, T, e, ⟨ko, out, lc, q⟩, rest⟩ => ?_) fun _ _ y => y) fun _ _ y => y) I ?_) (fun _ s' q => wpAny_pure (wpAny_pure q)) fun _ _ y => y)
  · obtain ⟨acc, σc, c1, c2, c3, c4⟩ := dc_acc lc
    exact ⟨ds, σ', X', I', fp, wr, es, vs, T, e, ⟨acc, σc, c1, c2, c3, ko, out, c4, q⟩, rest⟩
  · intro acc ds σ₁ X₁ D Lc s' ⟨ko, out, ha, q0, q⟩ IZ hM h0 hb hLX hx hr ⟨m, hn⟩
    rw [ha] at hr
    show wpAny _ C.A (PySem.assign (.Name y py) C.env (.ref D)) _ _ _
    refine wpAny_assign_Name (store2 (C := C.plus Lc) ok.plus IZ hk q0 hr fun h2 t2 I2 x2 _ _ same => ?_)
    have hLc : h2.get? Lc = s'.heap.get? Lc := same Lc (fun q => hM (q ▸ ok.lm)) fun z c e q => hM (q ▸ ok.cm _ _ e)
    obtain ⟨oL, esL, epL, eL, rL⟩ := hn
    refine ⟨m, ⟨oL, esL, epL, hLc.trans eL, rL⟩, fun h3 sb => ?_⟩
    obtain ⟨J, dat⟩ := Inv.letgo ok I2 hM h0 hb sb
    refine ⟨.next, _, _, q, J, rfl, ?_⟩
    have x0 := hx s'.heap (Heap.SameBut.refl ..)
    refine ⟨fun a o e n => ?_, x0.grow⟩
    have e1 := x0.keep a o e n
    have n1 := x0.not_in e n
    by_cases hL : a = Lc
    · subst hL
      rcases hLX with z | z
      · exact absurd z n
      · rw [z] at e; cases e
    · exact (sb.2 a hL).trans (x2.keep a o e1 fun z => n1 ⟨z, hL⟩)
end
end Mine
end
section
namespace Mine
section
variable {w : World} {A : Around} {s : Shared} {X : Addr → Prop} {K : PV → Prop}
/-- len -/
def lenW (d : PV) (K : Int → Prop) : Prop := match d with
  | .str x => x.length ≤ 16777216 ∧ K (x.length : Nat)
  | .bytes x => x.length ≤ 16777216 ∧ K (x.length : Nat)
  | .list x => x.length ≤ 16777216 ∧ K (x.length : Nat)
  | _ => False
theorem lenW_sound {d : PV} {v : Value} {K : Int → Prop} (r : Rep w.params s.heap X d v) (h : lenW d K) : Pur w A (call (.builtin "len") [v]) s X fun d => ∃ i, d = .int i ∧ K i := by
  unfold lenW at h
  split at h
  · simp only [Rep] at r; obtain ⟨t, rfl⟩ := r
    exact Pur.tok ⟨_, rfl, h.2⟩ fun E Q k => PyProof.Rows.len_str (by omega) (k _ _ fun _ _ => rep_int _ _)
  · simp only [Rep] at r; obtain ⟨t, rfl⟩ := r
    exact Pur.tok ⟨_, rfl, h.2⟩ fun E Q k => W.len_bytes (by simp; omega) (by simpa using k _ _ fun _ _ => rep_int _ _)
  · simp only [Rep] at r
    obtain ⟨a, vs, n, rfl, ea, na, rs⟩ := r
    have hl := Reps.length rs
    exact Pur.tok ⟨_, rfl, h.2⟩ fun E Q k => Calls.call_len_list (isList_of ea) (by simp [hl]; omega) (by simpa [hl] using k _ _ fun _ _ => rep_int _ _)
  · exact h.elim

/-- str of a whole number -/
theorem strInt_sound {i : Int} {v : Value} (r : Rep w.params s.heap X (.int i) v) (hi : i.natAbs.log2 < 1920) (h : K (.str (Str.ofString (toString i)))) : Pur w A (call (.type "str") [v]) s X K := by
  simp only [Rep] at r; obtain ⟨t, rfl⟩ := r
  exact Pur.tok h fun E Q k => PySem.P.str_of_int hi (k _ _ fun _ _ => rep_str _ _)

/-- bytes([..]) -/
def intsOf : List PV → Option (List Int)
  | [] => some []
  | .int i :: r => (intsOf r).map (i :: ·)
  | _ => none
theorem intsOf_are {P : Params} {h : Heap} : ∀ {ds : List PV} {vs : List Value} {ns : List Int}, intsOf ds = some ns → Reps P h X ds vs → IntsAre vs ns
  | [], _, _, e, r => by
    simp only [Reps] at r; subst r
    simp only [intsOf, Option.some.injEq] at e; subst e
    exact .nil
  | d :: ds, _, _, e, r => by
    cases d <;> simp only [intsOf] at e <;> try cases e
    simp only [Reps, Rep] at r
    obtain ⟨v, q, rfl, ⟨t, rfl⟩, rs⟩ := r
    cases hi : intsOf ds with
    | none => rw [hi] at e; cases e
    | some ms =>
      rw [hi] at e
      simp only [Option.map_some, Option.some.injEq] at e
      subst e
      exact .cons _ _ (intsOf_are hi rs)
theorem bytesInts_sound {ds : List PV} {ns : List Int} {v : Value} (hh : A.handled = none) (hi : intsOf ds = some ns) (hr : ∀ n ∈ ns, 0 ≤ n ∧ n < 256) (hz : ds.length ≤ 16777216) (r : Rep w.params s.heap X (.list ds) v) (h : K (.bytes (ns.map fun n => n.toNat.toUInt8))) : Pur w A (call (.type "bytes") [v]) s X K := by
  simp only [Rep] at r
  obtain ⟨a, vs, n, rfl, ea, na, rs⟩ := r
  refine fun E => call_bytes_ints (isList_of ea) (intsOf_are hi rs) hr (by rw [Reps.length rs, sizeLine_eq]; exact hz) hh fun h' t k hk => ⟨_, h', k, h, rfl, hk, ?_⟩
  have e : byteArr ns = (ns.map fun n => n.toNat.toUInt8).toArray := by simp [byteArr]
  rw [e]
  exact rep_bytes _ _
end
end Mine
end
section
open Builtin Builtin.Str
namespace Mine
theorem enc_entry (x : Str) (t u : Tok) : «str.encode» ⟨[.str x t, .str (Str.ofString "utf-8") u], []⟩ = (do ret (← _codecs.encodeRoad "str.encode" (.str x t) x (Str.ofString "utf-8") none)) := by kernel_rfl
theorem enc_entry8 (x : Str) (t u : Tok) : «str.encode» ⟨[.str x t, .str (Str.ofString "utf8") u], []⟩ = (do ret (← _codecs.encodeRoad "str.encode" (.str x t) x (Str.ofString "utf8") none)) := by kernel_rfl
theorem enc8 (x : Str) (t : Tok) : _codecs.encodeRoad "str.encode" (.str x t) x (Str.ofString "utf8") none = (do mkBytes (← _codecs.encodeNarrow "str.encode" _codecs.utf8Codec none (.str x t) x)) := by kernel_rfl
theorem dec_empty (t u : Tok) : «bytes.decode» ⟨[.bytes ([] : List UInt8).toArray t, .str (Str.ofString "utf-8") u], []⟩ = (rule "bytes.decode.empty" >>= fun _ => retStr Str.empty) := by kernel_rfl
theorem dec_entry (c : UInt8) (cs : List UInt8) (t u : Tok) : «bytes.decode» ⟨[.bytes (c :: cs).toArray t, .str (Str.ofString "utf-8") u], []⟩ = (mkStr (Str.ofString "utf-8") >>= fun _ => mkStr (Str.ofString "utf-8") >>= fun e => mkStr (Str.ofString "bytes.decode") >>= fun d =>
    call (.builtin "_codecs.decode.text") [.bytes (c :: cs).toArray t, e, .none, d] >>= fun v => ret v) := by kernel_rfl
theorem args_enc2 (a b : Value) : argsOk "str.encode" ⟨[a, b], []⟩ := by unfold argsOk; kernel_rfl
theorem args_dec2 (a b : Value) : argsOk "bytes.decode" ⟨[a, b], []⟩ := by unfold argsOk; kernel_rfl

/-- the octets of a text -/
def EncIs (x : Str) (b : List UInt8) : Prop := ∀ t, _codecs.encodeNarrow "str.encode" _codecs.utf8Codec none (.str x t) x = pure b.toArray
def DecIs (b : List UInt8) (x : Str) : Prop := x.length ≤ 16777216 ∧ ((b = [] ∧ x = Str.empty) ∨ ∃ c cs n, b = c :: cs ∧ ∀ id, _codecs.runDecoder id _codecs.utf8Decoder none true (c :: cs).toArray 0 [] = pure (x.cps, n))
section
variable {w : World} {A : Around} {s : Shared} {X : Addr → Prop} {K : PV → Prop}
theorem encW_sound {x : Str} {b : List UInt8} {c : Str} {v u : Value} (hc : c = Str.ofString "utf-8" ∨ c = Str.ofString "utf8") (rx : Rep w.params s.heap X (.str x) v) (ru : Rep w.params s.heap X (.str c) u) (he : EncIs x b) (hz : b.length ≤ 16777216) (h : K (.bytes b)) : Pur w A (call (.builtin "str.encode") [v, u]) s X K := by
  simp only [Rep] at rx ru
  obtain ⟨t, rfl⟩ := rx
  obtain ⟨tu, rfl⟩ := ru
  refine Pur.tok h fun E Q k => ?_
  refine call_meets (S := fun _ R s => ∀ t', R (.ok (.ret (.bytes b.toArray t'))) { s with toks := s.toks + 1 }) F.slot_str_encode (typeIs_str _ _ _) F.entry_str_encode (args_enc2 _ _) (.of_wp fun prog w A R s hS => ?_) fun t' => k _ _ fun _ _ => rep_bytes _ _
  have e : «str.encode» ⟨[.str x t, .str c tu], []⟩ = (do ret (← mkBytes b.toArray)) := by
    rcases hc with rfl | rfl
    · rw [enc_entry, encodeRoad_utf8, he t]; rfl
    · rw [enc_entry8, enc8, he t]; rfl
  rw [e]
  exact wpAny_bind (wpAny_mkBytes (wpAny_pure ⟨_, rfl, hS _⟩) (by rw [sizeLine_eq]; simpa using hz))

theorem decW_sound {x : Str} {b : List UInt8} {v u : Value} (rx : Rep w.params s.heap X (.bytes b) v) (ru : Rep w.params s.heap X (.str (Str.ofString "utf-8")) u) (hd : DecIs b x) (h : K (.str x)) : Pur w A (call (.builtin "bytes.decode") [v, u]) s X K := by
  simp only [Rep] at rx ru
  obtain ⟨t, rfl⟩ := rx
  obtain ⟨tu, rfl⟩ := ru
  obtain ⟨hz, hd⟩ := hd
  refine Pur.tok h fun E Q k => ?_
  refine call_meets (S := fun _ R s => ∀ t' k', R (.ok (.ret (.str x t'))) { s with toks := k' }) FB.slot_bytes_decode (W.typeIs_bytes _ _ _) FB.entry_bytes_decode (args_dec2 _ _) (.of_wp fun prog w A R s hS => ?_) fun t' k' => k _ _ fun _ _ => rep_str _ _
  rcases hd with ⟨rfl, rfl⟩ | ⟨c, cs, n, rfl, hd⟩
  · rw [dec_empty]
    refine wpAny_bind (wpAny_rule ?_)
    exact wpAny_bind (wpAny_mkStr (wpAny_pure ⟨_, rfl, hS _ _⟩) (by rw [sizeLine_eq]; exact hz))
  · rw [dec_entry]
    refine wpAny_bind (wpAny_mkStr ?_ (by decide))
    refine wpAny_bind (wpAny_mkStr ?_ (by decide))
    refine wpAny_bind (wpAny_mkStr ?_ (by decide))
    exact wpAny_bind (call_function_meets KBd.kind_text KBd.plain_text KBd.entry_text (KBd.args_text _ _ _ _) (KBd.meets_text hd) ⟨by rw [sizeLine_eq]; exact hz, wpAny_pure ⟨_, rfl, hS _ _⟩⟩)
end

theorem enc_texts : EncIs (Str.ofString "") [] ∧ EncIs (Str.ofString "a") [97] ∧ EncIs (Str.ofString "aä") [97, 195, 164] ∧ EncIs (Str.ofString "aä\x00") [97, 195, 164, 0] :=
  ⟨fun t => by kernel_rfl, fun t => by kernel_rfl, fun t => by kernel_rfl, fun t => by kernel_rfl⟩
theorem enc_names : EncIs (Str.ofString "b") [98] ∧ EncIs (Str.ofString "c") [99] ∧ EncIs (Str.ofString "d") [100] ∧ EncIs (Str.ofString "e") [101] ∧ EncIs (Str.ofString "f") [102] :=
  ⟨fun t => by kernel_rfl, fun t => by kernel_rfl, fun t => by kernel_rfl, fun t => by kernel_rfl, fun t => by kernel_rfl⟩
theorem dec_texts : DecIs [] (Str.ofString "") ∧ DecIs [97] (Str.ofString "a") ∧ DecIs [97, 195, 164] (Str.ofString "aä") ∧ DecIs [97, 195, 164, 0] (Str.ofString "aä\x00") :=
  ⟨⟨by decide, .inl ⟨rfl, by decide⟩⟩, ⟨by decide, .inr ⟨_, _, 1, rfl, fun id => by kernel_rfl⟩⟩, ⟨by decide, .inr ⟨_, _, 3, rfl, fun id => by kernel_rfl⟩⟩, ⟨by decide, .inr ⟨_, _, 4, rfl, fun id => by kernel_rfl⟩⟩⟩
end Mine
end
section
open Builtin Builtin.Int
namespace Mine
section
variable {w : World} {A : Around} {s : Shared} {X : Addr → Prop} {K : PV → Prop}
theorem args_tbs (a b c d : Value) : argsOk "int.to_bytes" ⟨[a, b, c], [("signed", d)]⟩ := by unfold argsOk; kernel_rfl

/-- k octets, the least first, signed -/
theorem toBytesS {x : Int} {t u v : Tok} {k : Nat} {E : Value → Shared → Prop} {Q : Value → Shared → Prop} (hk : k ≤ 8) (hb : x = 0 ∨ intBits (if x < 0 then -x - 1 else x) + 1 ≤ 8 * k) (h : ∀ t' k', Q (.bytes (KTBy.low x k).toArray t') { s with toks := k' }) :
    wpAny (model prog w) A (call (.builtin "int.to_bytes") [.int x t, .int k u, .str (Str.ofString "little") v] [(Str.ofString "signed", .bool true)]) Q E s := by
  refine wpAny_call_entry_kw KTBy.slot (typeIs_int s x t) KTBy.entry ?_ (args_tbs _ _ _ _)
  show wpAny _ _ (Builtin.Int.intOfSelf (.int x t) >>= fun y => _) _ _ s
  refine wpAny_bind (wpAny_of_eq (a := x) rfl ?_)
  show wpAny _ _ (Builtin.Int.intBindNamed "to_bytes" ["length", "byteorder", "signed"] 0 2 [.int (k : Int) u, .str (PySem.Str.ofString "little") v] [("signed", .bool true)] >>= fun l => _) _ _ s
  refine wpAny_bind (wpAny_of_eq (a := [some (.int (k : Int) u), some (.str (PySem.Str.ofString "little") v), some (.bool true)]) (by kernel_rfl) ?_)
  show wpAny _ _ (Builtin.Int.intIndex "int.to_bytes" (.int (k : Int) u) >>= fun n => _) _ _ s
  refine wpAny_bind (wpAny_of_eq (a := (k : Int)) rfl ?_)
  refine KTBy.if_not (by show (decide ((k : Int) < -(2 ^ 63 : Int)) || decide ((k : Int) ≥ 2 ^ 63)) = false; rw [decide_eq_false (show ¬ ((k : Int) < -(2 ^ 63 : Int)) by omega), decide_eq_false (show ¬ ((k : Int) ≥ 2 ^ 63) by omega)]; rfl) ?_
  refine wpAny_bind (wpAny_of_eq (a := PySem.Str.ofString "little") (by kernel_rfl) ?_)
  refine wpAny_bind (wpAny_of_eq (a := true) (by kernel_rfl) ?_)
  refine wpAny_bind (wpAny_of_eq (a := true) (by kernel_rfl) ?_)
  refine wpAny_ite_false (decide_eq_false (show ¬ ((k : Int) < 0) by omega)) ?_
  refine wpAny_ite_false (decide_eq_false (show ¬ ((k : Int) > 2 ^ 63 - 1 - 33) by omega)) ?_
  refine wpAny_ite_false (decide_eq_false (show ¬ ((k : Int) > (sizeLine : Int)) by rw [sizeLine_eq]; omega)) ?_
  refine KTBy.if_not (by show (decide (x < 0) && !true) = false; rw [Bool.not_true, Bool.and_false]) ?_
  refine KTBy.if_not (by
    show ((x != 0) && decide (((intBits (if x < 0 then -x - 1 else x) : Nat) : Int) + 1 > 8 * (k : Int))) = false
    rcases hb with rfl | hb
    · rfl
    · rw [decide_eq_false (by omega), Bool.and_false]) ?_
  exact wpAny_bind (wpAny_mkBytes (wpAny_pure ⟨_, rfl, h _ _⟩) (by show (KTBy.low x (Int.toNat (k : Int))).length ≤ sizeLine; rw [KTBy.low_length, Int.toNat_natCast, sizeLine_eq]; omega))
end
end Mine
end
section
open Builtin Builtin.Int
namespace Mine
/-- octets, the least first -/
def octVal : List UInt8 → Nat
  | [] => 0
  | b :: r => b.toNat + 256 * octVal r
def octNeg (b : List UInt8) : Bool := b.reverse.head?.any (· ≥ 128)
def octInt (sg : Bool) (b : List UInt8) : Int := if sg && octNeg b then (octVal b : Int) - 256 ^ b.length else octVal b
theorem octVal_fold : ∀ (b : List UInt8), b.reverse.foldl (fun (acc : Nat) (b : UInt8) => acc * 256 + b.toNat) 0 = octVal b
  | [] => rfl
  | b :: r => by
    rw [List.reverse_cons, List.foldl_append, octVal_fold r]
    show octVal r * 256 + b.toNat = b.toNat + 256 * octVal r
    omega
theorem octVal_lt : ∀ (b : List UInt8), octVal b < 256 ^ b.length
  | [] => by decide
  | b :: r => by
    have h := octVal_lt r
    have hb := b.toNat_lt
    rw [List.length_cons, Nat.pow_succ]
    show b.toNat + 256 * octVal r < _
    have h2 : (octVal r + 1) * 256 ≤ 256 ^ r.length * 256 := Nat.mul_le_mul_right _ h
    omega
section
variable {w : World} {A : Around} {s : Shared} {X : Addr → Prop} {K : PV → Prop} {M : Model}
theorem grownI {n : Int} {Q : Value → Shared → Prop} {E : Value → Shared → Prop} (hn : n.natAbs ≤ 2 ^ 64) (h : Q (.int n s.toks) { s with toks := s.toks + 1 }) : wpAny M A (mkIntGrown n) Q E s := by
  unfold mkIntGrown
  have hl : ¬ (n.natAbs.log2 ≥ bitsLine) := by
    have hb : bitsLine = 134217728 := by first | rfl | decide
    by_cases hz : n.natAbs = 0
    · rw [hz, hb]; decide
    · have h1 := (Nat.log2_lt (k := 65) hz).mpr (by omega)
      omega
  rw [if_neg hl]
  exact wpAny_mkInt h
theorem octInt_abs (sg : Bool) {b : List UInt8} (hl : b.length ≤ 8) : (octInt sg b).natAbs ≤ 2 ^ 64 := by
  have h1 := octVal_lt b
  have h2 : 256 ^ b.length ≤ 256 ^ 8 := Nat.pow_le_pow_right (by decide) hl
  have h3 : ((256 ^ b.length : Nat) : Int) = (256 : Int) ^ b.length := by push_cast; rfl
  unfold octInt
  split <;> omega
theorem tree_signed {b : List UInt8} {t u : Tok} {sg : Bool} {P : Fin → Shared → Prop} {E : Value → Shared → Prop} (hl : b.length ≤ 8) (h : P (.done (.ret (.int (octInt sg b) s.toks))) { s with toks := s.toks + 1 }) :
    wpAny M A (Builtin.«int.from_bytes» ⟨[.type "int", .bytes b.toArray t, .str (PySem.Str.ofString "little") u], [("signed", .bool sg)]⟩) P E s := by
  unfold Builtin.«int.from_bytes»
  refine wpAny_bind (wpAny_of_eq (a := true) KFB.type_int ?_)
  refine KFB.if_not rfl ?_
  refine wpAny_bind (wpAny_of_eq (a := true) F.conv_sub_int ?_)
  refine KFB.if_not rfl ?_
  refine wpAny_bind (wpAny_of_eq (a := [some (.bytes b.toArray t), some (.str (PySem.Str.ofString "little") u), some (.bool sg)]) (by kernel_rfl) ?_)
  refine wpAny_bind (wpAny_of_eq (a := PySem.Str.ofString "little") (by kernel_rfl) ?_)
  refine wpAny_bind (wpAny_of_eq (a := sg) (by cases sg <;> kernel_rfl) ?_)
  refine wpAny_bind (wpAny_of_eq (a := true) (by kernel_rfl) ?_)
  refine wpAny_bind (wpAny_of_eq (a := b.toArray) rfl ?_)
  show wpAny _ _ (mkIntGrown (if (sg && b.reverse.head?.any (· ≥ 128)) = true then b.reverse.foldl (fun (acc : Int) (b : UInt8) => acc * 256 + (b.toNat : Int)) ((0 : Nat) : Int) - 256 ^ b.reverse.length else b.reverse.foldl (fun (acc : Int) (b : UInt8) => acc * 256 + (b.toNat : Int)) ((0 : Nat) : Int)) >>= fun v => _) _ _ _
  rw [KFB.foldI_eq, octVal_fold, List.length_reverse]
  refine wpAny_bind (grownI (octInt_abs sg hl) ?_)
  refine KFB.if_so (by decide +kernel) ?_
  exact wpAny_bind (wpAny_pure (wpAny_pure h))
theorem check_fbk {b : Array UInt8} {t u : Tok} {o : PySem.Str} {d : Value} : checkBoundCall "int.from_bytes" ⟨[.type "int", .bytes b t, .str o u], [("signed", d)]⟩ = pure () := by first | kernel_rfl | rfl
theorem fromBytes {x : Addr} {b : List UInt8} {t u : Tok} {sg : Bool} {Q : Value → Shared → Prop} {E : Value → Shared → Prop} (ho : s.heap.get? x = some KFB.bound) (hl : b.length ≤ 8) (h : ∀ t' k, Q (.int (octInt sg b) t') { s with toks := k }) :
    wpAny (model prog w) A (call (.ref x) [.bytes b.toArray t, .str (PySem.Str.ofString "little") u] [("signed", .bool sg)]) Q E s := by
  refine wpAny_call (codeAny_of_tree ?_)
  show wpAny _ A.in1 (callAny (.ref x) ⟨[.bytes b.toArray t, .str (PySem.Str.ofString "little") u], [("signed", .bool sg)]⟩) _ _ s
  simp only [callAny]
  refine wpAny_bind (wpAny_load ho ?_)
  simp only [KFB.bound, show (Value.type "builtin_function_or_method" == Value.type "method" || Value.type "builtin_function_or_method" == Value.type "builtin_function_or_method" || Value.type "builtin_function_or_method" == Value.type "method-wrapper") = true by decide, if_true]
  refine KFB.if_so (by decide) ?_
  refine wpAny_bind (wpAny_of_eq (a := ()) check_fbk ?_)
  refine wpAny_bind (wpAny_pure (wpAny_pure ?_))
  exact ⟨KFB.quiet_fb, codeAny_builtin KFB.entry_fb (tree_signed hl (h _ _))⟩
end
end Mine
end
section
open Builtin Builtin.Int
namespace Mine
section
variable {C : Cx} {σ : St} {R : Exc → St → Prop}
theorem getmInt {w : World} {A : Around} {s : Shared} {E : Value → Shared → Prop} {K : Frag} {pl : Sem Bool} {Q : Value × List Value → Shared → Prop} (X : K.In s.heap)
    (e : findCls K (.type "int") (.type "type") (PySem.Str.ofString "from_bytes") = some (.get (.builtin "classmethod_descriptor.__get__") (.builtin "int.from_bytes") .none (.type "int")))
    (h : ∀ k, Q (.ref s.heap.objs.size, []) { s with heap := s.heap.push KFB.bound, toks := k }) :
    wpAny (model prog w) A (getMethod (.type "int") (PySem.Str.ofString "from_bytes") pl) Q E s := by
  have hstub : opaqueClassAbove (.type "int") = pure none := by unfold opaqueClassAbove; dsimp only; rw [show Manifest.isStub "int" = false by decide +kernel]; rfl
  have ht : typeOf (.type "int") = pure (.type "type") := by first | rfl | kernel_rfl
  have L0 : Looks (model prog w) s.heap (typeOf (.type "int")) (.type "type") := Looks.of_pure ht
  have hg : findIn K (.type "type") "__getattribute__" = some (some (.builtin "type.__getattribute__")) := type_tga
  unfold getMethod specialOf
  refine wpAny_bind (wpAny_bind (L0.here ((looks_findIn X hg).here ?_)))
  dsimp only
  rw [if_pos canon_tga]
  refine wpAny_bind (wpAny_mono (Q := fun v => Q (v, [])) (E := E) ?_ (fun _ _ z => wpAny_pure z) fun _ _ z => z)
  have LO : Looks (model prog w) s.heap (opaqueClassAbove (.type "int")) none := Looks.of_pure hstub
  refine cls_open X LO L0 hg (looks_hook X (r := none) (by rfl)) (by show subIn K _ _ = _; rfl) e ?_
  show wpAny _ _ (holding [.builtin "int.from_bytes"] (call (.builtin "classmethod_descriptor.__get__") [.builtin "int.from_bytes", .none, .type "int"]) >>= fun v => ret v) _ _ _
  refine wpAny_bind (wpAny_holding (wpAny_call_entry KFB.slot_get KFB.type_fb KFB.entry_get (KFB.run_get ⟨_, rfl, wpAny_pure (wpAny_pure (h _))⟩) (KFB.args_get _ _ _)))

theorem callWith_bk {M : Model} {A : Around} {E : Value → Shared → Prop} {s : Shared} {pos : Pos} {u : Addr} {first : List Value} {args : List (Bool × Sem Value)} {kws : List (Option Str × Sem Value)} {Q : Value → Shared → Prop} (hplain : args.any (·.1) = false) (hkw : kws.any (·.1.isNone) = false)
    (h : wpAny M A (evalArgs (.ref u) true args kws) (fun x s₁ => KFB.StandsAt u s₁.heap ∧ wpAny M A (call (.ref u) (first ++ x.pos) x.kw) Q E s₁) E s) : wpAny M A (callWith pos (.ref u) first args kws) Q E s := by
  unfold callWith
  refine wpAny_bind (wpAny_holding (wpAny_mono h (fun x s₁ h₁ => wpAny_bind (wpAny_standAt ?_)) fun _ _ x => x))
  obtain ⟨ho, hcall⟩ := h₁
  simp only [hplain, hkw, Bool.or_false]
  refine wpAny_bind (m := keeperOf (.ref u)) ?_
  unfold keeperOf
  refine wpAny_bind (wpAny_load ho ?_)
  simp only [KFB.bound, show (Value.type "builtin_function_or_method" != Value.type "method") = true by decide, show (Value.type "builtin_function_or_method" == Value.type "builtin_function_or_method" || Value.type "builtin_function_or_method" == Value.type "method-wrapper") = true by decide, if_true]
  refine wpAny_pure ?_
  exact wpAny_bind (wpAny_mono hcall (fun r s₂ hr => wpAny_bind (wpAny_holding (wpAny_point (wpAny_pure hr)))) fun _ _ x => x)
theorem Ext.stands {X X' : Addr → Prop} {h h' : Heap} {x : Addr} {o : Obj} (e : Ext X X' h h') (q : h.get? x = some o) (n : ¬ X x) : h'.get? x = some o ∧ ¬ X' x :=
  ⟨e.keep x o q n, fun y => (e.grow x y).elim n fun z => by rw [q] at z; cases z⟩

/-- int.from_bytes(e1, e2, signed=e3) -/
theorem TE.fromBytes {e1 e2 e3 : Expr} {p ap pos kp : Pos} {Q : PV → St → Prop} (ok : C.Ok) (k : C.env.kindOf "int" = some .globalImplicit) (eg : C.gl "int" = some (.type "int")) (hline : (ap.endLine == pos.line) = true)
    (hbase : ∀ env, attributeBase (.Name "int" p) (Str.ofString "from_bytes") env (eval (.Name "int" p) env) = eval (.Name "int" p) env)
    (fc : findCls C.K (.type "int") (.type "type") (PySem.Str.ofString "from_bytes") = some (.get (.builtin "classmethod_descriptor.__get__") (.builtin "int.from_bytes") .none (.type "int")))
    (ha : [e1, e2].all notStar = true)
    (h : TA C [e1, e2] σ (fun ds σ₁ => ∃ b, ds = [.bytes b, .str (Str.ofString "little")] ∧ b.length ≤ 8 ∧ TE C e3 σ₁ (fun g σ₂ => ∃ sg, g = .bool sg ∧ Q (.int (octInt sg b)) σ₂) R) R) :
    TE C (.Call (.Attribute (.Name "int" p) (Str.ofString "from_bytes") ap) [e1, e2] [⟨some (Str.ofString "signed"), e3, kp⟩] pos) σ Q R := fun s X I => by
  rw [arm_eval_Call, hbase]
  refine wpAny_bind (wpAny_Name (load_glob ok I.stay k eg ?_) (by decide))
  refine wpAny_bind (wpAny_standAt ?_)
  have hpl := plain_args ha pos C.env
  have hform : methodCallForm ([e1, e2].length + [(⟨some (Str.ofString "signed"), e3, kp⟩ : Keyword)].length) (backTo pos (starEach [e1, e2] C.env)) (backToKw pos (keywordEach [⟨some (Str.ofString "signed"), e3, kp⟩] C.env)) = true := by
    rw [List.any_eq_false] at hpl
    unfold methodCallForm
    rw [show (backTo pos (starEach [e1, e2] C.env)).all (fun x => !x.1) = true from List.all_eq_true.mpr fun y hy => by have := hpl y hy; simpa using this]
    rfl
  have hpos : methodCallPos true (.Name "int" p) C.env ap pos = pure pos := by unfold methodCallPos; simp [hline]
  unfold methodCall
  rw [hform]
  refine wpAny_bind (wpAny_holding (getmInt (ok.bs.frag.keeps I.stay) fc fun k => ?_))
  refine wpAny_bind (wpAny_of_eq hpos ?_)
  have I1 := I.step (h' := s.heap.push KFB.bound) (t := k) (push_keeps _ _)
  have nx : ¬ X s.heap.objs.size := I.fresh
  have e0 : (s.heap.push KFB.bound).get? s.heap.objs.size = some KFB.bound := by simp [Heap.get?, Heap.push]; rfl
  have x0 : Ext X X s.heap (s.heap.push KFB.bound) := Ext.of_keeps (push_keeps _ _)
  generalize s.heap.objs.size = x at nx e0
  refine callWith_bk hpl rfl ?_
  rw [List.all_cons, Bool.and_eq_true] at ha
  have hh := h pos _ X I1
  rw [starEach_plain ha.1] at hh ⊢
  refine evalArgs_kwB rfl (wpAny_mono hh (fun vs s₁ ⟨ds, σ₁, X₁, ⟨b, e, hl, q⟩, i, r, x1⟩ => ?_) fun _ _ y => ErP.of x0 y)
  obtain ⟨e1', n1⟩ := x1.stands e0 nx
  refine evalAll_cons (wpAny_bind (wpAny_mono (q s₁ X₁ i) (fun v s₂ ⟨d, σ₂, X₂, ⟨sg, eg', q2⟩, i2, r2, x2⟩ => wpAny_bind (wpAny_standAt (wpAny_pure (evalAll_nil ?_)))) fun _ _ y => ErP.of (x0.trans x1) y))
  obtain ⟨e2', n2⟩ := x2.stands e1' n1
  subst e eg'
  simp only [Reps, Rep] at r r2
  obtain ⟨v1, q1, rfl, ⟨t1, rfl⟩, v2, q3, rfl, ⟨t2, rfl⟩, rfl⟩ := r
  subst r2
  exact ⟨e2', Mine.fromBytes e2' hl fun t' k' => ⟨_, σ₂, X₂, q2, i2.tok _, rep_int _ _, (x0.trans x1).trans x2⟩⟩
end
end Mine
end
section
open Builtin Builtin.Int
namespace Mine
section
variable {C : Cx} {σ : St} {R : Exc → St → Prop}
/-- o.to_bytes(e1, e2, signed=e3) -/
theorem TE.toBytes {o e1 e2 e3 : Expr} {ap pos kp : Pos} {Q : PV → St → Prop} (hline : (ap.endLine == pos.line) = true)
    (hbase : ∀ env, attributeBase o (Str.ofString "to_bytes") env (eval o env) = eval o env)
    (ha : [e1, e2].all notStar = true)
    (h : TE C o σ (fun d σ₀ => ∃ i, d = .int i ∧ TA C [e1, e2] σ₀ (fun ds σ₁ => ∃ k : Nat, ds = [.int k, .str (Str.ofString "little")] ∧ k ≤ 8 ∧ TE C e3 σ₁ (fun g σ₂ => g = .bool true ∧ (i = 0 ∨ intBits (if i < 0 then -i - 1 else i) + 1 ≤ 8 * k) ∧ Q (.bytes (KTBy.low i k)) σ₂) R) R) R) :
    TE C (.Call (.Attribute o (Str.ofString "to_bytes") ap) [e1, e2] [⟨some (Str.ofString "signed"), e3, kp⟩] pos) σ Q R := fun s X I => by
  rw [arm_eval_Call, hbase]
  refine wpAny_bind (wpAny_mono (h s X I) (fun v s₀ ⟨d, σ₀, X₀, ⟨z, ez, q⟩, i0, r0, x0⟩ => ?_) fun _ _ y => y)
  refine wpAny_bind (wpAny_standAt ?_)
  have hpl := plain_args ha pos C.env
  have hform : methodCallForm ([e1, e2].length + [(⟨some (Str.ofString "signed"), e3, kp⟩ : Keyword)].length) (backTo pos (starEach [e1, e2] C.env)) (backToKw pos (keywordEach [⟨some (Str.ofString "signed"), e3, kp⟩] C.env)) = true := by
    rw [List.any_eq_false] at hpl
    unfold methodCallForm
    rw [show (backTo pos (starEach [e1, e2] C.env)).all (fun x => !x.1) = true from List.all_eq_true.mpr fun y hy => by have := hpl y hy; simpa using this]
    rfl
  have hpos : methodCallPos true o C.env ap pos = pure pos := by unfold methodCallPos; simp [hline]
  subst ez
  simp only [Rep] at r0
  obtain ⟨t0, rfl⟩ := r0
  unfold methodCall
  rw [hform]
  refine wpAny_bind (wpAny_holding (KTBy.method ?_))
  refine wpAny_bind (wpAny_of_eq hpos ?_)
  refine callWith_builtin_kwB hpl rfl ?_
  rw [List.all_cons, Bool.and_eq_true] at ha
  have hh := q pos _ X₀ i0
  rw [starEach_plain ha.1] at hh ⊢
  refine evalArgs_kwB rfl (wpAny_mono hh (fun vs s₁ ⟨ds, σ₁, X₁, ⟨k, e, hl, q⟩, i, r, x1⟩ => ?_) fun _ _ y => ErP.of x0 y)
  refine evalAll_cons (wpAny_bind (wpAny_mono (q s₁ X₁ i) (fun v s₂ ⟨d, σ₂, X₂, ⟨eg', hb, q2⟩, i2, r2, x2⟩ => wpAny_bind (wpAny_standAt (wpAny_pure (evalAll_nil ?_)))) fun _ _ y => ErP.of (x0.trans x1) y))
  subst e eg'
  simp only [Reps, Rep] at r r2
  obtain ⟨v1, q1, rfl, ⟨t1, rfl⟩, v2, q3, rfl, ⟨t2, rfl⟩, rfl⟩ := r
  subst r2
  exact Mine.toBytesS hl hb fun t' k' => ⟨_, σ₂, X₂, q2, i2.tok _, rep_bytes _ _, (x0.trans x1).trans x2⟩
end
end Mine
end
section
namespace Mine
/-- the class of a datum -/
def clsOf : PV → Option Value
  | .none => some (.type "NoneType")
  | .bool _ => some (.type "bool")
  | .int _ => some (.type "int")
  | .str _ => some (.type "str")
  | .bytes _ => some (.type "bytes")
  | .list _ => some (.type "list")
  | .tuple _ => some (.type "tuple")
  | .dict _ _ => some (.type "dict")
  | .code _ _ => some (.ref codeCls)
  | .ext _ => none
/-- what the fragment must say of the class Code -/
structure CodeK (K : Frag) : Prop where
  hg : plainGet K codeCls "__class__" = true
  hd : hasDictIn K codeCls = true
  ha : findIn K (.ref codeCls) "__class__" = some (some (.builtin "object.__class__"))
  hn : specialIn K (.builtin "object.__class__") "__get__" = some (some (.builtin "getset_descriptor.__get__"))
  ht : takesIn K (.builtin "object.__class__") = some true
  hm : mroIn K codeCls (.type "object") = some true
section
variable {w : World} {A : Around} {s : Shared} {X : Addr → Prop} {K : PV → Prop} {F : Frag}
theorem kitx_rep {d : PV} {v t : Value} (ck : CodeK F) (e : clsOf d = some t) (r : Rep w.params s.heap X d v) : ∃ H : Heap → Prop, KitX F v t H ∧ H s.heap ∧ v ≠ .builtin "__main__.__loader__#opaque" := by
  cases d <;> simp only [clsOf, Option.some.injEq, reduceCtorEq] at e <;> subst e <;> simp only [Rep] at r
  · subst r; exact ⟨_, kitx_none, trivial, fun y => by cases y⟩
  · subst r; exact ⟨_, kitx_bool, trivial, fun y => by cases y⟩
  · obtain ⟨t, rfl⟩ := r; exact ⟨_, kitx_int, trivial, fun y => by cases y⟩
  · obtain ⟨t, rfl⟩ := r; exact ⟨_, kitx_str, trivial, fun y => by cases y⟩
  · obtain ⟨t, rfl⟩ := r; exact ⟨_, kitx_bytes, trivial, fun y => by cases y⟩
  · obtain ⟨a, vs, n, rfl, ea, _⟩ := r; exact ⟨_, kitx_list, ⟨_, ea, rfl⟩, fun y => by cases y⟩
  · obtain ⟨a, vs, rfl, ea, _⟩ := r; exact ⟨_, kitx_tuple, ⟨_, ea, rfl⟩, fun y => by cases y⟩
  · obtain ⟨a, es, vs, n, rfl, ea, _⟩ := r; exact ⟨_, kitx_dict, ⟨_, ea, rfl⟩, fun y => by cases y⟩
  · obtain ⟨a, dx, es, n, vt, vs, rfl, ea, _, ed, _⟩ := r
    exact ⟨_, kitx_own (ox := insObj dx) (od := dctObj es n) ck.hg ck.hd ck.ha ck.hn ck.ht ck.hm, ⟨ea, rfl, rfl, ed⟩, fun y => by cases y⟩
/-- isinstance, one class -/
theorem isOne_sound {d : PV} {v t c : Value} {b : Bool} (ck : CodeK F) (XK : F.In s.heap) (e : clsOf d = some t) (r : Rep w.params s.heap X d v) (k : kitOne F t c = some b) (h : K (.bool b)) : Pur w A (call (.builtin "isinstance") [v, c]) s X K := by
  obtain ⟨H, Z, z, n⟩ := kitx_rep ck e r
  exact fun E => kia_one Z XK z k n fun tk => ⟨_, s.heap, tk, h, rfl, fun _ _ e => e, by simp only [Rep]⟩
def extsOf : List PV → Option (List Value)
  | [] => some []
  | .ext v :: r => (extsOf r).map (v :: ·)
  | _ => none
theorem extsOf_reps {P : Params} {h : Heap} : ∀ {ds : List PV} {vs cs : List Value}, extsOf ds = some cs → Reps P h X ds vs → vs = cs
  | [], _, _, e, r => by
    simp only [Reps] at r
    simp only [extsOf, Option.some.injEq] at e
    rw [r, e]
  | d :: ds, _, _, e, r => by
    cases d <;> simp only [extsOf] at e <;> try cases e
    simp only [Reps, Rep] at r
    obtain ⟨v, q, rfl, rfl, rs⟩ := r
    cases hi : extsOf ds with
    | none => rw [hi] at e; cases e
    | some ms =>
      rw [hi] at e
      simp only [Option.map_some, Option.some.injEq] at e
      rw [← e, extsOf_reps hi rs]
/-- isinstance, a tuple of classes -/
theorem isTup_sound {d : PV} {v t c : Value} {ds : List PV} {cs : List Value} {b : Bool} (ck : CodeK F) (XK : F.In s.heap) (e : clsOf d = some t) (r : Rep w.params s.heap X d v) (rc : Rep w.params s.heap X (.tuple ds) c) (ec : extsOf ds = some cs) (k : kitAny F t cs = some b) (h : K (.bool b)) : Pur w A (call (.builtin "isinstance") [v, c]) s X K := by
  obtain ⟨H, Z, z, n⟩ := kitx_rep ck e r
  simp only [Rep] at rc
  obtain ⟨a, vs, rfl, ea, _, rs⟩ := rc
  have := extsOf_reps ec rs
  subst this
  exact fun E => kia_tup Z XK z ea k n fun tk => ⟨_, s.heap, tk, h, rfl, fun _ _ e => e, by simp only [Rep]⟩
end
end Mine
end
section
namespace Mine
section
variable {w : World} {A : Around} {s : Shared} {X : Addr → Prop} {K : PV → Prop}
theorem valueAt_none {ks : List Str} {vs : List Value} {k : Str} (h : k ∉ ks) : valueAt (ks.zip vs) k = none := by
  unfold valueAt
  have : (ks.zip vs).find? (fun kv => decide (kv.1 = k)) = none := by
    rw [List.find?_eq_none]
    intro kv hm q
    have q' : kv.1 = k := by simpa using q
    exact h (q' ▸ (List.of_mem_zip (a := kv.1) (b := kv.2) hm).1)
  first
    | rw [this]; rfl
    | simp [this]
/-- get, of a key that is not there -/
theorem getNone_sound {ks : List Str} {ds : List PV} {k : Str} {v u : Value} (nd : ks.Nodup) (nk : k ∉ ks) (r : Rep w.params s.heap X (.dict ks ds) v) (rk : Rep w.params s.heap X (.str k) u) (h : K .none) : Pur w A (call (.builtin "dict.get") [v, u]) s X K := by
  simp only [Rep] at r rk
  obtain ⟨a, es, vs, n, rfl, ea, na, ⟨ns, he⟩, rs⟩ := r
  obtain ⟨t, rfl⟩ := rk
  have hd := ents_dict ea he nd
  refine Pur.tok h fun E Q k' => ?_
  refine call_meetsIn PySem.F.slot_dict_get hd.typeIs PySem.F.entry_dict_get (PySem.F.args_dict_get_2 _ _) (meets_dict_get (strKind prog w) a (strKind_is prog w k t) (by simpa using ns)) ⟨_, hd.mapOf, ?_⟩
  rw [valueAt_none nk]
  exact k' _ _ fun _ _ => by simp only [Rep]; rfl
end
end Mine
end
section
open Builtin Builtin.Bytes
namespace Mine
section
variable {w : World} {A : Around} {s : Shared} {X : Addr → Prop} {K : PV → Prop} {M : Model}
theorem letGo_run {E : Value → Shared → Prop} : ∀ (vs keep : List Value) {Q : Unit → Shared → Prop}, Q () s → wpAny M A (PySem.letGo vs keep) Q E s
  | [], _, _, h => wpAny_pure h
  | _ :: rest, keep, _, h => by
    unfold PySem.letGo
    exact wpAny_bind (wpAny_holding (wpAny_point (letGo_run rest keep h)))
theorem joinLetGo_run {E : Value → Shared → Prop} : ∀ (taken : List (Value × Option Value)) (keep : List Value) {Q : Unit → Shared → Prop}, (∀ p ∈ taken, p.2 = none) → Q () s → wpAny M A (joinLetGo taken keep) Q E s
  | [], _, _, _, h => by unfold joinLetGo; exact wpAny_pure h
  | (x, u) :: rest, keep, _, hn, h => by
    have := hn _ List.mem_cons_self
    dsimp only at this
    subst this
    unfold joinLetGo
    exact wpAny_bind (letGo_run _ _ (joinLetGo_run rest keep (fun p m => hn p (List.mem_cons_of_mem _ m)) h))
theorem takeBuf {id : String} {b : Array UInt8} {t : Tok} : takeBuffer? id (.bytes b t) 0 = pure (some (b, none)) := by
  have e : Bytes.buffer? id (.bytes b t) (full := (0 : Int) == fullReadOnly) = pure (some b) := by
    rw [show ((0 : Int) == fullReadOnly) = false by decide]
    exact KBy.buffer_eq
  unfold takeBuffer?
  rw [KBy.special_eq KBy.look_buffer, KBy.own_buffer, e]
  kernel_rfl
theorem takeBufQ {id : String} {b : Array UInt8} {t : Tok} : takeBufferQuiet? id (.bytes b t) 0 = pure (some (b, none)) := by
  unfold takeBufferQuiet?
  rw [takeBuf]
  rfl
theorem join_args {id : String} {a b : Value} : selfAndOne id ⟨[a, b], []⟩ = pure (a, b) := rfl
end
end Mine
end
section
open Builtin Builtin.Bytes
namespace Mine
section
variable {w : World} {A : Around} {s : Shared} {X : Addr → Prop} {K : PV → Prop} {M : Model}
theorem join_tree {a : Addr} {ps : List (Array UInt8 × Tok)} {n : Nat} {t : Tok} {P : Fin → Shared → Prop} {E : Value → Shared → Prop} (ho : s.heap.get? a = some (lstObj (ps.map fun p => .bytes p.1 p.2) n))
    (hz : tooLong ((ps.map (·.1)).toArray.foldl (· + ·.size) 0) = false)
    (hj : (joined #[] (ps.map (·.1))).size ≤ sizeLine)
    (h : ∀ t k, P (.done (.ret (.bytes (joined #[] (ps.map (·.1))) t))) { s with toks := k }) : wpAny M A (joinM .bytes ⟨[.bytes #[] t, .ref a], []⟩) P E s := by
  unfold joinM
  refine wpAny_bind (wpAny_of_eq (a := (.bytes #[] t, .ref a)) join_args ?_)
  dsimp only
  rw [if_pos (by decide)]
  unfold joinItems
  refine wpAny_bind ?_
  refine wpAny_bind (wpAny_typeOf (T := "list") ⟨_, ho, rfl⟩ ?_)
  rw [if_pos (by decide)]
  refine wpAny_pure ?_
  refine wpAny_bind (wpAny_seqItems ho rfl ?_)
  dsimp only
  rw [if_pos (by decide)]
  have gen : ∀ (Z : Sem Fin) (F : Nat → Array (Array UInt8) × List (Value × Option Value) → Sem (ForInStep (Array (Array UInt8) × List (Value × Option Value)))) (G : Array (Array UInt8) × List (Value × Option Value) → Sem Fin),
      Z = (forIn [:ps.length] ((#[], []) : Array (Array UInt8) × List (Value × Option Value)) F >>= G) →
      (∀ k p b s', ps[k]? = some p → s' = s → (∀ z ∈ b.2, z.2 = none ∧ z.1.onHeap = false) → wpAny M A (F k b) (fun r s'' => r = .yield (b.1.push p.1, b.2 ++ [(.bytes p.1 p.2, none)]) ∧ s'' = s) E s') →
      (∀ b s', s' = s → b.1 = (ps.map (·.1)).toArray → (∀ z ∈ b.2, z.2 = none ∧ z.1.onHeap = false) → wpAny M A (G b) P E s') → wpAny M A Z P E s := by
    intro Z F G eZ hF hG
    rw [eZ, Std.Legacy.Range.forIn_eq_forIn_range']
    refine wpAny_bind (wpAny_forIn_list F (fun rest b s' => s' = s ∧ (∀ z ∈ b.2, z.2 = none ∧ z.1.onHeap = false) ∧ ∃ k, k ≤ ps.length ∧ rest = List.range' k (ps.length - k) ∧ b.1 = ((ps.take k).map (·.1)).toArray) _ ?_ ?_ _ _ ?_)
    · rintro x rest b s' ⟨rfl, hb, k, hk, hr, hp⟩
      have hlt : k < ps.length := by
        rcases Nat.lt_or_ge k ps.length with y | y
        · exact y
        · rw [show ps.length - k = 0 by omega] at hr; cases hr
      rw [show ps.length - k = (ps.length - (k + 1)) + 1 by omega, List.range'_succ] at hr
      obtain ⟨rfl, rfl⟩ := List.cons.inj hr
      refine wpAny_mono (hF x _ b _ (List.getElem?_eq_getElem hlt) rfl hb) (fun r s'' hh => ?_) fun _ _ y => y
      obtain ⟨rfl, rfl⟩ := hh
      refine ⟨rfl, ?_, x + 1, hlt, rfl, ?_⟩
      · intro z hz
        rcases List.mem_append.mp hz with hz | hz
        · exact hb z hz
        · rw [List.mem_singleton] at hz; subst hz; exact ⟨rfl, rfl⟩
      · show b.1.push _ = _
        rw [hp, show ps.take (x + 1) = ps.take x ++ [ps[x]] from List.take_succ_eq_append_getElem hlt, List.map_append]
        simp only [List.push_toArray, List.map_cons, List.map_nil]
    · rintro b s' ⟨rfl, hb, k, hk, hr, hp⟩
      have : ps.length - k = 0 := by
        cases hz : ps.length - k with
        | zero => rfl
        | succ m => rw [hz, List.range'_succ] at hr; cases hr
      refine hG b _ rfl ?_ hb
      rw [hp, List.take_of_length_le (by omega)]
    · exact ⟨rfl, fun z hz => (by cases hz), 0, Nat.zero_le _, by simp [Std.Legacy.Range.size], by simp⟩
  have hlen : (ps.map fun p => Value.bytes p.1 p.2).toArray.size = ps.length := by simp
  have hget : ∀ k p, ps[k]? = some p → (ps.map fun p => Value.bytes p.1 p.2).toArray.getD k .none = .bytes p.1 p.2 := by
    intro k p hk
    simp [Array.getD_eq_getD_getElem?, hk]
  have hany : ∀ (l : List (Value × Option Value)), (∀ z ∈ l, z.2 = none ∧ z.1.onHeap = false) → ¬ ((Kind.bytes == Kind.bytearray || l.any fun x => x.1.onHeap) = true) := by
    intro l hl
    rw [show (Kind.bytes == Kind.bytearray) = false by decide, Bool.false_or, List.any_eq_true]
    rintro ⟨z, hz, hz'⟩
    rw [(hl z hz).2] at hz'
    cases hz'
  by_cases h1 : ∃ p, ps = [p]
  · obtain ⟨p, rfl⟩ := h1
    show wpAny M A (typeOf (.bytes p.1 p.2) >>= fun _ => _) _ _ _
    refine wpAny_bind (wpAny_typeOf (T := "bytes") (typeIs_bytes _ _ _) ?_)
    rw [if_pos (by decide)]
    refine wpAny_bind (wpAny_rule ?_)
    refine wpAny_pure ?_
    have := h p.2 s.toks
    rw [show joined #[] ([p].map (·.1)) = p.1 by simp [joined]] at this
    exact this
  · rw [hlen]
    have key : ∀ (Z' : Sem Fin) (Y : Value → Sem Fin), (wpAny M A Z' P E s) → wpAny M A (match (ps.map fun p => Value.bytes p.1 p.2).toArray with | #[x] => Y x | _ => Z') P E s := by
      intro Z' Y hh
      rcases ps with _ | ⟨p, _ | ⟨q, r⟩⟩
      · exact hh
      · exact absurd ⟨p, rfl⟩ h1
      · exact hh
    refine key _ _ ?_
    refine gen _ _ _ rfl ?_ ?_
    · rintro k p b s' hk rfl hb
      refine wpAny_bind (wpAny_seqItems ho rfl ?_)
      dsimp only
      rw [if_neg (hany _ hb), hget k p hk]
      refine wpAny_bind (wpAny_holding (wpAny_of_eq takeBufQ ?_))
      dsimp only
      refine wpAny_bind (wpAny_seqItems ho rfl ?_)
      dsimp only
      rw [hlen, if_neg (by simp)]
      exact wpAny_pure ⟨rfl, rfl⟩
    · rintro b s' rfl hp hb
      refine wpAny_bind (wpAny_of_eq (a := #[]) rfl ?_)
      have hz' : tooLong (b.1.foldl (· + ·.size) ((#[] : Array UInt8).size * (b.1.size - 1))) = false := by
        rw [hp, show (#[] : Array UInt8).size * _ = 0 from Nat.zero_mul _]; exact hz
      refine KFB.if_not hz' ?_
      show wpAny M A (mkBytes (joined #[] b.1.toList) >>= fun result => _) _ _ _
      refine wpAny_bind (wpAny_mkBytes ?_ (by rw [hp]; exact hj))
      refine wpAny_bind (wpAny_holding (wpAny_point ?_))
      refine wpAny_bind (joinLetGo_run _ _ (fun z m => (hb z m).1) ?_)
      refine wpAny_pure ?_
      rw [hp]
      exact h _ _
end
end Mine
end
section
open Builtin Builtin.Bytes
namespace Mine
theorem slot_join : Slot "bytes" "join" "bytes.join" :=
  .of (owner := "bytes") (n := "join") (by rw [typeLookup_type, builtinLookup_eq_fast]; kernel_rfl) (by decide +kernel) (by decide +kernel) (by decide +kernel)
    (by first | exact .inl (by decide +kernel) | exact .inr (by decide +kernel)) (by rw [isSubtype_type]; kernel_rfl)
theorem entry_join : entryFor table "bytes.join" = some Builtin.«bytes.join» := entryFor_of_tree (by kernel_rfl)
theorem args_join (a b : Value) : argsOk "bytes.join" ⟨[a, b], []⟩ := by unfold argsOk; kernel_rfl
theorem type_join : typeOf (.builtin "bytes.join") = pure (.type "method_descriptor") := by show builtinType _ = _; rw [builtinType_eq_fast]; kernel_rfl
theorem joined_list : ∀ (ps : List (Array UInt8)), joined #[] ps = (ps.map (·.toList)).flatten.toArray := by
  intro ps
  unfold joined
  have : ∀ (ps : List (Array UInt8)) (k : Nat) (o : Array UInt8), (ps.zipIdx k).foldl (fun out (x : Array UInt8 × Nat) => (if x.2 > 0 then out ++ #[] else out) ++ x.1) o = o ++ (ps.map (·.toList)).flatten.toArray := by
    intro ps
    induction ps with
    | nil => intro k o; simp
    | cons p r ih =>
      intro k o
      rw [List.zipIdx_cons, List.foldl_cons, ih]
      apply Array.ext'
      simp
  have h := this ps 0 #[]
  simpa using h
end Mine
end
section
open Builtin Builtin.Bytes
namespace Mine
def bytesOf : List PV → Option (List (List UInt8))
  | [] => some []
  | .bytes b :: r => (bytesOf r).map (b :: ·)
  | _ => none
theorem bytesOf_reps {P : Params} {h : Heap} {X : Addr → Prop} : ∀ {ds : List PV} {vs : List Value} {bs : List (List UInt8)}, bytesOf ds = some bs → Reps P h X ds vs → ∃ ps : List (Array UInt8 × Tok), vs = ps.map (fun p => .bytes p.1 p.2) ∧ ps.map (·.1.toList) = bs
  | [], _, _, e, r => by
    simp only [Reps] at r; subst r
    simp only [bytesOf, Option.some.injEq] at e; subst e
    exact ⟨[], rfl, rfl⟩
  | d :: ds, _, _, e, r => by
    cases d <;> simp only [bytesOf] at e <;> try cases e
    simp only [Reps, Rep] at r
    obtain ⟨v, q, rfl, ⟨t, rfl⟩, rs⟩ := r
    cases hi : bytesOf ds with
    | none => rw [hi] at e; cases e
    | some ms =>
      rw [hi] at e
      simp only [Option.map_some, Option.some.injEq] at e
      obtain ⟨ps, rfl, e2⟩ := bytesOf_reps hi rs
      exact ⟨(_, t) :: ps, rfl, by rw [← e, ← e2]; rfl⟩
section
variable {w : World} {A : Around} {s : Shared} {X : Addr → Prop} {K : PV → Prop}
theorem sum_sizes : ∀ (ps : List (Array UInt8)) (k : Nat), ps.foldl (fun a (b : Array UInt8) => a + b.size) k = k + (ps.map (·.toList)).flatten.length
  | [], k => rfl
  | p :: r, k => by
    rw [List.foldl_cons, sum_sizes r]
    simp
    omega
/-- b"".join([..]) -/
theorem joinW_sound {ds : List PV} {bs : List (List UInt8)} {v u : Value} (e : bytesOf ds = some bs) (hz : bs.flatten.length ≤ 16777216) (r0 : Rep w.params s.heap X (.bytes []) v) (r : Rep w.params s.heap X (.list ds) u) (h : K (.bytes bs.flatten)) : Pur w A (call (.builtin "bytes.join") [v, u]) s X K := by
  simp only [Rep] at r0 r
  obtain ⟨t, rfl⟩ := r0
  obtain ⟨a, vs, n, rfl, ea, na, rs⟩ := r
  obtain ⟨ps, rfl, e2⟩ := bytesOf_reps e rs
  have e3 : (ps.map (·.1)).map (·.toList) = bs := by rw [← e2, List.map_map]; rfl
  refine Pur.tok h fun E Q k => wpAny_call_entry slot_join (typeIs_bytes _ _ _) entry_join ?_ (args_join _ _)
  refine join_tree ea ?_ ?_ fun t' k' => ⟨_, rfl, ?_⟩
  · have := sum_sizes (ps.map (·.1)) 0
    rw [e3] at this
    refine KBy.tooLong_not ?_
    rw [List.foldl_toArray, this]
    omega
  · rw [joined_list, e3, sizeLine_eq]; exact hz
  · rw [joined_list, e3]
    exact k _ _ fun _ _ => rep_bytes _ _
end
end Mine
end
section
namespace Mine
section
variable {C : Cx} {σ : St} {R : Exc → St → Prop}
/-- a o1 b o2 c -/
theorem TB.chain {l m r : Expr} {o1 o2 : CmpOp} {pos} {Q : Bool → St → Prop} (hm1 : behindInMarks o1 m = false) (hm2 : behindInMarks o2 r = false)
    (h : TE C l σ (fun a σ₁ => TE C m σ₁ (fun b σ₂ => ∀ s X va vb, Inv C s σ₂ X → Rep C.P s.heap X a va → Rep C.P s.heap X b vb → Pur C.w C.A (compareOp o1 va vb) s X fun d => ∃ c, d = .bool c ∧
      if c then TE C r σ₂ (fun e σ₃ => ∀ s X vb ve, Inv C s σ₃ X → Rep C.P s.heap X b vb → Rep C.P s.heap X e ve → Pur C.w C.A (compareOp o2 vb ve) s X fun d => ∃ c, d = .bool c ∧ Q c σ₃) R else Q false σ₂) R) R) :
    TB C (.Compare l [o1, o2] [m, r] pos) σ Q R := fun s X I => by
  show wpAny _ _ (eval l C.env >>= fun lv => testChain pos lv [o1, o2] (markedEach [o1, o2] [m, r] [eval m C.env, eval r C.env])) _ _ _
  simp only [markedEach, markedBehindIn_of_false hm1, markedBehindIn_of_false hm2]
  refine wpAny_bind (wpAny_mono (h s X I) (fun va s₁ ⟨a, σ₁, X₁, q₁, i₁, r₁, x₁⟩ => ?_) fun _ _ y => y)
  unfold testChain
  refine wpAny_bind (wpAny_holding (wpAny_mono (q₁ s₁ X₁ i₁) (fun vb s₂ ⟨b, σ₂, X₂, q₂, i₂, r₂, x₂⟩ => ?_) fun _ _ y => ErP.of x₁ y))
  refine wpAny_bind (wpAny_standAt ?_)
  refine wpAny_bind (wpAny_holding (wpAny_mono (q₂ s₂ X₂ va vb i₂ (Rep.ext x₂ r₁) r₂ _) (fun v s' ⟨d, h', k, ⟨c, e, q⟩, e', ke, r⟩ => ?_) fun _ _ y => y))
  subst e e'
  simp only [Rep] at r
  subst r
  have x3 := (x₁.trans x₂).trans (Ext.of_keeps (X := X₂) ke)
  have i3 := i₂.step (t := k) ke
  refine wpAny_bind (wpAny_release ?_)
  refine wpAny_bind (wpAny_holding (wpAny_truthy_bool ?_))
  cases c with
  | false => exact wpAny_pure ⟨σ₂, X₂, q, i3, x3⟩
  | true =>
    show wpAny _ _ (testChain pos vb [o2] [eval _ C.env]) _ _ _
    unfold testChain
    refine wpAny_bind (wpAny_holding (wpAny_mono (q _ X₂ i3) (fun ve s₄ ⟨e, σ₄, X₄, q₄, i₄, r₄, x₄⟩ => ?_) fun _ _ y => ErP.of x3 y))
    refine wpAny_bind (wpAny_standAt ?_)
    refine wpAny_bind (wpAny_operateT (wpAny_mono (q₄ s₄ X₄ vb ve i₄ (Rep.ext x₄ (Rep.ext (Ext.of_keeps ke) r₂)) r₄ _) (fun v s' ⟨d, h'', k', ⟨c, e, q⟩, e', ke', r⟩ => ?_) fun _ _ y => y))
    subst e e'
    simp only [Rep] at r
    subst r
    exact wpAny_holding (wpAny_truthy_bool ⟨σ₄, X₄, q, i₄.step ke', (x3.trans x₄).trans (Ext.of_keeps ke')⟩)
end
end Mine
end
section
namespace Mine
/-- what the fragment must say of an object that stands from the start -/
structure OwnK (F : Frag) (x D : Addr) (ox od : Obj) : Prop where
  lx : F.lookup x = some ox
  cl : ox.cls = .ref D
  no : notCls ox = true
  di : ∃ dx, ox.dict = some dx ∧ F.lookup dx = some od
  hg : plainGet F D "__class__" = true
  hd : hasDictIn F D = true
  ha : findIn F (.ref D) "__class__" = some (some (.builtin "object.__class__"))
  hn : specialIn F (.builtin "object.__class__") "__get__" = some (some (.builtin "getset_descriptor.__get__"))
  ht : takesIn F (.builtin "object.__class__") = some true
  hm : mroIn F D (.type "object") = some true
theorem OwnK.inst {F : Frag} {x D : Addr} {ox od : Obj} {h : Heap} (k : OwnK F x D ox od) (X : F.In h) : InstAt h x ox D (some od) := by
  obtain ⟨dx, e1, e2⟩ := k.di
  exact ⟨X _ _ k.lx, k.cl, k.no, by rw [e1]; exact X _ _ e2⟩
section
variable {w : World} {A : Around} {s : Shared} {X : Addr → Prop} {K : PV → Prop} {F : Frag}
theorem isExt_sound {x D : Addr} {ox od : Obj} {c : Value} {b : Bool} (k : OwnK F x D ox od) (XK : F.In s.heap) (e : kitOne F (.ref D) c = some b) (h : K (.bool b)) : Pur w A (call (.builtin "isinstance") [.ref x, c]) s X K :=
  fun E => kia_one (kitx_own k.hg k.hd k.ha k.hn k.ht k.hm) XK (k.inst XK) e (fun y => by cases y) fun tk => ⟨_, s.heap, tk, h, rfl, fun _ _ e => e, by simp only [Rep]⟩
end
end Mine
end
section
namespace Mine
theorem ofString_ne {a b : String} (h : a ≠ b) : Str.ofString a ≠ Str.ofString b := fun e => by
  apply h
  have e2 := congrArg (fun s : Str => s.cps.toList) e
  simp only [signs_ofString] at e2
  have e3 : a.toList = b.toList := by
    refine (List.map_inj_right fun x y q => ?_).mp e2
    exact Char.ext (UInt32.toNat_inj.mp q)
  exact String.toList_inj.mp e3
theorem str_ne {a b : String} (h : a ≠ b) : (Str.ofString a == Str.ofString b) = false := beq_eq_false_iff_ne.mpr (ofString_ne h)

section
variable {C : Cx} {σ : St} {x y : Str} {d : PV} {r : Option PV}
theorem hit : (σ.put x d).vars.lookup x = some d := by show (setv x d σ.vars).lookup x = _; rw [lookup_setv, if_pos rfl]
theorem miss (h : (y == x) = false) (k : σ.vars.lookup y = r) : (σ.put x d).vars.lookup y = r := by show (setv x d σ.vars).lookup y = _; rw [lookup_setv, if_neg (by simpa using h)]; exact k
theorem hitT : (σ.take x d).vars.lookup x = some d := hit
theorem missT (h : (y == x) = false) (k : σ.vars.lookup y = r) : (σ.take x d).vars.lookup y = r := miss h k
theorem hit0 {l : List (Str × PV)} : List.lookup x ((x, d) :: l) = some d := by simp
theorem miss0 {l : List (Str × PV)} (h : (y == x) = false) (k : l.lookup y = r) : List.lookup y ((x, d) :: l) = r := by rw [List.lookup_cons, h]; exact k
end

section
variable {C : Cx} {σ : St} {R : Exc → St → Prop} {Q : PV → St → Prop} {QB : Bool → St → Prop} {QO : Out → St → Prop} {gl : Str → Option Value} {K : Params → Frag} {D : Dn}
theorem Ls.kind (L : Ls gl K C D) {x : Str} {k : NameKind} (e : D.names.lookup x = some k) : C.env.kindOf x = some k := by unfold Env.kindOf; rw [L.names]; exact e
theorem Ls.gv (L : Ls gl K C D) {x : Str} {v : Value} (e : gl x = some v) : C.gl x = some v := by rw [L.glq]; exact e
theorem Ls.frag (L : Ls gl K C D) {s : Shared} {X : Addr → Prop} (I : Inv C s σ X) : (K C.P).In s.heap := by rw [← L.kq]; exact L.ok.bs.frag.keeps I.stay
theorem Ls.canL (L : Ls gl K C D) (hl : C.lw = true) {x : Str} (e : D.names.lookup x = some .local) : canStore C x := .inl ⟨L.kind e, hl⟩
theorem Ls.canC (L : Ls gl K C D) (hc : C.cw = true) {x : Str} (e : D.names.lookup x = some .cell) : canStore C x := .inr ⟨L.kind e, hc⟩

theorem TE.nm (L : Ls gl K C D) {x : Str} {d : PV} {pos} (e : σ.vars.lookup x = some d) (hd : (x == ("__debug__" : Str)) = false) (ho : σ.own = none) (h : Q d σ) : TE C (.Name x pos) σ Q R :=
  TE.name_var L.ok e hd (by unfold St.seen; rw [ho]; exact h)
theorem TE.nmO (L : Ls gl K C D) {x y : Str} {d : PV} {pos} (e : σ.vars.lookup x = some d) (hd : (x == ("__debug__" : Str)) = false) (ho : σ.own = some y) (hy : (y == x) = false) (h : Q d σ) : TE C (.Name x pos) σ Q R :=
  TE.name_var L.ok e hd (by unfold St.seen; rw [ho, if_neg (fun z => by cases z; simp at hy)]; exact h)
theorem TE.nmX (L : Ls gl K C D) {x : Str} {d : PV} {pos} (e : σ.vars.lookup x = some d) (hd : (x == ("__debug__" : Str)) = false) (ho : σ.own = some x) (h : Q d ⟨σ.vars, none⟩) : TE C (.Name x pos) σ Q R :=
  TE.name_var L.ok e hd (by unfold St.seen; rw [if_pos ho]; exact h)
theorem TE.gn (L : Ls gl K C D) {x : Str} {v : Value} {pos} (k : D.names.lookup x = some .globalImplicit) (hd : (x == ("__debug__" : Str)) = false) (e : gl x = some v) (h : Q (.ext v) σ) : TE C (.Name x pos) σ Q R :=
  TE.name_glob L.ok (L.kind k) (L.gv e) hd h

theorem TE.bin {l r : Expr} {op : Operator} {pos} (h : TE C l σ (fun a σ₁ => TE C r σ₁ (fun b σ₂ => binW op a b fun d => Q d σ₂) R) R) : TE C (.BinOp l op r pos) σ Q R :=
  TE.binop (TE.mono h (fun _ _ y => TE.mono y (fun _ _ z _ _ _ _ I ra rb => binW_sound I.fresh ra rb z) fun _ _ z => z) fun _ _ z => z)
theorem TE.un {e : Expr} {op : UnaryOp} {pos} (h : TE C e σ (fun a σ₁ => unW op a fun d => Q d σ₁) R) : TE C (.UnaryOp op e pos) σ Q R :=
  TE.unop (TE.mono h (fun _ _ z _ _ _ _ ra => unW_sound ra z) fun _ _ z => z)
theorem TE.cp {l r : Expr} {op : CmpOp} {pos} (hm : behindInMarks op r = false) (h : TE C l σ (fun a σ₁ => TE C r σ₁ (fun b σ₂ => cmpW op a b fun c => Q (.bool c) σ₂) R) R) : TE C (.Compare l [op] [r] pos) σ Q R :=
  TE.cmp hm (TE.mono h (fun _ _ y => TE.mono y (fun _ _ z _ _ _ _ _ ra rb E => wpAny_mono (cmpW_sound ra rb z E) (fun _ _ ⟨d, h', k, ⟨c, e, q⟩, r⟩ => ⟨d, h', k, e ▸ q, r⟩) fun _ _ z => z) fun _ _ z => z) fun _ _ z => z)
theorem TB.cp {l r : Expr} {op : CmpOp} {pos} (hm : behindInMarks op r = false) (h : TE C l σ (fun a σ₁ => TE C r σ₁ (fun b σ₂ => cmpW op a b fun c => QB c σ₂) R) R) : TB C (.Compare l [op] [r] pos) σ QB R :=
  TB.of_cmp hm (TE.mono h (fun _ _ y => TE.mono y (fun _ _ z _ _ _ _ _ ra rb => cmpW_sound ra rb z) fun _ _ z => z) fun _ _ z => z)
theorem TB.cp2 {l m r : Expr} {o1 o2 : CmpOp} {pos} (hm1 : behindInMarks o1 m = false) (hm2 : behindInMarks o2 r = false)
    (h : TE C l σ (fun a σ₁ => TE C m σ₁ (fun b σ₂ => cmpW o1 a b fun c => if c then TE C r σ₂ (fun e σ₃ => cmpW o2 b e fun c => QB c σ₃) R else QB false σ₂) R) R) : TB C (.Compare l [o1, o2] [m, r] pos) σ QB R :=
  TB.chain hm1 hm2 (TE.mono h (fun _ _ y => TE.mono y (fun _ _ z _ _ _ _ _ ra rb E => wpAny_mono (cmpW_sound ra rb z E) (fun _ _ ⟨d, h', k, ⟨c, e, q⟩, r⟩ => ⟨d, h', k, ⟨c, e, by
    cases c
    · exact q
    · exact TE.mono q (fun _ _ z _ _ _ _ _ ra rb => cmpW_sound ra rb z) fun _ _ z => z⟩, r⟩) fun _ _ z => z) fun _ _ z => z) fun _ _ z => z)
theorem TB.val {e : Expr} (h : TE C e σ (fun d σ₁ => truW d fun b => QB b σ₁) R) (he : ∀ env whole, isTrue e env whole = (do let v ← whole; standAt e.pos; holding [v] (truthy v))) : TB C e σ QB R :=
  TB.value he (TE.mono h (fun _ _ z _ _ _ _ r => truW_sound r z) fun _ _ z => z)
theorem TE.an {a b : Expr} {pos} (h : TE C a σ (fun d σ₁ => truW d fun c => if c then TE C b σ₁ Q R else Q d σ₁) R) : TE C (.BoolOp .And [a, b] pos) σ Q R :=
  TE.and2 (TE.mono h (fun _ _ z _ _ _ _ r => truW_sound r z) fun _ _ z => z)
theorem TE.or {a b : Expr} {pos} (h : TE C a σ (fun d σ₁ => truW d fun c => if c then Q d σ₁ else TE C b σ₁ Q R) R) : TE C (.BoolOp .Or [a, b] pos) σ Q R :=
  TE.or2 (TE.mono h (fun _ _ z _ _ _ _ r => truW_sound r z) fun _ _ z => z)

theorem TA.mono {es : List Expr} {Q Q' : List PV → St → Prop} {R R' : Exc → St → Prop} (t : TA C es σ Q R) (h : ∀ d σ, Q d σ → Q' d σ) (h' : ∀ x σ, R x σ → R' x σ) : TA C es σ Q' R' := fun pos s X I =>
  wpAny_mono (t pos s X I) (fun _ _ ⟨d, σ', X', q, r⟩ => ⟨d, σ', X', h d σ' q, r⟩) fun _ _ ⟨x, σ', X', a, h₁, z, q, r⟩ => ⟨x, σ', X', a, h₁, z, h' x σ' q, r⟩
theorem TC.mono {f : Value} {ds : List PV} {Q Q' : PV → St → Prop} {R R' : Exc → St → Prop} (t : TC C f ds σ Q R) (h : ∀ d σ, Q d σ → Q' d σ) (h' : ∀ x σ, R x σ → R' x σ) : TC C f ds σ Q' R' := fun s X vs I rs =>
  wpAny_mono (t s X vs I rs) (fun _ _ ⟨d, σ', X', q, r⟩ => ⟨d, σ', X', h d σ' q, r⟩) fun _ _ ⟨x, σ', X', a, h₁, z, q, r⟩ => ⟨x, σ', X', a, h₁, z, h' x σ' q, r⟩

/-- a call of a def -/
theorem TE.fn (L : Ls gl K C D) {x : Str} {a : Addr} {args : List Expr} {p pos} (k : D.names.lookup x = some .globalImplicit) (hd : (x == ("__debug__" : Str)) = false) (ha : args.all notStar = true) (e : gl x = some (.ref a)) (hf : ∀ P, keepIn (K P) (.ref a) = true)
    (h : TA C args σ (fun ds σ₁ => TC C (.ref a) ds σ₁ Q R) R) : TE C (.Call (.Name x p) args [] pos) σ Q R :=
  TE.call L.ok (L.kind k) (L.gv e) hd ha (.inr (.inr (by rw [L.kq]; exact hf _))) h
/-- a call of a built-in name -/
theorem TE.bi (L : Ls gl K C D) {x : Str} {f : Value} {args : List Expr} {p pos} (k : D.names.lookup x = some .globalImplicit) (hd : (x == ("__debug__" : Str)) = false) (ha : args.all notStar = true) (e : gl x = some f) (hf : (∃ T, f = .type T) ∨ ∃ id, f = .builtin id)
    (h : TA C args σ (fun ds σ₁ => ∀ s X vs, Inv C s σ₁ X → Reps C.P s.heap X ds vs → Pur C.w C.A (PySem.call f vs) s X fun d => Q d σ₁) R) : TE C (.Call (.Name x p) args [] pos) σ Q R :=
  TE.call L.ok (L.kind k) (L.gv e) hd ha (hf.elim .inl fun z => .inr (.inl z)) (TA.mono h (fun _ _ z => TC.pur z) fun _ _ z => z)
theorem Ls.dn (L : Ls gl K C D) {Hd : Params → Heap → Option Value → Prop} {n : Nat} {f : Addr} {ds : List PV} {Qd : PV → Prop} {Rx : Exc → Prop} (h : CallG Hd gl K n f ds Qd Rx) (hn : n ≤ D.n) (hh : Hd C.P C.base C.hd)
    (q : ∀ d, Qd d → Q d σ) (r : ∀ x, Rx x → R x σ) : TC C (.ref f) ds σ Q R :=
  TC.call L.ok hh L.kq (L.glq ▸ h) (by have := L.room; omega) (by have := L.units; omega) q r

theorem rep2 {P : Params} {h : Heap} {X : Addr → Prop} {a b : PV} {vs : List Value} (r : Reps P h X [a, b] vs) : ∃ u v, vs = [u, v] ∧ Rep P h X a u ∧ Rep P h X b v := by
  simp only [Reps] at r
  obtain ⟨u, _, rfl, ru, v, _, rfl, rv, rfl⟩ := r
  exact ⟨u, v, rfl, ru, rv⟩
theorem rep1 {P : Params} {h : Heap} {X : Addr → Prop} {a : PV} {vs : List Value} (r : Reps P h X [a] vs) : ∃ u, vs = [u] ∧ Rep P h X a u := by
  simp only [Reps] at r
  obtain ⟨u, _, rfl, ru, rfl⟩ := r
  exact ⟨u, rfl, ru⟩
theorem one_arg {e : Expr} (h : notStar e = true) : [e].all notStar = true := by simp [h]

theorem TE.len (L : Ls gl K C D) {e : Expr} {p pos} (k : D.names.lookup ("len" : Str) = some .globalImplicit) (g : gl "len" = some (.builtin "len")) (hn : notStar e = true)
    (h : TE C e σ (fun d σ₁ => lenW d fun i => Q (.int i) σ₁) R) : TE C (.Call (.Name "len" p) [e] [] pos) σ Q R :=
  TE.bi L k (str_ne (by decide)) (one_arg hn) g (.inr ⟨_, rfl⟩) (TA.cons hn (TE.mono h (fun d σ₁ q => TA.nil fun s X vs I r => by
    obtain ⟨v, rfl, r'⟩ := rep1 r
    exact fun E => wpAny_mono (lenW_sound r' q E) (fun _ _ ⟨d, h', k, ⟨c, e, q⟩, r⟩ => ⟨d, h', k, e ▸ q, r⟩) fun _ _ z => z) fun _ _ z => z))
def strW (d : PV) (K : PV → Prop) : Prop := match d with
  | .int i => i.natAbs.log2 < 1920 ∧ K (.str (Str.ofString (toString i)))
  | _ => False
theorem TE.strI (L : Ls gl K C D) {e : Expr} {p pos} (k : D.names.lookup ("str" : Str) = some .globalImplicit) (g : gl "str" = some (.type "str")) (hn : notStar e = true)
    (h : TE C e σ (fun d σ₁ => strW d fun d => Q d σ₁) R) : TE C (.Call (.Name "str" p) [e] [] pos) σ Q R :=
  TE.bi L k (str_ne (by decide)) (one_arg hn) g (.inl ⟨_, rfl⟩) (TA.cons hn (TE.mono h (fun d σ₁ q => TA.nil fun s X vs I r => by
    obtain ⟨v, rfl, r'⟩ := rep1 r
    cases d <;> try exact q.elim
    exact strInt_sound r' q.1 q.2) fun _ _ z => z))
def bytesW (d : PV) (K : PV → Prop) : Prop := match d with
  | .list ds => ∃ ns, intsOf ds = some ns ∧ (∀ n ∈ ns, 0 ≤ n ∧ n < 256) ∧ ds.length ≤ 16777216 ∧ K (.bytes (ns.map fun n => n.toNat.toUInt8))
  | _ => False
theorem TE.bytesI (L : Ls gl K C D) (hh : C.hd = none) {e : Expr} {p pos} (k : D.names.lookup ("bytes" : Str) = some .globalImplicit) (g : gl "bytes" = some (.type "bytes")) (hn : notStar e = true)
    (h : TE C e σ (fun d σ₁ => bytesW d fun d => Q d σ₁) R) : TE C (.Call (.Name "bytes" p) [e] [] pos) σ Q R :=
  TE.bi L k (str_ne (by decide)) (one_arg hn) g (.inl ⟨_, rfl⟩) (TA.cons hn (TE.mono h (fun d σ₁ q => TA.nil fun s X vs I r => by
    obtain ⟨v, rfl, r'⟩ := rep1 r
    cases d <;> try exact q.elim
    obtain ⟨ns, q1, q2, q3, q4⟩ := q
    exact bytesInts_sound hh q1 q2 q3 r' q4) fun _ _ z => z))
end
end Mine
end
section
namespace Mine
theorem codeK (P : Params) : CodeK (K P) := ⟨by kernel_rfl, by kernel_rfl, by kernel_rfl, by kernel_rfl, by kernel_rfl, by kernel_rfl⟩
theorem optK (P : Params) : ∃ ox od, OwnK (K P) 262 256 ox od :=
  ⟨{ cls := .ref 256, dict := some 261 }, match (K P).lookup 261 with | some o => o | none => default, ⟨by kernel_rfl, by kernel_rfl, by kernel_rfl, ⟨261, by kernel_rfl, by kernel_rfl⟩, by kernel_rfl, by kernel_rfl, by kernel_rfl, by kernel_rfl, by kernel_rfl, by kernel_rfl⟩⟩
theorem ns2 {a b : Expr} (h : notStar a = true) (h' : notStar b = true) : [a, b].all notStar = true := by simp [h, h']
section
variable {C : Cx} {σ : St} {R : Exc → St → Prop} {Q : PV → St → Prop} {D : Dn}
abbrev Lg (C : Cx) (D : Dn) : Prop := Ls glF K C D
/-- does a datum belong to a class -/
def isW (d : PV) (c : Value) (K' : Bool → Prop) : Prop := match clsOf d with
  | some t => ∃ b, (∀ P, kitOne (K P) t c = some b) ∧ K' b
  | none => d = .ext (.ref 262) ∧ c = .ref 256 ∧ K' true
def isW2 (d : PV) (cs : List Value) (K' : Bool → Prop) : Prop := match clsOf d with
  | some t => ∃ b, (∀ P, kitAny (K P) t cs = some b) ∧ K' b
  | none => False
theorem kit_opt (P : Params) : kitOne (K P) (.ref 256) (.ref 256) = some true := by kernel_rfl
theorem isW_sound (L : Lg C D) {s : Shared} {X : Addr → Prop} {d : PV} {v c : Value} {K' : Bool → Prop} {A : Around} (I : Inv C s σ X) (r : Rep C.P s.heap X d v) (h : isW d c K') : Pur C.w A (PySem.call (.builtin "isinstance") [v, c]) s X fun d => ∃ b, d = .bool b ∧ K' b := by
  unfold isW at h
  split at h
  · rename_i t e
    obtain ⟨b, k, q⟩ := h
    exact isOne_sound (codeK _) (L.frag I) e r (k _) ⟨b, rfl, q⟩
  · obtain ⟨rfl, rfl, q⟩ := h
    simp only [Rep] at r; subst r
    obtain ⟨ox, od, O⟩ := optK C.P
    exact isExt_sound O (L.frag I) (kit_opt _) ⟨true, rfl, q⟩
theorem TE.isa (L : Lg C D) {e : Expr} {T : Str} {c : Value} {p pT pos} (k : D.names.lookup ("isinstance" : Str) = some .globalImplicit) (hn : notStar e = true) (kT : D.names.lookup T = some .globalImplicit) (hT : (T == ("__debug__" : Str)) = false) (gT : glF T = some c)
    (h : TE C e σ (fun d σ₁ => isW d c fun b => Q (.bool b) σ₁) R) : TE C (.Call (.Name "isinstance" p) [e, .Name T pT] [] pos) σ Q R :=
  TE.bi L k (str_ne (by decide)) (ns2 hn rfl) gl_isinstance (.inr ⟨_, rfl⟩) (TA.cons hn (TE.mono h (fun d σ₁ q => TA.cons rfl (TE.gn L kT hT gT (TA.nil fun s X vs I r => by
    obtain ⟨v, u, rfl, r', ru⟩ := rep2 r
    simp only [Rep] at ru; subst ru
    exact fun E => wpAny_mono (isW_sound L I r' q E) (fun _ _ ⟨d, h', k, ⟨c, e, q⟩, r⟩ => ⟨d, h', k, e ▸ q, r⟩) fun _ _ z => z))) fun _ _ z => z))
theorem TE.isa2 (L : Lg C D) {e : Expr} {T₁ T₂ : Str} {c₁ c₂ : Value} {kk : Nat} {p p₁ p₂ pt pos} (k : D.names.lookup ("isinstance" : Str) = some .globalImplicit) (hn : notStar e = true) (k₁ : D.names.lookup T₁ = some .globalImplicit) (h₁ : (T₁ == ("__debug__" : Str)) = false) (g₁ : glF T₁ = some c₁)
    (k₂ : D.names.lookup T₂ = some .globalImplicit) (h₂ : (T₂ == ("__debug__" : Str)) = false) (g₂ : glF T₂ = some c₂)
    (h : TE C e σ (fun d σ₁ => isW2 d [c₁, c₂] fun b => Q (.bool b) σ₁) R) : TE C (.Call (.Name "isinstance" p) [e, .Tuple [.Name T₁ p₁, .Name T₂ p₂] kk pt] [] pos) σ Q R :=
  TE.bi L k (str_ne (by decide)) (ns2 hn rfl) gl_isinstance (.inr ⟨_, rfl⟩) (TA.cons hn (TE.mono h (fun d σ₁ q => TA.cons rfl (TE.tuple (TA.cons rfl (TE.gn L k₁ h₁ g₁ (TA.cons rfl (TE.gn L k₂ h₂ g₂ (TA.nil ⟨by simp, TA.nil fun s X vs I r => by
    obtain ⟨v, u, rfl, r', ru⟩ := rep2 r
    unfold isW2 at q
    split at q
    · rename_i t e
      obtain ⟨b, k, q⟩ := q
      exact isTup_sound (codeK _) (L.frag I) e r' ru rfl (k _) q
    · exact q.elim⟩))))))) fun _ _ z => z))

/-- methods -/
theorem ty_str {P : Params} {h : Shared} {X : Addr → Prop} {x : Str} {v : Value} (r : Rep P h.heap X (.str x) v) : h.TypeIs v "str" ∧ ∀ a, v = .ref a → ∃ o : Obj, h.heap.get? a = some o ∧ o.dict = none := by
  simp only [Rep] at r; obtain ⟨t, rfl⟩ := r; exact ⟨typeIs_str _ _ _, fun a e => nomatch e⟩
theorem ty_bytes {P : Params} {h : Shared} {X : Addr → Prop} {x : List UInt8} {v : Value} (r : Rep P h.heap X (.bytes x) v) : h.TypeIs v "bytes" ∧ ∀ a, v = .ref a → ∃ o : Obj, h.heap.get? a = some o ∧ o.dict = none := by
  simp only [Rep] at r; obtain ⟨t, rfl⟩ := r; exact ⟨W.typeIs_bytes _ _ _, fun a e => nomatch e⟩
theorem ty_dict {P : Params} {h : Shared} {X : Addr → Prop} {ks : List Str} {ds : List PV} {v : Value} (r : Rep P h.heap X (.dict ks ds) v) : h.TypeIs v "dict" ∧ ∀ a, v = .ref a → ∃ o : Obj, h.heap.get? a = some o ∧ o.dict = none := by
  simp only [Rep] at r
  obtain ⟨a, es, vs, n, rfl, e, _⟩ := r
  exact ⟨⟨_, e, rfl⟩, fun b z => by cases z; exact ⟨_, e, rfl⟩⟩
theorem type_enc : typeOf (.builtin "str.encode") = pure (.type "method_descriptor") := by show builtinType _ = _; rw [builtinType_eq_fast]; kernel_rfl
theorem type_dec : typeOf (.builtin "bytes.decode") = pure (.type "method_descriptor") := by show builtinType _ = _; rw [builtinType_eq_fast]; kernel_rfl
theorem type_get : typeOf (.builtin "dict.get") = pure (.type "method_descriptor") := by show builtinType _ = _; rw [builtinType_eq_fast]; kernel_rfl
def encMW (d : PV) (ds : List PV) (K' : PV → Prop) : Prop := match d, ds with
  | .str x, [.str c] => ∃ b, (c = Str.ofString "utf-8" ∨ c = Str.ofString "utf8") ∧ EncIs x b ∧ b.length ≤ 16777216 ∧ K' (.bytes b)
  | _, _ => False
theorem TE.encode (L : Lg C D) {o a : Expr} {ap pos} (hline : (ap.endLine == pos.line) = true) (hbase : ∀ env, attributeBase o "encode" env (eval o env) = eval o env) (hn : notStar a = true)
    (h : TE C o σ (fun d σ₁ => (∃ x, d = .str x) ∧ TE C a σ₁ (fun e σ₂ => encMW d [e] fun r => Q r σ₂) R) R) : TE C (.Call (.Attribute o "encode" ap) [a] [] pos) σ Q R :=
  TE.meth L.ok (one_arg hn) (by simp) hline hbase PySem.F.plainAttrs_str PySem.F.slot_str_encode type_enc (TE.mono h (fun d σ₁ ⟨⟨x, hx⟩, q⟩ => by
    subst hx
    exact ⟨fun s X v r => ty_str r, TA.cons hn (TE.mono q (fun e σ₂ q => TA.nil (TC.pur fun s X vs I r => by
      obtain ⟨v, u, rfl, r', ru⟩ := rep2 r
      cases e <;> try exact q.elim
      obtain ⟨b, q1, q2, q3, q4⟩ := q
      exact encW_sound q1 r' ru q2 q3 q4)) fun _ _ z => z)⟩) fun _ _ z => z)
def decMW (d : PV) (ds : List PV) (K' : PV → Prop) : Prop := match d, ds with
  | .bytes b, [.str c] => ∃ x, c = Str.ofString "utf-8" ∧ DecIs b x ∧ K' (.str x)
  | _, _ => False
theorem TE.decode (L : Lg C D) {o a : Expr} {ap pos} (hline : (ap.endLine == pos.line) = true) (hbase : ∀ env, attributeBase o "decode" env (eval o env) = eval o env) (hn : notStar a = true)
    (h : TE C o σ (fun d σ₁ => (∃ x, d = .bytes x) ∧ TE C a σ₁ (fun e σ₂ => decMW d [e] fun r => Q r σ₂) R) R) : TE C (.Call (.Attribute o "decode" ap) [a] [] pos) σ Q R :=
  TE.meth L.ok (one_arg hn) (by simp) hline hbase W.FB.plainAttrs_bytes W.FB.slot_bytes_decode type_dec (TE.mono h (fun d σ₁ ⟨⟨x, hx⟩, q⟩ => by
    subst hx
    exact ⟨fun s X v r => ty_bytes r, TA.cons hn (TE.mono q (fun e σ₂ q => TA.nil (TC.pur fun s X vs I r => by
      obtain ⟨v, u, rfl, r', ru⟩ := rep2 r
      cases e <;> try exact q.elim
      obtain ⟨b, rfl, q2, q3⟩ := q
      exact decW_sound r' ru q2 q3)) fun _ _ z => z)⟩) fun _ _ z => z)
def getMW (d : PV) (ds : List PV) (K' : PV → Prop) : Prop := match d, ds with
  | .dict ks _, [.str c] => (ks.Nodup ∧ c ∉ ks) ∧ K' .none
  | _, _ => False
theorem TE.get (L : Lg C D) {o a : Expr} {ap pos} (hline : (ap.endLine == pos.line) = true) (hbase : ∀ env, attributeBase o "get" env (eval o env) = eval o env) (hn : notStar a = true)
    (h : TE C o σ (fun d σ₁ => (∃ ks ds, d = .dict ks ds) ∧ TE C a σ₁ (fun e σ₂ => getMW d [e] fun r => Q r σ₂) R) R) : TE C (.Call (.Attribute o "get" ap) [a] [] pos) σ Q R :=
  TE.meth L.ok (one_arg hn) (by simp) hline hbase PySem.F.plainAttrs_dict PySem.F.slot_dict_get type_get (TE.mono h (fun d σ₁ ⟨⟨ks, ds, hx⟩, q⟩ => by
    subst hx
    exact ⟨fun s X v r => ty_dict r, TA.cons hn (TE.mono q (fun e σ₂ q => TA.nil (TC.pur fun s X vs I r => by
      obtain ⟨v, u, rfl, r', ru⟩ := rep2 r
      cases e <;> try exact q.elim
      exact getNone_sound q.1.1 q.1.2 r' ru q.2)) fun _ _ z => z)⟩) fun _ _ z => z)
def joinMW (d e : PV) (K' : PV → Prop) : Prop := match d, e with
  | .bytes [], .list ds => ∃ bs, bytesOf ds = some bs ∧ bs.flatten.length ≤ 16777216 ∧ K' (.bytes bs.flatten)
  | _, _ => False
theorem TE.join (L : Lg C D) {o a : Expr} {ap pos} (hline : (ap.endLine == pos.line) = true) (hbase : ∀ env, attributeBase o "join" env (eval o env) = eval o env) (hn : notStar a = true)
    (h : TE C o σ (fun d σ₁ => (∃ x, d = .bytes x) ∧ TE C a σ₁ (fun e σ₂ => joinMW d e fun r => Q r σ₂) R) R) : TE C (.Call (.Attribute o "join" ap) [a] [] pos) σ Q R :=
  TE.meth L.ok (one_arg hn) (by simp) hline hbase W.FB.plainAttrs_bytes slot_join type_join (TE.mono h (fun d σ₁ ⟨⟨x, hx⟩, q⟩ => by
    subst hx
    exact ⟨fun s X v r => ty_bytes r, TA.cons hn (TE.mono q (fun e σ₂ q => TA.nil (TC.pur fun s X vs I r => by
      obtain ⟨v, u, rfl, r', ru⟩ := rep2 r
      cases e <;> try (cases x <;> exact q.elim)
      cases x <;> try exact q.elim
      obtain ⟨b, q1, q2, q3⟩ := q
      exact joinW_sound q1 q2 r' ru q3)) fun _ _ z => z)⟩) fun _ _ z => z)
theorem fc_from (P : Params) : findCls (K P) (.type "int") (.type "type") (PySem.Str.ofString "from_bytes") = some (.get (.builtin "classmethod_descriptor.__get__") (.builtin "int.from_bytes") .none (.type "int")) := by kernel_rfl
end
end Mine
end
section
namespace Mine
theorem own_ne_none {σ : St} {x : Str} (h : σ.own = none) : σ.own ≠ some x := fun e => by rw [h] at e; cases e
theorem own_ne {σ : St} {x y : Str} (h : σ.own = some y) (hy : (y == x) = false) : σ.own ≠ some x := fun e => by rw [h] at e; cases e; simp at hy
def Bnd (fd : FuncData) (names : List Str) : Prop := ∀ us : List Value, us.length = names.length → bindArgs fd ⟨us, []⟩ = pure (names.zip us)
section
variable {fd : FuncData} {x1 x2 x3 x4 x5 x6 x7 : Str}
theorem bnd1 (h : ∀ a, bindArgs fd ⟨[a], []⟩ = pure [(x1, a)]) : Bnd fd [x1]
  | [a], _ => h a
theorem bnd2 (h : ∀ a b, bindArgs fd ⟨[a, b], []⟩ = pure [(x1, a), (x2, b)]) : Bnd fd [x1, x2]
  | [a, b], _ => h a b
theorem bnd3 (h : ∀ a b c, bindArgs fd ⟨[a, b, c], []⟩ = pure [(x1, a), (x2, b), (x3, c)]) : Bnd fd [x1, x2, x3]
  | [a, b, c], _ => h a b c
theorem bnd4 (h : ∀ a b c d, bindArgs fd ⟨[a, b, c, d], []⟩ = pure [(x1, a), (x2, b), (x3, c), (x4, d)]) : Bnd fd [x1, x2, x3, x4]
  | [a, b, c, d], _ => h a b c d
theorem bnd5 (h : ∀ a b c d e, bindArgs fd ⟨[a, b, c, d, e], []⟩ = pure [(x1, a), (x2, b), (x3, c), (x4, d), (x5, e)]) : Bnd fd [x1, x2, x3, x4, x5]
  | [a, b, c, d, e], _ => h a b c d e
theorem bnd6 (h : ∀ a b c d e f, bindArgs fd ⟨[a, b, c, d, e, f], []⟩ = pure [(x1, a), (x2, b), (x3, c), (x4, d), (x5, e), (x6, f)]) : Bnd fd [x1, x2, x3, x4, x5, x6]
  | [a, b, c, d, e, f], _ => h a b c d e f
theorem bnd7 (h : ∀ a b c d e f g, bindArgs fd ⟨[a, b, c, d, e, f, g], []⟩ = pure [(x1, a), (x2, b), (x3, c), (x4, d), (x5, e), (x6, f), (x7, g)]) : Bnd fd [x1, x2, x3, x4, x5, x6, x7]
  | [a, b, c, d, e, f, g], _ => h a b c d e f g
end
structure FdOk (fd : FuncData) (names : List Str) : Prop where
  glob : fd.globals = mainGlobals
  blt : fd.builtins = builtinsNs
  clo : fd.closure = []
  co : fd.scope.isCoroutine = false
  gen : fd.scope.isGenerator = false
  kind : fd.scope.kind = .function
  kinds : (names.all fun x => fd.scope.names.lookup x == some .local || fd.scope.names.lookup x == some .cell) = true
  nd : names.Nodup
  code : ∀ P, codeIn (K P) fd.code fd.qualname = true
/-- entering a def -/
theorem enter {n : Nat} {f : Addr} {fd : FuncData} {body : List Stmt} {names : List Str} {ds : List PV} {Qd : PV → Prop} {Rx : Exc → Prop} (ho : ∀ P, (K P).lookup f = some (fobj fd)) (ok : FdOk fd names) (hb : Bnd fd names)
    (hbody : fd.body = .stmts body) (hl : ds.length = names.length)
    (h : ∀ C, C.Ok → Lk glF K C ⟨fd.scope.names, n, none⟩ → Lg C ⟨fd.scope.names, n, none⟩ → C.lw = true → C.cw = true → C.hd = none → TS C body ⟨names.zip ds, none⟩ (fun o _ => Qd (retOf o)) fun x _ => Rx x) :
    CallOk glF K (n + 1) f ds Qd Rx :=
  CallG.intro (hd0 := fun q => q = none) (names := names) (fun P base v e => ⟨none, rfl, e⟩) (fun P => ⟨_, _, _, ho P⟩) ok.code hbody ok.glob ok.blt ok.clo ok.co ok.gen ok.kind
    (fun P s X vs _ _ r => ⟨vs, BindsTo.of_eq (hb vs (by rw [Reps.length r, hl])), r⟩)
    (fun x hx => by
      have := List.all_eq_true.mp ok.kinds x hx
      simpa using this) ok.nd
    fun C q hq L h1 h2 => by subst hq; exact h C L.ok L L.toLs h1 h2 L.hd
section
variable {K : PV → Prop} {KB : Bool → Prop} {KI : Int → Prop} {x y : Int} {a b : List UInt8} {s t : Str} {l m : List PV} {d e : PV} {lo hi : Option Int} {ks : List Str} {p q : Bool}
theorem bw1 : binW .Add (.int x) (.int y) K = K (.int (x + y)) := rfl
theorem bw2 : binW .Sub (.int x) (.int y) K = K (.int (x - y)) := rfl
theorem bw3 : binW .Mod (.int x) (.int y) K = (y ≠ 0 ∧ K (.int (x.fmod y))) := rfl
theorem bw4 : binW .FloorDiv (.int x) (.int y) K = ((y ≠ 0 ∧ Builtin.divisionGoesByPylong x y = false) ∧ K (.int (x.fdiv y))) := rfl
theorem bw5 : binW .Add (.str s) (.str t) K = (s.length + t.length ≤ 16777216 ∧ K (.str (s ++ t))) := rfl
theorem bw6 : binW .Add (.bytes a) (.bytes b) K = (a.length + b.length ≤ 16777216 ∧ K (.bytes (a ++ b))) := rfl
theorem bw7 : binW .Add (.list l) (.list m) K = (l.length + m.length ≤ 16777216 ∧ K (.list (l ++ m))) := rfl
theorem aw1 : augW .Add (.int x) (.int y) K = K (.int (x + y)) := rfl
theorem aw2 : augW .Sub (.int x) (.int y) K = K (.int (x - y)) := rfl
theorem uw1 : unW .USub (.int x) K = K (.int (-x)) := rfl
theorem cw1 : cmpW .Eq (.int x) (.int y) KB = KB (x == y) := rfl
theorem cw2 : cmpW .NotEq (.int x) (.int y) KB = KB (x != y) := rfl
theorem cw3 : cmpW .Lt (.int x) (.int y) KB = KB (decide (x < y)) := rfl
theorem cw4 : cmpW .LtE (.int x) (.int y) KB = KB (decide (x ≤ y)) := rfl
theorem cw5 : cmpW .Gt (.int x) (.int y) KB = KB (decide (y < x)) := rfl
theorem cw6 : cmpW .GtE (.int x) (.int y) KB = KB (decide (y ≤ x)) := rfl
theorem cw7 : cmpW .Eq (.bytes a) (.bytes b) KB = KB (a == b) := rfl
theorem cw8 : cmpW .NotEq (.bytes a) (.bytes b) KB = KB (a != b) := rfl
theorem cw9 : cmpW .Eq (.str s) (.str t) KB = KB (s == t) := rfl
theorem cw10 : cmpW .NotEq (.str s) (.str t) KB = KB (s != t) := rfl
theorem cw12 : cmpW .In (.str s) (.str t) KB = KB (!(Builtin.Str.occurrences t s 0 t.length 1).isEmpty) := rfl
theorem cw11 : cmpW .In (.str s) (.dict ks l) KB = KB (ks.contains s) := rfl
theorem tw1 : truW .none KB = KB false := rfl
theorem tw2 : truW (.bool p) KB = KB p := rfl
theorem tw3 : truW (.int x) KB = KB (x != 0) := rfl
theorem tw4 : truW (.bytes a) KB = (a.length ≤ 1099511627776 ∧ KB (((a.length : Nat) : Int) != 0)) := rfl
theorem lw1 : lenW (.str s) KI = (s.length ≤ 16777216 ∧ KI (s.length : Nat)) := rfl
theorem lw2 : lenW (.bytes a) KI = (a.length ≤ 16777216 ∧ KI (a.length : Nat)) := rfl
theorem lw3 : lenW (.list l) KI = (l.length ≤ 16777216 ∧ KI (l.length : Nat)) := rfl
theorem sw1 : strW (.int x) K = (x.natAbs.log2 < 1920 ∧ K (.str (Str.ofString (toString x)))) := rfl
theorem yw1 : bytesW (.list l) K = (∃ ns, intsOf l = some ns ∧ (∀ n ∈ ns, 0 ≤ n ∧ n < 256) ∧ l.length ≤ 16777216 ∧ K (.bytes (ns.map fun n => n.toNat.toUInt8))) := rfl
theorem ew1 : encMW (.str s) [.str t] K = (∃ b, (t = Str.ofString "utf-8" ∨ t = Str.ofString "utf8") ∧ EncIs s b ∧ b.length ≤ 16777216 ∧ K (.bytes b)) := rfl
theorem dw1 : decMW (.bytes a) [.str t] K = (∃ x, t = Str.ofString "utf-8" ∧ DecIs a x ∧ K (.str x)) := rfl
theorem gw1 : getMW (.dict ks l) [.str s] K = ((ks.Nodup ∧ s ∉ ks) ∧ K .none) := rfl
theorem jw1 : joinMW (.bytes []) (.list l) K = (∃ bs, bytesOf l = some bs ∧ bs.flatten.length ≤ 16777216 ∧ K (.bytes bs.flatten)) := rfl
theorem iw1 : intW (.int x) KI = KI x := rfl
theorem xw1 : itemW (.bytes a) (.int x) K = ((0 ≤ x ∧ x < a.length ∧ a.length ≤ 1099511627776) ∧ K (.int ((a.getD x.toNat 0).toNat : Int))) := rfl
theorem xw2 : itemW (.list l) (.int x) K = ((0 ≤ x ∧ x < 2 ^ 63) ∧ (match l[x.toNat]? with | some d => K d | none => False)) := rfl
theorem xw3 : itemW (.tuple l) (.int x) K = ((0 ≤ x ∧ x < 2 ^ 63) ∧ (match l[x.toNat]? with | some d => K d | none => False)) := rfl
theorem xw4 : itemW (.str s) (.int x) K = ((0 ≤ x ∧ x < s.length ∧ s.length ≤ 1099511627776) ∧ K (.str ⟨#[s.cps.getD x.toNat 0]⟩)) := rfl
theorem vw1 : sliceW (.bytes a) lo hi K = (a.length ≤ 16777216 ∧ K (.bytes (cutF a lo hi))) := rfl
theorem vw2 : sliceW (.list l) lo hi K = (l.length ≤ 16777216 ∧ K (.list (cutF l lo hi))) := rfl
theorem vw3 : sliceW (.str s) none (some x) K = ((s.length ≤ 16777216 ∧ (strCut s x).length ≤ 16777216) ∧ K (.str (strCut s x))) := rfl
theorem is_n : cmpW .Is .none .none KB = (true = true ∧ KB true) := rfl
theorem isn_n : cmpW .IsNot .none .none KB = (true = true ∧ KB false) := rfl
theorem is_b : cmpW .Is (.bool p) .none KB = (true = true ∧ KB false) := rfl
theorem isn_b : cmpW .IsNot (.bool p) .none KB = (true = true ∧ KB true) := rfl
theorem is_i : cmpW .Is (.int x) .none KB = (true = true ∧ KB false) := rfl
theorem isn_i : cmpW .IsNot (.int x) .none KB = (true = true ∧ KB true) := rfl
theorem is_s : cmpW .Is (.str s) .none KB = (true = true ∧ KB false) := rfl
theorem isn_s : cmpW .IsNot (.str s) .none KB = (true = true ∧ KB true) := rfl
theorem is_y : cmpW .Is (.bytes a) .none KB = (true = true ∧ KB false) := rfl
theorem isn_y : cmpW .IsNot (.bytes a) .none KB = (true = true ∧ KB true) := rfl
theorem is_l : cmpW .Is (.list l) .none KB = (true = true ∧ KB false) := rfl
theorem isn_l : cmpW .IsNot (.list l) .none KB = (true = true ∧ KB true) := rfl
theorem is_t : cmpW .Is (.tuple l) .none KB = (true = true ∧ KB false) := rfl
theorem isn_t : cmpW .IsNot (.tuple l) .none KB = (true = true ∧ KB true) := rfl
theorem is_d : cmpW .Is (.dict ks l) .none KB = (true = true ∧ KB false) := rfl
theorem isn_d : cmpW .IsNot (.dict ks l) .none KB = (true = true ∧ KB true) := rfl
theorem is_c : cmpW .Is (.code s d) .none KB = (true = true ∧ KB false) := rfl
theorem isn_c : cmpW .IsNot (.code s d) .none KB = (true = true ∧ KB true) := rfl
end
theorem go_t {c : Prop} [Decidable c] {A B : Prop} (h : c) (a : A) : if c then A else B := by rw [if_pos h]; exact a
theorem go_f {c : Prop} [Decidable c] {A B : Prop} (h : ¬ c) (b : B) : if c then A else B := by rw [if_neg h]; exact b
theorem clip_nn {n : Nat} {i : Int} (h : 0 ≤ i) : clipAt n i = min i.toNat n := by
  unfold clipAt
  rw [if_neg (by omega)]
  first | rfl | omega | (simp; omega)
theorem cut_ij {α : Type} {l : List α} {i j : Int} (hi : 0 ≤ i) (hj : 0 ≤ j) : cutF l (some i) (some j) = (l.drop i.toNat).take (j.toNat - i.toNat) := by
  unfold cutF
  simp only [Option.elim, clip_nn hi, clip_nn hj]
  by_cases h1 : i.toNat ≤ l.length
  · rw [Nat.min_eq_left h1]
    by_cases h2 : j.toNat ≤ l.length
    · rw [Nat.min_eq_left h2]
    · have a1 : (l.drop i.toNat).take (l.length - i.toNat) = l.drop i.toNat := List.take_of_length_le (by simp)
      have a2 : (l.drop i.toNat).take (j.toNat - i.toNat) = l.drop i.toNat := List.take_of_length_le (by simp; omega)
      rw [Nat.min_eq_right (a := j.toNat) (b := l.length) (by omega), a1, a2]
  · have a1 : l.drop l.length = [] := by simp
    have a2 : l.drop i.toNat = [] := List.drop_of_length_le (by omega)
    rw [Nat.min_eq_right (a := i.toNat) (b := l.length) (by omega), a1, a2]
    simp
theorem cut_i {α : Type} {l : List α} {i : Int} (hi : 0 ≤ i) : cutF l (some i) none = l.drop i.toNat := by
  unfold cutF
  simp only [Option.elim, clip_nn hi]
  by_cases h1 : i.toNat ≤ l.length
  · rw [Nat.min_eq_left h1, List.take_of_length_le (by simp)]
  · have a1 : l.drop l.length = [] := by simp
    have a2 : l.drop i.toNat = [] := List.drop_of_length_le (by omega)
    rw [Nat.min_eq_right (a := i.toNat) (b := l.length) (by omega), a1, a2]
    simp
theorem cut_j {α : Type} {l : List α} {j : Int} (hj : 0 ≤ j) : cutF l none (some j) = l.take j.toNat := by
  unfold cutF
  simp only [Option.elim, clip_nn hj, List.drop_zero, Nat.sub_zero]
  by_cases h2 : j.toNat ≤ l.length
  · rw [Nat.min_eq_left h2]
  · have a1 : l.take l.length = l := by simp
    have a2 : l.take j.toNat = l := List.take_of_length_le (by omega)
    rw [Nat.min_eq_right (a := j.toNat) (b := l.length) (by omega), a1, a2]
end Mine
end
section
namespace Mine
theorem octVal_append : ∀ (a b : List UInt8), octVal (a ++ b) = octVal a + 256 ^ a.length * octVal b
  | [], b => by simp [octVal]
  | x :: a, b => by
    rw [List.cons_append]
    show x.toNat + 256 * octVal (a ++ b) = x.toNat + 256 * octVal a + _
    rw [octVal_append a b, List.length_cons, Nat.pow_succ, Nat.mul_add, Nat.mul_comm (256 ^ a.length) 256, Nat.mul_assoc]
    omega
theorem octVal_fill (n : Nat) : octVal (List.replicate n (255 : UInt8)) + 1 = 256 ^ n := by
  induction n with
  | zero => rfl
  | succ n ih =>
    rw [List.replicate_succ, Nat.pow_succ]
    show (255 : UInt8).toNat + 256 * octVal _ + 1 = _
    rw [show (255 : UInt8).toNat = 255 from rfl]
    omega
theorem octVal_zeros (n : Nat) : octVal (List.replicate n (0 : UInt8)) = 0 := by
  induction n with
  | zero => rfl
  | succ n ih =>
    rw [List.replicate_succ]
    show (0 : UInt8).toNat + 256 * octVal _ = _
    rw [ih]; rfl
theorem octVal_digits (X : Nat) : ∀ (m : Nat), octVal ((List.range m).map fun i => ((X >>> (8 * i)) % 256).toUInt8) = X % 256 ^ m
  | 0 => by simp [octVal, Nat.mod_one]
  | m + 1 => by
    rw [List.range_succ, List.map_append, octVal_append, octVal_digits X m, List.length_map, List.length_range]
    show _ + 256 ^ m * (((X >>> (8 * m)) % 256).toUInt8.toNat + 256 * 0) = _
    rw [KTBy.byte_at, Nat.mul_zero, Nat.add_zero, Nat.pow_succ, Nat.mod_mul]
theorem octVal_low4 {x : Int} (h1 : -2147483648 ≤ x) (h2 : x < 2147483648) : (octVal (KTBy.low x 4) : Int) = if x < 0 then x + 4294967296 else x := by
  have key : ∀ m, m ≤ 4 → 1 ≤ m → (m < 4 → x.natAbs < 2 ^ (8 * m - 1)) →
      ((octVal ((List.range m).map (fun i => (((x % (256 ^ m : Int)).toNat >>> (8 * i)) % 256).toUInt8) ++ List.replicate (4 - m) (if x < 0 then (255 : UInt8) else 0)) : Nat) : Int) = if x < 0 then x + 4294967296 else x := by
    intro m a1 a2 a3
    rw [octVal_append, octVal_digits, List.length_map, List.length_range]
    have hm : m = 1 ∨ m = 2 ∨ m = 3 ∨ m = 4 := by omega
    by_cases hx : x < 0
    · simp only [if_pos hx]
      rcases hm with rfl | rfl | rfl | rfl
      · have f := octVal_fill 3
        have := a3 (by omega)
        simp only [Nat.reduceMul, Nat.reduceSub, Nat.reducePow, Int.reducePow] at *
        omega
      · have f := octVal_fill 2
        have := a3 (by omega)
        simp only [Nat.reduceMul, Nat.reduceSub, Nat.reducePow, Int.reducePow] at *
        omega
      · have f := octVal_fill 1
        have := a3 (by omega)
        simp only [Nat.reduceMul, Nat.reduceSub, Nat.reducePow, Int.reducePow] at *
        omega
      · have f := octVal_fill 0
        simp only [Nat.reduceMul, Nat.reduceSub, Nat.reducePow, Int.reducePow] at *
        omega
    · simp only [if_neg hx, octVal_zeros, Nat.mul_zero, Nat.add_zero]
      rcases hm with rfl | rfl | rfl | rfl
      · have := a3 (by omega)
        simp only [Nat.reduceMul, Nat.reduceSub, Nat.reducePow, Int.reducePow] at *
        omega
      · have := a3 (by omega)
        simp only [Nat.reduceMul, Nat.reduceSub, Nat.reducePow, Int.reducePow] at *
        omega
      · have := a3 (by omega)
        simp only [Nat.reduceMul, Nat.reduceSub, Nat.reducePow, Int.reducePow] at *
        omega
      · simp only [Nat.reduceMul, Nat.reduceSub, Nat.reducePow, Int.reducePow] at *
        omega
  unfold KTBy.low
  refine key _ (by omega) (by omega) fun hlt => ?_
  have hb : Builtin.Int.intBits x ≤ 8 * (min 4 (Builtin.Int.intBits x / 8 + 1)) - 1 := by omega
  exact intBits_le_iff.mp hb
theorem octInt_low4 {x : Int} (h1 : -2147483648 ≤ x) (h2 : x < 2147483648) : octInt true (KTBy.low x 4) = x := by
  have hv := octVal_low4 h1 h2
  have hl := KTBy.low_length x 4
  unfold octInt
  generalize KTBy.low x 4 = b at *
  match b, hl with
  | [b0, b1, b2, b3], _ =>
    have n0 := b0.toNat_lt; have n1 := b1.toNat_lt; have n2 := b2.toNat_lt; have n3 := b3.toNat_lt
    simp only [octVal, octNeg, List.reverse_cons, List.reverse_nil, List.nil_append, List.cons_append, List.head?_cons, Option.any_some, Bool.true_and, List.length_cons, List.length_nil] at hv ⊢
    have e : decide (b3 ≥ 128) = decide (128 ≤ b3.toNat) := by
      apply decide_eq_decide.mpr
      exact UInt8.le_iff_toNat_le
    rw [e]
    simp only [decide_eq_true_eq]
    split at hv <;> split <;> (try simp only [Int.reducePow, Nat.reduceAdd] at *) <;> omega
theorem low_nonneg {x : Int} {k : Nat} {b : Array UInt8} (h0 : 0 ≤ x) (h1 : x < 256 ^ k) (e : KBw.bInts b = KTBy.little k x) : b = (KTBy.low x k).toArray := by
  have e2 := KTBy.low_ints h0 h1
  rw [← KTBy.little_eq] at e2
  have e3 : b.toList.map (fun c : UInt8 => ((c.toNat : Nat) : Int)) = (KTBy.low x k).map fun c => ((c.toNat : Nat) : Int) := e.trans e2.symm
  have e4 : b.toList = KTBy.low x k := (List.map_inj_right fun x y q => UInt8.toNat_inj.mp (by exact_mod_cast q)).mp e3
  rw [← e4]
section
variable {C : Cx} {σ : St} {R : Exc → St → Prop} {Q : PV → St → Prop}
/-- o.to_bytes(4, "little"), of a small number -/
theorem TE.toBytesU {o e1 e2 : Expr} {ap pos : Pos} (ok : C.Ok) (hline : (ap.endLine == pos.line) = true)
    (hbase : ∀ env, attributeBase o (Str.ofString "to_bytes") env (eval o env) = eval o env) (ha : [e1, e2].all notStar = true)
    (h : TE C o σ (fun d σ₀ => (∃ i, d = .int i) ∧ TA C [e1, e2] σ₀ (fun ds σ₁ => ∃ k : Nat, ds = [.int k, .str (Str.ofString "little")] ∧ ∀ i, d = .int i → (k = 4 ∧ 0 ≤ i ∧ i < 2147483648) ∧ Q (.bytes (KTBy.low i 4)) σ₁) R) R) :
    TE C (.Call (.Attribute o (Str.ofString "to_bytes") ap) [e1, e2] [] pos) σ Q R :=
  TE.meth ok ha (by simp) hline hbase PySem.F.plainAttrs_int KTBy.slot KTBy.type_eq (TE.mono h (fun d σ₁ ⟨⟨i, hi⟩, q⟩ => by
    subst hi
    refine ⟨fun s X v r => ?_, TA.mono q (fun ds σ₂ ⟨k, e, q⟩ => TC.pur fun s X vs I r => ?_) fun _ _ z => z⟩
    · simp only [Rep] at r; obtain ⟨t, rfl⟩ := r; exact ⟨typeIs_int _ _ _, fun a e => nomatch e⟩
    · subst e
      obtain ⟨⟨rfl, h0, h1⟩, q'⟩ := q i rfl
      simp only [Reps, Rep] at r
      obtain ⟨_, _, rfl, ⟨t, rfl⟩, _, _, rfl, ⟨u, rfl⟩, _, _, rfl, ⟨v, rfl⟩, rfl⟩ := r
      refine Pur.tok q' fun E Q' k' => KTBy.to_little (B := 4294967296) (by omega) (by decide) h0 (by omega) fun b t' k2 e _ => ?_
      rw [low_nonneg h0 (by show i < 4294967296; omega) e]
      exact k' _ _ fun _ _ => rep_bytes _ _) fun _ _ z => z)
end
theorem intOnly {P : Int → Prop} {x : Int} (h : P x) : ∀ i, PV.int x = .int i → P i := fun _ e => by cases e; exact h
theorem ret1 {d : PV} : retOf (.ret d) = d := rfl
theorem ret0 : retOf .next = .none := rfl
section
variable {C : Cx} {D : Dn} {σ : St} {Q : PV → St → Prop} {R : Exc → St → Prop}
theorem Ls.go (L : Lg C D) {n : Nat} {f : Addr} {ds : List PV} {r : PV} (h : CallOk glF K n f ds (fun d => d = r) fun _ => False) (hn : n ≤ D.n) (hh : C.hd = none) (q : Q r σ) : TC C (.ref f) ds σ Q R :=
  L.dn h hn hh (fun _ e => e ▸ q) fun _ z => z.elim
end
theorem none_ne {x : Str} : (none : Option Str) ≠ some x := nofun
theorem some_ne {x y : Str} (h : (y == x) = false) : some y ≠ some x := fun e => by cases e; simp at h
theorem itemT {l : List PV} {i : Int} {d : PV} {K' : PV → Prop} (h : 0 ≤ i ∧ i < 2 ^ 63) (e : l[i.toNat]? = some d) (k : K' d) : itemW (.tuple l) (.int i) K' := ⟨h, by rw [e]; exact k⟩
theorem itemL {l : List PV} {i : Int} {d : PV} {K' : PV → Prop} (h : 0 ≤ i ∧ i < 2 ^ 63) (e : l[i.toNat]? = some d) (k : K' d) : itemW (.list l) (.int i) K' := ⟨h, by rw [e]; exact k⟩
theorem isW_b {d : PV} {t c : Value} {K' : Bool → Prop} (b : Bool) (e : clsOf d = some t) (k : ∀ P, kitOne (K P) t c = some b) (h : K' b) : isW d c K' := by unfold isW; rw [e]; exact ⟨b, k, h⟩
theorem isW2_b {d : PV} {t : Value} {cs : List Value} {K' : Bool → Prop} (b : Bool) (e : clsOf d = some t) (k : ∀ P, kitAny (K P) t cs = some b) (h : K' b) : isW2 d cs K' := by unfold isW2; rw [e]; exact ⟨b, k, h⟩
def isB (t c : Value) : Bool := match t, c with
  | .type a, .type b => a == b || (a == "bool" && b == "int")
  | .ref a, .ref b => a == b
  | _, _ => false
def isKnown (t c : Value) : Bool := (["NoneType", "bool", "int", "str", "bytes", "list", "tuple", "dict"].any fun a => t == .type a) && ((["bool", "int", "str", "bytes", "list", "tuple", "dict"].any fun a => c == .type a) || ([46, 152, 196, 334, 656].any fun a => c == .ref a)) || (t == .ref 196 && ((["bool", "int", "str", "bytes", "list", "tuple", "dict"].any fun a => c == .type a) || ([46, 152, 196, 334, 656].any fun a => c == .ref a)))
theorem kit_is {t c : Value} (h : isKnown t c = true) (P : Params) : kitOne (K P) t c = some (isB t c) := by
  simp only [isKnown, Bool.or_eq_true, Bool.and_eq_true, List.any_cons, List.any_nil, Bool.or_false, beq_iff_eq] at h
  rcases h with ⟨rfl | rfl | rfl | rfl | rfl | rfl | rfl | rfl, ((rfl | rfl | rfl | rfl | rfl | rfl | rfl) | (rfl | rfl | rfl | rfl | rfl))⟩ | ⟨rfl, ((rfl | rfl | rfl | rfl | rfl | rfl | rfl) | (rfl | rfl | rfl | rfl | rfl))⟩ <;> kernel_rfl
theorem isW_k {d : PV} {t c : Value} {K' : Bool → Prop} (e : clsOf d = some t) (k : isKnown t c = true) (h : K' (isB t c)) : isW d c K' := isW_b _ e (fun P => kit_is k P) h
theorem isW2_k {d : PV} {t c c' : Value} {K' : Bool → Prop} (e : clsOf d = some t) (k : (isKnown t c && isKnown t c') = true) (h : K' (isB t c || isB t c')) : isW2 d [c, c'] K' := isW2_b _ e (fun P => by
  obtain ⟨k1, k2⟩ := Bool.and_eq_true_iff.mp k
  unfold kitAny kitAny kitAny
  rw [kit_is k1, kit_is k2]
  cases isB t c <;> cases isB t c' <;> rfl) h
theorem isW_o {K' : Bool → Prop} (h : K' true) : isW (.ext (.ref 262)) (.ref 256) K' := ⟨rfl, rfl, h⟩
abbrev noX : Exc → Prop := fun _ => False
abbrev opts : PV := .ext (.ref 262)
theorem bits4 {i : Int} (h1 : -2147483648 ≤ i) (h2 : i < 2147483648) : i = 0 ∨ Builtin.Int.intBits (if i < 0 then -i - 1 else i) + 1 ≤ 8 * 4 := by
  right
  have : Builtin.Int.intBits (if i < 0 then -i - 1 else i) ≤ 31 := by
    refine intBits_le_iff.mpr ?_
    split <;> omega
  omega
end Mine
end
namespace Mine
local macro_rules | `(tactic| tbr_iter "side") => `(tactic| first
  | with_reducible assumption
  | with_reducible rfl
  | exact Bool.false_ne_true
  | decide
  | exact ⟨_, rfl⟩
  | exact ⟨_, _, rfl⟩
  | omega
  | (simp only [decide_eq_true_eq, Bool.not_eq_true', decide_eq_false_iff_not, beq_iff_eq, bne_iff_ne, ne_eq, Bool.not_eq_true, beq_eq_false_iff_ne, List.length_cons, List.length_nil, List.length_append, List.length_take, List.length_drop]; omega))
local macro_rules | `(tactic| tbr_iter "gl") => `(tactic| first | with_reducible exact gl__unpack | with_reducible exact gl__UNPACK_INT_FROM | with_reducible exact gl__utf_8_decode | with_reducible exact gl__utf_8_encode | with_reducible exact gl__index_nul | with_reducible exact gl_get_data_and_view | with_reducible exact gl__raise_unknown_type | with_reducible exact gl__get_int | with_reducible exact gl__get_c_string | with_reducible exact gl__get_string | with_reducible exact gl__get_object_size | with_reducible exact gl__get_object | with_reducible exact gl__get_array | with_reducible exact gl__get_boolean | with_reducible exact gl__get_code | with_reducible exact gl__get_code_w_scope | with_reducible exact gl__get_element | with_reducible exact gl__element_to_dict | with_reducible exact gl__elements_to_dict | with_reducible exact gl__bson_to_dict | with_reducible exact gl__PACK_INT | with_reducible exact gl__make_c_string | with_reducible exact gl__make_name | with_reducible exact gl__encode_mapping | with_reducible exact gl__encode_list | with_reducible exact gl__encode_text | with_reducible exact gl__encode_bool | with_reducible exact gl__encode_none | with_reducible exact gl__encode_code | with_reducible exact gl__encode_int | with_reducible exact gl__name_value_to_bson | with_reducible exact gl__element_to_bson | with_reducible exact gl__dict_to_bson | with_reducible exact gl_encode | with_reducible exact gl_decode | with_reducible exact gl__decode_all | with_reducible exact gl_decode_all | with_reducible exact gl_is_valid | with_reducible exact gl__law_leaf | with_reducible exact gl__law_laid | with_reducible exact gl__law_wrapped | with_reducible exact gl__law_all | with_reducible exact gl_law | with_reducible exact gl_UUID | with_reducible exact gl_Binary | with_reducible exact gl_Code | with_reducible exact gl_CodecOptions | with_reducible exact gl_DatetimeMS | with_reducible exact gl_Int64 | with_reducible exact gl_InvalidBSON | with_reducible exact gl_InvalidDocument | with_reducible exact gl_DEFAULT_CODEC_OPTIONS | with_reducible exact gl__law_rest | with_reducible exact gl_len | with_reducible exact gl_str | with_reducible exact gl_bytes | with_reducible exact gl_isinstance | with_reducible exact gl_range | with_reducible exact gl_enumerate | with_reducible exact gl_int | with_reducible exact gl_bool | with_reducible exact gl_dict | with_reducible exact gl_list | with_reducible exact gl_tuple | with_reducible exact gl_Exception | with_reducible exact gl_ValueError | with_reducible exact gl_KeyError | with_reducible exact gl_TypeError | with_reducible exact gl_OverflowError)
local macro_rules | `(tactic| tbr_iter "dbg") => `(tactic| first | exact str_ne (by decide) | rfl)
local macro_rules | `(tactic| tbr_iter "lk") => `(tactic| (repeat (first | with_reducible assumption | with_reducible exact hit | with_reducible exact hitT | with_reducible exact hit0 | with_reducible refine miss (str_ne (by decide)) ?_ | with_reducible refine missT (str_ne (by decide)) ?_ | with_reducible refine miss0 (str_ne (by decide)) ?_)))
local macro_rules | `(tactic| tbr_iter "nn") => `(tactic| first | exact none_ne | exact some_ne (str_ne (by decide)) | exact own_ne_none rfl | exact own_ne rfl (str_ne (by decide)))
local macro_rules | `(tactic| tbr_iter "can") => `(tactic| first | exact Ls.canL (by assumption) (by assumption) (by dsimp only; decide +kernel) | exact Ls.canC (by assumption) (by assumption) (by dsimp only; decide +kernel))
local macro_rules | `(tactic| tbr_iter "tt") => `(tactic| dsimp only [bw1, bw2, bw3, bw4, bw5, bw6, bw7, aw1, aw2, uw1, cw1, cw2, cw3, cw4, cw5, cw6, cw7, cw8, cw9, cw10, cw12, cw11, tw1, tw2, tw3, tw4, lw1, lw2, lw3, sw1, yw1, ew1, dw1, gw1, jw1, iw1, xw1, xw4, vw1, vw2, vw3, is_n, isn_n, is_b, isn_b, is_i, isn_i, is_s, isn_s, is_y, isn_y, is_l, isn_l, is_t, isn_t, is_d, isn_d, is_c, isn_c, Bool.not_true, Bool.not_false, Bool.false_eq_true, ret1, ret0, isB, if_true, if_false])
local macro_rules | `(tactic| tbr_iter "stmt") => `(tactic| first
  | with_reducible refine TS.nil ?_
  | with_reducible refine TS.cons ?_
  | with_reducible refine T1.ret ?_
  | with_reducible refine T1.if ?_
  | ((with_reducible refine' T1.assign ?ok ?k ?s ?_); (case ok => with_reducible assumption); (case k => tbr_iter "can"); (case s => rfl))
  | ((with_reducible refine' T1.aug ?ok ?k ?l ?o ?_); (case ok => with_reducible assumption); (case k => tbr_iter "can"); (case l => tbr_iter "lk"); (case o => tbr_iter "nn")))
local macro_rules | `(tactic| tbr_iter "name") => `(tactic| first
  | ((with_reducible refine' TE.nm ?L ?e ?d ?o ?_); (case L => with_reducible assumption); (case e => tbr_iter "lk"); (case d => tbr_iter "dbg"); (case o => rfl))
  | ((with_reducible refine' TE.nmO ?L ?e ?d ?o ?y ?_); (case L => with_reducible assumption); (case e => tbr_iter "lk"); (case d => tbr_iter "dbg"); (case o => rfl); (case y => exact str_ne (by decide)))
  | ((with_reducible refine' TE.nmX ?L ?e ?d ?o ?_); (case L => with_reducible assumption); (case e => tbr_iter "lk"); (case d => tbr_iter "dbg"); (case o => rfl))
  | ((with_reducible refine' TE.gn ?L ?k ?d ?e ?_); (case L => with_reducible assumption); (case k => kernel_rfl); (case d => tbr_iter "dbg"); (case e => tbr_iter "gl")))
local macro_rules | `(tactic| tbr_iter "call") => `(tactic| first
  | ((with_reducible refine' TE.len ?L ?k ?g ?n ?_); (case L => with_reducible assumption); (case k => kernel_rfl); (case g => exact gl_len); (case n => rfl))
  | ((with_reducible refine' TE.strI ?L ?k ?g ?n ?_); (case L => with_reducible assumption); (case k => kernel_rfl); (case g => exact gl_str); (case n => rfl))
  | ((with_reducible refine' TE.bytesI ?L ?h ?k ?g ?n ?_); (case L => with_reducible assumption); (case h => with_reducible assumption); (case k => kernel_rfl); (case g => exact gl_bytes); (case n => rfl))
  | ((with_reducible refine' TE.isa ?L ?k ?n ?kT ?hT ?g ?_); (case L => with_reducible assumption); (case k => kernel_rfl); (case n => rfl); (case kT => kernel_rfl); (case hT => tbr_iter "dbg"); (case g => tbr_iter "gl"))
  | ((with_reducible refine' TE.isa2 ?L ?k ?n ?k1 ?h1 ?g1 ?k2 ?h2 ?g2 ?_); (case L => with_reducible assumption); (case k => kernel_rfl); (case n => rfl); (case k1 => kernel_rfl); (case h1 => tbr_iter "dbg"); (case g1 => tbr_iter "gl"); (case k2 => kernel_rfl); (case h2 => tbr_iter "dbg"); (case g2 => tbr_iter "gl"))
  | ((with_reducible refine' TE.fn ?L ?k ?d ?n ?g ?f ?_); (case L => with_reducible assumption); (case k => kernel_rfl); (case d => tbr_iter "dbg"); (case n => rfl); (case g => tbr_iter "gl"); (case f => intro _; kernel_rfl))
  | ((with_reducible refine' TE.encode ?L ?l ?b ?n ?_); (case L => with_reducible assumption); (case l => rfl); (case b => intro _; rfl); (case n => rfl))
  | ((with_reducible refine' TE.decode ?L ?l ?b ?n ?_); (case L => with_reducible assumption); (case l => rfl); (case b => intro _; rfl); (case n => rfl))
  | ((with_reducible refine' TE.get ?L ?l ?b ?n ?_); (case L => with_reducible assumption); (case l => rfl); (case b => intro _; rfl); (case n => rfl))
  | ((with_reducible refine' TE.join ?L ?l ?b ?n ?_); (case L => with_reducible assumption); (case l => rfl); (case b => intro _; rfl); (case n => rfl))
  | ((with_reducible refine' TE.toBytesU ?ok ?l ?b ?n ?_); (case ok => with_reducible assumption); (case l => rfl); (case b => intro _; rfl); (case n => rfl))
  | ((with_reducible refine' TE.toBytes ?l ?b ?n ?_); (case l => rfl); (case b => intro _; rfl); (case n => rfl))
  | ((with_reducible refine' TE.fromBytes ?ok ?k ?g ?l ?b ?fc ?n ?_); (case ok => with_reducible assumption); (case k => exact Ls.kind (by assumption) (by kernel_rfl)); (case g => exact Ls.gv (by assumption) gl_int); (case l => rfl); (case b => intro _; rfl); (case fc => rw [Ls.kq (by assumption)]; exact fc_from _); (case n => rfl)))
local macro_rules | `(tactic| tbr_iter "test") => `(tactic| first
  | ((with_reducible refine' TB.cp ?m ?_); (case m => rfl))
  | ((with_reducible refine' TB.cp2 ?m ?m2 ?_); (case m => rfl); (case m2 => rfl))
  | with_reducible refine TB.not ?_
  | with_reducible refine TB.bool ?_
  | with_reducible refine TBs.and_nil ?_
  | with_reducible refine TBs.or_nil ?_
  | with_reducible refine TBs.and_cons ?_
  | with_reducible refine TBs.or_cons ?_
  | with_reducible refine TB.ifexp ?_
  | ((with_reducible refine' TB.val ?_ ?e); (case e => intro _ _; rfl)))
local macro_rules | `(tactic| tbr_iter "expr2") => `(tactic| first
  | with_reducible refine TE.tuple ?_
  | ((with_reducible refine' TE.cp ?m ?_); (case m => rfl))
  | with_reducible refine TE.un ?_
  | with_reducible refine TE.list ?_
  | tbr_iter "call"
  | with_reducible refine TE.ifexp ?_
  | with_reducible refine TE.an ?_
  | with_reducible refine TE.or ?_
  | with_reducible refine TA.nil ?_
  | ((with_reducible refine' TA.cons ?n ?_); (case n => rfl))
  | with_reducible refine TO.none ?_
  | with_reducible refine TO.some ?_)
local macro_rules | `(tactic| tbr_iter "expr") => `(tactic| first
  | tbr_iter "name"
  | with_reducible refine TE.const_int ?_
  | with_reducible refine TE.const_str ?_
  | with_reducible refine TE.bin ?_
  | with_reducible refine TE.slice ?_
  | with_reducible refine TE.item ?_
  | with_reducible refine TE.const_none ?_
  | with_reducible refine TE.const_bool ?_
  | with_reducible refine TE.const_bytes ?_
  | tbr_iter "expr2")
local macro_rules | `(tactic| tbr_iter "m0") => `(tactic| first
  | ((with_reducible refine (?_ : TE _ _ _ _ _)); tbr_iter "expr")
  | ((with_reducible refine (?_ : TS _ _ _ _ _)); first
    | with_reducible refine TS.cons ?_
    | with_reducible refine TS.nil ?_)
  | ((with_reducible refine (?_ : T1 _ _ _ _ _)); tbr_iter "stmt")
  | ((with_reducible refine (?_ : TA _ _ _ _ _)); first
    | ((with_reducible refine' TA.cons ?n ?_); (case n => rfl))
    | with_reducible refine TA.nil ?_)
  | ((with_reducible refine (?_ : TB _ _ _ _ _)); tbr_iter "test")
  | ((with_reducible refine (?_ : TBs _ _ _ _ _ _)); tbr_iter "test")
  | ((with_reducible refine (?_ : TO _ _ _ _ _)); first
    | with_reducible refine TO.none ?_
    | with_reducible refine TO.some ?_))
local macro_rules | `(tactic| tbr_iter "m2") => `(tactic| first
  | with_reducible refine Exists.intro _ (And.intro rfl ?_)
  | ((with_reducible refine' And.intro (a := _ ≠ some (_ : Str)) ?o ?_); (case o => tbr_iter "nn"))
  | ((with_reducible refine' And.intro ?t ?_); (case t => tbr_iter "side"))
  | ((with_reducible refine' go_t ?h ?_); (case h => tbr_iter "side"))
  | ((with_reducible refine' go_f ?h ?_); (case h => tbr_iter "side"))
  | with_reducible refine intOnly ?_
  | refine Exists.intro 4 (And.intro rfl ?_)
  | ((with_reducible refine' itemT ?h ?e ?_); (case h => omega); (case e => rfl))
  | ((with_reducible refine' isW_k ?e ?k ?_); (case e => rfl); (case k => kernel_rfl))
  | ((with_reducible refine' isW2_k ?e ?k ?_); (case e => rfl); (case k => kernel_rfl))
  | with_reducible refine isW_o ?_)
local macro_rules | `(tactic| tbr_iter "m1") => `(tactic| first | tbr_iter "m0" | tbr_iter "m2")
local macro_rules | `(tactic| tbr_iter "go") => `(tactic| ((try tbr_iter "tt"); repeat (first | tbr_iter "m0" | (tbr_iter "tt"; first | tbr_iter "m0" | tbr_iter "m2" | skip) | tbr_iter "m2")))
section
theorem okF_unpack : FdOk F_unpack ["data", "position", "size", "signed"] := ⟨by kernel_rfl, by kernel_rfl, by kernel_rfl, by kernel_rfl, by kernel_rfl, by kernel_rfl, by kernel_rfl, by decide, fun _ => by kernel_rfl⟩
theorem bF_unpack : Bnd F_unpack ["data", "position", "size", "signed"] := bnd4 fun a b c d => by kernel_rfl


theorem c_unpack {data : List UInt8} {p : Nat} {sg : Bool} {n : Nat} (hz : data.length ≤ 16777216) (h : p + 4 ≤ data.length) : CallOk glF K (n + 1) 1028 [.bytes data, .int p, .int 4, .bool sg] (fun d => d = .int (octInt sg ((data.drop p).take 4))) fun _ => False := by
  refine enter kF_unpack okF_unpack bF_unpack rfl rfl fun C ok Lk L hlw hcw hh => ?_
  dsimp only [List.zip, List.zipWith]
  tbr_iter "go"
  have hc : cutF data (some (p : Int)) (some (p + 4)) = (data.drop p).take 4 := by rw [cut_ij (by omega) (by omega)]; congr 1; omega
  rw [hc]
  refine ⟨by simp; omega, ?_⟩
  tbr_iter "go"
end
section
theorem okF_PACK_INT : FdOk F_PACK_INT ["value"] := ⟨by kernel_rfl, by kernel_rfl, by kernel_rfl, by kernel_rfl, by kernel_rfl, by kernel_rfl, by kernel_rfl, by decide, fun _ => by kernel_rfl⟩
theorem bF_PACK_INT : Bnd F_PACK_INT ["value"] := bnd1 fun a => by kernel_rfl
theorem okF_utf_8_encode : FdOk F_utf_8_encode ["string"] := ⟨by kernel_rfl, by kernel_rfl, by kernel_rfl, by kernel_rfl, by kernel_rfl, by kernel_rfl, by kernel_rfl, by decide, fun _ => by kernel_rfl⟩
theorem bF_utf_8_encode : Bnd F_utf_8_encode ["string"] := bnd1 fun a => by kernel_rfl
theorem okF_make_c_string : FdOk F_make_c_string ["string"] := ⟨by kernel_rfl, by kernel_rfl, by kernel_rfl, by kernel_rfl, by kernel_rfl, by kernel_rfl, by kernel_rfl, by decide, fun _ => by kernel_rfl⟩
theorem bF_make_c_string : Bnd F_make_c_string ["string"] := bnd1 fun a => by kernel_rfl
theorem okF_make_name : FdOk F_make_name ["string"] := ⟨by kernel_rfl, by kernel_rfl, by kernel_rfl, by kernel_rfl, by kernel_rfl, by kernel_rfl, by kernel_rfl, by decide, fun _ => by kernel_rfl⟩
theorem bF_make_name : Bnd F_make_name ["string"] := bnd1 fun a => by kernel_rfl
theorem okF_encode_none : FdOk F_encode_none ["name", "dummy0", "dummy1", "dummy2"] := ⟨by kernel_rfl, by kernel_rfl, by kernel_rfl, by kernel_rfl, by kernel_rfl, by kernel_rfl, by kernel_rfl, by decide, fun _ => by kernel_rfl⟩
theorem bF_encode_none : Bnd F_encode_none ["name", "dummy0", "dummy1", "dummy2"] := bnd4 fun a b c d => by kernel_rfl
theorem okF_encode_bool : FdOk F_encode_bool ["name", "value", "dummy0", "dummy1"] := ⟨by kernel_rfl, by kernel_rfl, by kernel_rfl, by kernel_rfl, by kernel_rfl, by kernel_rfl, by kernel_rfl, by decide, fun _ => by kernel_rfl⟩
theorem bF_encode_bool : Bnd F_encode_bool ["name", "value", "dummy0", "dummy1"] := bnd4 fun a b c d => by kernel_rfl
theorem okF_encode_int : FdOk F_encode_int ["name", "value", "dummy0", "dummy1"] := ⟨by kernel_rfl, by kernel_rfl, by kernel_rfl, by kernel_rfl, by kernel_rfl, by kernel_rfl, by kernel_rfl, by decide, fun _ => by kernel_rfl⟩
theorem bF_encode_int : Bnd F_encode_int ["name", "value", "dummy0", "dummy1"] := bnd4 fun a b c d => by kernel_rfl
theorem okF_encode_text : FdOk F_encode_text ["name", "value", "dummy0", "dummy1"] := ⟨by kernel_rfl, by kernel_rfl, by kernel_rfl, by kernel_rfl, by kernel_rfl, by kernel_rfl, by kernel_rfl, by decide, fun _ => by kernel_rfl⟩
theorem bF_encode_text : Bnd F_encode_text ["name", "value", "dummy0", "dummy1"] := bnd4 fun a b c d => by kernel_rfl
theorem c_PACK_INT {x : Int} {n : Nat} (h1 : -2147483648 ≤ x) (h2 : x < 2147483648) : CallOk glF K (n + 1) 1245 [.int x] (fun d => d = .bytes (KTBy.low x 4)) noX := by
  refine enter kF_PACK_INT okF_PACK_INT bF_PACK_INT rfl rfl fun C ok Lk L hlw hcw hh => ?_
  dsimp only [List.zip, List.zipWith]
  tbr_iter "go"
  refine ⟨bits4 h1 h2, ?_⟩
  rfl
theorem c_utf_8_encode {x : Str} {b : List UInt8} {n : Nat} (h : EncIs x b) (hx : x.length ≤ 1000) (hb : b.length ≤ 1000) : CallOk glF K (n + 1) 1070 [.str x] (fun d => d = .tuple [.bytes b, .int x.length]) noX := by
  refine enter kF_utf_8_encode okF_utf_8_encode bF_utf_8_encode rfl rfl fun C ok Lk L hlw hcw hh => ?_
  dsimp only [List.zip, List.zipWith]
  tbr_iter "go"
  refine ⟨b, .inl rfl, h, by omega, ?_⟩
  tbr_iter "go"
  done
theorem c_make_c_string {x : Str} {b : List UInt8} {n : Nat} (h : EncIs x b) (hx : x.length ≤ 1000) (hb : b.length ≤ 1000) (hn : 1 ≤ n) : CallOk glF K (n + 1) 1280 [.str x] (fun d => d = .bytes (b ++ [0])) noX := by
  refine enter kF_make_c_string okF_make_c_string bF_make_c_string rfl rfl fun C ok Lk L hlw hcw hh => ?_
  dsimp only [List.zip, List.zipWith]
  tbr_iter "go"
  refine L.go (c_utf_8_encode (n := 0) h hx hb) hn hh ?_
  tbr_iter "go"
  done
theorem c_make_name {x : Str} {b : List UInt8} {n : Nat} (h : EncIs x b) (hx : x.length ≤ 1000) (hb : b.length ≤ 1000) (hn : 1 ≤ n) (h0 : (Builtin.Str.occurrences x (Str.ofString "\x00") 0 x.length 1).isEmpty = true) : CallOk glF K (n + 1) 1287 [.str x] (fun d => d = .bytes (b ++ [0])) noX := by
  refine enter kF_make_name okF_make_name bF_make_name rfl rfl fun C ok Lk L hlw hcw hh => ?_
  dsimp only [List.zip, List.zipWith]
  tbr_iter "go"
  rw [h0]
  tbr_iter "go"
  refine L.go (c_utf_8_encode (n := 0) h hx hb) hn hh ?_
  tbr_iter "go"
  done
theorem c_encode_none {nm : List UInt8} {d1 d2 d3 : PV} {n : Nat} (hb : nm.length ≤ 1000) : CallOk glF K (n + 1) 1360 [.bytes nm, d1, d2, d3] (fun d => d = .bytes ([10] ++ nm)) noX := by
  refine enter kF_encode_none okF_encode_none bF_encode_none rfl rfl fun C ok Lk L hlw hcw hh => ?_
  dsimp only [List.zip, List.zipWith]
  tbr_iter "go"
  done
theorem c_encode_bool {nm : List UInt8} {v : Bool} {d2 d3 : PV} {n : Nat} (hb : nm.length ≤ 1000) : CallOk glF K (n + 1) 1346 [.bytes nm, .bool v, d2, d3] (fun d => d = .bytes ([8] ++ nm ++ [if v then 1 else 0])) noX := by
  refine enter kF_encode_bool okF_encode_bool bF_encode_bool rfl rfl fun C ok Lk L hlw hcw hh => ?_
  dsimp only [List.zip, List.zipWith]
  tbr_iter "go"
  cases v
  · tbr_iter "go"
    rfl
  · tbr_iter "go"
    rfl
theorem c_encode_int {nm : List UInt8} {x : Int} {d2 d3 : PV} {n : Nat} (hb : nm.length ≤ 1000) (h1 : -2147483648 ≤ x) (h2 : x < 2147483648) (hn : 1 ≤ n) : CallOk glF K (n + 1) 1381 [.bytes nm, .int x, d2, d3] (fun d => d = .bytes ([16] ++ nm ++ KTBy.low x 4)) noX := by
  refine enter kF_encode_int okF_encode_int bF_encode_int rfl rfl fun C ok Lk L hlw hcw hh => ?_
  dsimp only [List.zip, List.zipWith]
  tbr_iter "go"
  refine L.go (c_PACK_INT (n := 0) h1 h2) hn hh ?_
  have := KTBy.low_length x 4
  tbr_iter "go"
  done
theorem c_encode_text {nm : List UInt8} {x : Str} {b : List UInt8} {d2 d3 : PV} {n : Nat} (h : EncIs x b) (hx : x.length ≤ 1000) (hb : b.length ≤ 1000) (hnm : nm.length ≤ 1000) (hn : 1 ≤ n) : CallOk glF K (n + 1) 1318 [.bytes nm, .str x, d2, d3] (fun d => d = .bytes ([2] ++ nm ++ KTBy.low (b.length + 1) 4 ++ b ++ [0])) noX := by
  refine enter kF_encode_text okF_encode_text bF_encode_text rfl rfl fun C ok Lk L hlw hcw hh => ?_
  dsimp only [List.zip, List.zipWith]
  tbr_iter "go"
  refine L.go (c_utf_8_encode (n := 0) h hx hb) hn hh ?_
  tbr_iter "go"
  refine L.go (c_PACK_INT (n := 0) (by omega) (by omega)) hn hh ?_
  have := KTBy.low_length (b.length + 1) 4
  tbr_iter "go"
  done
end
section
theorem okF_Code_scope : FdOk F_Code_scope ["self"] := ⟨by kernel_rfl, by kernel_rfl, by kernel_rfl, by kernel_rfl, by kernel_rfl, by kernel_rfl, by kernel_rfl, by decide, fun _ => by kernel_rfl⟩
theorem bF_Code_scope : Bnd F_Code_scope ["self"] := bnd1 fun a => by kernel_rfl
section
variable {w : World} {A : Around} {E : Value → Shared → Prop} {s : Shared} {X : Addr → Prop}
theorem code_ga (P : Params) : findIn (K P) (.ref codeCls) "__getattribute__" = some (some (.builtin "object.__getattribute__")) := by kernel_rfl
theorem code_hd (P : Params) : hasDictIn (K P) codeCls = true := by kernel_rfl
theorem code_text (P : Params) : findIn (K P) (.ref codeCls) "text" = some none := by kernel_rfl
theorem code_scope (P : Params) : findIn (K P) (.ref codeCls) "_scope" = some none := by kernel_rfl
theorem code_sa (P : Params) : findIn (K P) (.ref codeCls) "__setattr__" = some (some (.builtin "object.__setattr__")) := by kernel_rfl
theorem code_po (P : Params) : plainOver (K P) codeCls = true := by kernel_rfl
theorem code_tt (P : Params) : takerIn (K P) codeCls "text" = some none := by kernel_rfl
theorem code_ts (P : Params) : takerIn (K P) codeCls "_scope" = some none := by kernel_rfl
theorem code_mk (P : Params) : makesIn (K P) codeCls = true := by kernel_rfl
theorem code_in (P : Params) : findIn (K P) (.ref codeCls) "__init__" = some (some (.ref 171)) := by kernel_rfl
theorem code_fn (P : Params) : typeIn (K P) (.ref 171) = some (.type "function") := by kernel_rfl
theorem code_pr (P : Params) : findIn (K P) (.ref codeCls) "scope" = some (some (.ref 179)) := by kernel_rfl
theorem code_pg (P : Params) : specialIn (K P) (.ref 179) "__get__" = some (some (.builtin "property.__get__")) := by kernel_rfl
theorem code_pt (P : Params) : takesIn (K P) (.ref 179) = some true := by kernel_rfl
theorem code_pp (P : Params) : recIn (K P) 179 "property" = some (.ref 178 :: [.none, .none, .none, .str "scope" 468, .bool false]) := by kernel_rfl
theorem str_is {x y : Str} {t : Tok} : (Value.str x t).isStr y = (x == y) := by
  by_cases h : x = y
  · subst h; simp [Value.isStr]
  · have : (x == y) = false := by simpa using h
    rw [this]; simpa [Value.isStr] using h
theorem rep_handed {P : Params} {h : Heap} : ∀ {d : PV} {v : Value}, notExt d = true → Rep P h X d v → handedIn v = true
  | .none, _, _, r => by simp only [Rep] at r; subst r; rfl
  | .bool _, _, _, r => by simp only [Rep] at r; subst r; rfl
  | .int _, _, _, r => by simp only [Rep] at r; obtain ⟨_, rfl⟩ := r; rfl
  | .str _, _, _, r => by simp only [Rep] at r; obtain ⟨_, rfl⟩ := r; rfl
  | .bytes _, _, _, r => by simp only [Rep] at r; obtain ⟨_, rfl⟩ := r; rfl
  | .list _, _, _, r => by simp only [Rep] at r; obtain ⟨_, _, _, rfl, _⟩ := r; rfl
  | .tuple _, _, _, r => by simp only [Rep] at r; obtain ⟨_, _, rfl, _⟩ := r; rfl
  | .dict _ _, _, _, r => by simp only [Rep] at r; obtain ⟨_, _, _, _, rfl, _⟩ := r; rfl
  | .code _ _, _, _, r => by simp only [Rep] at r; obtain ⟨_, _, _, _, _, _, rfl, _⟩ := r; rfl
theorem ents_two {P : Params} {a b : Str} {u v : Value} {es : List DictEntry} (h : Ents P [a, b] [u, v] es) : ∃ e1 e2, es = [e1, e2] ∧ ∃ t1, e1.key = .str a t1 ∧ e1.val = u ∧ ∃ t2, e2.key = .str b t2 ∧ e2.val = v := by
  cases es with
  | nil => exact h.elim
  | cons e1 r =>
    cases r with
    | nil => exact h.2.2.2.elim
    | cons e2 r =>
      cases r with
      | cons e3 r => exact h.2.2.2.2.2.2.elim
      | nil =>
        obtain ⟨⟨t1, k1⟩, h1, v1, ⟨t2, k2⟩, h2, v2, _⟩ := h
        exact ⟨e1, e2, rfl, t1, k1, v1, t2, k2, v2⟩
theorem getL_two {P : Params} {a b x : Str} {va vb : Value} {es : List DictEntry} (h : Ents P [a, b] [va, vb] es) : getL x es = if a == x then some (some va) else if b == x then some (some vb) else some none := by
  obtain ⟨e1, e2, rfl, t1, k1, v1, t2, k2, v2⟩ := ents_two h
  unfold getL
  simp only [List.find?_cons, k1, k2, str_is, List.find?_nil, List.any_cons, List.any_nil, Bool.or_false]
  cases h1 : (a == x) <;> cases h2 : (b == x) <;> simp [v1, v2, DictEntry.refKey, k1, k2]
theorem get_text {x : Str} {sc : PV} {v : Value} {Q : Value → Shared → Prop} (XK : (K w.params).In s.heap) (r : Rep w.params s.heap X (.code x sc) v) (h : ∀ u, Rep w.params s.heap X (.str x) u → Q u { s with toks := s.toks + 1 }) :
    wpAny (model prog w) A (getAttr v "text" true) Q E s := by
  simp only [Rep] at r
  obtain ⟨a, dx, es, n, vt, vs, rfl, ho, nx, hd, ny, he, ⟨t, rfl⟩, rs⟩ := r
  refine get_value XK (I := ⟨ho, rfl, rfl, hd⟩) (code_ga _) (findObj_own (code_hd _) (code_text _) rfl ?_) rfl (h _ (rep_str _ t))
  exact (lookIn_dict _ _ _).trans ((getL_two he).trans (by rw [if_pos (by simp)]))
theorem get_sc {x : Str} {sc : PV} {v : Value} {Q : Value → Shared → Prop} (XK : (K w.params).In s.heap) (ne : notExt sc = true) (r : Rep w.params s.heap X (.code x sc) v) (h : ∀ u, Rep w.params s.heap X sc u → Q u { s with toks := s.toks + 1 }) :
    wpAny (model prog w) A (getAttr v "_scope" true) Q E s := by
  simp only [Rep] at r
  obtain ⟨a, dx, es, n, vt, vs, rfl, ho, nx, hd, ny, he, ⟨t, rfl⟩, rs⟩ := r
  refine get_value XK (I := ⟨ho, rfl, rfl, hd⟩) (code_ga _) (findObj_own (code_hd _) (code_scope _) rfl ?_) (rep_handed ne rs) (h _ rs)
  exact (lookIn_dict _ _ _).trans ((getL_two he).trans (by rw [if_neg (by rw [str_ne (by decide)]; exact Bool.false_ne_true), if_pos (by simp)]))
end
theorem opt_ga (P : Params) : findIn (K P) (.ref 256) "__getattribute__" = some (some (.builtin "object.__getattribute__")) := by kernel_rfl
theorem opt_hd (P : Params) : hasDictIn (K P) 256 = true := by kernel_rfl
theorem opt_eh (P : Params) : findIn (K P) (.ref 256) "unicode_decode_error_handler" = some none := by kernel_rfl
theorem opt_at (P : Params) : ∃ od, (K P).lookup 262 = some { cls := .ref 256, dict := some 261 } ∧ (K P).lookup 261 = some od ∧ lookIn "unicode_decode_error_handler" od = some (some (.str "strict" 558)) :=
  ⟨match (K P).lookup 261 with | some o => o | none => default, by kernel_rfl, by kernel_rfl, by kernel_rfl⟩
theorem code_gx (P : Params) : findIn (K P) (.ref codeCls) "__getattr__" = some none := by kernel_rfl
theorem code_cl (P : Params) : (clsIn (K P) codeCls).isSome = true := by kernel_rfl
abbrev AttrEq (e : Expr) (name : Str) (pos : Pos) : Prop := ∀ env, eval (.Attribute e name pos) env = (do
      let o ← eval e env
      standAt pos.atName
      let r ← holding [o] (getAttr o name true)
      letTemporaryGo e o r
      pure r)
section
variable {C : Cx} {D : Dn} {σ : St} {Q : PV → St → Prop} {R : Exc → St → Prop}
theorem TE.attr {e : Expr} {name : Str} {pos : Pos} (Qd : PV → (PV → Prop) → Prop) (he : AttrEq e name pos)
    (hg : ∀ s X σ d v K', Inv C s σ X → Rep C.P s.heap X d v → Qd d K' → Pur C.w C.A (getAttr v name true) s X K')
    (h : TE C e σ (fun d σ₁ => Qd d fun r => Q r σ₁) R) : TE C (.Attribute e name pos) σ Q R := fun s X I =>
  Attribute_any_ (wpAny_mono (h s X I) (fun v s₁ ⟨d, σ₁, X₁, q, i, r, x⟩ => wpAny_mono (Pur.use (hg s₁ X₁ σ₁ d v _ i r q) i fun _ z => z) (fun _ _ y => EvP.of x y) fun _ _ y => ErP.of x y) fun _ _ y => y) (he _)
def textW (d : PV) (K' : PV → Prop) : Prop := match d with
  | .code x _ => K' (.str x)
  | _ => False
def scopeW (d : PV) (K' : PV → Prop) : Prop := match d with
  | .code _ sc => notExt sc = true ∧ K' sc
  | _ => False
theorem TE.attrText (L : Lg C D) {e : Expr} {pos : Pos} (he : AttrEq e "text" pos) (h : TE C e σ (fun d σ₁ => textW d fun r => Q r σ₁) R) : TE C (.Attribute e "text" pos) σ Q R :=
  TE.attr textW he (fun s X σ d v K' I r q => by
    cases d <;> try exact q.elim
    exact fun E => get_text (L.frag I) r fun u ru => ⟨_, _, _, q, rfl, fun _ _ e => e, ru⟩) h
theorem TE.attrSc (L : Lg C D) {e : Expr} {pos : Pos} (he : AttrEq e "_scope" pos) (h : TE C e σ (fun d σ₁ => scopeW d fun r => Q r σ₁) R) : TE C (.Attribute e "_scope" pos) σ Q R :=
  TE.attr scopeW he (fun s X σ d v K' I r q => by
    cases d <;> try exact q.elim
    exact fun E => get_sc (L.frag I) q.1 r fun u ru => ⟨_, _, _, q.2, rfl, fun _ _ e => e, ru⟩) h
theorem TE.attrOpt (L : Lg C D) {e : Expr} {pos : Pos} (he : AttrEq e "unicode_decode_error_handler" pos) (h : TE C e σ (fun d σ₁ => d = opts ∧ Q (.str "strict") σ₁) R) : TE C (.Attribute e "unicode_decode_error_handler" pos) σ Q R :=
  TE.attr (fun d K' => d = opts ∧ K' (.str "strict")) he (fun s X σ d v K' I r q => by
    obtain ⟨rfl, q⟩ := q
    simp only [Rep] at r; subst r
    obtain ⟨od, h1, h2, h3⟩ := opt_at C.P
    have XK := L.frag I
    exact fun E => get_value XK (I := ⟨XK _ _ h1, rfl, rfl, XK _ _ h2⟩) (opt_ga _) (findObj_own (opt_hd _) (opt_eh _) rfl h3) rfl ⟨_, _, _, q, rfl, fun _ _ e => e, rep_str _ _⟩) h
theorem c_scope {x : Str} {sc : PV} {n : Nat} (hn : notExt sc = true) : CallOk glF K (n + 1) 178 [.code x sc] (fun d => d = sc) noX := by
  refine enter kF_Code_scope okF_Code_scope bF_Code_scope rfl rfl fun C ok Lk L hlw hcw hh => ?_
  dsimp only [List.zip, List.zipWith]
  tbr_iter "go"
  refine TE.attrSc L (fun _ => by with_unfolding_all rfl) ?_
  tbr_iter "go"
  exact ⟨hn, rfl⟩
theorem TE.scope (L : Lg C D) {e : Expr} {pos : Pos} (he : AttrEq e "scope" pos) (hh : C.hd = none) (hn : 1 ≤ D.n) (h : TE C e σ (fun d σ₁ => scopeW d fun r => Q r σ₁) R) : TE C (.Attribute e "scope" pos) σ Q R := fun s X I =>
  Attribute_any_ (wpAny_mono (h s X I) (fun v s₁ ⟨d, σ₁, X₁, q, i, r, x⟩ => by
    cases d <;> try exact q.elim
    rename_i tx sc
    obtain ⟨q1, q2⟩ := q
    have XK := L.frag i
    have r0 := r
    simp only [Rep] at r
    obtain ⟨a, dx, es, n, vt, vs, rfl, ho, nx, hd, ny, hes, ⟨t, rfl⟩, rs⟩ := r
    refine get_bind (prog := prog) (w := C.w) XK (I := ⟨ho, rfl, rfl, hd⟩) (code_ga _) (findObj_data (code_cl _) (code_pr _) (code_pg _) (code_pt _)) (code_gx _) (wpAny_call (prop_get (s := { s₁ with toks := s₁.toks + 1 }) XK (code_pp _) ?_))
    have i2 := i.tok (s₁.toks + 1)
    refine codeAny_mono (c_scope (x := tx) (n := 0) q1 C.w C.base (C.fenv :: C.outer) C.dp (C.un + 1) C.gd C.hd { s₁ with toks := s₁.toks + 1 } X₁ [.ref a] (by rw [← L.glq, ← L.kq]; exact L.ok.bs) i2.stay i2.frames i2.gens hh (fun a m => i2.mx a (L.ok.sm a m)) i2.xb i2.xl (Reps.cons r0 Reps.nil) (by have := L.room; omega) (by have := L.units; omega)) fun r₀ s' z => ?_
    match r₀, z with
    | .ok (.ret v), ⟨d, q3, r1, u, g, o⟩ =>
      subst q3
      show wpAny _ _ (handedOut v) _ _ _
      rw [handedOut_of (rep_handed q1 r1)]
      exact wpAny_pure ⟨d, σ₁, X₁, q2, i2.after L.ok u g o, r1, x.trans (u.toExt fun a m => i2.mx a (L.ok.sm a m))⟩
    | .error _, ⟨_, _, _, rx, _⟩ => exact rx.elim) fun _ _ y => y) (he _)
end
end
end Mine
section
namespace Mine
/-! the law's data, as a tree -/
mutual
inductive Dat where
  | nul
  | num (i : Int)
  | tru (b : Bool)
  | txt (x : Str) (b : List UInt8)
  | cod (x : Str) (b : List UInt8)
  | row (f : Flds)
  | doc (f : Flds)
  | scd (f : Flds)
inductive Flds where
  | nil
  | cons (x : Str) (b : List UInt8) (d : Dat) (r : Flds)
end
abbrev Itm := Str × List UInt8 × Dat
def Flds.items : Flds → List Itm
  | .nil => []
  | .cons x b d r => (x, b, d) :: r.items
def Flds.keys (f : Flds) : List Str := f.items.map (·.1)
def fName : Str := "f"
mutual
def Dat.val : Dat → PV
  | .nul => .none
  | .num i => .int i
  | .tru b => .bool b
  | .txt x _ => .str x
  | .cod x _ => .code x .none
  | .row f => .list f.vals
  | .doc f => .dict f.keys f.vals
  | .scd f => .code fName (.dict f.keys f.vals)
def Flds.vals : Flds → List PV
  | .nil => []
  | .cons _ _ d r => d.val :: r.vals
end
def Dat.kind : Dat → UInt8
  | .nul => 10
  | .num _ => 16
  | .tru _ => 8
  | .txt _ _ => 2
  | .cod _ _ => 13
  | .row _ => 4
  | .doc _ => 3
  | .scd _ => 15
abbrev low4 (n : Int) : List UInt8 := KTBy.low n 4
def strO (b : List UInt8) : List UInt8 := low4 ((b.length : Int) + 1) ++ (b ++ [0])
def wrapO (o : List UInt8) : List UInt8 := low4 ((o.length : Int) + 5) ++ o ++ [0]
mutual
def Dat.body : Dat → List UInt8
  | .nul => []
  | .num i => low4 i
  | .tru b => [if b then 1 else 0]
  | .txt _ b => strO b
  | .cod _ b => strO b
  | .row f => wrapO f.octs
  | .doc f => wrapO f.octs
  | .scd f => low4 ((f.octs.length : Int) + 15) ++ (strO [102] ++ wrapO f.octs)
def Flds.octs : Flds → List UInt8
  | .nil => []
  | .cons _ b d r => ([d.kind] ++ (b ++ [0]) ++ d.body) ++ r.octs
end
mutual
def Dat.dep : Dat → Nat
  | .row f => f.dep + 1
  | .doc f => f.dep + 1
  | .scd f => f.dep + 1
  | _ => 0
def Flds.dep : Flds → Nat
  | .nil => 0
  | .cons _ _ d r => max d.dep r.dep
end
def noNul (x : Str) : Prop := (Builtin.Str.occurrences x (Str.ofString "\x00") 0 x.length 1).isEmpty = true
/-- a text and its octets -/
structure Txt (x : Str) (b : List UInt8) : Prop where
  enc : EncIs x b
  dec : DecIs b x
  xs : x.length ≤ 100
  bs : b.length ≤ 100
/-- a name -/
structure Nm (x : Str) (b : List UInt8) : Prop extends Txt x b where
  nn : noNul x
  nz : ∀ c ∈ b, c ≠ 0
  ref : x ≠ Str.ofString "$ref"
  id : x ≠ Str.ofString "_id"
/-- a row's names -/
def Num (k : Nat) (x : Str) (b : List UInt8) : Prop := x = Str.ofString (toString (k : Int)) ∧ EncIs (x ++ Str.ofString "\x00") (b ++ [0])
def rowNames : Nat → List Itm → Prop
  | _, [] => True
  | k, (x, b, _) :: r => Num k x b ∧ rowNames (k + 1) r
mutual
def Dat.Wf : Dat → Prop
  | .nul => True
  | .num i => -2147483648 ≤ i ∧ i < 2147483648
  | .tru _ => True
  | .txt x b => Txt x b
  | .cod x b => Txt x b
  | .row f => f.Wf ∧ rowNames 0 f.items ∧ f.octs.length ≤ 1000000
  | .doc f => f.Wf ∧ f.keys.Nodup ∧ f.octs.length ≤ 1000000
  | .scd f => f.Wf ∧ f.keys.Nodup ∧ f.octs.length ≤ 1000000
def Flds.Wf : Flds → Prop
  | .nil => True
  | .cons x b d r => Nm x b ∧ d.Wf ∧ r.Wf
end
def fldO (i : Itm) : List UInt8 := [i.2.2.kind] ++ (i.2.1 ++ [0]) ++ i.2.2.body
theorem Flds.vals_eq : ∀ f : Flds, f.vals = f.items.map fun i => i.2.2.val
  | .nil => rfl
  | .cons _ _ _ r => by simp only [Flds.vals, Flds.items, List.map_cons, Flds.vals_eq r]
theorem Flds.octs_eq : ∀ f : Flds, f.octs = (f.items.map fldO).flatten
  | .nil => rfl
  | .cons _ _ _ r => by simp only [Flds.octs, Flds.items, List.map_cons, List.flatten_cons, Flds.octs_eq r, fldO]
theorem Flds.wf_item : ∀ {f : Flds} {i : Itm}, f.Wf → i ∈ f.items → Nm i.1 i.2.1 ∧ i.2.2.Wf
  | .nil, _, _, m => by simp [Flds.items] at m
  | .cons x b d r, i, h, m => by
    simp only [Flds.Wf] at h
    simp only [Flds.items, List.mem_cons] at m
    rcases m with rfl | m
    · exact ⟨h.1, h.2.1⟩
    · exact Flds.wf_item h.2.2 m
theorem Flds.dep_item : ∀ {f : Flds} {i : Itm}, i ∈ f.items → i.2.2.dep ≤ f.dep
  | .nil, _, m => by simp [Flds.items] at m
  | .cons x b d r, i, m => by
    simp only [Flds.items, List.mem_cons] at m
    simp only [Flds.dep]
    rcases m with rfl | m
    · exact Nat.le_max_left _ _
    · exact Nat.le_trans (Flds.dep_item m) (Nat.le_max_right _ _)
theorem Flds.octs_item {f : Flds} {i : Itm} (m : i ∈ f.items) : (fldO i).length ≤ f.octs.length := by
  rw [f.octs_eq]
  obtain ⟨a, b, e⟩ := List.append_of_mem m
  rw [e]
  simp only [List.map_append, List.map_cons, List.flatten_append, List.flatten_cons, List.length_append]
  omega
end Mine
end
section
namespace Mine
theorem txw {x : Str} {d : PV} {K' : PV → Prop} : textW (.code x d) K' = K' (.str x) := rfl
theorem scw {x : Str} {d : PV} {K' : PV → Prop} : scopeW (.code x d) K' = (notExt d = true ∧ K' d) := rfl
/-- a comprehension's names, the free ones being cells -/
def cellNames (sc : Scope) : List (Str × NameKind) := sc.names.map fun (n, k) => if k == .free then (n, .cell) else (n, k)
def csOk (sc : Scope) (ns : List (Str × NameKind)) : Bool := sc.kind == .function && sc.names.all (fun y => y.2 != .cell) && sc.names.all (fun x => x.2 != .local || sc.names.lookup x.1 == some .local) && sc.names.all fun x => x.2 != .free || ns.lookup x.1 == some .cell
section
variable {C C' : Cx} {D : Dn} {σ : St} {gl : Str → Option Value} {K : Params → Frag}
theorem CompScope.of (L : Ls gl K C D) {sc : Scope} (h : csOk sc D.names = true) : CompScope C sc := by
  simp only [csOk, Bool.and_eq_true, List.all_eq_true, beq_iff_eq, bne_iff_ne, Bool.or_eq_true] at h
  obtain ⟨⟨⟨h1, h2⟩, h3⟩, h4⟩ := h
  exact ⟨h1, h2, fun x m e => (h3 x m).resolve_left fun z => z e, fun x m => L.kind ((h4 _ m).resolve_left fun z => z rfl)⟩
theorem Ls.comp (L : Ls gl K C D) {sc : Scope} (S : CompScope C sc) (c : CompOf C sc C') : Ls gl K C' ⟨cellNames sc, D.n, D.hd⟩ where
  ok := c.ok
  names := by
    rw [c.names]
    show sc.names.map _ = sc.names.map _
    refine List.map_congr_left fun ⟨x, k⟩ m => ?_
    by_cases hk : k = .free
    · subst hk
      simp [S.free x m, L.ok.kind]
    · have : (k == NameKind.free) = false := by simpa using hk
      simp [this]
  glq := c.gl.trans L.glq
  kq := by rw [c.K, L.kq, Cx.P, Cx.P, c.w]
  room := by rw [c.dp]; exact L.room
  units := by rw [c.un]; exact L.units
  hd := by
    have := L.hd
    split
    · rename_i e; rw [c.hd]; rw [show D.hd = none from e] at this; exact this
    · rename_i e x q; rw [c.hd, Cx.P, c.w, c.base]; rw [show D.hd = some (e, x) from q] at this; exact this
theorem CompVars.nil {sc : Scope} : CompVars sc σ ⟨[], none⟩ := ⟨rfl, fun x d e => by simp at e⟩
theorem CompVars.cons {sc : Scope} {x : Str} {d : PV} {l : List (Str × PV)} (h : σ.vars.lookup x = some d) (ho : σ.own ≠ some x) (hs : sc.names.lookup x = some .free) (r : CompVars sc σ ⟨l, none⟩) : CompVars sc σ ⟨(x, d) :: l, none⟩ := ⟨rfl, fun y e he => by
  rw [List.lookup_cons] at he
  by_cases hy : y = x
  · subst hy
    simp at he; subst he
    exact ⟨h, ho, hs⟩
  · have : (y == x) = false := by simpa using hy
    rw [this] at he
    exact r.vars y e he⟩
end
theorem enterD {n : Nat} {f T : Addr} {fd : FuncData} {body : List Stmt} {names : List Str} {ds es : List PV} {items rest : List Value} {Qd : PV → Prop} {Rx : Exc → Prop} (ho : ∀ P, (K P).lookup f = some (fobj fd)) (ok : FdOk fd names) (hT : ∀ P, (K P).lookup T = some (tupObj items))
    (hb : ∀ us : List Value, us.length = ds.length → ∀ s : Shared, s.heap.get? T = some (tupObj items) → BindsTo s fd ⟨us, []⟩ (names.zip (us ++ rest))) (hr : ∀ P h X, Reps P h X es rest) (hbody : fd.body = .stmts body)
    (h : ∀ C, C.Ok → Lk glF K C ⟨fd.scope.names, n, none⟩ → Lg C ⟨fd.scope.names, n, none⟩ → C.lw = true → C.cw = true → C.hd = none → TS C body ⟨names.zip (ds ++ es), none⟩ (fun o _ => Qd (retOf o)) fun x _ => Rx x) :
    CallOk glF K (n + 1) f ds Qd Rx :=
  CallG.intro (hd0 := fun q => q = none) (names := names) (fun P base v e => ⟨none, rfl, e⟩) (fun P => ⟨_, _, _, ho P⟩) ok.code hbody ok.glob ok.blt ok.clo ok.co ok.gen ok.kind
    (fun P s X vs KI _ r => ⟨vs ++ rest, hb vs (Reps.length r) s (KI _ _ (hT P)), r.append (hr _ _ _)⟩)
    (fun x hx => by
      have := List.all_eq_true.mp ok.kinds x hx
      simpa using this) ok.nd
    fun C q hq L h1 h2 => by subst hq; exact h C L.ok L L.toLs h1 h2 L.hd

section
variable {C : Cx} {D : Dn} {gl : Str → Option Value} {K : Params → Frag} {Q : Out → St → Prop} {R : Exc → St → Prop}
theorem Ls.still (L : Ls gl K C D) (X : Addr → Prop) (h : Heap) : Ls gl K (C.still X h) D :=
  ⟨L.ok.still h, L.names, L.glq, L.kq, L.room, L.units, L.hd⟩
theorem TS.mono {sts : List Stmt} {σ : St} {Q Q' : Out → St → Prop} {R R' : Exc → St → Prop} (t : TS C sts σ Q R) (h : ∀ o σ, Q o σ → Q' o σ) (h' : ∀ x σ, R x σ → R' x σ) : TS C sts σ Q' R' := fun s X I =>
  wpAny_mono (t s X I) (fun _ _ ⟨o, σ', X', q, r⟩ => ⟨o, σ', X', h o σ' q, r⟩) fun _ _ ⟨x, σ', X', a, h₁, z, q, r⟩ => ⟨x, σ', X', a, h₁, z, h' x σ' q, r⟩
theorem ForT.list {α : Type} {t : Expr} {body : List Stmt} (g : α → PV) (Φ : List α → St → Prop) (okA : List α → α → Prop)
    (step : ∀ a acc σ, okA acc a → Φ acc σ → ∃ σ₁, Bind C t (g a) σ σ₁ ∧ TS C body σ₁ (fun o σ₂ => match o with | .next => Φ (acc ++ [a]) σ₂ | .cont => Φ (acc ++ [a]) σ₂ | .brk => Q .next σ₂ | .ret d => Q (.ret d) σ₂) R) :
    ∀ (l acc : List α) (σ : St), (∀ k a, l[k]? = some a → okA (acc ++ l.take k) a) → Φ acc σ → (∀ σ, Φ (acc ++ l) σ → Q .next σ) → ForT C t body Q R (l.map g) σ
  | [], acc, σ, _, h, fin => fin σ (by simpa using h)
  | a :: l, acc, σ, ha, h, fin => by
    obtain ⟨σ₁, b, ts⟩ := step a acc σ (by simpa using ha 0 a rfl) h
    have go : ∀ σ₂, Φ (acc ++ [a]) σ₂ → ForT C t body Q R (l.map g) σ₂ := fun σ₂ h₂ =>
      ForT.list g Φ okA step l (acc ++ [a]) σ₂ (fun k b e => by simpa using ha (k + 1) b (by simpa using e)) h₂ fun σ₃ h₃ => fin σ₃ (by simpa using h₃)
    refine ⟨σ₁, b, TS.mono ts (fun o σ₂ q => ?_) fun _ _ q => q⟩
    cases o with
    | next => exact go σ₂ q
    | cont => exact go σ₂ q
    | brk => exact q
    | ret d => exact q
end

theorem T1.app {C : Cx} {σ : St} {Q : Out → St → Prop} {R : Exc → St → Prop} {x : Str} {e : Expr} {ds : List PV} {p p1 p2 pos : Pos} (ok : C.Ok) (hl : σ.vars.lookup x = some (.list ds)) (ho : σ.own = some x) (hd : (x == ("__debug__" : Str)) = false) (hn : notStar e = true) (hline : (p1.endLine == p2.line) = true)
    (hz : ds.length ≤ 16777216) (h : ∀ X h, TE (C.still X h) e σ (fun d σ₁ => σ₁ = σ ∧ Q .next (σ.put x (.list (ds ++ [d])))) R) :
    T1 C (.Expr (.Call (.Attribute (.Name x p) "append" p1) [e] [] p2) pos) σ Q R :=
  T1.append ok hd ho hn hline (by rw [hl]; trivial) fun X h' => TE.mono (h X h') (fun d σ₁ ⟨e, q⟩ => by subst e; exact ⟨ho, by rw [hl]; exact ⟨hz, q⟩⟩) fun _ _ z => z
end Mine
end
namespace Mine
local macro_rules | `(tactic| tbr_iter "side") => `(tactic| first
  | with_reducible assumption
  | with_reducible rfl
  | exact Bool.false_ne_true
  | decide
  | exact ⟨_, rfl⟩
  | exact ⟨_, _, rfl⟩
  | omega
  | (simp only [decide_eq_true_eq, Bool.not_eq_true', decide_eq_false_iff_not, beq_iff_eq, bne_iff_ne, ne_eq, Bool.not_eq_true, beq_eq_false_iff_ne, List.length_cons, List.length_nil, List.length_append, List.length_take, List.length_drop, KTBy.low_length]; omega))
local macro_rules | `(tactic| tbr_iter "gl") => `(tactic| first | with_reducible exact gl__unpack | with_reducible exact gl__UNPACK_INT_FROM | with_reducible exact gl__utf_8_decode | with_reducible exact gl__utf_8_encode | with_reducible exact gl__index_nul | with_reducible exact gl_get_data_and_view | with_reducible exact gl__raise_unknown_type | with_reducible exact gl__get_int | with_reducible exact gl__get_c_string | with_reducible exact gl__get_string | with_reducible exact gl__get_object_size | with_reducible exact gl__get_object | with_reducible exact gl__get_array | with_reducible exact gl__get_boolean | with_reducible exact gl__get_code | with_reducible exact gl__get_code_w_scope | with_reducible exact gl__get_element | with_reducible exact gl__element_to_dict | with_reducible exact gl__elements_to_dict | with_reducible exact gl__bson_to_dict | with_reducible exact gl__PACK_INT | with_reducible exact gl__make_c_string | with_reducible exact gl__make_name | with_reducible exact gl__encode_mapping | with_reducible exact gl__encode_list | with_reducible exact gl__encode_text | with_reducible exact gl__encode_bool | with_reducible exact gl__encode_none | with_reducible exact gl__encode_code | with_reducible exact gl__encode_int | with_reducible exact gl__name_value_to_bson | with_reducible exact gl__element_to_bson | with_reducible exact gl__dict_to_bson | with_reducible exact gl_encode | with_reducible exact gl_decode | with_reducible exact gl__decode_all | with_reducible exact gl_decode_all | with_reducible exact gl_is_valid | with_reducible exact gl__law_leaf | with_reducible exact gl__law_laid | with_reducible exact gl__law_wrapped | with_reducible exact gl__law_all | with_reducible exact gl_law | with_reducible exact gl_UUID | with_reducible exact gl_Binary | with_reducible exact gl_Code | with_reducible exact gl_CodecOptions | with_reducible exact gl_DatetimeMS | with_reducible exact gl_Int64 | with_reducible exact gl_InvalidBSON | with_reducible exact gl_InvalidDocument | with_reducible exact gl_DEFAULT_CODEC_OPTIONS | with_reducible exact gl__law_rest | with_reducible exact gl_len | with_reducible exact gl_str | with_reducible exact gl_bytes | with_reducible exact gl_isinstance | with_reducible exact gl_range | with_reducible exact gl_enumerate | with_reducible exact gl_int | with_reducible exact gl_bool | with_reducible exact gl_dict | with_reducible exact gl_list | with_reducible exact gl_tuple | with_reducible exact gl_Exception | with_reducible exact gl_ValueError | with_reducible exact gl_KeyError | with_reducible exact gl_TypeError | with_reducible exact gl_OverflowError)
local macro_rules | `(tactic| tbr_iter "dbg") => `(tactic| first | exact str_ne (by decide) | rfl)
local macro_rules | `(tactic| tbr_iter "lk") => `(tactic| (repeat (first | with_reducible assumption | with_reducible exact hit | with_reducible exact hitT | with_reducible exact hit0 | with_reducible refine miss (str_ne (by decide)) ?_ | with_reducible refine missT (str_ne (by decide)) ?_ | with_reducible refine miss0 (str_ne (by decide)) ?_)))
local macro_rules | `(tactic| tbr_iter "nn") => `(tactic| first | exact none_ne | exact some_ne (str_ne (by decide)) | exact own_ne_none rfl | exact own_ne rfl (str_ne (by decide)) | exact own_ne_none (by assumption) | exact own_ne (by assumption) (str_ne (by decide)))
local macro_rules | `(tactic| tbr_iter "can") => `(tactic| first | exact Ls.canL (by assumption) (by assumption) (by dsimp only; decide +kernel) | exact Ls.canC (by assumption) (by assumption) (by dsimp only; decide +kernel))
local macro_rules | `(tactic| tbr_iter "tt") => `(tactic| dsimp only [txw, scw, bw1, bw2, bw3, bw4, bw5, bw6, bw7, aw1, aw2, uw1, cw1, cw2, cw3, cw4, cw5, cw6, cw7, cw8, cw9, cw10, cw12, cw11, tw1, tw2, tw3, tw4, lw1, lw2, lw3, sw1, yw1, ew1, dw1, gw1, jw1, iw1, xw1, xw4, vw1, vw2, vw3, is_n, isn_n, is_b, isn_b, is_i, isn_i, is_s, isn_s, is_y, isn_y, is_l, isn_l, is_t, isn_t, is_d, isn_d, is_c, isn_c, Bool.not_true, Bool.not_false, Bool.false_eq_true, ret1, ret0, isB, if_true, if_false])
local macro_rules | `(tactic| tbr_iter "stmt") => `(tactic| first
  | ((with_reducible refine' T1.take_list ?ok ?k ?_); (case ok => with_reducible assumption); (case k => tbr_iter "can"))
  | ((with_reducible refine' T1.take_dict ?ok ?k ?o ?_); (case ok => with_reducible assumption); (case k => tbr_iter "can"); (case o => first | rfl | assumption))
  | with_reducible refine TS.nil ?_
  | with_reducible refine TS.cons ?_
  | with_reducible refine T1.ret ?_
  | with_reducible refine T1.if ?_
  | ((with_reducible refine' T1.assign ?ok ?k ?s ?_); (case ok => with_reducible assumption); (case k => tbr_iter "can"); (case s => rfl))
  | ((with_reducible refine' T1.aug ?ok ?k ?l ?o ?_); (case ok => with_reducible assumption); (case k => tbr_iter "can"); (case l => tbr_iter "lk"); (case o => tbr_iter "nn")))
local macro_rules | `(tactic| tbr_iter "name") => `(tactic| first
  | ((with_reducible refine' TE.nm ?L ?e ?d ?o ?_); (case L => with_reducible assumption); (case e => tbr_iter "lk"); (case d => tbr_iter "dbg"); (case o => first | rfl | assumption))
  | ((with_reducible refine' TE.nmO ?L ?e ?d ?o ?y ?_); (case L => with_reducible assumption); (case e => tbr_iter "lk"); (case d => tbr_iter "dbg"); (case o => first | rfl | assumption); (case y => exact str_ne (by decide)))
  | ((with_reducible refine' TE.nmX ?L ?e ?d ?o ?_); (case L => with_reducible assumption); (case e => tbr_iter "lk"); (case d => tbr_iter "dbg"); (case o => first | rfl | assumption))
  | ((with_reducible refine' TE.gn ?L ?k ?d ?e ?_); (case L => with_reducible assumption); (case k => kernel_rfl); (case d => tbr_iter "dbg"); (case e => tbr_iter "gl")))
local macro_rules | `(tactic| tbr_iter "call") => `(tactic| first
  | ((with_reducible refine' TE.len ?L ?k ?g ?n ?_); (case L => with_reducible assumption); (case k => kernel_rfl); (case g => exact gl_len); (case n => rfl))
  | ((with_reducible refine' TE.strI ?L ?k ?g ?n ?_); (case L => with_reducible assumption); (case k => kernel_rfl); (case g => exact gl_str); (case n => rfl))
  | ((with_reducible refine' TE.bytesI ?L ?h ?k ?g ?n ?_); (case L => with_reducible assumption); (case h => with_reducible assumption); (case k => kernel_rfl); (case g => exact gl_bytes); (case n => rfl))
  | ((with_reducible refine' TE.isa ?L ?k ?n ?kT ?hT ?g ?_); (case L => with_reducible assumption); (case k => kernel_rfl); (case n => rfl); (case kT => kernel_rfl); (case hT => tbr_iter "dbg"); (case g => tbr_iter "gl"))
  | ((with_reducible refine' TE.isa2 ?L ?k ?n ?k1 ?h1 ?g1 ?k2 ?h2 ?g2 ?_); (case L => with_reducible assumption); (case k => kernel_rfl); (case n => rfl); (case k1 => kernel_rfl); (case h1 => tbr_iter "dbg"); (case g1 => tbr_iter "gl"); (case k2 => kernel_rfl); (case h2 => tbr_iter "dbg"); (case g2 => tbr_iter "gl"))
  | ((with_reducible refine' TE.fn ?L ?k ?d ?n ?g ?f ?_); (case L => with_reducible assumption); (case k => kernel_rfl); (case d => tbr_iter "dbg"); (case n => rfl); (case g => tbr_iter "gl"); (case f => intro _; kernel_rfl))
  | ((with_reducible refine' TE.encode ?L ?l ?b ?n ?_); (case L => with_reducible assumption); (case l => rfl); (case b => intro _; rfl); (case n => rfl))
  | ((with_reducible refine' TE.decode ?L ?l ?b ?n ?_); (case L => with_reducible assumption); (case l => rfl); (case b => intro _; rfl); (case n => rfl))
  | ((with_reducible refine' TE.get ?L ?l ?b ?n ?_); (case L => with_reducible assumption); (case l => rfl); (case b => intro _; rfl); (case n => rfl))
  | ((with_reducible refine' TE.join ?L ?l ?b ?n ?_); (case L => with_reducible assumption); (case l => rfl); (case b => intro _; rfl); (case n => rfl))
  | ((with_reducible refine' TE.toBytesU ?ok ?l ?b ?n ?_); (case ok => with_reducible assumption); (case l => rfl); (case b => intro _; rfl); (case n => rfl))
  | ((with_reducible refine' TE.toBytes ?l ?b ?n ?_); (case l => rfl); (case b => intro _; rfl); (case n => rfl))
  | ((with_reducible refine' TE.fromBytes ?ok ?k ?g ?l ?b ?fc ?n ?_); (case ok => with_reducible assumption); (case k => exact Ls.kind (by assumption) (by kernel_rfl)); (case g => exact Ls.gv (by assumption) gl_int); (case l => rfl); (case b => intro _; rfl); (case fc => rw [Ls.kq (by assumption)]; exact fc_from _); (case n => rfl)))
local macro_rules | `(tactic| tbr_iter "test") => `(tactic| first
  | ((with_reducible refine' TB.cp ?m ?_); (case m => rfl))
  | ((with_reducible refine' TB.cp2 ?m ?m2 ?_); (case m => rfl); (case m2 => rfl))
  | with_reducible refine TB.not ?_
  | with_reducible refine TB.bool ?_
  | with_reducible refine TBs.and_nil ?_
  | with_reducible refine TBs.or_nil ?_
  | with_reducible refine TBs.and_cons ?_
  | with_reducible refine TBs.or_cons ?_
  | with_reducible refine TB.ifexp ?_
  | ((with_reducible refine' TB.val ?_ ?e); (case e => intro _ _; rfl)))
local macro_rules | `(tactic| tbr_iter "expr2") => `(tactic| first
  | ((with_reducible refine' TE.attrText ?L ?e ?_); (case L => with_reducible assumption); (case e => intro _; with_unfolding_all rfl))
  | ((with_reducible refine' TE.attrSc ?L ?e ?_); (case L => with_reducible assumption); (case e => intro _; with_unfolding_all rfl))
  | ((with_reducible refine' TE.attrOpt ?L ?e ?_); (case L => with_reducible assumption); (case e => intro _; with_unfolding_all rfl))
  | ((with_reducible refine' TE.scope ?L ?e ?h ?n ?_); (case L => with_reducible assumption); (case e => intro _; with_unfolding_all rfl); (case h => with_reducible assumption); (case n => dsimp only; omega))
  | with_reducible refine TE.tuple ?_
  | ((with_reducible refine' TE.cp ?m ?_); (case m => rfl))
  | with_reducible refine TE.un ?_
  | with_reducible refine TE.list ?_
  | tbr_iter "call"
  | with_reducible refine TE.ifexp ?_
  | with_reducible refine TE.an ?_
  | with_reducible refine TE.or ?_
  | with_reducible refine TA.nil ?_
  | ((with_reducible refine' TA.cons ?n ?_); (case n => rfl))
  | with_reducible refine TO.none ?_
  | with_reducible refine TO.some ?_)
local macro_rules | `(tactic| tbr_iter "expr") => `(tactic| first
  | tbr_iter "name"
  | with_reducible refine TE.const_int ?_
  | with_reducible refine TE.const_str ?_
  | with_reducible refine TE.bin ?_
  | with_reducible refine TE.slice ?_
  | with_reducible refine TE.item ?_
  | with_reducible refine TE.const_none ?_
  | with_reducible refine TE.const_bool ?_
  | with_reducible refine TE.const_bytes ?_
  | tbr_iter "expr2")
local macro_rules | `(tactic| tbr_iter "m0") => `(tactic| first
  | ((with_reducible refine (?_ : TE _ _ _ _ _)); tbr_iter "expr")
  | ((with_reducible refine (?_ : TS _ _ _ _ _)); first
    | with_reducible refine TS.cons ?_
    | with_reducible refine TS.nil ?_)
  | ((with_reducible refine (?_ : T1 _ _ _ _ _)); tbr_iter "stmt")
  | ((with_reducible refine (?_ : TA _ _ _ _ _)); first
    | ((with_reducible refine' TA.cons ?n ?_); (case n => rfl))
    | with_reducible refine TA.nil ?_)
  | ((with_reducible refine (?_ : TB _ _ _ _ _)); tbr_iter "test")
  | ((with_reducible refine (?_ : TBs _ _ _ _ _ _)); tbr_iter "test")
  | ((with_reducible refine (?_ : TO _ _ _ _ _)); first
    | with_reducible refine TO.none ?_
    | with_reducible refine TO.some ?_))
local macro_rules | `(tactic| tbr_iter "m2") => `(tactic| first
  | ((with_reducible refine' And.intro (a := (_ : Option Str) = _) ?t ?_); (case t => first | rfl | assumption))
  | ((with_reducible refine' And.intro (a := notExt _ = true) ?t ?_); (case t => rfl))
  | ((with_reducible refine' And.intro (a := _ ≠ some (_ : Str)) ?o ?_); (case o => tbr_iter "nn"))
  | ((with_reducible refine' And.intro ?t ?_); (case t => tbr_iter "side"))
  | ((with_reducible refine' go_t ?h ?_); (case h => tbr_iter "side"))
  | ((with_reducible refine' go_f ?h ?_); (case h => tbr_iter "side"))
  | with_reducible refine intOnly ?_
  | with_reducible refine Exists.intro _ (And.intro rfl ?_)
  | refine Exists.intro 4 (And.intro rfl ?_)
  | ((with_reducible refine' itemT ?h ?e ?_); (case h => omega); (case e => rfl))
  | ((with_reducible refine' isW_k ?e ?k ?_); (case e => rfl); (case k => kernel_rfl))
  | ((with_reducible refine' isW2_k ?e ?k ?_); (case e => rfl); (case k => kernel_rfl))
  | with_reducible refine isW_o ?_)
local macro_rules | `(tactic| tbr_iter "m1") => `(tactic| first | tbr_iter "m0" | tbr_iter "m2")
local macro_rules | `(tactic| tbr_iter "go") => `(tactic| ((try tbr_iter "tt"); repeat (first | tbr_iter "m0" | (tbr_iter "tt"; first | tbr_iter "m0" | tbr_iter "m2" | skip) | tbr_iter "m2")))
section
theorem okF_encode_code : FdOk F_encode_code ["name", "value", "dummy", "opts"] := ⟨by kernel_rfl, by kernel_rfl, by kernel_rfl, by kernel_rfl, by kernel_rfl, by kernel_rfl, by kernel_rfl, by decide, fun _ => by kernel_rfl⟩
theorem bF_encode_code : Bnd F_encode_code ["name", "value", "dummy", "opts"] := bnd4 fun a b c d => by kernel_rfl
theorem okF_encode_mapping : FdOk F_encode_mapping ["name", "value", "check_keys", "opts"] := ⟨by kernel_rfl, by kernel_rfl, by kernel_rfl, by kernel_rfl, by kernel_rfl, by kernel_rfl, by kernel_rfl, by decide, fun _ => by kernel_rfl⟩
theorem bF_encode_mapping : Bnd F_encode_mapping ["name", "value", "check_keys", "opts"] := bnd4 fun a b c d => by kernel_rfl
theorem okF_encode_list : FdOk F_encode_list ["name", "value", "check_keys", "opts"] := ⟨by kernel_rfl, by kernel_rfl, by kernel_rfl, by kernel_rfl, by kernel_rfl, by kernel_rfl, by kernel_rfl, by decide, fun _ => by kernel_rfl⟩
theorem bF_encode_list : Bnd F_encode_list ["name", "value", "check_keys", "opts"] := bnd4 fun a b c d => by kernel_rfl
theorem okF_element_to_bson : FdOk F_element_to_bson ["key", "value", "check_keys", "opts"] := ⟨by kernel_rfl, by kernel_rfl, by kernel_rfl, by kernel_rfl, by kernel_rfl, by kernel_rfl, by kernel_rfl, by decide, fun _ => by kernel_rfl⟩
theorem bF_element_to_bson : Bnd F_element_to_bson ["key", "value", "check_keys", "opts"] := bnd4 fun a b c d => by kernel_rfl
theorem bytesOf_map {α : Type} (g : α → List UInt8) : ∀ l : List α, bytesOf (l.map fun i => .bytes (g i)) = some (l.map g)
  | [] => rfl
  | a :: r => by simp only [List.map_cons, bytesOf, bytesOf_map g r, Option.map_some]
theorem itemsF_eq (f : Flds) : itemsF f.keys f.vals = f.items.map fun i => PV.tuple [.str i.1, i.2.2.val] := by
  unfold itemsF Flds.keys
  rw [f.vals_eq, List.zip_map', List.map_map]
  rfl
theorem items_get {f : Flds} {g : Itm → PV} {k : Nat} {d e : PV} (h1 : (itemsF f.keys f.vals)[k]? = some d) (h2 : (f.items.map g)[k]? = some e) : ∃ i, i ∈ f.items ∧ d = .tuple [.str i.1, i.2.2.val] ∧ e = g i := by
  rw [itemsF_eq, List.getElem?_map] at h1
  rw [List.getElem?_map] at h2
  cases hi : f.items[k]? with
  | none => rw [hi] at h1; cases h1
  | some i =>
    rw [hi] at h1 h2
    cases h1; cases h2
    exact ⟨i, List.mem_of_getElem? hi, rfl, rfl⟩
theorem items_len (f : Flds) : f.items.length ≤ f.octs.length := by
  rw [f.octs_eq]
  generalize f.items = l
  induction l with
  | nil => simp
  | cons a r ih =>
    simp only [List.map_cons, List.flatten_cons, List.length_append, List.length_cons, fldO, List.length_nil]
    omega
theorem itemsF_len (f : Flds) : (itemsF f.keys f.vals).length = f.items.length := by rw [itemsF_eq, List.length_map]
theorem wrap_len (o : List UInt8) : (wrapO o).length = o.length + 5 := by
  have := KTBy.low_length ((o.length : Int) + 5) 4
  simp only [wrapO, low4, List.length_append, List.length_cons, List.length_nil, this]; omega
theorem str_len (b : List UInt8) : (strO b).length = b.length + 5 := by
  have := KTBy.low_length ((b.length : Int) + 1) 4
  simp only [strO, low4, List.length_append, List.length_cons, List.length_nil, this]; omega
/-- code without a scope -/
theorem c_encode_code0 {nm : List UInt8} {x : Str} {b : List UInt8} {d2 d3 : PV} {n : Nat} (h : Txt x b) (hnm : nm.length ≤ 1000) (hn : 2 ≤ n) : CallOk glF K (n + 1) 1374 [.bytes nm, .code x .none, d2, d3] (fun d => d = .bytes ([13] ++ nm ++ strO b)) noX := by
  have := h.xs; have := h.bs
  refine enter kF_encode_code okF_encode_code bF_encode_code rfl rfl fun C ok Lk L hlw hcw hh => ?_
  dsimp only [List.zip, List.zipWith]
  tbr_iter "go"
  refine L.go (c_make_c_string (n := 1) h.enc (by omega) (by omega) (by omega)) hn hh ?_
  tbr_iter "go"
  refine L.go (c_PACK_INT (n := 0) (by tbr_iter "side") (by tbr_iter "side")) (by show 1 ≤ n; omega) hh ?_
  have := KTBy.low_length ((b.length : Int) + 1) 4
  have e : (((b ++ [0]).length : Nat) : Int) = (b.length : Int) + 1 := by simp
  rw [e]
  tbr_iter "go"
  simp [strO]
/-- a name and its datum -/
theorem c_element {i : Itm} {n : Nat} (h : Nm i.1 i.2.1) (hn : 2 ≤ n) (H : CallOk glF K n 1424 [.bytes (i.2.1 ++ [0]), i.2.2.val, .bool false, opts] (fun d => d = .bytes (fldO i)) noX) :
    CallOk glF K (n + 1) 1431 [.str i.1, i.2.2.val, .bool false, opts] (fun d => d = .bytes (fldO i)) noX := by
  have := h.xs; have := h.bs
  refine enter kF_element_to_bson okF_element_to_bson bF_element_to_bson rfl rfl fun C ok Lk L hlw hcw hh => ?_
  dsimp only [List.zip, List.zipWith]
  tbr_iter "go"
  refine L.go (c_make_name (n := 1) h.enc (by omega) (by omega) (by omega) h.nn) hn hh ?_
  tbr_iter "go"
  refine L.go H (Nat.le_refl _) hh ?_
  tbr_iter "go"
  done
/-- a document within another -/
theorem c_mapping {nm : List UInt8} {f : Flds} {n : Nat} (hnm : nm.length ≤ 1000) (nd : f.keys.Nodup) (hz : f.octs.length ≤ 1000000) (hn : 1 ≤ n)
    (H : ∀ i ∈ f.items, CallOk glF K n 1431 [.str i.1, i.2.2.val, .bool false, opts] (fun d => d = .bytes (fldO i)) noX) :
    CallOk glF K (n + 1) 1299 [.bytes nm, .dict f.keys f.vals, .bool false, opts] (fun d => d = .bytes ([3] ++ nm ++ wrapO f.octs)) noX := by
  have hi := items_len f
  refine enter kF_encode_mapping okF_encode_mapping bF_encode_mapping rfl rfl fun C ok Lk L hlw hcw hh => ?_
  dsimp only [List.zip, List.zipWith]
  tbr_iter "go"
  refine TE.listcomp ok hh (fun _ => rfl) (CompScope.of L (by kernel_rfl)) ?_
  refine TI.items hh rfl (fun _ => rfl) ?_
  tbr_iter "go"
  refine ⟨f.items.map fun i => .bytes (fldO i), ⟨by rw [itemsF_len]; omega, by rw [itemsF_len, List.length_map], ⟨[("check_keys", .bool false), ("opts", opts)], none⟩,
    CompVars.cons (by tbr_iter "lk") nofun (by kernel_rfl) (CompVars.cons (by tbr_iter "lk") nofun (by kernel_rfl) CompVars.nil), ?_⟩, ?_⟩
  · intro k d e h1 h2 C' c
    obtain ⟨i, hm, rfl, rfl⟩ := items_get h1 h2
    have L' := L.comp (CompScope.of L (by kernel_rfl)) c
    have hh' := c.hd.trans hh
    refine ⟨_, Bind.tup (xs := [("key", _), ("val", _)]) rfl ?_, ?_⟩
    · intro x hx
      simp only [List.mem_cons, List.not_mem_nil, or_false] at hx
      rcases hx with rfl | rfl <;> exact ⟨L'.canL c.lw (by kernel_rfl), nofun⟩
    · dsimp only [List.zip, List.zipWith, List.foldl]
      tbr_iter "go"
      refine L'.go (H i hm) (Nat.le_refl _) hh' ?_
      rfl
  · refine ⟨f.items.map fldO, bytesOf_map _ _, by rw [← f.octs_eq]; omega, ?_⟩
    rw [← f.octs_eq]
    tbr_iter "go"
    refine L.go (c_PACK_INT (n := 0) (by tbr_iter "side") (by tbr_iter "side")) hn hh ?_
    have := KTBy.low_length ((f.octs.length : Int) + 5) 4
    tbr_iter "go"
    simp [wrapO]
end
section
theorem okF_dict_to_bson : FdOk F_dict_to_bson ["doc", "check_keys", "opts", "top_level"] := ⟨by kernel_rfl, by kernel_rfl, by kernel_rfl, by kernel_rfl, by kernel_rfl, by kernel_rfl, by kernel_rfl, by decide, fun _ => by kernel_rfl⟩
theorem row_num : ∀ {l : List Itm} {j k : Nat} {i : Itm}, rowNames j l → l[k]? = some i → Num (j + k) i.1 i.2.1
  | (x, b, d) :: r, j, 0, i, h, e => by
    cases e
    exact h.1
  | (x, b, d) :: r, j, k + 1, i, h, e => by
    have := row_num (j := j + 1) (k := k) h.2 (by simpa using e)
    rwa [Nat.add_assoc, Nat.add_comm 1 k] at this
theorem enum_get {f : Flds} {g : Itm → PV} {k : Nat} {d e : PV} (h1 : (enumF f.vals)[k]? = some d) (h2 : (f.items.map g)[k]? = some e) : ∃ i, f.items[k]? = some i ∧ d = .tuple [.int (k : Int), i.2.2.val] ∧ e = g i := by
  rw [List.getElem?_map] at h2
  cases hi : f.items[k]? with
  | none => rw [hi] at h2; cases h2
  | some i =>
    rw [hi] at h2; cases h2
    have hk : k < f.items.length := (List.getElem?_eq_some_iff.mp hi).1
    refine ⟨i, rfl, ?_, rfl⟩
    unfold enumF at h1
    rw [f.vals_eq, List.getElem?_zipWith, List.getElem?_map, hi] at h1
    simp [hk] at h1
    exact h1.symm
theorem enumF_len (f : Flds) : (enumF f.vals).length = f.items.length := by unfold enumF; rw [f.vals_eq]; simp
theorem log_small {k : Nat} (h : k ≤ 1000000) : ((k : Int)).natAbs.log2 < 1920 := by
  rw [Int.natAbs_natCast]
  by_cases h0 : k = 0
  · subst h0; decide
  · have : k.log2 < 20 := (Nat.log2_lt h0).mpr (Nat.lt_of_le_of_lt h (by decide))
    omega
/-- a row -/
theorem c_list {nm : List UInt8} {f : Flds} {n : Nat} (hnm : nm.length ≤ 1000) (wf : f.Wf) (rn : rowNames 0 f.items) (hz : f.octs.length ≤ 1000000) (hn : 1 ≤ n)
    (H : ∀ i ∈ f.items, CallOk glF K n 1424 [.bytes (i.2.1 ++ [0]), i.2.2.val, .bool false, opts] (fun d => d = .bytes (fldO i)) noX) :
    CallOk glF K (n + 1) 1311 [.bytes nm, .list f.vals, .bool false, opts] (fun d => d = .bytes ([4] ++ nm ++ wrapO f.octs)) noX := by
  have hi := items_len f
  refine enter kF_encode_list okF_encode_list bF_encode_list rfl rfl fun C ok Lk L hlw hcw hh => ?_
  dsimp only [List.zip, List.zipWith]
  tbr_iter "go"
  refine TE.listcomp ok hh (fun _ => rfl) (CompScope.of L (by kernel_rfl)) ?_
  refine TI.enumerate ok hh (L.kind (by kernel_rfl)) (L.gv gl_enumerate) rfl ?_
  tbr_iter "go"
  refine ⟨f.items.map fun i => .bytes (fldO i), ⟨by rw [enumF_len]; omega, by rw [enumF_len, List.length_map], ⟨[("check_keys", .bool false), ("opts", opts)], none⟩,
    CompVars.cons (by tbr_iter "lk") nofun (by kernel_rfl) (CompVars.cons (by tbr_iter "lk") nofun (by kernel_rfl) CompVars.nil), ?_⟩, ?_⟩
  · intro k d e h1 h2 C' c
    obtain ⟨i, hk, rfl, rfl⟩ := enum_get h1 h2
    have hm := List.mem_of_getElem? hk
    have hlt : k < f.items.length := (List.getElem?_eq_some_iff.mp hk).1
    have hN := row_num rn hk
    rw [Nat.zero_add] at hN
    have hT := (f.wf_item wf hm).1
    have := hT.xs; have := hT.bs
    have L' := L.comp (CompScope.of L (by kernel_rfl)) c
    have hh' := c.hd.trans hh
    refine ⟨_, Bind.tup (xs := [("i", _), ("item", _)]) rfl ?_, ?_⟩
    · intro x hx
      simp only [List.mem_cons, List.not_mem_nil, or_false] at hx
      rcases hx with rfl | rfl <;> exact ⟨L'.canL c.lw (by kernel_rfl), nofun⟩
    · dsimp only [List.zip, List.zipWith, List.foldl]
      tbr_iter "go"
      refine ⟨log_small (by omega), ?_⟩
      rw [← hN.1]
      have hl : (Str.ofString "\x00").length = 1 := by decide
      tbr_iter "go"
      refine ⟨i.2.1 ++ [0], .inr rfl, hN.2, by tbr_iter "side", ?_⟩
      tbr_iter "go"
      refine L'.go (H i hm) (Nat.le_refl _) hh' ?_
      rfl
  · refine ⟨f.items.map fldO, bytesOf_map _ _, by rw [← f.octs_eq]; omega, ?_⟩
    rw [← f.octs_eq]
    tbr_iter "go"
    refine L.go (c_PACK_INT (n := 0) (by tbr_iter "side") (by tbr_iter "side")) hn hh ?_
    have := KTBy.low_length ((f.octs.length : Int) + 5) 4
    tbr_iter "go"
    simp [wrapO]
structure DInv (f : Flds) (b : Bool) (acc : List Itm) (σ : St) : Prop where
  own : σ.own = some "elements"
  el : σ.vars.lookup ("elements" : Str) = some (.list (acc.map fun i => .bytes (fldO i)))
  ck : σ.vars.lookup ("check_keys" : Str) = some (.bool false)
  op : σ.vars.lookup ("opts" : Str) = some opts
  tl : σ.vars.lookup ("top_level" : Str) = some (.bool b)
theorem id_not {f : Flds} (h : f.Wf) : f.keys.contains (Str.ofString "_id") = false := by
  cases e : f.keys.contains (Str.ofString "_id") with
  | false => rfl
  | true =>
    simp only [Flds.keys, List.contains_iff_mem, List.mem_map] at e
    obtain ⟨i, m, e⟩ := e
    exact absurd e (f.wf_item h m).1.id
/-- a document -/
theorem w_dict {f : Flds} {n : Nat} {b : Bool} (wf : f.Wf) (nd : f.keys.Nodup) (hz : f.octs.length ≤ 1000000) (hn : 1 ≤ n)
    (H : ∀ i ∈ f.items, CallOk glF K n 1431 [.str i.1, i.2.2.val, .bool false, opts] (fun d => d = .bytes (fldO i)) noX)
    {C : Cx} (ok : C.Ok) (Lk : Lk glF K C ⟨F_dict_to_bson.scope.names, n, none⟩) (L : Lg C ⟨F_dict_to_bson.scope.names, n, none⟩) (hlw : C.lw = true) (_hcw : C.cw = true) (hh : C.hd = none) (body : List Stmt) (hb : F_dict_to_bson.body = .stmts body) :
    TS C body ⟨[("doc", .dict f.keys f.vals), ("check_keys", .bool false), ("opts", opts), ("top_level", .bool b)], none⟩ (fun o _ => retOf o = .bytes (wrapO f.octs)) fun x _ => noX x := by
  have hi := items_len f
  have hid := id_not wf
  obtain rfl : _ = body := FuncBody.stmts.inj hb
  clear hb
  tbr_iter "go"
  cases b
  case' true => tbr_iter "go"
  all_goals
    tbr_iter "go"
    refine T1.for ok Lk.fe hh (fun _ => rfl) (TI.items hh rfl (fun _ => rfl) ?_)
    tbr_iter "go"
    rw [itemsF_eq]
    refine ForT.list (fun i : Itm => PV.tuple [.str i.1, i.2.2.val]) (DInv f _) (fun acc i => i ∈ f.items ∧ acc.length ≤ f.items.length) ?_ f.items [] _ (fun k i e => ⟨List.mem_of_getElem? e, by simp; omega⟩) ⟨rfl, hitT, by tbr_iter "lk", by tbr_iter "lk", by tbr_iter "lk"⟩ ?_
    · intro i acc σ ⟨hm, hacc⟩ hσ
      have hne : (i.1 != Str.ofString "_id") = true := by simp [(f.wf_item wf hm).1.id]
      obtain ⟨h1, h2, h3, h4, h5⟩ := hσ
      refine ⟨_, Bind.tup (xs := [("key", _), ("value", _)]) rfl ?_, ?_⟩
      · intro x hx
        simp only [List.mem_cons, List.not_mem_nil, or_false] at hx
        rcases hx with rfl | rfl <;> exact ⟨L.canL hlw (by kernel_rfl), own_ne h1 (str_ne (by decide))⟩
      · dsimp only [List.zip, List.zipWith, List.foldl]
        tbr_iter "go"
        refine T1.try ok Lk.fe hh (TS.cons (T1.app (ds := acc.map fun i => .bytes (fldO i)) ok (by tbr_iter "lk") (by exact h1) (str_ne (by decide)) rfl rfl (by rw [List.length_map]; omega) fun X h' => ?_))
        have L2 := L.still X h'
        tbr_iter "go"
        refine L2.go (H i hm) (Nat.le_refl _) hh ?_
        tbr_iter "go"
        refine ⟨h1, ?_, by tbr_iter "lk", by tbr_iter "lk", by tbr_iter "lk"⟩
        rw [List.map_append]
        exact hit
    · intro σ hσ
      obtain ⟨h1, h2, h3, h4, h5⟩ := hσ
      rw [List.nil_append] at h2
      tbr_iter "go"
      refine ⟨f.items.map fldO, bytesOf_map _ _, by rw [← f.octs_eq]; omega, ?_⟩
      rw [← f.octs_eq]
      tbr_iter "go"
      refine L.go (c_PACK_INT (n := 0) (by tbr_iter "side") (by tbr_iter "side")) hn hh ?_
      have := KTBy.low_length ((f.octs.length : Int) + 5) 4
      tbr_iter "go"
      simp [wrapO]

theorem c_dict4 {f : Flds} {n : Nat} {b : Bool} (wf : f.Wf) (nd : f.keys.Nodup) (hz : f.octs.length ≤ 1000000) (hn : 1 ≤ n)
    (H : ∀ i ∈ f.items, CallOk glF K n 1431 [.str i.1, i.2.2.val, .bool false, opts] (fun d => d = .bytes (fldO i)) noX) :
    CallOk glF K (n + 1) 1439 [.dict f.keys f.vals, .bool false, opts, .bool b] (fun d => d = .bytes (wrapO f.octs)) noX :=
  enterD (T := 1432) (items := [.bool true]) (rest := []) (es := []) kF_dict_to_bson okF_dict_to_bson (fun _ => by kernel_rfl) (fun us h s ho => match us, h with
    | [a, b, c, d], _ => BindsTo.of_defaults (by kernel_rfl : F_dict_to_bson.defaults = .ref 1432) ho rfl rfl (by kernel_rfl)) (fun P h X => Reps.nil) rfl fun _ ok Lk L hlw hcw hh => w_dict wf nd hz hn H ok Lk L hlw hcw hh _ rfl
theorem c_dict3 {f : Flds} {n : Nat} (wf : f.Wf) (nd : f.keys.Nodup) (hz : f.octs.length ≤ 1000000) (hn : 1 ≤ n)
    (H : ∀ i ∈ f.items, CallOk glF K n 1431 [.str i.1, i.2.2.val, .bool false, opts] (fun d => d = .bytes (fldO i)) noX) :
    CallOk glF K (n + 1) 1439 [.dict f.keys f.vals, .bool false, opts] (fun d => d = .bytes (wrapO f.octs)) noX :=
  enterD (T := 1432) (items := [.bool true]) (rest := [.bool true]) (es := [.bool true]) kF_dict_to_bson okF_dict_to_bson (fun _ => by kernel_rfl) (fun us h s ho => match us, h with
    | [a, b, c], _ => BindsTo.of_defaults (by kernel_rfl : F_dict_to_bson.defaults = .ref 1432) ho rfl rfl (by kernel_rfl)) (fun P h X => Reps.cons (rep_bool _) Reps.nil) rfl fun _ ok Lk L hlw hcw hh => w_dict wf nd hz hn H ok Lk L hlw hcw hh _ rfl
end
section
theorem okF_name_value_to_bson : FdOk F_name_value_to_bson ["name", "value", "check_keys", "opts", "in_fallback_call"] := ⟨by kernel_rfl, by kernel_rfl, by kernel_rfl, by kernel_rfl, by kernel_rfl, by kernel_rfl, by kernel_rfl, by decide, fun _ => by kernel_rfl⟩
theorem f_txt : EncIs fName [102] := enc_names.2.2.2.2
/-- code with a scope -/
theorem c_encode_code1 {nm : List UInt8} {f : Flds} {n : Nat} (hnm : nm.length ≤ 1000) (hz : f.octs.length ≤ 1000000) (hn : 2 ≤ n)
    (H : CallOk glF K n 1439 [.dict f.keys f.vals, .bool false, opts, .bool false] (fun d => d = .bytes (wrapO f.octs)) noX) :
    CallOk glF K (n + 1) 1374 [.bytes nm, .code fName (.dict f.keys f.vals), .bool false, opts] (fun d => d = .bytes ([15] ++ nm ++ (Dat.scd f).body)) noX := by
  have hw := wrap_len f.octs
  refine enter kF_encode_code okF_encode_code bF_encode_code rfl rfl fun C ok Lk L hlw hcw hh => ?_
  dsimp only [List.zip, List.zipWith]
  tbr_iter "go"
  refine L.go (c_make_c_string (n := 1) f_txt (by decide) (by decide) (by omega)) hn hh ?_
  tbr_iter "go"
  refine L.go H (Nat.le_refl _) hh ?_
  tbr_iter "go"
  refine L.go (c_PACK_INT (n := 0) (by tbr_iter "side") (by tbr_iter "side")) (by show 1 ≤ n; omega) hh ?_
  have h4 : ∀ x : Int, (KTBy.low x 4).length = 4 := fun x => KTBy.low_length x 4
  tbr_iter "go"
  refine L.go (c_PACK_INT (n := 0) (by tbr_iter "side") (by tbr_iter "side")) (by show 1 ≤ n; omega) hh ?_
  tbr_iter "go"
  have e1 : (8 + (([102] ++ [0] : List UInt8).length : Int) + ((wrapO f.octs).length : Int)) = (f.octs.length : Int) + 15 := by rw [hw]; simp; omega
  rw [e1]
  simp [Dat.body, strO, low4]
abbrev nvN (k : Nat) : Nat := 4 * k + 4
set_option maxHeartbeats 4000000 in
theorem w_nv {k : Nat} (IH : ∀ d : Dat, d.dep < k → d.Wf → ∀ nm : List UInt8, nm.length ≤ 1000 → CallOk glF K (nvN (k - 1)) 1424 [.bytes nm, d.val, .bool false, opts] (fun r => r = .bytes ([d.kind] ++ nm ++ d.body)) noX)
    (d : Dat) (hk : d.dep ≤ k) (wf : d.Wf) (nm : List UInt8) (hnm : nm.length ≤ 1000)
    {C : Cx} (ok : C.Ok) (Lk : Lk glF K C ⟨F_name_value_to_bson.scope.names, 4 * k + 3, none⟩) (L : Lg C ⟨F_name_value_to_bson.scope.names, 4 * k + 3, none⟩) (hlw : C.lw = true) (_hcw : C.cw = true) (hh : C.hd = none) (body : List Stmt) (hb : F_name_value_to_bson.body = .stmts body) :
    TS C body ⟨[("name", .bytes nm), ("value", d.val), ("check_keys", .bool false), ("opts", opts), ("in_fallback_call", .bool false)], none⟩ (fun o _ => retOf o = .bytes ([d.kind] ++ nm ++ d.body)) fun x _ => noX x := by
  obtain rfl : _ = body := FuncBody.stmts.inj hb
  clear hb
  have el : ∀ (f : Flds), f.dep < k → f.Wf → ∀ i ∈ f.items, CallOk glF K (4 * k + 1) 1431 [.str i.1, i.2.2.val, .bool false, opts] (fun d => d = .bytes (fldO i)) noX := fun f hf wf i hm =>
    (c_element (f.wf_item wf hm).1 (by omega) ((IH i.2.2 (by have := Flds.dep_item hm; omega) (f.wf_item wf hm).2 _ (by have := (f.wf_item wf hm).1.bs; simp; omega)).mono (by show 4 * (k - 1) + 4 ≤ 4 * k; omega) (fun _ e => e) fun _ z => z)).mono (Nat.le_refl _) (fun _ e => e) fun _ z => z
  cases d with
  | nul =>
    simp only [Dat.val, Dat.kind, Dat.body]
    tbr_iter "go"
    refine L.go (c_encode_none (n := 0) hnm) (by show 1 ≤ 4 * k + 3; omega) hh ?_
    simp [retOf]
  | num i =>
    simp only [Dat.val, Dat.kind, Dat.body]
    simp only [Dat.Wf] at wf
    tbr_iter "go"
    refine T1.try ok Lk.fe hh ?_
    tbr_iter "go"
    refine L.go (c_encode_int (n := 1) hnm wf.1 wf.2 (by omega)) (by show 2 ≤ 4 * k + 3; omega) hh ?_
    rfl
  | tru b =>
    simp only [Dat.val, Dat.kind, Dat.body]
    tbr_iter "go"
    refine L.go (c_encode_bool (n := 0) hnm) (by show 1 ≤ 4 * k + 3; omega) hh ?_
    rfl
  | txt x b =>
    simp only [Dat.val, Dat.kind, Dat.body]
    simp only [Dat.Wf] at wf
    have := wf.xs; have := wf.bs
    tbr_iter "go"
    refine L.go (c_encode_text (n := 1) wf.enc (by omega) (by omega) hnm (by omega)) (by show 2 ≤ 4 * k + 3; omega) hh ?_
    simp [retOf, strO]
  | cod x b =>
    simp only [Dat.val, Dat.kind, Dat.body]
    simp only [Dat.Wf] at wf
    tbr_iter "go"
    refine L.go (c_encode_code0 (n := 2) wf hnm (by omega)) (by show 3 ≤ 4 * k + 3; omega) hh ?_
    simp [retOf]
  | row f =>
    simp only [Dat.dep] at hk
    simp only [Dat.val, Dat.kind, Dat.body]
    simp only [Dat.Wf] at wf
    tbr_iter "go"
    refine L.go (c_list (n := 4 * k) hnm wf.1 wf.2.1 wf.2.2 (by omega) fun i hm => (IH i.2.2 (by have := Flds.dep_item hm; omega) (f.wf_item wf.1 hm).2 _ (by have := (f.wf_item wf.1 hm).1.bs; simp; omega)).mono (by show 4 * (k - 1) + 4 ≤ 4 * k; omega) (fun _ e => e) fun _ z => z) (by show 4 * k + 1 ≤ 4 * k + 3; omega) hh ?_
    simp [retOf]
  | doc f =>
    simp only [Dat.dep] at hk
    simp only [Dat.val, Dat.kind, Dat.body]
    simp only [Dat.Wf] at wf
    tbr_iter "go"
    refine L.go (c_mapping (n := 4 * k + 1) hnm wf.2.1 wf.2.2 (by omega) (el f (by omega) wf.1)) (by show 4 * k + 2 ≤ 4 * k + 3; omega) hh ?_
    simp [retOf]
  | scd f =>
    simp only [Dat.dep] at hk
    simp only [Dat.val, Dat.kind]
    simp only [Dat.Wf] at wf
    tbr_iter "go"
    refine L.go (c_encode_code1 (n := 4 * k + 2) hnm wf.2.2 (by omega) (c_dict4 (n := 4 * k + 1) wf.1 wf.2.1 wf.2.2 (by omega) (el f (by omega) wf.1))) (by show 4 * k + 3 ≤ 4 * k + 3; omega) hh ?_
    simp [retOf]
theorem c_nv : ∀ (k : Nat) (d : Dat), d.dep ≤ k → d.Wf → ∀ nm : List UInt8, nm.length ≤ 1000 → CallOk glF K (nvN k) 1424 [.bytes nm, d.val, .bool false, opts] (fun r => r = .bytes ([d.kind] ++ nm ++ d.body)) noX
  | k, d, hk, wf, nm, hnm =>
    enterD (T := 1417) (items := [.bool false]) (rest := [.bool false]) (es := [.bool false]) kF_name_value_to_bson okF_name_value_to_bson (fun _ => by kernel_rfl) (fun us h s ho => match us, h with
      | [a, b, c, d], _ => BindsTo.of_defaults (by kernel_rfl : F_name_value_to_bson.defaults = .ref 1417) ho rfl rfl (by kernel_rfl)) (fun P h X => Reps.cons (rep_bool _) Reps.nil) rfl fun _ ok Lk L hlw hcw hh =>
      w_nv (k := k) (fun d' hd wf' nm' hn' => c_nv (k - 1) d' (by omega) wf' nm' hn') d hk wf nm hnm ok Lk L hlw hcw hh _ rfl
  termination_by k => k
  decreasing_by omega
end
section
section
variable {C : Cx} {D : Dn} {σ : St} {Q : Out → St → Prop} {R : Exc → St → Prop} {gl : Str → Option Value} {K : Params → Frag}
theorem T1.tup2 {x y : Str} {px py : Pos} {e : Expr} {k} {p pos : Pos} (ok : C.Ok) (hh : C.hd = none) (cx : canStore C x) (cy : canStore C y) (hw : swappedStores [.Tuple [.Name x px, .Name y py] k p] e C.env = pure none) (hs : swapsWith e (some (.Tuple [.Name x px, .Name y py] k p)) pos.line C.env = pure false)
    (h : TE C e σ (fun d σ₁ => ∃ a b, d = .tuple [a, b] ∧ σ₁.own ≠ some x ∧ σ₁.own ≠ some y ∧ Q .next ((σ₁.put x a).put y b)) R) : T1 C (.Assign [.Tuple [.Name x px, .Name y py] k p] e pos) σ Q R :=
  T1.tup (xs := [(x, px), (y, py)]) ok hh rfl hw hs (TE.mono h (fun d σ₁ ⟨a, b, e, n1, n2, q⟩ => by
    subst e
    refine ⟨rfl, fun z m => ?_, q⟩
    simp only [List.mem_cons, List.not_mem_nil, or_false] at m
    rcases m with rfl | rfl
    · exact ⟨cx, n1⟩
    · exact ⟨cy, n2⟩) fun _ _ z => z)
theorem T1.tup3 {x y z : Str} {px py pz : Pos} {e : Expr} {k} {p pos : Pos} (ok : C.Ok) (hh : C.hd = none) (cx : canStore C x) (cy : canStore C y) (cz : canStore C z) (hw : swappedStores [.Tuple [.Name x px, .Name y py, .Name z pz] k p] e C.env = pure none) (hs : swapsWith e (some (.Tuple [.Name x px, .Name y py, .Name z pz] k p)) pos.line C.env = pure false)
    (h : TE C e σ (fun d σ₁ => ∃ a b c, d = .tuple [a, b, c] ∧ σ₁.own ≠ some x ∧ σ₁.own ≠ some y ∧ σ₁.own ≠ some z ∧ Q .next (((σ₁.put x a).put y b).put z c)) R) : T1 C (.Assign [.Tuple [.Name x px, .Name y py, .Name z pz] k p] e pos) σ Q R :=
  T1.tup (xs := [(x, px), (y, py), (z, pz)]) ok hh rfl hw hs (TE.mono h (fun d σ₁ ⟨a, b, c, e, n1, n2, n3, q⟩ => by
    subst e
    refine ⟨rfl, fun z m => ?_, q⟩
    simp only [List.mem_cons, List.not_mem_nil, or_false] at m
    rcases m with rfl | rfl | rfl
    · exact ⟨cx, n1⟩
    · exact ⟨cy, n2⟩
    · exact ⟨cz, n3⟩) fun _ _ z => z)
theorem T1.tup4 {x y z w : Str} {px py pz pw : Pos} {e : Expr} {k} {p pos : Pos} (ok : C.Ok) (hh : C.hd = none) (cx : canStore C x) (cy : canStore C y) (cz : canStore C z) (cw : canStore C w) (hw : swappedStores [.Tuple [.Name x px, .Name y py, .Name z pz, .Name w pw] k p] e C.env = pure none) (hs : swapsWith e (some (.Tuple [.Name x px, .Name y py, .Name z pz, .Name w pw] k p)) pos.line C.env = pure false)
    (h : TE C e σ (fun d σ₁ => ∃ a b c f, d = .tuple [a, b, c, f] ∧ (σ₁.own ≠ some x ∧ σ₁.own ≠ some y ∧ σ₁.own ≠ some z ∧ σ₁.own ≠ some w) ∧ Q .next ((((σ₁.put x a).put y b).put z c).put w f)) R) : T1 C (.Assign [.Tuple [.Name x px, .Name y py, .Name z pz, .Name w pw] k p] e pos) σ Q R :=
  T1.tup (xs := [(x, px), (y, py), (z, pz), (w, pw)]) ok hh rfl hw hs (TE.mono h (fun d σ₁ ⟨a, b, c, f, e, ⟨n1, n2, n3, n4⟩, q⟩ => by
    subst e
    refine ⟨rfl, fun z m => ?_, q⟩
    simp only [List.mem_cons, List.not_mem_nil, or_false] at m
    rcases m with rfl | rfl | rfl | rfl
    · exact ⟨cx, n1⟩
    · exact ⟨cy, n2⟩
    · exact ⟨cz, n3⟩
    · exact ⟨cw, n4⟩) fun _ _ z => z)
theorem T1.tup5 {x y z w v : Str} {px py pz pw pv : Pos} {e : Expr} {k} {p pos : Pos} (ok : C.Ok) (hh : C.hd = none) (cx : canStore C x) (cy : canStore C y) (cz : canStore C z) (cw : canStore C w) (cv : canStore C v) (hw : swappedStores [.Tuple [.Name x px, .Name y py, .Name z pz, .Name w pw, .Name v pv] k p] e C.env = pure none) (hs : swapsWith e (some (.Tuple [.Name x px, .Name y py, .Name z pz, .Name w pw, .Name v pv] k p)) pos.line C.env = pure false)
    (h : TE C e σ (fun d σ₁ => ∃ a b c f g, d = .tuple [a, b, c, f, g] ∧ (σ₁.own ≠ some x ∧ σ₁.own ≠ some y ∧ σ₁.own ≠ some z ∧ σ₁.own ≠ some w ∧ σ₁.own ≠ some v) ∧ Q .next (((((σ₁.put x a).put y b).put z c).put w f).put v g)) R) : T1 C (.Assign [.Tuple [.Name x px, .Name y py, .Name z pz, .Name w pw, .Name v pv] k p] e pos) σ Q R :=
  T1.tup (xs := [(x, px), (y, py), (z, pz), (w, pw), (v, pv)]) ok hh rfl hw hs (TE.mono h (fun d σ₁ ⟨a, b, c, f, g, e, ⟨n1, n2, n3, n4, n5⟩, q⟩ => by
    subst e
    refine ⟨rfl, fun z m => ?_, q⟩
    simp only [List.mem_cons, List.not_mem_nil, or_false] at m
    rcases m with rfl | rfl | rfl | rfl | rfl
    · exact ⟨cx, n1⟩
    · exact ⟨cy, n2⟩
    · exact ⟨cz, n3⟩
    · exact ⟨cw, n4⟩
    · exact ⟨cv, n5⟩) fun _ _ z => z)
theorem Bind.two {x y : Str} {px py : Pos} {k} {p : Pos} {a b : PV} {σ : St} (cx : canStore C x) (cy : canStore C y) (n1 : σ.own ≠ some x) (n2 : σ.own ≠ some y) : Bind C (.Tuple [.Name x px, .Name y py] k p) (.tuple [a, b]) σ ((σ.put x a).put y b) :=
  Bind.tup (xs := [(x, px), (y, py)]) rfl fun z m => by
    simp only [List.mem_cons, List.not_mem_nil, or_false] at m
    rcases m with rfl | rfl
    · exact ⟨cx, n1⟩
    · exact ⟨cy, n2⟩
theorem Bind.three {x y z : Str} {px py pz : Pos} {k} {p : Pos} {a b c : PV} {σ : St} (cx : canStore C x) (cy : canStore C y) (cz : canStore C z) (n1 : σ.own ≠ some x) (n2 : σ.own ≠ some y) (n3 : σ.own ≠ some z) : Bind C (.Tuple [.Name x px, .Name y py, .Name z pz] k p) (.tuple [a, b, c]) σ (((σ.put x a).put y b).put z c) :=
  Bind.tup (xs := [(x, px), (y, py), (z, pz)]) rfl fun z m => by
    simp only [List.mem_cons, List.not_mem_nil, or_false] at m
    rcases m with rfl | rfl | rfl
    · exact ⟨cx, n1⟩
    · exact ⟨cy, n2⟩
    · exact ⟨cz, n3⟩
theorem Ls.handling (L : Ls gl K C D) (B : Heap) (e : Addr) (x : Exc) (ok : (C.handling B e).Ok) (h : HdAt C.P B e x) : Ls gl K (C.handling B e) ⟨D.names, D.n, some (e, x)⟩ :=
  ⟨ok, L.names, L.glq, L.kq, L.room, L.units, ⟨rfl, h⟩⟩
end
/-! octets at a place -/
def At (D : List UInt8) (p : Nat) (b : List UInt8) : Prop := ∃ a c, D = a ++ b ++ c ∧ a.length = p
theorem At.left {D x y : List UInt8} {p : Nat} (h : At D p (x ++ y)) : At D p x := by
  obtain ⟨a, c, rfl, rfl⟩ := h
  exact ⟨a, y ++ c, by simp, rfl⟩
theorem At.right {D x y : List UInt8} {p : Nat} (h : At D p (x ++ y)) : At D (p + x.length) y := by
  obtain ⟨a, c, rfl, rfl⟩ := h
  exact ⟨a ++ x, c, by simp, by simp⟩
theorem At.len {D b : List UInt8} {p : Nat} (h : At D p b) : p + b.length ≤ D.length := by
  obtain ⟨a, c, rfl, rfl⟩ := h
  simp
theorem At.take {D b : List UInt8} {p : Nat} (h : At D p b) : (D.drop p).take b.length = b := by
  obtain ⟨a, c, rfl, rfl⟩ := h
  simp
theorem At.cut {D b : List UInt8} {p : Nat} {i j : Int} (h : At D p b) (hi : i = p) (hj : j = p + b.length) : cutF D (some i) (some j) = b := by
  subst hi hj
  rw [cut_ij (by omega) (by omega)]
  have := h.take
  rw [show ((p : Int) + (b.length : Int)).toNat - ((p : Int)).toNat = b.length by omega, show ((p : Int)).toNat = p by omega]
  exact this
theorem At.get {D r : List UInt8} {p : Nat} {x : UInt8} (h : At D p (x :: r)) {i : Int} (hi : i = p) : D.getD i.toNat 0 = x := by
  obtain ⟨a, c, rfl, rfl⟩ := h
  subst hi
  simp
theorem At.four {D : List UInt8} {p : Nat} {x : Int} (h : At D p (low4 x)) (h1 : -2147483648 ≤ x) (h2 : x < 2147483648) : octInt true ((D.drop p).take 4) = x := by
  have := h.take
  rw [low4, KTBy.low_length] at this
  rw [this]
  exact octInt_low4 h1 h2
theorem At.append {D x y : List UInt8} {p : Nat} (h : At D p x) (h' : At D (p + x.length) y) : At D p (x ++ y) := by
  obtain ⟨a, c, rfl, rfl⟩ := h
  obtain ⟨a', c', e, el⟩ := h'
  refine ⟨a, c', ?_, rfl⟩
  have : a' = a ++ x := by
    have := congrArg (List.take (a ++ x).length) e
    rw [List.take_left' rfl, List.append_assoc, List.take_left' (by rw [el]; simp)] at this
    exact this.symm
  subst this
  rw [e]; simp

/-! data with one octet changed -/
def wrapX (o : List UInt8) (c : UInt8) : List UInt8 := low4 ((o.length : Int) + 5) ++ o ++ [c]
def strX (b : List UInt8) (c : UInt8) : List UInt8 := low4 ((b.length : Int) + 1) ++ (b ++ [c])
def HurtW (o : List UInt8) (P : List UInt8 → Prop) (b' : List UInt8) : Prop := (∃ c, c ≠ 0 ∧ b' = wrapX o c) ∨ ∃ o', P o' ∧ o'.length = o.length ∧ b' = wrapO o'
mutual
def Dat.Hurt : Dat → List UInt8 → Prop
  | .nul, _ => False
  | .num _, _ => False
  | .tru _, b' => ∃ c : UInt8, c ≠ 0 ∧ c ≠ 1 ∧ b' = [c]
  | .txt _ b, b' => ∃ c, c ≠ 0 ∧ b' = strX b c
  | .cod _ b, b' => ∃ c, c ≠ 0 ∧ b' = strX b c
  | .row f, b' => HurtW f.octs f.Hurt b'
  | .doc f, b' => HurtW f.octs f.Hurt b'
  | .scd f, b' => (∃ c, c ≠ 0 ∧ b' = low4 ((f.octs.length : Int) + 15) ++ (strX [102] c ++ wrapO f.octs)) ∨ ∃ w, HurtW f.octs f.Hurt w ∧ w.length = f.octs.length + 5 ∧ b' = low4 ((f.octs.length : Int) + 15) ++ (strO [102] ++ w)
def Flds.Hurt : Flds → List UInt8 → Prop
  | .nil, _ => False
  | .cons _ b d r, o => (∃ k : UInt8, 20 ≤ k.toNat ∧ k.toNat ≤ 126 ∧ o = ([k] ++ (b ++ [0]) ++ d.body) ++ r.octs) ∨ (∃ b', d.Hurt b' ∧ b'.length = d.body.length ∧ o = ([d.kind] ++ (b ++ [0]) ++ b') ++ r.octs) ∨
      ∃ o', r.Hurt o' ∧ o'.length = r.octs.length ∧ o = ([d.kind] ++ (b ++ [0]) ++ d.body) ++ o'
end
theorem wrapX_len (o : List UInt8) (c : UInt8) : (wrapX o c).length = o.length + 5 := by
  have := KTBy.low_length ((o.length : Int) + 5) 4
  simp only [wrapX, low4, List.length_append, List.length_cons, List.length_nil, this]; omega
theorem strX_len (o : List UInt8) (c : UInt8) : (strX o c).length = o.length + 5 := by
  have := KTBy.low_length ((o.length : Int) + 1) 4
  simp only [strX, low4, List.length_append, List.length_cons, List.length_nil, this]; omega
section
variable {C : Cx} {Q : Out → St → Prop} {R : Exc → St → Prop}
theorem ForT.upto {α : Type} {t : Expr} {body : List Stmt} (g : α → PV) (Φ : List α → St → Prop) (okA : List α → α → Prop) (rest : List PV)
    (step : ∀ a acc σ, okA acc a → Φ acc σ → ∃ σ₁, Bind C t (g a) σ σ₁ ∧ TS C body σ₁ (fun o σ₂ => match o with | .next => Φ (acc ++ [a]) σ₂ | .cont => Φ (acc ++ [a]) σ₂ | .brk => Q .next σ₂ | .ret d => Q (.ret d) σ₂) R) :
    ∀ (l acc : List α) (σ : St), (∀ k a, l[k]? = some a → okA (acc ++ l.take k) a) → Φ acc σ → (∀ σ, Φ (acc ++ l) σ → ForT C t body Q R rest σ) → ForT C t body Q R (l.map g ++ rest) σ
  | [], acc, σ, _, h, fin => fin σ (by simpa using h)
  | a :: l, acc, σ, ha, h, fin => by
    obtain ⟨σ₁, b, ts⟩ := step a acc σ (by simpa using ha 0 a rfl) h
    have go : ∀ σ₂, Φ (acc ++ [a]) σ₂ → ForT C t body Q R (l.map g ++ rest) σ₂ := fun σ₂ h₂ =>
      ForT.upto g Φ okA rest step l (acc ++ [a]) σ₂ (fun k b e => by simpa using ha (k + 1) b (by simpa using e)) h₂ fun σ₃ h₃ => fin σ₃ (by simpa using h₃)
    refine ⟨σ₁, b, TS.mono ts (fun o σ₂ q => ?_) fun _ _ q => q⟩
    cases o with
    | next => exact go σ₂ q
    | cont => exact go σ₂ q
    | brk => exact q
    | ret d => exact q
end
theorem range_nat {a b : Nat} : rangeF (a : Int) (b : Int) = (List.range (b - a)).map fun i : Nat => PV.int ((a : Int) + i) := by
  unfold rangeF
  rw [show ((b : Int) - (a : Int)).toNat = b - a by omega]
theorem range_split {p k m : Nat} (h : p + k < m) : ∃ rest, rangeF (p : Int) (m : Int) = ((List.range k).map fun i : Nat => PV.int ((p : Int) + i)) ++ (PV.int ((p : Int) + k) :: rest) := by
  rw [range_nat, show m - p = k + (1 + (m - p - k - 1)) by omega, List.range_add, List.range_add, List.map_append]
  exact ⟨_, rfl⟩
theorem At.nth {D b : List UInt8} {p k : Nat} {x : UInt8} (h : At D p b) (e : b[k]? = some x) {i : Int} (hi : i = (p : Int) + k) : D.getD i.toNat 0 = x := by
  obtain ⟨a, c, rfl, rfl⟩ := h
  subst hi
  have hk : k < b.length := (List.getElem?_eq_some_iff.mp e).1
  rw [show ((a.length : Int) + (k : Int)).toNat = a.length + k by omega, List.getD_eq_getElem?_getD, List.append_assoc, List.getElem?_append_right (by omega), Nat.add_sub_cancel_left, List.getElem?_append_left hk, e]
  rfl
end
end Mine
namespace Mine
local macro_rules | `(tactic| tbr_iter "side") => `(tactic| first
  | with_reducible assumption
  | with_reducible rfl
  | exact Bool.false_ne_true
  | decide
  | exact ⟨_, rfl⟩
  | exact ⟨_, _, rfl⟩
  | omega
  | (simp only [decide_eq_true_eq, Bool.not_eq_true', decide_eq_false_iff_not, beq_iff_eq, bne_iff_ne, ne_eq, Bool.not_eq_true, beq_eq_false_iff_ne, List.length_cons, List.length_nil, List.length_append, List.length_take, List.length_drop, KTBy.low_length]; omega)
  | (simp only [bne_self_eq_false, Bool.false_eq_true, not_false_eq_true]; done))
local macro_rules | `(tactic| tbr_iter "gl") => `(tactic| first | with_reducible exact gl__unpack | with_reducible exact gl__UNPACK_INT_FROM | with_reducible exact gl__utf_8_decode | with_reducible exact gl__utf_8_encode | with_reducible exact gl__index_nul | with_reducible exact gl_get_data_and_view | with_reducible exact gl__raise_unknown_type | with_reducible exact gl__get_int | with_reducible exact gl__get_c_string | with_reducible exact gl__get_string | with_reducible exact gl__get_object_size | with_reducible exact gl__get_object | with_reducible exact gl__get_array | with_reducible exact gl__get_boolean | with_reducible exact gl__get_code | with_reducible exact gl__get_code_w_scope | with_reducible exact gl__get_element | with_reducible exact gl__element_to_dict | with_reducible exact gl__elements_to_dict | with_reducible exact gl__bson_to_dict | with_reducible exact gl__PACK_INT | with_reducible exact gl__make_c_string | with_reducible exact gl__make_name | with_reducible exact gl__encode_mapping | with_reducible exact gl__encode_list | with_reducible exact gl__encode_text | with_reducible exact gl__encode_bool | with_reducible exact gl__encode_none | with_reducible exact gl__encode_code | with_reducible exact gl__encode_int | with_reducible exact gl__name_value_to_bson | with_reducible exact gl__element_to_bson | with_reducible exact gl__dict_to_bson | with_reducible exact gl_encode | with_reducible exact gl_decode | with_reducible exact gl__decode_all | with_reducible exact gl_decode_all | with_reducible exact gl_is_valid | with_reducible exact gl__law_leaf | with_reducible exact gl__law_laid | with_reducible exact gl__law_wrapped | with_reducible exact gl__law_all | with_reducible exact gl_law | with_reducible exact gl_UUID | with_reducible exact gl_Binary | with_reducible exact gl_Code | with_reducible exact gl_CodecOptions | with_reducible exact gl_DatetimeMS | with_reducible exact gl_Int64 | with_reducible exact gl_InvalidBSON | with_reducible exact gl_InvalidDocument | with_reducible exact gl_DEFAULT_CODEC_OPTIONS | with_reducible exact gl__law_rest | with_reducible exact gl_len | with_reducible exact gl_str | with_reducible exact gl_bytes | with_reducible exact gl_isinstance | with_reducible exact gl_range | with_reducible exact gl_enumerate | with_reducible exact gl_int | with_reducible exact gl_bool | with_reducible exact gl_dict | with_reducible exact gl_list | with_reducible exact gl_tuple | with_reducible exact gl_Exception | with_reducible exact gl_ValueError | with_reducible exact gl_KeyError | with_reducible exact gl_TypeError | with_reducible exact gl_OverflowError)
local macro_rules | `(tactic| tbr_iter "dbg") => `(tactic| first | exact str_ne (by decide) | rfl)
local macro_rules | `(tactic| tbr_iter "lk") => `(tactic| (repeat (first | with_reducible assumption | with_reducible exact hit | with_reducible exact hitT | with_reducible exact hit0 | with_reducible refine miss (str_ne (by decide)) ?_ | with_reducible refine missT (str_ne (by decide)) ?_ | with_reducible refine miss0 (str_ne (by decide)) ?_)))
local macro_rules | `(tactic| tbr_iter "nn") => `(tactic| first | exact none_ne | exact some_ne (str_ne (by decide)) | exact own_ne_none rfl | exact own_ne rfl (str_ne (by decide)) | exact own_ne_none (by assumption) | exact own_ne (by assumption) (str_ne (by decide)))
local macro_rules | `(tactic| tbr_iter "can") => `(tactic| first | exact Ls.canL (by assumption) (by assumption) (by dsimp only; decide +kernel) | exact Ls.canC (by assumption) (by assumption) (by dsimp only; decide +kernel))
local macro_rules | `(tactic| tbr_iter "tt") => `(tactic| dsimp only [txw, scw, bw1, bw2, bw3, bw4, bw5, bw6, bw7, aw1, aw2, uw1, cw1, cw2, cw3, cw4, cw5, cw6, cw7, cw8, cw9, cw10, cw12, cw11, tw1, tw2, tw3, tw4, lw1, lw2, lw3, sw1, yw1, ew1, dw1, gw1, jw1, iw1, xw1, xw4, vw1, vw2, vw3, is_n, isn_n, is_b, isn_b, is_i, isn_i, is_s, isn_s, is_y, isn_y, is_l, isn_l, is_t, isn_t, is_d, isn_d, is_c, isn_c, Bool.not_true, Bool.not_false, Bool.false_eq_true, ret1, ret0, isB, if_true, if_false])
local macro_rules | `(tactic| tbr_iter "stmt") => `(tactic| first
  | ((with_reducible refine' T1.tup2 ?ok ?hh ?cx ?cy ?hw ?hs ?_); (case ok => with_reducible assumption); (case hh => with_reducible assumption); (case cx => tbr_iter "can"); (case cy => tbr_iter "can"); (case hw => rfl); (case hs => rfl))
  | ((with_reducible refine' T1.tup3 ?ok ?hh ?cx ?cy ?cz ?hw ?hs ?_); (case ok => with_reducible assumption); (case hh => with_reducible assumption); (case cx => tbr_iter "can"); (case cy => tbr_iter "can"); (case cz => tbr_iter "can"); (case hw => rfl); (case hs => rfl))
  | ((with_reducible refine' T1.tup4 ?ok ?hh ?cx ?cy ?cz ?cw ?hw ?hs ?_); (case ok => with_reducible assumption); (case hh => with_reducible assumption); (case cx => tbr_iter "can"); (case cy => tbr_iter "can"); (case cz => tbr_iter "can"); (case cw => tbr_iter "can"); (case hw => rfl); (case hs => rfl))
  | ((with_reducible refine' T1.tup5 ?ok ?hh ?cx ?cy ?cz ?cw ?cv ?hw ?hs ?_); (case ok => with_reducible assumption); (case hh => with_reducible assumption); (case cx => tbr_iter "can"); (case cy => tbr_iter "can"); (case cz => tbr_iter "can"); (case cw => tbr_iter "can"); (case cv => tbr_iter "can"); (case hw => rfl); (case hs => rfl))
  | ((with_reducible refine' T1.raise_own ?ok ?hh ?k ?e ?d ?a ?_); (case ok => with_reducible assumption); (case hh => with_reducible assumption); (case k => exact Ls.kind (by assumption) (by kernel_rfl)); (case e => exact Ls.gv (by assumption) gl_InvalidBSON); (case d => tbr_iter "dbg"); (case a => rfl))
  | ((with_reducible refine' T1.take_list ?ok ?k ?_); (case ok => with_reducible assumption); (case k => tbr_iter "can"))
  | ((with_reducible refine' T1.take_dict ?ok ?k ?o ?_); (case ok => with_reducible assumption); (case k => tbr_iter "can"); (case o => first | rfl | assumption))
  | with_reducible refine TS.nil ?_
  | with_reducible refine TS.cons ?_
  | with_reducible refine T1.ret ?_
  | with_reducible refine T1.if ?_
  | ((with_reducible refine' T1.assign ?ok ?k ?s ?_); (case ok => with_reducible assumption); (case k => tbr_iter "can"); (case s => rfl))
  | ((with_reducible refine' T1.aug ?ok ?k ?l ?o ?_); (case ok => with_reducible assumption); (case k => tbr_iter "can"); (case l => tbr_iter "lk"); (case o => tbr_iter "nn")))
local macro_rules | `(tactic| tbr_iter "name") => `(tactic| first
  | ((with_reducible refine' TE.nm ?L ?e ?d ?o ?_); (case L => with_reducible assumption); (case e => tbr_iter "lk"); (case d => tbr_iter "dbg"); (case o => first | rfl | assumption))
  | ((with_reducible refine' TE.nmO ?L ?e ?d ?o ?y ?_); (case L => with_reducible assumption); (case e => tbr_iter "lk"); (case d => tbr_iter "dbg"); (case o => first | rfl | assumption); (case y => exact str_ne (by decide)))
  | ((with_reducible refine' TE.nmX ?L ?e ?d ?o ?_); (case L => with_reducible assumption); (case e => tbr_iter "lk"); (case d => tbr_iter "dbg"); (case o => first | rfl | assumption))
  | ((with_reducible refine' TE.gn ?L ?k ?d ?e ?_); (case L => with_reducible assumption); (case k => kernel_rfl); (case d => tbr_iter "dbg"); (case e => tbr_iter "gl")))
local macro_rules | `(tactic| tbr_iter "call") => `(tactic| first
  | ((with_reducible refine' TE.len ?L ?k ?g ?n ?_); (case L => with_reducible assumption); (case k => kernel_rfl); (case g => exact gl_len); (case n => rfl))
  | ((with_reducible refine' TE.strI ?L ?k ?g ?n ?_); (case L => with_reducible assumption); (case k => kernel_rfl); (case g => exact gl_str); (case n => rfl))
  | ((with_reducible refine' TE.bytesI ?L ?h ?k ?g ?n ?_); (case L => with_reducible assumption); (case h => with_reducible assumption); (case k => kernel_rfl); (case g => exact gl_bytes); (case n => rfl))
  | ((with_reducible refine' TE.isa ?L ?k ?n ?kT ?hT ?g ?_); (case L => with_reducible assumption); (case k => kernel_rfl); (case n => rfl); (case kT => kernel_rfl); (case hT => tbr_iter "dbg"); (case g => tbr_iter "gl"))
  | ((with_reducible refine' TE.isa2 ?L ?k ?n ?k1 ?h1 ?g1 ?k2 ?h2 ?g2 ?_); (case L => with_reducible assumption); (case k => kernel_rfl); (case n => rfl); (case k1 => kernel_rfl); (case h1 => tbr_iter "dbg"); (case g1 => tbr_iter "gl"); (case k2 => kernel_rfl); (case h2 => tbr_iter "dbg"); (case g2 => tbr_iter "gl"))
  | ((with_reducible refine' TE.fn ?L ?k ?d ?n ?g ?f ?_); (case L => with_reducible assumption); (case k => kernel_rfl); (case d => tbr_iter "dbg"); (case n => rfl); (case g => tbr_iter "gl"); (case f => intro _; kernel_rfl))
  | ((with_reducible refine' TE.encode ?L ?l ?b ?n ?_); (case L => with_reducible assumption); (case l => rfl); (case b => intro _; rfl); (case n => rfl))
  | ((with_reducible refine' TE.decode ?L ?l ?b ?n ?_); (case L => with_reducible assumption); (case l => rfl); (case b => intro _; rfl); (case n => rfl))
  | ((with_reducible refine' TE.get ?L ?l ?b ?n ?_); (case L => with_reducible assumption); (case l => rfl); (case b => intro _; rfl); (case n => rfl))
  | ((with_reducible refine' TE.join ?L ?l ?b ?n ?_); (case L => with_reducible assumption); (case l => rfl); (case b => intro _; rfl); (case n => rfl))
  | ((with_reducible refine' TE.toBytesU ?ok ?l ?b ?n ?_); (case ok => with_reducible assumption); (case l => rfl); (case b => intro _; rfl); (case n => rfl))
  | ((with_reducible refine' TE.toBytes ?l ?b ?n ?_); (case l => rfl); (case b => intro _; rfl); (case n => rfl))
  | ((with_reducible refine' TE.fromBytes ?ok ?k ?g ?l ?b ?fc ?n ?_); (case ok => with_reducible assumption); (case k => exact Ls.kind (by assumption) (by kernel_rfl)); (case g => exact Ls.gv (by assumption) gl_int); (case l => rfl); (case b => intro _; rfl); (case fc => rw [Ls.kq (by assumption)]; exact fc_from _); (case n => rfl)))
local macro_rules | `(tactic| tbr_iter "test") => `(tactic| first
  | ((with_reducible refine' TB.cp ?m ?_); (case m => rfl))
  | ((with_reducible refine' TB.cp2 ?m ?m2 ?_); (case m => rfl); (case m2 => rfl))
  | with_reducible refine TB.not ?_
  | with_reducible refine TB.bool ?_
  | with_reducible refine TBs.and_nil ?_
  | with_reducible refine TBs.or_nil ?_
  | with_reducible refine TBs.and_cons ?_
  | with_reducible refine TBs.or_cons ?_
  | with_reducible refine TB.ifexp ?_
  | ((with_reducible refine' TB.val ?_ ?e); (case e => intro _ _; rfl)))
local macro_rules | `(tactic| tbr_iter "expr2") => `(tactic| first
  | ((with_reducible refine' TE.attrText ?L ?e ?_); (case L => with_reducible assumption); (case e => intro _; with_unfolding_all rfl))
  | ((with_reducible refine' TE.attrSc ?L ?e ?_); (case L => with_reducible assumption); (case e => intro _; with_unfolding_all rfl))
  | ((with_reducible refine' TE.attrOpt ?L ?e ?_); (case L => with_reducible assumption); (case e => intro _; with_unfolding_all rfl))
  | ((with_reducible refine' TE.scope ?L ?e ?h ?n ?_); (case L => with_reducible assumption); (case e => intro _; with_unfolding_all rfl); (case h => with_reducible assumption); (case n => dsimp only; omega))
  | with_reducible refine TE.tuple ?_
  | ((with_reducible refine' TE.cp ?m ?_); (case m => rfl))
  | with_reducible refine TE.un ?_
  | with_reducible refine TE.list ?_
  | tbr_iter "call"
  | with_reducible refine TE.ifexp ?_
  | with_reducible refine TE.an ?_
  | with_reducible refine TE.or ?_
  | with_reducible refine TA.nil ?_
  | ((with_reducible refine' TA.cons ?n ?_); (case n => rfl))
  | with_reducible refine TO.none ?_
  | with_reducible refine TO.some ?_)
local macro_rules | `(tactic| tbr_iter "expr") => `(tactic| first
  | tbr_iter "name"
  | with_reducible refine TE.const_int ?_
  | with_reducible refine TE.const_str ?_
  | with_reducible refine TE.bin ?_
  | with_reducible refine TE.slice ?_
  | with_reducible refine TE.item ?_
  | with_reducible refine TE.const_none ?_
  | with_reducible refine TE.const_bool ?_
  | with_reducible refine TE.const_bytes ?_
  | tbr_iter "expr2")
local macro_rules | `(tactic| tbr_iter "m0") => `(tactic| first
  | ((with_reducible refine (?_ : TE _ _ _ _ _)); tbr_iter "expr")
  | ((with_reducible refine (?_ : TS _ _ _ _ _)); first
    | with_reducible refine TS.cons ?_
    | with_reducible refine TS.nil ?_)
  | ((with_reducible refine (?_ : T1 _ _ _ _ _)); tbr_iter "stmt")
  | ((with_reducible refine (?_ : TA _ _ _ _ _)); first
    | ((with_reducible refine' TA.cons ?n ?_); (case n => rfl))
    | with_reducible refine TA.nil ?_)
  | ((with_reducible refine (?_ : TB _ _ _ _ _)); tbr_iter "test")
  | ((with_reducible refine (?_ : TBs _ _ _ _ _ _)); tbr_iter "test")
  | ((with_reducible refine (?_ : TO _ _ _ _ _)); first
    | with_reducible refine TO.none ?_
    | with_reducible refine TO.some ?_))
local macro_rules | `(tactic| tbr_iter "m2") => `(tactic| first
  | with_reducible refine Exists.intro _ (Exists.intro _ (And.intro rfl ?_))
  | with_reducible refine Exists.intro _ (Exists.intro _ (Exists.intro _ (And.intro rfl ?_)))
  | with_reducible refine Exists.intro _ (Exists.intro _ (Exists.intro _ (Exists.intro _ (And.intro rfl ?_))))
  | with_reducible refine Exists.intro _ (Exists.intro _ (Exists.intro _ (Exists.intro _ (Exists.intro _ (And.intro rfl ?_)))))
  | ((with_reducible refine' And.intro (a := (_ : Option Str) = _) ?t ?_); (case t => first | rfl | assumption))
  | ((with_reducible refine' And.intro (a := notExt _ = true) ?t ?_); (case t => rfl))
  | ((with_reducible refine' And.intro (a := _ ≠ some (_ : Str)) ?o ?_); (case o => tbr_iter "nn"))
  | ((with_reducible refine' And.intro ?t ?_); (case t => tbr_iter "side"))
  | ((with_reducible refine' go_t ?h ?_); (case h => tbr_iter "side"))
  | ((with_reducible refine' go_f ?h ?_); (case h => tbr_iter "side"))
  | with_reducible refine intOnly ?_
  | with_reducible refine Exists.intro _ (And.intro rfl ?_)
  | refine Exists.intro 4 (And.intro rfl ?_)
  | ((with_reducible refine' itemT ?h ?e ?_); (case h => omega); (case e => rfl))
  | ((with_reducible refine' isW_k ?e ?k ?_); (case e => rfl); (case k => kernel_rfl))
  | ((with_reducible refine' isW2_k ?e ?k ?_); (case e => rfl); (case k => kernel_rfl))
  | with_reducible refine isW_o ?_)
local macro_rules | `(tactic| tbr_iter "m1") => `(tactic| first | tbr_iter "m0" | tbr_iter "m2")
local macro_rules | `(tactic| tbr_iter "go") => `(tactic| ((try tbr_iter "tt"); repeat (first | tbr_iter "m0" | (tbr_iter "tt"; first | tbr_iter "m0" | tbr_iter "m2" | skip) | tbr_iter "m2")))
section
theorem okF_UNPACK_INT_FROM : FdOk F_UNPACK_INT_FROM ["data", "position"] := ⟨by kernel_rfl, by kernel_rfl, by kernel_rfl, by kernel_rfl, by kernel_rfl, by kernel_rfl, by kernel_rfl, by decide, fun _ => by kernel_rfl⟩
theorem bF_UNPACK_INT_FROM : Bnd F_UNPACK_INT_FROM ["data", "position"] := bnd2 fun a b => by kernel_rfl
theorem okF_utf_8_decode : FdOk F_utf_8_decode ["octets", "errors", "final"] := ⟨by kernel_rfl, by kernel_rfl, by kernel_rfl, by kernel_rfl, by kernel_rfl, by kernel_rfl, by kernel_rfl, by decide, fun _ => by kernel_rfl⟩
theorem bF_utf_8_decode : Bnd F_utf_8_decode ["octets", "errors", "final"] := bnd3 fun a b c => by kernel_rfl
theorem okF_index_nul : FdOk F_index_nul ["data", "position"] := ⟨by kernel_rfl, by kernel_rfl, by kernel_rfl, by kernel_rfl, by kernel_rfl, by kernel_rfl, by kernel_rfl, by decide, fun _ => by kernel_rfl⟩
theorem bF_index_nul : Bnd F_index_nul ["data", "position"] := bnd2 fun a b => by kernel_rfl
theorem okFget_data_and_view : FdOk Fget_data_and_view ["data"] := ⟨by kernel_rfl, by kernel_rfl, by kernel_rfl, by kernel_rfl, by kernel_rfl, by kernel_rfl, by kernel_rfl, by decide, fun _ => by kernel_rfl⟩
theorem bFget_data_and_view : Bnd Fget_data_and_view ["data"] := bnd1 fun a => by kernel_rfl
theorem okF_get_int : FdOk F_get_int ["data", "_view", "position", "dummy0", "dummy1", "dummy2"] := ⟨by kernel_rfl, by kernel_rfl, by kernel_rfl, by kernel_rfl, by kernel_rfl, by kernel_rfl, by kernel_rfl, by decide, fun _ => by kernel_rfl⟩
theorem bF_get_int : Bnd F_get_int ["data", "_view", "position", "dummy0", "dummy1", "dummy2"] := bnd6 fun a b c d e f => by kernel_rfl
theorem okF_get_c_string : FdOk F_get_c_string ["data", "view", "position", "opts"] := ⟨by kernel_rfl, by kernel_rfl, by kernel_rfl, by kernel_rfl, by kernel_rfl, by kernel_rfl, by kernel_rfl, by decide, fun _ => by kernel_rfl⟩
theorem bF_get_c_string : Bnd F_get_c_string ["data", "view", "position", "opts"] := bnd4 fun a b c d => by kernel_rfl
theorem okF_get_string : FdOk F_get_string ["data", "view", "position", "obj_end", "opts", "dummy"] := ⟨by kernel_rfl, by kernel_rfl, by kernel_rfl, by kernel_rfl, by kernel_rfl, by kernel_rfl, by kernel_rfl, by decide, fun _ => by kernel_rfl⟩
theorem bF_get_string : Bnd F_get_string ["data", "view", "position", "obj_end", "opts", "dummy"] := bnd6 fun a b c d e f => by kernel_rfl
theorem okF_get_boolean : FdOk F_get_boolean ["data", "_view", "position", "dummy0", "dummy1", "dummy2"] := ⟨by kernel_rfl, by kernel_rfl, by kernel_rfl, by kernel_rfl, by kernel_rfl, by kernel_rfl, by kernel_rfl, by decide, fun _ => by kernel_rfl⟩
theorem bF_get_boolean : Bnd F_get_boolean ["data", "_view", "position", "dummy0", "dummy1", "dummy2"] := bnd6 fun a b c d e f => by kernel_rfl
theorem okF_get_code : FdOk F_get_code ["data", "view", "position", "obj_end", "opts", "element_name"] := ⟨by kernel_rfl, by kernel_rfl, by kernel_rfl, by kernel_rfl, by kernel_rfl, by kernel_rfl, by kernel_rfl, by decide, fun _ => by kernel_rfl⟩
theorem bF_get_code : Bnd F_get_code ["data", "view", "position", "obj_end", "opts", "element_name"] := bnd6 fun a b c d e f => by kernel_rfl
theorem okF_raise_unknown_type : FdOk F_raise_unknown_type ["element_type", "element_name"] := ⟨by kernel_rfl, by kernel_rfl, by kernel_rfl, by kernel_rfl, by kernel_rfl, by kernel_rfl, by kernel_rfl, by decide, fun _ => by kernel_rfl⟩
theorem bF_raise_unknown_type : Bnd F_raise_unknown_type ["element_type", "element_name"] := bnd2 fun a b => by kernel_rfl
/-- InvalidBSON -/
abbrev badX : Exc → Prop := fun x => x.cls = .ref bsonCls
theorem c_unpack_bad {data : List UInt8} {p : Nat} {sg : Bool} {n : Nat} (hz : data.length ≤ 16777216) (h : data.length < p + 4) : CallOk glF K (n + 1) 1028 [.bytes data, .int p, .int 4, .bool sg] (fun _ => False) fun x => x = ⟨.type "ValueError", [.str "unpack_from requires a longer buffer"], false, true⟩ := by
  refine enter kF_unpack okF_unpack bF_unpack rfl rfl fun C ok Lk L hlw hcw hh => ?_
  dsimp only [List.zip, List.zipWith]
  tbr_iter "go"
  refine T1.raise_type PySem.F.excCall_ValueError PySem.F.excRaise_ValueError ok hh (L.kind (by kernel_rfl)) (L.gv gl_ValueError) (str_ne (by decide)) rfl ?_
  tbr_iter "go"
theorem c_unpack_int {data : List UInt8} {p : Nat} {n : Nat} (hz : data.length ≤ 16777216) (h : p + 4 ≤ data.length) (hn : 1 ≤ n) : CallOk glF K (n + 1) 1035 [.bytes data, .int p] (fun d => d = .tuple [.int (octInt true ((data.drop p).take 4))]) noX := by
  refine enter kF_UNPACK_INT_FROM okF_UNPACK_INT_FROM bF_UNPACK_INT_FROM rfl rfl fun C ok Lk L hlw hcw hh => ?_
  dsimp only [List.zip, List.zipWith]
  tbr_iter "go"
  refine L.go (c_unpack (n := 0) hz h) hn hh ?_
  tbr_iter "go"
  done
theorem c_unpack_int_bad {data : List UInt8} {p : Nat} {n : Nat} (hz : data.length ≤ 16777216) (h : data.length < p + 4) (hn : 1 ≤ n) : CallOk glF K (n + 1) 1035 [.bytes data, .int p] (fun _ => False) fun x => x = ⟨.type "ValueError", [.str "unpack_from requires a longer buffer"], false, true⟩ := by
  refine enter kF_UNPACK_INT_FROM okF_UNPACK_INT_FROM bF_UNPACK_INT_FROM rfl rfl fun C ok Lk L hlw hcw hh => ?_
  dsimp only [List.zip, List.zipWith]
  tbr_iter "go"
  exact L.dn (c_unpack_bad (n := 0) hz h) hn hh (fun _ z => z.elim) fun _ e => e
theorem c_utf_8_decode {x : Str} {b : List UInt8} {d1 d2 : PV} {n : Nat} (h : DecIs b x) (hb : b.length ≤ 1000) : CallOk glF K (n + 1) 1063 [.bytes b, d1, d2] (fun d => d = .tuple [.str x, .int b.length]) noX := by
  refine enter kF_utf_8_decode okF_utf_8_decode bF_utf_8_decode rfl rfl fun C ok Lk L hlw hcw hh => ?_
  dsimp only [List.zip, List.zipWith]
  tbr_iter "go"
  refine ⟨x, rfl, h, ?_⟩
  tbr_iter "go"
  done
theorem c_view {b : List UInt8} {n : Nat} : CallOk glF K (n + 1) 1084 [.bytes b] (fun d => d = .tuple [.bytes b, .bytes b]) noX := by
  refine enter kFget_data_and_view okFget_data_and_view bFget_data_and_view rfl rfl fun C ok Lk L hlw hcw hh => ?_
  dsimp only [List.zip, List.zipWith]
  tbr_iter "go"
  done
theorem c_get_int {data : List UInt8} {p : Nat} {i : Int} {d1 d2 d3 : PV} {n : Nat} (hz : data.length ≤ 1000000) (h : At data p (low4 i)) (h1 : -2147483648 ≤ i) (h2 : i < 2147483648) (hn : 2 ≤ n) :
    CallOk glF K (n + 1) 1098 [.bytes data, .bytes data, .int p, d1, d2, d3] (fun d => d = .tuple [.int i, .int (p + 4)]) noX := by
  have hl := h.len
  rw [low4, KTBy.low_length] at hl
  refine enter kF_get_int okF_get_int bF_get_int rfl rfl fun C ok Lk L hlw hcw hh => ?_
  dsimp only [List.zip, List.zipWith]
  tbr_iter "go"
  refine L.go (c_unpack_int (n := 1) (by omega) hl (by omega)) hn hh ?_
  rw [h.four h1 h2]
  tbr_iter "go"
  done
/-- the first nought -/
theorem c_index_nul {data : List UInt8} {p : Nat} {b : List UInt8} {n : Nat} (hz : data.length ≤ 1000000) (h : At data p (b ++ [0])) (nz : ∀ c ∈ b, c ≠ 0) : CallOk glF K (n + 1) 1077 [.bytes data, .int p] (fun d => d = .int ((p : Int) + b.length)) noX := by
  have hl := h.len
  simp only [List.length_append, List.length_cons, List.length_nil] at hl
  refine enter kF_index_nul okF_index_nul bF_index_nul rfl rfl fun C ok Lk L hlw hcw hh => ?_
  dsimp only [List.zip, List.zipWith]
  tbr_iter "stmt"
  refine T1.for ok Lk.fe hh (fun _ => rfl) (TI.range2 ok hh (L.kind (by kernel_rfl)) (L.gv gl_range) rfl rfl ?_)
  tbr_iter "go"
  obtain ⟨rest, er⟩ := range_split (p := p) (k := b.length) (m := data.length) (by omega)
  rw [er]
  refine ForT.upto (fun i : Nat => PV.int ((p : Int) + i)) (fun _ σ => σ.own = none ∧ σ.vars.lookup ("data" : Str) = some (.bytes data)) (fun _ i => i < b.length) _ ?_ (List.range b.length) [] _ (fun k a e => by simpa using List.mem_of_getElem? e) ⟨rfl, by tbr_iter "lk"⟩ ?_
  · intro i acc σ hi ⟨h1, h2⟩
    refine ⟨_, Bind.name (L.canL hlw (by kernel_rfl)) (own_ne_none h1), ?_⟩
    have e0 : data.getD ((p : Int) + i).toNat 0 ≠ 0 := by
      rw [h.nth (k := i) (x := b[i]) (by rw [List.getElem?_append_left hi, List.getElem?_eq_getElem hi]) rfl]
      exact nz _ (List.getElem_mem hi)
    have e1 : (((data.getD ((p : Int) + i).toNat 0).toNat : Int) == 0) = false := by
      rw [beq_eq_false_iff_ne]
      intro z
      exact e0 (UInt8.toNat_inj.mp (by simpa using z))
    tbr_iter "go"
    rw [e1]
    tbr_iter "go"
    tbr_iter "lk"
  · intro σ ⟨h1, h2⟩
    refine ⟨_, Bind.name (L.canL hlw (by kernel_rfl)) (own_ne_none h1), ?_⟩
    have e0 : data.getD ((p : Int) + b.length).toNat 0 = 0 := h.nth (k := b.length) (by simp) rfl
    tbr_iter "go"
    rw [e0]
    tbr_iter "go"
    done
theorem c_get_c_string {data : List UInt8} {p : Nat} {x : Str} {b : List UInt8} {n : Nat} (hz : data.length ≤ 1000000) (h : At data p (b ++ [0])) (nz : ∀ c ∈ b, c ≠ 0) (ht : Txt x b) (hn : 1 ≤ n) :
    CallOk glF K (n + 1) 1105 [.bytes data, .bytes data, .int p, opts] (fun d => d = .tuple [.str x, .int ((p : Int) + b.length + 1)]) noX := by
  have hl := h.len; have := ht.bs
  simp only [List.length_append, List.length_cons, List.length_nil] at hl
  refine enter kF_get_c_string okF_get_c_string bF_get_c_string rfl rfl fun C ok Lk L hlw hcw hh => ?_
  dsimp only [List.zip, List.zipWith]
  tbr_iter "go"
  refine L.go (c_index_nul (n := 0) hz h nz) hn hh ?_
  tbr_iter "go"
  rw [h.left.cut rfl rfl]
  tbr_iter "go"
  refine L.go (c_utf_8_decode (n := 0) ht.dec (by omega)) hn hh ?_
  tbr_iter "go"
  done
theorem get_p {D b : List UInt8} {p k : Nat} {x : UInt8} (h : At D p b) (e : b[k]? = some x) {i : Int} (hi : i = (p : Int) + k) : ((D.getD i.toNat 0).toNat : Int) = x.toNat := by rw [h.nth e hi]
theorem str_nth (b : List UInt8) (c : UInt8) : (strX b c)[b.length + 4]? = some c := by
  have := KTBy.low_length ((b.length : Int) + 1) 4
  unfold strX
  rw [List.getElem?_append_right (by simp only [low4, this]; omega)]
  simp only [low4, this]
  rw [show b.length + 4 - 4 = b.length by omega]
  simp
theorem strO_X (b : List UInt8) : strO b = strX b 0 := rfl
theorem wrapO_X (b : List UInt8) : wrapO b = wrapX b 0 := rfl
theorem strX_head {D b : List UInt8} {p : Nat} {c : UInt8} (h : At D p (strX b c)) : At D p (low4 ((b.length : Int) + 1)) := h.left
/-- a text, or one whose end was changed -/
theorem c_get_string {data : List UInt8} {p e : Nat} {x : Str} {b : List UInt8} {c : UInt8} {d : PV} {n : Nat} (hz : data.length ≤ 1000000) (h : At data p (strX b c)) (ht : Txt x b) (he : p + b.length + 5 ≤ e) (hn : 2 ≤ n) :
    CallOk glF K (n + 1) 1112 [.bytes data, .bytes data, .int p, .int e, opts, d] (fun d => c = 0 ∧ d = .tuple [.str x, .int ((p : Int) + b.length + 5)]) (fun x => c ≠ 0 ∧ badX x) := by
  have hl := h.len; have := ht.bs
  rw [strX_len] at hl
  have h4 := h.left
  have hc : ((data.getD ((p : Int) + 4 + ((b.length : Int) + 1) - 1).toNat 0).toNat : Int) = c.toNat := get_p h (str_nth b c) (by omega)
  refine enter kF_get_string okF_get_string bF_get_string rfl rfl fun C ok Lk L hlw hcw hh => ?_
  dsimp only [List.zip, List.zipWith]
  tbr_iter "go"
  refine L.go (c_unpack_int (n := 1) (by omega) (by omega) (by omega)) hn hh ?_
  rw [h4.four (by omega) (by omega)]
  tbr_iter "go"
  rw [hc]
  by_cases h0 : c = 0
  · subst h0
    have hb : At data (p + 4) (b ++ [0]) := by
      have := h.right
      rwa [low4, KTBy.low_length] at this
    tbr_iter "go"
    rw [hb.left.cut (by omega) (by omega)]
    tbr_iter "go"
    refine L.go (c_utf_8_decode (n := 0) ht.dec (by omega)) (by show 1 ≤ n; omega) hh ?_
    tbr_iter "go"
    rw [show (p : Int) + 4 + ((b.length : Int) + 1) - 1 + 1 = (p : Int) + b.length + 5 by omega]
  · have e1 : ((c.toNat : Int) != 0) = true := by
      rw [bne_iff_ne]
      intro z
      exact h0 (UInt8.toNat_inj.mp (by simpa using z))
    rw [e1]
    tbr_iter "go"
    rfl
/-- a truth, or an octet that is none -/
theorem c_get_boolean {data : List UInt8} {p : Nat} {c : UInt8} {d1 d2 d3 : PV} {n : Nat} (hz : data.length ≤ 1000000) (h : At data p [c]) :
    CallOk glF K (n + 1) 1154 [.bytes data, .bytes data, .int p, d1, d2, d3] (fun d => ∃ b : Bool, c = (if b then 1 else 0) ∧ d = .tuple [.bool b, .int ((p : Int) + 1)]) (fun x => c ≠ 0 ∧ c ≠ 1 ∧ badX x) := by
  have hl := h.len
  refine enter kF_get_boolean okF_get_boolean bF_get_boolean rfl rfl fun C ok Lk L hlw hcw hh => ?_
  dsimp only [List.zip, List.zipWith]
  tbr_iter "go"
  rw [h.cut (i := (p : Int)) (j := (p : Int) + 1) rfl (by simp)]
  by_cases h0 : c = 0
  · subst h0
    tbr_iter "go"
    exact ⟨false, rfl, rfl⟩
  · have e0 : ([c] == ([0] : List UInt8)) = false := by simpa using h0
    rw [e0]
    tbr_iter "go"
    by_cases h1 : c = 1
    · subst h1
      tbr_iter "go"
      exact ⟨true, rfl, rfl⟩
    · have e1 : ([c] == ([1] : List UInt8)) = false := by simpa using h1
      rw [e1]
      tbr_iter "go"
      rfl
/-- a kind that is not known -/
theorem c_raise_unknown {t : Int} {x : Str} {b : List UInt8} {n : Nat} (hx : x.length ≤ 1000) :
    CallG (fun P base v => ∃ e y, v = some (.ref e) ∧ HdAt P base e y ∧ y.chained = false) glF K (n + 1) 1091 [.int t, .str x] (fun _ => False) badX :=
  CallG.intro (hd0 := fun q => ∃ e y, q = some (e, y) ∧ y.chained = false) (names := ["element_type", "element_name"]) (fun P base v ⟨e, y, h1, h2, h3⟩ => ⟨some (e, y), ⟨e, y, rfl, h3⟩, h1, h2⟩) (fun P => ⟨_, _, _, kF_raise_unknown_type P⟩) okF_raise_unknown_type.code rfl okF_raise_unknown_type.glob okF_raise_unknown_type.blt okF_raise_unknown_type.clo okF_raise_unknown_type.co okF_raise_unknown_type.gen okF_raise_unknown_type.kind
    (fun P s X vs _ _ r => ⟨vs, BindsTo.of_eq (bF_raise_unknown_type vs (by rw [Reps.length r]; rfl)), r⟩)
    (fun x hx => by
      have := List.all_eq_true.mp okF_raise_unknown_type.kinds x hx
      simpa using this) okF_raise_unknown_type.nd
    fun C q ⟨e, y, hq, hc⟩ Lk h1 h2 => by
      subst hq
      have L := Lk.toLs
      have ok := L.ok
      have hd := L.hd
      dsimp only [List.zip, List.zipWith]
      tbr_iter "go"
      refine T1.raise_ownH ok hd.1 hd.2 hc (L.kind (by kernel_rfl)) (L.gv gl_InvalidBSON) (str_ne (by decide)) rfl ?_
      have hl : (Str.ofString "Detected unknown BSON type for fieldname ").length ≤ 100 := by decide
      tbr_iter "go"
      exact ⟨⟨rfl, by simp⟩, rfl⟩
end
section
section
variable {w : World} {A : Around} {E : Value → Shared → Prop} {s : Shared}
theorem osaOwn {R : Result → Shared → Prop} {a dx : Addr} {es : List DictEntry} {n : Nat} {name : Str} {tk : Tok} {v : Value} (XK : (K w.params).In s.heap) (ho : s.heap.get? a = some (insObj dx)) (hd : s.heap.get? dx = some (dctObj es n))
    (ht : takerIn (K w.params) codeCls name = some none) (hl : (getL name es).isSome = true) (hz : (putL name (PyData.keyHash w.params name) (.str name s.toks) v es).length ≤ 1000)
    (h : ∀ h', Heap.SameBut dx s.heap h' → h'.get? dx = some (dctObj (putL name (PyData.keyHash w.params name) (.str name s.toks) v es) (putN name es n)) → R (.ok (.ret .none)) { s with heap := h', toks := s.toks + 1 }) :
    codeAny (model prog w) A (.call (.builtin "object.__setattr__") ⟨[.ref a, .str name tk, v], []⟩) R s := by
  refine osa_open (od := some (dctObj es n)) XK ⟨ho, rfl, rfl, hd⟩ (code_po _) ht fun b => ?_
  obtain ⟨cd, hc, hd'⟩ := any_some (code_hd w.params)
  refine wpAny_bind (wpAny_pure (wpAny_bind (wpAny_bind (wpAny_loadPart ho (wpAny_bind ((looks_clsIn XK hc).here ?_))))))
  rw [hd']
  refine wpAny_pure (a := some dx) (wpAny_bind (wpAny_pure (wpAny_bind ?_)))
  unfold nsSet
  refine wpAny_bind (wpAny_bind (wpAny_askSetting (wpAny_pure (wpAny_bind (wpAny_mkText (wpAny_bind (wpAny_loadPart hd ?_)))))))
  have hl2 : (lookIn name (dctObj es n)).isSome = true := by rw [show lookIn name (dctObj es n) = getL name es from lookIn_dict _ _ _]; exact hl
  unfold lookIn at hl2
  dsimp only at hl2 ⊢
  have c : (!(es.toArray).any (·.key.isStr name) && (es.toArray).any (·.refKey)) = false := by
    rw [← Array.any_toList, ← Array.any_toList]
    split at hl2
    · rename_i en he
      rw [List.any_eq_true.mpr ⟨en, List.mem_of_find?_eq_some he, List.find?_some he⟩]; rfl
    · split at hl2
      · cases hl2
      · rename_i z; rw [Bool.not_eq_true] at z; rw [z, Bool.and_false]
  rw [aRefKeyMayBeTheName_at, c]
  refine wpAny_updatePart hd ?_
  have eo : Obj.putName name (PyData.keyHash w.params name) (.str name s.toks) v (dctObj es n) = dctObj (putL name (PyData.keyHash w.params name) (.str name s.toks) v es) (putN name es n) := putName_dict ..
  have hd2 : (s.heap.update dx (Obj.putName name (PyData.keyHash w.params name) (.str name s.toks) v)).get? dx = some (dctObj (putL name (PyData.keyHash w.params name) (.str name s.toks) v es) (putN name es n)) := by
    rw [← eo]; exact Heap.get?_update_self _ hd (by rw [eo]; rfl)
  refine wpAny_bind (wpAny_lookBehind hd2 (pastItsLine_dict (by rw [List.size_toArray, sizeLine_eq]; omega)) ?_)
  exact wpAny_pure (h _ ⟨by rw [Heap.size_update], fun b nb => Heap.get?_update_ne _ _ _ _ nb⟩ hd2)
theorem setOwn {a dx : Addr} {es : List DictEntry} {n : Nat} {name : Str} {v : Value} {Q : Unit → Shared → Prop} (XK : (K w.params).In s.heap) (ho : s.heap.get? a = some (insObj dx)) (hd : s.heap.get? dx = some (dctObj es n))
    (ht : takerIn (K w.params) codeCls name = some none) (hl : (getL name es).isSome = true) (hz : (putL name (PyData.keyHash w.params name) (.str name (s.toks + 1)) v es).length ≤ 1000)
    (h : ∀ h', Heap.SameBut dx s.heap h' → h'.get? dx = some (dctObj (putL name (PyData.keyHash w.params name) (.str name (s.toks + 1)) v es) (putN name es n)) → Q () { s with heap := h', toks := s.toks + 2 }) :
    wpAny (model prog w) A (setAttr (.ref a) name v) Q E s :=
  set_plain (od := some (dctObj es n)) XK ⟨ho, rfl, rfl, hd⟩ (code_sa _) (osaOwn (s := { s with toks := s.toks + 1 }) XK ho hd ht hl hz h)
end
/-- entering a def, the arguments being bound with new things made; it does not raise -/
theorem raw_enter {w : World} {base : Heap} {l : List Env} {dp un n : Nat} {gd : Option (List Code)} {s s₀ : Shared} {X : Addr → Prop} {f : Addr} {fd : FuncData} {body : List Stmt} {names : List Str} {ds' : List PV} {vs us : List Value} {R : Result → Shared → Prop}
    (ho : (K w.params).lookup f = some (fobj fd)) (fo : FdOk fd names) (hbody : fd.body = .stmts body) (a1 : Bs glF (K w.params) base) (a2 : base.StaysIn s.heap) (keepb : ∀ b o, s.heap.get? b = some o → s₀.heap.get? b = some o)
    (a3 : s₀.heap.FunFrames base l) (a4 : s₀.gens = #[]) (a6 : ∀ a, a ∈ l.filterMap (·.frame) → X a) (a7 : ∀ a, X a → base.get? a = none) (a8 : ∀ a, X a → ∃ o, s₀.heap.get? a = some o)
    (hb : ∀ (M : Model) (A : Around) (E : Value → Shared → Prop) (Q : List (Str × Value) → Shared → Prop), Q (names.zip us) s₀ → wpAny M A (bindArgs fd ⟨vs, []⟩) Q E s) (hus : Reps w.params s₀.heap X ds' us) (r1 : dp + (n + 1) < recursionLimit) (r2 : un + 8 * (n + 1) < cLine)
    (h : ∀ C : Cx, C.w = w → C.base = base → C.outer = l → C.h0 = s₀.heap → C.hd = none → C.os = s₀.os → (∀ a, X a → C.M a) → (∀ a, C.M a → X a ∨ s₀.heap.get? a = none) → (∀ a, a ∈ C.S' → a ∈ l.filterMap (·.frame) ∨ s₀.heap.get? a = none) → Lk glF K C ⟨fd.scope.names, n, none⟩ → C.lw = true → C.cw = true → ∀ s₁, (∀ b o, s₀.heap.get? b = some o → s₁.heap.get? b = some o) → Inv C s₁ ⟨names.zip ds', none⟩ C.M →
      wpAny (model prog C.w) C.A (execs body C.env) (fun f s' => R (.ok (.ret (match f with | .ret v => v | _ => .none))) s') (fun _ _ => False) s₁) :
    codeAny (model prog w) { handled := none, depth := dp, frames := some l, guards := gd, units := un } (.call (.ref f) ⟨vs, []⟩) R s := by
  have a2' : base.StaysIn s₀.heap := fun b o e => keepb b o (a2 b o e)
  have hlim : s₀.heap.NoLimit := a1.nolimit.keeps a2'
  have KI : (K w.params).In s.heap := a1.frag.keeps a2
  have hkind : ∀ x ∈ names, fd.scope.names.lookup x = some .local ∨ fd.scope.names.lookup x = some .cell := fun x hx => by
    have := List.all_eq_true.mp fo.kinds x hx
    simpa using this
  refine codeAny_call_function (by show dp < recursionLimit; omega) (KI _ _ ho) rfl fo.co fo.gen hbody (codeRec_of KI (fo.code w.params)) (hb _ _ _ _ ?_)
  rw [fo.clo]
  refine wpAny_newFunctionEnv_cells fo.kind (fun x hx => ?_) fun env he s₁ IC => ?_
  · have hm : x.1 ∈ names := (List.of_mem_zip (a := x.1) (b := x.2) hx).1
    rcases hkind _ hm with q | q
    · exact .inl q
    · exact .inr ⟨q, cellsFrom_some _ _ _ (.inl q)⟩
  have hL : env.locals = s₀.heap.objs.size := by rw [he]; rfl
  have hfr : env.frame = some s₀.heap.objs.size := by rw [he]; rfl
  have hsc : env.scope = fd.scope := by rw [he]; rfl
  have hcl : env.cells = cellsFrom (s₀.heap.objs.size + 1) fd.scope.names [] := by rw [he]; rfl
  have keep := IC.toInCall.keep
  have hLn : s₀.heap.get? s₀.heap.objs.size = none := Heap.get?_none_of_le (Nat.le_refl _)
  have hbn : ∀ a, s₀.heap.objs.size ≤ a → base.get? a = none := fun a ha => fresh_of_stays a2' (Heap.get?_none_of_le ha)
  refine ⟨hlim.keeps keep, codeAny_func ?_⟩
  let C : Cx := ⟨w, glF, K w.params, base, env, env, l, dp + 1, un + 3, gd, s₀.heap, fun a => a = s₀.heap.objs.size ∨ (∃ x, env.cells.lookup x = some a) ∨ X a, s₀.os, l.filterMap (·.frame), none, true, true⟩
  have hS' : ∀ a, a ∈ C.S' → a = s₀.heap.objs.size ∨ a ∈ l.filterMap (·.frame) := fun a m => by
    have m' : a ∈ (env :: l).filterMap (·.frame) := m
    rw [List.filterMap_cons, hfr] at m'
    exact List.mem_cons.mp m'
  have ok : C.Ok := by
    refine ⟨a1, by show env.scope.kind = _; rw [hsc]; exact fo.kind, by show env.globals = _; rw [he]; exact fo.glob, by show env.builtins = _; rw [he]; exact fo.blt, rfl, by show env.scope.kind = _; rw [hsc]; exact fo.kind, fun a m => ?_, fun a m => ?_, .inl hL, fun x c e => .inr (.inl ⟨x, e⟩), fun x y c e e' => ?_, fun x c e => ?_, fun _ => by show s₀.heap.get? env.locals = none; rw [hL]; exact hLn, fun _ x c e => Heap.get?_none_of_le (Nat.le_of_lt (by have := IC.above x c (mem_of_lookup e); rw [hL] at this; exact this)), fun x e => ?_, ⟨_, hfr⟩⟩
    · rcases hS' a m with q | q
      · exact .inl (by rw [q]; exact hLn)
      · exact .inr q
    · rcases hS' a m with q | q
      · exact .inl q
      · exact .inr (.inr (a6 a q))
    · exact name_of_addr IC.apart (mem_of_lookup e) (mem_of_lookup e')
    · exact Nat.ne_of_gt (IC.above x c (mem_of_lookup e))
    · rw [show C.env.cells = _ from hcl]
      refine Option.isSome_iff_exists.mp (cellsFrom_some (x := x) fd.scope.names (s₀.heap.objs.size + 1) [] (.inl ?_))
      rw [← hsc]; exact e
  have lk : Lk glF K C ⟨fd.scope.names, n, none⟩ := ⟨⟨ok, by show env.scope.names = _; rw [hsc], rfl, rfl, by show dp + 1 + n < recursionLimit; omega, by show un + 3 + 8 * n + 5 < cLine; omega, rfl⟩, rfl, by show env.frame = some env.locals; rw [hfr, hL]⟩
  obtain ⟨h₁, tk, hs₁⟩ := IC.toInCall.same
  obtain ⟨oL, esL, epL, hoL, hdL, rL⟩ := IC.toInCall.ns
  rw [hL] at hoL
  have ext : Ext X C.M s₀.heap s₁.heap := ⟨fun a o e _ => keep a o e, fun a m => by
    rcases m with m | ⟨x, m⟩ | m
    · exact .inr (by rw [m]; exact hLn)
    · have := IC.above _ _ (mem_of_lookup m); rw [hL] at this; exact .inr (Heap.get?_none_of_le (Nat.le_of_lt this))
    · exact .inl m⟩
  have I : Inv C s₁ ⟨names.zip ds', none⟩ C.M := by
    refine ⟨fun b o e => keep b o (a2' b o e), Up.of_keeps keep, ⟨by show env.scope.kind ≠ _; rw [hsc, fo.kind]; decide, ⟨_, oL, hfr, hbn _ (Nat.le_refl _), hoL, fun vs q => by rw [hdL] at q; cases q⟩, a3.of_keeps fun b o e _ => ⟨o, keep b o e, rfl⟩⟩, by rw [hs₁]; exact a4, by rw [hs₁], fun a m => m, fun a m => ?_, fun a m => ?_, ⟨_, IC.toInCall.ns⟩, fun x c e => ⟨_, IC.cell x c e⟩, fun x d e _ => ?_, fun x e => (nomatch e), fun _ a m => m⟩
    · rcases m with m | ⟨x, m⟩ | m
      · exact hbn a (Nat.le_of_eq m.symm)
      · have := IC.above _ _ (mem_of_lookup m); rw [hL] at this; exact hbn a (Nat.le_of_lt this)
      · exact a7 a m
    · rcases m with m | ⟨x, m⟩ | m
      · rw [m]; exact ⟨_, hoL⟩
      · obtain ⟨o, q, _⟩ := IC.cell _ _ m; exact ⟨o, q⟩
      · obtain ⟨o, q⟩ := a8 a m; exact ⟨o, keep a o q⟩
    · obtain ⟨v, r, b1, b2⟩ := bind_get (k := env.kindOf) (m := fun _ => none) (cm := fun _ => none) fo.nd hus e
      have hm : x ∈ names := by
        have := mem_of_lookup e
        exact (List.of_mem_zip this).1
      have hk2 : env.kindOf x = fd.scope.names.lookup x := by rw [← hsc]; rfl
      refine ⟨v, ?_, Rep.ext ext r⟩
      rcases hkind x hm with q | q
      · exact .inl ⟨hk2.trans q, _, IC.toInCall.ns, b1 (hk2.trans q)⟩
      · have hne : env.kindOf x ≠ some .local := by rw [hk2, q]; decide
        obtain ⟨c, hc⟩ := Option.isSome_iff_exists.mp (cellsFrom_some (x := x) fd.scope.names (s₀.heap.objs.size + 1) [] (.inl q))
        rw [← hcl] at hc
        refine .inr ⟨hk2.trans q, c, hc, ?_⟩
        have := IC.cell x c hc
        rw [b2 hne] at this
        exact this
  exact wpAny_mono (h C rfl rfl rfl rfl rfl rfl (fun a m => .inr (.inr m)) (fun a m => (ext.grow a m)) (fun a m => (hS' a m).elim (fun q => .inr (by rw [q]; exact hLn)) .inl) lk rfl rfl s₁ keep I) (fun _ _ z => z) fun _ _ z => z.elim
end
section
/-- an object being made: its own dict is all that changes -/
structure IS (C : Cx) (sA : Heap) (x dx : Addr) (es : List DictEntry) (n : Nat) (σ : St) (s : Shared) : Prop where
  inv : Inv (C.within s.heap C.S' false) s σ C.M
  own : σ.own = none
  keep : ∀ b o, sA.get? b = some o → b ∉ C.S' → b ≠ dx → s.heap.get? b = some o
  fr : ∀ b o, sA.get? b = some o → b ∈ C.S' → ∃ sl, s.heap.get? b = some { o with slots := sl }
  self : s.heap.get? x = some (insObj dx)
  dict : s.heap.get? dx = some (dctObj es n)
structure ISx (C : Cx) (x dx : Addr) : Prop where
  ok : C.Ok
  nx : x ∉ C.S'
  nd : dx ∉ C.S'
  md : C.M dx
  nl : C.env.locals ≠ dx
  nc : ∀ y c, C.env.cells.lookup y = some c → c ≠ dx
  ne : x ≠ dx
theorem ISx.ctx {C : Cx} {x dx : Addr} (Z : ISx C x dx) (h : Heap) : (C.within h C.S' false).Ok := Z.ok.within (fun _ m => .inr m) fun e => nomatch e
section
variable {C : Cx} {sA : Heap} {x dx : Addr} {es : List DictEntry} {n : Nat} {σ : St} {s : Shared}
theorem IS.after (Z : ISx C x dx) (J : IS C sA x dx es n σ s) {s' : Shared} {σ' : St} {X' : Addr → Prop} (i : Inv (C.within s.heap C.S' false) s' σ' X') (ho : σ'.own = none) : IS C sA x dx es n σ' s' ∧ X' = C.M := by
  have e : X' = C.M := funext fun a => propext ⟨i.xm ho a, i.mx a⟩
  subst e
  exact ⟨⟨i.within (h := s'.heap) (S := C.S') (wr := false) (fun _ _ e => e) fun a h1 h2 => absurd h1 h2, ho, fun b o e n1 n2 => i.up.keep b o (J.keep b o e n1 n2) n1, fun b o e m => by
    obtain ⟨sl, q⟩ := J.fr b o e m
    obtain ⟨sl', q'⟩ := i.up.any q
    exact ⟨sl', q'⟩, i.up.keep _ _ J.self Z.nx, i.up.keep _ _ J.dict Z.nd⟩, rfl⟩
theorem IS.tb (Z : ISx C x dx) (J : IS C sA x dx es n σ s) {e : Expr} {Q : Bool → St → Prop} {P : Bool → Shared → Prop} (t : TB (C.within s.heap C.S' false) e σ Q fun _ _ => False) (ho : ∀ b σ', Q b σ' → σ'.own = none)
    (k : ∀ b σ' s', Q b σ' → IS C sA x dx es n σ' s' → Ext C.M C.M s.heap s'.heap → P b s') : wpAny (model prog C.w) C.A (isTrue e C.env (eval e C.env)) P (fun _ _ => False) s :=
  wpAny_mono (t s C.M J.inv) (fun b s' ⟨σ', X', q, i, _⟩ => k b σ' s' q (J.after Z i (ho b σ' q)).1 (i.up.toExt fun a m => Z.ok.sm a m)) fun _ _ ⟨_, _, _, _, _, _, f, _⟩ => f.elim
theorem IS.te (Z : ISx C x dx) (J : IS C sA x dx es n σ s) {e : Expr} {Q : PV → St → Prop} {P : Value → Shared → Prop} (t : TE (C.within s.heap C.S' false) e σ Q fun _ _ => False) (ho : ∀ b σ', Q b σ' → σ'.own = none)
    (k : ∀ d v σ' s', Q d σ' → IS C sA x dx es n σ' s' → Rep C.P s'.heap C.M d v → Ext C.M C.M s.heap s'.heap → P v s') : wpAny (model prog C.w) C.A (eval e C.env) P (fun _ _ => False) s :=
  wpAny_mono (t s C.M J.inv) (fun v s' ⟨d, σ', X', q, i, r, _⟩ => by
    obtain ⟨a, b⟩ := J.after Z i (ho d σ' q)
    subst b
    exact k d v σ' s' q a r (i.up.toExt fun a m => Z.ok.sm a m)) fun _ _ ⟨_, _, _, _, _, _, f, _⟩ => f.elim
theorem IS.poke (Z : ISx C x dx) (J : IS C sA x dx es n σ s) {h' : Heap} {es' : List DictEntry} {n' t : Nat} (sb : Heap.SameBut dx s.heap h') (hd : h'.get? dx = some (dctObj es' n')) : IS C sA x dx es' n' σ { s with heap := h', toks := t } := by
  have i0 : Inv (C.within (hideP s.heap (· = dx)) C.S' false) s σ C.M := J.inv.within (fun _ _ e => of_hideP e) fun a h1 h2 => absurd h1 h2
  have ext : Ext C.M C.M s.heap h' := Ext.but Z.md sb
  have same : ∀ a, a ≠ dx → h'.get? a = s.heap.get? a := sb.2
  have i1 : Inv (C.within (hideP s.heap (· = dx)) C.S' false) { s with heap := h', toks := t } σ C.M := by
    refine i0.poke (a0 := dx) Z.md (hideP_none rfl) sb ⟨_, hd, fun vs q => (nomatch q)⟩ ?_ ?_ ?_ (fun y e => by rw [J.own] at e; cases e) (fun _ a q => q)
    · obtain ⟨m, q⟩ := i0.ns; exact ⟨m, q.sameBut sb Z.nl⟩
    · intro y c e
      obtain ⟨v, o, q1, q2⟩ := i0.cells y c e
      exact ⟨v, o, (same c (Z.nc y c e)).trans q1, q2⟩
    · intro y d e ho
      obtain ⟨v, q, r⟩ := i0.vars y d e ho
      refine ⟨v, ?_, Rep.ext ext r⟩
      rcases q with ⟨k, m, q, z⟩ | ⟨k, c, q, o, h1, h2⟩
      · exact .inl ⟨k, m, q.sameBut sb Z.nl, z⟩
      · exact .inr ⟨k, c, q, o, (same c (Z.nc _ c q)).trans h1, h2⟩
  refine ⟨i1.within (h := h') (S := C.S') (wr := false) (fun _ _ e => e) fun a h1 h2 => absurd h1 h2, J.own, fun b o e n1 n2 => (same b n2).trans (J.keep b o e n1 n2), fun b o e m => ?_, (same x Z.ne).trans J.self, hd⟩
  obtain ⟨sl, q⟩ := J.fr b o e m
  exact ⟨sl, (same b fun z => Z.nd (z ▸ m)).trans q⟩
end
theorem bind_alloc {M : Model} {A : Around} {E : Value → Shared → Prop} {s : Shared} {fd : FuncData} {args : Args} {T : Addr} {o o' : Obj} {items : Array Value} {m : Nat} {Q : List (Str × Value) → Shared → Prop} {pre : Addr → List (Str × Value)}
    {k : Option (Array Value) → Sem (List (Str × Value))} (hd : fd.defaults = .ref T) (ho : s.heap.get? T = some o) (hs : o.data = .seq items m)
    (h₁ : bindArgs fd args = seqItems? fd.defaults >>= k) (h₂ : k (some items) = (alloc o' >>= fun d => pure (pre d))) (h : Q (pre s.heap.objs.size) { s with heap := s.heap.push o' }) : wpAny M A (bindArgs fd args) Q E s := by
  rw [h₁, hd]
  exact wpAny_bind (wpAny_seqItems ho hs (h₂ ▸ wpAny_bind (wpAny_alloc (wpAny_pure h))))
theorem kInitT (P : Params) : (K P).lookup 164 = some (tupObj [.none]) := by kernel_rfl
theorem initD : F_Code___init__.defaults = .ref 164 := by kernel_rfl
theorem bind_init1 {s : Shared} (ho : s.heap.get? 164 = some (tupObj [.none])) (a b : Value) (M : Model) (A : Around) (E : Value → Shared → Prop) (Q : List (Str × Value) → Shared → Prop)
    (h : Q [("self", a), ("code", b), ("scope", .none), ("kwargs", .ref s.heap.objs.size)] { s with heap := s.heap.push (dctObj [] 0) }) : wpAny M A (bindArgs F_Code___init__ ⟨[a, b], []⟩) Q E s :=
  bind_alloc (pre := fun d => [("self", a), ("code", b), ("scope", .none), ("kwargs", .ref d)]) initD ho rfl rfl (by kernel_rfl) h
theorem bind_init2 {s : Shared} (ho : s.heap.get? 164 = some (tupObj [.none])) (a b c : Value) (M : Model) (A : Around) (E : Value → Shared → Prop) (Q : List (Str × Value) → Shared → Prop)
    (h : Q [("self", a), ("code", b), ("scope", c), ("kwargs", .ref s.heap.objs.size)] { s with heap := s.heap.push (dctObj [] 0) }) : wpAny M A (bindArgs F_Code___init__ ⟨[a, b, c], []⟩) Q E s :=
  bind_alloc (pre := fun d => [("self", a), ("code", b), ("scope", c), ("kwargs", .ref d)]) initD ho rfl rfl (by kernel_rfl) h
theorem okF_Code___init__ : FdOk F_Code___init__ ["self", "code", "scope", "kwargs"] := ⟨by kernel_rfl, by kernel_rfl, by kernel_rfl, by kernel_rfl, by kernel_rfl, by kernel_rfl, by kernel_rfl, by decide, fun _ => by kernel_rfl⟩
end
section
theorem ents_noref {P : Params} : ∀ {ks : List Str} {vs : List Value} {es : List DictEntry}, Ents P ks vs es → es.any (·.refKey) = false
  | [], [], [], _ => rfl
  | _ :: _, _ :: _, e :: _, ⟨⟨t, e1⟩, _, _, r⟩ => by
    rw [List.any_cons, ents_noref r]
    simp [DictEntry.refKey, e1]
theorem ents_getL {P : Params} {ks : List Str} {vs : List Value} {es : List DictEntry} {x : Str} (h : Ents P ks vs es) : (getL x es).isSome = true := by
  unfold getL
  split
  · rfl
  · rw [ents_noref h]; rfl
theorem ents_put {P : Params} {x : Str} {v : Value} {t : Tok} : ∀ {ks : List Str} {vs : List Value} {es : List DictEntry}, Ents P ks vs es → x ∉ ks → Ents P (ks ++ [x]) (vs ++ [v]) (putL x (PyData.keyHash P x) (.str x t) v es)
  | [], [], [], _, _ => ⟨⟨t, rfl⟩, rfl, rfl, trivial⟩
  | k :: ks, u :: vs, e :: es, ⟨⟨t', e1⟩, e2, e3, r⟩, n => by
    have hk : e.key.isStr x = false := by
      rw [e1, str_is]
      rw [beq_eq_false_iff_ne]
      exact fun z => n (z ▸ .head _)
    unfold putL
    rw [hk]
    exact ⟨⟨t', e1⟩, e2, e3, ents_put r fun m => n (.tail _ m)⟩
theorem ents_put2 {P : Params} {a b : Str} {u v w : Value} {t : Tok} {es : List DictEntry} (h : Ents P [a, b] [u, v] es) (ne : (a == b) = false) : Ents P [a, b] [u, w] (putL b (PyData.keyHash P b) (.str b t) w es) := by
  cases es with
  | nil => exact h.elim
  | cons e1 r =>
    cases r with
    | nil => exact h.2.2.2.elim
    | cons e2 r =>
      cases r with
      | cons e3 r => exact h.2.2.2.2.2.2.elim
      | nil =>
        obtain ⟨⟨t1, k1⟩, h1, v1, ⟨t2, k2⟩, h2, v2, _⟩ := h
        have q1 : e1.key.isStr b = false := by rw [k1, str_is]; exact ne
        have q2 : e2.key.isStr b = true := by rw [k2, str_is]; simp
        unfold putL
        rw [q1]
        unfold putL
        rw [q2]
        exact ⟨⟨t1, k1⟩, h1, v1, ⟨t2, k2⟩, h2, rfl, trivial⟩
theorem putL_len {x : Str} {h : Int} {k v : Value} : ∀ {es : List DictEntry}, (putL x h k v es).length ≤ es.length + 1
  | [] => by simp [putL]
  | e :: r => by
    unfold putL
    split
    · simp
    · have := putL_len (x := x) (h := h) (k := k) (v := v) (es := r)
      simp only [List.length_cons]; omega
section
variable {C : Cx} {D : Dn} {sA : Heap} {x dx : Addr} {es : List DictEntry} {n : Nat} {σ : St} {s : Shared}
theorem Ls.win (L : Lg C D) (Z : ISx C x dx) (h : Heap) : Lg (C.within h C.S' false) D := ⟨Z.ctx h, L.names, L.glq, L.kq, L.room, L.units, L.hd⟩
theorem IS.frag (L : Lg C D) (J : IS C sA x dx es n σ s) : (K C.P).In s.heap := by rw [← L.kq]; exact L.ok.bs.frag.keeps J.inv.stay
theorem IS.iff (Z : ISx C x dx) (J : IS C sA x dx es n σ s) {e : Expr} {b o : List Stmt} {pos : Pos} {P : Flow → Shared → Prop} (c : Bool) (t : TB (C.within s.heap C.S' false) e σ (fun b σ' => b = c ∧ σ' = σ) fun _ _ => False)
    (k : ∀ s', IS C sA x dx es n σ s' → wpAny (model prog C.w) C.A (execs (if c then b else o) C.env) P (fun _ _ => False) s') : wpAny (model prog C.w) C.A (exec (.If e b o pos) C.env) P (fun _ _ => False) s :=
  wpAny_If (J.tb Z t (fun b σ' q => by rw [q.2]; exact J.own) fun b σ' s' ⟨hb, hs⟩ J' _ => by
    subst hb hs
    have := k s' J'
    cases b <;> exact this)
theorem IS.set (L : Lg C D) (Z : ISx C x dx) (J : IS C sA x dx es n σ s) {y name : Str} {v : Expr} {p1 p2 pos : Pos} {d : PV} {ks : List Str} {us : List Value} {P : Flow → Shared → Prop} (he : Ents C.P ks us es) (hz : es.length ≤ 900) (ht : takerIn (K C.P) codeCls name = some none)
    (hs : swapsWith v (some (.Attribute (.Name y p1) name p2)) pos.line C.env = pure false) (t : ∀ h, TE (C.within h C.S' false) v σ (fun d' σ' => d' = d ∧ σ' = σ) fun _ _ => False) (hy : ∀ h, TE (C.within h C.S' false) (.Name y p1) σ (fun d' σ' => d' = .ext (.ref x) ∧ σ' = σ) fun _ _ => False)
    (k : ∀ s' vv tk n', IS C sA x dx (putL name (PyData.keyHash C.P name) (.str name tk) vv es) n' σ s' → Rep C.P s'.heap C.M d vv → P .next s') : wpAny (model prog C.w) C.A (exec (.Assign [.Attribute (.Name y p1) name p2] v pos) C.env) P (fun _ _ => False) s :=
  plainObj_wpAny_Assign_Attribute (J.te Z (t s.heap) (fun _ σ' q => by rw [q.2]; exact J.own) fun d' v' σ' s' ⟨hd, hs⟩ J' r _ => by
    subst hd hs
    refine J'.te Z (hy s'.heap) (fun _ σ' q => by rw [q.2]; exact J'.own) fun d₂ v₂ σ₂ s₂ ⟨hd₂, hs₂⟩ J₂ r₂ ext => ?_
    subst hd₂ hs₂
    simp only [Rep] at r₂
    subst r₂
    refine setOwn (w := C.w) (J₂.frag L) J₂.self J₂.dict ht (ents_getL he) (Nat.le_trans putL_len (by omega)) fun h' sb hd => ?_
    refine k _ v' _ _ (J₂.poke Z sb hd) (Rep.ext (Ext.but Z.md sb) ?_)
    exact Rep.ext ext r) hs
end
end
section
section
variable {C : Cx} {D : Dn} {sA : Heap} {x dx : Addr} {σ : St} {s : Shared}
theorem TB.dictEmpty {e : Expr} {R : Exc → St → Prop} {Q : Bool → St → Prop} (he : ∀ env whole, isTrue e env whole = (do let v ← whole; standAt e.pos; holding [v] (truthy v)))
    (h : TE C e σ (fun d σ₁ => d = .dict [] [] ∧ Q false σ₁) R) : TB C e σ Q R :=
  TB.value he (TE.mono h (fun d σ₁ ⟨e, q⟩ s X v I r => by
    subst e
    simp only [Rep] at r
    obtain ⟨a, es, vs, n, rfl, ea, na, ⟨hs, he⟩, r2⟩ := r
    refine ⟨false, fun E Q' k => ?_, q⟩
    match es, vs, he with
    | [], [], he' => exact wpAny_truthy_dict (knd := strKind prog C.w) (kvs := []) (by simpa using hs) (ents_dict (w := C.w) (ks := []) (vs := []) ea he' .nil) (by decide) (k _)) fun _ _ z => z)
theorem IS.tok {es : List DictEntry} {n : Nat} (J : IS C sA x dx es n σ s) (t : Nat) : IS C sA x dx es n σ { s with toks := t } :=
  ⟨J.inv.tok t, J.own, J.keep, J.fr, J.self, J.dict⟩
theorem IS.scNone {es : List DictEntry} {n : Nat} {v₁ : Value} (L : Lg C D) (Z : ISx C x dx) (J : IS C sA x dx es n σ s) {y : Str} {p1 p2 p3 p4 : Pos} {kk : Nat} {P : Bool → Shared → Prop} (he : Ents C.P [Str.ofString "text", Str.ofString "_scope"] [v₁, .none] es)
    (hy : ∀ h, TE (C.within h C.S' false) (.Name y p1) σ (fun d' σ' => d' = .ext (.ref x) ∧ σ' = σ) fun _ _ => False) (hq : AttrEq (.Name y p1) "_scope" p2) (k : ∀ s', IS C sA x dx es n σ s' → P false s') :
    wpAny (model prog C.w) C.A (isTrue (.Compare (.Attribute (.Name y p1) "_scope" p2) [.IsNot] [.Constant .none kk p3] p4) C.env (eval (.Compare (.Attribute (.Name y p1) "_scope" p2) [.IsNot] [.Constant .none kk p3] p4) C.env)) P (fun _ _ => False) s := by
  refine wpAny_isTrue_Compare1 (Attribute_any_ (J.te Z (hy s.heap) (fun _ σ' q => by rw [q.2]; exact J.own) fun d₂ v₂ σ₂ s₂ ⟨hd₂, hs₂⟩ J₂ r₂ ext => ?_) (hq _)) rfl
  subst hd₂ hs₂
  simp only [Rep] at r₂
  subst r₂
  refine get_value (w := C.w) (J₂.frag L) (I := ⟨J₂.self, rfl, rfl, J₂.dict⟩) (code_ga _) (findObj_own (code_hd _) (code_scope _) rfl ((lookIn_dict _ _ _).trans ((getL_two he).trans (by rw [if_neg (by rw [str_ne (by decide)]; exact Bool.false_ne_true), if_pos (by simp)])))) rfl ?_
  exact wpAny_Constant_none (isNot_none (wpAny_truthy_bool (k _ (J₂.tok _))))
/-- what Code's making does -/
theorem w_init {tx : Str} {sc : PV} (hsc : sc = .none ∨ ∃ ks ds, sc = .dict ks ds) (L : Lg C D) (hh : C.hd = none) (Z : ISx C x dx) (hD : D.names = F_Code___init__.scope.names)
    (J : IS C sA x dx [] 0 ⟨[("self", .ext (.ref x)), ("code", .str tx), ("scope", sc), ("kwargs", .dict [] [])], none⟩ s) (body : List Stmt) (hb : F_Code___init__.body = .stmts body) :
    wpAny (model prog C.w) C.A (execs body C.env) (fun f s' => f = .next ∧ ∃ es n σ' vt vs, IS C sA x dx es n σ' s' ∧ CodeEnts C.P vt vs es ∧ (∃ t, vt = .str tx t) ∧ Rep C.P s'.heap C.M sc vs) (fun _ _ => False) s := by
  obtain rfl : _ = body := FuncBody.stmts.inj hb
  clear hb
  obtain ⟨nms, nn, hdd⟩ := D
  subst hD
  have rd : ∀ (h : Heap) (y : Str) (p : Pos) (d : PV), (⟨[("self", .ext (.ref x)), ("code", .str tx), ("scope", sc), ("kwargs", .dict [] [])], none⟩ : St).vars.lookup y = some d → (y == ("__debug__" : Str)) = false →
      TE (C.within h C.S' false) (.Name y p) ⟨[("self", .ext (.ref x)), ("code", .str tx), ("scope", sc), ("kwargs", .dict [] [])], none⟩ (fun d' σ' => d' = d ∧ σ' = ⟨[("self", .ext (.ref x)), ("code", .str tx), ("scope", sc), ("kwargs", .dict [] [])], none⟩) fun _ _ => False :=
    fun h y p d e hy => TE.nm (L.win Z h) e hy rfl ⟨rfl, rfl⟩
  refine wpAny_execs_cons (J.iff Z false ?_ fun s₁ J₁ => ?_)
  · have L1 := L.win Z s.heap
    have ok1 := L1.ok
    tbr_iter "go"
    done
  refine wpAny_execs_nil ?_
  refine wpAny_execs_cons (J₁.iff Z false ?_ fun s₂ J₂ => ?_)
  · have L1 := L.win Z s₁.heap
    have ok1 := L1.ok
    tbr_iter "go"
    done
  refine wpAny_execs_cons (J₂.set L Z (d := .str tx) (ks := []) (us := []) trivial (by decide) (code_tt _) rfl (fun h => rd h _ _ _ (by tbr_iter "lk") (str_ne (by decide))) (fun h => rd h _ _ _ (by tbr_iter "lk") (str_ne (by decide))) fun s₃ v₁ t₁ n₁ J₃ r₁ => ?_)
  have E1 : Ents C.P [Str.ofString "text"] [v₁] _ := ents_put (ks := []) (vs := []) (es := []) (x := "text") (v := v₁) (t := t₁) trivial (by simp)
  refine wpAny_execs_cons (J₃.set L Z (d := .none) E1 (by simp [putL]) (code_ts _) rfl (fun h => TE.const_none ⟨rfl, rfl⟩) (fun h => rd h _ _ _ (by tbr_iter "lk") (str_ne (by decide))) fun s₄ v₂ t₂ n₂ J₄ r₂ => ?_)
  have E2 : Ents C.P [Str.ofString "text", Str.ofString "_scope"] [v₁, v₂] _ := ents_put (x := "_scope") (v := v₂) (t := t₂) E1 (by simp [ofString_ne])
  refine wpAny_execs_nil ?_
  simp only [Rep] at r₁ r₂
  subst r₂
  have fin : ∀ s₅ es n vs, IS C sA x dx es n ⟨[("self", .ext (.ref x)), ("code", .str tx), ("scope", sc), ("kwargs", .dict [] [])], none⟩ s₅ → CodeEnts C.P v₁ vs es → Rep C.P s₅.heap C.M sc vs →
      ∀ e b p, (∀ h, TB (C.within h C.S' false) e ⟨[("self", .ext (.ref x)), ("code", .str tx), ("scope", sc), ("kwargs", .dict [] [])], none⟩ (fun b σ' => b = false ∧ σ' = ⟨[("self", .ext (.ref x)), ("code", .str tx), ("scope", sc), ("kwargs", .dict [] [])], none⟩) fun _ _ => False) →
      wpAny (model prog C.w) C.A (execs [.If e b [] p] C.env) (fun f s' => f = .next ∧ ∃ es n σ' vt vs, IS C sA x dx es n σ' s' ∧ CodeEnts C.P vt vs es ∧ (∃ t, vt = .str tx t) ∧ Rep C.P s'.heap C.M sc vs) (fun _ _ => False) s₅ := fun s₅ es n vs J₅ ce r₅ e b p ht => by
    refine wpAny_execs_cons (wpAny_If (J₅.tb Z (ht _) (fun b σ' q => by rw [q.2]) fun b σ' s' ⟨hb, hs⟩ J' ext => ?_))
    subst hb hs
    exact wpAny_execs_nil (wpAny_execs_nil ⟨rfl, es, n, _, v₁, vs, J', ce, r₁, Rep.ext ext r₅⟩)
  rcases hsc with rfl | ⟨ks, ds, rfl⟩
  · refine wpAny_execs_cons (J₄.iff Z false ?_ fun s₅ J₅ => ?_)
    · have L1 := L.win Z s₄.heap
      have ok1 := L1.ok
      tbr_iter "go"
      done
    refine wpAny_execs_nil ?_
    refine fin s₅ _ _ _ J₅ E2 (by simp only [Rep]) _ _ _ fun h => ?_
    exact TB.dictEmpty (fun _ _ => rfl) (TE.nm (L.win Z h) (by tbr_iter "lk") (str_ne (by decide)) rfl ⟨rfl, rfl, rfl⟩)
  · refine wpAny_execs_cons (J₄.iff Z true ?_ fun s₅ J₅ => ?_)
    · have L1 := L.win Z s₄.heap
      have ok1 := L1.ok
      tbr_iter "go"
      done
    refine wpAny_execs_cons (J₅.iff Z false ?_ fun s₆ J₆ => ?_)
    · have L1 := L.win Z s₅.heap
      have ok1 := L1.ok
      tbr_iter "go"
      done
    refine wpAny_execs_nil ?_
    refine wpAny_execs_cons (wpAny_If (J₆.scNone L Z E2 (fun h => rd h _ _ _ (by tbr_iter "lk") (str_ne (by decide))) (fun _ => by with_unfolding_all rfl) fun s₇ J₇ => ?_))
    refine wpAny_execs_cons (J₇.set L Z (d := .dict ks ds) E2 (by rw [(ents_len E2).2]; simp) (code_ts _) rfl (fun h => rd h _ _ _ (by tbr_iter "lk") (str_ne (by decide))) (fun h => rd h _ _ _ (by tbr_iter "lk") (str_ne (by decide))) fun s₈ v₃ t₃ n₃ J₈ r₃ => ?_)
    refine wpAny_execs_nil ?_
    refine wpAny_execs_nil ?_
    refine fin s₈ _ _ _ J₈ (ents_put2 E2 (str_ne (by decide))) r₃ _ _ _ fun h => ?_
    exact TB.dictEmpty (fun _ _ => rfl) (TE.nm (L.win Z h) (by tbr_iter "lk") (str_ne (by decide)) rfl ⟨rfl, rfl, rfl⟩)
end
end
section
theorem tc_units {A : Around} {c : Addr} {vals : List Value} : A.under (.builtin "type.__call__" ⟨.ref c :: vals, []⟩) = { A with depth := A.depth + 1, units := A.units + 1 } := by
  cases A; rfl
/-- Code(text) and Code(text, scope) -/
theorem TC.code {C : Cx} {D : Dn} {σ : St} {Q : PV → St → Prop} {R : Exc → St → Prop} {tx : Str} {rest : List PV} {sc : PV} (L : Lg C D) (hh : C.hd = none) (hn : 2 ≤ D.n) (hr : (rest = [] ∧ sc = .none) ∨ ∃ ks ds, rest = [.dict ks ds] ∧ sc = .dict ks ds) (q : Q (.code tx sc) σ) :
    TC C (.ref codeCls) (.str tx :: rest) σ Q R := fun s X vs I rs => by
  have XK := L.frag I
  have hsc : sc = .none ∨ ∃ ks ds, sc = .dict ks ds := hr.elim (fun z => .inl z.2) fun ⟨ks, ds, _, z⟩ => .inr ⟨ks, ds, z⟩
  obtain ⟨hp, g, d, t, os⟩ := s
  obtain ⟨vr, tt, rr, rfl⟩ : ∃ vr tt, Reps C.P hp X rest vr ∧ vs = .str tx tt :: vr := by
    simp only [Reps, Rep] at rs
    obtain ⟨_, vr, rfl, ⟨tt, rfl⟩, rr⟩ := rs
    exact ⟨vr, tt, rr, rfl⟩
  refine wpAny_call (make_core (prog := prog) (w := C.w) (makes_of XK (code_mk _)) (looks_findIn XK (code_in _)) (fun self => bind_fn XK self (code_fn _)) (.inl rfl) ?_)
  rw [tc_units]
  have nD : hp.get? hp.objs.size = none := Heap.get?_none_of_le (Nat.le_refl _)
  have nx : hp.get? (hp.objs.size + 1) = none := Heap.get?_none_of_le (by omega)
  have hsz : (hp.push emptyDict).objs.size = hp.objs.size + 1 := Heap.size_push ..
  have k1 : ∀ b o, hp.get? b = some o → ((hp.push emptyDict).push (instObj codeCls hp.objs.size)).get? b = some o := fun b o e => Heap.get?_push_of_some _ (Heap.get?_push_of_some _ e)
  have hD1 : ((hp.push emptyDict).push (instObj codeCls hp.objs.size)).get? hp.objs.size = some (dctObj [] 0) := Heap.get?_push_of_some _ (Heap.get?_push_size _ rfl)
  have hx1 : ((hp.push emptyDict).push (instObj codeCls hp.objs.size)).get? (hp.objs.size + 1) = some (insObj hp.objs.size) := by rw [← hsz]; exact Heap.get?_push_size _ rfl
  generalize hdd : hp.objs.size = dx at *
  generalize (hp.push emptyDict).push (instObj codeCls dx) = h1 at *
  have sys : h1.get? sysModules ≠ none := by
    obtain ⟨o, e⟩ := L.ok.bs.sys
    have := k1 _ _ (I.stay _ _ e)
    rw [this]; exact fun z => nomatch z
  have nk : h1.get? h1.objs.size = none := Heap.get?_none_of_le (Nat.le_refl _)
  have k2 : ∀ b o, h1.get? b = some o → (h1.push (dctObj [] 0)).get? b = some o := fun b o e => Heap.get?_push_of_some _ e
  have hk2 : (h1.push (dctObj [] 0)).get? h1.objs.size = some (dctObj [] 0) := Heap.get?_push_size _ rfl
  have hkw : h1.objs.size ≠ dx := fun e => by rw [e, hD1] at nk; cases nk
  have hl1 : ∀ {a : Addr}, X a → h1.get? a ≠ none := fun {a} m => by
    obtain ⟨o, e⟩ := I.xl a m
    rw [k1 a o e]; exact fun z => nomatch z
  have nXd : ¬ X dx := fun m => by obtain ⟨o, e⟩ := I.xl _ m; rw [show hp.get? dx = none from nD] at e; cases e
  have nXx : ¬ X (dx + 1) := fun m => by obtain ⟨o, e⟩ := I.xl _ m; rw [show hp.get? (dx + 1) = none from nx] at e; cases e
  have ext : Ext X (fun a => X a ∨ a = dx) hp (h1.push (dctObj [] 0)) := ⟨fun a o e _ => k2 _ _ (k1 _ _ e), fun a m => m.imp id fun e => by rw [e]; exact nD⟩
  obtain ⟨us3, hus, hbind⟩ : ∃ v3, Rep C.P (h1.push (dctObj [] 0)) (fun a => X a ∨ a = dx) sc v3 ∧ ∀ (M : Model) (A : Around) (E : Value → Shared → Prop) (Q : List (Str × Value) → Shared → Prop),
      Q ((["self", "code", "scope", "kwargs"] : List Str).zip [.ref (dx + 1), .str tx tt, v3, .ref h1.objs.size]) ⟨h1.push (dctObj [] 0), g, d, t, os⟩ → wpAny M A (bindArgs F_Code___init__ ⟨.ref (dx + 1) :: .str tx tt :: vr, []⟩) Q E ⟨h1, g, d, t, os⟩ := by
    have hT : h1.get? 164 = some (tupObj [.none]) := k1 _ _ (XK _ _ (kInitT _))
    rcases hr with ⟨rfl, rfl⟩ | ⟨ks, ds, rfl, rfl⟩
    · simp only [Reps] at rr
      subst rr
      exact ⟨.none, by simp only [Rep], fun M A E Q z => bind_init1 (s := ⟨h1, g, d, t, os⟩) hT _ _ M A E Q z⟩
    · obtain ⟨u, rfl, ru⟩ := rep1 rr
      exact ⟨u, Rep.ext ext ru, fun M A E Q z => bind_init2 (s := ⟨h1, g, d, t, os⟩) hT _ _ _ M A E Q z⟩
  rw [show C.A.handled = none from hh]
  refine raw_enter (w := C.w) (base := C.base) (l := C.fenv :: C.outer) (n := 0) (X := fun a => X a ∨ a = dx) (s₀ := ⟨h1.push (dctObj [] 0), g, d, t, os⟩) (ds' := [.ext (.ref (dx + 1)), .str tx, sc, .dict [] []]) (us := [.ref (dx + 1), .str tx tt, us3, .ref h1.objs.size])
    (kF_Code___init__ _) okF_Code___init__ rfl (by rw [← L.glq, ← L.kq]; exact L.ok.bs) (fun b o e => k1 b o (I.stay b o e)) k2 (I.frames.of_keeps fun b o e _ => ⟨o, k2 _ _ (k1 b o e), rfl⟩) I.gens (fun a m => .inl (I.mx a (L.ok.sm a m)))
    (fun a m => m.elim (I.xb a) fun e => by rw [e]; exact fresh_of_stays I.stay nD) (fun a m => m.elim (fun m => let ⟨o, e⟩ := I.xl a m; ⟨o, k2 _ _ (k1 a o e)⟩) fun e => ⟨dctObj [] 0, by rw [e]; exact k2 _ _ hD1⟩) hbind ?_ (by have := L.room; show C.dp + 1 + 1 < recursionLimit; omega) (by have := L.units; show C.un + 1 + 8 * 1 < cLine; omega) ?_
  · refine Reps.cons (by simp only [Rep]) (Reps.cons (rep_str _ _) (Reps.cons hus (Reps.cons ?_ Reps.nil)))
    simp only [Rep]
    exact ⟨_, [], [], 0, rfl, hk2, fun m => m.elim (fun m => hl1 m nk) hkw, ⟨fun e => sys (e ▸ nk), trivial⟩, Reps.nil⟩
  · intro C' hw hbase hout hh0 hhd hos hM1 hM2 hS LK lw cw s₁ keep1 I1
    have hP : C'.P = C.P := congrArg World.params hw
    have x2 : (h1.push (dctObj [] 0)).get? (dx + 1) = some (insObj dx) := k2 _ _ hx1
    have d2 : (h1.push (dctObj [] 0)).get? dx = some (dctObj [] 0) := k2 _ _ hD1
    have inS : ∀ a, a ∈ C'.S' → X a ∨ (h1.push (dctObj [] 0)).get? a = none := fun a m => (hS a m).imp (fun m => I.mx a (L.ok.sm a m)) id
    have Z : ISx C' (dx + 1) dx := by
      refine ⟨LK.ok, fun m => ?_, fun m => ?_, hM1 _ (.inr rfl), fun e => ?_, fun y c hc e => ?_, Nat.succ_ne_self _⟩
      · rcases inS _ m with q | q
        · exact nXx q
        · rw [x2] at q; cases q
      · rcases inS _ m with q | q
        · exact nXd q
        · rw [d2] at q; cases q
      · have := LK.ok.ml lw
        rw [hh0, e, d2] at this; cases this
      · have := LK.ok.mc cw y c hc
        rw [hh0, e, d2] at this; cases this
    have J : IS C' (h1.push (dctObj [] 0)) (dx + 1) dx [] 0 ⟨(["self", "code", "scope", "kwargs"] : List Str).zip [.ext (.ref (dx + 1)), .str tx, sc, .dict [] []], none⟩ s₁ :=
      ⟨I1.within (h := s₁.heap) (S := C'.S') (wr := false) (fun _ _ e => e) fun a h1 h2 => absurd h1 h2, rfl, fun b o e _ _ => keep1 b o e, fun b o e _ => ⟨o.slots, keep1 b o e⟩, keep1 _ _ x2, keep1 _ _ d2⟩
    refine wpAny_mono (w_init hsc LK.toLs hhd Z rfl J _ rfl) (fun f s' ⟨hf, es, n, σ', vt, vs', J', ce, ⟨tt', ht⟩, r'⟩ => ?_) fun _ _ z => z
    subst hf
    refine ⟨rfl, ?_⟩
    have sub : ∀ b, b ∈ C'.S' → ∀ o, hp.get? b = some o → b ∈ (C.fenv :: C.outer).filterMap (·.frame) := fun b m o e => (hS b m).elim id fun z => by
      have := k2 _ _ (k1 _ _ e)
      rw [show (h1.push (dctObj [] 0)).get? b = none from z] at this; cases this
    have up : Up C.S' hp s'.heap := by
      refine ⟨fun b o e nb => J'.keep b o (k2 _ _ (k1 b o e)) (fun m => nb (sub b m o e)) fun z => ?_, fun b o e m => ?_⟩
      · rw [z, nD] at e; cases e
      · by_cases mm : b ∈ C'.S'
        · exact J'.fr b o (k2 _ _ (k1 b o e)) mm
        · exact ⟨o.slots, J'.keep b o (k2 _ _ (k1 b o e)) mm fun z => by rw [z, nD] at e; cases e⟩
    refine ⟨.code tx sc, σ, X, q, I.after L.ok up J'.inv.gens (J'.inv.os.trans hos), ?_, up.toExt fun a m => I.mx a (L.ok.sm a m)⟩
    simp only [Rep]
    refine ⟨dx + 1, dx, es, n, vt, vs', rfl, J'.self, nXx, J'.dict, nXd, hP ▸ ce, ⟨tt', ht⟩, ?_⟩
    rw [← hP]
    exact Rep.sub (fun a m => hM1 a (.inl m)) r'
end
section
theorem okF_get_object_size : FdOk F_get_object_size ["data", "position", "obj_end"] := ⟨by kernel_rfl, by kernel_rfl, by kernel_rfl, by kernel_rfl, by kernel_rfl, by kernel_rfl, by kernel_rfl, by decide, fun _ => by kernel_rfl⟩
theorem bF_get_object_size : Bnd F_get_object_size ["data", "position", "obj_end"] := bnd3 fun a b c => by kernel_rfl
theorem okF_get_object : FdOk F_get_object ["data", "view", "position", "obj_end", "opts", "dummy"] := ⟨by kernel_rfl, by kernel_rfl, by kernel_rfl, by kernel_rfl, by kernel_rfl, by kernel_rfl, by kernel_rfl, by decide, fun _ => by kernel_rfl⟩
theorem bF_get_object : Bnd F_get_object ["data", "view", "position", "obj_end", "opts", "dummy"] := bnd6 fun a b c d e f => by kernel_rfl
theorem okF_get_array : FdOk F_get_array ["data", "view", "position", "obj_end", "opts", "element_name"] := ⟨by kernel_rfl, by kernel_rfl, by kernel_rfl, by kernel_rfl, by kernel_rfl, by kernel_rfl, by kernel_rfl, by decide, fun _ => by kernel_rfl⟩
theorem bF_get_array : Bnd F_get_array ["data", "view", "position", "obj_end", "opts", "element_name"] := bnd6 fun a b c d e f => by kernel_rfl
theorem okF_get_code_w_scope : FdOk F_get_code_w_scope ["data", "view", "position", "_obj_end", "opts", "element_name"] := ⟨by kernel_rfl, by kernel_rfl, by kernel_rfl, by kernel_rfl, by kernel_rfl, by kernel_rfl, by kernel_rfl, by decide, fun _ => by kernel_rfl⟩
theorem bF_get_code_w_scope : Bnd F_get_code_w_scope ["data", "view", "position", "_obj_end", "opts", "element_name"] := bnd6 fun a b c d e f => by kernel_rfl
theorem okF_get_element : FdOk F_get_element ["element_type", "data", "view", "position", "obj_end", "opts", "element_name"] := ⟨by kernel_rfl, by kernel_rfl, by kernel_rfl, by kernel_rfl, by kernel_rfl, by kernel_rfl, by kernel_rfl, by decide, fun _ => by kernel_rfl⟩
theorem bF_get_element : Bnd F_get_element ["element_type", "data", "view", "position", "obj_end", "opts", "element_name"] := bnd7 fun a b c d e f g => by kernel_rfl
theorem okF_element_to_dict : FdOk F_element_to_dict ["data", "view", "position", "obj_end", "opts"] := ⟨by kernel_rfl, by kernel_rfl, by kernel_rfl, by kernel_rfl, by kernel_rfl, by kernel_rfl, by kernel_rfl, by decide, fun _ => by kernel_rfl⟩
theorem bF_element_to_dict : Bnd F_element_to_dict ["data", "view", "position", "obj_end", "opts"] := bnd5 fun a b c d e => by kernel_rfl
theorem okF_elements_to_dict : FdOk F_elements_to_dict ["data", "view", "position", "obj_end", "opts"] := ⟨by kernel_rfl, by kernel_rfl, by kernel_rfl, by kernel_rfl, by kernel_rfl, by kernel_rfl, by kernel_rfl, by decide, fun _ => by kernel_rfl⟩
theorem bF_elements_to_dict : Bnd F_elements_to_dict ["data", "view", "position", "obj_end", "opts"] := bnd5 fun a b c d e => by kernel_rfl
theorem okF_bson_to_dict : FdOk F_bson_to_dict ["data", "opts"] := ⟨by kernel_rfl, by kernel_rfl, by kernel_rfl, by kernel_rfl, by kernel_rfl, by kernel_rfl, by kernel_rfl, by decide, fun _ => by kernel_rfl⟩
theorem bF_bson_to_dict : Bnd F_bson_to_dict ["data", "opts"] := bnd2 fun a b => by kernel_rfl
theorem okF_decode_all : FdOk F_decode_all ["data", "opts"] := ⟨by kernel_rfl, by kernel_rfl, by kernel_rfl, by kernel_rfl, by kernel_rfl, by kernel_rfl, by kernel_rfl, by decide, fun _ => by kernel_rfl⟩
theorem bF_decode_all : Bnd F_decode_all ["data", "opts"] := bnd2 fun a b => by kernel_rfl
theorem okFis_valid : FdOk Fis_valid ["bson"] := ⟨by kernel_rfl, by kernel_rfl, by kernel_rfl, by kernel_rfl, by kernel_rfl, by kernel_rfl, by kernel_rfl, by decide, fun _ => by kernel_rfl⟩
theorem bFis_valid : Bnd Fis_valid ["bson"] := bnd1 fun a => by kernel_rfl
theorem sub_VE : isSubtype (.type "ValueError") (.type "BaseException") = pure true := by rw [isSubtype_type]; kernel_rfl
theorem nt_VE : isSubtype (.type ((Manifest.find? "ValueError").elim "type" fun x => x.metatype)) (.type "tuple") = pure false := by rw [isSubtype_type]; kernel_rfl
theorem sub_VV : isSubtype (.type "ValueError") (.type "ValueError") = pure true := by rw [isSubtype_type]; kernel_rfl
theorem TE.strExc {C : Cx} {D : Dn} {σ : St} {Q : PV → St → Prop} {R : Exc → St → Prop} (L : Lg C D) {e : Addr} {m : Str} {e₀ : Expr} {p pos} (he : HdAt C.P C.base e ⟨.type "ValueError", [.str m], false, true⟩) (k : D.names.lookup ("str" : Str) = some .globalImplicit) (hn : notStar e₀ = true)
    (h : TE C e₀ σ (fun d σ₁ => d = .ext (.ref e) ∧ Q (.str m) σ₁) R) : TE C (.Call (.Name "str" p) [e₀] [] pos) σ Q R :=
  TE.bi L k (str_ne (by decide)) (one_arg hn) gl_str (.inl ⟨_, rfl⟩) (TA.cons hn (TE.mono h (fun d σ₁ ⟨hd, q⟩ => TA.nil fun s X vs I r => by
    subst hd
    obtain ⟨v, rfl, r'⟩ := rep1 r
    simp only [Rep] at r'
    subst r'
    obtain ⟨oe, ws, t, us, h1, h2, h3, h4, h5, h6, _⟩ := he
    obtain ⟨a, rfl, ht⟩ := h5 rfl
    have hr := h6 s.heap X
    obtain ⟨u, rfl, ru⟩ := rep1 hr
    simp only [Rep] at ru
    obtain ⟨tk, rfl⟩ := ru
    have hx : s.heap.ExcAt e "ValueError" (.ref a) := ⟨oe, ws, I.stay _ _ h1, h2, h3, h4⟩
    exact fun E => PySem.P.str_of_exc_one PySem.F.excStr_ValueError (by have := L.units; show C.un + 2 < cLine; omega) hx (let ⟨o, n, q1, q2, q3⟩ := ht; ⟨o, n, I.stay _ _ q1, q2, q3⟩) ⟨_, s.heap, s.toks, q, rfl, fun _ _ e => e, rep_str _ _⟩) fun _ _ z => z))
theorem wrapX_nth (o : List UInt8) (c : UInt8) : (wrapX o c)[o.length + 4]? = some c := by
  have := KTBy.low_length ((o.length : Int) + 5) 4
  unfold wrapX
  rw [List.getElem?_append_right (by simp only [low4, List.length_append, this]; omega)]
  simp only [low4, List.length_append, this]
  rw [show o.length + 4 - (4 + o.length) = 0 by omega]
  simp
theorem ne0 {c : UInt8} (h : c ≠ 0) : ((c.toNat : Int) != 0) = true := by
  rw [bne_iff_ne]
  intro z
  exact h (UInt8.toNat_inj.mp (by simpa using z))
/-- the head of a document -/
theorem c_object_size {data : List UInt8} {p e : Nat} {o : List UInt8} {c : UInt8} {n : Nat} (hz : data.length ≤ 1000000) (h : At data p (wrapX o c)) (he : p + o.length + 4 < e) (hp : p = 0 → o.length + 5 = e) (hn : 2 ≤ n) :
    CallOk glF K (n + 1) 1119 [.bytes data, .int p, .int e] (fun d => c = 0 ∧ d = .tuple [.int ((o.length : Int) + 5), .int ((p : Int) + o.length + 4)]) (fun x => c ≠ 0 ∧ badX x) := by
  have hl := h.len
  rw [wrapX_len] at hl
  have h4 : At data p (low4 ((o.length : Int) + 5)) := h.left.left
  have hc : ((data.getD ((p : Int) + ((o.length : Int) + 5) - 1).toNat 0).toNat : Int) = c.toNat := get_p h (wrapX_nth o c) (by omega)
  refine enter kF_get_object_size okF_get_object_size bF_get_object_size rfl rfl fun C ok Lk L hlw hcw hh => ?_
  dsimp only [List.zip, List.zipWith]
  tbr_iter "stmt"
  refine T1.try_as ok Lk.fe Lk.fr hh (L.kind (by kernel_rfl)) (str_ne (by decide)) (L.gv gl_ValueError) sub_VE nt_VE (L.kind (by kernel_rfl)) hlw ?_
  tbr_iter "go"
  refine L.go (c_unpack_int (n := 1) (by omega) (by omega) (by omega)) hn hh ?_
  rw [h4.four (by omega) (by omega)]
  tbr_iter "go"
  rw [hc]
  by_cases h0 : c = 0
  · subst h0
    by_cases h1 : p = 0
    · have := hp h1
      tbr_iter "go"
      rw [show (p : Int) + ((o.length : Int) + 5) - 1 = (p : Int) + o.length + 4 by omega]
    · tbr_iter "go"
      rw [show (p : Int) + ((o.length : Int) + 5) - 1 = (p : Int) + o.length + 4 by omega]
  · rw [ne0 h0]
    tbr_iter "go"
    rfl
/-- octets that are more or fewer than they say -/
theorem c_object_size_bad {data : List UInt8} {m : Nat} {n : Nat} (hz : data.length ≤ 1000000) (hm : m ≤ 1000000) (h : At data 0 (low4 ((m : Int) + 5))) (hne : data.length ≠ m + 5) (hn : 2 ≤ n) :
    CallOk glF K (n + 1) 1119 [.bytes data, .int 0, .int data.length] (fun _ => False) badX := by
  have hl := h.len
  rw [low4, KTBy.low_length] at hl
  refine enter kF_get_object_size okF_get_object_size bF_get_object_size rfl rfl fun C ok Lk L hlw hcw hh => ?_
  dsimp only [List.zip, List.zipWith]
  tbr_iter "stmt"
  refine T1.try_as ok Lk.fe Lk.fr hh (L.kind (by kernel_rfl)) (str_ne (by decide)) (L.gv gl_ValueError) sub_VE nt_VE (L.kind (by kernel_rfl)) hlw ?_
  tbr_iter "go"
  refine L.go (c_unpack_int (p := 0) (n := 1) (by omega) (by omega) (by omega)) hn hh ?_
  rw [h.four (by omega) (by omega)]
  tbr_iter "go"
  by_cases h1 : data.length ≤ m + 4
  · tbr_iter "go"
    rfl
  · tbr_iter "go"
    by_cases h2 : (((data.getD ((0 : Int) + ((m : Int) + 5) - 1).toNat 0).toNat : Int) != 0) = true
    · tbr_iter "go"
      rfl
    · tbr_iter "go"
      rfl
theorem c_object_size_short {data : List UInt8} {n : Nat} (hz : data.length < 4) (hn : 2 ≤ n) :
    CallOk glF K (n + 1) 1119 [.bytes data, .int 0, .int data.length] (fun _ => False) badX := by
  refine enter kF_get_object_size okF_get_object_size bF_get_object_size rfl rfl fun C ok Lk L hlw hcw hh => ?_
  dsimp only [List.zip, List.zipWith]
  tbr_iter "stmt"
  refine T1.try_as ok Lk.fe Lk.fr hh (L.kind (by kernel_rfl)) (str_ne (by decide)) (L.gv gl_ValueError) sub_VE nt_VE (L.kind (by kernel_rfl)) hlw ?_
  tbr_iter "go"
  refine L.dn (c_unpack_int_bad (p := 0) (n := 1) (by omega) (by omega) (by omega)) hn hh (fun _ z => z.elim) fun x e => ?_
  subst e
  refine ⟨"ValueError", rfl, sub_VV, rfl, fun B e ok' he => ?_⟩
  have L' := L.handling B e _ ok' he
  tbr_iter "stmt"
  refine T1.raise_ownN (kc := _) ok' rfl he rfl (L'.kind (by kernel_rfl)) (L'.gv gl_InvalidBSON) (str_ne (by decide)) rfl ?_
  refine TA.cons rfl (TE.strExc L' he (by kernel_rfl) rfl ?_)
  tbr_iter "go"
  rfl
theorem kind_lt (d : Dat) : d.kind.toNat < 20 := by cases d <;> simp [Dat.kind]
theorem split_cons {x : Str} {b : List UInt8} {d : Dat} {r : Flds} {o : List UInt8} (hc : o = (Flds.cons x b d r).octs ∨ (Flds.cons x b d r).Hurt o) :
    ∃ (kk : UInt8) (b' o' : List UInt8), o = ([kk] ++ (b ++ [0]) ++ b') ++ o' ∧ b'.length = d.body.length ∧ o'.length = r.octs.length ∧ ((kk = d.kind ∧ (b' = d.body ∨ d.Hurt b')) ∨ (20 ≤ kk.toNat ∧ kk.toNat ≤ 126)) ∧
      (kk = d.kind → b' = d.body → (o' = r.octs ∨ r.Hurt o') ∧ (o' = r.octs → o = (Flds.cons x b d r).octs) ∧ (r.Hurt o' → (Flds.cons x b d r).Hurt o)) ∧ ((d.Hurt b' ∧ kk = d.kind) ∨ 20 ≤ kk.toNat → (Flds.cons x b d r).Hurt o) := by
  have hk := kind_lt d
  rcases hc with rfl | hc
  · refine ⟨d.kind, d.body, r.octs, by simp only [Flds.octs], rfl, rfl, .inl ⟨rfl, .inl rfl⟩, fun _ _ => ⟨.inl rfl, fun _ => rfl, fun h => ?_⟩, fun h => ?_⟩
    · simp only [Flds.Hurt, Flds.octs]
      exact .inr (.inr ⟨r.octs, h, rfl, rfl⟩)
    · rcases h with ⟨h, _⟩ | h
      · simp only [Flds.Hurt, Flds.octs]
        exact .inr (.inl ⟨d.body, h, rfl, rfl⟩)
      · omega
  · have hc' := hc
    simp only [Flds.Hurt] at hc
    rcases hc with ⟨k, h1, h2, rfl⟩ | ⟨b', hb, hl, rfl⟩ | ⟨o', ho, hl, rfl⟩
    · refine ⟨k, d.body, r.octs, rfl, rfl, rfl, .inr ⟨h1, h2⟩, fun e _ => ?_, fun _ => hc'⟩
      rw [e] at h1; omega
    · refine ⟨d.kind, b', r.octs, rfl, hl, rfl, .inl ⟨rfl, .inr hb⟩, fun _ e => ⟨.inl rfl, fun _ => by subst e; simp only [Flds.octs], fun _ => hc'⟩, fun _ => hc'⟩
    · refine ⟨d.kind, d.body, o', rfl, rfl, hl, .inl ⟨rfl, .inl rfl⟩, fun _ _ => ⟨.inr ho, fun e => by subst e; simp only [Flds.octs], fun _ => hc'⟩, fun _ => hc'⟩
/-- what reads a datum -/
def GE (n : Nat) (d : Dat) : Prop := ∀ (data : List UInt8) (p e : Nat) (b : List UInt8) (x : Str), data.length ≤ 1000000 → 1 ≤ p → At data p b → (b = d.body ∨ d.Hurt b) → b.length = d.body.length → p + b.length ≤ e → x.length ≤ 100 →
  CallOk glF K n 1217 [.int (d.kind.toNat : Nat), .bytes data, .bytes data, .int p, .int e, opts, .str x] (fun r => b = d.body ∧ r = .tuple [d.val, .int ((p : Int) + b.length)]) (fun y => d.Hurt b ∧ badX y)
abbrev keyX : Exc → Prop := fun x => x = ⟨.type "KeyError", [], false, false⟩
theorem sub_K : isSubtype (.type "KeyError") (.type "KeyError") = pure true := by rw [isSubtype_type]; kernel_rfl
theorem sub_KB : isSubtype (.type "KeyError") (.type "BaseException") = pure true := by rw [isSubtype_type]; kernel_rfl
theorem nt_K : isSubtype (.type ((Manifest.find? "KeyError").elim "type" fun x => x.metatype)) (.type "tuple") = pure false := by rw [isSubtype_type]; kernel_rfl
theorem sub_XB : isSubtype (.type "Exception") (.type "BaseException") = pure true := by rw [isSubtype_type]; kernel_rfl
theorem nt_X : isSubtype (.type ((Manifest.find? "Exception").elim "type" fun x => x.metatype)) (.type "tuple") = pure false := by rw [isSubtype_type]; kernel_rfl
theorem excKey : excRel (.type "KeyError") (.type "KeyError") true := .inl ⟨_, _, rfl, rfl, sub_KB, nt_K, sub_K⟩
theorem excBK {c : Value} (h : c = .ref bsonCls) : excRel c (.type "KeyError") false := .inr (.inl ⟨h, _, rfl, sub_KB, nt_K, by decide +kernel⟩)
theorem excBB {c : Value} (h : c = .ref bsonCls) : excRel c (.ref bsonCls) true := .inr (.inr ⟨h, rfl, rfl⟩)
theorem excBX {c : Value} (h : c = .ref bsonCls) : excRel c (.type "Exception") true := .inr (.inl ⟨h, _, rfl, sub_XB, nt_X, by decide +kernel⟩)
/-- a kind that there isn't -/
theorem c_elem_key {kk : UInt8} {d1 d2 d3 d4 d5 d6 : PV} {n : Nat} (h1 : 20 ≤ kk.toNat) (h2 : kk.toNat ≤ 126) : CallOk glF K (n + 1) 1217 [.int (kk.toNat : Nat), d1, d2, d3, d4, d5, d6] (fun _ => False) keyX := by
  refine enter kF_get_element okF_get_element bF_get_element rfl rfl fun C ok Lk L hlw hcw hh => ?_
  dsimp only [List.zip, List.zipWith]
  tbr_iter "go"
  refine T1.raise_key ok hh (L.kind (by kernel_rfl)) (L.gv gl_KeyError) (str_ne (by decide)) rfl ?_
  tbr_iter "go"
  exact ⟨rfl, rfl⟩
end
section
/-- one name and its datum -/
theorem c_elem_dict {data : List UInt8} {p e : Nat} {kk : UInt8} {x : Str} {b b' : List UInt8} {d : Dat} {n : Nat} (hz : data.length ≤ 1000000) (hp : 1 ≤ p) (h : At data p ([kk] ++ (b ++ [0]) ++ b')) (hN : Nm x b) (he : p + b.length + 2 + b'.length ≤ e) (hl : b'.length = d.body.length)
    (hc : (kk = d.kind ∧ (b' = d.body ∨ d.Hurt b')) ∨ (20 ≤ kk.toNat ∧ kk.toNat ≤ 126)) (hn : 2 ≤ n) (H : GE n d) :
    CallOk glF K (n + 1) 1224 [.bytes data, .bytes data, .int p, .int e, opts] (fun r => (kk = d.kind ∧ b' = d.body) ∧ r = .tuple [.str x, d.val, .int ((p : Int) + b.length + 2 + b'.length)]) (fun y => ((d.Hurt b' ∧ kk = d.kind) ∨ 20 ≤ kk.toNat) ∧ badX y) := by
  have hx := hN.xs; have hb := hN.bs
  have hlen := h.len
  simp only [List.length_append, List.length_cons, List.length_nil] at hlen
  have hk : data.getD ((p : Int)).toNat 0 = kk := h.left.left.get (r := []) rfl
  have hname : At data (p + 1) (b ++ [0]) := h.left.right
  have hbody : At data (p + b.length + 2) b' := by
    have := h.right
    simp only [List.length_append, List.length_cons, List.length_nil] at this
    rwa [show p + (0 + 1 + (b.length + (0 + 1))) = p + b.length + 2 by omega] at this
  refine enter kF_element_to_dict okF_element_to_dict bF_element_to_dict rfl rfl fun C ok Lk L hlw hcw hh => ?_
  dsimp only [List.zip, List.zipWith]
  tbr_iter "go"
  rw [hk]
  refine L.go (c_get_c_string (p := p + 1) (n := 1) hz hname hN.nz hN.toTxt (by omega)) hn hh ?_
  rw [show ((p + 1 : Nat) : Int) + b.length + 1 = ((p + b.length + 2 : Nat) : Int) by omega]
  tbr_iter "go"
  refine T1.try ok Lk.fe hh ?_
  tbr_iter "go"
  rcases hc with ⟨rfl, hc⟩ | ⟨hk1, hk2⟩
  · refine L.dn (H data _ e b' x hz (by omega) hbody hc hl (by omega) hx) (Nat.le_refl _) hh (fun r ⟨h1, h2⟩ => ?_) fun y ⟨h1, h2⟩ => ?_
    · subst h2
      tbr_iter "go"
      refine ⟨⟨rfl, h1⟩, ?_⟩
      rw [show ((p + b.length + 2 : Nat) : Int) + b'.length = (p : Int) + b.length + 2 + b'.length by omega]
    · exact ⟨L.kind (by kernel_rfl), str_ne (by decide), _, _, L.gv gl_KeyError, excBK h2, .inl ⟨h1, rfl⟩, h2⟩
  · obtain ⟨m, rfl⟩ : ∃ m, n = m + 1 := ⟨n - 1, by omega⟩
    refine L.dn (c_elem_key (n := m) hk1 hk2) (Nat.le_refl _) hh (fun r z => z.elim) fun y hy => ?_
    subst hy
    refine ⟨L.kind (by kernel_rfl), str_ne (by decide), _, _, L.gv gl_KeyError, excKey, ?_⟩
    intro B a ok' hd
    have L' := L.handling B a _ ok' hd
    tbr_iter "stmt"
    refine T1.expr ok' rfl ?_
    tbr_iter "go"
    exact L'.dn (c_raise_unknown (n := 0) (b := []) (by omega)) (by show 1 ≤ m + 1; omega) ⟨a, _, rfl, hd, rfl⟩ (fun _ z => z.elim) fun y hy => ⟨.inr hk1, hy⟩
theorem T1.setk {C : Cx} {σ : St} {Q : Out → St → Prop} {R : Exc → St → Prop} {x y : Str} {e : Expr} {ks : List Str} {ds : List PV} {k : Str} {p p1 p2 pos : Pos} (ok : C.Ok) (hdx : (x == ("__debug__" : Str)) = false) (hdy : (y == ("__debug__" : Str)) = false) (hs : swapsWith e (some (.Subscript (.Name x p) (.Name y p1) p2)) pos.line C.env = pure false)
    (ho : σ.own = some x) (hn : some x ≠ some y) (e0 : σ.vars.lookup x = some (.dict ks ds)) (e1 : σ.vars.lookup y = some (.str k)) (nd : ks.Nodup) (nk : k ∉ ks) (hz : ks.length ≤ 16777216) (h : TE C e σ (fun d σ₁ => σ₁ = σ ∧ Q .next (σ.put x (.dict (ks ++ [k]) (ds ++ [d])))) R) :
    T1 C (.Assign [.Subscript (.Name x p) (.Name y p1) p2] e pos) σ Q R :=
  T1.setkey ok hdx hdy hs (TE.mono h (fun d σ₁ ⟨q1, q⟩ => by
    subst q1
    refine ⟨ho, by rw [ho]; exact hn, ?_⟩
    rw [e0, e1]
    exact ⟨⟨nd, nk, hz⟩, q⟩) fun _ _ z => z)
/-- the loop over a document's fields: what is known at its head -/
structure EInv (data : List UInt8) (e : Nat) (f : Flds) (oAll : List UInt8) (m : Nat) (σ : St) : Prop where
  st : ∃ (acc : List Itm) (r : Flds) (o : List UInt8) (p : Nat), m = r.items.length ∧ f.items = acc ++ r.items ∧ At data p o ∧ p + o.length = e ∧ 1 ≤ p ∧ o.length = r.octs.length ∧ (o = r.octs ∨ r.Hurt o) ∧ (o = r.octs → oAll = f.octs) ∧ (r.Hurt o → f.Hurt oAll) ∧
    σ.own = some "result" ∧ σ.vars.lookup ("result" : Str) = some (.dict (acc.map (·.1)) (acc.map fun i => i.2.2.val)) ∧ σ.vars.lookup ("position" : Str) = some (.int p)
  dt : σ.vars.lookup ("data" : Str) = some (.bytes data)
  vw : σ.vars.lookup ("view" : Str) = some (.bytes data)
  oe : σ.vars.lookup ("obj_end" : Str) = some (.int e)
  en : σ.vars.lookup ("end" : Str) = some (.int ((e : Int) - 1))
  op : σ.vars.lookup ("opts" : Str) = some opts
theorem octs_pos {x : Str} {b : List UInt8} {d : Dat} {r : Flds} : (Flds.cons x b d r).octs.length = b.length + 2 + d.body.length + r.octs.length := by
  simp only [Flds.octs, List.length_append, List.length_cons, List.length_nil]; omega
/-- a document's fields -/
theorem c_elems_dict {data : List UInt8} {p e : Nat} {f : Flds} {o : List UInt8} {n : Nat} (hz : data.length ≤ 1000000) (hp : 1 ≤ p) (h : At data p o) (he : p + o.length = e) (wf : f.Wf) (nd : f.keys.Nodup) (hl : o.length = f.octs.length)
    (hc : o = f.octs ∨ f.Hurt o) (hn : 3 ≤ n) (H : ∀ i ∈ f.items, GE (n - 1) i.2.2) :
    CallOk glF K (n + 1) 1231 [.bytes data, .bytes data, .int p, .int e, opts] (fun r => o = f.octs ∧ r = .dict f.keys f.vals) (fun y => f.Hurt o ∧ badX y) := by
  have hlen := h.len
  refine enter kF_elements_to_dict okF_elements_to_dict bF_elements_to_dict rfl rfl fun C ok Lk L hlw hcw hh => ?_
  dsimp only [List.zip, List.zipWith]
  tbr_iter "go"
  refine T1.while ok Lk.fe (EInv data e f o) f.items.length ⟨⟨[], f, o, p, rfl, rfl, h, he, hp, hl, hc, id, id, rfl, (show _ = some (PV.dict [] []) by tbr_iter "lk"), by tbr_iter "lk"⟩, by tbr_iter "lk", by tbr_iter "lk", by tbr_iter "lk", by tbr_iter "lk", by tbr_iter "lk"⟩ ?_
  intro m σ ⟨⟨acc, r, o', p', hm, hf, hat, hpe, hp1, hol, hor, hgood, hbad, hown, hres, hpos⟩, hdt, hvw, hoe, hen, hop⟩
  have hlen' := hat.len
  cases r with
  | nil =>
    have ho' : o' = [] := by simpa [Flds.octs] using hol
    subst ho'
    simp only [List.length_nil] at hpe
    tbr_iter "go"
    refine ⟨hgood rfl, ?_⟩
    rw [f.vals_eq]
    unfold Flds.keys
    rw [hf]
    simp [Flds.items]
  | cons x b d r =>
    obtain ⟨kk, b', o₂, rfl, hl1, hl2, hcase, hkeep, hhurt⟩ := split_cons hor
    have hwf : ∀ i ∈ acc ++ (Flds.cons x b d r).items, Nm i.1 i.2.1 ∧ i.2.2.Wf := fun i hi => f.wf_item wf (hf ▸ hi)
    have hN : Nm x b := (hwf (x, b, d) (by simp [Flds.items])).1
    have hHd : GE (n - 1) d := H (x, b, d) (by rw [hf]; simp [Flds.items])
    have hx := hN.xs
    simp only [List.length_append, List.length_cons, List.length_nil] at hpe hlen'
    have hnk : x ∉ acc.map (·.1) := by
      have : (acc.map (·.1) ++ (Flds.cons x b d r).items.map (·.1)).Nodup := by
        have := nd
        unfold Flds.keys at this
        rwa [hf, List.map_append] at this
      exact fun hx => (List.nodup_append.mp this).2.2 x hx x (by simp [Flds.items]) rfl
    have hnd : (acc.map (·.1)).Nodup := by
      have := nd
      unfold Flds.keys at this
      rw [hf, List.map_append] at this
      exact (List.nodup_append.mp this).1
    have hacc : acc.length ≤ 1000000 := by
      have := items_len f
      rw [hf] at this
      simp at this
      omega
    have hright : At data (p' + b.length + 2 + b'.length) o₂ := by
      have := hat.right
      simp only [List.length_append, List.length_cons, List.length_nil] at this
      rwa [show p' + (0 + 1 + (b.length + (0 + 1)) + b'.length) = p' + b.length + 2 + b'.length by omega] at this
    tbr_iter "go"
    refine L.dn (c_elem_dict (n := n - 1) (d := d) hz hp1 hat.left hN (by omega) hl1 hcase (by omega) hHd) (by show n - 1 + 1 ≤ n; omega) hh (fun v ⟨⟨h1, h2⟩, h3⟩ => ?_) (fun y ⟨h1, h2⟩ => ⟨hbad (hhurt h1), h2⟩)
    subst h3
    obtain ⟨hc2, hg2, hb2⟩ := hkeep h1 h2
    tbr_iter "go"
    refine T1.setk ok (str_ne (by decide)) (str_ne (by decide)) rfl (ks := acc.map (·.1)) (ds := acc.map fun i => i.2.2.val) (k := x) hown (some_ne (str_ne (by decide))) (by tbr_iter "lk") (by tbr_iter "lk") hnd hnk (by rw [List.length_map]; omega) ?_
    tbr_iter "go"
    refine ⟨r.items.length, by rw [hm]; simp [Flds.items], ⟨⟨acc ++ [(x, b, d)], r, o₂, p' + b.length + 2 + b'.length, rfl, by rw [hf]; simp [Flds.items], hright, by omega, by omega, hl2, hc2, fun e => hgood (hg2 e), fun e => hbad (hb2 e), hown, ?_, ?_⟩, by tbr_iter "lk", by tbr_iter "lk", by tbr_iter "lk", by tbr_iter "lk", by tbr_iter "lk"⟩⟩
    · rw [List.map_append, List.map_append]
      exact hit
    · rw [show (((p' + b.length + 2 + b'.length : Nat) : Int)) = (p' : Int) + b.length + 2 + b'.length by omega]
      tbr_iter "lk"
end
section
theorem wrap_cases {f : Flds} {w : List UInt8} (h : w = wrapO f.octs ∨ HurtW f.octs f.Hurt w) : ∃ o c, w = wrapX o c ∧ o.length = f.octs.length ∧ (o = f.octs ∨ f.Hurt o) ∧ (c = 0 → o = f.octs → w = wrapO f.octs) ∧ (c ≠ 0 → HurtW f.octs f.Hurt w) ∧ (c = 0 → f.Hurt o → HurtW f.octs f.Hurt w) := by
  rcases h with rfl | ⟨c, hc, rfl⟩ | ⟨o, ho, hl, rfl⟩
  · exact ⟨f.octs, 0, rfl, rfl, .inl rfl, fun _ _ => rfl, fun z => absurd rfl z, fun _ h => .inr ⟨f.octs, h, rfl, rfl⟩⟩
  · exact ⟨f.octs, c, rfl, rfl, .inl rfl, fun z => absurd z hc, fun _ => .inl ⟨c, hc, rfl⟩, fun z => absurd z hc⟩
  · exact ⟨o, 0, rfl, hl, .inr ho, fun _ e => by rw [e], fun z => absurd rfl z, fun _ h => .inr ⟨o, h, hl, rfl⟩⟩
theorem wrap_mid {D o : List UInt8} {c : UInt8} {p : Nat} (h : At D p (wrapX o c)) : At D (p + 4) (o ++ [c]) := by
  have : At D p (low4 ((o.length : Int) + 5) ++ (o ++ [c])) := by
    unfold wrapX at h
    rwa [List.append_assoc] at h
  have := this.right
  rwa [low4, KTBy.low_length] at this
theorem ref_not {f : Flds} (h : f.Wf) : Str.ofString "$ref" ∉ f.keys := fun m => by
  simp only [Flds.keys, List.mem_map] at m
  obtain ⟨i, m, e⟩ := m
  exact (f.wf_item h m).1.ref e
/-- a document within another -/
theorem c_get_object {data : List UInt8} {p e : Nat} {f : Flds} {w : List UInt8} {x : Str} {n : Nat} (hz : data.length ≤ 1000000) (hp : 1 ≤ p) (h : At data p w) (hc : w = wrapO f.octs ∨ HurtW f.octs f.Hurt w) (he : p + w.length ≤ e) (wf : f.Wf) (nd : f.keys.Nodup) (hn : 4 ≤ n) (H : ∀ i ∈ f.items, GE (n - 2) i.2.2) :
    CallOk glF K (n + 1) 1126 [.bytes data, .bytes data, .int p, .int e, opts, .str x] (fun r => w = wrapO f.octs ∧ r = .tuple [.dict f.keys f.vals, .int ((p : Int) + w.length)]) (fun y => HurtW f.octs f.Hurt w ∧ badX y) := by
  obtain ⟨o, c, rfl, hl, hc1, hgood, hb1, hb2⟩ := wrap_cases hc
  have hlen := h.len
  rw [wrapX_len] at hlen he
  have hm := wrap_mid h
  have href := ref_not wf
  refine enter kF_get_object okF_get_object bF_get_object rfl rfl fun C ok Lk L hlw hcw hh => ?_
  dsimp only [List.zip, List.zipWith]
  tbr_iter "go"
  refine L.dn (c_object_size (n := 2) hz h (by omega) (by omega) (by omega)) (by show 3 ≤ n; omega) hh (fun v ⟨h1, h2⟩ => ?_) (fun y ⟨h1, h2⟩ => ⟨hb1 h1, h2⟩)
  subst h1 h2
  rw [show (p : Int) + o.length + 4 = ((p + 4 + o.length : Nat) : Int) by omega]
  tbr_iter "go"
  refine L.dn (c_elems_dict (p := p + 4) (n := n - 1) hz (by omega) hm.left rfl wf nd hl hc1 (by omega) H) (by show n - 1 + 1 ≤ n; omega) hh (fun v ⟨h1, h2⟩ => ?_) (fun y ⟨h1, h2⟩ => ⟨hb2 rfl h1, h2⟩)
  subst h1 h2
  tbr_iter "go"
  refine ⟨⟨nd, href⟩, ?_⟩
  tbr_iter "go"
  refine ⟨hgood rfl rfl, ?_⟩
  rw [wrapX_len, show (p : Int) + ((f.octs.length : Int) + 5) = (p : Int) + ((f.octs.length + 5 : Nat) : Int) by omega]
/-- code -/
theorem c_get_code {data : List UInt8} {p e : Nat} {x : Str} {b : List UInt8} {c : UInt8} {d : PV} {n : Nat} (hz : data.length ≤ 1000000) (h : At data p (strX b c)) (ht : Txt x b) (he : p + b.length + 5 ≤ e) (hn : 3 ≤ n) :
    CallOk glF K (n + 1) 1168 [.bytes data, .bytes data, .int p, .int e, opts, d] (fun r => c = 0 ∧ r = .tuple [.code x .none, .int ((p : Int) + b.length + 5)]) (fun x => c ≠ 0 ∧ badX x) := by
  refine enter kF_get_code okF_get_code bF_get_code rfl rfl fun C ok Lk L hlw hcw hh => ?_
  dsimp only [List.zip, List.zipWith]
  tbr_iter "go"
  refine L.dn (c_get_string (n := 2) hz h ht he (by omega)) hn hh (fun v ⟨h1, h2⟩ => ?_) (fun y hy => hy)
  subst h1 h2
  tbr_iter "go"
  refine TC.code L hh (by show 2 ≤ n; omega) (.inl ⟨rfl, rfl⟩) ?_
  tbr_iter "go"
/-- code with a scope -/
theorem c_get_code_w {data : List UInt8} {p : Nat} {ee : PV} {f : Flds} {b : List UInt8} {x : Str} {n : Nat} (hz : data.length ≤ 1000000) (hp : 1 ≤ p) (h : At data p b) (hc : b = (Dat.scd f).body ∨ (Dat.scd f).Hurt b) (wf : f.Wf) (nd : f.keys.Nodup) (hs : f.octs.length ≤ 1000000) (hn : 5 ≤ n) (H : ∀ i ∈ f.items, GE (n - 3) i.2.2) :
    CallOk glF K (n + 1) 1175 [.bytes data, .bytes data, .int p, ee, opts, .str x] (fun r => b = (Dat.scd f).body ∧ r = .tuple [(Dat.scd f).val, .int ((p : Int) + b.length)]) (fun y => (Dat.scd f).Hurt b ∧ badX y) := by
  obtain ⟨c, w, rfl, hw, hwl, hg, hb1, hb2⟩ : ∃ c w, b = low4 ((f.octs.length : Int) + 15) ++ (strX [102] c ++ w) ∧ (w = wrapO f.octs ∨ HurtW f.octs f.Hurt w) ∧ w.length = f.octs.length + 5 ∧ (c = 0 → w = wrapO f.octs → b = (Dat.scd f).body) ∧ (c ≠ 0 → (Dat.scd f).Hurt b) ∧ (c = 0 → HurtW f.octs f.Hurt w → (Dat.scd f).Hurt b) := by
    rcases hc with rfl | hc
    · refine ⟨0, wrapO f.octs, rfl, .inl rfl, wrap_len _, fun _ _ => rfl, fun z => absurd rfl z, fun _ h => ?_⟩
      simp only [Dat.Hurt]
      exact .inr ⟨_, h, wrap_len _, rfl⟩
    · have hc' := hc
      simp only [Dat.Hurt] at hc
      rcases hc with ⟨c, h0, rfl⟩ | ⟨w, h1, h2, rfl⟩
      · exact ⟨c, wrapO f.octs, rfl, .inl rfl, wrap_len _, fun z => absurd z h0, fun _ => hc', fun z => absurd z h0⟩
      · exact ⟨0, w, rfl, .inr h1, h2, fun _ e => by subst e; rfl, fun z => absurd rfl z, fun _ _ => hc'⟩
  have hlen := h.len
  have h4 := h.left
  have h4l : (low4 ((f.octs.length : Int) + 15)).length = 4 := KTBy.low_length _ _
  have hsx : (strX [102] c).length = 6 := strX_len _ _
  have h2 := h.right
  rw [h4l] at h2
  have h3 := h2.right
  rw [hsx] at h3
  simp only [List.length_append, h4l, hsx, hwl] at hlen
  have ft : Txt fName [102] := ⟨f_txt, ⟨by decide, .inr ⟨_, _, 1, rfl, fun id => by kernel_rfl⟩⟩, by decide, by decide⟩
  refine enter kF_get_code_w_scope okF_get_code_w_scope bF_get_code_w_scope rfl rfl fun C ok Lk L hlw hcw hh => ?_
  dsimp only [List.zip, List.zipWith]
  tbr_iter "go"
  refine L.go (c_unpack_int (n := 1) (by omega) (by omega) (by omega)) (by show 2 ≤ n; omega) hh ?_
  rw [h4.four (by omega) (by omega)]
  tbr_iter "go"
  refine L.dn (c_get_string (p := p + 4) (e := p + f.octs.length + 15) (n := 2) hz h2.left ft (by simp; omega) (by omega)) (by show 3 ≤ n; omega) hh (fun v ⟨g1, g2⟩ => ?_) (fun y hy => ⟨hb1 hy.1, hy.2⟩)
  subst g1 g2
  rw [show ((p + 4 : Nat) : Int) + (([102] : List UInt8).length : Int) + 5 = ((p + 4 + 6 : Nat) : Int) by simp; omega]
  tbr_iter "go"
  rw [show (p : Int) + ((f.octs.length : Int) + 15) = ((p + f.octs.length + 15 : Nat) : Int) by omega]
  refine L.dn (c_get_object (n := n - 1) hz (by omega) h3 hw (by omega) wf nd (by omega) (by rw [show n - 1 - 2 = n - 3 by omega]; exact H)) (by show n - 1 + 1 ≤ n; omega) hh (fun v ⟨g1, g2⟩ => ?_) (fun y hy => ⟨hb2 rfl hy.1, hy.2⟩)
  subst g2
  rw [hwl, show ((p + 4 + 6 : Nat) : Int) + ((f.octs.length + 5 : Nat) : Int) = ((p + f.octs.length + 15 : Nat) : Int) by omega]
  tbr_iter "go"
  refine TC.code L hh (by show 2 ≤ n; omega) (.inr ⟨_, _, rfl, rfl⟩) ?_
  tbr_iter "go"
  refine ⟨hg rfl g1, ?_⟩
  have e : (low4 ((f.octs.length : Int) + 15) ++ (strX [102] 0 ++ w)).length = f.octs.length + 15 := by
    simp only [List.length_append, h4l, hsx, hwl]; omega
  rw [e, show (p : Int) + ((f.octs.length + 15 : Nat) : Int) = ((p + f.octs.length + 15 : Nat) : Int) by omega]
  rfl
/-- the loop over a row -/
structure AInv (data : List UInt8) (q e : Nat) (f : Flds) (oAll : List UInt8) (x : Str) (m : Nat) (σ : St) : Prop where
  st : ∃ (acc : List Itm) (r : Flds) (o : List UInt8) (p : Nat), m = r.items.length ∧ f.items = acc ++ r.items ∧ At data p o ∧ p + o.length = q ∧ 1 ≤ p ∧ o.length = r.octs.length ∧ (o = r.octs ∨ r.Hurt o) ∧ (o = r.octs → oAll = f.octs) ∧ (r.Hurt o → f.Hurt oAll) ∧
    σ.own = some "result" ∧ σ.vars.lookup ("result" : Str) = some (.list (acc.map fun i => i.2.2.val)) ∧ σ.vars.lookup ("position" : Str) = some (.int p)
  dt : σ.vars.lookup ("data" : Str) = some (.bytes data)
  vw : σ.vars.lookup ("view" : Str) = some (.bytes data)
  oe : σ.vars.lookup ("obj_end" : Str) = some (.int e)
  en : σ.vars.lookup ("end" : Str) = some (.int ((q : Int) - 1))
  op : σ.vars.lookup ("opts" : Str) = some opts
  nm : σ.vars.lookup ("element_name" : Str) = some (.str x)
theorem kind_nz (d : Dat) : d.kind ≠ 0 := by cases d <;> simp [Dat.kind]
/-- a row -/
theorem c_get_array {data : List UInt8} {p e : Nat} {f : Flds} {w : List UInt8} {x : Str} {n : Nat} (hz : data.length ≤ 1000000) (hp : 1 ≤ p) (h : At data p w) (hc : w = wrapO f.octs ∨ HurtW f.octs f.Hurt w) (he : p + w.length ≤ e) (wf : f.Wf) (hx : x.length ≤ 100) (hn : 3 ≤ n) (H : ∀ i ∈ f.items, GE n i.2.2) :
    CallOk glF K (n + 1) 1133 [.bytes data, .bytes data, .int p, .int e, opts, .str x] (fun r => w = wrapO f.octs ∧ r = .tuple [.list f.vals, .int ((p : Int) + w.length)]) (fun y => HurtW f.octs f.Hurt w ∧ badX y) := by
  obtain ⟨o, c, rfl, hl, hc1, hgood, hb1, hb2⟩ := wrap_cases hc
  have hlen := h.len
  rw [wrapX_len] at hlen he
  have hm := wrap_mid h
  have h4 : At data p (low4 ((o.length : Int) + 5)) := h.left.left
  have hcc : ((data.getD ((p : Int) + ((o.length : Int) + 5) - 1).toNat 0).toNat : Int) = c.toNat := get_p h (wrapX_nth o c) (by omega)
  refine enter kF_get_array okF_get_array bF_get_array rfl rfl fun C ok Lk L hlw hcw hh => ?_
  dsimp only [List.zip, List.zipWith]
  tbr_iter "go"
  refine L.go (c_unpack_int (n := 1) (by omega) (by omega) (by omega)) (by show 2 ≤ n; omega) hh ?_
  rw [h4.four (by omega) (by omega)]
  tbr_iter "go"
  rw [hcc]
  rcases (Decidable.em (c = 0)).symm with h0 | h0
  · rw [ne0 h0]
    tbr_iter "go"
    exact ⟨hb1 h0, rfl⟩
  subst h0
  tbr_iter "go"
  refine T1.while ok Lk.fe (AInv data (p + 4 + o.length) e f o x) f.items.length ⟨⟨[], f, o, p + 4, rfl, rfl, hm.left, rfl, by omega, hl, hc1, id, id, rfl, (show _ = some (PV.list []) by tbr_iter "lk"), (show _ = some (PV.int ((p + 4 : Nat) : Int)) by rw [show ((p + 4 : Nat) : Int) = (p : Int) + 4 by omega]; tbr_iter "lk")⟩, by tbr_iter "lk", by tbr_iter "lk", by tbr_iter "lk",
    (by rw [show ((p + 4 + o.length : Nat) : Int) - 1 = (p : Int) + ((o.length : Int) + 5) - 1 - 1 by omega]; tbr_iter "lk"), by tbr_iter "lk", by tbr_iter "lk"⟩ ?_
  intro m σ ⟨⟨acc, r, o', p', hm, hf, hat, hpe, hp1, hol, hor, hg', hb', hown, hres, hpos⟩, hdt, hvw, hoe, hen, hop, hnm⟩
  have hlen' := hat.len
  cases r with
  | nil =>
    have ho' : o' = [] := by simpa [Flds.octs] using hol
    subst ho'
    simp only [List.length_nil] at hpe
    tbr_iter "go"
    refine ⟨hgood rfl (hg' rfl), ?_⟩
    rw [wrapX_len, f.vals_eq, hf, show (p : Int) + ((o.length + 5 : Nat) : Int) = (p' : Int) + 1 by omega]
    simp [Flds.items]
  | cons y b d r =>
    obtain ⟨kk, b', o₂, rfl, hl1, hl2, hcase, hkeep, hhurt⟩ := split_cons hor
    have hwf : ∀ i ∈ acc ++ (Flds.cons y b d r).items, Nm i.1 i.2.1 ∧ i.2.2.Wf := fun i hi => f.wf_item wf (hf ▸ hi)
    have hN : Nm y b := (hwf (y, b, d) (by simp [Flds.items])).1
    have hHd : GE n d := H (y, b, d) (by rw [hf]; simp [Flds.items])
    simp only [List.length_append, List.length_cons, List.length_nil] at hpe hlen'
    have hacc : acc.length ≤ 1000000 := by
      have := items_len f
      rw [hf] at this
      simp at this
      omega
    have hk : data.getD ((p' : Int)).toNat 0 = kk := hat.left.left.left.get (r := []) rfl
    have hkz : kk ≠ 0 := by
      rcases hcase with ⟨rfl, _⟩ | ⟨h1, _⟩
      · exact kind_nz d
      · intro z; rw [z] at h1; exact absurd h1 (by decide)
    have hnul : At data p' ((kk :: b) ++ [0]) := by
      have := hat.left.left
      rwa [← List.append_assoc] at this
    have hbody : At data (p' + b.length + 2) b' := by
      have := hat.left.right
      simp only [List.length_append, List.length_cons, List.length_nil] at this
      rwa [show p' + (0 + 1 + (b.length + (0 + 1))) = p' + b.length + 2 by omega] at this
    have hright : At data (p' + b.length + 2 + b'.length) o₂ := by
      have := hat.right
      simp only [List.length_append, List.length_cons, List.length_nil] at this
      rwa [show p' + (0 + 1 + (b.length + (0 + 1)) + b'.length) = p' + b.length + 2 + b'.length by omega] at this
    tbr_iter "go"
    rw [hk]
    refine L.go (c_index_nul (n := 0) hz hnul (fun c m => by
      rcases List.mem_cons.mp m with rfl | m
      · exact hkz
      · exact hN.nz c m)) (by show 1 ≤ n; omega) hh ?_
    rw [show (p' : Int) + ((kk :: b).length : Int) = ((p' + b.length + 1 : Nat) : Int) by simp; omega]
    tbr_iter "go"
    rw [show ((p' + b.length + 1 : Nat) : Int) + 1 = ((p' + b.length + 2 : Nat) : Int) by omega]
    refine T1.try ok Lk.fe hh ?_
    tbr_iter "go"
    rcases hcase with ⟨rfl, hcs⟩ | ⟨hk1, hk2⟩
    · refine L.dn (hHd data _ e b' x hz (by omega) hbody hcs hl1 (by omega) hx) (Nat.le_refl _) hh (fun v ⟨h1, h2⟩ => ?_) fun y ⟨h1, h2⟩ => ?_
      · subst h2
        obtain ⟨hc2, hg2, hb2⟩ := hkeep rfl h1
        tbr_iter "go"
        refine T1.app (ds := acc.map fun i => i.2.2.val) ok (by tbr_iter "lk") (by exact hown) (str_ne (by decide)) rfl rfl (by rw [List.length_map]; omega) fun X h' => ?_
        have L2 := L.still X h'
        tbr_iter "go"
        refine ⟨r.items.length, by rw [hm]; simp [Flds.items], ⟨⟨acc ++ [(y, b, d)], r, o₂, p' + b.length + 2 + b'.length, rfl, by rw [hf]; simp [Flds.items], hright, by omega, by omega, hl2, hc2, fun e => hg' (hg2 e), fun e => hb' (hb2 e), hown, ?_, ?_⟩, by tbr_iter "lk", by tbr_iter "lk", by tbr_iter "lk", by tbr_iter "lk", by tbr_iter "lk", by tbr_iter "lk"⟩⟩
        · rw [List.map_append]
          exact hit
        · rw [show (((p' + b.length + 2 + b'.length : Nat) : Int)) = ((p' + b.length + 2 : Nat) : Int) + b'.length by omega]
          tbr_iter "lk"
      · exact ⟨L.kind (by kernel_rfl), str_ne (by decide), _, _, L.gv gl_KeyError, excBK h2, hb2 rfl (hb' (hhurt (.inl ⟨h1, rfl⟩))), h2⟩
    · obtain ⟨m, rfl⟩ : ∃ m, n = m + 1 := ⟨n - 1, by omega⟩
      refine L.dn (c_elem_key (n := m) hk1 hk2) (Nat.le_refl _) hh (fun r z => z.elim) fun y hy => ?_
      subst hy
      refine ⟨L.kind (by kernel_rfl), str_ne (by decide), _, _, L.gv gl_KeyError, excKey, ?_⟩
      intro B a ok' hd
      have L' := L.handling B a _ ok' hd
      tbr_iter "stmt"
      refine T1.expr ok' rfl ?_
      tbr_iter "go"
      exact L'.dn (c_raise_unknown (n := 0) (b := []) (by omega)) (by show 1 ≤ m + 1; omega) ⟨a, _, rfl, hd, rfl⟩ (fun _ z => z.elim) fun y hy => ⟨hb2 rfl (hb' (hhurt (.inr hk1))), hy⟩
end
section
abbrev gN (k : Nat) : Nat := 5 * k + 6
set_option maxHeartbeats 4000000 in
theorem w_element {k : Nat} (IH : ∀ d : Dat, d.dep < k → d.Wf → GE (gN (k - 1)) d) (d : Dat) (hk : d.dep ≤ k) (wf : d.Wf) {data : List UInt8} {p e : Nat} {b : List UInt8} {x : Str} (hz : data.length ≤ 1000000) (hp : 1 ≤ p) (h : At data p b) (hc : b = d.body ∨ d.Hurt b) (hbl : b.length = d.body.length) (he : p + b.length ≤ e) (hx : x.length ≤ 100)
    {C : Cx} (ok : C.Ok) (Lk : Lk glF K C ⟨F_get_element.scope.names, 5 * k + 5, none⟩) (L : Lg C ⟨F_get_element.scope.names, 5 * k + 5, none⟩) (hlw : C.lw = true) (_hcw : C.cw = true) (hh : C.hd = none) (body : List Stmt) (hb : F_get_element.body = .stmts body) :
    TS C body ⟨[("element_type", .int (d.kind.toNat : Nat)), ("data", .bytes data), ("view", .bytes data), ("position", .int p), ("obj_end", .int e), ("opts", opts), ("element_name", .str x)], none⟩ (fun o _ => b = d.body ∧ retOf o = .tuple [d.val, .int ((p : Int) + b.length)]) fun y _ => d.Hurt b ∧ badX y := by
  obtain rfl : _ = body := FuncBody.stmts.inj hb
  clear hb
  have items : ∀ (f : Flds), f.dep < k → f.Wf → ∀ i ∈ f.items, GE (gN (k - 1)) i.2.2 := fun f hf wf i hm => IH i.2.2 (by have := Flds.dep_item hm; omega) (f.wf_item wf hm).2
  cases d with
  | nul =>
    simp only [Dat.body, List.length_nil] at hbl
    obtain rfl : b = [] := List.length_eq_zero_iff.mp hbl
    simp only [Dat.kind]
    tbr_iter "go"
    simp [Dat.body, Dat.val]
  | num i =>
    simp only [Dat.Wf] at wf
    simp only [Dat.Hurt, or_false] at hc
    simp only [Dat.kind, Dat.body, Dat.val] at *
    subst hc
    tbr_iter "go"
    refine L.go (c_get_int (n := 2) hz h wf.1 wf.2 (by omega)) (by show 3 ≤ 5 * k + 5; omega) hh ?_
    simp only [retOf, low4, KTBy.low_length]
    exact ⟨trivial, rfl⟩
  | tru v =>
    simp only [Dat.kind, Dat.body, Dat.val] at *
    match b, hbl with
    | [c], _ =>
      tbr_iter "go"
      refine L.dn (c_get_boolean (n := 0) hz h) (by show 1 ≤ 5 * k + 5; omega) hh (fun r ⟨v', h1, h2⟩ => ?_) fun y ⟨h1, h2, h3⟩ => ⟨⟨c, h1, h2, rfl⟩, h3⟩
      subst h1 h2
      rcases hc with hc | ⟨c, h1, h2, h3⟩
      · have : v' = v := by cases v <;> cases v' <;> simp at hc <;> rfl
        subst this
        exact ⟨rfl, rfl⟩
      · cases v' <;> simp at h3 <;> simp [← h3] at h1 h2
  | txt t tb =>
    simp only [Dat.Wf] at wf
    obtain ⟨c, rfl, hg, hbd⟩ : ∃ c, b = strX tb c ∧ (c = 0 → b = (Dat.txt t tb).body) ∧ (c ≠ 0 → (Dat.txt t tb).Hurt b) := by
      rcases hc with rfl | hc
      · exact ⟨0, rfl, fun _ => rfl, fun z => absurd rfl z⟩
      · have hc' := hc
        simp only [Dat.Hurt] at hc
        obtain ⟨c, h0, rfl⟩ := hc
        exact ⟨c, rfl, fun z => absurd z h0, fun _ => hc'⟩
    rw [strX_len] at he
    simp only [Dat.kind, Dat.val]
    tbr_iter "go"
    refine L.dn (c_get_string (n := 2) hz h wf (by omega) (by omega)) (by show 3 ≤ 5 * k + 5; omega) hh (fun r ⟨h1, h2⟩ => ?_) fun y ⟨h1, h2⟩ => ⟨hbd h1, h2⟩
    subst h2
    refine ⟨hg h1, ?_⟩
    rw [strX_len, show (p : Int) + tb.length + 5 = (p : Int) + ((tb.length + 5 : Nat) : Int) by omega]
  | cod t tb =>
    simp only [Dat.Wf] at wf
    obtain ⟨c, rfl, hg, hbd⟩ : ∃ c, b = strX tb c ∧ (c = 0 → b = (Dat.cod t tb).body) ∧ (c ≠ 0 → (Dat.cod t tb).Hurt b) := by
      rcases hc with rfl | hc
      · exact ⟨0, rfl, fun _ => rfl, fun z => absurd rfl z⟩
      · have hc' := hc
        simp only [Dat.Hurt] at hc
        obtain ⟨c, h0, rfl⟩ := hc
        exact ⟨c, rfl, fun z => absurd z h0, fun _ => hc'⟩
    rw [strX_len] at he
    simp only [Dat.kind, Dat.val]
    tbr_iter "go"
    refine L.dn (c_get_code (n := 3) hz h wf (by omega) (by omega)) (by show 4 ≤ 5 * k + 5; omega) hh (fun r ⟨h1, h2⟩ => ?_) fun y ⟨h1, h2⟩ => ⟨hbd h1, h2⟩
    subst h2
    refine ⟨hg h1, ?_⟩
    rw [strX_len, show (p : Int) + tb.length + 5 = (p : Int) + ((tb.length + 5 : Nat) : Int) by omega]
  | row f =>
    simp only [Dat.dep] at hk
    simp only [Dat.Wf] at wf
    have hc2 : b = wrapO f.octs ∨ HurtW f.octs f.Hurt b := by
      simp only [Dat.body, Dat.Hurt] at hc
      exact hc
    simp only [Dat.kind, Dat.body, Dat.val, Dat.Hurt]
    tbr_iter "go"
    refine L.dn (c_get_array (n := gN (k - 1)) hz hp h hc2 he wf.1 hx (by show 3 ≤ 5 * (k - 1) + 6; omega) (items f (by omega) wf.1)) (by show 5 * (k - 1) + 6 + 1 ≤ 5 * k + 5; omega) hh (fun r ⟨h1, h2⟩ => ⟨h1, h2⟩) fun y hy => hy
  | doc f =>
    simp only [Dat.dep] at hk
    simp only [Dat.Wf] at wf
    have hc2 : b = wrapO f.octs ∨ HurtW f.octs f.Hurt b := by
      simp only [Dat.body, Dat.Hurt] at hc
      exact hc
    simp only [Dat.kind, Dat.body, Dat.val, Dat.Hurt]
    tbr_iter "go"
    refine L.dn (c_get_object (n := gN (k - 1) + 2) hz hp h hc2 he wf.1 wf.2.1 (by show 4 ≤ 5 * (k - 1) + 6 + 2; omega) (by rw [Nat.add_sub_cancel]; exact items f (by omega) wf.1)) (by show 5 * (k - 1) + 6 + 2 + 1 ≤ 5 * k + 5; omega) hh (fun r ⟨h1, h2⟩ => ⟨h1, h2⟩) fun y hy => hy
  | scd f =>
    simp only [Dat.dep] at hk
    have wf2 := wf
    simp only [Dat.Wf] at wf
    simp only [Dat.kind]
    tbr_iter "go"
    refine L.dn (c_get_code_w (n := gN (k - 1) + 3) hz hp h hc wf.1 wf.2.1 wf.2.2 (by show 5 ≤ 5 * (k - 1) + 6 + 3; omega) (by rw [Nat.add_sub_cancel]; exact items f (by omega) wf.1)) (by show 5 * (k - 1) + 6 + 3 + 1 ≤ 5 * k + 5; omega) hh (fun r ⟨h1, h2⟩ => ⟨h1, h2⟩) fun y hy => hy
theorem c_element_dec : ∀ (k : Nat) (d : Dat), d.dep ≤ k → d.Wf → GE (gN k) d
  | k, d, hk, wf => fun data p e b x hz hp h hc hbl he hx =>
    enter (n := 5 * k + 5) kF_get_element okF_get_element bF_get_element rfl rfl fun C ok Lk L hlw hcw hh =>
      w_element (k := k) (fun d' hd wf' => c_element_dec (k - 1) d' (by omega) wf') d hk wf hz hp h hc hbl he hx ok Lk L hlw hcw hh _ rfl
  termination_by k => k
  decreasing_by omega
end
section
theorem okFdecode : FdOk Fdecode ["data", "codec_options"] := ⟨by kernel_rfl, by kernel_rfl, by kernel_rfl, by kernel_rfl, by kernel_rfl, by kernel_rfl, by kernel_rfl, by decide, fun _ => by kernel_rfl⟩
theorem okFdecode_all : FdOk Fdecode_all ["data", "codec_options"] := ⟨by kernel_rfl, by kernel_rfl, by kernel_rfl, by kernel_rfl, by kernel_rfl, by kernel_rfl, by kernel_rfl, by decide, fun _ => by kernel_rfl⟩
theorem okFencode : FdOk Fencode ["document", "check_keys", "codec_options"] := ⟨by kernel_rfl, by kernel_rfl, by kernel_rfl, by kernel_rfl, by kernel_rfl, by kernel_rfl, by kernel_rfl, by decide, fun _ => by kernel_rfl⟩
theorem strX_inj {b : List UInt8} {c c' : UInt8} (h : strX b c = strX b c') : c = c' := by
  unfold strX at h
  have := List.append_cancel_left h
  have := List.append_cancel_left this
  simpa using this
theorem wrapX_inj {o o' : List UInt8} {c c' : UInt8} (hl : o.length = o'.length) (h : wrapX o c = wrapX o' c') : o = o' ∧ c = c' := by
  unfold wrapX at h
  rw [hl, List.append_assoc, List.append_assoc] at h
  have := List.append_cancel_left h
  obtain ⟨h1, h2⟩ := List.append_inj this hl
  exact ⟨h1, by simpa using h2⟩
mutual
theorem hurt_ne : ∀ (d : Dat) (b : List UInt8), d.Hurt b → b ≠ d.body
  | .nul, b, h => by simp [Dat.Hurt] at h
  | .num _, b, h => by simp [Dat.Hurt] at h
  | .tru v, b, h => by
    simp only [Dat.Hurt] at h
    obtain ⟨c, h0, h1, rfl⟩ := h
    simp only [Dat.body]
    cases v <;> simp [h0, h1]
  | .txt x t, b, h => by
    simp only [Dat.Hurt] at h
    obtain ⟨c, h0, rfl⟩ := h
    exact fun e => h0 (strX_inj e)
  | .cod x t, b, h => by
    simp only [Dat.Hurt] at h
    obtain ⟨c, h0, rfl⟩ := h
    exact fun e => h0 (strX_inj e)
  | .row f, b, h => by
    simp only [Dat.Hurt] at h
    rcases h with ⟨c, h0, rfl⟩ | ⟨o, ho, hl, rfl⟩
    · exact fun e => h0 (wrapX_inj rfl e).2
    · exact fun e => hurt_neF f o ho (wrapX_inj hl e).1
  | .doc f, b, h => by
    simp only [Dat.Hurt] at h
    rcases h with ⟨c, h0, rfl⟩ | ⟨o, ho, hl, rfl⟩
    · exact fun e => h0 (wrapX_inj rfl e).2
    · exact fun e => hurt_neF f o ho (wrapX_inj hl e).1
  | .scd f, b, h => by
    simp only [Dat.Hurt] at h
    simp only [Dat.body]
    rcases h with ⟨c, h0, rfl⟩ | ⟨w, hw, hl, rfl⟩
    · intro e
      have e1 := List.append_cancel_left e
      exact h0 (strX_inj (List.append_inj e1 (by rw [strX_len, str_len])).1)
    · intro e
      have e1 := List.append_cancel_left (List.append_cancel_left e)
      rcases hw with ⟨c, h0, rfl⟩ | ⟨o, ho, hl2, rfl⟩
      · exact h0 (wrapX_inj rfl e1).2
      · exact hurt_neF f o ho (wrapX_inj hl2 e1).1
theorem hurt_neF : ∀ (f : Flds) (o : List UInt8), f.Hurt o → o ≠ f.octs
  | .nil, o, h => by simp [Flds.Hurt] at h
  | .cons x b d r, o, h => by
    simp only [Flds.Hurt] at h
    simp only [Flds.octs]
    rcases h with ⟨k, h1, h2, rfl⟩ | ⟨b', hb, hl, rfl⟩ | ⟨o', ho, hl, rfl⟩
    · intro e
      have hk := kind_lt d
      simp only [List.append_assoc, List.cons_append, List.nil_append, List.cons.injEq] at e
      rw [e.1] at h1
      omega
    · intro e
      have e1 := List.append_cancel_right e
      exact hurt_ne d b' hb (List.append_cancel_left e1)
    · exact fun e => hurt_neF r o' ho (List.append_cancel_left e)
end
theorem hurtW_ne {f : Flds} {w : List UInt8} (h : HurtW f.octs f.Hurt w) : w ≠ wrapO f.octs := by
  rcases h with ⟨c, h0, rfl⟩ | ⟨o, ho, hl, rfl⟩
  · exact fun e => h0 (wrapX_inj rfl e).2
  · exact fun e => hurt_neF f o ho (wrapX_inj hl e).1
theorem wrap_all {f : Flds} {w : List UInt8} (h : w = wrapO f.octs ∨ HurtW f.octs f.Hurt w) : w.length = f.octs.length + 5 := by
  rcases h with rfl | ⟨c, _, rfl⟩ | ⟨o, _, hl, rfl⟩
  · exact wrap_len _
  · exact wrapX_len _ _
  · rw [wrap_len, hl]
theorem At.whole (w : List UInt8) : At w 0 w := ⟨[], [], by simp, rfl⟩
/-- a document's octets are read, or refused -/
theorem c_b2d {k : Nat} {f : Flds} {w : List UInt8} (hc : w = wrapO f.octs ∨ HurtW f.octs f.Hurt w) (wf : f.Wf) (nd : f.keys.Nodup) (hz : w.length ≤ 1000000) (hk : f.dep ≤ k) :
    CallOk glF K (gN k + 3) 1238 [.bytes w, opts] (fun r => w = wrapO f.octs ∧ r = .dict f.keys f.vals) (fun y => HurtW f.octs f.Hurt w ∧ badX y) := by
  obtain ⟨o, c, e, hl, hc1, hgood, hb1, hb2⟩ := wrap_cases hc
  have hw := wrap_all hc
  have hA : At w 0 (wrapX o c) := by rw [← e]; exact At.whole w
  have hm := wrap_mid hA
  refine enter (n := gN k + 2) kF_bson_to_dict okF_bson_to_dict bF_bson_to_dict rfl rfl fun C ok Lk L hlw hcw hh => ?_
  dsimp only [List.zip, List.zipWith]
  tbr_iter "go"
  refine L.go (c_view (n := 0)) (by show 1 ≤ 5 * k + 6 + 2; omega) hh ?_
  tbr_iter "go"
  refine T1.try ok Lk.fe hh ?_
  tbr_iter "go"
  refine L.dn (c_object_size (p := 0) (e := w.length) (n := 2) hz hA (by omega) (by omega) (by omega)) (by show 3 ≤ 5 * k + 6 + 2; omega) hh (fun v ⟨h1, h2⟩ => ?_) (fun y ⟨h1, h2⟩ => ⟨L.kind (by kernel_rfl), str_ne (by decide), _, _, L.gv gl_InvalidBSON, excBB h2, hb1 h1, h2⟩)
  subst h1 h2
  rw [show ((0 : Nat) : Int) + o.length + 4 = ((4 + o.length : Nat) : Int) by omega]
  tbr_iter "go"
  refine L.dn (c_elems_dict (p := 4) (n := gN k + 1) hz (by omega) (by simpa using hm.left) rfl wf nd hl hc1 (by show 3 ≤ 5 * k + 6 + 1; omega) fun i hm => c_element_dec k i.2.2 (by have := Flds.dep_item hm; omega) (f.wf_item wf hm).2) (Nat.le_refl _) hh (fun v ⟨h1, h2⟩ => ?_)
    (fun y ⟨h1, h2⟩ => ⟨L.kind (by kernel_rfl), str_ne (by decide), _, _, L.gv gl_InvalidBSON, excBB h2, hb2 rfl h1, h2⟩)
  exact ⟨hgood rfl h1, h2⟩
theorem c_b2d_bad {k : Nat} {data : List UInt8} (hz : data.length ≤ 1000000) (hc : data.length < 4 ∨ ∃ m : Nat, m ≤ 1000000 ∧ At data 0 (low4 ((m : Int) + 5)) ∧ data.length ≠ m + 5) :
    CallOk glF K (gN k + 3) 1238 [.bytes data, opts] (fun _ => False) badX := by
  refine enter (n := gN k + 2) kF_bson_to_dict okF_bson_to_dict bF_bson_to_dict rfl rfl fun C ok Lk L hlw hcw hh => ?_
  dsimp only [List.zip, List.zipWith]
  tbr_iter "go"
  refine L.go (c_view (n := 0)) (by show 1 ≤ 5 * k + 6 + 2; omega) hh ?_
  tbr_iter "go"
  refine T1.try ok Lk.fe hh ?_
  tbr_iter "go"
  rcases hc with hc | ⟨m, h1, h2, h3⟩
  · exact L.dn (c_object_size_short (n := 2) hc (by omega)) (by show 3 ≤ 5 * k + 6 + 2; omega) hh (fun v z => z.elim) (fun y h2 => ⟨L.kind (by kernel_rfl), str_ne (by decide), _, _, L.gv gl_InvalidBSON, excBB h2, h2⟩)
  · exact L.dn (c_object_size_bad (n := 2) hz h1 h2 h3 (by omega)) (by show 3 ≤ 5 * k + 6 + 2; omega) hh (fun v z => z.elim) (fun y h2 => ⟨L.kind (by kernel_rfl), str_ne (by decide), _, _, L.gv gl_InvalidBSON, excBB h2, h2⟩)
theorem c_decode {k : Nat} {f : Flds} (wf : f.Wf) (nd : f.keys.Nodup) (hz : (wrapO f.octs).length ≤ 1000000) (hk : f.dep ≤ k) :
    CallOk glF K (gN k + 4) 1455 [.bytes (wrapO f.octs)] (fun r => r = .dict f.keys f.vals) badX :=
  enterD (n := gN k + 3) (T := 1448) (items := [.none]) (rest := [.none]) (es := [.none]) kFdecode okFdecode (fun _ => by kernel_rfl) (fun us h s ho => match us, h with
    | [a], _ => BindsTo.of_defaults (by kernel_rfl : Fdecode.defaults = .ref 1448) ho rfl rfl (by kernel_rfl)) (fun P h X => Reps.cons rep_none Reps.nil) rfl fun C ok Lk L hlw hcw hh => by
    dsimp only [List.zip, List.zipWith, List.cons_append, List.nil_append]
    tbr_iter "go"
    exact L.dn (c_b2d (k := k) (.inl rfl) wf nd hz hk) (Nat.le_refl _) hh (fun v ⟨_, h2⟩ => h2) fun y hy => hy.2
/-- is_valid, of octets that are a document's or hurt -/
theorem c_is_valid {k : Nat} {f : Flds} {w : List UInt8} (hc : w = wrapO f.octs ∨ HurtW f.octs f.Hurt w) (wf : f.Wf) (nd : f.keys.Nodup) (hz : w.length ≤ 1000000) (hk : f.dep ≤ k) :
    CallOk glF K (gN k + 4) 1477 [.bytes w] (fun r => (r = .bool true ∧ w = wrapO f.octs) ∨ (r = .bool false ∧ HurtW f.octs f.Hurt w)) noX := by
  refine enter (n := gN k + 3) kFis_valid okFis_valid bFis_valid rfl rfl fun C ok Lk L hlw hcw hh => ?_
  dsimp only [List.zip, List.zipWith]
  tbr_iter "go"
  refine T1.try ok Lk.fe hh (TS.cons (T1.expr ok rfl ?_))
  tbr_iter "go"
  refine L.dn (c_b2d (k := k) hc wf nd hz hk) (Nat.le_refl _) hh (fun v ⟨h1, h2⟩ => ?_) (fun y ⟨h1, h2⟩ => ?_)
  · tbr_iter "go"
    exact .inl ⟨rfl, h1⟩
  · refine ⟨L.kind (by kernel_rfl), str_ne (by decide), _, _, L.gv gl_Exception, excBX h2, ?_⟩
    intro B a ok' hd
    have L' := L.handling B a _ ok' hd
    tbr_iter "go"
    exact .inr ⟨rfl, h1⟩
theorem c_is_valid_bad {k : Nat} {data : List UInt8} (hz : data.length ≤ 1000000) (hc : data.length < 4 ∨ ∃ m : Nat, m ≤ 1000000 ∧ At data 0 (low4 ((m : Int) + 5)) ∧ data.length ≠ m + 5) :
    CallOk glF K (gN k + 4) 1477 [.bytes data] (fun r => r = .bool false) noX := by
  refine enter (n := gN k + 3) kFis_valid okFis_valid bFis_valid rfl rfl fun C ok Lk L hlw hcw hh => ?_
  dsimp only [List.zip, List.zipWith]
  tbr_iter "go"
  refine T1.try ok Lk.fe hh (TS.cons (T1.expr ok rfl ?_))
  tbr_iter "go"
  refine L.dn (c_b2d_bad (k := k) hz hc) (Nat.le_refl _) hh (fun v z => z.elim) (fun y h2 => ?_)
  refine ⟨L.kind (by kernel_rfl), str_ne (by decide), _, _, L.gv gl_Exception, excBX h2, ?_⟩
  intro B a ok' hd
  have L' := L.handling B a _ ok' hd
  tbr_iter "go"
abbrev Doc := Flds × List UInt8
structure DocOk (k : Nat) (x : Doc) : Prop where
  oct : x.2 = wrapO x.1.octs ∨ HurtW x.1.octs x.1.Hurt x.2
  wf : x.1.Wf
  nd : x.1.keys.Nodup
  dep : x.1.dep ≤ k
def dpv (x : Doc) : PV := .dict x.1.keys x.1.vals
def flat2 (ds : List Doc) : List UInt8 := (ds.map (·.2)).flatten
structure LInv (data : List UInt8) (ds : List Doc) (m : Nat) (σ : St) : Prop where
  st : ∃ (acc rest : List Doc), m = rest.length ∧ ds = acc ++ rest ∧ (∀ x ∈ acc, x.2 = wrapO x.1.octs) ∧ At data (flat2 acc).length (flat2 rest) ∧ (flat2 acc).length + (flat2 rest).length = data.length ∧
    σ.own = some "docs" ∧ σ.vars.lookup ("docs" : Str) = some (.list (acc.map dpv)) ∧ σ.vars.lookup ("position" : Str) = some (.int (flat2 acc).length)
  dt : σ.vars.lookup ("data" : Str) = some (.bytes data)
  vw : σ.vars.lookup ("view" : Str) = some (.bytes data)
  ln : σ.vars.lookup ("data_len" : Str) = some (.int data.length)
  op : σ.vars.lookup ("opts" : Str) = some opts
theorem flat2_app (a b : List Doc) : flat2 (a ++ b) = flat2 a ++ flat2 b := by simp [flat2]
theorem flat2_cons (x : Doc) (b : List Doc) : flat2 (x :: b) = x.2 ++ flat2 b := by simp [flat2]
theorem flat2_len {k : Nat} : ∀ {ds : List Doc}, (∀ x ∈ ds, DocOk k x) → ds.length ≤ (flat2 ds).length
  | [], _ => by simp [flat2]
  | x :: r, h => by
    have := flat2_len (ds := r) fun y hy => h y (.tail _ hy)
    have hx := wrap_all (h x (.head _)).oct
    rw [flat2_cons, List.length_append, List.length_cons]
    omega
/-- several documents, one behind the other -/
theorem c_decode_docs {k : Nat} {ds : List Doc} (hd : ∀ x ∈ ds, DocOk k x) (hz : (flat2 ds).length ≤ 1000000) :
    CallOk glF K (gN k + 3) 1462 [.bytes (flat2 ds), opts] (fun r => (∀ x ∈ ds, x.2 = wrapO x.1.octs) ∧ r = .list (ds.map dpv)) (fun y => (∃ x ∈ ds, HurtW x.1.octs x.1.Hurt x.2) ∧ badX y) := by
  refine enter (n := gN k + 2) kF_decode_all okF_decode_all bF_decode_all rfl rfl fun C ok Lk L hlw hcw hh => ?_
  dsimp only [List.zip, List.zipWith]
  tbr_iter "go"
  refine L.go (c_view (n := 0)) (by show 1 ≤ 5 * k + 6 + 2; omega) hh ?_
  tbr_iter "go"
  refine T1.try ok Lk.fe hh (TS.cons (T1.while ok Lk.fe (LInv (flat2 ds) ds) ds.length ⟨⟨[], ds, rfl, rfl, fun x m => by simp at m, At.whole _, by simp [flat2], rfl, (show _ = some (PV.list []) by tbr_iter "lk"), (show _ = some (PV.int 0) by tbr_iter "lk")⟩, by tbr_iter "lk", by tbr_iter "lk", by tbr_iter "lk", by tbr_iter "lk"⟩ ?_))
  intro m σ ⟨⟨acc, rest, hm, hds, hacc, hat, hlen, hown, hdocs, hpos⟩, hdt, hvw, hln, hop⟩
  cases rest with
  | nil =>
    have e0 : (flat2 ([] : List Doc)).length = 0 := by simp [flat2]
    tbr_iter "go"
    rw [List.append_nil] at hds
    subst hds
    exact ⟨hacc, rfl⟩
  | cons x rest =>
    have hx := hd x (by rw [hds]; simp)
    obtain ⟨o, c, e, hl, hc1, hgood, hb1, hb2⟩ := wrap_cases hx.oct
    have hxl := wrap_all hx.oct
    have hc2 : (flat2 (x :: rest)).length = x.2.length + (flat2 rest).length := by rw [flat2_cons, List.length_append]
    have hatx : At (flat2 ds) (flat2 acc).length x.2 := by
      rw [flat2_cons] at hat
      exact hat.left
    have hatr : At (flat2 ds) ((flat2 acc).length + x.2.length) (flat2 rest) := by
      rw [flat2_cons] at hat
      exact hat.right
    have hatw : At (flat2 ds) (flat2 acc).length (wrapX o c) := by rw [← e]; exact hatx
    have hmid := wrap_mid hatw
    have h4 : At (flat2 ds) (flat2 acc).length (low4 ((o.length : Int) + 5)) := hatw.left.left
    have hcc : (((flat2 ds).getD (((flat2 acc).length : Int) + ((o.length : Int) + 5) - 1).toNat 0).toNat : Int) = c.toNat := get_p hatw (wrapX_nth o c) (by omega)
    have hal : acc.length ≤ 1000000 := by
      have := flat2_len hd
      rw [hds] at this
      simp at this
      rw [← hds] at this
      omega
    tbr_iter "go"
    refine L.go (c_unpack_int (n := 1) (by omega) (by omega) (by omega)) (by show 2 ≤ 5 * k + 6 + 2; omega) hh ?_
    rw [h4.four (by omega) (by omega)]
    tbr_iter "go"
    rw [hcc]
    rcases (Decidable.em (c = 0)).symm with h0 | h0
    · rw [ne0 h0]
      tbr_iter "go"
      exact ⟨L.kind (by kernel_rfl), str_ne (by decide), _, _, L.gv gl_InvalidBSON, excBB rfl, ⟨x, by rw [hds]; simp, hb1 h0⟩, rfl⟩
    subst h0
    tbr_iter "go"
    refine T1.app (ds := acc.map dpv) ok (by tbr_iter "lk") (by exact hown) (str_ne (by decide)) rfl rfl (by rw [List.length_map]; omega) fun X h' => ?_
    have L2 := L.still X h'
    tbr_iter "go"
    rw [show ((flat2 acc).length : Int) + ((o.length : Int) + 5) - 1 = (((flat2 acc).length + 4 + o.length : Nat) : Int) by omega]
    refine L2.dn (c_elems_dict (p := (flat2 acc).length + 4) (n := gN k + 1) hz (by omega) hmid.left rfl hx.wf hx.nd hl hc1 (by show 3 ≤ 5 * k + 6 + 1; omega) fun i hm => c_element_dec k i.2.2 (by have := Flds.dep_item hm; have := hx.dep; omega) (x.1.wf_item hx.wf hm).2) (Nat.le_refl _) hh (fun v ⟨h1, h2⟩ => ?_)
      (fun y ⟨h1, h2⟩ => ⟨L.kind (by kernel_rfl), str_ne (by decide), _, _, L.gv gl_InvalidBSON, excBB h2, ⟨x, by rw [hds]; simp, hb2 rfl h1⟩, h2⟩)
    subst h2
    refine ⟨rfl, ?_⟩
    tbr_iter "go"
    refine ⟨rest.length, by rw [hm]; simp, ⟨⟨acc ++ [x], rest, rfl, by rw [hds]; simp, fun y hy => ?_, ?_, ?_, hown, ?_, ?_⟩, by tbr_iter "lk", by tbr_iter "lk", by tbr_iter "lk", by tbr_iter "lk"⟩⟩
    · rcases List.mem_append.mp hy with hy | hy
      · exact hacc y hy
      · rw [List.mem_singleton.mp hy]
        exact hgood rfl h1
    · rw [flat2_app, List.length_append, flat2_cons]
      simpa [flat2] using hatr
    · rw [flat2_app, List.length_append, flat2_cons]
      simp only [flat2, List.map_nil, List.flatten_nil, List.append_nil] at *
      omega
    · rw [List.map_append, show [x].map dpv = [PV.dict x.1.keys x.1.vals] from rfl]
      tbr_iter "lk"
    · rw [flat2_app, List.length_append, flat2_cons, show (((flat2 acc).length + (x.2 ++ flat2 []).length : Nat) : Int) = ((flat2 acc).length : Int) + ((o.length : Int) + 5) by simp [flat2]; omega]
      tbr_iter "lk"
theorem c_decode_all {k : Nat} {ds : List Doc} (hd : ∀ x ∈ ds, DocOk k x) (hz : (flat2 ds).length ≤ 1000000) :
    CallOk glF K (gN k + 4) 1470 [.bytes (flat2 ds)] (fun r => (∀ x ∈ ds, x.2 = wrapO x.1.octs) ∧ r = .list (ds.map dpv)) (fun y => (∃ x ∈ ds, HurtW x.1.octs x.1.Hurt x.2) ∧ badX y) :=
  enterD (n := gN k + 3) (T := 1463) (items := [.none]) (rest := [.none]) (es := [.none]) kFdecode_all okFdecode_all (fun _ => by kernel_rfl) (fun us h s ho => match us, h with
    | [a], _ => BindsTo.of_defaults (by kernel_rfl : Fdecode_all.defaults = .ref 1463) ho rfl rfl (by kernel_rfl)) (fun P h X => Reps.cons rep_none Reps.nil) rfl fun C ok Lk L hlw hcw hh => by
    dsimp only [List.zip, List.zipWith, List.cons_append, List.nil_append]
    tbr_iter "go"
    exact L.dn (c_decode_docs (k := k) hd hz) (Nat.le_refl _) hh (fun v hv => hv) fun y hy => hy
/-- encode -/
theorem c_encode {k : Nat} {f : Flds} (wf : f.Wf) (nd : f.keys.Nodup) (hz : f.octs.length ≤ 1000000) (hk : f.dep ≤ k) :
    CallOk glF K (4 * k + 7) 1447 [.dict f.keys f.vals] (fun r => r = .bytes (wrapO f.octs)) noX :=
  enterD (n := 4 * k + 6) (T := 1440) (items := [.bool false, .ref 262]) (rest := [.bool false, .ref 262]) (es := [.bool false, opts]) kFencode okFencode (fun _ => by kernel_rfl) (fun us h s ho => match us, h with
    | [a], _ => BindsTo.of_defaults (by kernel_rfl : Fencode.defaults = .ref 1440) ho rfl rfl (by kernel_rfl)) (fun P h X => Reps.cons (rep_bool _) (Reps.cons (by simp only [Rep]) Reps.nil)) rfl fun C ok Lk L hlw hcw hh => by
    dsimp only [List.zip, List.zipWith, List.cons_append, List.nil_append]
    tbr_iter "go"
    refine L.dn (c_dict3 (n := 4 * k + 5) wf nd hz (by omega) fun i hm => c_element (n := 4 * k + 4) (f.wf_item wf hm).1 (by omega) (c_nv k i.2.2 (by have := Flds.dep_item hm; omega) (f.wf_item wf hm).2 _ (by have := (f.wf_item wf hm).1.bs; simp; omega))) (Nat.le_refl _) hh (fun v hv => hv) fun y hy => hy
end
section
open PySem.SeqAt PySem.MeetsSeq PySem.MeetsSeq2 PySem.MeetsSeq3 PySem.SeqRoads2
open PySem.AutoSeq1 (wpAny_loadPart')
section
variable {w : World} {A : Around} {J : Shared → Prop}
abbrev EqJ (w : World) (A : Around) (J : Shared → Prop) (x y : Value) : Prop := ∀ s, J s → wpAny (model prog w) A (eqBool x y) (fun r s' => r = true ∧ J s') never s
theorem eqLoopJ {l b : Addr} {vs us : List Value} {n m : Nat} (hsz : vs.length = us.length) (hJ : ∀ s, J s → s.heap.get? l = some (lstObj vs n) ∧ s.heap.get? b = some (lstObj us m))
    (he : ∀ (j : Nat) (x y : Value), vs[j]? = some x → us[j]? = some y → EqJ w A.in1 J x y) (k : Nat) :
    ∀ i : Nat, vs.length - i = k → MeetsIn prog w (Builtin.«list.__eq__.loop» ⟨[.ref l, .ref b, rawInt i, rawInt 2], []⟩) (fun A' R s => A' = A ∧ J s ∧ ∀ s', J s' → R (.ok (.ret (.bool true))) s') := by
  induction k with
  | zero =>
    intro i hk A' R s h
    obtain ⟨rfl, hj, h⟩ := h
    have hz := h _ hj
    obtain ⟨hl, hb⟩ := hJ _ hj
    obtain ⟨hp, g, d, tk, os⟩ := s
    wp_walk using wpAny_loadPart' hl, wpAny_loadPart' hb
    have hi1 : vs.toArray[((i : Nat) : Int).toNat]? = none := by simp; omega
    have hi2 : us.toArray[((i : Nat) : Int).toNat]? = none := by simp; omega
    rw [hi1, hi2]
    wp_walk using wpAny_loadPart' hl, wpAny_loadPart' hb
    show R (.ok (.ret (.bool (vs.toArray.size == us.toArray.size)))) _
    rw [List.size_toArray, List.size_toArray, hsz]
    simpa using hz
  | succ k ih =>
    intro i hk A' R s h
    obtain ⟨rfl, hj, h⟩ := h
    have hj0 := hj
    obtain ⟨hl, hb⟩ := hJ _ hj
    have hlt : i < vs.length := by omega
    have hlt2 : i < us.length := by omega
    have hi1 : vs.toArray[((i : Nat) : Int).toNat]? = some vs[i] := by simp [hlt]
    have hi2 : us.toArray[((i : Nat) : Int).toNat]? = some us[i] := by simp [hlt2]
    have hc : ((i : Int) + 1) = ((i + 1 : Nat) : Int) := by push_cast; rfl
    obtain ⟨hp, g, d, tk, os⟩ := s
    wp_walk using wpAny_loadPart' hl, wpAny_loadPart' hb
    rw [hi1, hi2]
    refine wpAny_bind (wpAny_mono (he i vs[i] us[i] (by simp) (by simp) _ hj0) (fun r s' ⟨hr, hj'⟩ => ?_) fun _ _ z => z.elim)
    subst hr
    obtain ⟨hp', g', d', tk', os'⟩ := s'
    wp_walk
    rw [hc]
    exact ⟨plainId_quiet plain_eq_loop _, codeAny_builtin entry_eq_loop (by
      rw [Around.under_plainId plain_eq_loop _]
      exact ih (i + 1) (by omega) A' R _ ⟨rfl, hj', h⟩)⟩
theorem listEqJ {l b : Addr} {vs us : List Value} {n m : Nat} (hsz : vs.length = us.length) (hJ : ∀ s, J s → s.heap.get? l = some (lstObj vs n) ∧ s.heap.get? b = some (lstObj us m))
    (he : ∀ (j : Nat) (x y : Value), vs[j]? = some x → us[j]? = some y → EqJ w A.in1 J x y) :
    MeetsIn prog w (Builtin.«list.__eq__» ⟨[.ref l, .ref b], []⟩) (fun A' R s => A' = A ∧ J s ∧ ∀ s', J s' → R (.ok (.ret (.bool true))) s') := by
  intro A' R s h
  obtain ⟨rfl, hj, h⟩ := h
  have hj0 := hj
  obtain ⟨hl, hb⟩ := hJ _ hj
  obtain ⟨hp, g, d, tk, os⟩ := s
  have f3 := AutoSeq1.sub_list_list
  have hne : ¬ (vs.toArray.size != us.toArray.size) = true := by simp [hsz]
  wp_walk using wpAny_loadPart' hl, wpAny_loadPart' hb
  exact ⟨plainId_quiet plain_eq_loop _, codeAny_builtin entry_eq_loop (by
    rw [Around.under_plainId plain_eq_loop _]
    exact eqLoopJ hsz hJ he _ 0 rfl A' R _ ⟨rfl, hj0, h⟩)⟩
theorem rcLists {l b : Addr} {vs us : List Value} {n m : Nat} (hsz : vs.length = us.length) (hJ : ∀ s, J s → s.heap.get? l = some (lstObj vs n) ∧ s.heap.get? b = some (lstObj us m)) (hu : A.units < cLine)
    (he : ∀ (j : Nat) (x y : Value), vs[j]? = some x → us[j]? = some y → EqJ w A.in1 J x y) : ∀ s, J s → wpAny (model prog w) A (richCompare .Eq (.ref l) (.ref b)) (fun v s' => v = .bool true ∧ J s') never s := fun s hj => by
  obtain ⟨hl, hb⟩ := hJ s hj
  refine wpAny_richCompare_same_room (op := .Eq) ⟨_, hl, rfl⟩ ⟨_, hb, rfl⟩ F.slot_list_eq (call_meetsIn F.slot_list_eq ⟨_, hl, rfl⟩ F.entry_list_eq (F.args_list_eq_2 _ _) (listEqJ hsz hJ he) ⟨rfl, hj, fun s' hj' => ?_⟩) hu
  exact ⟨nofun, rfl, hj'⟩
end
end
section
open PySem.SeqAt PySem.MeetsSeq PySem.MeetsSeq2 PySem.MeetsSeq3 PySem.SeqRoads2
open PySem.AutoSeq1 (wpAny_loadPart')
section
variable {w : World} {A : Around} {J : Shared → Prop}
theorem tupleEqJ {l b : Addr} {vs us : List Value} (hsz : vs.length = us.length) (hJ : ∀ s, J s → s.heap.get? l = some (tupObj vs) ∧ s.heap.get? b = some (tupObj us))
    (he : ∀ (j : Nat) (x y : Value), vs[j]? = some x → us[j]? = some y → EqJ w A.in1 J x y) :
    MeetsIn prog w (Builtin.«tuple.__eq__» ⟨[.ref l, .ref b], []⟩) (fun A' R s => A' = A ∧ J s ∧ ∀ s', J s' → R (.ok (.ret (.bool true))) s') :=
  .of_wp fun A' R s h => by
    obtain ⟨rfl, hj, h⟩ := h
    have hj0 := hj
    obtain ⟨hl, hb⟩ := hJ _ hj
    obtain ⟨hp, g, d, tk, os⟩ := s
    have f2 := AutoSeq1.sub_tuple_tuple
    wp_walk using wpAny_loadPart' hl, wpAny_loadPart' hb, wpAny_forIn_list _ (fun rest b s' => b.1 = none ∧ J s' ∧ ∃ i, rest = (vs.zip us).drop i) _
    case turn =>
      rintro ⟨y, x⟩ rest b s' ⟨hb', hj', i, hz⟩
      have hlt : i < (vs.zip us).length := by
        rcases Nat.lt_or_ge i (vs.zip us).length with h' | h'
        · exact h'
        · rw [List.drop_of_length_le h'] at hz; cases hz
      rw [List.drop_eq_getElem_cons hlt] at hz
      injection hz with hyx hrest
      have h1 : i < vs.length := by simp at hlt; omega
      have h2 : i < us.length := by simp at hlt; omega
      have hy : vs[i]? = some y := by have := congrArg Prod.fst hyx; simp at this; simp [this, h1]
      have hx : us[i]? = some x := by have := congrArg Prod.snd hyx; simp at this; simp [this, h2]
      refine wpAny_bind (wpAny_mono (he i y x hy hx _ hj') (fun r s'' ⟨hr, hj''⟩ => ?_) fun _ _ z => z.elim)
      subst hr
      obtain ⟨hp', g', d', tk', os'⟩ := s''
      wp_walk
      exact ⟨rfl, hj'', i + 1, hrest⟩
    case fin =>
      rintro ⟨b1, b2⟩ s' ⟨hb', hj', i, hz⟩
      simp only at hb'
      subst hb'
      have hq := h _ hj'
      obtain ⟨hp', g', d', tk', os'⟩ := s'
      wp_walk
      exact ⟨_, rfl, by simpa [Builtin.Tuple.tupleCompareSizes, hsz] using hq⟩
    exact ⟨rfl, hj0, 0, by simp⟩
theorem rcTuples {l b : Addr} {vs us : List Value} (hsz : vs.length = us.length) (hJ : ∀ s, J s → s.heap.get? l = some (tupObj vs) ∧ s.heap.get? b = some (tupObj us)) (hu : A.units < cLine)
    (he : ∀ (j : Nat) (x y : Value), vs[j]? = some x → us[j]? = some y → EqJ w A.in1 J x y) : ∀ s, J s → wpAny (model prog w) A (richCompare .Eq (.ref l) (.ref b)) (fun v s' => v = .bool true ∧ J s') never s := fun s hj => by
  obtain ⟨hl, hb⟩ := hJ s hj
  refine wpAny_richCompare_same_room (op := .Eq) ⟨_, hl, rfl⟩ ⟨_, hb, rfl⟩ F.slot_tuple_eq (call_meetsIn F.slot_tuple_eq ⟨_, hl, rfl⟩ F.entry_tuple_eq (F.args_tuple_eq_2 _ _) (tupleEqJ hsz hJ he) ⟨rfl, hj, fun s' hj' => ?_⟩) hu
  exact ⟨nofun, rfl, hj'⟩
theorem ents_nth {P : Params} : ∀ {ks : List Str} {vs : List Value} {es : List DictEntry}, Ents P ks vs es → ∀ (i : Nat) (e : DictEntry), es[i]? = some e → ∃ k t, ks[i]? = some k ∧ e.key = .str k t ∧ e.hash = PyData.keyHash P k ∧ vs[i]? = some e.val
  | [], [], [], _ => fun i e h => by simp at h
  | k :: ks, v :: vs, e' :: es, ⟨⟨t, e1⟩, e2, e3, r⟩ => fun i e h => by
    cases i with
    | zero =>
      simp at h; subst h
      exact ⟨k, t, rfl, e1, e2, by simp [e3]⟩
    | succ i =>
      simp at h
      obtain ⟨k', t, a, b, c, d⟩ := ents_nth r i e h
      exact ⟨k', t, by simpa using a, b, c, by simpa using d⟩
theorem ents_idx {P : Params} {k : Str} : ∀ {ks : List Str} {vs : List Value} {es : List DictEntry}, ks.Nodup → Ents P ks vs es → ∀ i : Nat, ks[i]? = some k → es.findIdx? (fun e => Value.isStrOf k e.key) = some i
  | [], [], [], _, _ => fun i h => by simp at h
  | k' :: ks, v :: vs, e' :: es, nd, ⟨⟨t, e1⟩, _, _, r⟩ => fun i h => by
    cases i with
    | zero =>
      simp at h; subst h
      rw [List.findIdx?_cons, e1, ← isStr_of, str_is]
      simp
    | succ i =>
      simp at h
      have hn := (List.nodup_cons.mp nd)
      have hne : (k' == k) = false := by
        rw [beq_eq_false_iff_ne]
        exact fun z => hn.1 (z ▸ List.mem_of_getElem? h)
      rw [List.findIdx?_cons, e1, ← isStr_of, str_is, hne, ents_idx hn.2 r i h]
      simp
theorem samePairsJ {nm : String} {l b : Addr} {es fs : List DictEntry} {n m : Nat} {ks : List Str} {vs us : List Value} (nd : ks.Nodup) (e1 : Ents w.params ks vs es) (e2 : Ents w.params ks us fs) (hl0 : (l == sysModules) = false) (hb0 : (b == sysModules) = false)
    (hJ : ∀ s, J s → s.heap.get? l = some (dctObj es n) ∧ s.heap.get? b = some (dctObj fs m))
    (he : ∀ (j : Nat) (x y : Value), vs[j]? = some x → us[j]? = some y → EqJ w A J x y) : ∀ s, J s → wpAny (model prog w) A (Builtin.Dict.samePairs nm l b) (fun r s' => r = true ∧ J s') never s := fun s hj => by
  obtain ⟨hl, hb⟩ := hJ _ hj
  have hsz : es.length = fs.length := by rw [(ents_len e1).2, (ents_len e2).2, ← (ents_len e1).1, ← (ents_len e2).1]
  have hkb : KeysOf (strKind prog w) fs.toArray := fun e he => by
    obtain ⟨k, t, q1, q2⟩ := ents_keys e2 e (by simpa using he)
    exact ⟨k, by rw [q1]; exact strKind_is prog w k t, q2⟩
  unfold Builtin.Dict.samePairs Builtin.Dict.showsAll
  rw [if_neg (show ¬ (l == sysModules) = true by rw [hl0]; exact Bool.false_ne_true), if_neg (show ¬ (b == sysModules) = true by rw [hb0]; exact Bool.false_ne_true)]
  refine wpAny_bind (wpAny_pure (wpAny_bind (wpAny_pure ?_)))
  refine wpAny_bind (wpAny_dictEntries hl rfl ?_)
  dsimp only
  refine wpAny_bind (wpAny_dictEntries hb rfl ?_)
  rw [if_neg (by simp [hsz])]
  refine wpAny_bind (wpAny_dictEpoch hl rfl ?_)
  refine wpAny_bind ?_
  rw [Std.Legacy.Range.forIn_eq_forIn_range']
  simp only [Std.Legacy.Range.size, Nat.sub_zero, Nat.add_sub_cancel, Nat.div_one]
  refine wpAny_forIn_list _ (fun rest q s' => J s' ∧ q = (none, ()) ∧ ∃ i, rest = List.range' i (es.length - i) ∧ i ≤ es.length) _ ?_ ?_ _ _ ⟨hj, rfl, 0, by simp, Nat.zero_le _⟩
  · rintro x rest q s' ⟨hj', rfl, i, hr, hi⟩
    obtain ⟨hl', hb'⟩ := hJ _ hj'
    have hlt : i < es.length := by
      rcases Nat.lt_or_ge i es.length with h | h
      · exact h
      · rw [Nat.sub_eq_zero_of_le h] at hr; simp at hr
    obtain ⟨rfl, hrest⟩ : x = i ∧ rest = List.range' (i + 1) (es.length - (i + 1)) := by
      have e : es.length - i = (es.length - (i + 1)) + 1 := by omega
      rw [e, List.range'_succ] at hr
      injection hr with h1 h2
      exact ⟨h1, h2⟩
    refine wpAny_bind (wpAny_dictEntries hl' rfl ?_)
    have hex : es[x]? = some es[x] := List.getElem?_eq_getElem hlt
    rw [List.getElem?_toArray, hex]
    obtain ⟨k, t, hk, hkey, hhash, hval⟩ := ents_nth e1 _ _ hex
    have hlt2 : x < fs.length := hsz ▸ hlt
    have hfx : fs[x]? = some fs[x] := List.getElem?_eq_getElem hlt2
    obtain ⟨k2, t2, hk2, hkey2, _, hval2⟩ := ents_nth e2 _ _ hfx
    have hidx := ents_idx nd e2 _ hk
    show wpAny _ _ (holding [es[x].key, es[x].val] _ >>= _) _ _ _
    rw [hhash]
    refine wpAny_bind (wpAny_holding (wpAny_bind (wpAny_dictFind_of (knd := strKind prog w) (k := k) (by rw [hkey]; exact strKind_is prog w k t) hb' rfl hkb ?_)))
    have hj2 : (fs.toArray.findIdx? fun e => (strKind prog w).is k e.key) = some x := by
      rw [List.findIdx?_toArray]
      exact hidx
    rw [hj2]
    refine wpAny_bind (wpAny_dictEntries hb' rfl ?_)
    rw [List.getElem?_toArray, hfx]
    refine wpAny_holding (wpAny_mono (he x es[x].val fs[x].val hval hval2 _ hj') (fun r s'' ⟨hr', hj''⟩ => ?_) fun _ _ z => z.elim)
    subst hr'
    obtain ⟨hl'', _⟩ := hJ _ hj''
    show wpAny _ _ (if (!true) = true then _ else _) _ _ _
    rw [if_neg (by decide)]
    refine wpAny_bind (wpAny_dictEpoch hl'' rfl ?_)
    rw [if_neg (by simp)]
    exact wpAny_pure ⟨hj'', rfl, x + 1, hrest, hlt⟩
  · rintro q s' ⟨hj', rfl, i, hr, hi⟩
    exact wpAny_pure ⟨rfl, hj'⟩
theorem sub_dd : isSubtype (.type "dict") (.type "dict") = pure true := by rw [isSubtype_type]; kernel_rfl
theorem rcDicts {l b : Addr} {es fs : List DictEntry} {n m : Nat} {ks : List Str} {vs us : List Value} (nd : ks.Nodup) (e1 : Ents w.params ks vs es) (e2 : Ents w.params ks us fs) (hl0 : (l == sysModules) = false) (hb0 : (b == sysModules) = false)
    (hJ : ∀ s, J s → s.heap.get? l = some (dctObj es n) ∧ s.heap.get? b = some (dctObj fs m)) (hu : A.units < cLine)
    (he : ∀ (j : Nat) (x y : Value), vs[j]? = some x → us[j]? = some y → EqJ w A.in1 J x y) : ∀ s, J s → wpAny (model prog w) A (richCompare .Eq (.ref l) (.ref b)) (fun v s' => v = .bool true ∧ J s') never s := fun s hj => by
  obtain ⟨hl, hb⟩ := hJ s hj
  have tl : s.TypeIs (.ref l) "dict" := ⟨_, hl, rfl⟩
  have tb : s.TypeIs (.ref b) "dict" := ⟨_, hb, rfl⟩
  refine wpAny_richCompare_same_room (op := .Eq) tl tb PySem.F.slot_dict_eq (wpAny_call_entry PySem.F.slot_dict_eq tl PySem.F.entry_dict_eq ?_ (PySem.F.args_dict_eq_2 _ _)) hu
  show wpAny _ _ (Builtin.Dict.dictSlotArgs "__eq__" ⟨[.ref l, .ref b], []⟩ >>= _) _ _ s
  refine wpAny_bind ?_
  unfold Builtin.Dict.dictSlotArgs
  refine wpAny_bind (wpAny_notOrdered_dict tl ?_)
  show wpAny _ _ (pure (Value.ref l, Value.ref b)) _ _ s
  refine wpAny_pure ?_
  refine wpAny_bind (wpAny_isInstance (T := "dict") tb PySem.F.sub_dict_dict ?_)
  simp only [Bool.not_true, Bool.false_eq_true, if_false]
  refine wpAny_bind (wpAny_pure (wpAny_bind (wpAny_pure ?_)))
  refine wpAny_bind (wpAny_mono (samePairsJ nd e1 e2 hl0 hb0 hJ he s hj) (fun r s' ⟨hr, hj'⟩ => ?_) fun _ _ z => z.elim)
  subst hr
  refine wpAny_pure ⟨_, rfl, ?_, ?_⟩
  · exact fun x => nomatch x
  · exact ⟨rfl, hj'⟩
end
end
section
/-- data that are compared, so many things deep -/
def okD : Nat → PV → Prop
  | 0, d => match d with
    | .none => True | .bool _ => True | .int _ => True | .str _ => True | .bytes _ => True
    | _ => False
  | n + 1, d => match d with
    | .none => True | .bool _ => True | .int _ => True | .str _ => True | .bytes _ => True
    | .list ds => ∀ e ∈ ds, okD n e
    | .dict ks ds => ks.Nodup ∧ ks.length = ds.length ∧ ∀ e ∈ ds, okD n e
    | .code _ sc => notExt sc = true ∧ okD n sc
    | _ => False
section
variable {w : World} {A : Around} {E : Value → Shared → Prop} {J : Shared → Prop}
theorem eqJ_scalar {x y : Value} (h : (x == y) = true) : EqJ w A J x y := fun s hj => by
  unfold eqBool
  refine wpAny_holding ?_
  rw [if_pos h]
  exact wpAny_bind (wpAny_rule (wpAny_pure ⟨rfl, hj⟩))
theorem eqJ_rc {x y : Value} (nf : ∀ a t b u, (x, y) ≠ (.float a t, .float b u)) (h : ∀ s, J s → wpAny (model prog w) A (richCompare .Eq x y) (fun v s' => v = .bool true ∧ J s') never s) : EqJ w A J x y := fun s hj => by
  unfold eqBool
  refine wpAny_holding ?_
  refine wpAny_ite_split (fun _ => wpAny_bind (wpAny_rule (wpAny_pure ⟨rfl, hj⟩))) fun _ => ?_
  have go : wpAny (model prog w) A (richCompare .Eq x y >>= truthOfDropped) (fun r s' => r = true ∧ J s') never s := wpAny_bind (wpAny_mono (h s hj) (fun v s' ⟨hv, hj'⟩ => by
    subst hv
    exact wpAny_truthy_bool ⟨rfl, hj'⟩) fun _ _ z => z)
  cases x <;> cases y <;> first | exact go | exact absurd rfl (nf _ _ _ _)
theorem rcInst {s : Shared} {x : Addr} {ox : Obj} {od : Option Obj} {b : Value} {Q : Value → Shared → Prop} (hu : A.units < cLine) (X : (K w.params).In s.heap) (I : InstAt s.heap x ox codeCls od) (hb : Looks (model prog w) s.heap (typeOf b) (.ref codeCls))
    (h : wpAny (model prog w) A (call (.ref 186) [.ref x, b]) (fun v s' => v ≠ .notImplemented ∧ Q v s') E s) : wpAny (model prog w) A (richCompare .Eq (.ref x) b) Q E s := by
  have one : wpAny (model prog w) A (tryCompare (.ref x) (cmpInfo .Eq).2.1 b) (fun r s' => ∃ v, r = some v ∧ Q v s') E s := by
    unfold tryCompare
    refine wpAny_bind (ifBound_K X I (by kernel_rfl) (by kernel_rfl) (wpAny_mono h (fun v s' hv => ?_) fun _ _ e => e))
    cases v <;> first | exact absurd rfl hv.1 | exact wpAny_pure ⟨_, rfl, hv.2⟩
  unfold richCompare
  simp only [oneThing_ref]
  refine wpAny_holding (wpAny_bind (wpAny_cRoomFor hu ?_))
  refine wpAny_bind (I.type.here (wpAny_bind (hb.here ?_)))
  rw [if_neg (by simp)]
  refine wpAny_bind (wpAny_pure ?_)
  simp only [Bool.false_eq_true, if_false]
  refine wpAny_bind (wpAny_mono one (fun r s' z => ?_) fun _ _ e => e)
  obtain ⟨v, rfl, hq⟩ := z
  exact wpAny_pure hq
end
/-- the comparison's triple: nothing of the frame changes -/
def DeepJ (C : Cx) (σ : St) (X : Addr → Prop) (s₀ : Heap) (s : Shared) : Prop := Inv C s σ X ∧ Ext X X s₀ s.heap
abbrev Cx.at (C : Cx) (u : Nat) : Around := { C.A with units := u }
def DeepEq (n : Nat) (d : PV) : Prop := ∀ (C : Cx) (D : Dn), Lg C D → C.hd = none → ∀ u : Nat, C.un ≤ u → u + 32 * n ≤ C.un + 8 * D.n → ∀ (σ : St) (X : Addr → Prop) (s₀ : Heap) (va vb : Value), Rep C.P s₀ X d va → Rep C.P s₀ X d vb → EqJ C.w (C.at u) (DeepJ C σ X s₀) va vb
section
variable {C : Cx} {D : Dn}
theorem Reps.nth {P : Params} {h : Heap} {X : Addr → Prop} : ∀ {ds : List PV} {vs : List Value}, Reps P h X ds vs → ∀ (i : Nat) (v : Value), vs[i]? = some v → ∃ d, ds[i]? = some d ∧ Rep P h X d v
  | [], vs, r => fun i v e => by simp only [Reps] at r; subst r; simp at e
  | d :: ds, vs, r => fun i v e => by
    simp only [Reps] at r
    obtain ⟨u, q, rfl, h1, h2⟩ := r
    cases i with
    | zero => simp at e; subst e; exact ⟨d, rfl, h1⟩
    | succ i => simp at e; obtain ⟨d', a, b⟩ := Reps.nth h2 i v e; exact ⟨d', by simpa using a, b⟩
theorem deepElts {n u : Nat} {ds : List PV} {vs us : List Value} {σ : St} {X : Addr → Prop} {s₀ : Heap} (H : ∀ e ∈ ds, DeepEq n e) (L : Lg C D) (hh : C.hd = none) (h0 : C.un ≤ u) (hu : u + 32 * n ≤ C.un + 8 * D.n) (ra : Reps C.P s₀ X ds vs) (rb : Reps C.P s₀ X ds us) :
    ∀ (j : Nat) (x y : Value), vs[j]? = some x → us[j]? = some y → EqJ C.w (C.at u) (DeepJ C σ X s₀) x y := fun j x y hx hy => by
  obtain ⟨d, e1, r1⟩ := ra.nth j x hx
  obtain ⟨d', e2, r2⟩ := rb.nth j y hy
  rw [e1] at e2; cases e2
  exact H d (List.mem_of_getElem? e1) C D L hh u h0 hu σ X s₀ x y r1 r2
theorem deepLists {n u : Nat} {ds : List PV} {va vb : Value} {σ : St} {X : Addr → Prop} {s₀ : Heap} (H : ∀ e ∈ ds, DeepEq n e) (L : Lg C D) (hh : C.hd = none) (h0 : C.un ≤ u) (hu : u + 1 + 32 * n ≤ C.un + 8 * D.n) (ra : Rep C.P s₀ X (.list ds) va) (rb : Rep C.P s₀ X (.list ds) vb) :
    ∀ s, DeepJ C σ X s₀ s → wpAny (model prog C.w) (C.at u) (richCompare .Eq va vb) (fun v s' => v = .bool true ∧ DeepJ C σ X s₀ s') never s := by
  simp only [Rep] at ra rb
  obtain ⟨a, vs, n1, rfl, e1, x1, r1⟩ := ra
  obtain ⟨b, us, n2, rfl, e2, x2, r2⟩ := rb
  exact rcLists (by rw [Reps.length r1, Reps.length r2]) (fun s hj => ⟨hj.2.keep _ _ e1 x1, hj.2.keep _ _ e2 x2⟩) (by have := L.units; show u < cLine; omega) (deepElts (u := u + 1) H L hh (by omega) hu r1 r2)
theorem deepTuples {n u : Nat} {ds : List PV} {va vb : Value} {σ : St} {X : Addr → Prop} {s₀ : Heap} (H : ∀ e ∈ ds, DeepEq n e) (L : Lg C D) (hh : C.hd = none) (h0 : C.un ≤ u) (hu : u + 1 + 32 * n ≤ C.un + 8 * D.n) (ra : Rep C.P s₀ X (.tuple ds) va) (rb : Rep C.P s₀ X (.tuple ds) vb) :
    ∀ s, DeepJ C σ X s₀ s → wpAny (model prog C.w) (C.at u) (richCompare .Eq va vb) (fun v s' => v = .bool true ∧ DeepJ C σ X s₀ s') never s := by
  simp only [Rep] at ra rb
  obtain ⟨a, vs, rfl, e1, x1, r1⟩ := ra
  obtain ⟨b, us, rfl, e2, x2, r2⟩ := rb
  exact rcTuples (by rw [Reps.length r1, Reps.length r2]) (fun s hj => ⟨hj.2.keep _ _ e1 x1, hj.2.keep _ _ e2 x2⟩) (by have := L.units; show u < cLine; omega) (deepElts (u := u + 1) H L hh (by omega) hu r1 r2)
theorem deepDicts {n u : Nat} {ks : List Str} {ds : List PV} {va vb : Value} {σ : St} {X : Addr → Prop} {s₀ : Heap} (nd : ks.Nodup) (H : ∀ e ∈ ds, DeepEq n e) (L : Lg C D) (hh : C.hd = none) (h0 : C.un ≤ u) (hu : u + 1 + 32 * n ≤ C.un + 8 * D.n) (ra : Rep C.P s₀ X (.dict ks ds) va) (rb : Rep C.P s₀ X (.dict ks ds) vb) :
    ∀ s, DeepJ C σ X s₀ s → wpAny (model prog C.w) (C.at u) (richCompare .Eq va vb) (fun v s' => v = .bool true ∧ DeepJ C σ X s₀ s') never s := by
  simp only [Rep] at ra rb
  obtain ⟨a, es, vs, n1, rfl, e1, x1, ⟨q1, p1⟩, r1⟩ := ra
  obtain ⟨b, fs, us, n2, rfl, e2, x2, ⟨q2, p2⟩, r2⟩ := rb
  exact rcDicts nd p1 p2 (by simpa using q1) (by simpa using q2) (fun s hj => ⟨hj.2.keep _ _ e1 x1, hj.2.keep _ _ e2 x2⟩) (by have := L.units; show u < cLine; omega) (deepElts (u := u + 1) H L hh (by omega) hu r1 r2)
/-- two that are made alike are equal: a step within a frame -/
theorem TE.eqDeep {l r : Expr} {pos : Pos} {n : Nat} {σ : St} {Q : PV → St → Prop} {R : Exc → St → Prop} (L : Lg C D) (hh : C.hd = none) (hn : 1 + 32 * n ≤ 8 * D.n)
    (h : TE C l σ (fun a σ₁ => TE C r σ₁ (fun b σ₂ => (∃ ds, a = b ∧ (b = .list ds ∨ b = .tuple ds) ∧ ∀ e ∈ ds, DeepEq n e) ∧ Q (.bool true) σ₂) R) R) : TE C (.Compare l [.Eq] [r] pos) σ Q R := fun s X I => by
  refine wpAny_Compare1 (wpAny_mono (h s X I) (fun va s₁ ⟨a, σ₁, X₁, q₁, i₁, r₁, x₁⟩ => ?_) fun _ _ y => y) (by cases r <;> simp [behindInMarks])
  refine wpAny_mono (q₁ s₁ X₁ i₁) (fun vb s₂ ⟨b, σ₂, X₂, ⟨⟨ds, e, hk, H⟩, q⟩, i₂, r₂, x₂⟩ => ?_) fun _ _ y => ErP.of x₁ y
  subst e
  have hj : DeepJ C σ₂ X₂ s₂.heap s₂ := ⟨i₂, Ext.refl⟩
  have fin : wpAny (model prog C.w) (C.at C.un) (richCompare .Eq va vb) (fun v s' => v = .bool true ∧ DeepJ C σ₂ X₂ s₂.heap s') never s₂ := by
    rcases hk with rfl | rfl
    · exact deepLists H L hh (Nat.le_refl _) (by omega) (Rep.ext x₂ r₁) r₂ s₂ hj
    · exact deepTuples H L hh (Nat.le_refl _) (by omega) (Rep.ext x₂ r₁) r₂ s₂ hj
  refine wpAny_mono (show wpAny (model prog C.w) C.A (compareOp .Eq va vb) _ _ s₂ from fin) (fun v s' ⟨hv, hi, hx⟩ => ?_) fun _ _ z => z.elim
  subst hv
  exact ⟨.bool true, σ₂, X₂, q, hi, rep_bool _, (x₁.trans x₂).trans hx⟩
end
end
section
theorem okF_Code___eq__ : FdOk F_Code___eq__ ["self", "other"] := ⟨by kernel_rfl, by kernel_rfl, by kernel_rfl, by kernel_rfl, by kernel_rfl, by kernel_rfl, by kernel_rfl, by decide, fun _ => by kernel_rfl⟩
theorem bF_Code___eq__ : Bnd F_Code___eq__ ["self", "other"] := bnd2 fun a b => by kernel_rfl
theorem deep_str {n : Nat} {x : Str} : DeepEq n (.str x) := fun C D L hh u h0 hu σ X s₀ va vb ra rb => by
  simp only [Rep] at ra rb
  obtain ⟨t, rfl⟩ := ra; obtain ⟨t', rfl⟩ := rb
  exact eqJ_rc (fun _ _ _ _ e => by cases e) fun s hj => PyProof.Rows.eq_str ⟨by simp, hj⟩
theorem c_code_eq {n : Nat} {x : Str} {sc : PV} (hn : notExt sc = true) (H : DeepEq n sc) : CallOk glF K (4 * n + 2) 186 [.code x sc, .code x sc] (fun r => r = .bool true) noX := by
  refine enter (n := 4 * n + 1) kF_Code___eq__ okF_Code___eq__ bF_Code___eq__ rfl rfl fun C ok Lk L hlw hcw hh => ?_
  dsimp only [List.zip, List.zipWith]
  repeat (fail_if_success (with_reducible refine' TE.eqDeep ?a ?b ?c ?d)); tbr_iter "m1"; try tbr_iter "tt"
  refine TE.eqDeep (n := n) L hh (by show 1 + 32 * n ≤ 8 * (4 * n + 1); omega) ?_
  tbr_iter "go"
  refine ⟨⟨_, rfl, .inr rfl, fun e he => ?_⟩, rfl⟩
  simp only [List.mem_cons, List.not_mem_nil, or_false] at he
  rcases he with rfl | rfl
  · exact H
  · exact deep_str
theorem deep_scalar {n : Nat} {d : PV} (h : okD 0 d) : DeepEq n d := fun C D L hh u h0 hu σ X s₀ va vb ra rb => by
  cases d <;> simp only [okD] at h <;> simp only [Rep] at ra rb
  · subst ra rb; exact eqJ_scalar (by rfl)
  · subst ra rb; exact eqJ_scalar (by simp)
  · obtain ⟨t, rfl⟩ := ra; obtain ⟨t', rfl⟩ := rb
    exact eqJ_rc (fun _ _ _ _ e => by cases e) fun s hj => PyProof.Rows.eq_int ⟨by simp, hj⟩
  · obtain ⟨t, rfl⟩ := ra; obtain ⟨t', rfl⟩ := rb
    exact eqJ_rc (fun _ _ _ _ e => by cases e) fun s hj => PyProof.Rows.eq_str ⟨by simp, hj⟩
  · obtain ⟨t, rfl⟩ := ra; obtain ⟨t', rfl⟩ := rb
    exact eqJ_rc (fun _ _ _ _ e => by cases e) fun s hj => W.eq_bytes ⟨by simp, hj⟩
theorem deepEq : ∀ (n : Nat) (d : PV), okD n d → DeepEq n d
  | 0, d, h => deep_scalar h
  | n + 1, d, h => by
    cases d with
    | none => exact deep_scalar trivial
    | bool _ => exact deep_scalar trivial
    | int _ => exact deep_scalar trivial
    | str _ => exact deep_scalar trivial
    | bytes _ => exact deep_scalar trivial
    | tuple _ => exact h.elim
    | ext _ => exact h.elim
    | list ds =>
      have ih : ∀ e ∈ ds, DeepEq n e := fun e he => deepEq n e (h e he)
      intro C D L hh u h0 hu σ X s₀ va vb ra rb
      refine eqJ_rc (fun _ _ _ _ e => ?_) (deepLists ih L hh h0 (by omega) ra rb)
      simp only [Rep] at ra
      obtain ⟨_, _, _, rfl, _⟩ := ra
      cases e
    | dict ks ds =>
      have ih : ∀ e ∈ ds, DeepEq n e := fun e he => deepEq n e (h.2.2 e he)
      intro C D L hh u h0 hu σ X s₀ va vb ra rb
      refine eqJ_rc (fun _ _ _ _ e => ?_) (deepDicts h.1 ih L hh h0 (by omega) ra rb)
      simp only [Rep] at ra
      obtain ⟨_, _, _, _, rfl, _⟩ := ra
      cases e
    | code x sc =>
      have ih : DeepEq n sc := deepEq n sc h.2
      have hc := c_code_eq (x := x) h.1 ih
      intro C D L hh u h0 hu σ X s₀ va vb ra rb
      have ra0 := ra
      have rb0 := rb
      simp only [Rep] at ra rb
      obtain ⟨a, dx, es, n1, vt, vs, rfl, ho, nx, hd, ny, he, ⟨t, rfl⟩, rs⟩ := ra
      obtain ⟨b, dy, fs, n2, vt', us, rfl, ho', nx', hd', ny', he', ⟨t', rfl⟩, rs'⟩ := rb
      refine eqJ_rc (fun _ _ _ _ e => by cases e) fun s ⟨I, ext⟩ => ?_
      have XK := L.frag I
      have hx := ext.keep _ _ ho nx
      have hxd := ext.keep _ _ hd ny
      have hy := ext.keep _ _ ho' nx'
      refine rcInst (w := C.w) (od := some (dctObj es n1)) (by have := L.units; show u < cLine; omega) XK ⟨hx, rfl, rfl, hxd⟩ ((Looks.ld hy).andThen .now) (wpAny_call (codeAny_mono (hc C.w C.base (C.fenv :: C.outer) C.dp u C.gd C.hd s X [.ref a, .ref b] (by rw [← L.glq, ← L.kq]; exact L.ok.bs) I.stay I.frames I.gens hh (fun a m => I.mx a (L.ok.sm a m)) I.xb I.xl (Reps.cons (Rep.ext ext ra0) (Reps.cons (Rep.ext ext rb0) Reps.nil)) (by have := L.room; omega) (by have := L.units; omega)) fun r₀ s' z => ?_))
      match r₀, z with
      | .ok (.ret v), ⟨d, q3, r1, up, g, o⟩ =>
        subst q3
        simp only [Rep] at r1
        subst r1
        have e2 := up.toExt fun a m => I.mx a (L.ok.sm a m)
        exact ⟨nofun, rfl, I.after L.ok up g o, ext.trans e2⟩
      | .error _, ⟨_, _, _, rx, _⟩ => exact rx.elim
end
section
section
variable {C : Cx} {D : Dn} {σ : St} {R : Exc → St → Prop} {Q : PV → St → Prop} {QB : Bool → St → Prop}
/-- tuples joined -/
theorem tupAdd_pur {w : World} {A : Around} {s : Shared} {X : Addr → Prop} {K' : PV → Prop} {x y : List PV} {va vb : Value} (hx : ¬ X s.heap.objs.size) (n1 : x ≠ []) (n2 : y ≠ []) (hz : x.length + y.length ≤ 16777216) (ra : Rep w.params s.heap X (.tuple x) va) (rb : Rep w.params s.heap X (.tuple y) vb) (q : K' (.tuple (x ++ y))) : Pur w A (binaryOp .Add va vb) s X K' := by
  simp only [Rep] at ra rb
  obtain ⟨a, vs, rfl, ea, na, r1⟩ := ra
  obtain ⟨b, us, rfl, eb, nb, r2⟩ := rb
  have l1 := Reps.length r1; have l2 := Reps.length r2
  refine Pur.made (o := tupObj (vs ++ us)) q (new_tuple hx (Reps.append r1 r2)) fun E Q k => ?_
  refine concat_meets ⟨_, ea, rfl⟩ ⟨_, eb, rfl⟩ noFill_tuple_add seq_tuple_add PySem.F.slot_tuple_add PySem.F.entry_tuple_add (PySem.F.args_tuple_add_2 _ _) (tuple_addW2 a b vs.toArray us.toArray 0 0 none none #[] #[] (by cases x <;> cases vs <;> simp at *) (by cases y <;> cases us <;> simp at *) (by simp only [List.size_toArray, sizeLine_eq]; omega)) ⟨ea, eb, ?_⟩
  rw [List.append_toArray]
  exact k _
theorem TE.tupAdd {l r : Expr} {pos : Pos} (h : TE C l σ (fun a σ₁ => TE C r σ₁ (fun b σ₂ => ∃ x y, a = .tuple x ∧ b = .tuple y ∧ (x ≠ [] ∧ y ≠ [] ∧ x.length + y.length ≤ 16777216) ∧ Q (.tuple (x ++ y)) σ₂) R) R) : TE C (.BinOp l .Add r pos) σ Q R :=
  TE.binop (TE.mono h (fun _ _ y => TE.mono y (fun _ _ ⟨x, y, e1, e2, ⟨n1, n2, hz⟩, q⟩ _ _ _ _ I ra rb => by subst e1 e2; exact tupAdd_pur I.fresh n1 n2 hz ra rb q) fun _ _ z => z) fun _ _ z => z)
/-- None == None -/
theorem TE.eqNone {l r : Expr} {pos : Pos} (hm : behindInMarks .Eq r = false) (h : TE C l σ (fun a σ₁ => TE C r σ₁ (fun b σ₂ => a = .none ∧ b = .none ∧ Q (.bool true) σ₂) R) R) : TE C (.Compare l [.Eq] [r] pos) σ Q R :=
  TE.cmp hm (TE.mono h (fun _ _ y => TE.mono y (fun _ _ ⟨e1, e2, q⟩ s X va vb I ra rb => by
    subst e1 e2
    simp only [Rep] at ra rb
    subst ra rb
    exact Pur.same q (rep_bool _) fun E Q k => PySem.SeqAt.RcAt.none_none prog C.w E Q (k s.toks)) fun _ _ z => z) fun _ _ z => z)
theorem TB.eqDeep {l r : Expr} {pos : Pos} {n : Nat} (L : Lg C D) (hh : C.hd = none) (hn : 1 + 32 * n ≤ 8 * D.n)
    (h : TE C l σ (fun a σ₁ => TE C r σ₁ (fun b σ₂ => (∃ ds, a = b ∧ (b = .list ds ∨ b = .tuple ds) ∧ ∀ e ∈ ds, DeepEq n e) ∧ QB true σ₂) R) R) : TB C (.Compare l [.Eq] [r] pos) σ QB R := fun s X I => by
  refine wpAny_isTrue_Compare1 (wpAny_mono (h s X I) (fun va s₁ ⟨a, σ₁, X₁, q₁, i₁, r₁, x₁⟩ => ?_) fun _ _ y => y) (by cases r <;> simp [behindInMarks])
  refine wpAny_mono (q₁ s₁ X₁ i₁) (fun vb s₂ ⟨b, σ₂, X₂, ⟨⟨ds, e, hk, H⟩, q⟩, i₂, r₂, x₂⟩ => ?_) fun _ _ y => ErP.of x₁ y
  subst e
  have hj : DeepJ C σ₂ X₂ s₂.heap s₂ := ⟨i₂, Ext.refl⟩
  have fin : wpAny (model prog C.w) (C.at C.un) (richCompare .Eq va vb) (fun v s' => v = .bool true ∧ DeepJ C σ₂ X₂ s₂.heap s') never s₂ := by
    rcases hk with rfl | rfl
    · exact deepLists H L hh (Nat.le_refl _) (by omega) (Rep.ext x₂ r₁) r₂ s₂ hj
    · exact deepTuples H L hh (Nat.le_refl _) (by omega) (Rep.ext x₂ r₁) r₂ s₂ hj
  refine wpAny_mono (show wpAny (model prog C.w) C.A (compareOp .Eq va vb) _ _ s₂ from fin) (fun v s' ⟨hv, hi, hx⟩ => ?_) fun _ _ z => z.elim
  subst hv
  exact wpAny_truthy_bool ⟨σ₂, X₂, q, hi, (x₁.trans x₂).trans hx⟩
theorem eqAt_bytes {A : Around} {s : Shared} {x y : Array UInt8} {t u : Tok} (h : x = y) : PySem.SeqAt.EqAt A s (.bytes x t) (.bytes y u) true := fun prog w E Q hq => by
  unfold eqBool
  refine wpAny_holding ?_
  refine wpAny_ite_split (fun _ => wpAny_bind (wpAny_rule (wpAny_pure hq))) fun _ => ?_
  show wpAny _ _ (richCompare .Eq _ _ >>= truthOfDropped) _ _ _
  exact wpAny_bind (W.eq_bytes (wpAny_truthy_bool (by rw [h]; simpa using hq)))
/-- lists of octets that are alike: != says no -/
theorem TB.neBytes {l r : Expr} {pos : Pos} (L : Lg C D) (h : TE C l σ (fun a σ₁ => TE C r σ₁ (fun b σ₂ => (∃ ds bs, a = .list ds ∧ b = .list ds ∧ bytesOf ds = some bs) ∧ QB false σ₂) R) R) : TB C (.Compare l [.NotEq] [r] pos) σ QB R :=
  TB.of_cmp (by cases r <;> simp [behindInMarks]) (TE.mono h (fun _ _ y => TE.mono y (fun _ _ ⟨⟨ds, bs, e1, e2, hb⟩, q⟩ s X va vb I ra rb => by
    subst e1 e2
    simp only [Rep] at ra rb
    obtain ⟨a, vs, n1, rfl, ea, na, r1⟩ := ra
    obtain ⟨b, us, n2, rfl, eb, nb, r2⟩ := rb
    obtain ⟨ps, rfl, p2⟩ := bytesOf_reps hb r1
    obtain ⟨qs, rfl, q2⟩ := bytesOf_reps hb r2
    have hl : ps.length = qs.length := by have := p2.trans q2.symm; simpa using congrArg List.length this
    refine Pur.same (v := .bool false) ⟨_, rfl, q⟩ (rep_bool _) fun E Q k => ?_
    refine PySem.SeqAt.RcNeAt.lists (e := fun _ => true) (isList_of ea) (isList_of eb) (by simp [hl]) (by have := L.units; show C.un < cLine; omega) (fun j h1 h2 => ?_) prog C.w E Q (by rw [List.all_eq_true.mpr (fun _ _ => rfl)]; exact k s.toks)
    have hp : j < ps.length := by simpa using h1
    have hq : j < qs.length := by simpa using h2
    have he : ps[j].1 = qs[j].1 := by
      have := congrArg (fun l => l[j]?) (p2.trans q2.symm)
      simp only [List.getElem?_map, List.getElem?_eq_getElem hp, List.getElem?_eq_getElem hq, Option.map_some, Option.some.injEq] at this
      exact Array.toList_inj.mp this
    simpa using eqAt_bytes (t := ps[j].2) (u := qs[j].2) he) fun _ _ z => z) fun _ _ z => z)
theorem lawRest (P : Params) : (K P).lookup 1478 = some (lstObj [.int 12 2327, .int 11 2328, .int 6 2329, .int 31 2330, .int 8 2331, .int 100 2332, .int 10 2333, .int 7 2334] 0) := by kernel_rfl
abbrev restF : List PV := [.int 12, .int 11, .int 6, .int 31, .int 8, .int 100, .int 10, .int 7]
theorem TE.rest (L : Lg C D) {pos} (k : D.names.lookup ("_law_rest" : Str) = some .globalImplicit) (h : Q (.list restF) σ) : TE C (.Name "_law_rest" pos) σ Q R := fun s X I => by
  refine wpAny_Name (load_glob L.ok I.stay (L.kind k) (L.gv gl__law_rest) ?_) (str_ne (by decide))
  have XK := L.frag I
  have hx : ¬ X 1478 := fun m => by
    have := I.xb _ m
    have h2 := L.ok.bs.frag 1478 _ (by rw [L.kq]; exact lawRest _)
    rw [this] at h2; cases h2
  refine ⟨.list restF, σ, X, h, I, rep_list (XK _ _ (lawRest _)) hx ?_, Ext.refl⟩
  exact Reps.cons (rep_int _ _) (Reps.cons (rep_int _ _) (Reps.cons (rep_int _ _) (Reps.cons (rep_int _ _) (Reps.cons (rep_int _ _) (Reps.cons (rep_int _ _) (Reps.cons (rep_int _ _) (Reps.cons (rep_int _ _) Reps.nil)))))))
end
end
section
theorem okF_law_leaf : FdOk F_law_leaf ["n"] := ⟨by kernel_rfl, by kernel_rfl, by kernel_rfl, by kernel_rfl, by kernel_rfl, by kernel_rfl, by kernel_rfl, by decide, fun _ => by kernel_rfl⟩
theorem bF_law_leaf : Bnd F_law_leaf ["n"] := bnd1 fun a => by kernel_rfl
abbrev Mk := Nat × Nat × Nat
def mkPV (m : Mk) : PV := .tuple [.int (m.1 : Nat), .int (m.2.1 : Nat), .int (m.2.2 : Nat)]
/-- a mark: the octet there may be changed to such ones, and it hurts -/
structure SetOk (b : List UInt8) (H : List UInt8 → Prop) (m : Mk) : Prop where
  lt : m.1 < b.length
  pos : 1 ≤ m.2.2
  top : m.2.1 + m.2.2 ≤ 256
  hurt : ∀ c : UInt8, m.2.1 ≤ c.toNat → c.toNat < m.2.1 + m.2.2 → H (b.set m.1 c)
structure Body (d : Dat) (ms : List Mk) : Prop where
  wf : d.Wf
  marks : ∀ m ∈ ms, SetOk d.body d.Hurt m
  few : ms.length ≤ d.body.length
def bodyPV (d : Dat) (ms : List Mk) : List PV := [.int (d.kind.toNat : Nat), .bytes d.body, .list (ms.map mkPV), d.val]
theorem pylong9 (x : Int) : Builtin.divisionGoesByPylong x 9 = false := by
  unfold Builtin.divisionGoesByPylong
  have : decide ((if ((9 : Int) == 0) = true then 0 else (9 : Int).natAbs.log2 / 30 + 1) > 300) = false := by decide +kernel
  simp only [this, Bool.false_and]
theorem fmod_rng (x : Int) {y : Int} (h : 0 < y) : 0 ≤ x.fmod y ∧ x.fmod y < y := ⟨Int.fmod_nonneg_of_pos x h, Int.fmod_lt_of_pos x h⟩
theorem leaf_text (m : Int) : ∃ x b, Txt x b ∧ strCut (Str.ofString "aä\x00") (m.fmod 4) = x ∧ b.length ≤ 4 := by
  have h := fmod_rng m (y := 4) (by omega)
  have hm : m.fmod 4 = 0 ∨ m.fmod 4 = 1 ∨ m.fmod 4 = 2 ∨ m.fmod 4 = 3 := by omega
  rcases hm with e | e | e | e <;> rw [e]
  · exact ⟨Str.ofString "", [], ⟨enc_texts.1, dec_texts.1, by decide, by decide⟩, by decide +kernel, by decide⟩
  · exact ⟨Str.ofString "a", [97], ⟨enc_texts.2.1, dec_texts.2.1, by decide, by decide⟩, by decide +kernel, by decide⟩
  · exact ⟨Str.ofString "aä", [97, 195, 164], ⟨enc_texts.2.2.1, dec_texts.2.2.1, by decide, by decide⟩, by decide +kernel, by decide⟩
  · exact ⟨Str.ofString "aä\x00", [97, 195, 164, 0], ⟨enc_texts.2.2.2, dec_texts.2.2.2, by decide, by decide⟩, by decide +kernel, by decide⟩
theorem strX_set {b : List UInt8} {c : UInt8} : (strO b).set (b.length + 4) c = strX b c := by
  have h4 : (low4 ((b.length : Int) + 1)).length = 4 := KTBy.low_length _ _
  unfold strO strX
  rw [List.set_append_right _ _ (by omega), h4, List.set_append_right _ _ (by omega)]
  rw [show b.length + 4 - 4 - b.length = 0 by omega]
  rfl
theorem c_ne0 {c : UInt8} (h : 1 ≤ c.toNat) : c ≠ 0 := fun e => by rw [e] at h; exact absurd h (by decide)
theorem shut_txt {x : Str} {b : List UInt8} (h : Txt x b) : Body (.txt x b) [(b.length + 4, 1, 255)] :=
  ⟨h, fun m hm => by
    simp only [List.mem_singleton] at hm; subst hm
    exact ⟨by rw [Dat.body, str_len]; omega, (show 1 ≤ 255 by decide), (show 1 + 255 ≤ 256 by decide), fun c h1 _ => by rw [Dat.body, strX_set]; exact ⟨c, c_ne0 h1, rfl⟩⟩, by rw [Dat.body, str_len]; simp⟩
theorem shut_cod {x : Str} {b : List UInt8} (h : Txt x b) : Body (.cod x b) [(b.length + 4, 1, 255)] :=
  ⟨h, fun m hm => by
    simp only [List.mem_singleton] at hm; subst hm
    exact ⟨by rw [Dat.body, str_len]; omega, (show 1 ≤ 255 by decide), (show 1 + 255 ≤ 256 by decide), fun c h1 _ => by rw [Dat.body, strX_set]; exact ⟨c, c_ne0 h1, rfl⟩⟩, by rw [Dat.body, str_len]; simp⟩
theorem tru_marks (v : Bool) : Body (.tru v) [(0, 2, 254)] :=
  ⟨trivial, fun m hm => by
    simp only [List.mem_singleton] at hm; subst hm
    refine ⟨by simp [Dat.body], by decide, by decide, fun c h1 _ => ?_⟩
    simp only [Dat.body, Dat.Hurt, List.set_cons_zero]
    exact ⟨c, fun e => by rw [e] at h1; exact absurd h1 (by decide), fun e => by rw [e] at h1; exact absurd h1 (by decide), rfl⟩, by simp [Dat.body]⟩
set_option maxHeartbeats 4000000 in
theorem c_leaf {n : Nat} {i : Int} (h4 : i.fmod 9 ≤ 4) (hn : 3 ≤ n) : CallOk glF K (n + 1) 1485 [.int i] (fun r => ∃ d ms, Body d ms ∧ d.dep = 0 ∧ d.body.length ≤ 12 ∧ r = .tuple (bodyPV d ms)) noX := by
  obtain ⟨x, b, hT, hcut, hb⟩ := leaf_text (i.fdiv 9)
  have hx := hT.xs
  have r2 := fmod_rng (i.fdiv 9) (y := 2) (by omega)
  have r3 := fmod_rng (i.fdiv 9) (y := 4294967296) (by omega)
  have r9 := fmod_rng i (y := 9) (by omega)
  have hla : (Str.ofString "aä\x00").length = 3 := by decide
  refine enter kF_law_leaf okF_law_leaf bF_law_leaf rfl rfl fun C ok Lk L hlw hcw hh => ?_
  dsimp only [List.zip, List.zipWith]
  tbr_iter "go"
  refine ⟨⟨by omega, pylong9 i⟩, ?_⟩
  generalize i.fdiv 9 = m at *
  tbr_iter "go"
  rw [hcut]
  refine ⟨⟨by omega, by omega⟩, ?_⟩
  tbr_iter "go"
  refine ⟨b, .inl rfl, hT.enc, by omega, ?_⟩
  tbr_iter "go"
  have e : (((b ++ [0]).length : Nat) : Int) = (b.length : Int) + 1 := by simp
  rw [e]
  refine ⟨⟨rfl, by omega, by omega⟩, ?_⟩
  tbr_iter "go"
  refine ⟨bits4 (by omega) (by omega), ?_⟩
  tbr_iter "go"
  refine ⟨by simp; omega, by simp, ?_⟩
  tbr_iter "go"
  refine TC.code L hh (by show 2 ≤ n; omega) (.inl ⟨rfl, rfl⟩) ?_
  tbr_iter "go"
  have e3 : (3 : Int) + ((b ++ [0]).length : Nat) = ((b.length + 4 : Nat) : Int) := by simp; omega
  rw [e3]
  have hsb : strO b = KTBy.low ((b.length : Int) + 1) 4 ++ (b ++ [0]) := rfl
  rw [← hsb]
  have hi : i.fmod 9 = 0 ∨ i.fmod 9 = 1 ∨ i.fmod 9 = 2 ∨ i.fmod 9 = 3 ∨ i.fmod 9 = 4 := by omega
  rcases hi with hi | hi | hi | hi | hi <;> rw [hi]
  · refine itemL (by omega) rfl ⟨.nul, [], ⟨trivial, by simp, by simp⟩, rfl, by simp [Dat.body], rfl⟩
  · refine itemL (by omega) rfl ⟨.num (m.fmod 4294967296 - 2147483648), [], ⟨⟨by omega, by omega⟩, by simp, by simp⟩, rfl, by simp [Dat.body, KTBy.low_length], rfl⟩
  · have h2 : m.fmod 2 = 0 ∨ m.fmod 2 = 1 := by omega
    rcases h2 with h2 | h2 <;> rw [h2]
    · exact itemL (by omega) rfl ⟨.tru false, [(0, 2, 254)], tru_marks _, rfl, by simp [Dat.body], rfl⟩
    · exact itemL (by omega) rfl ⟨.tru true, [(0, 2, 254)], tru_marks _, rfl, by simp [Dat.body], rfl⟩
  · exact itemL (by omega) rfl ⟨.txt x b, [(b.length + 4, 1, 255)], shut_txt hT, rfl, by rw [Dat.body, str_len]; omega, rfl⟩
  · exact itemL (by omega) rfl ⟨.cod x b, [(b.length + 4, 1, 255)], shut_cod hT, rfl, by rw [Dat.body, str_len]; omega, rfl⟩
end
section
/-! fields, as the law lays them -/
structure FE where
  x : Str
  b : List UInt8
  d : Dat
  ms : List Mk
def FE.pv (e : FE) : PV := .tuple (.str e.x :: bodyPV e.d e.ms)
structure FE.Ok (e : FE) : Prop where
  nm : Nm e.x e.b
  body : Body e.d e.ms
def dig (k : Nat) : Str := Str.ofString (toString (k : Int))
def digO (k : Nat) : List UInt8 := [(48 + k).toUInt8]
def nmX (row : Bool) (k : Nat) (e : FE) : Str := if row then dig k else e.x
def nmB (row : Bool) (k : Nat) (e : FE) : List UInt8 := if row then digO k else e.b
def mkF (row : Bool) : Nat → List FE → Flds
  | _, [] => .nil
  | k, e :: r => .cons (nmX row k e) (nmB row k e) e.d (mkF row (k + 1) r)
def shiftM (a : Nat) (ms : List Mk) : List Mk := ms.map fun m => (a + m.1, m.2.1, m.2.2)
def mksOf (row : Bool) : Nat → Nat → List FE → List Mk
  | _, _, [] => []
  | k, at0, e :: r => ((at0, 20, 107) :: shiftM (at0 + ((nmB row k e).length + 2)) e.ms) ++ mksOf row (k + 1) (at0 + ((nmB row k e).length + 2 + e.d.body.length)) r
theorem mkF_snoc (row : Bool) : ∀ (a : List FE) (k : Nat) (e : FE), (mkF row k (a ++ [e])).octs = (mkF row k a).octs ++ ([e.d.kind] ++ (nmB row (k + a.length) e ++ [0]) ++ e.d.body)
  | [], k, e => by simp [mkF, Flds.octs]
  | x :: a, k, e => by
    have := mkF_snoc row a (k + 1) e
    simp only [List.cons_append, mkF, Flds.octs, this, List.length_cons]
    rw [show k + 1 + a.length = k + (a.length + 1) by omega]
    simp
theorem mks_snoc (row : Bool) : ∀ (a : List FE) (k at0 : Nat) (e : FE), mksOf row k at0 (a ++ [e]) = mksOf row k at0 a ++ ((at0 + (mkF row k a).octs.length, 20, 107) :: shiftM (at0 + (mkF row k a).octs.length + ((nmB row (k + a.length) e).length + 2)) e.ms)
  | [], k, at0, e => by simp [mksOf, mkF, Flds.octs]
  | x :: a, k, at0, e => by
    have := mks_snoc row a (k + 1) (at0 + ((nmB row k x).length + 2 + x.d.body.length)) e
    simp only [List.cons_append, mksOf, mkF, this, List.length_cons, octs_pos, List.append_assoc]
    rw [show k + 1 + a.length = k + (a.length + 1) by omega, show at0 + ((nmB row k x).length + 2 + x.d.body.length) + (mkF row (k + 1) a).octs.length = at0 + ((nmB row k x).length + 2 + x.d.body.length + (mkF row (k + 1) a).octs.length) by omega]
theorem mks_ok (row : Bool) : ∀ (fs : List FE) (k at0 : Nat), (∀ e ∈ fs, Body e.d e.ms) → ∀ m ∈ mksOf row k at0 fs, at0 ≤ m.1 ∧ SetOk (mkF row k fs).octs (mkF row k fs).Hurt (m.1 - at0, m.2.1, m.2.2)
  | [], _, _, _, m, hm => by simp [mksOf] at hm
  | e :: r, k, at0, h, m, hm => by
    have hb := h e (.head _)
    simp only [mksOf, List.mem_append, List.mem_cons] at hm
    have hlen : (mkF row k (e :: r)).octs.length = (nmB row k e).length + 2 + e.d.body.length + (mkF row (k + 1) r).octs.length := by simp only [mkF, octs_pos]
    have hhead : ([e.d.kind] ++ (nmB row k e ++ [0])).length = (nmB row k e).length + 2 := by simp
    rcases hm with (rfl | hm) | hm
    · refine ⟨Nat.le_refl _, ⟨?_, (show 1 ≤ 107 by decide), (show 20 + 107 ≤ 256 by decide), fun c h1 h2 => ?_⟩⟩
      · show at0 - at0 < _
        rw [hlen]; omega
      · have h1' : 20 ≤ c.toNat := h1
        have h2' : c.toNat < 20 + 107 := h2
        show (mkF row k (e :: r)).Hurt ((mkF row k (e :: r)).octs.set (at0 - at0) c)
        simp only [mkF, Flds.Hurt, Flds.octs, Nat.sub_self]
        exact .inl ⟨c, h1', by omega, by simp⟩
    · simp only [shiftM, List.mem_map] at hm
      obtain ⟨m', hm', rfl⟩ := hm
      have ho := hb.marks m' hm'
      refine ⟨by show at0 ≤ at0 + _ + m'.1; omega, ⟨?_, ho.pos, ho.top, fun c h1 h2 => ?_⟩⟩
      · show at0 + ((nmB row k e).length + 2) + m'.1 - at0 < _
        have := ho.lt
        rw [hlen]; omega
      · have hh := ho.hurt c h1 h2
        show (mkF row k (e :: r)).Hurt ((mkF row k (e :: r)).octs.set (at0 + ((nmB row k e).length + 2) + m'.1 - at0) c)
        rw [show at0 + ((nmB row k e).length + 2) + m'.1 - at0 = (nmB row k e).length + 2 + m'.1 by omega]
        simp only [mkF, Flds.Hurt, Flds.octs]
        refine .inr (.inl ⟨_, hh, by simp, ?_⟩)
        have := ho.lt
        rw [List.set_append_left _ _ (by rw [List.length_append, hhead]; omega), List.set_append_right _ _ (by rw [hhead]; omega), hhead, show (nmB row k e).length + 2 + m'.1 - ((nmB row k e).length + 2) = m'.1 by omega]
    · obtain ⟨h1, ho⟩ := mks_ok row r (k + 1) _ (fun y hy => h y (.tail _ hy)) m hm
      refine ⟨by omega, ⟨?_, ho.pos, ho.top, fun c g1 g2 => ?_⟩⟩
      · have := ho.lt
        dsimp only at this ⊢
        rw [hlen]; omega
      · have hh := ho.hurt c g1 g2
        have hlt := ho.lt
        dsimp only at hh hlt ⊢
        simp only [mkF, Flds.Hurt, Flds.octs]
        refine .inr (.inr ⟨_, hh, by simp, ?_⟩)
        have hb2 : ([e.d.kind] ++ (nmB row k e ++ [0]) ++ e.d.body).length = (nmB row k e).length + 2 + e.d.body.length := by rw [List.length_append, hhead]
        rw [List.set_append_right _ _ (by rw [hb2]; omega), hb2, show m.1 - at0 - ((nmB row k e).length + 2 + e.d.body.length) = m.1 - (at0 + ((nmB row k e).length + 2 + e.d.body.length)) by omega]
theorem mks_len (row : Bool) : ∀ (fs : List FE) (k at0 : Nat), (∀ e ∈ fs, Body e.d e.ms) → (mksOf row k at0 fs).length ≤ (mkF row k fs).octs.length
  | [], _, _, _ => by simp [mksOf]
  | e :: r, k, at0, h => by
    have := mks_len row r (k + 1) (at0 + ((nmB row k e).length + 2 + e.d.body.length)) fun y hy => h y (.tail _ hy)
    have hb := (h e (.head _)).few
    simp only [mksOf, mkF, octs_pos, List.length_append, List.length_cons, shiftM, List.length_map]
    omega
def laidM (row : Bool) (fs : List FE) : List Mk := mksOf row 0 4 fs ++ [(4 + (mkF row 0 fs).octs.length, 1, 255)]
theorem wrapX_set {o : List UInt8} {c : UInt8} : (wrapO o).set (4 + o.length) c = wrapX o c := by
  have h4 : (low4 ((o.length : Int) + 5)).length = 4 := KTBy.low_length _ _
  unfold wrapO wrapX
  rw [List.set_append_right _ _ (by rw [List.length_append, h4]; omega), List.length_append, h4, Nat.sub_self]
  rfl
theorem wrapO_set {o : List UInt8} {p : Nat} {c : UInt8} (h : p < o.length) : (wrapO o).set (4 + p) c = wrapO (o.set p c) := by
  have h4 : (low4 ((o.length : Int) + 5)).length = 4 := KTBy.low_length _ _
  unfold wrapO
  rw [List.length_set, List.set_append_left _ _ (by rw [List.length_append, h4]; omega), List.set_append_right _ _ (by omega), h4, show 4 + p - 4 = p by omega]
/-- the marks of a whole document or row -/
theorem laid_ok {row : Bool} {fs : List FE} (h : ∀ e ∈ fs, Body e.d e.ms) : ∀ m ∈ laidM row fs, 4 ≤ m.1 ∧ SetOk (wrapO (mkF row 0 fs).octs) (HurtW (mkF row 0 fs).octs (mkF row 0 fs).Hurt) m := by
  intro m hm
  simp only [laidM, List.mem_append, List.mem_singleton] at hm
  rcases hm with hm | rfl
  · obtain ⟨h1, ho⟩ := mks_ok row fs 0 4 h m hm
    have hlt := ho.lt
    dsimp only at hlt
    refine ⟨h1, ⟨by rw [wrap_len]; omega, ho.pos, ho.top, fun c g1 g2 => ?_⟩⟩
    have hh := ho.hurt c g1 g2
    dsimp only at hh
    have e : m.1 = 4 + (m.1 - 4) := by omega
    rw [e, wrapO_set hlt]
    exact .inr ⟨_, hh, by simp, rfl⟩
  · exact ⟨by show 4 ≤ 4 + _; omega, ⟨by rw [wrap_len]; show 4 + _ < _; omega, (show 1 ≤ 255 by decide), (show 1 + 255 ≤ 256 by decide), fun c g1 _ => by
      show HurtW _ _ ((wrapO _).set (4 + _) c)
      rw [wrapX_set]
      exact .inl ⟨c, c_ne0 g1, rfl⟩⟩⟩
theorem laid_len {row : Bool} {fs : List FE} (h : ∀ e ∈ fs, Body e.d e.ms) : (laidM row fs).length ≤ (mkF row 0 fs).octs.length + 1 := by
  have := mks_len row fs 0 4 h
  simp only [laidM, List.length_append, List.length_cons, List.length_nil]
  omega
end
section
theorem okF_law_laid : FdOk F_law_laid ["fields", "in_row"] := ⟨by kernel_rfl, by kernel_rfl, by kernel_rfl, by kernel_rfl, by kernel_rfl, by kernel_rfl, by kernel_rfl, by decide, fun _ => by kernel_rfl⟩
theorem bF_law_laid : Bnd F_law_laid ["fields", "in_row"] := bnd2 fun a b => by kernel_rfl
theorem range0 (n : Nat) : rangeF 0 (n : Int) = (List.range n).map fun i : Nat => PV.int (i : Int) := by
  unfold rangeF
  rw [show ((n : Int) - 0).toNat = n by omega]
  simp
theorem dig_fact : ∀ k : Nat, k < 6 → EncIs (dig k) (digO k) ∧ (dig k).length = 1 := by
  intro k hk
  have h : k = 0 ∨ k = 1 ∨ k = 2 ∨ k = 3 ∨ k = 4 ∨ k = 5 := by omega
  rcases h with rfl | rfl | rfl | rfl | rfl | rfl <;> exact ⟨fun t => by kernel_rfl, by kernel_rfl⟩
theorem nm_enc {row : Bool} {k : Nat} {e : FE} (h : Nm e.x e.b) (hk : k < 6) : EncIs (nmX row k e) (nmB row k e) ∧ (nmX row k e).length ≤ 100 ∧ (nmB row k e).length ≤ 100 := by
  cases row
  · exact ⟨h.enc, h.xs, h.bs⟩
  · have := dig_fact k hk
    exact ⟨this.1, by show (dig k).length ≤ 100; omega, by simp [nmB, digO]⟩
theorem u8_nat {n : Nat} (h : n < 256) : ((n : Int)).toNat.toUInt8.toNat = n := by
  rw [Int.toNat_natCast]
  simp [Nat.toUInt8, Nat.mod_eq_of_lt h]
theorem kind_u8 (d : Dat) : ((d.kind.toNat : Int)).toNat.toUInt8 = d.kind := by cases d <;> rfl
theorem ifRow {row : Bool} {C : Cx} {e1 e2 : Expr} {σ : St} {Q : PV → St → Prop} {R : Exc → St → Prop} {x y : Str} (h1 : ∀ Q : PV → St → Prop, Q (.str x) σ → TE C e1 σ Q R) (h2 : ∀ Q : PV → St → Prop, Q (.str y) σ → TE C e2 σ Q R) (h : Q (.str (if row then x else y)) σ) :
    if row = true then TE C e1 σ Q R else TE C e2 σ Q R := by
  cases row
  · exact go_f Bool.false_ne_true (h2 Q h)
  · exact go_t rfl (h1 Q h)
structure DIn (row : Bool) (fs : List FE) (acc : List Nat) (σ : St) : Prop where
  own : σ.own = none
  oc : σ.vars.lookup ("octets" : Str) = some (.bytes (mkF row 0 (fs.take acc.length)).octs)
  mq : σ.vars.lookup ("marks" : Str) = some (.list ((mksOf row 0 4 (fs.take acc.length)).map mkPV))
  fl : σ.vars.lookup ("fields" : Str) = some (.list (fs.map FE.pv))
  rw : σ.vars.lookup ("in_row" : Str) = some (.bool row)
theorem octs_take {row : Bool} {fs : List FE} (n : Nat) : (mkF row 0 (fs.take n)).octs.length ≤ (mkF row 0 fs).octs.length := by
  have key : ∀ (fs : List FE) (k n : Nat), (mkF row k (fs.take n)).octs.length ≤ (mkF row k fs).octs.length := by
    intro fs
    induction fs with
    | nil => intro k n; simp
    | cons e r ih =>
      intro k n
      cases n with
      | zero => simp [mkF, Flds.octs]
      | succ n =>
        have := ih (k + 1) n
        simp only [List.take_succ_cons, mkF, octs_pos]
        omega
  exact key fs 0 n
set_option maxHeartbeats 4000000 in
theorem c_laid {n : Nat} {row : Bool} {fs : List FE} (h : ∀ e ∈ fs, FE.Ok e) (h6 : fs.length ≤ 6) (hz : (mkF row 0 fs).octs.length ≤ 100000) :
    CallOk glF K (n + 1) 1490 [.list (fs.map FE.pv), .bool row] (fun r => r = .tuple [.bytes (wrapO (mkF row 0 fs).octs), .list ((laidM row fs).map mkPV)]) noX := by
  have hb : ∀ e ∈ fs, Body e.d e.ms := fun e he => (h e he).body
  refine enter kF_law_laid okF_law_laid bF_law_laid rfl rfl fun C ok Lk L hlw hcw hh => ?_
  dsimp only [List.zip, List.zipWith]
  tbr_iter "stmt"
  refine T1.assign ok (by tbr_iter "can") rfl ?_
  tbr_iter "expr"
  refine ⟨nofun, ?_⟩
  tbr_iter "stmt"
  refine T1.assign ok (by tbr_iter "can") rfl ?_
  tbr_iter "go"
  refine T1.for ok Lk.fe hh (fun _ => rfl) (TI.range1 ok hh (L.kind (by kernel_rfl)) (L.gv gl_range) rfl ?_)
  tbr_iter "go"
  refine ⟨by rw [List.length_map]; omega, ?_⟩
  tbr_iter "go"
  rw [List.length_map]
  refine ⟨⟨by omega, by omega⟩, ?_⟩
  rw [range0]
  refine ForT.list (fun i : Nat => PV.int (i : Int)) (DIn row fs) (fun acc i => i = acc.length ∧ i < fs.length) ?_ (List.range fs.length) [] _ (fun k a e => ?_) ⟨rfl, (show _ = some (PV.bytes []) by tbr_iter "lk"), (show _ = some (PV.list []) by tbr_iter "lk"), by tbr_iter "lk", by tbr_iter "lk"⟩ ?_
  · intro i acc σ ⟨hi, hlt⟩ ⟨h1, h2, h3, h4, h5⟩
    have hfe : (fs.map FE.pv)[((i : Int)).toNat]? = some (fs[i].pv) := by rw [Int.toNat_natCast, List.getElem?_map, List.getElem?_eq_getElem hlt]; rfl
    have hOk := h fs[i] (List.getElem_mem hlt)
    obtain ⟨he, hx1, hx2⟩ := nm_enc (row := row) (k := i) hOk.nm (by omega)
    have hol := octs_take (row := row) (fs := fs) acc.length
    refine ⟨_, Bind.name (L.canL hlw (by kernel_rfl)) (own_ne_none h1), ?_⟩
    tbr_iter "go"
    refine itemL (by omega) hfe ?_
    tbr_iter "go"
    refine ⟨⟨own_ne_none h1, own_ne_none h1, own_ne_none h1, own_ne_none h1, own_ne_none h1⟩, ?_⟩
    tbr_iter "go"
    have hk1 := fs[i].d.kind.toNat_lt
    refine ⟨by simp; omega, by simp, ?_⟩
    simp only [List.map_cons, List.map_nil, kind_u8]
    tbr_iter "go"
    refine ifRow (x := dig i) (y := fs[i].x) (fun Q' hq => ?_) (fun Q' hq => ?_) ?_
    · tbr_iter "go"
      exact ⟨log_small (by omega), hq⟩
    · tbr_iter "go"
      exact hq
    show (∃ x, PV.str (nmX row i fs[i]) = PV.str x) ∧ _
    tbr_iter "go"
    refine ⟨_, .inl rfl, he, by omega, ?_⟩
    tbr_iter "go"
    have hml := mks_len row (fs.take acc.length) 0 4 (fun e he => hb e (List.mem_of_mem_take he))
    have hfew := hOk.body.few
    have hbl : (mkF row 0 (fs.take (acc.length + 1))).octs.length ≤ _ := octs_take (row := row) (fs := fs) (acc.length + 1)
    have hsn : fs.take (acc.length + 1) = fs.take acc.length ++ [fs[i]] := by subst hi; rw [List.take_succ, List.getElem?_eq_getElem hlt]; rfl
    have hal : (fs.take acc.length).length = i := by rw [List.length_take]; omega
    have hso := mkF_snoc row (fs.take acc.length) 0 fs[i]
    have hsm := mks_snoc row (fs.take acc.length) 0 4 fs[i]
    rw [← hsn, hal, Nat.zero_add] at hso hsm
    rw [hso, List.length_append, List.length_append] at hbl
    refine ⟨by rw [List.length_map]; simp; omega, ?_⟩
    refine TE.listcomp ok hh (fun _ => rfl) (CompScope.of L (by kernel_rfl)) (TI.list hh ?_)
    tbr_iter "go"
    refine ⟨(shiftM (4 + (mkF row 0 (fs.take acc.length)).octs.length + ((nmB row i fs[i]).length + 2)) fs[i].ms).map mkPV, ⟨by rw [List.length_map]; omega, by simp [shiftM], ⟨[("at", .int (4 + ((mkF row 0 (fs.take acc.length)).octs.length : Nat))), ("head", .bytes ([fs[i].d.kind] ++ nmB row i fs[i] ++ [0]))], none⟩,
      CompVars.cons (by tbr_iter "lk") (by tbr_iter "nn") (by kernel_rfl) (CompVars.cons (by tbr_iter "lk") (by tbr_iter "nn") (by kernel_rfl) CompVars.nil), ?_⟩, ?_⟩
    · intro q d e g1 g2 C' c
      rw [List.getElem?_map] at g1 g2
      rw [shiftM, List.getElem?_map] at g2
      cases hm : fs[i].ms[q]? with
      | none => rw [hm] at g1; cases g1
      | some m =>
        rw [hm] at g1 g2
        cases g1; cases g2
        have L' := L.comp (CompScope.of L (by kernel_rfl)) c
        have hh' := c.hd.trans hh
        refine ⟨_, Bind.tup (xs := [("place", _), ("least", _), ("count", _)]) rfl ?_, ?_⟩
        · intro x hx
          simp only [List.mem_cons, List.not_mem_nil, or_false] at hx
          rcases hx with rfl | rfl | rfl <;> exact ⟨L'.canL c.lw (by kernel_rfl), nofun⟩
        · dsimp only [List.zip, List.zipWith, List.foldl]
          tbr_iter "go"
          simp [mkPV]
          omega
    · tbr_iter "go"
      refine ⟨by simp [shiftM]; omega, ?_⟩
      tbr_iter "go"
      refine ⟨h1, ?_, ?_, by tbr_iter "lk", by tbr_iter "lk"⟩
      · rw [List.length_append, List.length_singleton, hso]
        exact Eq.trans (b := some (PV.bytes ((mkF row 0 (fs.take acc.length)).octs ++ ([fs[i].d.kind] ++ nmB row i fs[i] ++ [0]) ++ fs[i].d.body))) (by tbr_iter "lk") (by simp)
      · rw [List.length_append, List.length_singleton, hsm]
        exact Eq.trans (b := some (PV.list ((mksOf row 0 4 (fs.take acc.length)).map mkPV ++ [PV.tuple [.int (4 + ((mkF row 0 (fs.take acc.length)).octs.length : Nat)), .int 20, .int 107]] ++ (shiftM (4 + (mkF row 0 (fs.take acc.length)).octs.length + ((nmB row i fs[i]).length + 2)) fs[i].ms).map mkPV))) (by tbr_iter "lk") (by simp [mkPV])
  · have := List.getElem?_range (n := fs.length) (i := k) (by have := (List.getElem?_eq_some_iff.mp e).1; simpa using this)
    rw [this] at e; cases e
    have hk : k < fs.length := by have := (List.getElem?_eq_some_iff.mp this).1; simpa using this
    simp; omega
  · intro σ ⟨h1, h2, h3, h4, h5⟩
    simp only [List.nil_append, List.length_range, List.take_length] at h2 h3
    tbr_iter "go"
    have hm := mks_len row fs 0 4 hb
    refine ⟨by rw [List.length_map]; simp; omega, ?_⟩
    tbr_iter "go"
    rw [laidM, List.map_append]
    simp [wrapO, low4, mkPV]
end
section
/-! fields wrapped (plain) -/
theorem dig_num : ∀ k : Nat, k < 6 → Nm (dig k) (digO k) ∧ Num k (dig k) (digO k) := by
  intro k hk
  have h : k = 0 ∨ k = 1 ∨ k = 2 ∨ k = 3 ∨ k = 4 ∨ k = 5 := by omega
  rcases h with rfl | rfl | rfl | rfl | rfl | rfl <;>
    exact ⟨{ enc := fun t => by kernel_rfl, dec := ⟨by decide +kernel, .inr ⟨_, _, 1, rfl, fun id => by kernel_rfl⟩⟩, xs := by decide +kernel, bs := by decide, nn := by unfold noNul; decide +kernel, nz := by decide, ref := by decide +kernel, id := by decide +kernel }, ⟨rfl, fun t => by kernel_rfl⟩⟩
theorem mkF_keys : ∀ (fs : List FE) (k : Nat), (mkF false k fs).keys = fs.map (·.x)
  | [], _ => rfl
  | e :: r, k => by simp only [mkF, Flds.keys, Flds.items, List.map_cons]; exact congrArg _ (mkF_keys r (k + 1))
theorem mkF_vals (row : Bool) : ∀ (fs : List FE) (k : Nat), (mkF row k fs).vals = fs.map (·.d.val)
  | [], _ => rfl
  | e :: r, k => by simp only [mkF, Flds.vals, List.map_cons, mkF_vals row r (k + 1)]
theorem mkF_wf (row : Bool) : ∀ (fs : List FE) (k : Nat), (∀ e ∈ fs, FE.Ok e) → (row = true → k + fs.length ≤ 6) → (mkF row k fs).Wf
  | [], _, _, _ => trivial
  | e :: r, k, h, h6 => by
    simp only [mkF, Flds.Wf]
    have he := h e (.head _)
    refine ⟨?_, he.body.wf, mkF_wf row r (k + 1) (fun y hy => h y (.tail _ hy)) fun q => by have := h6 q; simp only [List.length_cons] at this; omega⟩
    cases row
    · exact he.nm
    · have := h6 rfl
      exact (dig_num k (by simp only [List.length_cons] at this; omega)).1
theorem mkF_num : ∀ (fs : List FE) (k : Nat), k + fs.length ≤ 6 → rowNames k (mkF true k fs).items
  | [], _, _ => trivial
  | e :: r, k, h6 => by
    simp only [List.length_cons] at h6
    simp only [mkF, Flds.items, rowNames]
    exact ⟨(dig_num k (by omega)).2, mkF_num r (k + 1) (by omega)⟩
theorem mkF_dep (row : Bool) {m : Nat} : ∀ (fs : List FE) (k : Nat), (∀ e ∈ fs, e.d.dep ≤ m) → (mkF row k fs).dep ≤ m
  | [], _, _ => by simp [mkF, Flds.dep]
  | e :: r, k, h => by
    simp only [mkF, Flds.dep]
    exact Nat.max_le.mpr ⟨h e (.head _), mkF_dep row r (k + 1) fun y hy => h y (.tail _ hy)⟩
def szF (fs : List FE) : Nat := (fs.map fun e => e.d.body.length + 102).sum
theorem szF_snoc (fs : List FE) (e : FE) : szF (fs ++ [e]) = szF fs + (e.d.body.length + 102) := by simp [szF]
theorem mkF_sz (row : Bool) : ∀ (fs : List FE) (k : Nat), (∀ e ∈ fs, FE.Ok e) → (mkF row k fs).octs.length ≤ szF fs
  | [], _, _ => by simp [mkF, Flds.octs]
  | e :: r, k, h => by
    have he := (h e (.head _)).nm.bs
    have := mkF_sz row r (k + 1) fun y hy => h y (.tail _ hy)
    simp only [mkF, octs_pos, szF, List.map_cons, List.sum_cons] at *
    have : (nmB row k e).length ≤ 100 := by cases row <;> simp [nmB, digO]; exact he
    omega
theorem scd_set {w : List UInt8} {n : Int} {p : Nat} {c : UInt8} : (low4 n ++ (strO [102] ++ w)).set (10 + p) c = low4 n ++ (strO [102] ++ w.set p c) := by
  have h4 : (low4 n).length = 4 := KTBy.low_length _ _
  have h6 : (strO [102]).length = 6 := by rw [str_len]; rfl
  rw [List.set_append_right _ _ (by omega), h4, List.set_append_right _ _ (by omega), h6, show 10 + p - 4 - 6 = p by omega]
theorem scd_set9 {w : List UInt8} {n : Int} {c : UInt8} : (low4 n ++ (strO [102] ++ w)).set 9 c = low4 n ++ (strX [102] c ++ w) := by
  have h4 : (low4 n).length = 4 := KTBy.low_length _ _
  have h6 : (strO [102]).length = 6 := by rw [str_len]; rfl
  rw [List.set_append_right _ _ (by omega), h4, List.set_append_left _ _ (by omega), show 9 - 4 = ([102] : List UInt8).length + 4 by decide, strX_set]
theorem row_body {fs : List FE} (h : ∀ e ∈ fs, FE.Ok e) (h6 : fs.length ≤ 6) (hz : szF fs ≤ 100000) : Body (.row (mkF true 0 fs)) (laidM true fs) := by
  have hb : ∀ e ∈ fs, Body e.d e.ms := fun e he => (h e he).body
  have hs := mkF_sz true fs 0 h
  refine ⟨⟨mkF_wf true fs 0 h fun _ => by omega, mkF_num fs 0 (by omega), by omega⟩, fun m hm => ?_, ?_⟩
  · exact (laid_ok hb m hm).2
  · have := laid_len (row := true) hb
    rw [Dat.body, wrap_len]; omega
theorem doc_body {fs : List FE} (h : ∀ e ∈ fs, FE.Ok e) (nd : (fs.map (·.x)).Nodup) (hz : szF fs ≤ 100000) : Body (.doc (mkF false 0 fs)) (laidM false fs) := by
  have hb : ∀ e ∈ fs, Body e.d e.ms := fun e he => (h e he).body
  have hs := mkF_sz false fs 0 h
  refine ⟨⟨mkF_wf false fs 0 h nofun, by rw [mkF_keys]; exact nd, by omega⟩, fun m hm => ?_, ?_⟩
  · exact (laid_ok hb m hm).2
  · have := laid_len (row := false) hb
    rw [Dat.body, wrap_len]; omega
theorem scd_body {fs : List FE} (h : ∀ e ∈ fs, FE.Ok e) (nd : (fs.map (·.x)).Nodup) (hz : szF fs ≤ 100000) : Body (.scd (mkF false 0 fs)) ((9, 1, 255) :: shiftM 10 (laidM false fs)) := by
  have hb : ∀ e ∈ fs, Body e.d e.ms := fun e he => (h e he).body
  have hs := mkF_sz false fs 0 h
  have h4 : (low4 (((mkF false 0 fs).octs.length : Int) + 15)).length = 4 := KTBy.low_length _ _
  have hl : (Dat.scd (mkF false 0 fs)).body.length = (mkF false 0 fs).octs.length + 15 := by
    rw [Dat.body, List.length_append, List.length_append, h4, str_len, wrap_len]; simp; omega
  refine ⟨⟨mkF_wf false fs 0 h nofun, by rw [mkF_keys]; exact nd, by omega⟩, fun m hm => ?_, ?_⟩
  · simp only [List.mem_cons, shiftM, List.mem_map] at hm
    rcases hm with rfl | ⟨m', hm', rfl⟩
    · exact ⟨by rw [hl]; show 9 < _; omega, (show 1 ≤ 255 by decide), (show 1 + 255 ≤ 256 by decide), fun c g1 _ => .inl ⟨c, c_ne0 g1, scd_set9⟩⟩
    · have ho := (laid_ok hb m' hm').2
      have hlt := ho.lt
      rw [wrap_len] at hlt
      refine ⟨by rw [hl]; show 10 + m'.1 < _; omega, ho.pos, ho.top, fun c g1 g2 => .inr ⟨_, ho.hurt c g1 g2, by rw [List.length_set, wrap_len], scd_set⟩⟩
  · have := laid_len (row := false) hb
    rw [hl]; simp [shiftM]; omega
end
section
section
variable {gl : Str → Option Value} {K : Params → Frag} {C : Cx} {D : Dn} {σ : St}
def swOk (sc : Scope) (x : Str) (l1 l2 : Nat) : Bool := l1 == l2 && !(sc.names.any fun (n, k) => n == x && (k == .local || k == .cell))
theorem swap_list (L : Ls gl K C D) {elt : Expr} {gens} {sc : Scope} {pos p : Pos} {l : Nat} {x : Str} (hx : D.names.lookup x = some .local) (h : swOk sc x p.line pos.line = true) : swapsWith (.ListComp elt gens sc pos) (some (.Name x p)) l C.env = pure true := by
  have hb : C.env.blockKind = .function := by unfold Env.blockKind; rw [L.ok.kind]; rfl
  show (pure (C.env.blockKind == .function && C.env.kindOf x == some .local && p.line == (Expr.ListComp elt gens sc pos).pos.line && !(sc.names.any fun (n, k) => n == x && (k == .local || k == .cell))) : Sem Bool) = pure true
  rw [hb, L.kind hx, Bool.and_assoc]
  have h' : (p.line == (Expr.ListComp elt gens sc pos).pos.line && !(sc.names.any fun (n, k) => n == x && (k == .local || k == .cell))) = true := h
  rw [h']; rfl
theorem swap_dict (L : Ls gl K C D) {elt e2 : Expr} {gens} {sc : Scope} {pos p : Pos} {l : Nat} {x : Str} (hx : D.names.lookup x = some .local) (h : swOk sc x p.line pos.line = true) : swapsWith (.DictComp elt e2 gens sc pos) (some (.Name x p)) l C.env = pure true := by
  have hb : C.env.blockKind = .function := by unfold Env.blockKind; rw [L.ok.kind]; rfl
  show (pure (C.env.blockKind == .function && C.env.kindOf x == some .local && p.line == (Expr.DictComp elt e2 gens sc pos).pos.line && !(sc.names.any fun (n, k) => n == x && (k == .local || k == .cell))) : Sem Bool) = pure true
  rw [hb, L.kind hx, Bool.and_assoc]
  have h' : (p.line == (Expr.DictComp elt e2 gens sc pos).pos.line && !(sc.names.any fun (n, k) => n == x && (k == .local || k == .cell))) = true := h
  rw [h']; rfl
theorem LcT.map {α : Type} {scope : Scope} {target elt : Expr} (l : List α) (g f : α → PV) (σc : St) (hc : CompVars scope σ σc) (hl : l.length ≤ 16777216)
    (h : ∀ a ∈ l, ∀ C', CompOf C scope C' → ∃ σ', Bind C' target (g a) σc σ' ∧ TE C' elt σ' (fun v _ => v = f a) fun _ _ => False) : LcT C scope target elt σ (l.map g) (l.map f) := by
  refine ⟨by rw [List.length_map]; exact hl, by simp, σc, hc, fun k d e h1 h2 C' c => ?_⟩
  rw [List.getElem?_map] at h1 h2
  cases hm : l[k]? with
  | none => rw [hm] at h1; cases h1
  | some a =>
    rw [hm] at h1 h2
    cases h1; cases h2
    exact h a (List.mem_of_getElem? hm) C' c
theorem DcT.map {α : Type} {scope : Scope} {target kx vx : Expr} (l : List α) (g : α → PV) (n : α → Str) (f : α → PV) (σc : St) (hc : CompVars scope σ σc) (hl : l.length ≤ 16777216) (nd : (l.map n).Nodup)
    (h : ∀ a ∈ l, ∀ C', CompOf C scope C' → ∃ σ', Bind C' target (g a) σc σ' ∧ TE C' kx σ' (fun kv σ₁ => kv = .str (n a) ∧ TE C' vx σ₁ (fun v _ => v = f a) fun _ _ => False) fun _ _ => False) : DcT C scope target kx vx σ (l.map g) (l.map n) (l.map f) := by
  refine ⟨⟨by rw [List.length_map]; exact hl, nd⟩, ⟨by simp, by simp⟩, σc, hc, fun k d x e h1 h2 h3 C' c => ?_⟩
  rw [List.getElem?_map] at h1 h2 h3
  cases hm : l[k]? with
  | none => rw [hm] at h1; cases h1
  | some a =>
    rw [hm] at h1 h2 h3
    cases h1; cases h2; cases h3
    exact h a (List.mem_of_getElem? hm) C' c
end
theorem okF_law_wrapped : FdOk F_law_wrapped ["way", "fields"] := ⟨by kernel_rfl, by kernel_rfl, by kernel_rfl, by kernel_rfl, by kernel_rfl, by kernel_rfl, by kernel_rfl, by decide, fun _ => by kernel_rfl⟩
theorem bF_law_wrapped : Bnd F_law_wrapped ["way", "fields"] := bnd2 fun a b => by kernel_rfl
set_option maxHeartbeats 4000000 in
theorem c_wrapped {n m : Nat} {way : Int} {fs : List FE} (hway : way = 5 ∨ way = 6 ∨ way = 7) (h : ∀ e ∈ fs, FE.Ok e) (h6 : fs.length ≤ 6) (nd : (fs.map (·.x)).Nodup) (hz : szF fs ≤ 100000) (hd : ∀ e ∈ fs, e.d.dep ≤ m) (hn : 3 ≤ n) :
    CallOk glF K (n + 1) 1495 [.int way, .list (fs.map FE.pv)] (fun r => ∃ d ms, Body d ms ∧ d.dep ≤ m + 1 ∧ d.body.length ≤ szF fs + 15 ∧ r = .tuple (bodyPV d ms)) noX := by
  have z0 := mkF_sz false fs 0 h
  have z1 := mkF_sz true fs 0 h
  have hb : ∀ e ∈ fs, Body e.d e.ms := fun e he => (h e he).body
  refine enter kF_law_wrapped okF_law_wrapped bF_law_wrapped rfl rfl fun C ok Lk L hlw hcw hh => ?_
  dsimp only [List.zip, List.zipWith]
  rcases hway with rfl | rfl | rfl
  · tbr_iter "go"
    refine L.go (c_laid (n := 0) (row := false) h h6 (by omega)) (by show 1 ≤ n; omega) hh ?_
    tbr_iter "go"
    refine T1.assign_dictcomp ok hh (fun _ => rfl) (CompScope.of L (by kernel_rfl)) (swap_dict L (by kernel_rfl) (by kernel_rfl)) (L.canL hlw (by kernel_rfl)) (TI.list hh ?_)
    tbr_iter "go"
    refine ⟨fs.map (·.x), fs.map (·.d.val), DcT.map fs FE.pv (·.x) (·.d.val) ⟨[], none⟩ CompVars.nil (by omega) nd fun e he C' c => ?_, ?_⟩
    · have L' := L.comp (CompScope.of L (by kernel_rfl)) c
      have hh' := c.hd.trans hh
      refine ⟨_, Bind.name (L'.canL c.lw (by kernel_rfl)) nofun, ?_⟩
      dsimp only [FE.pv, bodyPV]
      tbr_iter "go"
    tbr_iter "go"
    refine ⟨.doc (mkF false 0 fs), laidM false fs, doc_body h nd hz, ?_, ?_, ?_⟩
    · show (mkF false 0 fs).dep + 1 ≤ _; have := mkF_dep false fs 0 hd; omega
    · rw [Dat.body, wrap_len]; omega
    · simp only [bodyPV, Dat.body, Dat.val, mkF_keys, mkF_vals]; rfl
  · tbr_iter "go"
    refine L.go (c_laid (n := 0) (row := true) h h6 (by omega)) (by show 1 ≤ n; omega) hh ?_
    tbr_iter "go"
    refine TE.listcomp ok hh (fun _ => rfl) (CompScope.of L (by kernel_rfl)) (TI.list hh ?_)
    tbr_iter "go"
    refine ⟨fs.map (·.d.val), LcT.map fs FE.pv (·.d.val) ⟨[], none⟩ CompVars.nil (by omega) fun e he C' c => ?_, ?_⟩
    · have L' := L.comp (CompScope.of L (by kernel_rfl)) c
      have hh' := c.hd.trans hh
      refine ⟨_, Bind.name (L'.canL c.lw (by kernel_rfl)) nofun, ?_⟩
      dsimp only [FE.pv, bodyPV]
      tbr_iter "go"
    tbr_iter "go"
    refine ⟨.row (mkF true 0 fs), laidM true fs, row_body h h6 hz, ?_, ?_, ?_⟩
    · show (mkF true 0 fs).dep + 1 ≤ _; have := mkF_dep true fs 0 hd; omega
    · rw [Dat.body, wrap_len]; omega
    · simp only [bodyPV, Dat.body, Dat.val, mkF_vals]; rfl
  · tbr_iter "go"
    refine L.go (c_laid (n := 0) (row := false) h h6 (by omega)) (by show 1 ≤ n; omega) hh ?_
    tbr_iter "go"
    refine T1.assign_dictcomp ok hh (fun _ => rfl) (CompScope.of L (by kernel_rfl)) (swap_dict L (by kernel_rfl) (by kernel_rfl)) (L.canL hlw (by kernel_rfl)) (TI.list hh ?_)
    tbr_iter "go"
    refine ⟨fs.map (·.x), fs.map (·.d.val), DcT.map fs FE.pv (·.x) (·.d.val) ⟨[], none⟩ CompVars.nil (by omega) nd fun e he C' c => ?_, ?_⟩
    · have L' := L.comp (CompScope.of L (by kernel_rfl)) c
      have hh' := c.hd.trans hh
      refine ⟨_, Bind.name (L'.canL c.lw (by kernel_rfl)) nofun, ?_⟩
      dsimp only [FE.pv, bodyPV]
      tbr_iter "go"
    tbr_iter "go"
    refine T1.assign_listcomp ok hh (fun _ => rfl) (CompScope.of L (by kernel_rfl)) (swap_list L (by kernel_rfl) (by kernel_rfl)) (L.canL hlw (by kernel_rfl)) (TI.list hh ?_)
    have hml := laid_len (row := false) hb
    tbr_iter "go"
    refine ⟨(shiftM 10 (laidM false fs)).map mkPV, by
      rw [shiftM, List.map_map]
      refine LcT.map (laidM false fs) mkPV _ ⟨[], none⟩ CompVars.nil (by omega) fun m he C' c => ?_
      have L' := L.comp (CompScope.of L (by kernel_rfl)) c
      have hh' := c.hd.trans hh
      refine ⟨_, Bind.tup (xs := [("place", _), ("least", _), ("count", _)]) rfl ?_, ?_⟩
      · intro x hx
        simp only [List.mem_cons, List.not_mem_nil, or_false] at hx
        rcases hx with rfl | rfl | rfl <;> exact ⟨L'.canL c.lw (by kernel_rfl), nofun⟩
      · dsimp only [List.zip, List.zipWith, List.foldl]
        tbr_iter "go"
        simp [mkPV], ?_⟩
    tbr_iter "go"
    have hwl := wrap_len (mkF false 0 fs).octs
    refine ⟨by omega, ?_⟩
    tbr_iter "go"
    rw [hwl, show (((mkF false 0 fs).octs.length + 5 : Nat) : Int) + 10 = ((mkF false 0 fs).octs.length : Int) + 15 by omega]
    refine ⟨by simp [shiftM]; omega, ?_⟩
    tbr_iter "go"
    refine TC.code L hh (by show 2 ≤ n; omega) (.inr ⟨_, _, rfl, rfl⟩) ?_
    tbr_iter "go"
    have hB := scd_body h nd hz
    refine ⟨.scd (mkF false 0 fs), _, hB, ?_, ?_, ?_⟩
    · show (mkF false 0 fs).dep + 1 ≤ _; have := mkF_dep false fs 0 hd; omega
    · rw [Dat.body, List.length_append, List.length_append, hwl, str_len, KTBy.low_length]; simp; omega
    · simp only [bodyPV, Dat.body, Dat.val, mkF_keys, mkF_vals]
      rw [show strO [102] = [2, 0, 0, 0, 102, 0] by decide +kernel]
      simp [mkPV, Dat.kind, fName]
end
section
theorem okF_law_all : FdOk F_law_all ["data"] := ⟨by kernel_rfl, by kernel_rfl, by kernel_rfl, by kernel_rfl, by kernel_rfl, by kernel_rfl, by kernel_rfl, by decide, fun _ => by kernel_rfl⟩
theorem bF_law_all : Bnd F_law_all ["data"] := bnd1 fun a => by kernel_rfl
/-- all documents read and written again -/
theorem c_law_all {k : Nat} {ds : List Doc} (hd : ∀ x ∈ ds, DocOk k x) (hz : (flat2 ds).length ≤ 1000000) :
    CallOk glF K (gN k + 5) 1500 [.bytes (flat2 ds)] (fun r => ((∀ x ∈ ds, x.2 = wrapO x.1.octs) ∧ r = .list (ds.map fun x => .bytes x.2)) ∨ ((∃ x ∈ ds, HurtW x.1.octs x.1.Hurt x.2) ∧ r = .none)) noX := by
  have hl := flat2_len hd
  refine enter (n := gN k + 4) kF_law_all okF_law_all bF_law_all rfl rfl fun C ok Lk L hlw hcw hh => ?_
  dsimp only [List.zip, List.zipWith]
  tbr_iter "go"
  refine T1.try ok Lk.fe hh (TS.cons (T1.ret ?_))
  refine TE.listcomp ok hh (fun _ => rfl) (CompScope.of L (by kernel_rfl)) (TI.list hh ?_)
  tbr_iter "go"
  refine L.dn (c_decode_all (k := k) hd hz) (Nat.le_refl _) hh (fun v ⟨h1, h2⟩ => ?_) (fun y ⟨h1, h2⟩ => ?_)
  · subst h2
    refine ⟨ds.map fun x => .bytes x.2, LcT.map ds dpv _ ⟨[], none⟩ CompVars.nil (by omega) fun x hx C' c => ?_, .inl ⟨h1, rfl⟩⟩
    have L' := L.comp (CompScope.of L (by kernel_rfl)) c
    have hh' := c.hd.trans hh
    refine ⟨_, Bind.name (L'.canL c.lw (by kernel_rfl)) nofun, ?_⟩
    have hx' := hd x hx
    have hw := wrap_all hx'.oct
    have hfx : x.2.length ≤ (flat2 ds).length := by
      obtain ⟨a, b, e⟩ := List.append_of_mem hx
      rw [e]; simp [flat2]; omega
    dsimp only [dpv]
    tbr_iter "go"
    refine L'.go (c_encode (k := k) hx'.wf hx'.nd (by omega) hx'.dep) (by show 4 * k + 7 ≤ gN k + 4; unfold gN; omega) hh' ?_
    rw [h1 x hx]
  · refine ⟨L.kind (by kernel_rfl), str_ne (by decide), _, _, L.gv gl_InvalidBSON, excBB h2, ?_⟩
    intro B a ok' hd
    have L' := L.handling B a _ ok' hd
    tbr_iter "go"
    exact .inr ⟨h1, rfl⟩
end
section
/-! the rows (plain) -/
def letter (k : Nat) : Str := ⟨#[(Str.ofString "abcdef").cps.getD k 0]⟩
def letB (k : Nat) : List UInt8 := [(97 + k).toUInt8]
theorem let_nm : ∀ k : Nat, k < 6 → Nm (letter k) (letB k) := by
  intro k hk
  have h : k = 0 ∨ k = 1 ∨ k = 2 ∨ k = 3 ∨ k = 4 ∨ k = 5 := by omega
  rcases h with rfl | rfl | rfl | rfl | rfl | rfl <;>
    exact { enc := fun t => by kernel_rfl, dec := ⟨by decide +kernel, .inr ⟨_, _, 1, rfl, fun id => by kernel_rfl⟩⟩, xs := by decide +kernel, bs := by decide, nn := by unfold noNul; decide +kernel, nz := by decide, ref := by decide +kernel, id := by decide +kernel }
theorem let_inj {i j : Nat} (hi : i < 6) (hj : j < 6) (e : letter i = letter j) : i = j := by
  have key : ∀ i : Fin 6, ∀ j : Fin 6, letter i.1 = letter j.1 → i.1 = j.1 := by decide +kernel
  exact key ⟨i, hi⟩ ⟨j, hj⟩ e
structure RowOk (k : Nat) (fs : List FE) : Prop where
  ok : ∀ e ∈ fs, FE.Ok e
  nd : (fs.map (·.x)).Nodup
  lt : ∀ e ∈ fs, ∃ j < k, e.x = letter j
  len : fs.length ≤ k
  dep : ∀ e ∈ fs, e.d.dep ≤ k
theorem RowOk.up {k : Nat} {fs : List FE} (h : RowOk k fs) : RowOk (k + 1) fs :=
  ⟨h.ok, h.nd, fun e he => (h.lt e he).elim fun j q => ⟨j, by omega, q.2⟩, by have := h.len; omega, fun e he => by have := h.dep e he; omega⟩
structure RowsOk (k : Nat) (rows : List (List FE)) : Prop where
  len : rows.length ≤ k + 1
  row : ∀ fs ∈ rows, RowOk k fs
  sz : (rows.map szF).sum ≤ 117 * k
theorem szF_mem {rows : List (List FE)} {fs : List FE} (h : fs ∈ rows) : szF fs ≤ (rows.map szF).sum := by
  obtain ⟨a, b, rfl⟩ := List.append_of_mem h
  simp; omega
theorem rows_new {k : Nat} {rows : List (List FE)} (h : RowsOk k rows) : RowsOk (k + 1) (rows ++ [[]]) :=
  ⟨by have := h.len; simp; omega, fun fs hf => by
    simp only [List.mem_append, List.mem_singleton] at hf
    rcases hf with hf | rfl
    · exact (h.row fs hf).up
    · exact ⟨nofun, List.nodup_nil, nofun, by simp, nofun⟩, by have := h.sz; rw [List.map_append, List.sum_append, show (([[]] : List (List FE)).map szF).sum = 0 from rfl]; omega⟩
theorem rows_cur {k : Nat} {pre : List (List FE)} {cur new : List FE} (h : RowsOk k (pre ++ [cur])) (hn : RowOk (k + 1) new) (hz : szF new ≤ szF cur + 117) : RowsOk (k + 1) (pre ++ [new]) :=
  ⟨by have := h.len; simp at this ⊢; omega, fun fs hf => by
    simp only [List.mem_append, List.mem_singleton] at hf
    rcases hf with hf | rfl
    · exact (h.row fs (by simp [hf])).up
    · exact hn, by have := h.sz; simp at this ⊢; omega⟩
theorem row_leaf {k : Nat} {cur : List FE} {d : Dat} {ms : List Mk} (hk : k < 6) (h : RowOk k cur) (hb : Body d ms) (hd : d.dep = 0) : RowOk (k + 1) (cur ++ [⟨letter k, letB k, d, ms⟩]) := by
  refine ⟨fun e he => ?_, ?_, fun e he => ?_, by have := h.len; simp; omega, fun e he => ?_⟩
  · simp only [List.mem_append, List.mem_singleton] at he
    rcases he with he | rfl
    · exact h.ok e he
    · exact ⟨let_nm k hk, hb⟩
  · rw [List.map_append, List.nodup_append]
    refine ⟨h.nd, by simp, fun a ha b hb e => ?_⟩
    simp only [List.map_cons, List.map_nil, List.mem_singleton] at hb
    obtain ⟨f, hf, rfl⟩ := List.mem_map.mp ha
    obtain ⟨j, hj, q⟩ := h.lt f hf
    have := let_inj (by omega) hk (q.symm.trans (e.trans hb))
    omega
  · simp only [List.mem_append, List.mem_singleton] at he
    rcases he with he | rfl
    · obtain ⟨j, hj, q⟩ := h.lt e he
      exact ⟨j, by omega, q⟩
    · exact ⟨k, by omega, rfl⟩
  · simp only [List.mem_append, List.mem_singleton] at he
    rcases he with he | rfl
    · have := h.dep e he; omega
    · show d.dep ≤ _; omega
theorem row_wrapped {k : Nat} {d : Dat} {ms : List Mk} (hk : k < 6) (hb : Body d ms) (hd : d.dep ≤ k + 1) : RowOk (k + 1) [⟨letter k, letB k, d, ms⟩] :=
  ⟨fun e he => by simp only [List.mem_singleton] at he; subst he; exact ⟨let_nm k hk, hb⟩, by simp, fun e he => by simp only [List.mem_singleton] at he; subst he; exact ⟨k, by omega, rfl⟩, by simp, fun e he => by simp only [List.mem_singleton] at he; subst he; exact hd⟩
def rowPV (fs : List FE) : PV := .list (fs.map FE.pv)
end
section
theorem okFlaw : FdOk Flaw ["script"] := ⟨by kernel_rfl, by kernel_rfl, by kernel_rfl, by kernel_rfl, by kernel_rfl, by kernel_rfl, by kernel_rfl, by decide, fun _ => by kernel_rfl⟩
theorem bFlaw : Bnd Flaw ["script"] := bnd1 fun a => by kernel_rfl
section
variable {C : Cx} {σ : St} {R : Exc → St → Prop}
theorem TE.peekL {x : Str} {p p1 p2 p3 : Pos} {k : Nat} {ds : List PV} {Q : PV → St → Prop} (ok : C.Ok) (e : σ.vars.lookup x = some (.list ds)) (ho : σ.own = some x) (hd : (x == ("__debug__" : Str)) = false)
    (h : ∃ d, (ds.length ≤ 16777216 ∧ ds.getLast? = some d) ∧ Q d σ) : TE C (.Subscript (.Name x p) (.UnaryOp .USub (.Constant (.int 1) k p1) p2) p3) σ Q R :=
  TE.peek ok ho hd (by
    obtain ⟨d, ⟨h1, h2⟩, q⟩ := h
    rw [e]; dsimp only
    rw [h2]
    exact ⟨h1, q⟩)
theorem T1.setlastL {x : Str} {e : Expr} {p p1 p2 p3 pos : Pos} {k : Nat} {Q : Out → St → Prop} (ds : List PV) (ok : C.Ok) (hd : (x == ("__debug__" : Str)) = false) (hs : swapsWith e (some (.Subscript (.Name x p) (.UnaryOp .USub (.Constant (.int 1) k p1) p2) p3)) pos.line C.env = pure false)
    (h : TE C e σ (fun d σ₁ => (σ₁.own = some x ∧ σ₁.vars.lookup x = some (.list ds) ∧ ds ≠ []) ∧ Q .next (σ₁.put x (.list (ds.dropLast ++ [d])))) R) :
    T1 C (.Assign [.Subscript (.Name x p) (.UnaryOp .USub (.Constant (.int 1) k p1) p2) p3] e pos) σ Q R :=
  T1.setlast ok hd hs (TE.mono h (fun d σ₁ ⟨⟨h1, h2, h3⟩, q⟩ => ⟨h1, by rw [h2]; exact ⟨h3, q⟩⟩) fun _ _ z => z)
end
local macro_rules | `(tactic| tbr_iter "expr") => `(tactic| ((with_reducible refine' TE.peekL ?ok ?e ?o ?d ?_); (case ok => with_reducible assumption); (case e => tbr_iter "lk"); (case o => assumption); (case d => tbr_iter "dbg")))
structure LawC (n : Nat) (C : Cx) : Prop where
  ok : C.Ok
  Lk : Lk glF K C ⟨Flaw.scope.names, n, none⟩
  L : Lg C ⟨Flaw.scope.names, n, none⟩
  hlw : C.lw = true
  hcw : C.cw = true
  hh : C.hd = none
  hn : 60 ≤ n
abbrev LawT (C : Cx) (body : List Stmt) (σ : St) : Prop := TS C body σ (fun o _ => retOf o = .bool true) fun x _ => noX x
structure WIn (nums : List Int) (acc : List Nat) (σ : St) : Prop where
  own : σ.own = some "rows"
  nu : σ.vars.lookup ("numbers" : Str) = some (.list (nums.map PV.int))
  ro : ∃ pre cur, RowsOk acc.length (pre ++ [cur]) ∧ σ.vars.lookup ("rows" : Str) = some (.list ((pre ++ [cur]).map rowPV))
theorem rows_last {pre : List (List FE)} {cur : List FE} : ((pre ++ [cur]).map rowPV).getLast? = some (rowPV cur) := by simp
theorem rows_drop {pre : List (List FE)} {cur new : List FE} : ((pre ++ [cur]).map rowPV).dropLast ++ [rowPV new] = (pre ++ [new]).map rowPV := by simp
theorem nums8 (xs : List Int) : ∃ nums : List Int, nums.length = 8 ∧ (xs.map PV.int ++ restF).take 8 = nums.map PV.int := by
  refine ⟨(xs ++ [12, 11, 6, 31, 8, 100, 10, 7]).take 8, by simp, ?_⟩
  rw [List.map_take, List.map_append]
  rfl
set_option maxHeartbeats 4000000 in
theorem law1 {n : Nat} {C : Cx} {xs : List Int} (h63 : xs.length ≤ 63) (W : LawC n C) (s0 s1 s2 : Stmt) (rest body : List Stmt) (hb : Flaw.body = .stmts body) (hr : body = s0 :: s1 :: s2 :: rest)
    (next : ∀ (nums : List Int) (rows : List (List FE)) (σ : St), nums.length = 8 → RowsOk 6 rows → σ.own = some ("rows" : Str) → σ.vars.lookup ("numbers" : Str) = some (.list (nums.map PV.int)) → σ.vars.lookup ("rows" : Str) = some (.list (rows.map rowPV)) → LawT C rest σ) :
    LawT C body ⟨[("script", .list (xs.map PV.int))], none⟩ := by
  obtain ⟨ok, Lk, L, hlw, hcw, hh, hn⟩ := W
  obtain rfl : _ = body := FuncBody.stmts.inj hb
  clear hb
  injection hr with e1 hr
  injection hr with e2 hr
  injection hr with e3 hr
  rw [hr]
  clear e1 e2 e3 hr
  obtain ⟨nums, n8, hnum⟩ := nums8 xs
  tbr_iter "stmt"
  refine T1.assign ok (by tbr_iter "can") rfl ?_
  refine TE.slice ?_
  refine TE.bin ?_
  tbr_iter "name"
  refine TE.rest L (by kernel_rfl) ?_
  tbr_iter "go"
  refine ⟨by simp; omega, ?_⟩
  tbr_iter "go"
  refine ⟨by simp; omega, ?_⟩
  rw [cut_j (j := 8) (by decide), show ((8 : Int).toNat) = 8 from rfl, hnum]
  tbr_iter "go"
  refine T1.for ok Lk.fe hh (fun _ => rfl) (TI.range1 ok hh (L.kind (by kernel_rfl)) (L.gv gl_range) rfl ?_)
  tbr_iter "go"
  refine ForT.list (fun i : Nat => PV.int (i : Int)) (WIn nums) (fun acc i => i = acc.length ∧ i < 6) ?_ (List.range 6) [] _ (fun k a e => ?_) ⟨rfl, by tbr_iter "lk", [], [], ⟨by simp, ?_, by simp [szF]⟩, (show _ = some (PV.list [PV.list []]) by tbr_iter "lk")⟩ ?_
  · intro i acc σ ⟨hi, hlt⟩ ⟨h1, h2, pre, cur, h3, h4⟩
    have hfe : (nums.map PV.int)[((i : Int)).toNat]? = some (.int (nums[i]'(by omega))) := by rw [Int.toNat_natCast, List.getElem?_map, List.getElem?_eq_getElem (by omega)]; rfl
    have r9 := fmod_rng (nums[i]'(by omega)) (y := 9) (by omega)
    have hrow := h3.row cur (by simp)
    have hsz := h3.sz
    have hsc : szF cur ≤ _ := szF_mem (rows := pre ++ [cur]) (by simp)
    rw [← hi] at h3 hsz hrow
    refine ⟨_, Bind.name (L.canL hlw (by kernel_rfl)) (own_ne h1 (str_ne (by decide))), ?_⟩
    tbr_iter "go"
    refine itemL (by omega) hfe ?_
    tbr_iter "go"
    generalize hgw : (nums[i]'(by omega)).fmod 9 = w at r9 ⊢
    have hw : w = 8 ∨ (w = 5 ∨ w = 6 ∨ w = 7) ∨ w ≤ 4 := by omega
    rcases hw with hw | hw | hw
    · tbr_iter "go"
      refine T1.app ok (by tbr_iter "lk") h1 (by tbr_iter "dbg") rfl rfl (by have := h3.len; rw [List.length_map]; omega) fun X hX => ?_
      tbr_iter "go"
      refine ⟨h1, by tbr_iter "lk", pre ++ [cur], [], ?_, ?_⟩
      · rw [List.length_append, List.length_singleton, ← hi]; exact rows_new h3
      · rw [List.map_append (l₁ := pre ++ [cur])]; exact hit
    · tbr_iter "go"
      refine T1.setlastL ((pre ++ [cur]).map rowPV) ok (by tbr_iter "dbg") rfl ?_
      refine TE.list ?_
      refine TA.cons rfl ?_
      refine TE.tupAdd ?_
      tbr_iter "go"
      refine ⟨⟨by omega, by rw [show (Str.ofString "abcdef").length = 6 by decide]; omega, by decide⟩, ?_⟩
      tbr_iter "go"
      refine ⟨_, ⟨by have := h3.len; rw [List.length_map]; omega, rows_last⟩, ?_⟩
      tbr_iter "go"
      refine L.dn (c_wrapped (n := 3) (m := i) hw hrow.ok (by have := hrow.len; omega) hrow.nd (by omega) hrow.dep (Nat.le_refl _)) (by show 4 ≤ n; omega) hh (fun r hr => ?_) fun y hy => hy.elim
      obtain ⟨d, ms, hB, hD, hZ, rfl⟩ := hr
      refine ⟨_, _, rfl, rfl, ⟨by simp, by simp [bodyPV], by simp [bodyPV]⟩, ?_⟩
      tbr_iter "go"
      refine ⟨⟨h1, by tbr_iter "lk", by simp⟩, ?_⟩
      tbr_iter "go"
      refine ⟨h1, by tbr_iter "lk", pre, [⟨letter i, letB i, d, ms⟩], ?_, ?_⟩
      · rw [List.length_append, List.length_singleton, ← hi]
        exact rows_cur h3 (row_wrapped hlt hB hD) (by simp [szF]; simp [szF] at hZ; omega)
      · rw [← rows_drop (cur := cur) (new := [⟨letter i, letB i, d, ms⟩])]; exact hit
    · tbr_iter "go"
      refine T1.setlastL ((pre ++ [cur]).map rowPV) ok (by tbr_iter "dbg") rfl ?_
      refine TE.bin ?_
      refine TE.peekL ok (by tbr_iter "lk") h1 (by tbr_iter "dbg") ⟨_, ⟨by have := h3.len; rw [List.length_map]; omega, rows_last⟩, ?_⟩
      refine TE.list ?_
      refine TA.cons rfl ?_
      refine TE.tupAdd ?_
      tbr_iter "go"
      refine ⟨⟨by omega, by rw [show (Str.ofString "abcdef").length = 6 by decide]; omega, by decide⟩, ?_⟩
      tbr_iter "go"
      refine itemL (by omega) hfe ?_
      tbr_iter "go"
      refine L.dn (c_leaf (n := 3) (by omega) (Nat.le_refl _)) (by show 4 ≤ n; omega) hh (fun r hr => ?_) fun y hy => hy.elim
      obtain ⟨d, ms, hB, hD, hZ, rfl⟩ := hr
      refine ⟨_, _, rfl, rfl, ⟨by simp, by simp [bodyPV], by simp [bodyPV]⟩, ?_⟩
      tbr_iter "go"
      dsimp only [rowPV]
      tbr_iter "go"
      refine ⟨by have := hrow.len; simp; omega, ?_⟩
      refine ⟨⟨h1, by tbr_iter "lk", by simp⟩, ?_⟩
      tbr_iter "go"
      refine ⟨h1, by tbr_iter "lk", pre, cur ++ [⟨letter i, letB i, d, ms⟩], ?_, ?_⟩
      · rw [List.length_append, List.length_singleton, ← hi]
        exact rows_cur h3 (row_leaf hlt hrow hB hD) (by rw [szF_snoc]; dsimp only; omega)
      · rw [← rows_drop (cur := cur) (new := cur ++ [(⟨letter i, letB i, d, ms⟩ : FE)]), show rowPV (cur ++ [(⟨letter i, letB i, d, ms⟩ : FE)]) = .list (cur.map FE.pv ++ [.tuple ([.str ⟨#[(Str.ofString "abcdef").cps.getD ((i : Int)).toNat 0]⟩] ++ bodyPV d ms)]) by rw [rowPV, List.map_append]; rfl]
        exact hit
  · have := List.getElem?_range (n := 6) (i := k) (by have := (List.getElem?_eq_some_iff.mp e).1; simpa using this)
    rw [this] at e; cases e
    have hk : k < 6 := by have := (List.getElem?_eq_some_iff.mp this).1; simpa using this
    simp; omega
  · intro fs hf
    simp only [List.nil_append, List.mem_singleton] at hf; subst hf
    exact ⟨nofun, List.nodup_nil, nofun, by simp, nofun⟩
  · intro σ ⟨h1, h2, pre, cur, h3, h4⟩
    exact next _ _ σ n8 h3 h1 h2 h4
end
section
def docPV (fs : List FE) : PV := .dict (fs.map (·.x)) (fs.map (·.d.val))
def pieceO (fs : List FE) : List UInt8 := wrapO (mkF false 0 fs).octs
def laidPV (fs : List FE) : PV := .tuple [.bytes (pieceO fs), .list ((laidM false fs).map mkPV)]
def wholeO (rows : List (List FE)) : List UInt8 := (rows.map pieceO).flatten
theorem piece_sz {rows : List (List FE)} {fs : List FE} (h : RowsOk 6 rows) (hf : fs ∈ rows) : (mkF false 0 fs).octs.length ≤ 702 ∧ (mkF true 0 fs).octs.length ≤ 702 ∧ szF fs ≤ 702 := by
  have h1 := szF_mem hf
  have h2 := h.sz
  have h3 := mkF_sz false fs 0 (h.row fs hf).ok
  have h4 := mkF_sz true fs 0 (h.row fs hf).ok
  omega
theorem whole_sz {rows : List (List FE)} (h : RowsOk 6 rows) : (wholeO rows).length ≤ 4949 := by
  have key : ∀ l : List (List FE), (∀ fs ∈ l, fs ∈ rows) → (wholeO l).length ≤ 707 * l.length := by
    intro l
    induction l with
    | nil => intro _; simp [wholeO]
    | cons a r ih =>
      intro hl
      have h1 := ih fun fs hf => hl fs (.tail _ hf)
      have h2 := piece_sz h (hl a (.head _))
      have h3 := wrap_len (mkF false 0 a).octs
      simp only [wholeO, List.map_cons, List.flatten_cons, List.length_append, List.length_cons, pieceO] at h1 ⊢
      omega
  have := key rows fun _ h => h
  have := h.len
  omega
set_option maxHeartbeats 4000000 in
theorem law2 {n : Nat} {C : Cx} (W : LawC n C) (s0 s1 s2 s3 s4 s5 s6 : Stmt) (rest body : List Stmt) (hb : Flaw.body = .stmts (s0 :: s1 :: s2 :: body)) (hr : body = s3 :: s4 :: s5 :: s6 :: rest)
    {nums : List Int} {rows : List (List FE)} {σ : St} (hR : RowsOk 6 rows) (h1 : σ.own = some ("rows" : Str)) (h2 : σ.vars.lookup ("numbers" : Str) = some (.list (nums.map PV.int))) (h3 : σ.vars.lookup ("rows" : Str) = some (.list (rows.map rowPV)))
    (next : ∀ (σ : St), σ.own = none → σ.vars.lookup ("numbers" : Str) = some (.list (nums.map PV.int)) → σ.vars.lookup ("docs" : Str) = some (.list (rows.map docPV)) → σ.vars.lookup ("laid" : Str) = some (.list (rows.map laidPV)) →
      σ.vars.lookup ("pieces" : Str) = some (.list (rows.map fun fs => .bytes (pieceO fs))) → σ.vars.lookup ("whole" : Str) = some (.bytes (wholeO rows)) → LawT C rest σ) : LawT C body σ := by
  obtain ⟨ok, Lk, L, hlw, hcw, hh, hn⟩ := W
  have hz := FuncBody.stmts.inj hb
  injection hz with e0 hz; clear e0
  injection hz with e0 hz; clear e0
  injection hz with e0 hz; clear e0
  clear hb
  subst hz
  injection hr with e0 hr; clear e0
  injection hr with e0 hr; clear e0
  injection hr with e0 hr; clear e0
  injection hr with e0 hr; clear e0
  rw [hr]
  clear hr
  tbr_iter "stmt"
  refine T1.assign_listcomp ok hh (fun _ => rfl) (CompScope.of L (by kernel_rfl)) (swap_list L (by kernel_rfl) (by kernel_rfl)) (L.canL hlw (by kernel_rfl)) (TI.list hh ?_)
  tbr_iter "go"
  have hlen := hR.len
  refine ⟨rows.map docPV, LcT.map rows rowPV docPV ⟨[], none⟩ CompVars.nil (by omega) fun fs hf C' c => ?_, ?_⟩
  · have L' := L.comp (CompScope.of L (by kernel_rfl)) c
    have hh' := c.hd.trans hh
    have hro := hR.row fs hf
    have hrl := hro.len
    refine ⟨_, Bind.name (L'.canL c.lw (by kernel_rfl)) nofun, ?_⟩
    refine TE.dictcomp c.ok hh' (fun _ => rfl) (CompScope.of L' (by kernel_rfl)) (TI.list hh' ?_)
    dsimp only [rowPV]
    tbr_iter "go"
    refine ⟨fs.map (·.x), fs.map (·.d.val), DcT.map fs FE.pv (·.x) (·.d.val) ⟨[], none⟩ CompVars.nil (by omega) hro.nd fun e he C2 c2 => ?_, rfl⟩
    have L2 := L'.comp (CompScope.of L' (by kernel_rfl)) c2
    have hh2 := c2.hd.trans hh'
    refine ⟨_, Bind.name (L2.canL c2.lw (by kernel_rfl)) nofun, ?_⟩
    dsimp only [FE.pv, bodyPV]
    tbr_iter "go"
  tbr_iter "go"
  refine T1.assign_listcomp ok hh (fun _ => rfl) (CompScope.of L (by kernel_rfl)) (swap_list L (by kernel_rfl) (by kernel_rfl)) (L.canL hlw (by kernel_rfl)) (TI.list hh ?_)
  tbr_iter "go"
  refine ⟨rows.map laidPV, LcT.map rows rowPV laidPV ⟨[], none⟩ CompVars.nil (by omega) fun fs hf C' c => ?_, ?_⟩
  · have L' := L.comp (CompScope.of L (by kernel_rfl)) c
    have hh' := c.hd.trans hh
    have hro := hR.row fs hf
    have hps := piece_sz hR hf
    refine ⟨_, Bind.name (L'.canL c.lw (by kernel_rfl)) nofun, ?_⟩
    dsimp only [rowPV]
    tbr_iter "go"
    refine L'.go (c_laid (n := 0) (row := false) hro.ok hro.len (by omega)) (by show 1 ≤ n; omega) hh' ?_
    rfl
  tbr_iter "go"
  refine T1.assign_listcomp ok hh (fun _ => rfl) (CompScope.of L (by kernel_rfl)) (swap_list L (by kernel_rfl) (by kernel_rfl)) (L.canL hlw (by kernel_rfl)) (TI.list hh ?_)
  tbr_iter "go"
  refine ⟨rows.map fun fs => .bytes (pieceO fs), LcT.map rows laidPV _ ⟨[], none⟩ CompVars.nil (by omega) fun fs hf C' c => ?_, ?_⟩
  · have L' := L.comp (CompScope.of L (by kernel_rfl)) c
    have hh' := c.hd.trans hh
    refine ⟨_, Bind.name (L'.canL c.lw (by kernel_rfl)) nofun, ?_⟩
    dsimp only [laidPV]
    tbr_iter "go"
  tbr_iter "go"
  have hwz := whole_sz hR
  refine ⟨rows.map pieceO, bytesOf_map pieceO rows, by show (wholeO rows).length ≤ _; omega, nofun, ?_⟩
  refine next _ rfl (by tbr_iter "lk") (by tbr_iter "lk") (by tbr_iter "lk") (by tbr_iter "lk") ?_
  exact hit
end
section
def shA (j s : Nat) (ms : List Mk) : List (Nat × Mk) := ms.map fun m => (j, s + m.1, m.2.1, m.2.2)
def allM : Nat → Nat → List (List FE) → List (Nat × Mk)
  | _, _, [] => []
  | j, s, fs :: r => shA j s (laidM false fs) ++ allM (j + 1) (s + (pieceO fs).length) r
def amPV (m : Nat × Mk) : PV := .tuple [.int (m.1 : Nat), .int (m.2.1 : Nat), .int (m.2.2.1 : Nat), .int (m.2.2.2 : Nat)]
theorem allM_snoc : ∀ (a : List (List FE)) (j s : Nat) (e : List FE), allM j s (a ++ [e]) = allM j s a ++ shA (j + a.length) (s + (wholeO a).length) (laidM false e)
  | [], j, s, e => by simp [allM, wholeO]
  | x :: a, j, s, e => by
    have := allM_snoc a (j + 1) (s + (pieceO x).length) e
    simp only [List.cons_append, allM, this, List.append_assoc, List.length_cons]
    rw [show j + 1 + a.length = j + (a.length + 1) by omega, show s + (pieceO x).length + (wholeO a).length = s + (wholeO (x :: a)).length by simp [wholeO]; omega]
theorem allM_len : ∀ (a : List (List FE)) (j s : Nat), (∀ fs ∈ a, ∀ e ∈ fs, Body e.d e.ms) → (allM j s a).length ≤ (wholeO a).length
  | [], _, _, _ => by simp [allM]
  | x :: a, j, s, h => by
    have := allM_len a (j + 1) (s + (pieceO x).length) fun fs hf => h fs (.tail _ hf)
    have h2 := laid_len (row := false) (h x (.head _))
    have h3 := wrap_len (mkF false 0 x).octs
    simp only [allM, shA, List.length_append, List.length_map, wholeO, List.map_cons, List.flatten_cons, pieceO] at this ⊢
    omega
structure LS (nums : List Int) (rows : List (List FE)) (σ : St) : Prop where
  own : σ.own = none
  nu : σ.vars.lookup ("numbers" : Str) = some (.list (nums.map PV.int))
  dc : σ.vars.lookup ("docs" : Str) = some (.list (rows.map docPV))
  pc : σ.vars.lookup ("pieces" : Str) = some (.list (rows.map fun fs => .bytes (pieceO fs)))
structure MIn (nums : List Int) (rows : List (List FE)) (acc : List Nat) (σ : St) : Prop extends LS nums rows σ where
  la : σ.vars.lookup ("laid" : Str) = some (.list (rows.map laidPV))
  wh : σ.vars.lookup ("whole" : Str) = some (.bytes (wholeO rows))
  mq : σ.vars.lookup ("marks" : Str) = some (.list ((allM 0 0 (rows.take acc.length)).map amPV))
  st : σ.vars.lookup ("start" : Str) = some (.int (wholeO (rows.take acc.length)).length)
set_option maxHeartbeats 4000000 in
theorem law3 {n : Nat} {C : Cx} (W : LawC n C) (s0 s1 s2 s3 s4 s5 s6 s7 s8 s9 : Stmt) (rest body : List Stmt) (hb : Flaw.body = .stmts (s0 :: s1 :: s2 :: s3 :: s4 :: s5 :: s6 :: body)) (hr : body = s7 :: s8 :: s9 :: rest)
    {nums : List Int} {rows : List (List FE)} {σ : St} (hR : RowsOk 6 rows) (hS : LS nums rows σ) (h1 : σ.vars.lookup ("laid" : Str) = some (.list (rows.map laidPV))) (h2 : σ.vars.lookup ("whole" : Str) = some (.bytes (wholeO rows)))
    (next : ∀ (σ : St), LS nums rows σ → σ.vars.lookup ("whole" : Str) = some (.bytes (wholeO rows)) → σ.vars.lookup ("marks" : Str) = some (.list ((allM 0 0 rows).map amPV)) → LawT C rest σ) : LawT C body σ := by
  obtain ⟨ok, Lk, L, hlw, hcw, hh, hn⟩ := W
  obtain ⟨ho, hnu, hdc, hpc⟩ := hS
  have hz := FuncBody.stmts.inj hb
  injection hz with e0 hz; clear e0
  injection hz with e0 hz; clear e0
  injection hz with e0 hz; clear e0
  injection hz with e0 hz; clear e0
  injection hz with e0 hz; clear e0
  injection hz with e0 hz; clear e0
  injection hz with e0 hz; clear e0
  clear hb
  subst hz
  injection hr with e0 hr; clear e0
  injection hr with e0 hr; clear e0
  injection hr with e0 hr; clear e0
  rw [hr]
  clear hr
  have hlen := hR.len
  tbr_iter "stmt"
  refine T1.assign ok (by tbr_iter "can") rfl ?_
  tbr_iter "expr"
  tbr_iter "go"
  refine T1.for ok Lk.fe hh (fun _ => rfl) (TI.range1 ok hh (L.kind (by kernel_rfl)) (L.gv gl_range) rfl ?_)
  tbr_iter "go"
  rw [List.length_map]
  refine ⟨by omega, ⟨by omega, by omega⟩, ?_⟩
  rw [range0]
  refine ForT.list (fun i : Nat => PV.int (i : Int)) (MIn nums rows) (fun acc i => i = acc.length ∧ i < rows.length) ?_ (List.range rows.length) [] _ (fun k a e => ?_) ⟨⟨ho, by tbr_iter "lk", by tbr_iter "lk", by tbr_iter "lk"⟩, by tbr_iter "lk", by tbr_iter "lk", (show _ = some (PV.list []) by tbr_iter "lk"), (show _ = some (PV.int 0) by tbr_iter "lk")⟩ ?_
  · intro i acc σ ⟨hi, hlt⟩ ⟨⟨h1, h2, h3, h4⟩, h5, h6, h7, h8⟩
    have hfl : (rows.map laidPV)[((i : Int)).toNat]? = some (laidPV rows[i]) := by rw [Int.toNat_natCast, List.getElem?_map, List.getElem?_eq_getElem hlt]; rfl
    have hfp : (rows.map fun fs => PV.bytes (pieceO fs))[((i : Int)).toNat]? = some (.bytes (pieceO rows[i])) := by rw [Int.toNat_natCast, List.getElem?_map, List.getElem?_eq_getElem hlt]; rfl
    have hmem : rows[i] ∈ rows := List.getElem_mem hlt
    have hro := hR.row _ hmem
    have hps := piece_sz hR hmem
    have hwz := whole_sz hR
    have hbo : ∀ fs ∈ rows, ∀ e ∈ fs, Body e.d e.ms := fun fs hf e he => ((hR.row fs hf).ok e he).body
    have hml := laid_len (row := false) (hbo _ hmem)
    have hal := allM_len (rows.take acc.length) 0 0 fun fs hf => hbo fs (List.mem_of_mem_take hf)
    have hwt : ∀ m : Nat, (wholeO (rows.take m)).length ≤ (wholeO rows).length := fun m => by
      have e : wholeO rows = wholeO (rows.take m) ++ wholeO (rows.drop m) := by rw [wholeO, wholeO, wholeO, ← List.flatten_append, ← List.map_append, List.take_append_drop]
      rw [e, List.length_append]; omega
    have hw1 := hwt acc.length
    have hpl := wrap_len (mkF false 0 rows[i]).octs
    have hsn : rows.take (acc.length + 1) = rows.take acc.length ++ [rows[i]] := by subst hi; rw [List.take_succ, List.getElem?_eq_getElem hlt]; rfl
    have hal2 : (rows.take acc.length).length = i := by rw [List.length_take]; omega
    have hso : wholeO (rows.take (acc.length + 1)) = wholeO (rows.take acc.length) ++ pieceO rows[i] := by rw [hsn]; simp [wholeO]
    have hsm := allM_snoc (rows.take acc.length) 0 0 rows[i]
    rw [← hsn, hal2, Nat.zero_add, Nat.zero_add] at hsm
    refine ⟨_, Bind.name (L.canC hcw (by kernel_rfl)) (own_ne_none h1), ?_⟩
    tbr_iter "go"
    refine TE.listcomp ok hh (fun _ => rfl) (CompScope.of L (by kernel_rfl)) (TI.list hh ?_)
    tbr_iter "go"
    refine itemL (by omega) hfl ?_
    dsimp only [laidPV]
    tbr_iter "go"
    refine ⟨(shA i (wholeO (rows.take acc.length)).length (laidM false rows[i])).map amPV, by
      rw [shA, List.map_map]
      refine LcT.map (laidM false rows[i]) mkPV _ ⟨[("j", .int (i : Nat)), ("start", .int ((wholeO (rows.take acc.length)).length : Nat))], none⟩ (CompVars.cons (by tbr_iter "lk") (by tbr_iter "nn") (by kernel_rfl) (CompVars.cons (by tbr_iter "lk") (by tbr_iter "nn") (by kernel_rfl) CompVars.nil)) (by omega) fun m he C' c => ?_
      have L' := L.comp (CompScope.of L (by kernel_rfl)) c
      have hh' := c.hd.trans hh
      refine ⟨_, Bind.tup (xs := [("place", _), ("least", _), ("count", _)]) rfl ?_, ?_⟩
      · intro x hx
        simp only [List.mem_cons, List.not_mem_nil, or_false] at hx
        rcases hx with rfl | rfl | rfl <;> exact ⟨L'.canL c.lw (by kernel_rfl), nofun⟩
      · dsimp only [List.zip, List.zipWith, List.foldl]
        tbr_iter "go"
        simp [amPV], ?_⟩
    refine ⟨by simp [shA]; omega, own_ne_none h1, ?_⟩
    tbr_iter "go"
    refine itemL (by omega) hfp ?_
    tbr_iter "go"
    refine ⟨by unfold pieceO; omega, own_ne_none h1, ?_⟩
    tbr_iter "go"
    refine ⟨⟨h1, by tbr_iter "lk", by tbr_iter "lk", by tbr_iter "lk"⟩, by tbr_iter "lk", by tbr_iter "lk", ?_, ?_⟩
    · rw [List.length_append, List.length_singleton, hsm, List.map_append]
      tbr_iter "lk"
    · rw [List.length_append, List.length_singleton, hso, List.length_append, Int.natCast_add]
      exact hit
  · have := List.getElem?_range (n := rows.length) (i := k) (by have := (List.getElem?_eq_some_iff.mp e).1; simpa using this)
    rw [this] at e; cases e
    have hk : k < rows.length := by have := (List.getElem?_eq_some_iff.mp this).1; simpa using this
    simp; omega
  · intro σ ⟨h1, h2, h3, h4, h5⟩
    simp only [List.nil_append, List.length_range, List.take_length] at h4
    exact next _ h1 h3 h4
end
section
/-! the octets, perhaps with one that is changed (plain) -/
theorem allM_mem : ∀ (rows : List (List FE)) (j s : Nat) (m : Nat × Mk), m ∈ allM j s rows → ∃ a fs b, rows = a ++ fs :: b ∧ m.1 = j + a.length ∧ ∃ m' ∈ laidM false fs, m.2 = (s + (wholeO a).length + m'.1, m'.2.1, m'.2.2)
  | [], _, _, _, h => by simp [allM] at h
  | x :: r, j, s, m, h => by
    simp only [allM, List.mem_append, shA, List.mem_map] at h
    rcases h with ⟨m', hm, rfl⟩ | h
    · exact ⟨[], x, r, rfl, rfl, m', hm, by simp [wholeO]⟩
    · obtain ⟨a, fs, b, rfl, h1, m', hm, h2⟩ := allM_mem r (j + 1) (s + (pieceO x).length) m h
      refine ⟨x :: a, fs, b, rfl, by rw [h1]; simp; omega, m', hm, ?_⟩
      rw [h2]
      simp [wholeO]; omega
theorem whole_app (a b : List (List FE)) : wholeO (a ++ b) = wholeO a ++ wholeO b := by simp [wholeO]
theorem whole_cons (x : List FE) (b : List (List FE)) : wholeO (x :: b) = pieceO x ++ wholeO b := by simp [wholeO]
def docOf (fs : List FE) : Doc := (mkF false 0 fs, pieceO fs)
structure Cut (rows : List (List FE)) (w : List UInt8) (good : Nat) (ds : List Doc) : Prop where
  fl : ds.map (·.1) = rows.map (mkF false 0)
  oct : w = flat2 ds
  ok : ∀ x ∈ ds, DocOk 6 x
  cs : (good = rows.length ∧ ∀ x ∈ ds, x.2 = wrapO x.1.octs) ∨ ∃ a x b, ds = a ++ x :: b ∧ good = a.length ∧ HurtW x.1.octs x.1.Hurt x.2 ∧ ∀ y ∈ a, y.2 = wrapO y.1.octs
theorem docOf_ok {rows : List (List FE)} (hR : RowsOk 6 rows) {fs : List FE} (hf : fs ∈ rows) : DocOk 6 (docOf fs) :=
  ⟨.inl rfl, mkF_wf false fs 0 (hR.row fs hf).ok nofun, by show (mkF false 0 fs).keys.Nodup; rw [mkF_keys]; exact (hR.row fs hf).nd, mkF_dep false fs 0 (hR.row fs hf).dep⟩
theorem flat_whole (rows : List (List FE)) : flat2 (rows.map docOf) = wholeO rows := by simp [flat2, wholeO, docOf, Function.comp_def]
theorem cut_none {rows : List (List FE)} (hR : RowsOk 6 rows) : Cut rows (wholeO rows) rows.length (rows.map docOf) :=
  ⟨by simp [docOf, Function.comp_def], (flat_whole rows).symm, fun x hx => by
    obtain ⟨fs, hf, rfl⟩ := List.mem_map.mp hx
    exact docOf_ok hR hf, .inl ⟨rfl, fun x hx => by
    obtain ⟨fs, hf, rfl⟩ := List.mem_map.mp hx
    rfl⟩⟩
theorem cut_one {rows : List (List FE)} (hR : RowsOk 6 rows) {m : Nat × Mk} (hm : m ∈ allM 0 0 rows) : m.2.1 < (wholeO rows).length ∧ 1 ≤ m.2.2.2 ∧ m.2.2.1 + m.2.2.2 ≤ 256 ∧
    ∀ c : UInt8, m.2.2.1 ≤ c.toNat → c.toNat < m.2.2.1 + m.2.2.2 → ∃ ds, Cut rows ((wholeO rows).set m.2.1 c) m.1 ds := by
  obtain ⟨a, fs, b, rfl, h1, m', hm', h2⟩ := allM_mem rows 0 0 m hm
  have hb : ∀ e ∈ fs, Body e.d e.ms := fun e he => ((hR.row fs (by simp)).ok e he).body
  obtain ⟨-, ho⟩ := laid_ok (row := false) hb m' hm'
  rw [h2, Nat.zero_add]
  rw [Nat.zero_add] at h1
  have hlt : m'.1 < (pieceO fs).length := ho.lt
  refine ⟨by rw [whole_app, whole_cons, List.length_append, List.length_append]; dsimp only; omega, ho.pos, ho.top, fun c g1 g2 => ?_⟩
  have hh := ho.hurt c g1 g2
  refine ⟨a.map docOf ++ (mkF false 0 fs, (pieceO fs).set m'.1 c) :: b.map docOf, by simp [docOf, Function.comp_def], ?_, fun x hx => ?_, .inr ⟨a.map docOf, _, b.map docOf, rfl, by rw [h1, List.length_map], hh, fun y hy => ?_⟩⟩
  · rw [flat2_app, flat2_cons, flat_whole, flat_whole, whole_app, whole_cons]
    dsimp only
    rw [List.set_append_right _ _ (by omega), show (wholeO a).length + m'.1 - (wholeO a).length = m'.1 by omega, List.set_append_left _ _ hlt]
  · simp only [List.mem_append, List.mem_cons, List.mem_map] at hx
    rcases hx with ⟨y, hy, rfl⟩ | rfl | ⟨y, hy, rfl⟩
    · exact docOf_ok hR (by simp [hy])
    · have := docOf_ok hR (fs := fs) (by simp)
      exact ⟨.inr hh, this.wf, this.nd, this.dep⟩
    · exact docOf_ok hR (by simp [hy])
  · obtain ⟨z, hz, rfl⟩ := List.mem_map.mp hy
    rfl
end
section
set_option maxHeartbeats 4000000 in
theorem law4 {n : Nat} {C : Cx} (W : LawC n C) (s0 s1 s2 s3 s4 s5 s6 s7 s8 s9 s10 s11 s12 : Stmt) (rest body : List Stmt) (hb : Flaw.body = .stmts (s0 :: s1 :: s2 :: s3 :: s4 :: s5 :: s6 :: s7 :: s8 :: s9 :: body)) (hr : body = s10 :: s11 :: s12 :: rest)
    {nums : List Int} {rows : List (List FE)} {σ : St} (n8 : nums.length = 8) (hR : RowsOk 6 rows) (hS : LS nums rows σ) (h1 : σ.vars.lookup ("whole" : Str) = some (.bytes (wholeO rows))) (h2 : σ.vars.lookup ("marks" : Str) = some (.list ((allM 0 0 rows).map amPV)))
    (next : ∀ (σ : St) (w : List UInt8) (good : Nat) (ds : List Doc), Cut rows w good ds → LS nums rows σ → σ.vars.lookup ("whole" : Str) = some (.bytes w) → σ.vars.lookup ("good" : Str) = some (.int (good : Nat)) → LawT C rest σ) : LawT C body σ := by
  obtain ⟨ok, Lk, L, hlw, hcw, hh, hn⟩ := W
  have hz := FuncBody.stmts.inj hb
  injection hz with e0 hz; clear e0
  injection hz with e0 hz; clear e0
  injection hz with e0 hz; clear e0
  injection hz with e0 hz; clear e0
  injection hz with e0 hz; clear e0
  injection hz with e0 hz; clear e0
  injection hz with e0 hz; clear e0
  injection hz with e0 hz; clear e0
  injection hz with e0 hz; clear e0
  injection hz with e0 hz; clear e0
  clear hb
  subst hz
  injection hr with e0 hr; clear e0
  injection hr with e0 hr; clear e0
  injection hr with e0 hr; clear e0
  rw [hr]
  clear hr
  obtain ⟨ho, hnu, hdc, hpc⟩ := hS
  have hlen := hR.len
  have hwz := whole_sz hR
  have hbo : ∀ fs ∈ rows, ∀ e ∈ fs, Body e.d e.ms := fun fs hf e he => ((hR.row fs hf).ok e he).body
  have hal := allM_len rows 0 0 hbo
  have hf6 : (nums.map PV.int)[(6 : Int).toNat]? = some (.int (nums[6]'(by omega))) := by rw [show (6 : Int).toNat = 6 from rfl, List.getElem?_map, List.getElem?_eq_getElem (by omega)]; rfl
  have hf7 : (nums.map PV.int)[(7 : Int).toNat]? = some (.int (nums[7]'(by omega))) := by rw [show (7 : Int).toNat = 7 from rfl, List.getElem?_map, List.getElem?_eq_getElem (by omega)]; rfl
  tbr_iter "go"
  refine itemL (by omega) hf6 ?_
  tbr_iter "go"
  rw [List.length_map]
  refine ⟨by omega, ?_⟩
  tbr_iter "go"
  have rp := fmod_rng (nums[6]'(by omega)) (y := ((allM 0 0 rows).length : Int) + 1) (by omega)
  generalize (nums[6]'(by omega)).fmod (((allM 0 0 rows).length : Int) + 1) = pick at rp ⊢
  rw [List.length_map]
  refine ⟨by omega, ?_⟩
  tbr_iter "go"
  rw [List.length_map]
  refine ⟨by omega, ?_⟩
  tbr_iter "go"
  by_cases hp : pick < ((allM 0 0 rows).length : Int)
  · tbr_iter "go"
    have hq : pick.toNat < (allM 0 0 rows).length := by omega
    have hfm : ((allM 0 0 rows).map amPV)[pick.toNat]? = some (amPV (allM 0 0 rows)[pick.toNat]) := by rw [List.getElem?_map, List.getElem?_eq_getElem hq]; rfl
    obtain ⟨c1, c2, c3, c4⟩ := cut_one hR (List.getElem_mem hq)
    generalize (allM 0 0 rows)[pick.toNat] = m at *
    refine itemL (by omega) hfm ?_
    dsimp only [amPV]
    refine ⟨_, _, _, _, rfl, ⟨own_ne_none ho, own_ne_none ho, own_ne_none ho, own_ne_none ho⟩, ?_⟩
    tbr_iter "go"
    have r7 := fmod_rng (nums[7]'(by omega)) (y := (m.2.2.2 : Int)) (by omega)
    rw [cut_j (j := (m.2.1 : Int)) (by omega), Int.toNat_natCast]
    refine itemL (by omega) hf7 ?_
    tbr_iter "go"
    generalize (nums[7]'(by omega)).fmod (m.2.2.2 : Int) = r at r7 ⊢
    refine ⟨by intro v hv; simp only [List.mem_singleton] at hv; subst hv; omega, by simp, by simp; omega, ?_⟩
    tbr_iter "go"
    rw [cut_i (i := (m.2.1 : Int) + 1) (by omega), show ((m.2.1 : Int) + 1).toNat = m.2.1 + 1 by omega]
    refine ⟨by simp; omega, own_ne_none ho, ?_⟩
    tbr_iter "go"
    have hc : ((m.2.2.1 : Int) + r).toNat.toUInt8.toNat = ((m.2.2.1 : Int) + r).toNat := by
      generalize hv : ((m.2.2.1 : Int) + r).toNat = v
      have hv2 : v < 256 := by omega
      simp [Nat.toUInt8, Nat.mod_eq_of_lt hv2]
    obtain ⟨ds, hds⟩ := c4 ((m.2.2.1 : Int) + r).toNat.toUInt8 (by rw [hc]; omega) (by rw [hc]; omega)
    have hset : (wholeO rows).set m.2.1 ((m.2.2.1 : Int) + r).toNat.toUInt8 = (wholeO rows).take m.2.1 ++ [((m.2.2.1 : Int) + r).toNat.toUInt8] ++ (wholeO rows).drop (m.2.1 + 1) := by
      rw [List.set_eq_take_append_cons_drop, if_pos c1]; simp
    rw [hset] at hds
    exact next _ _ _ _ hds ⟨ho, by tbr_iter "lk", by tbr_iter "lk", by tbr_iter "lk"⟩ hit (by tbr_iter "lk")
  · tbr_iter "go"
    exact next _ _ _ _ (cut_none hR) ⟨ho, by tbr_iter "lk", by tbr_iter "lk", by tbr_iter "lk"⟩ (by tbr_iter "lk") (by tbr_iter "lk")
end
section
/-! the cutting (plain) -/
theorem doc_head {k : Nat} {x : Doc} (hx : DocOk k x) : ∃ t, x.2 = low4 ((x.1.octs.length : Int) + 5) ++ t ∧ x.2.length = x.1.octs.length + 5 := by
  have h := wrap_all hx.oct
  rcases hx.oct with e | ⟨c, _, e⟩ | ⟨o, _, hl, e⟩
  · exact ⟨_, by rw [e, wrapO, List.append_assoc], h⟩
  · exact ⟨_, by rw [e, wrapX, List.append_assoc], h⟩
  · exact ⟨_, by rw [e, wrapO, List.append_assoc, hl], h⟩
theorem bad_take {k : Nat} {x : Doc} (hx : DocOk k x) (t : List UInt8) {q : Nat} (hz : x.2.length ≤ 1000000) (hl : q ≤ (x.2 ++ t).length) (hq : q ≠ x.2.length) :
    ((x.2 ++ t).take q).length < 4 ∨ ∃ m : Nat, m ≤ 1000000 ∧ At ((x.2 ++ t).take q) 0 (low4 ((m : Int) + 5)) ∧ ((x.2 ++ t).take q).length ≠ m + 5 := by
  obtain ⟨u, e, hlen⟩ := doc_head hx
  have h4 : (low4 ((x.1.octs.length : Int) + 5)).length = 4 := KTBy.low_length _ _
  have hql : ((x.2 ++ t).take q).length = q := by rw [List.length_take]; omega
  by_cases h : q < 4
  · left; omega
  · right
    refine ⟨x.1.octs.length, by omega, ⟨[], (u ++ t).take (q - 4), ?_, rfl⟩, by omega⟩
    rw [e, List.nil_append, List.append_assoc, List.take_append, h4, List.take_of_length_le (by omega)]
theorem cut_len {rows : List (List FE)} {w : List UInt8} {good : Nat} {ds : List Doc} (h : Cut rows w good ds) : w.length = (wholeO rows).length := by
  have key : ∀ (ds : List Doc) (rows : List (List FE)), ds.map (·.1) = rows.map (mkF false 0) → (∀ x ∈ ds, DocOk 6 x) → (flat2 ds).length = (wholeO rows).length := by
    intro ds
    induction ds with
    | nil => intro rows e _; cases rows with
      | nil => rfl
      | cons a r => cases e
    | cons x r ih =>
      intro rows e hx
      cases rows with
      | nil => cases e
      | cons a r' =>
        simp only [List.map_cons, List.cons.injEq] at e
        have := ih r' e.2 fun y hy => hx y (.tail _ hy)
        have h1 := wrap_all (hx x (.head _)).oct
        rw [flat2_cons, whole_cons, List.length_append, List.length_append, this, h1, e.1, pieceO, wrap_len]
  rw [h.oct]
  exact key ds rows h.fl h.ok
/-- after i octets -/
structure Cutting (ds : List Doc) (i : Nat) (found : List Doc) (buf : List UInt8) : Prop where
  ex : ∃ b q, ds = found ++ b ∧ (∀ y ∈ found, y.2 = wrapO y.1.octs) ∧ buf = (flat2 b).take q ∧ i = (flat2 found).length + q ∧ ∀ x r, b = x :: r → q < x.2.length ∨ HurtW x.1.octs x.1.Hurt x.2
theorem cutting0 {ds : List Doc} (hd : ∀ x ∈ ds, DocOk 6 x) : Cutting ds 0 [] [] :=
  ⟨ds, 0, rfl, nofun, rfl, rfl, fun x r e => .inl (by
    subst e
    obtain ⟨_, _, h⟩ := doc_head (hd x (.head _))
    omega)⟩
theorem cut_end {rows : List (List FE)} {w : List UInt8} {good : Nat} {ds found : List Doc} {buf : List UInt8} (h : Cut rows w good ds) (c : Cutting ds w.length found buf) : found.map (·.2) = (rows.map pieceO).take good ∧ ((good = rows.length ∧ (∀ x ∈ ds, x.2 = wrapO x.1.octs)) ∨ (good < rows.length ∧ ∃ x ∈ ds, HurtW x.1.octs x.1.Hurt x.2)) := by
  obtain ⟨b, q, e, hf, hb, hi, hq⟩ := c.ex
  have hlast : b = [] ∨ ∃ x r, b = x :: r ∧ HurtW x.1.octs x.1.Hurt x.2 := by
    cases b with
    | nil => exact .inl rfl
    | cons x r =>
      right
      refine ⟨x, r, rfl, (hq x r rfl).resolve_left fun hlt => ?_⟩
      rw [h.oct, e, flat2_app, List.length_append, flat2_cons, List.length_append] at hi
      omega
  have hpre : ∀ (a : List Doc) (rs : List (List FE)) (b : List Doc), (a ++ b).map (·.1) = rs.map (mkF false 0) → (∀ y ∈ a, y.2 = wrapO y.1.octs) → a.map (·.2) = (rs.map pieceO).take a.length := by
    intro a
    induction a with
    | nil => intro rs b _ _; simp
    | cons y a ih =>
      intro rs b e1 e2
      cases rs with
      | nil => cases e1
      | cons f rs =>
        simp only [List.cons_append, List.map_cons, List.cons.injEq] at e1
        simp only [List.map_cons, List.length_cons, List.take_succ_cons]
        rw [ih rs b e1.2 fun z hz => e2 z (.tail _ hz), e2 y (.head _), e1.1, pieceO]
  have hlen : ds.length = rows.length := by have := congrArg List.length h.fl; simpa using this
  have hfd := hpre found rows b (by rw [← e]; exact h.fl) hf
  rcases h.cs with ⟨hg, hall⟩ | ⟨a, x, b', e', hg, hh, ha⟩
  · rcases hlast with rfl | ⟨x, r, rfl, hh⟩
    · rw [List.append_nil] at e
      exact ⟨by rw [hfd, hg, ← hlen, e], .inl ⟨hg, hall⟩⟩
    · exact absurd (hall x (by rw [e]; simp)) (hurtW_ne hh)
  · have hxm : x ∈ ds := by rw [e']; simp
    have hal : a.length < ds.length := by rw [e']; simp
    have hfa : found.length = a.length := by
      rcases Nat.lt_trichotomy found.length a.length with hlt | heq | hgt
      · exfalso
        rcases hlast with rfl | ⟨z, r, rfl, hz⟩
        · rw [List.append_nil] at e; rw [← e] at hlt; omega
        · have hz1 : ds[found.length]? = some z := by rw [e]; simp
          have hz2 : z ∈ a := by
            rw [e', List.getElem?_append_left hlt] at hz1
            exact List.mem_of_getElem? hz1
          exact hurtW_ne hz (ha z hz2)
      · exact heq
      · exfalso
        have hx1 : ds[a.length]? = some x := by rw [e']; simp
        rw [e, List.getElem?_append_left hgt] at hx1
        exact hurtW_ne hh (hf x (List.mem_of_getElem? hx1))
    exact ⟨by rw [hfd, hg, hfa], .inr ⟨by omega, x, hxm, hh⟩⟩
end
section
theorem cut_next {ds found : List Doc} {i : Nat} {buf : List UInt8} (hd : ∀ x ∈ ds, DocOk 6 x) (c : Cutting ds i found buf) (hi : i < (flat2 ds).length) :
    ∃ x ∈ ds, ∃ t q, buf ++ ((flat2 ds).drop i).take 1 = (x.2 ++ t).take q ∧ q ≤ (x.2 ++ t).length ∧ x.2.length ≤ (flat2 ds).length ∧ found.length < ds.length ∧
      ((q ≠ x.2.length ∧ Cutting ds (i + 1) found ((x.2 ++ t).take q)) ∨ ((x.2 ++ t).take q = x.2 ∧ (x.2 = wrapO x.1.octs → Cutting ds (i + 1) (found ++ [x]) []) ∧ (HurtW x.1.octs x.1.Hurt x.2 → Cutting ds (i + 1) found x.2))) := by
  obtain ⟨b, q, e, hf, hb, hiq, hq⟩ := c.ex
  have hfl : (flat2 ds).length = (flat2 found).length + (flat2 b).length := by rw [e, flat2_app, List.length_append]
  cases b with
  | nil => rw [show flat2 ([] : List Doc) = [] from rfl] at hfl hb; have := hfl; simp only [List.length_nil] at this; omega
  | cons x r =>
    have hxm : x ∈ ds := by rw [e]; simp
    have hbc : flat2 (x :: r) = x.2 ++ flat2 r := flat2_cons x r
    have hqb : q < (flat2 (x :: r)).length := by omega
    have hnew : buf ++ ((flat2 ds).drop i).take 1 = (x.2 ++ flat2 r).take (q + 1) := by
      have h1 : (flat2 ds).drop i = (flat2 (x :: r)).drop q := by
        rw [e, flat2_app, hiq, List.drop_append, List.drop_of_length_le (by omega), List.nil_append, show (flat2 found).length + q - (flat2 found).length = q by omega]
      rw [h1, hb, ← hbc]
      rw [List.take_add]
    refine ⟨x, hxm, flat2 r, q + 1, hnew, by rw [← hbc]; omega, by rw [hfl, hbc, List.length_append]; omega, by rw [e]; simp, ?_⟩
    by_cases hx : q + 1 = x.2.length
    · right
      have htk : (x.2 ++ flat2 r).take (q + 1) = x.2 := by rw [hx, List.take_left']; rfl
      refine ⟨htk, fun hg => ⟨r, 0, by rw [e]; simp, fun y hy => ?_, rfl, ?_, fun y r' e' => .inl ?_⟩, fun hh => ⟨x :: r, q + 1, e, hf, by rw [hbc, htk], by omega, fun y r' e' => .inr ?_⟩⟩
      · simp only [List.mem_append, List.mem_singleton] at hy
        rcases hy with hy | rfl
        · exact hf y hy
        · exact hg
      · rw [flat2_app, List.length_append, show flat2 [x] = x.2 by simp [flat2]]; omega
      · obtain ⟨_, _, h⟩ := doc_head (hd y (by rw [e, e']; simp))
        omega
      · cases e'; exact hh
    · left
      refine ⟨hx, ⟨x :: r, q + 1, e, hf, by rw [hbc], by omega, fun y r' e' => ?_⟩⟩
      cases e'
      rcases hq x r rfl with h | h
      · exact .inl (by omega)
      · exact .inr h
end
section
structure KIn (rows : List (List FE)) (ds : List Doc) (w : List UInt8) (good : Nat) (acc : List Nat) (σ : St) : Prop where
  own : σ.own = some ("found" : Str)
  dc : σ.vars.lookup ("docs" : Str) = some (.list (rows.map docPV))
  pc : σ.vars.lookup ("pieces" : Str) = some (.list (rows.map fun fs => .bytes (pieceO fs)))
  wh : σ.vars.lookup ("whole" : Str) = some (.bytes w)
  gd : σ.vars.lookup ("good" : Str) = some (.int (good : Nat))
  ex : ∃ found buf, Cutting ds acc.length found buf ∧ σ.vars.lookup ("found" : Str) = some (.list (found.map fun x => .bytes x.2)) ∧ σ.vars.lookup ("buffer" : Str) = some (.bytes buf)
set_option maxHeartbeats 4000000 in
theorem law5 {n : Nat} {C : Cx} (W : LawC n C) (s0 s1 s2 s3 s4 s5 s6 s7 s8 s9 s10 s11 s12 s13 s14 s15 : Stmt) (rest body : List Stmt) (hb : Flaw.body = .stmts (s0 :: s1 :: s2 :: s3 :: s4 :: s5 :: s6 :: s7 :: s8 :: s9 :: s10 :: s11 :: s12 :: body)) (hr : body = s13 :: s14 :: s15 :: rest)
    {nums : List Int} {rows : List (List FE)} {σ : St} {w : List UInt8} {good : Nat} {ds : List Doc} (hR : RowsOk 6 rows) (hC : Cut rows w good ds) (hS : LS nums rows σ) (h1 : σ.vars.lookup ("whole" : Str) = some (.bytes w)) (h2 : σ.vars.lookup ("good" : Str) = some (.int (good : Nat)))
    (next : ∀ (σ : St) (found : List Doc), found.map (·.2) = (rows.map pieceO).take good → σ.own = some ("found" : Str) → σ.vars.lookup ("docs" : Str) = some (.list (rows.map docPV)) → σ.vars.lookup ("pieces" : Str) = some (.list (rows.map fun fs => .bytes (pieceO fs))) → σ.vars.lookup ("whole" : Str) = some (.bytes w) → σ.vars.lookup ("good" : Str) = some (.int (good : Nat)) → σ.vars.lookup ("found" : Str) = some (.list (found.map fun x => .bytes x.2)) → LawT C rest σ) : LawT C body σ := by
  obtain ⟨ok, Lk, L, hlw, hcw, hh, hn⟩ := W
  have hz := FuncBody.stmts.inj hb
  injection hz with e0 hz; clear e0
  injection hz with e0 hz; clear e0
  injection hz with e0 hz; clear e0
  injection hz with e0 hz; clear e0
  injection hz with e0 hz; clear e0
  injection hz with e0 hz; clear e0
  injection hz with e0 hz; clear e0
  injection hz with e0 hz; clear e0
  injection hz with e0 hz; clear e0
  injection hz with e0 hz; clear e0
  injection hz with e0 hz; clear e0
  injection hz with e0 hz; clear e0
  injection hz with e0 hz; clear e0
  clear hb
  subst hz
  injection hr with e0 hr; clear e0
  injection hr with e0 hr; clear e0
  injection hr with e0 hr; clear e0
  rw [hr]
  clear hr
  obtain ⟨ho, hnu, hdc, hpc⟩ := hS
  have hlen := hR.len
  have hwz := whole_sz hR
  have hcl := cut_len hC
  have hdl : ds.length = rows.length := by have := congrArg List.length hC.fl; simpa using this
  tbr_iter "go"
  refine T1.for ok Lk.fe hh (fun _ => rfl) (TI.range1 ok hh (L.kind (by kernel_rfl)) (L.gv gl_range) rfl ?_)
  tbr_iter "go"
  rw [range0]
  refine ForT.list (fun i : Nat => PV.int (i : Int)) (KIn rows ds w good) (fun acc i => i = acc.length ∧ i < w.length) ?_ (List.range w.length) [] _ (fun k a e => ?_) ⟨rfl, by tbr_iter "lk", by tbr_iter "lk", by tbr_iter "lk", by tbr_iter "lk", [], [], cutting0 hC.ok, (show _ = some (PV.list []) by tbr_iter "lk"), by tbr_iter "lk"⟩ ?_
  · intro i acc σ ⟨hi, hlt⟩ ⟨h1, h2, h3, h4, h5, found, buf, h6, h7, h8⟩
    rw [← hi] at h6
    obtain ⟨x, hxm, t, q, hnew, hql, hxl, hfl, hcase⟩ := cut_next hC.ok h6 (by rw [← hC.oct]; exact hlt)
    rw [← hC.oct] at hnew hxl
    have hxo := hC.ok x hxm
    refine ⟨_, Bind.name (L.canL hlw (by kernel_rfl)) (own_ne h1 (str_ne (by decide))), ?_⟩
    tbr_iter "go"
    have hbl : buf.length ≤ (flat2 ds).length := by
      obtain ⟨b, q', e, _, eb, _⟩ := h6.ex
      rw [e, eb, flat2_app, List.length_append, List.length_take]; omega
    rw [← hC.oct] at hbl
    have hg : gN 6 + 4 ≤ n := by unfold gN; omega
    rw [cut_ij (i := (i : Int)) (j := (i : Int) + 1) (by omega) (by omega), show ((i : Int) + 1).toNat - ((i : Int)).toNat = 1 by omega, Int.toNat_natCast]
    refine ⟨by simp; omega, own_ne h1 (str_ne (by decide)), ?_⟩
    rw [hnew]
    rcases hcase with ⟨hq, hnext⟩ | ⟨htk, hgood, hbad⟩
    · tbr_iter "go"
      refine L.dn (c_is_valid_bad (k := 6) (by rw [← hnew]; simp; omega) (bad_take hxo t (by omega) hql hq)) hg hh (fun r hr => ?_) fun y hy => hy.elim
      subst hr
      tbr_iter "go"
      refine ⟨h1, by tbr_iter "lk", by tbr_iter "lk", by tbr_iter "lk", by tbr_iter "lk", found, _, ?_, by tbr_iter "lk", by tbr_iter "lk"⟩
      rw [List.length_append, List.length_singleton, ← hi]; exact hnext
    · rw [htk]
      tbr_iter "go"
      refine L.dn (c_is_valid (k := 6) hxo.oct hxo.wf hxo.nd (by omega) hxo.dep) hg hh (fun r hr => ?_) fun y hy => hy.elim
      rcases hr with ⟨rfl, hx⟩ | ⟨rfl, hx⟩
      · tbr_iter "go"
        have more : ∀ v : UInt8, (x.2 ++ [v]).length < 4 ∨ ∃ m : Nat, m ≤ 1000000 ∧ At (x.2 ++ [v]) 0 (low4 ((m : Int) + 5)) ∧ (x.2 ++ [v]).length ≠ m + 5 := fun v => by
          have := bad_take hxo [v] (q := x.2.length + 1) (by omega) (by simp) (by omega)
          rwa [List.take_of_length_le (by simp)] at this
        refine L.dn (c_is_valid_bad (k := 6) (by simp; omega) (more 0)) hg hh (fun r hr => ?_) fun y hy => hy.elim
        subst hr
        tbr_iter "go"
        refine L.dn (c_is_valid_bad (k := 6) (by simp; omega) (more 255)) hg hh (fun r hr => ?_) fun y hy => hy.elim
        subst hr
        tbr_iter "go"
        refine T1.app ok (by tbr_iter "lk") h1 (by tbr_iter "dbg") rfl rfl (by rw [List.length_map]; omega) fun X hX => ?_
        have L2 := L.still X hX
        tbr_iter "go"
        refine ⟨h1, by tbr_iter "lk", by tbr_iter "lk", by tbr_iter "lk", by tbr_iter "lk", found ++ [x], [], ?_, ?_, by tbr_iter "lk"⟩
        · rw [List.length_append, List.length_singleton, ← hi]; exact hgood hx
        · rw [List.map_append]
          exact (show _ = some (PV.list (found.map (fun x => PV.bytes x.2) ++ [PV.bytes x.2])) by tbr_iter "lk")
      · tbr_iter "go"
        refine ⟨h1, by tbr_iter "lk", by tbr_iter "lk", by tbr_iter "lk", by tbr_iter "lk", found, _, ?_, by tbr_iter "lk", by tbr_iter "lk"⟩
        rw [List.length_append, List.length_singleton, ← hi]; exact hbad hx
  · have := List.getElem?_range (n := w.length) (i := k) (by have := (List.getElem?_eq_some_iff.mp e).1; simpa using this)
    rw [this] at e; cases e
    have hk : k < w.length := by have := (List.getElem?_eq_some_iff.mp this).1; simpa using this
    simp; omega
  · intro σ ⟨h1, h2, h3, h4, h5, found, buf, h6, h7, h8⟩
    simp only [List.nil_append, List.length_range] at h6
    exact next _ found (cut_end hC h6).1 h1 h2 h3 h4 h5 h7
end
section
theorem c_decode2 {k : Nat} {f : Flds} (wf : f.Wf) (nd : f.keys.Nodup) (hz : (wrapO f.octs).length ≤ 1000000) (hk : f.dep ≤ k) :
    CallOk glF K (gN k + 4) 1455 [.bytes (wrapO f.octs)] (fun r => r = .dict f.keys f.vals) noX :=
  enterD (n := gN k + 3) (T := 1448) (items := [.none]) (rest := [.none]) (es := [.none]) kFdecode okFdecode (fun _ => by kernel_rfl) (fun us h s ho => match us, h with
    | [a], _ => BindsTo.of_defaults (by kernel_rfl : Fdecode.defaults = .ref 1448) ho rfl rfl (by kernel_rfl)) (fun P h X => Reps.cons rep_none Reps.nil) rfl fun C ok Lk L hlw hcw hh => by
    dsimp only [List.zip, List.zipWith, List.cons_append, List.nil_append]
    tbr_iter "go"
    exact L.dn (c_b2d (k := k) (.inl rfl) wf nd hz hk) (Nat.le_refl _) hh (fun v ⟨_, h2⟩ => h2) fun y hy => (hurtW_ne hy.1 rfl).elim
mutual
theorem okD_val : ∀ (d : Dat) (n : Nat), d.Wf → 2 * d.dep + 1 ≤ n → okD n d.val
  | .nul, n, _, h => by cases n <;> simp [okD, Dat.val]
  | .num _, n, _, h => by cases n <;> simp [okD, Dat.val]
  | .tru _, n, _, h => by cases n <;> simp [okD, Dat.val]
  | .txt _ _, n, _, h => by cases n <;> simp [okD, Dat.val]
  | .cod _ _, n, _, h => by
    obtain ⟨n, rfl⟩ : ∃ m, n = m + 1 := ⟨n - 1, by omega⟩
    simp only [Dat.val, okD]
    exact ⟨rfl, by cases n <;> simp [okD]⟩
  | .row f, n, w, h => by
    simp only [Dat.dep] at h
    obtain ⟨n, rfl⟩ : ∃ m, n = m + 1 := ⟨n - 1, by omega⟩
    simp only [Dat.val, okD]
    exact okD_vals f n w.1 (by omega)
  | .doc f, n, w, h => by
    simp only [Dat.dep] at h
    obtain ⟨n, rfl⟩ : ∃ m, n = m + 1 := ⟨n - 1, by omega⟩
    simp only [Dat.val, okD]
    exact ⟨w.2.1, by simp [Flds.keys, Flds.vals_eq], okD_vals f n w.1 (by omega)⟩
  | .scd f, n, w, h => by
    simp only [Dat.dep] at h
    obtain ⟨n, rfl⟩ : ∃ m, n = m + 2 := ⟨n - 2, by omega⟩
    simp only [Dat.val, okD]
    exact ⟨rfl, w.2.1, by simp [Flds.keys, Flds.vals_eq], okD_vals f n w.1 (by omega)⟩
theorem okD_vals : ∀ (f : Flds) (n : Nat), f.Wf → 2 * f.dep + 1 ≤ n → ∀ e ∈ f.vals, okD n e
  | .nil, n, _, _, e, m => by simp [Flds.vals] at m
  | .cons x b d r, n, w, h, e, m => by
    simp only [Flds.Wf] at w
    simp only [Flds.dep] at h
    have hl := Nat.le_max_left d.dep r.dep
    have hr := Nat.le_max_right d.dep r.dep
    simp only [Flds.vals, List.mem_cons] at m
    rcases m with rfl | m
    · exact okD_val d n w.2.1 (by omega)
    · exact okD_vals r n w.2.2 (by omega) e m
end
theorem docPV_eq (fs : List FE) : docPV fs = .dict (mkF false 0 fs).keys (mkF false 0 fs).vals := by rw [docPV, mkF_keys, mkF_vals]
theorem docPV_ok {rows : List (List FE)} (hR : RowsOk 6 rows) {fs : List FE} (hf : fs ∈ rows) : okD 14 (docPV fs) := by
  have h := docOf_ok hR hf
  rw [docPV_eq]
  have hd := h.dep
  exact ⟨h.nd, by simp [Flds.keys, Flds.vals_eq], okD_vals _ 13 h.wf (by dsimp only [docOf] at hd ⊢; omega)⟩
set_option maxHeartbeats 4000000 in
theorem law6 {n : Nat} {C : Cx} (W : LawC n C) (s0 s1 s2 s3 s4 s5 s6 s7 s8 s9 s10 s11 s12 s13 s14 s15 s16 s17 s18 s19 : Stmt) (rest body : List Stmt) (hb : Flaw.body = .stmts (s0 :: s1 :: s2 :: s3 :: s4 :: s5 :: s6 :: s7 :: s8 :: s9 :: s10 :: s11 :: s12 :: s13 :: s14 :: s15 :: body)) (hr : body = s16 :: s17 :: s18 :: s19 :: rest)
    {rows : List (List FE)} {σ : St} {w : List UInt8} {good : Nat} {ds found : List Doc} (hR : RowsOk 6 rows) (hC : Cut rows w good ds) (hf : found.map (·.2) = (rows.map pieceO).take good) (ho : σ.own = some ("found" : Str)) (hdc : σ.vars.lookup ("docs" : Str) = some (.list (rows.map docPV))) (hpc : σ.vars.lookup ("pieces" : Str) = some (.list (rows.map fun fs => .bytes (pieceO fs)))) (hwh : σ.vars.lookup ("whole" : Str) = some (.bytes w)) (hgd : σ.vars.lookup ("good" : Str) = some (.int (good : Nat))) (hfo : σ.vars.lookup ("found" : Str) = some (.list (found.map fun x => .bytes x.2)))
    (next : rest = []) : LawT C body σ := by
  obtain ⟨ok, Lk, L, hlw, hcw, hh, hn⟩ := W
  have hz := FuncBody.stmts.inj hb
  injection hz with e0 hz; clear e0
  injection hz with e0 hz; clear e0
  injection hz with e0 hz; clear e0
  injection hz with e0 hz; clear e0
  injection hz with e0 hz; clear e0
  injection hz with e0 hz; clear e0
  injection hz with e0 hz; clear e0
  injection hz with e0 hz; clear e0
  injection hz with e0 hz; clear e0
  injection hz with e0 hz; clear e0
  injection hz with e0 hz; clear e0
  injection hz with e0 hz; clear e0
  injection hz with e0 hz; clear e0
  injection hz with e0 hz; clear e0
  injection hz with e0 hz; clear e0
  injection hz with e0 hz; clear e0
  clear hb
  subst hz
  injection hr with e0 hr; clear e0
  injection hr with e0 hr; clear e0
  injection hr with e0 hr; clear e0
  injection hr with e0 hr; clear e0
  rw [hr]
  clear hr
  subst next
  have hlen := hR.len
  have hwz := whole_sz hR
  have hcl := cut_len hC
  have hdl : ds.length = rows.length := by have := congrArg List.length hC.fl; simpa using this
  tbr_iter "stmt"
  refine T1.assign_listcomp ok hh (fun _ => rfl) (CompScope.of L (by kernel_rfl)) (swap_list L (by kernel_rfl) (by kernel_rfl)) (L.canL hlw (by kernel_rfl)) (TI.list hh ?_)
  tbr_iter "go"
  refine ⟨rows.map docPV, LcT.map rows (fun fs => .bytes (pieceO fs)) docPV ⟨[], none⟩ CompVars.nil (by omega) fun fs hf C' c => ?_, own_ne ho (str_ne (by decide)), ?_⟩
  · have L' := L.comp (CompScope.of L (by kernel_rfl)) c
    have hh' := c.hd.trans hh
    have hps := piece_sz hR hf
    have hdo := docOf_ok hR hf
    refine ⟨_, Bind.name (L'.canL c.lw (by kernel_rfl)) nofun, ?_⟩
    tbr_iter "go"
    refine L'.go (c_decode2 (k := 6) hdo.wf hdo.nd (by rw [wrap_len]; show (mkF false 0 fs).octs.length + 5 ≤ _; omega) hdo.dep) (by show gN 6 + 4 ≤ n; unfold gN; omega) hh' ?_
    rw [docPV_eq]
  tbr_iter "stmt"
  tbr_iter "stmt"
  refine TB.bool ?_
  refine TBs.or_cons ?_
  refine TB.neBytes L ?_
  tbr_iter "go"
  rw [cut_j (j := (good : Int)) (by omega), Int.toNat_natCast]
  have hfv : (rows.map fun fs => PV.bytes (pieceO fs)).take good = found.map fun x => PV.bytes x.2 := by
    rw [← List.map_take, show (found.map fun x => PV.bytes x.2) = (found.map (·.2)).map PV.bytes by simp, hf, ← List.map_take, List.map_map]; rfl
  rw [hfv]
  refine ⟨by rw [List.length_map]; omega, ⟨_, _, rfl, rfl, bytesOf_map _ found⟩, ?_⟩
  refine go_f Bool.false_ne_true ?_
  refine TBs.or_cons ?_
  refine TB.neBytes L ?_
  refine TE.listcomp ok hh (fun _ => rfl) (CompScope.of L (by kernel_rfl)) (TI.list hh ?_)
  tbr_iter "go"
  refine ⟨rows.map fun fs => .bytes (pieceO fs), LcT.map rows docPV _ ⟨[], none⟩ CompVars.nil (by omega) fun fs hf C' c => ?_, ?_⟩
  · have L' := L.comp (CompScope.of L (by kernel_rfl)) c
    have hh' := c.hd.trans hh
    have hps := piece_sz hR hf
    have hdo := docOf_ok hR hf
    refine ⟨_, Bind.name (L'.canL c.lw (by kernel_rfl)) nofun, ?_⟩
    rw [docPV_eq]
    tbr_iter "go"
    refine L'.go (c_encode (k := 6) hdo.wf hdo.nd (by show (mkF false 0 fs).octs.length ≤ _; omega) hdo.dep) (by show 4 * 6 + 7 ≤ n; omega) hh' ?_
    rfl
  tbr_iter "go"
  refine ⟨⟨_, _, rfl, rfl, bytesOf_map pieceO rows⟩, ?_⟩
  refine go_f Bool.false_ne_true ?_
  refine TBs.or_nil ?_
  refine go_f Bool.false_ne_true ?_
  refine TS.nil ?_
  refine TS.cons ?_
  refine T1.if ?_
  refine TB.bool ?_
  refine TBs.or_cons ?_
  refine TB.not ?_
  refine TB.eqDeep (n := 14) L hh (by show 1 + 32 * 14 ≤ 8 * n; omega) ?_
  tbr_iter "go"
  refine ⟨⟨_, rfl, .inl rfl, fun e he => ?_⟩, ?_⟩
  · obtain ⟨fs, hf, rfl⟩ := List.mem_map.mp he
    exact deepEq 14 _ (docPV_ok hR hf)
  refine go_f Bool.false_ne_true ?_
  refine TBs.or_cons ?_
  refine TB.neBytes L ?_
  refine TE.listcomp ok hh (fun _ => rfl) (CompScope.of L (by kernel_rfl)) (TI.list hh ?_)
  tbr_iter "go"
  refine ⟨rows.map fun fs => .bytes (pieceO fs), LcT.map rows docPV _ ⟨[], none⟩ CompVars.nil (by omega) fun fs hf C' c => ?_, ?_⟩
  · have L' := L.comp (CompScope.of L (by kernel_rfl)) c
    have hh' := c.hd.trans hh
    have hps := piece_sz hR hf
    have hdo := docOf_ok hR hf
    refine ⟨_, Bind.name (L'.canL c.lw (by kernel_rfl)) nofun, ?_⟩
    rw [docPV_eq]
    tbr_iter "go"
    refine L'.go (c_encode (k := 6) hdo.wf hdo.nd (by show (mkF false 0 fs).octs.length ≤ _; omega) hdo.dep) (by show 4 * 6 + 7 ≤ n; omega) hh' ?_
    rfl
  tbr_iter "go"
  refine ⟨⟨_, _, rfl, rfl, bytesOf_map pieceO rows⟩, ?_⟩
  refine go_f Bool.false_ne_true ?_
  refine TBs.or_nil ?_
  refine go_f Bool.false_ne_true ?_
  refine TS.nil ?_
  refine TS.cons ?_
  refine T1.ret ?_
  have hla : gN 6 + 5 ≤ n := by unfold gN; omega
  have hlaw := c_law_all (k := 6) hC.ok (by rw [← hC.oct]; omega)
  rw [← hC.oct] at hlaw
  rcases hC.cs with ⟨hg, hall⟩ | ⟨a, x, b, e, hg, hh2, ha⟩
  · refine TE.eqDeep (n := 0) L hh (by show 1 + 32 * 0 ≤ 8 * n; omega) ?_
    tbr_iter "go"
    refine L.dn hlaw hla hh (fun r hr => ?_) fun y hy => hy.elim
    rcases hr with ⟨_, rfl⟩ | ⟨⟨z, hz, hzh⟩, _⟩
    · tbr_iter "go"
      rw [List.length_map]
      refine ⟨by omega, ?_⟩
      refine go_t (by rw [hg]; simp) ?_
      tbr_iter "go"
      have hpe : (ds.map fun x => PV.bytes x.2) = rows.map fun fs => PV.bytes (pieceO fs) := by
        have h1 : ds.map (·.2) = rows.map pieceO := by
          rw [List.map_congr_left (g := fun x : Doc => wrapO x.1.octs) hall, show (ds.map fun x : Doc => wrapO x.1.octs) = (ds.map (·.1)).map fun f => wrapO f.octs by simp, hC.fl, List.map_map]; rfl
        rw [show (ds.map fun x => PV.bytes x.2) = (ds.map (·.2)).map PV.bytes by simp, h1, List.map_map]; rfl
      refine ⟨⟨_, congrArg PV.list hpe, .inl rfl, fun e he => ?_⟩, rfl⟩
      obtain ⟨fs, hf, rfl⟩ := List.mem_map.mp he
      exact deepEq 0 _ trivial
    · exact absurd (hall z hz) (hurtW_ne hzh)
  · refine TE.eqNone rfl ?_
    tbr_iter "go"
    refine L.dn hlaw hla hh (fun r hr => ?_) fun y hy => hy.elim
    rcases hr with ⟨hz, _⟩ | ⟨_, rfl⟩
    · exact absurd (hz x (by rw [e]; simp)) (hurtW_ne hh2)
    · tbr_iter "go"
      have hal : a.length < rows.length := by rw [← hdl, e]; simp
      rw [List.length_map]
      refine ⟨by omega, ?_⟩
      refine go_f (by simp; omega) ?_
      tbr_iter "go"
theorem c_law {xs : List Int} (h63 : xs.length ≤ 63) : CallOk glF K 61 1505 [.list (xs.map PV.int)] (fun r => r = .bool true) noX := by
  refine enter kFlaw okFlaw bFlaw rfl rfl fun C ok Lk L hlw hcw hh => ?_
  have W : LawC 60 C := ⟨ok, Lk, L, hlw, hcw, hh, Nat.le_refl _⟩
  dsimp only [List.zip, List.zipWith]
  refine law1 h63 W _ _ _ _ _ rfl rfl fun nums rows σ n8 hR a1 a2 a3 => ?_
  refine law2 W _ _ _ _ _ _ _ _ _ rfl rfl hR a1 a2 a3 fun σ b1 b2 b3 b4 b5 b6 => ?_
  refine law3 W _ _ _ _ _ _ _ _ _ _ _ _ rfl rfl hR ⟨b1, b2, b3, b5⟩ b4 b6 fun σ c1 c2 c3 => ?_
  refine law4 W _ _ _ _ _ _ _ _ _ _ _ _ _ _ _ rfl rfl n8 hR c1 c2 c3 fun σ w good ds d1 d2 d3 d4 => ?_
  refine law5 W _ _ _ _ _ _ _ _ _ _ _ _ _ _ _ _ _ _ rfl rfl hR d1 d2 d3 d4 fun σ found e1 e2 e3 e4 e5 e6 e7 => ?_
  exact law6 W _ _ _ _ _ _ _ _ _ _ _ _ _ _ _ _ _ _ _ _ _ _ rfl rfl hR d1 e1 e2 e3 e4 e5 e6 e7 rfl
end
end Mine
section
namespace Mine
/-! the script, as it is given -/
theorem items_int {R : WRecords} : ∀ {ds : List WData}, WShape.hasItems R ds .int = true → ∃ xs : List Int, ds = xs.map .int
  | [], _ => ⟨[], rfl⟩
  | d :: r, h => by
    simp only [WShape.hasItems, Bool.and_eq_true] at h
    obtain ⟨h1, h2⟩ := h
    obtain ⟨xs, rfl⟩ := items_int h2
    cases d <;> simp [WShape.has, WShape.arms] at h1
    rename_i i
    exact ⟨i :: xs, rfl⟩
theorem args_int {R : WRecords} {args : List WData} (h : WShape.hasAll R args [.list .int] = true) : ∃ xs : List Int, args = [.list (xs.map .int)] := by
  obtain ⟨d, r, rfl, h1, h2⟩ := hasAllW_cons h
  have hr : r = [] := by cases r with
    | nil => rfl
    | cons a b => simp [WShape.hasAll] at h2
  subst hr
  cases d <;> simp [WShape.has, WShape.arms] at h1
  obtain ⟨xs, rfl⟩ := items_int h1
  exact ⟨xs, rfl⟩
theorem reps_ints {P : Params} {h : Heap} {X : Addr → Prop} : ∀ {xs : List Int} {vs : List Value}, WellAll P h vs (xs.map .int) → Reps P h X (xs.map PV.int) vs
  | [], _, w => by cases w; exact Reps.nil
  | x :: r, _, w => by
    cases w with
    | cons w1 w2 =>
      cases w1
      exact Reps.cons (rep_int _ _) (reps_ints w2)
theorem reps_script {P : Params} {h : Heap} {xs : List Int} {vals : List Value} (w : WellAll P h vals [.list (xs.map .int)]) : Reps P h (fun _ => False) [.list (xs.map PV.int)] vals := by
  cases w with
  | cons w1 w2 =>
    cases w2
    cases w1 with
    | list e w => exact Reps.cons (by simp only [Rep]; exact ⟨_, _, 0, rfl, e, fun z => z, reps_ints w⟩) Reps.nil
theorem len63 {R : WRecords} {xs : List Int} (h : PySem.Challenge.rw_fc0182_01.pre.holds R { args := [.list (xs.map .int)] } = true) : xs.length ≤ 63 := by
  by_cases hx : xs.length ≤ 63
  · exact hx
  · exfalso
    revert h
    unfold OpenLaw.pre PySem.Challenge.rw_fc0182_01
    have hl : less? (WData.int 63) (WData.int (xs.length : Int)) = some true := by
      show some (decide ((63 : Int) < (xs.length : Int))) = some true
      rw [decide_eq_true (by omega)]
    simp [WTm.holds, WTm.value, hl]
end Mine
end
section
namespace Mine
theorem law_ends {w : World} {s : Shared} {vals : List Value} {args : List WData} (B : Bs glF (K w.params) s.heap) (hg : s.gens = #[]) (h1 : PySem.Challenge.rw_fc0182_01.row.toRowW.claim.pre args = true) (hw : WellAll w.params s.heap vals args) :
    wpAny (model prog w) callerA (PySem.call (.ref 1505) vals) (fun v s' => v = .bool true ∧ (∀ b o, s.heap.get? b = some o → s'.heap.get? b = some o) ∧ s'.os = s.os ∧ s'.gens = #[]) (fun _ _ => False) s := by
  obtain ⟨p1, p2⟩ := pre_splitW h1
  obtain ⟨xs, rfl⟩ := args_int p1
  have h63 := len63 p2
  refine wpAny_call (codeAny_mono (c_law h63 w s.heap [] (1 + claimMargin) 4 (some []) none s (fun _ => False) vals B (fun b o e => e) ?_ hg rfl ?_ (fun _ z => z.elim) (fun _ z => z.elim) (reps_script hw) ?_ ?_) fun r s' z => ?_)
  · trivial
  · intro a m; cases m
  · decide +kernel
  · decide +kernel
  · match r, z with
    | .ok (.ret v), ⟨d, hd, rv, up, g, o⟩ =>
      subst hd
      simp only [Rep] at rv
      exact ⟨rv, fun b ob e => up.keep b ob e (by simp), o, g⟩
    | .error v, ⟨x, a, _, hx, _⟩ => exact hx.elim
end Mine
end
section
namespace Mine
theorem bs_of {q : Program} {loose : List Str} {mean : ExcName → Option Value} {mg mb : Str → Option Value} {w : World} {h : Heap} (T : Top q loose mean mg mb h) (Y : SaysM w h)
    (ho : ((ownsOf q).any fun o => o.name == "InvalidBSON" && o.newId == "Exception.__new__" && o.bm == [.type "Exception", .type "BaseException", .type "object"]) = true) : Bs glF (K w.params) h := by
  refine ⟨Y.names, T.nolimit, T.nodigits, Y.frag, Y.sys, mg, ?_⟩
  obtain ⟨o, hm, e⟩ := List.any_eq_true.mp ho
  simp only [Bool.and_eq_true, beq_iff_eq] at e
  obtain ⟨⟨e1, e2⟩, e3⟩ := e
  obtain ⟨C, O, -⟩ := T.own o hm
  have O1 := O.own
  rw [e1, e2, e3] at O1
  obtain ⟨mg', mb', n1, n2, hgl⟩ := Y.names
  have hmg : mg' = mg := (Heap.Ns.eq_nsMap n1).trans (Heap.Ns.eq_nsMap T.g).symm
  subst hmg
  have hC : mg' "InvalidBSON" = some (.ref 576) := by
    rcases hgl _ _ gl_InvalidBSON with z | ⟨z, _⟩
    · exact z
    · have := O1.bound; rw [z] at this; cases this
  have : C = 576 := by have := O1.bound; rw [hC] at this; cases this; rfl
  subst this
  exact O1
end Mine
end
section
namespace Mine
theorem post_true {args : List WData} : PySem.Challenge.rw_fc0182_01.row.toRowW.claim.post args (.bool true) args = true := by
  show (WShape.has [] (.bool true) .bool && WTm.holds [] (.eq .res (.lit (.bool true))) { args := args, res := some (.bool true), after := args }) = true
  have e : same (WData.bool true) (WData.bool true) = true := by decide +kernel
  simp [WTm.holds, WTm.value, WShape.has, WShape.arms, e]
/-- what the head asks of the walk, for any view that knows InvalidBSON -/
theorem law_walks {q : Program} {loose : List Str} {XP : (Str → Option Value) → Heap → Prop} {d : DefRec} {kwd : List (Str × Expr)} (hn : d.name = "law")
    (hown : ((ownsOf q).any fun o => o.name == "InvalidBSON" && o.newId == "Exception.__new__" && o.bm == [.type "Exception", .type "BaseException", .type "object"]) = true) :
    WalkO q loose XP myHook.says PySem.Challenge.rw_fc0182_01.row.toRowW d kwd fun f vs => PySem.call f vs := by
  intro w s₀ s₁ mg mb G Y fa o pm cd doc dV kV ho hd hcd hD hmg hg args vals as hpre hlay hrd hwl hlo
  have Y' : SaysM w s₁.heap := Y
  have B := bs_of G.T Y' hown
  have ha : fa = 1505 := by
    obtain ⟨mg', mb', n1, n2, hgl⟩ := Y'.names
    have e : mg' = mg := (Heap.Ns.eq_nsMap n1).trans (Heap.Ns.eq_nsMap G.T.g).symm
    subst e
    rw [hn] at hmg
    rcases hgl _ _ gl_law with z | ⟨z, _⟩
    · rw [hmg] at z; cases z; rfl
    · rw [hmg] at z; cases z
  subst ha
  refine wpAny_mono (law_ends B hg hpre hwl) (fun v s' z => ?_) (fun _ _ z => z.elim)
  obtain ⟨rfl, k, os, g⟩ := z
  exact GoodW.toG ⟨.inl ⟨_, .bool true, [], rfl, fun _ => rfl, .bool true, post_true, fun _ => ⟨List.nodup_nil, fun _ m => by cases m⟩⟩, k, os, g⟩
end Mine
end

theorem PySem.Challenge.cw_fc0182_01_holds : PySem.Challenge.rw_fc0182_01.Holds := by
  exact Mine.holds_of Mine.law_walks

import PyProof.Rows.All
import Wide.All
import OpenK.AllK
import Wide.FinOn
import Lean
import PySem.Challenge.RW_an0026_01
open PySem PySem.W PyProof.Rows
set_option Elab.async false
set_option maxRecDepth 1000000
set_option linter.all false
set_option maxHeartbeats 4000000
namespace Mine
section
open PySem PySem.W PyProof.Rows
open PySem.Challenge
noncomputable section
noncomputable def nthS : List Stmt → Nat → Stmt
  | [], _ => .Pass default
  | s :: _, 0 => s
  | _ :: r, n + 1 => nthS r n
noncomputable def clsBody : Stmt → List Stmt
  | .ClassDef _ _ _ b _ _ _ _ _ _ _ => b
  | _ => []
noncomputable def sA (p : Program) (i : Nat) : Stmt := nthS p.main.body i
noncomputable def sB (p : Program) (i j : Nat) : Stmt := nthS (clsBody (nthS p.main.body i)) j
noncomputable def fdOf (s : Stmt) (q : Str) (g : Addr) (cl : List (Str × Addr)) (d kd doc pm : Value) (an : Option Addr) (cd ct : Value) (bi : Addr) : FuncData := match s with
  | .FunctionDef name args body _ _ _ scope _ _ _ => { name := name, qualname := q, params := args, body := .stmts body, scope := scope, globals := g, closure := cl, defaults := d, kwdefaults := kd, doc := doc, pyModule := pm, annotations := an, code := cd, closureTuple := ct, builtins := bi }
  | _ => default
abbrev S (x : String) : Str := Str.ofString x
abbrev dE (P : Params) (x : Str) (t : Tok) (v : Value) : DictEntry := ⟨PyData.keyHash P x, .str x t, v⟩
noncomputable def o1 (P : Params) : Obj := ⟨(.type "dict"), none, (.dict (#[dE P (S "builtins") 162 (.ref 4), dE P (S "__main__") 163 (.ref 5)]) 2), #[]⟩
noncomputable def o2 (P : Params) : Obj := ⟨.none, none, (.dict (#[dE P (S "type.__subclasses__.Exception.0") 1005 (.int 563 0), dE P (S "type.__subclasses__.Exception.n") 1006 (.int 1 0)]) 2), #[]⟩
noncomputable def o3 (P : Params) : Obj := ⟨(.type "dict"), none, (.dict (List.toArray (dE P (S "__name__") 165 (.str (S "law_an0026_01") 2303) :: dE P (S "__doc__") 166 .none :: dE P (S "__package__") 167 .none :: dE P (S "__loader__") 168 (.builtin "__main__.__loader__#opaque") :: dE P (S "__spec__") 169 .none :: dE P (S "__annotations__") 170 (.ref 6) :: dE P (S "__builtins__") 171 (.ref 4) :: dE P (S "__file__") 173 (.str (S "/claim/cut.py") 172) :: dE P (S "__cached__") 174 .none :: dE P (S "_wall") 193 (.ref 21) :: dE P (S "UUID") 236 (.ref 46) :: dE P (S "_turned") 243 (.ref 57) :: dE P (S "OLD_UUID_SUBTYPE") 247 (.int 3 246) :: dE P (S "UUID_SUBTYPE") 249 (.int 4 248) :: dE P (S "UuidRepresentation") 284 (.ref 67) :: dE P (S "STANDARD") 286 (.int 4 285) :: dE P (S "ALL_UUID_SUBTYPES") 289 (.ref 72) :: dE P (S "ALL_UUID_REPRESENTATIONS") 295 (.ref 73) :: dE P (S "UUID_REPRESENTATION_NAMES") 311 (.ref 74) :: dE P (S "Binary") 434 (.ref 152) :: dE P (S "Code") 495 (.ref 196) :: dE P (S "TypeRegistry") 544 (.ref 234) :: dE P (S "CodecOptions") 579 (.ref 256) :: dE P (S "DEFAULT_CODEC_OPTIONS") 598 (.ref 262) :: dE P (S "DatetimeMS") 687 (.ref 334) :: dE P (S "DBRef") 770 (.ref 394) :: dE P (S "Decimal") 847 (.ref 457) :: dE P (S "_PACK_64") 856 (.ref 468) :: dE P (S "_UNPACK_64") 863 (.ref 475) :: dE P (S "_EXPONENT_MASK") 865 (.int 6917529027641081856 864) :: dE P (S "_EXPONENT_BIAS") 867 (.int 6176 866) :: dE P (S "_MAX_DIGITS") 869 (.int 34 868) :: dE P (S "_SIGN") 871 (.int 9223372036854775808 870) :: dE P (S "_NINF") 874 (.ref 476) :: dE P (S "_PINF") 877 (.ref 477) :: dE P (S "_NNAN") 880 (.ref 478) :: dE P (S "_PNAN") 883 (.ref 479) :: dE P (S "_NSNAN") 886 (.ref 480) :: dE P (S "_PSNAN") 889 (.ref 481) :: dE P (S "_check_fits") 896 (.ref 488) :: dE P (S "_decimal_to_128") 902 (.ref 493) :: dE P (S "Decimal128") 986 (.ref 549) :: dE P (S "BSONError") 1008 (.ref 563) :: dE P (S "InvalidBSON") 1024 (.ref 576) :: dE P (S "InvalidStringData") 1040 (.ref 588) :: dE P (S "InvalidDocument") 1076 (.ref 618) :: dE P (S "InvalidId") 1092 (.ref 630) :: dE P (S "Int64") 1134 (.ref 656) :: dE P (S "MaxKey") 1214 (.ref 719) :: dE P (S "MinKey") 1294 (.ref 782) :: dE P (S "_HEX_DIGITS") 1298 (.str (S "0123456789abcdefABCDEF") 1297) :: dE P (S "_UNPACK_INT") 1305 (.ref 793) :: dE P (S "_from_hex") 1311 (.ref 798) :: dE P (S "_raise_invalid_id") 1318 (.ref 805) :: dE P (S "ObjectId") 1448 (.ref 902) :: dE P (S "_IGNORECASE") 1452 (.int 2 1451) :: dE P (S "_LOCALE") 1454 (.int 4 1453) :: dE P (S "_MULTILINE") 1456 (.int 8 1455) :: dE P (S "_DOTALL") 1458 (.int 16 1457) :: dE P (S "_UNICODE") 1460 (.int 32 1459) :: dE P (S "_VERBOSE") 1462 (.int 64 1461) :: dE P (S "str_flags_to_int") 1470 (.ref 913) :: dE P (S "Regex") 1521 (.ref 945) :: dE P (S "UPPERBOUND") 1525 (.int 4294967296 1524) :: dE P (S "Timestamp") 1623 (.ref 1024) :: dE P (S "_unpack") 1635 (.ref 1035) :: dE P (S "_UNPACK_INT_FROM") 1643 (.ref 1042) :: dE P (S "_UNPACK_LENGTH_SUBTYPE_FROM") 1651 (.ref 1049) :: dE P (S "_UNPACK_LONG_FROM") 1659 (.ref 1056) :: dE P (S "_UNPACK_TIMESTAMP_FROM") 1667 (.ref 1063) :: dE P (S "_utf_8_decode") 1676 (.ref 1070) :: dE P (S "_utf_8_encode") 1683 (.ref 1077) :: dE P (S "_index_nul") 1692 (.ref 1084) :: dE P (S "get_data_and_view") 1699 (.ref 1091) :: dE P (S "_raise_unknown_type") 1707 (.ref 1098) :: dE P (S "_get_int") 1719 (.ref 1105) :: dE P (S "_get_c_string") 1730 (.ref 1112) :: dE P (S "_get_string") 1744 (.ref 1119) :: dE P (S "_get_object_size") 1756 (.ref 1126) :: dE P (S "_get_object") 1771 (.ref 1133) :: dE P (S "_get_array") 1788 (.ref 1140) :: dE P (S "_get_binary") 1807 (.ref 1147) :: dE P (S "_get_oid") 1820 (.ref 1154) :: dE P (S "_get_boolean") 1834 (.ref 1161) :: dE P (S "_get_date") 1846 (.ref 1168) :: dE P (S "_get_code") 1859 (.ref 1175) :: dE P (S "_get_code_w_scope") 1874 (.ref 1182) :: dE P (S "_get_regex") 1889 (.ref 1189) :: dE P (S "_get_ref") 1903 (.ref 1196) :: dE P (S "_get_timestamp") 1917 (.ref 1203) :: dE P (S "_get_int64") 1929 (.ref 1210) :: dE P (S "_get_decimal128") 1942 (.ref 1217) :: dE P (S "_get_element") 1955 (.ref 1224) :: dE P (S "_element_to_dict") 1969 (.ref 1231) :: dE P (S "_elements_to_dict") 1984 (.ref 1238) :: dE P (S "_bson_to_dict") 1996 (.ref 1245) :: dE P (S "_PACK_INT") 2003 (.ref 1252) :: dE P (S "_PACK_LENGTH_SUBTYPE") 2011 (.ref 1259) :: dE P (S "_PACK_LONG") 2018 (.ref 1266) :: dE P (S "_PACK_TIMESTAMP") 2026 (.ref 1273) :: dE P (S "_make_c_string_check") 2033 (.ref 1280) :: dE P (S "_make_c_string") 2040 (.ref 1287) :: dE P (S "_make_name") 2047 (.ref 1294) :: dE P (S "_encode_bytes") 2057 (.ref 1301) :: dE P (S "_encode_mapping") 2063 (.ref 1306) :: dE P (S "_encode_dbref") 2077 (.ref 1313) :: dE P (S "_encode_list") 2083 (.ref 1318) :: dE P (S "_encode_text") 2094 (.ref 1325) :: dE P (S "_encode_binary") 2106 (.ref 1332) :: dE P (S "_encode_uuid") 2118 (.ref 1339) :: dE P (S "_encode_objectid") 2128 (.ref 1346) :: dE P (S "_encode_bool") 2138 (.ref 1353) :: dE P (S "_encode_datetime_ms") 2149 (.ref 1360) :: dE P (S "_encode_none") 2159 (.ref 1367) :: dE P (S "_encode_regex") 2171 (.ref 1374) :: dE P (S "_encode_code") 2185 (.ref 1381) :: dE P (S "_encode_int") 2195 (.ref 1388) :: dE P (S "_encode_timestamp") 2205 (.ref 1395) :: dE P (S "_encode_long") 2215 (.ref 1402) :: dE P (S "_encode_decimal128") 2225 (.ref 1409) :: dE P (S "_encode_minkey") 2235 (.ref 1416) :: dE P (S "_encode_maxkey") 2245 (.ref 1423) :: dE P (S "_name_value_to_bson") 2258 (.ref 1431) :: dE P (S "_element_to_bson") 2269 (.ref 1438) :: dE P (S "_dict_to_bson") 2284 (.ref 1446) :: dE P (S "encode") 2293 (.ref 1454) :: dE P (S "decode") 2302 (.ref 1462) :: dE P (S "_law_made") 2311 (.ref 1469) :: dE P (S "_law_orders") 2319 (.ref 1476) :: dE P (S "_law_stamp") 2328 (.ref 1483) :: dE P (S "_law_little") 2335 (.ref 1490) :: dE P (S "law") 2341 (.ref 1495) :: [])) 132), #[]⟩
noncomputable def o4 : Obj := ⟨(.type "module"), (some 0), .plain, #[]⟩
noncomputable def o15 : Obj := ⟨(.type "tuple"), none, (.seq (#[]) 0), #[]⟩
noncomputable def o17 : Obj := ⟨(.type "tuple"), none, (.seq (#[(.str (S "k") 190)]) 0), #[]⟩
noncomputable def o18 : Obj := ⟨(.type "tuple"), none, (.seq (#[]) 0), #[]⟩
noncomputable def o20 : Obj := ⟨(.type "code"), none, (.fields (#[(.str (S "_wall") 187), (.str (S "_wall") 188), (.str (S "/claim/cut.py") 189), (.int 1 0), (.int 1 0), (.int 0 0), (.int 0 0), (.int 3 0), (.ref 15), (.bool true), (.int 181 0), (.ref 16), .none, (.ref 17), (.ref 18), (.ref 19), (.int 191 0), (.int 1 0), (.str (S "/claim/cut.py") 192)])), #[]⟩
noncomputable def o21 (p : Program) : Obj := ⟨(.type "function"), none, (.func (fdOf (sA p 0) (S "_wall") 3 [] .none .none .none (.str (S "__main__") 164) none (.ref 20) .none 0)), #[]⟩
noncomputable def o29 : Obj := ⟨(.type "tuple"), none, (.seq (#[.none, .none]) 0), #[]⟩
noncomputable def o30 : Obj := ⟨(.type "tuple"), none, (.seq (#[]) 0), #[]⟩
noncomputable def o32 : Obj := ⟨(.type "tuple"), none, (.seq (#[(.str (S "self") 211), (.str (S "raw") 212), (.str (S "bytes_le") 213), (.str (S "octets") 214)]) 0), #[]⟩
noncomputable def o33 : Obj := ⟨(.type "tuple"), none, (.seq (#[]) 0), #[]⟩
noncomputable def o35 : Obj := ⟨(.type "code"), none, (.fields (#[(.str (S "__init__") 208), (.str (S "UUID.__init__") 209), (.str (S "/claim/cut.py") 210), (.int 7 0), (.int 3 0), (.int 0 0), (.int 0 0), (.int 3 0), (.ref 30), (.bool true), (.int 181 0), (.ref 31), .none, (.ref 32), (.ref 33), (.ref 34), (.int 215 0), (.int 7 0), (.str (S "/claim/cut.py") 216)])), #[]⟩
noncomputable def o36 (p : Program) : Obj := ⟨(.type "function"), none, (.func (fdOf (sB p 2 0) (S "UUID.__init__") 3 [] (.ref 29) .none .none (.str (S "bson.uuids") 194) none (.ref 35) .none 0)), #[]⟩
noncomputable def o37 : Obj := ⟨(.type "tuple"), none, (.seq (#[]) 0), #[]⟩
noncomputable def o39 : Obj := ⟨(.type "tuple"), none, (.seq (#[(.str (S "self") 221), (.str (S "other") 222)]) 0), #[]⟩
noncomputable def o40 : Obj := ⟨(.type "tuple"), none, (.seq (#[]) 0), #[]⟩
noncomputable def o42 : Obj := ⟨(.type "code"), none, (.fields (#[(.str (S "__eq__") 218), (.str (S "UUID.__eq__") 219), (.str (S "/claim/cut.py") 220), (.int 13 0), (.int 2 0), (.int 0 0), (.int 0 0), (.int 3 0), (.ref 37), (.bool true), (.int 181 0), (.ref 38), .none, (.ref 39), (.ref 40), (.ref 41), (.int 223 0), (.int 13 0), (.str (S "/claim/cut.py") 224)])), #[]⟩
noncomputable def o43 (p : Program) : Obj := ⟨(.type "function"), none, (.func (fdOf (sB p 2 1) (S "UUID.__eq__") 3 [] .none .none .none (.str (S "bson.uuids") 194) none (.ref 42) .none 0)), #[]⟩
noncomputable def o44 : Obj := ⟨(.type "tuple"), none, (.seq (#[(.str (S "bytes") 226), (.str (S "bytes_le") 227)]) 0), #[]⟩
noncomputable def o45 (P : Params) : Obj := ⟨(.type "dict"), none, (.dict (#[dE P (S "__module__") 203 (.str (S "bson.uuids") 194), dE P (S "__firstlineno__") 207 (.int 5 206), dE P (S "__init__") 217 (.ref 36), dE P (S "__eq__") 225 (.ref 43), dE P (S "__static_attributes__") 228 (.ref 44), dE P (S "__dict__") 230 (.ref 47), dE P (S "__weakref__") 232 (.ref 48), dE P (S "__doc__") 233 .none, dE P (S "__hash__") 234 .none]) 5), #[]⟩
noncomputable def o46 : Obj := ⟨(.type "type"), none, (.cls ⟨(S "UUID"), [(.type "object")], [(.ref 46), (.type "object")], 45, (S "UUID"), true, [], [], false, none, false⟩), #[none, none, (some (.str (S "UUID") 196)), (some (.str (S "UUID") 204)), (some (.builtin "object.__new__")), (some (.bool true))]⟩
noncomputable def o47 : Obj := ⟨(.type "getset_descriptor"), none, (.fields (#[(.str (S "__dict__") 229), (.ref 46), (.builtin "function.__dict__"), (.builtin "function.__dict__#set")])), #[]⟩
noncomputable def o48 : Obj := ⟨(.type "getset_descriptor"), none, (.fields (#[(.str (S "__weakref__") 231), (.ref 46), (.builtin "ExceptionGroup.__weakref__"), .none])), #[]⟩
noncomputable def o51 : Obj := ⟨(.type "tuple"), none, (.seq (#[]) 0), #[]⟩
noncomputable def o53 : Obj := ⟨(.type "tuple"), none, (.seq (#[(.str (S "octets") 240)]) 0), #[]⟩
noncomputable def o54 : Obj := ⟨(.type "tuple"), none, (.seq (#[]) 0), #[]⟩
noncomputable def o56 : Obj := ⟨(.type "code"), none, (.fields (#[(.str (S "_turned") 237), (.str (S "_turned") 238), (.str (S "/claim/cut.py") 239), (.int 15 0), (.int 1 0), (.int 0 0), (.int 0 0), (.int 3 0), (.ref 51), (.bool true), (.int 181 0), (.ref 52), .none, (.ref 53), (.ref 54), (.ref 55), (.int 241 0), (.int 15 0), (.str (S "/claim/cut.py") 242)])), #[]⟩
noncomputable def o57 (p : Program) : Obj := ⟨(.type "function"), none, (.func (fdOf (sA p 3) (S "_turned") 3 [] .none .none .none (.str (S "bson.uuids") 194) none (.ref 56) .none 0)), #[]⟩
noncomputable def o65 : Obj := ⟨(.type "tuple"), none, (.seq (#[]) 0), #[]⟩
noncomputable def o66 (P : Params) : Obj := ⟨(.type "dict"), none, (.dict (#[dE P (S "__module__") 257 (.str (S "bson.binary") 244), dE P (S "__firstlineno__") 261 (.int 20 260), dE P (S "UNSPECIFIED") 263 (.int 0 262), dE P (S "STANDARD") 266 (.int 4 265), dE P (S "PYTHON_LEGACY") 269 (.int 3 268), dE P (S "JAVA_LEGACY") 272 (.int 5 271), dE P (S "CSHARP_LEGACY") 275 (.int 6 274), dE P (S "__static_attributes__") 277 (.ref 65), dE P (S "__dict__") 279 (.ref 68), dE P (S "__weakref__") 281 (.ref 69), dE P (S "__doc__") 282 .none]) 4), #[]⟩
noncomputable def o67 : Obj := ⟨(.type "type"), none, (.cls ⟨(S "UuidRepresentation"), [(.type "object")], [(.ref 67), (.type "object")], 66, (S "UuidRepresentation"), true, [], [], false, none, false⟩), #[none, none, (some (.str (S "UuidRepresentation") 250)), (some (.str (S "UuidRepresentation") 258)), (some (.builtin "object.__new__")), (some (.bool true))]⟩
noncomputable def o68 : Obj := ⟨(.type "getset_descriptor"), none, (.fields (#[(.str (S "__dict__") 278), (.ref 67), (.builtin "function.__dict__"), (.builtin "function.__dict__#set")])), #[]⟩
noncomputable def o69 : Obj := ⟨(.type "getset_descriptor"), none, (.fields (#[(.str (S "__weakref__") 280), (.ref 67), (.builtin "ExceptionGroup.__weakref__"), .none])), #[]⟩
noncomputable def o72 : Obj := ⟨(.type "tuple"), none, (.seq (#[(.int 3 287), (.int 4 288)]) 0), #[]⟩
noncomputable def o73 : Obj := ⟨(.type "tuple"), none, (.seq (#[(.int 0 290), (.int 4 291), (.int 3 292), (.int 5 293), (.int 6 294)]) 0), #[]⟩
noncomputable def o74 : Obj := ⟨(.type "dict"), none, (.dict (#[⟨0, (.int 0 296), (.str (S "UuidRepresentation.UNSPECIFIED") 297)⟩, ⟨4, (.int 4 298), (.str (S "UuidRepresentation.STANDARD") 299)⟩, ⟨3, (.int 3 300), (.str (S "UuidRepresentation.PYTHON_LEGACY") 301)⟩, ⟨5, (.int 5 302), (.str (S "UuidRepresentation.JAVA_LEGACY") 303)⟩, ⟨6, (.int 6 304), (.str (S "UuidRepresentation.CSHARP_LEGACY") 305)⟩]) 5), #[]⟩
noncomputable def o82 : Obj := ⟨(.type "tuple"), none, (.seq (#[(.int 0 326)]) 0), #[]⟩
noncomputable def o83 : Obj := ⟨(.type "tuple"), none, (.seq (#[]) 0), #[]⟩
noncomputable def o85 : Obj := ⟨(.type "tuple"), none, (.seq (#[(.str (S "self") 330), (.str (S "data") 331), (.str (S "subtype") 332)]) 0), #[]⟩
noncomputable def o86 : Obj := ⟨(.type "tuple"), none, (.seq (#[]) 0), #[]⟩
noncomputable def o88 : Obj := ⟨(.type "code"), none, (.fields (#[(.str (S "__init__") 327), (.str (S "Binary.__init__") 328), (.str (S "/claim/cut.py") 329), (.int 38 0), (.int 3 0), (.int 0 0), (.int 0 0), (.int 3 0), (.ref 83), (.bool true), (.int 181 0), (.ref 84), .none, (.ref 85), (.ref 86), (.ref 87), (.int 333 0), (.int 38 0), (.str (S "/claim/cut.py") 334)])), #[]⟩
noncomputable def o89 (p : Program) : Obj := ⟨(.type "function"), none, (.func (fdOf (sB p 12 1) (S "Binary.__init__") 3 [] (.ref 82) .none .none (.str (S "bson.binary") 244) none (.ref 88) .none 0)), #[]⟩
noncomputable def o90 : Obj := ⟨(.type "tuple"), none, (.seq (#[(.int 4 336)]) 0), #[]⟩
noncomputable def o91 : Obj := ⟨(.type "tuple"), none, (.seq (#[]) 0), #[]⟩
noncomputable def o93 : Obj := ⟨(.type "tuple"), none, (.seq (#[(.str (S "cls") 340), (.str (S "uuid") 341), (.str (S "uuid_representation") 342), (.str (S "subtype") 343), (.str (S "payload") 344), (.str (S "from_uuid") 345)]) 0), #[]⟩
noncomputable def o94 : Obj := ⟨(.type "tuple"), none, (.seq (#[]) 0), #[]⟩
noncomputable def o96 : Obj := ⟨(.type "code"), none, (.fields (#[(.str (S "from_uuid") 337), (.str (S "Binary.from_uuid") 338), (.str (S "/claim/cut.py") 339), (.int 46 0), (.int 3 0), (.int 0 0), (.int 0 0), (.int 3 0), (.ref 91), (.bool true), (.int 181 0), (.ref 92), .none, (.ref 93), (.ref 94), (.ref 95), (.int 346 0), (.int 46 0), (.str (S "/claim/cut.py") 347)])), #[]⟩
noncomputable def o97 (p : Program) : Obj := ⟨(.type "function"), none, (.func (fdOf (sB p 12 2) (S "Binary.from_uuid") 3 [] (.ref 90) .none .none (.str (S "bson.binary") 244) (some 100) (.ref 96) .none 0)), #[]⟩
noncomputable def o98 (P : Params) : Obj := ⟨(.type "dict"), none, (.dict (#[dE P (S "__module__") 349 (.str (S "bson.binary") 244), dE P (S "__name__") 352 (.str (S "from_uuid") 351), dE P (S "__qualname__") 355 (.str (S "Binary.from_uuid") 354), dE P (S "__doc__") 357 .none, dE P (S "__annotations__") 359 (.ref 100)]) 5), #[]⟩
noncomputable def o99 : Obj := ⟨(.type "classmethod"), (some 98), (.fields (#[(.ref 97), (.bool false)])), #[]⟩
noncomputable def o100 : Obj := ⟨(.type "dict"), none, (.dict (#[]) 0), #[]⟩
noncomputable def o101 : Obj := ⟨(.type "tuple"), none, (.seq (#[(.int 4 361)]) 0), #[]⟩
noncomputable def o102 : Obj := ⟨(.type "tuple"), none, (.seq (#[]) 0), #[]⟩
noncomputable def o104 : Obj := ⟨(.type "tuple"), none, (.seq (#[(.str (S "self") 365), (.str (S "uuid_representation") 366)]) 0), #[]⟩
noncomputable def o105 : Obj := ⟨(.type "tuple"), none, (.seq (#[]) 0), #[]⟩
noncomputable def o107 : Obj := ⟨(.type "code"), none, (.fields (#[(.str (S "as_uuid") 362), (.str (S "Binary.as_uuid") 363), (.str (S "/claim/cut.py") 364), (.int 67 0), (.int 2 0), (.int 0 0), (.int 0 0), (.int 3 0), (.ref 102), (.bool true), (.int 181 0), (.ref 103), .none, (.ref 104), (.ref 105), (.ref 106), (.int 367 0), (.int 67 0), (.str (S "/claim/cut.py") 368)])), #[]⟩
noncomputable def o108 (p : Program) : Obj := ⟨(.type "function"), none, (.func (fdOf (sB p 12 3) (S "Binary.as_uuid") 3 [] (.ref 101) .none .none (.str (S "bson.binary") 244) none (.ref 107) .none 0)), #[]⟩
noncomputable def o109 : Obj := ⟨(.type "tuple"), none, (.seq (#[.none, .none]) 0), #[]⟩
noncomputable def o110 : Obj := ⟨(.type "tuple"), none, (.seq (#[]) 0), #[]⟩
noncomputable def o112 : Obj := ⟨(.type "tuple"), none, (.seq (#[(.str (S "cls") 373), (.str (S "vector") 374), (.str (S "dtype") 375), (.str (S "padding") 376)]) 0), #[]⟩
noncomputable def o113 : Obj := ⟨(.type "tuple"), none, (.seq (#[]) 0), #[]⟩
noncomputable def o115 : Obj := ⟨(.type "code"), none, (.fields (#[(.str (S "from_vector") 370), (.str (S "Binary.from_vector") 371), (.str (S "/claim/cut.py") 372), (.int 89 0), (.int 4 0), (.int 0 0), (.int 0 0), (.int 3 0), (.ref 110), (.bool true), (.int 181 0), (.ref 111), .none, (.ref 112), (.ref 113), (.ref 114), (.int 377 0), (.int 89 0), (.str (S "/claim/cut.py") 378)])), #[]⟩
noncomputable def o116 (p : Program) : Obj := ⟨(.type "function"), none, (.func (fdOf (sB p 12 4) (S "Binary.from_vector") 3 [] (.ref 109) .none .none (.str (S "bson.binary") 244) (some 119) (.ref 115) .none 0)), #[]⟩
noncomputable def o117 (P : Params) : Obj := ⟨(.type "dict"), none, (.dict (#[dE P (S "__module__") 380 (.str (S "bson.binary") 244), dE P (S "__name__") 383 (.str (S "from_vector") 382), dE P (S "__qualname__") 386 (.str (S "Binary.from_vector") 385), dE P (S "__doc__") 388 .none, dE P (S "__annotations__") 390 (.ref 119)]) 5), #[]⟩
noncomputable def o118 : Obj := ⟨(.type "classmethod"), (some 117), (.fields (#[(.ref 116), (.bool false)])), #[]⟩
noncomputable def o119 : Obj := ⟨(.type "dict"), none, (.dict (#[]) 0), #[]⟩
noncomputable def o120 : Obj := ⟨(.type "tuple"), none, (.seq (#[(.bool false)]) 0), #[]⟩
noncomputable def o121 : Obj := ⟨(.type "tuple"), none, (.seq (#[]) 0), #[]⟩
noncomputable def o123 : Obj := ⟨(.type "tuple"), none, (.seq (#[(.str (S "self") 395), (.str (S "return_numpy") 396)]) 0), #[]⟩
noncomputable def o124 : Obj := ⟨(.type "tuple"), none, (.seq (#[]) 0), #[]⟩
noncomputable def o126 : Obj := ⟨(.type "code"), none, (.fields (#[(.str (S "as_vector") 392), (.str (S "Binary.as_vector") 393), (.str (S "/claim/cut.py") 394), (.int 93 0), (.int 2 0), (.int 0 0), (.int 0 0), (.int 3 0), (.ref 121), (.bool true), (.int 181 0), (.ref 122), .none, (.ref 123), (.ref 124), (.ref 125), (.int 397 0), (.int 93 0), (.str (S "/claim/cut.py") 398)])), #[]⟩
noncomputable def o127 (p : Program) : Obj := ⟨(.type "function"), none, (.func (fdOf (sB p 12 5) (S "Binary.as_vector") 3 [] (.ref 120) .none .none (.str (S "bson.binary") 244) none (.ref 126) .none 0)), #[]⟩
noncomputable def o128 : Obj := ⟨(.type "tuple"), none, (.seq (#[]) 0), #[]⟩
noncomputable def o130 : Obj := ⟨(.type "tuple"), none, (.seq (#[(.str (S "self") 403)]) 0), #[]⟩
noncomputable def o131 : Obj := ⟨(.type "tuple"), none, (.seq (#[]) 0), #[]⟩
noncomputable def o133 : Obj := ⟨(.type "code"), none, (.fields (#[(.str (S "subtype") 400), (.str (S "Binary.subtype") 401), (.str (S "/claim/cut.py") 402), (.int 96 0), (.int 1 0), (.int 0 0), (.int 0 0), (.int 3 0), (.ref 128), (.bool true), (.int 181 0), (.ref 129), .none, (.ref 130), (.ref 131), (.ref 132), (.int 404 0), (.int 96 0), (.str (S "/claim/cut.py") 405)])), #[]⟩
noncomputable def o134 (p : Program) : Obj := ⟨(.type "function"), none, (.func (fdOf (sB p 12 6) (S "Binary.subtype") 3 [] .none .none .none (.str (S "bson.binary") 244) none (.ref 133) .none 0)), #[]⟩
noncomputable def o135 : Obj := ⟨(.type "property"), none, (.fields (#[(.ref 134), .none, .none, .none, (.str (S "subtype") 407), (.bool false)])), #[]⟩
noncomputable def o136 : Obj := ⟨(.type "tuple"), none, (.seq (#[]) 0), #[]⟩
noncomputable def o138 : Obj := ⟨(.type "tuple"), none, (.seq (#[(.str (S "self") 411), (.str (S "other") 412)]) 0), #[]⟩
noncomputable def o139 : Obj := ⟨(.type "tuple"), none, (.seq (#[]) 0), #[]⟩
noncomputable def o141 : Obj := ⟨(.type "code"), none, (.fields (#[(.str (S "__eq__") 408), (.str (S "Binary.__eq__") 409), (.str (S "/claim/cut.py") 410), (.int 100 0), (.int 2 0), (.int 0 0), (.int 0 0), (.int 3 0), (.ref 136), (.bool true), (.int 181 0), (.ref 137), .none, (.ref 138), (.ref 139), (.ref 140), (.int 413 0), (.int 100 0), (.str (S "/claim/cut.py") 414)])), #[]⟩
noncomputable def o142 (p : Program) : Obj := ⟨(.type "function"), none, (.func (fdOf (sB p 12 7) (S "Binary.__eq__") 3 [] .none .none .none (.str (S "bson.binary") 244) none (.ref 141) .none 0)), #[]⟩
noncomputable def o143 : Obj := ⟨(.type "tuple"), none, (.seq (#[]) 0), #[]⟩
noncomputable def o145 : Obj := ⟨(.type "tuple"), none, (.seq (#[(.str (S "self") 419), (.str (S "other") 420)]) 0), #[]⟩
noncomputable def o146 : Obj := ⟨(.type "tuple"), none, (.seq (#[]) 0), #[]⟩
noncomputable def o148 : Obj := ⟨(.type "code"), none, (.fields (#[(.str (S "__ne__") 416), (.str (S "Binary.__ne__") 417), (.str (S "/claim/cut.py") 418), (.int 105 0), (.int 2 0), (.int 0 0), (.int 0 0), (.int 3 0), (.ref 143), (.bool true), (.int 181 0), (.ref 144), .none, (.ref 145), (.ref 146), (.ref 147), (.int 421 0), (.int 105 0), (.str (S "/claim/cut.py") 422)])), #[]⟩
noncomputable def o149 (p : Program) : Obj := ⟨(.type "function"), none, (.func (fdOf (sB p 12 8) (S "Binary.__ne__") 3 [] .none .none .none (.str (S "bson.binary") 244) none (.ref 148) .none 0)), #[]⟩
noncomputable def o150 : Obj := ⟨(.type "tuple"), none, (.seq (#[(.str (S "_subtype") 424), (.str (S "data") 425)]) 0), #[]⟩
noncomputable def o151 (P : Params) : Obj := ⟨(.type "dict"), none, (.dict (#[dE P (S "__module__") 319 (.str (S "bson.binary") 244), dE P (S "__firstlineno__") 323 (.int 35 322), dE P (S "_type_marker") 325 (.int 5 324), dE P (S "__init__") 335 (.ref 89), dE P (S "from_uuid") 360 (.ref 99), dE P (S "as_uuid") 369 (.ref 108), dE P (S "from_vector") 391 (.ref 118), dE P (S "as_vector") 399 (.ref 127), dE P (S "subtype") 407 (.ref 135), dE P (S "__eq__") 415 (.ref 142), dE P (S "__ne__") 423 (.ref 149), dE P (S "__static_attributes__") 426 (.ref 150), dE P (S "__dict__") 428 (.ref 153), dE P (S "__weakref__") 430 (.ref 154), dE P (S "__doc__") 431 .none, dE P (S "__hash__") 432 .none]) 5), #[]⟩
noncomputable def o152 : Obj := ⟨(.type "type"), none, (.cls ⟨(S "Binary"), [(.type "object")], [(.ref 152), (.type "object")], 151, (S "Binary"), true, [], [], false, none, false⟩), #[none, none, (some (.str (S "Binary") 312)), (some (.str (S "Binary") 320)), (some (.builtin "object.__new__")), (some (.bool true))]⟩
noncomputable def o153 : Obj := ⟨(.type "getset_descriptor"), none, (.fields (#[(.str (S "__dict__") 427), (.ref 152), (.builtin "function.__dict__"), (.builtin "function.__dict__#set")])), #[]⟩
noncomputable def o154 : Obj := ⟨(.type "getset_descriptor"), none, (.fields (#[(.str (S "__weakref__") 429), (.ref 152), (.builtin "ExceptionGroup.__weakref__"), .none])), #[]⟩
noncomputable def o164 : Obj := ⟨(.type "tuple"), none, (.seq (#[.none]) 0), #[]⟩
noncomputable def o165 : Obj := ⟨(.type "tuple"), none, (.seq (#[]) 0), #[]⟩
noncomputable def o167 : Obj := ⟨(.type "tuple"), none, (.seq (#[(.str (S "self") 454), (.str (S "code") 455), (.str (S "scope") 456), (.str (S "kwargs") 457)]) 0), #[]⟩
noncomputable def o168 : Obj := ⟨(.type "tuple"), none, (.seq (#[]) 0), #[]⟩
noncomputable def o170 : Obj := ⟨(.type "code"), none, (.fields (#[(.str (S "__init__") 451), (.str (S "Code.__init__") 452), (.str (S "/claim/cut.py") 453), (.int 111 0), (.int 3 0), (.int 0 0), (.int 0 0), (.int 11 0), (.ref 165), (.bool true), (.int 181 0), (.ref 166), .none, (.ref 167), (.ref 168), (.ref 169), (.int 458 0), (.int 111 0), (.str (S "/claim/cut.py") 459)])), #[]⟩
noncomputable def o171 (p : Program) : Obj := ⟨(.type "function"), none, (.func (fdOf (sB p 14 1) (S "Code.__init__") 3 [] (.ref 164) .none .none (.str (S "bson.code") 435) none (.ref 170) .none 0)), #[]⟩
noncomputable def o172 : Obj := ⟨(.type "tuple"), none, (.seq (#[]) 0), #[]⟩
noncomputable def o174 : Obj := ⟨(.type "tuple"), none, (.seq (#[(.str (S "self") 464)]) 0), #[]⟩
noncomputable def o175 : Obj := ⟨(.type "tuple"), none, (.seq (#[]) 0), #[]⟩
noncomputable def o177 : Obj := ⟨(.type "code"), none, (.fields (#[(.str (S "scope") 461), (.str (S "Code.scope") 462), (.str (S "/claim/cut.py") 463), (.int 133 0), (.int 1 0), (.int 0 0), (.int 0 0), (.int 3 0), (.ref 172), (.bool true), (.int 181 0), (.ref 173), .none, (.ref 174), (.ref 175), (.ref 176), (.int 465 0), (.int 133 0), (.str (S "/claim/cut.py") 466)])), #[]⟩
noncomputable def o178 (p : Program) : Obj := ⟨(.type "function"), none, (.func (fdOf (sB p 14 2) (S "Code.scope") 3 [] .none .none .none (.str (S "bson.code") 435) none (.ref 177) .none 0)), #[]⟩
noncomputable def o179 : Obj := ⟨(.type "property"), none, (.fields (#[(.ref 178), .none, .none, .none, (.str (S "scope") 468), (.bool false)])), #[]⟩
noncomputable def o180 : Obj := ⟨(.type "tuple"), none, (.seq (#[]) 0), #[]⟩
noncomputable def o182 : Obj := ⟨(.type "tuple"), none, (.seq (#[(.str (S "self") 472), (.str (S "other") 473)]) 0), #[]⟩
noncomputable def o183 : Obj := ⟨(.type "tuple"), none, (.seq (#[]) 0), #[]⟩
noncomputable def o185 : Obj := ⟨(.type "code"), none, (.fields (#[(.str (S "__eq__") 469), (.str (S "Code.__eq__") 470), (.str (S "/claim/cut.py") 471), (.int 137 0), (.int 2 0), (.int 0 0), (.int 0 0), (.int 3 0), (.ref 180), (.bool true), (.int 181 0), (.ref 181), .none, (.ref 182), (.ref 183), (.ref 184), (.int 474 0), (.int 137 0), (.str (S "/claim/cut.py") 475)])), #[]⟩
noncomputable def o186 (p : Program) : Obj := ⟨(.type "function"), none, (.func (fdOf (sB p 14 3) (S "Code.__eq__") 3 [] .none .none .none (.str (S "bson.code") 435) none (.ref 185) .none 0)), #[]⟩
noncomputable def o187 : Obj := ⟨(.type "tuple"), none, (.seq (#[]) 0), #[]⟩
noncomputable def o189 : Obj := ⟨(.type "tuple"), none, (.seq (#[(.str (S "self") 480), (.str (S "other") 481)]) 0), #[]⟩
noncomputable def o190 : Obj := ⟨(.type "tuple"), none, (.seq (#[]) 0), #[]⟩
noncomputable def o192 : Obj := ⟨(.type "code"), none, (.fields (#[(.str (S "__ne__") 477), (.str (S "Code.__ne__") 478), (.str (S "/claim/cut.py") 479), (.int 142 0), (.int 2 0), (.int 0 0), (.int 0 0), (.int 3 0), (.ref 187), (.bool true), (.int 181 0), (.ref 188), .none, (.ref 189), (.ref 190), (.ref 191), (.int 482 0), (.int 142 0), (.str (S "/claim/cut.py") 483)])), #[]⟩
noncomputable def o193 (p : Program) : Obj := ⟨(.type "function"), none, (.func (fdOf (sB p 14 4) (S "Code.__ne__") 3 [] .none .none .none (.str (S "bson.code") 435) none (.ref 192) .none 0)), #[]⟩
noncomputable def o194 : Obj := ⟨(.type "tuple"), none, (.seq (#[(.str (S "_scope") 485), (.str (S "text") 486)]) 0), #[]⟩
noncomputable def o195 (P : Params) : Obj := ⟨(.type "dict"), none, (.dict (#[dE P (S "__module__") 444 (.str (S "bson.code") 435), dE P (S "__firstlineno__") 448 (.int 108 447), dE P (S "_type_marker") 450 (.int 13 449), dE P (S "__init__") 460 (.ref 171), dE P (S "scope") 468 (.ref 179), dE P (S "__eq__") 476 (.ref 186), dE P (S "__ne__") 484 (.ref 193), dE P (S "__static_attributes__") 487 (.ref 194), dE P (S "__dict__") 489 (.ref 197), dE P (S "__weakref__") 491 (.ref 198), dE P (S "__doc__") 492 .none, dE P (S "__hash__") 493 .none]) 5), #[]⟩
noncomputable def o196 : Obj := ⟨(.type "type"), none, (.cls ⟨(S "Code"), [(.type "object")], [(.ref 196), (.type "object")], 195, (S "Code"), true, [], [], false, none, false⟩), #[none, none, (some (.str (S "Code") 437)), (some (.str (S "Code") 445)), (some (.builtin "object.__new__")), (some (.bool true))]⟩
noncomputable def o197 : Obj := ⟨(.type "getset_descriptor"), none, (.fields (#[(.str (S "__dict__") 488), (.ref 196), (.builtin "function.__dict__"), (.builtin "function.__dict__#set")])), #[]⟩
noncomputable def o198 : Obj := ⟨(.type "getset_descriptor"), none, (.fields (#[(.str (S "__weakref__") 490), (.ref 196), (.builtin "ExceptionGroup.__weakref__"), .none])), #[]⟩
noncomputable def o208 : Obj := ⟨(.type "tuple"), none, (.seq (#[.none, .none]) 0), #[]⟩
noncomputable def o209 : Obj := ⟨(.type "tuple"), none, (.seq (#[]) 0), #[]⟩
noncomputable def o211 : Obj := ⟨(.type "tuple"), none, (.seq (#[(.str (S "self") 513), (.str (S "type_codecs") 514), (.str (S "fallback_encoder") 515)]) 0), #[]⟩
noncomputable def o212 : Obj := ⟨(.type "tuple"), none, (.seq (#[]) 0), #[]⟩
noncomputable def o214 : Obj := ⟨(.type "code"), none, (.fields (#[(.str (S "__init__") 510), (.str (S "TypeRegistry.__init__") 511), (.str (S "/claim/cut.py") 512), (.int 147 0), (.int 3 0), (.int 0 0), (.int 0 0), (.int 3 0), (.ref 209), (.bool true), (.int 181 0), (.ref 210), .none, (.ref 211), (.ref 212), (.ref 213), (.int 516 0), (.int 147 0), (.str (S "/claim/cut.py") 517)])), #[]⟩
noncomputable def o215 (p : Program) : Obj := ⟨(.type "function"), none, (.func (fdOf (sB p 16 0) (S "TypeRegistry.__init__") 3 [] (.ref 208) .none .none (.str (S "bson.codec_options") 496) none (.ref 214) .none 0)), #[]⟩
noncomputable def o216 : Obj := ⟨(.type "tuple"), none, (.seq (#[]) 0), #[]⟩
noncomputable def o218 : Obj := ⟨(.type "tuple"), none, (.seq (#[(.str (S "self") 522)]) 0), #[]⟩
noncomputable def o219 : Obj := ⟨(.type "tuple"), none, (.seq (#[]) 0), #[]⟩
noncomputable def o221 : Obj := ⟨(.type "code"), none, (.fields (#[(.str (S "codecs") 519), (.str (S "TypeRegistry.codecs") 520), (.str (S "/claim/cut.py") 521), (.int 154 0), (.int 1 0), (.int 0 0), (.int 0 0), (.int 3 0), (.ref 216), (.bool true), (.int 181 0), (.ref 217), .none, (.ref 218), (.ref 219), (.ref 220), (.int 523 0), (.int 154 0), (.str (S "/claim/cut.py") 524)])), #[]⟩
noncomputable def o222 (p : Program) : Obj := ⟨(.type "function"), none, (.func (fdOf (sB p 16 1) (S "TypeRegistry.codecs") 3 [] .none .none .none (.str (S "bson.codec_options") 496) none (.ref 221) .none 0)), #[]⟩
noncomputable def o223 : Obj := ⟨(.type "property"), none, (.fields (#[(.ref 222), .none, .none, .none, (.str (S "codecs") 526), (.bool false)])), #[]⟩
noncomputable def o224 : Obj := ⟨(.type "tuple"), none, (.seq (#[]) 0), #[]⟩
noncomputable def o226 : Obj := ⟨(.type "tuple"), none, (.seq (#[(.str (S "self") 530)]) 0), #[]⟩
noncomputable def o227 : Obj := ⟨(.type "tuple"), none, (.seq (#[]) 0), #[]⟩
noncomputable def o229 : Obj := ⟨(.type "code"), none, (.fields (#[(.str (S "fallback_encoder") 527), (.str (S "TypeRegistry.fallback_encoder") 528), (.str (S "/claim/cut.py") 529), (.int 158 0), (.int 1 0), (.int 0 0), (.int 0 0), (.int 3 0), (.ref 224), (.bool true), (.int 181 0), (.ref 225), .none, (.ref 226), (.ref 227), (.ref 228), (.int 531 0), (.int 158 0), (.str (S "/claim/cut.py") 532)])), #[]⟩
noncomputable def o230 (p : Program) : Obj := ⟨(.type "function"), none, (.func (fdOf (sB p 16 2) (S "TypeRegistry.fallback_encoder") 3 [] .none .none .none (.str (S "bson.codec_options") 496) none (.ref 229) .none 0)), #[]⟩
noncomputable def o231 : Obj := ⟨(.type "property"), none, (.fields (#[(.ref 230), .none, .none, .none, (.str (S "fallback_encoder") 534), (.bool false)])), #[]⟩
noncomputable def o232 : Obj := ⟨(.type "tuple"), none, (.seq (#[(.str (S "_fallback_encoder") 535), (.str (S "_type_codecs") 536)]) 0), #[]⟩
noncomputable def o233 (P : Params) : Obj := ⟨(.type "dict"), none, (.dict (#[dE P (S "__module__") 505 (.str (S "bson.codec_options") 496), dE P (S "__firstlineno__") 509 (.int 145 508), dE P (S "__init__") 518 (.ref 215), dE P (S "codecs") 526 (.ref 223), dE P (S "fallback_encoder") 534 (.ref 231), dE P (S "__static_attributes__") 537 (.ref 232), dE P (S "__dict__") 539 (.ref 235), dE P (S "__weakref__") 541 (.ref 236), dE P (S "__doc__") 542 .none]) 4), #[]⟩
noncomputable def o234 : Obj := ⟨(.type "type"), none, (.cls ⟨(S "TypeRegistry"), [(.type "object")], [(.ref 234), (.type "object")], 233, (S "TypeRegistry"), true, [], [], false, none, false⟩), #[none, none, (some (.str (S "TypeRegistry") 498)), (some (.str (S "TypeRegistry") 506)), (some (.builtin "object.__new__")), (some (.bool true))]⟩
noncomputable def o235 : Obj := ⟨(.type "getset_descriptor"), none, (.fields (#[(.str (S "__dict__") 538), (.ref 234), (.builtin "function.__dict__"), (.builtin "function.__dict__#set")])), #[]⟩
noncomputable def o236 : Obj := ⟨(.type "getset_descriptor"), none, (.fields (#[(.str (S "__weakref__") 540), (.ref 234), (.builtin "ExceptionGroup.__weakref__"), .none])), #[]⟩
noncomputable def o246 : Obj := ⟨(.type "tuple"), none, (.seq (#[(.int 0 557), (.str (S "strict") 558), .none]) 0), #[]⟩
noncomputable def o247 : Obj := ⟨(.type "tuple"), none, (.seq (#[]) 0), #[]⟩
noncomputable def o249 : Obj := ⟨(.type "tuple"), none, (.seq (#[(.str (S "self") 562), (.str (S "uuid_representation") 563), (.str (S "unicode_decode_error_handler") 564), (.str (S "type_registry") 565)]) 0), #[]⟩
noncomputable def o250 : Obj := ⟨(.type "tuple"), none, (.seq (#[]) 0), #[]⟩
noncomputable def o252 : Obj := ⟨(.type "code"), none, (.fields (#[(.str (S "__init__") 559), (.str (S "CodecOptions.__init__") 560), (.str (S "/claim/cut.py") 561), (.int 163 0), (.int 4 0), (.int 0 0), (.int 0 0), (.int 3 0), (.ref 247), (.bool true), (.int 181 0), (.ref 248), .none, (.ref 249), (.ref 250), (.ref 251), (.int 566 0), (.int 163 0), (.str (S "/claim/cut.py") 567)])), #[]⟩
noncomputable def o253 (p : Program) : Obj := ⟨(.type "function"), none, (.func (fdOf (sB p 17 0) (S "CodecOptions.__init__") 3 [] (.ref 246) .none .none (.str (S "bson.codec_options") 496) none (.ref 252) .none 0)), #[]⟩
noncomputable def o254 : Obj := ⟨(.type "tuple"), none, (.seq (#[(.str (S "type_registry") 569), (.str (S "unicode_decode_error_handler") 570), (.str (S "uuid_representation") 571)]) 0), #[]⟩
noncomputable def o255 (P : Params) : Obj := ⟨(.type "dict"), none, (.dict (#[dE P (S "__module__") 552 (.str (S "bson.codec_options") 496), dE P (S "__firstlineno__") 556 (.int 161 555), dE P (S "__init__") 568 (.ref 253), dE P (S "__static_attributes__") 572 (.ref 254), dE P (S "__dict__") 574 (.ref 257), dE P (S "__weakref__") 576 (.ref 258), dE P (S "__doc__") 577 .none]) 4), #[]⟩
noncomputable def o256 : Obj := ⟨(.type "type"), none, (.cls ⟨(S "CodecOptions"), [(.type "object")], [(.ref 256), (.type "object")], 255, (S "CodecOptions"), true, [], [], false, none, false⟩), #[none, none, (some (.str (S "CodecOptions") 545)), (some (.str (S "CodecOptions") 553)), (some (.builtin "object.__new__")), (some (.bool true))]⟩
noncomputable def o257 : Obj := ⟨(.type "getset_descriptor"), none, (.fields (#[(.str (S "__dict__") 573), (.ref 256), (.builtin "function.__dict__"), (.builtin "function.__dict__#set")])), #[]⟩
noncomputable def o258 : Obj := ⟨(.type "getset_descriptor"), none, (.fields (#[(.str (S "__weakref__") 575), (.ref 256), (.builtin "ExceptionGroup.__weakref__"), .none])), #[]⟩
noncomputable def o261 (P : Params) : Obj := ⟨(.type "dict"), none, (.dict (#[dE P (S "uuid_representation") 593 (.int 0 557), dE P (S "unicode_decode_error_handler") 595 (.str (S "strict") 558), dE P (S "type_registry") 597 (.ref 265)]) 3), #[]⟩
noncomputable def o262 : Obj := ⟨(.ref 256), (some 261), .plain, #[]⟩
noncomputable def o264 (P : Params) : Obj := ⟨(.type "dict"), none, (.dict (#[dE P (S "_type_codecs") 588 (.ref 268), dE P (S "_fallback_encoder") 590 .none]) 2), #[]⟩
noncomputable def o265 : Obj := ⟨(.ref 234), (some 264), .plain, #[]⟩
noncomputable def o268 : Obj := ⟨(.type "list"), none, (.seq (#[]) 0), #[]⟩
noncomputable def o276 : Obj := ⟨(.type "tuple"), none, (.seq (#[]) 0), #[]⟩
noncomputable def o278 : Obj := ⟨(.type "tuple"), none, (.seq (#[(.str (S "self") 616), (.str (S "value") 617)]) 0), #[]⟩
noncomputable def o279 : Obj := ⟨(.type "tuple"), none, (.seq (#[]) 0), #[]⟩
noncomputable def o281 : Obj := ⟨(.type "code"), none, (.fields (#[(.str (S "__init__") 613), (.str (S "DatetimeMS.__init__") 614), (.str (S "/claim/cut.py") 615), (.int 178 0), (.int 2 0), (.int 0 0), (.int 0 0), (.int 3 0), (.ref 276), (.bool true), (.int 181 0), (.ref 277), .none, (.ref 278), (.ref 279), (.ref 280), (.int 618 0), (.int 178 0), (.str (S "/claim/cut.py") 619)])), #[]⟩
noncomputable def o282 (p : Program) : Obj := ⟨(.type "function"), none, (.func (fdOf (sB p 20 0) (S "DatetimeMS.__init__") 3 [] .none .none .none (.str (S "bson.datetime_ms") 599) none (.ref 281) .none 0)), #[]⟩
noncomputable def o283 : Obj := ⟨(.type "tuple"), none, (.seq (#[]) 0), #[]⟩
noncomputable def o285 : Obj := ⟨(.type "tuple"), none, (.seq (#[(.str (S "self") 624), (.str (S "other") 625)]) 0), #[]⟩
noncomputable def o286 : Obj := ⟨(.type "tuple"), none, (.seq (#[]) 0), #[]⟩
noncomputable def o288 : Obj := ⟨(.type "code"), none, (.fields (#[(.str (S "__lt__") 621), (.str (S "DatetimeMS.__lt__") 622), (.str (S "/claim/cut.py") 623), (.int 186 0), (.int 2 0), (.int 0 0), (.int 0 0), (.int 3 0), (.ref 283), (.bool true), (.int 181 0), (.ref 284), .none, (.ref 285), (.ref 286), (.ref 287), (.int 626 0), (.int 186 0), (.str (S "/claim/cut.py") 627)])), #[]⟩
noncomputable def o289 (p : Program) : Obj := ⟨(.type "function"), none, (.func (fdOf (sB p 20 1) (S "DatetimeMS.__lt__") 3 [] .none .none .none (.str (S "bson.datetime_ms") 599) none (.ref 288) .none 0)), #[]⟩
noncomputable def o290 : Obj := ⟨(.type "tuple"), none, (.seq (#[]) 0), #[]⟩
noncomputable def o292 : Obj := ⟨(.type "tuple"), none, (.seq (#[(.str (S "self") 632), (.str (S "other") 633)]) 0), #[]⟩
noncomputable def o293 : Obj := ⟨(.type "tuple"), none, (.seq (#[]) 0), #[]⟩
noncomputable def o295 : Obj := ⟨(.type "code"), none, (.fields (#[(.str (S "__le__") 629), (.str (S "DatetimeMS.__le__") 630), (.str (S "/claim/cut.py") 631), (.int 189 0), (.int 2 0), (.int 0 0), (.int 0 0), (.int 3 0), (.ref 290), (.bool true), (.int 181 0), (.ref 291), .none, (.ref 292), (.ref 293), (.ref 294), (.int 634 0), (.int 189 0), (.str (S "/claim/cut.py") 635)])), #[]⟩
noncomputable def o296 (p : Program) : Obj := ⟨(.type "function"), none, (.func (fdOf (sB p 20 2) (S "DatetimeMS.__le__") 3 [] .none .none .none (.str (S "bson.datetime_ms") 599) none (.ref 295) .none 0)), #[]⟩
noncomputable def o297 : Obj := ⟨(.type "tuple"), none, (.seq (#[]) 0), #[]⟩
noncomputable def o299 : Obj := ⟨(.type "tuple"), none, (.seq (#[(.str (S "self") 640), (.str (S "other") 641)]) 0), #[]⟩
noncomputable def o300 : Obj := ⟨(.type "tuple"), none, (.seq (#[]) 0), #[]⟩
noncomputable def o302 : Obj := ⟨(.type "code"), none, (.fields (#[(.str (S "__eq__") 637), (.str (S "DatetimeMS.__eq__") 638), (.str (S "/claim/cut.py") 639), (.int 192 0), (.int 2 0), (.int 0 0), (.int 0 0), (.int 3 0), (.ref 297), (.bool true), (.int 181 0), (.ref 298), .none, (.ref 299), (.ref 300), (.ref 301), (.int 642 0), (.int 192 0), (.str (S "/claim/cut.py") 643)])), #[]⟩
noncomputable def o303 (p : Program) : Obj := ⟨(.type "function"), none, (.func (fdOf (sB p 20 3) (S "DatetimeMS.__eq__") 3 [] .none .none .none (.str (S "bson.datetime_ms") 599) none (.ref 302) .none 0)), #[]⟩
noncomputable def o304 : Obj := ⟨(.type "tuple"), none, (.seq (#[]) 0), #[]⟩
noncomputable def o306 : Obj := ⟨(.type "tuple"), none, (.seq (#[(.str (S "self") 648), (.str (S "other") 649)]) 0), #[]⟩
noncomputable def o307 : Obj := ⟨(.type "tuple"), none, (.seq (#[]) 0), #[]⟩
noncomputable def o309 : Obj := ⟨(.type "code"), none, (.fields (#[(.str (S "__ne__") 645), (.str (S "DatetimeMS.__ne__") 646), (.str (S "/claim/cut.py") 647), (.int 197 0), (.int 2 0), (.int 0 0), (.int 0 0), (.int 3 0), (.ref 304), (.bool true), (.int 181 0), (.ref 305), .none, (.ref 306), (.ref 307), (.ref 308), (.int 650 0), (.int 197 0), (.str (S "/claim/cut.py") 651)])), #[]⟩
noncomputable def o310 (p : Program) : Obj := ⟨(.type "function"), none, (.func (fdOf (sB p 20 4) (S "DatetimeMS.__ne__") 3 [] .none .none .none (.str (S "bson.datetime_ms") 599) none (.ref 309) .none 0)), #[]⟩
noncomputable def o311 : Obj := ⟨(.type "tuple"), none, (.seq (#[]) 0), #[]⟩
noncomputable def o313 : Obj := ⟨(.type "tuple"), none, (.seq (#[(.str (S "self") 656), (.str (S "other") 657)]) 0), #[]⟩
noncomputable def o314 : Obj := ⟨(.type "tuple"), none, (.seq (#[]) 0), #[]⟩
noncomputable def o316 : Obj := ⟨(.type "code"), none, (.fields (#[(.str (S "__gt__") 653), (.str (S "DatetimeMS.__gt__") 654), (.str (S "/claim/cut.py") 655), (.int 202 0), (.int 2 0), (.int 0 0), (.int 0 0), (.int 3 0), (.ref 311), (.bool true), (.int 181 0), (.ref 312), .none, (.ref 313), (.ref 314), (.ref 315), (.int 658 0), (.int 202 0), (.str (S "/claim/cut.py") 659)])), #[]⟩
noncomputable def o317 (p : Program) : Obj := ⟨(.type "function"), none, (.func (fdOf (sB p 20 5) (S "DatetimeMS.__gt__") 3 [] .none .none .none (.str (S "bson.datetime_ms") 599) none (.ref 316) .none 0)), #[]⟩
noncomputable def o318 : Obj := ⟨(.type "tuple"), none, (.seq (#[]) 0), #[]⟩
noncomputable def o320 : Obj := ⟨(.type "tuple"), none, (.seq (#[(.str (S "self") 664), (.str (S "other") 665)]) 0), #[]⟩
noncomputable def o321 : Obj := ⟨(.type "tuple"), none, (.seq (#[]) 0), #[]⟩
noncomputable def o323 : Obj := ⟨(.type "code"), none, (.fields (#[(.str (S "__ge__") 661), (.str (S "DatetimeMS.__ge__") 662), (.str (S "/claim/cut.py") 663), (.int 205 0), (.int 2 0), (.int 0 0), (.int 0 0), (.int 3 0), (.ref 318), (.bool true), (.int 181 0), (.ref 319), .none, (.ref 320), (.ref 321), (.ref 322), (.int 666 0), (.int 205 0), (.str (S "/claim/cut.py") 667)])), #[]⟩
noncomputable def o324 (p : Program) : Obj := ⟨(.type "function"), none, (.func (fdOf (sB p 20 6) (S "DatetimeMS.__ge__") 3 [] .none .none .none (.str (S "bson.datetime_ms") 599) none (.ref 323) .none 0)), #[]⟩
noncomputable def o325 : Obj := ⟨(.type "tuple"), none, (.seq (#[]) 0), #[]⟩
noncomputable def o327 : Obj := ⟨(.type "tuple"), none, (.seq (#[(.str (S "self") 674)]) 0), #[]⟩
noncomputable def o328 : Obj := ⟨(.type "tuple"), none, (.seq (#[]) 0), #[]⟩
noncomputable def o330 : Obj := ⟨(.type "code"), none, (.fields (#[(.str (S "__int__") 671), (.str (S "DatetimeMS.__int__") 672), (.str (S "/claim/cut.py") 673), (.int 209 0), (.int 1 0), (.int 0 0), (.int 0 0), (.int 3 0), (.ref 325), (.bool true), (.int 181 0), (.ref 326), .none, (.ref 327), (.ref 328), (.ref 329), (.int 675 0), (.int 209 0), (.str (S "/claim/cut.py") 676)])), #[]⟩
noncomputable def o331 (p : Program) : Obj := ⟨(.type "function"), none, (.func (fdOf (sB p 20 8) (S "DatetimeMS.__int__") 3 [] .none .none .none (.str (S "bson.datetime_ms") 599) none (.ref 330) .none 0)), #[]⟩
noncomputable def o332 : Obj := ⟨(.type "tuple"), none, (.seq (#[(.str (S "_value") 678)]) 0), #[]⟩
noncomputable def o333 (P : Params) : Obj := ⟨(.type "dict"), none, (.dict (#[dE P (S "__module__") 608 (.str (S "bson.datetime_ms") 599), dE P (S "__firstlineno__") 612 (.int 176 611), dE P (S "__init__") 620 (.ref 282), dE P (S "__lt__") 628 (.ref 289), dE P (S "__le__") 636 (.ref 296), dE P (S "__eq__") 644 (.ref 303), dE P (S "__ne__") 652 (.ref 310), dE P (S "__gt__") 660 (.ref 317), dE P (S "__ge__") 668 (.ref 324), dE P (S "_type_marker") 670 (.int 9 669), dE P (S "__int__") 677 (.ref 331), dE P (S "__static_attributes__") 679 (.ref 332), dE P (S "__dict__") 681 (.ref 335), dE P (S "__weakref__") 683 (.ref 336), dE P (S "__doc__") 684 .none, dE P (S "__hash__") 685 .none]) 5), #[]⟩
noncomputable def o334 : Obj := ⟨(.type "type"), none, (.cls ⟨(S "DatetimeMS"), [(.type "object")], [(.ref 334), (.type "object")], 333, (S "DatetimeMS"), true, [], [], false, none, false⟩), #[none, none, (some (.str (S "DatetimeMS") 601)), (some (.str (S "DatetimeMS") 609)), (some (.builtin "object.__new__")), (some (.bool true))]⟩
noncomputable def o335 : Obj := ⟨(.type "getset_descriptor"), none, (.fields (#[(.str (S "__dict__") 680), (.ref 334), (.builtin "function.__dict__"), (.builtin "function.__dict__#set")])), #[]⟩
noncomputable def o336 : Obj := ⟨(.type "getset_descriptor"), none, (.fields (#[(.str (S "__weakref__") 682), (.ref 334), (.builtin "ExceptionGroup.__weakref__"), .none])), #[]⟩
noncomputable def o346 : Obj := ⟨(.type "tuple"), none, (.seq (#[.none, .none]) 0), #[]⟩
noncomputable def o347 : Obj := ⟨(.type "tuple"), none, (.seq (#[]) 0), #[]⟩
noncomputable def o349 : Obj := ⟨(.type "tuple"), none, (.seq (#[(.str (S "self") 707), (.str (S "collection") 708), (.str (S "id") 709), (.str (S "database") 710), (.str (S "_extra") 711), (.str (S "kwargs") 712)]) 0), #[]⟩
noncomputable def o350 : Obj := ⟨(.type "tuple"), none, (.seq (#[]) 0), #[]⟩
noncomputable def o352 : Obj := ⟨(.type "code"), none, (.fields (#[(.str (S "__init__") 704), (.str (S "DBRef.__init__") 705), (.str (S "/claim/cut.py") 706), (.int 215 0), (.int 5 0), (.int 0 0), (.int 0 0), (.int 11 0), (.ref 347), (.bool true), (.int 181 0), (.ref 348), .none, (.ref 349), (.ref 350), (.ref 351), (.int 713 0), (.int 215 0), (.str (S "/claim/cut.py") 714)])), #[]⟩
noncomputable def o353 (p : Program) : Obj := ⟨(.type "function"), none, (.func (fdOf (sB p 22 1) (S "DBRef.__init__") 3 [] (.ref 346) .none .none (.str (S "bson.dbref") 688) none (.ref 352) .none 0)), #[]⟩
noncomputable def o354 : Obj := ⟨(.type "tuple"), none, (.seq (#[]) 0), #[]⟩
noncomputable def o356 : Obj := ⟨(.type "tuple"), none, (.seq (#[(.str (S "self") 719)]) 0), #[]⟩
noncomputable def o357 : Obj := ⟨(.type "tuple"), none, (.seq (#[]) 0), #[]⟩
noncomputable def o359 : Obj := ⟨(.type "code"), none, (.fields (#[(.str (S "collection") 716), (.str (S "DBRef.collection") 717), (.str (S "/claim/cut.py") 718), (.int 226 0), (.int 1 0), (.int 0 0), (.int 0 0), (.int 3 0), (.ref 354), (.bool true), (.int 181 0), (.ref 355), .none, (.ref 356), (.ref 357), (.ref 358), (.int 720 0), (.int 226 0), (.str (S "/claim/cut.py") 721)])), #[]⟩
noncomputable def o360 (p : Program) : Obj := ⟨(.type "function"), none, (.func (fdOf (sB p 22 2) (S "DBRef.collection") 3 [] .none .none .none (.str (S "bson.dbref") 688) none (.ref 359) .none 0)), #[]⟩
noncomputable def o361 : Obj := ⟨(.type "property"), none, (.fields (#[(.ref 360), .none, .none, .none, (.str (S "collection") 723), (.bool false)])), #[]⟩
noncomputable def o362 : Obj := ⟨(.type "tuple"), none, (.seq (#[]) 0), #[]⟩
noncomputable def o364 : Obj := ⟨(.type "tuple"), none, (.seq (#[(.str (S "self") 727)]) 0), #[]⟩
noncomputable def o365 : Obj := ⟨(.type "tuple"), none, (.seq (#[]) 0), #[]⟩
noncomputable def o367 : Obj := ⟨(.type "code"), none, (.fields (#[(.str (S "id") 724), (.str (S "DBRef.id") 725), (.str (S "/claim/cut.py") 726), (.int 230 0), (.int 1 0), (.int 0 0), (.int 0 0), (.int 3 0), (.ref 362), (.bool true), (.int 181 0), (.ref 363), .none, (.ref 364), (.ref 365), (.ref 366), (.int 728 0), (.int 230 0), (.str (S "/claim/cut.py") 729)])), #[]⟩
noncomputable def o368 (p : Program) : Obj := ⟨(.type "function"), none, (.func (fdOf (sB p 22 3) (S "DBRef.id") 3 [] .none .none .none (.str (S "bson.dbref") 688) none (.ref 367) .none 0)), #[]⟩
noncomputable def o369 : Obj := ⟨(.type "property"), none, (.fields (#[(.ref 368), .none, .none, .none, (.str (S "id") 731), (.bool false)])), #[]⟩
noncomputable def o370 : Obj := ⟨(.type "tuple"), none, (.seq (#[]) 0), #[]⟩
noncomputable def o372 : Obj := ⟨(.type "tuple"), none, (.seq (#[(.str (S "self") 735)]) 0), #[]⟩
noncomputable def o373 : Obj := ⟨(.type "tuple"), none, (.seq (#[]) 0), #[]⟩
noncomputable def o375 : Obj := ⟨(.type "code"), none, (.fields (#[(.str (S "database") 732), (.str (S "DBRef.database") 733), (.str (S "/claim/cut.py") 734), (.int 234 0), (.int 1 0), (.int 0 0), (.int 0 0), (.int 3 0), (.ref 370), (.bool true), (.int 181 0), (.ref 371), .none, (.ref 372), (.ref 373), (.ref 374), (.int 736 0), (.int 234 0), (.str (S "/claim/cut.py") 737)])), #[]⟩
noncomputable def o376 (p : Program) : Obj := ⟨(.type "function"), none, (.func (fdOf (sB p 22 4) (S "DBRef.database") 3 [] .none .none .none (.str (S "bson.dbref") 688) none (.ref 375) .none 0)), #[]⟩
noncomputable def o377 : Obj := ⟨(.type "property"), none, (.fields (#[(.ref 376), .none, .none, .none, (.str (S "database") 739), (.bool false)])), #[]⟩
noncomputable def o378 : Obj := ⟨(.type "tuple"), none, (.seq (#[]) 0), #[]⟩
noncomputable def o380 : Obj := ⟨(.type "tuple"), none, (.seq (#[(.str (S "self") 743), (.str (S "other") 744), (.str (S "us") 745), (.str (S "them") 746)]) 0), #[]⟩
noncomputable def o381 : Obj := ⟨(.type "tuple"), none, (.seq (#[]) 0), #[]⟩
noncomputable def o383 : Obj := ⟨(.type "code"), none, (.fields (#[(.str (S "__eq__") 740), (.str (S "DBRef.__eq__") 741), (.str (S "/claim/cut.py") 742), (.int 238 0), (.int 2 0), (.int 0 0), (.int 0 0), (.int 3 0), (.ref 378), (.bool true), (.int 181 0), (.ref 379), .none, (.ref 380), (.ref 381), (.ref 382), (.int 747 0), (.int 238 0), (.str (S "/claim/cut.py") 748)])), #[]⟩
noncomputable def o384 (p : Program) : Obj := ⟨(.type "function"), none, (.func (fdOf (sB p 22 5) (S "DBRef.__eq__") 3 [] .none .none .none (.str (S "bson.dbref") 688) none (.ref 383) .none 0)), #[]⟩
noncomputable def o385 : Obj := ⟨(.type "tuple"), none, (.seq (#[]) 0), #[]⟩
noncomputable def o387 : Obj := ⟨(.type "tuple"), none, (.seq (#[(.str (S "self") 753), (.str (S "other") 754)]) 0), #[]⟩
noncomputable def o388 : Obj := ⟨(.type "tuple"), none, (.seq (#[]) 0), #[]⟩
noncomputable def o390 : Obj := ⟨(.type "code"), none, (.fields (#[(.str (S "__ne__") 750), (.str (S "DBRef.__ne__") 751), (.str (S "/claim/cut.py") 752), (.int 245 0), (.int 2 0), (.int 0 0), (.int 0 0), (.int 3 0), (.ref 385), (.bool true), (.int 181 0), (.ref 386), .none, (.ref 387), (.ref 388), (.ref 389), (.int 755 0), (.int 245 0), (.str (S "/claim/cut.py") 756)])), #[]⟩
noncomputable def o391 (p : Program) : Obj := ⟨(.type "function"), none, (.func (fdOf (sB p 22 6) (S "DBRef.__ne__") 3 [] .none .none .none (.str (S "bson.dbref") 688) none (.ref 390) .none 0)), #[]⟩
noncomputable def o392 : Obj := ⟨(.type "tuple"), none, (.seq (#[(.str (S "_collection") 758), (.str (S "_database") 759), (.str (S "_id") 760), (.str (S "_kwargs") 761)]) 0), #[]⟩
noncomputable def o393 (P : Params) : Obj := ⟨(.type "dict"), none, (.dict (#[dE P (S "__module__") 697 (.str (S "bson.dbref") 688), dE P (S "__firstlineno__") 701 (.int 212 700), dE P (S "_type_marker") 703 (.int 100 702), dE P (S "__init__") 715 (.ref 353), dE P (S "collection") 723 (.ref 361), dE P (S "id") 731 (.ref 369), dE P (S "database") 739 (.ref 377), dE P (S "__eq__") 749 (.ref 384), dE P (S "__ne__") 757 (.ref 391), dE P (S "__static_attributes__") 762 (.ref 392), dE P (S "__dict__") 764 (.ref 395), dE P (S "__weakref__") 766 (.ref 396), dE P (S "__doc__") 767 .none, dE P (S "__hash__") 768 .none]) 5), #[]⟩
noncomputable def o394 : Obj := ⟨(.type "type"), none, (.cls ⟨(S "DBRef"), [(.type "object")], [(.ref 394), (.type "object")], 393, (S "DBRef"), true, [], [], false, none, false⟩), #[none, none, (some (.str (S "DBRef") 690)), (some (.str (S "DBRef") 698)), (some (.builtin "object.__new__")), (some (.bool true))]⟩
noncomputable def o395 : Obj := ⟨(.type "getset_descriptor"), none, (.fields (#[(.str (S "__dict__") 763), (.ref 394), (.builtin "function.__dict__"), (.builtin "function.__dict__#set")])), #[]⟩
noncomputable def o396 : Obj := ⟨(.type "getset_descriptor"), none, (.fields (#[(.str (S "__weakref__") 765), (.ref 394), (.builtin "ExceptionGroup.__weakref__"), .none])), #[]⟩
noncomputable def o406 : Obj := ⟨(.type "tuple"), none, (.seq (#[]) 0), #[]⟩
noncomputable def o408 : Obj := ⟨(.type "tuple"), none, (.seq (#[(.str (S "self") 788), (.str (S "value") 789)]) 0), #[]⟩
noncomputable def o409 : Obj := ⟨(.type "tuple"), none, (.seq (#[]) 0), #[]⟩
noncomputable def o411 : Obj := ⟨(.type "code"), none, (.fields (#[(.str (S "__init__") 785), (.str (S "Decimal.__init__") 786), (.str (S "/claim/cut.py") 787), (.int 250 0), (.int 2 0), (.int 0 0), (.int 0 0), (.int 3 0), (.ref 406), (.bool true), (.int 181 0), (.ref 407), .none, (.ref 408), (.ref 409), (.ref 410), (.int 790 0), (.int 250 0), (.str (S "/claim/cut.py") 791)])), #[]⟩
noncomputable def o412 (p : Program) : Obj := ⟨(.type "function"), none, (.func (fdOf (sB p 24 0) (S "Decimal.__init__") 3 [] .none .none .none (.str (S "bson.decimals") 771) none (.ref 411) .none 0)), #[]⟩
noncomputable def o413 : Obj := ⟨(.type "tuple"), none, (.seq (#[]) 0), #[]⟩
noncomputable def o415 : Obj := ⟨(.type "tuple"), none, (.seq (#[(.str (S "self") 796)]) 0), #[]⟩
noncomputable def o416 : Obj := ⟨(.type "tuple"), none, (.seq (#[]) 0), #[]⟩
noncomputable def o418 : Obj := ⟨(.type "code"), none, (.fields (#[(.str (S "as_tuple") 793), (.str (S "Decimal.as_tuple") 794), (.str (S "/claim/cut.py") 795), (.int 255 0), (.int 1 0), (.int 0 0), (.int 0 0), (.int 3 0), (.ref 413), (.bool true), (.int 181 0), (.ref 414), .none, (.ref 415), (.ref 416), (.ref 417), (.int 797 0), (.int 255 0), (.str (S "/claim/cut.py") 798)])), #[]⟩
noncomputable def o419 (p : Program) : Obj := ⟨(.type "function"), none, (.func (fdOf (sB p 24 1) (S "Decimal.as_tuple") 3 [] .none .none .none (.str (S "bson.decimals") 771) none (.ref 418) .none 0)), #[]⟩
noncomputable def o420 : Obj := ⟨(.type "tuple"), none, (.seq (#[]) 0), #[]⟩
noncomputable def o422 : Obj := ⟨(.type "tuple"), none, (.seq (#[(.str (S "self") 803)]) 0), #[]⟩
noncomputable def o423 : Obj := ⟨(.type "tuple"), none, (.seq (#[]) 0), #[]⟩
noncomputable def o425 : Obj := ⟨(.type "code"), none, (.fields (#[(.str (S "is_infinite") 800), (.str (S "Decimal.is_infinite") 801), (.str (S "/claim/cut.py") 802), (.int 258 0), (.int 1 0), (.int 0 0), (.int 0 0), (.int 3 0), (.ref 420), (.bool true), (.int 181 0), (.ref 421), .none, (.ref 422), (.ref 423), (.ref 424), (.int 804 0), (.int 258 0), (.str (S "/claim/cut.py") 805)])), #[]⟩
noncomputable def o426 (p : Program) : Obj := ⟨(.type "function"), none, (.func (fdOf (sB p 24 2) (S "Decimal.is_infinite") 3 [] .none .none .none (.str (S "bson.decimals") 771) none (.ref 425) .none 0)), #[]⟩
noncomputable def o427 : Obj := ⟨(.type "tuple"), none, (.seq (#[]) 0), #[]⟩
noncomputable def o429 : Obj := ⟨(.type "tuple"), none, (.seq (#[(.str (S "self") 810)]) 0), #[]⟩
noncomputable def o430 : Obj := ⟨(.type "tuple"), none, (.seq (#[]) 0), #[]⟩
noncomputable def o432 : Obj := ⟨(.type "code"), none, (.fields (#[(.str (S "is_nan") 807), (.str (S "Decimal.is_nan") 808), (.str (S "/claim/cut.py") 809), (.int 261 0), (.int 1 0), (.int 0 0), (.int 0 0), (.int 3 0), (.ref 427), (.bool true), (.int 181 0), (.ref 428), .none, (.ref 429), (.ref 430), (.ref 431), (.int 811 0), (.int 261 0), (.str (S "/claim/cut.py") 812)])), #[]⟩
noncomputable def o433 (p : Program) : Obj := ⟨(.type "function"), none, (.func (fdOf (sB p 24 3) (S "Decimal.is_nan") 3 [] .none .none .none (.str (S "bson.decimals") 771) none (.ref 432) .none 0)), #[]⟩
noncomputable def o434 : Obj := ⟨(.type "tuple"), none, (.seq (#[]) 0), #[]⟩
noncomputable def o436 : Obj := ⟨(.type "tuple"), none, (.seq (#[(.str (S "self") 817)]) 0), #[]⟩
noncomputable def o437 : Obj := ⟨(.type "tuple"), none, (.seq (#[]) 0), #[]⟩
noncomputable def o439 : Obj := ⟨(.type "code"), none, (.fields (#[(.str (S "is_snan") 814), (.str (S "Decimal.is_snan") 815), (.str (S "/claim/cut.py") 816), (.int 264 0), (.int 1 0), (.int 0 0), (.int 0 0), (.int 3 0), (.ref 434), (.bool true), (.int 181 0), (.ref 435), .none, (.ref 436), (.ref 437), (.ref 438), (.int 818 0), (.int 264 0), (.str (S "/claim/cut.py") 819)])), #[]⟩
noncomputable def o440 (p : Program) : Obj := ⟨(.type "function"), none, (.func (fdOf (sB p 24 4) (S "Decimal.is_snan") 3 [] .none .none .none (.str (S "bson.decimals") 771) none (.ref 439) .none 0)), #[]⟩
noncomputable def o441 : Obj := ⟨(.type "tuple"), none, (.seq (#[]) 0), #[]⟩
noncomputable def o443 : Obj := ⟨(.type "tuple"), none, (.seq (#[(.str (S "self") 824)]) 0), #[]⟩
noncomputable def o444 : Obj := ⟨(.type "tuple"), none, (.seq (#[]) 0), #[]⟩
noncomputable def o446 : Obj := ⟨(.type "code"), none, (.fields (#[(.str (S "is_signed") 821), (.str (S "Decimal.is_signed") 822), (.str (S "/claim/cut.py") 823), (.int 267 0), (.int 1 0), (.int 0 0), (.int 0 0), (.int 3 0), (.ref 441), (.bool true), (.int 181 0), (.ref 442), .none, (.ref 443), (.ref 444), (.ref 445), (.int 825 0), (.int 267 0), (.str (S "/claim/cut.py") 826)])), #[]⟩
noncomputable def o447 (p : Program) : Obj := ⟨(.type "function"), none, (.func (fdOf (sB p 24 5) (S "Decimal.is_signed") 3 [] .none .none .none (.str (S "bson.decimals") 771) none (.ref 446) .none 0)), #[]⟩
noncomputable def o448 : Obj := ⟨(.type "tuple"), none, (.seq (#[]) 0), #[]⟩
noncomputable def o450 : Obj := ⟨(.type "tuple"), none, (.seq (#[(.str (S "self") 831), (.str (S "other") 832)]) 0), #[]⟩
noncomputable def o451 : Obj := ⟨(.type "tuple"), none, (.seq (#[]) 0), #[]⟩
noncomputable def o453 : Obj := ⟨(.type "code"), none, (.fields (#[(.str (S "__eq__") 828), (.str (S "Decimal.__eq__") 829), (.str (S "/claim/cut.py") 830), (.int 270 0), (.int 2 0), (.int 0 0), (.int 0 0), (.int 3 0), (.ref 448), (.bool true), (.int 181 0), (.ref 449), .none, (.ref 450), (.ref 451), (.ref 452), (.int 833 0), (.int 270 0), (.str (S "/claim/cut.py") 834)])), #[]⟩
noncomputable def o454 (p : Program) : Obj := ⟨(.type "function"), none, (.func (fdOf (sB p 24 6) (S "Decimal.__eq__") 3 [] .none .none .none (.str (S "bson.decimals") 771) none (.ref 453) .none 0)), #[]⟩
noncomputable def o455 : Obj := ⟨(.type "tuple"), none, (.seq (#[(.str (S "digits") 836), (.str (S "exponent") 837), (.str (S "sign") 838)]) 0), #[]⟩
noncomputable def o456 (P : Params) : Obj := ⟨(.type "dict"), none, (.dict (#[dE P (S "__module__") 780 (.str (S "bson.decimals") 771), dE P (S "__firstlineno__") 784 (.int 248 783), dE P (S "__init__") 792 (.ref 412), dE P (S "as_tuple") 799 (.ref 419), dE P (S "is_infinite") 806 (.ref 426), dE P (S "is_nan") 813 (.ref 433), dE P (S "is_snan") 820 (.ref 440), dE P (S "is_signed") 827 (.ref 447), dE P (S "__eq__") 835 (.ref 454), dE P (S "__static_attributes__") 839 (.ref 455), dE P (S "__dict__") 841 (.ref 458), dE P (S "__weakref__") 843 (.ref 459), dE P (S "__doc__") 844 .none, dE P (S "__hash__") 845 .none]) 5), #[]⟩
noncomputable def o457 : Obj := ⟨(.type "type"), none, (.cls ⟨(S "Decimal"), [(.type "object")], [(.ref 457), (.type "object")], 456, (S "Decimal"), true, [], [], false, none, false⟩), #[none, none, (some (.str (S "Decimal") 773)), (some (.str (S "Decimal") 781)), (some (.builtin "object.__new__")), (some (.bool true))]⟩
noncomputable def o458 : Obj := ⟨(.type "getset_descriptor"), none, (.fields (#[(.str (S "__dict__") 840), (.ref 457), (.builtin "function.__dict__"), (.builtin "function.__dict__#set")])), #[]⟩
noncomputable def o459 : Obj := ⟨(.type "getset_descriptor"), none, (.fields (#[(.str (S "__weakref__") 842), (.ref 457), (.builtin "ExceptionGroup.__weakref__"), .none])), #[]⟩
noncomputable def o462 : Obj := ⟨(.type "tuple"), none, (.seq (#[]) 0), #[]⟩
noncomputable def o464 : Obj := ⟨(.type "tuple"), none, (.seq (#[(.str (S "number") 853)]) 0), #[]⟩
noncomputable def o465 : Obj := ⟨(.type "tuple"), none, (.seq (#[]) 0), #[]⟩
noncomputable def o467 : Obj := ⟨(.type "code"), none, (.fields (#[(.str (S "_PACK_64") 850), (.str (S "_PACK_64") 851), (.str (S "/claim/cut.py") 852), (.int 273 0), (.int 1 0), (.int 0 0), (.int 0 0), (.int 3 0), (.ref 462), (.bool true), (.int 181 0), (.ref 463), .none, (.ref 464), (.ref 465), (.ref 466), (.int 854 0), (.int 273 0), (.str (S "/claim/cut.py") 855)])), #[]⟩
noncomputable def o468 (p : Program) : Obj := ⟨(.type "function"), none, (.func (fdOf (sA p 26) (S "_PACK_64") 3 [] .none .none .none (.str (S "bson.decimal128") 848) none (.ref 467) .none 0)), #[]⟩
noncomputable def o469 : Obj := ⟨(.type "tuple"), none, (.seq (#[]) 0), #[]⟩
noncomputable def o471 : Obj := ⟨(.type "tuple"), none, (.seq (#[(.str (S "octets") 860)]) 0), #[]⟩
noncomputable def o472 : Obj := ⟨(.type "tuple"), none, (.seq (#[]) 0), #[]⟩
noncomputable def o474 : Obj := ⟨(.type "code"), none, (.fields (#[(.str (S "_UNPACK_64") 857), (.str (S "_UNPACK_64") 858), (.str (S "/claim/cut.py") 859), (.int 275 0), (.int 1 0), (.int 0 0), (.int 0 0), (.int 3 0), (.ref 469), (.bool true), (.int 181 0), (.ref 470), .none, (.ref 471), (.ref 472), (.ref 473), (.int 861 0), (.int 275 0), (.str (S "/claim/cut.py") 862)])), #[]⟩
noncomputable def o475 (p : Program) : Obj := ⟨(.type "function"), none, (.func (fdOf (sA p 27) (S "_UNPACK_64") 3 [] .none .none .none (.str (S "bson.decimal128") 848) none (.ref 474) .none 0)), #[]⟩
noncomputable def o476 : Obj := ⟨(.type "tuple"), none, (.seq (#[(.int 17870283321406128128 872), (.int 0 873)]) 0), #[]⟩
noncomputable def o477 : Obj := ⟨(.type "tuple"), none, (.seq (#[(.int 8646911284551352320 875), (.int 0 876)]) 0), #[]⟩
noncomputable def o478 : Obj := ⟨(.type "tuple"), none, (.seq (#[(.int 18158513697557839872 878), (.int 0 879)]) 0), #[]⟩
noncomputable def o479 : Obj := ⟨(.type "tuple"), none, (.seq (#[(.int 8935141660703064064 881), (.int 0 882)]) 0), #[]⟩
noncomputable def o480 : Obj := ⟨(.type "tuple"), none, (.seq (#[(.int 18302628885633695744 884), (.int 0 885)]) 0), #[]⟩
noncomputable def o481 : Obj := ⟨(.type "tuple"), none, (.seq (#[(.int 9079256848778919936 887), (.int 0 888)]) 0), #[]⟩
noncomputable def o482 : Obj := ⟨(.type "tuple"), none, (.seq (#[]) 0), #[]⟩
noncomputable def o484 : Obj := ⟨(.type "tuple"), none, (.seq (#[(.str (S "value") 893)]) 0), #[]⟩
noncomputable def o485 : Obj := ⟨(.type "tuple"), none, (.seq (#[]) 0), #[]⟩
noncomputable def o487 : Obj := ⟨(.type "code"), none, (.fields (#[(.str (S "_check_fits") 890), (.str (S "_check_fits") 891), (.str (S "/claim/cut.py") 892), (.int 287 0), (.int 1 0), (.int 0 0), (.int 0 0), (.int 3 0), (.ref 482), (.bool true), (.int 181 0), (.ref 483), .none, (.ref 484), (.ref 485), (.ref 486), (.int 894 0), (.int 287 0), (.str (S "/claim/cut.py") 895)])), #[]⟩
noncomputable def o488 (p : Program) : Obj := ⟨(.type "function"), none, (.func (fdOf (sA p 38) (S "_check_fits") 3 [] .none .none .none (.str (S "bson.decimal128") 848) none (.ref 487) .none 0)), #[]⟩
noncomputable def o489 : Obj := ⟨(.type "tuple"), none, (.seq (#[]) 0), #[]⟩
noncomputable def o492 : Obj := ⟨(.type "code"), none, (.fields (#[(.str (S "_decimal_to_128") 897), (.str (S "_decimal_to_128") 898), (.str (S "/claim/cut.py") 899), (.int 291 0), (.int 1 0), (.int 0 0), (.int 0 0), (.int 3 0), (.ref 489), (.bool true), (.int 181 0), (.ref 490), .none, .none, .none, (.ref 491), (.int 900 0), (.int 291 0), (.str (S "/claim/cut.py") 901)])), #[]⟩
noncomputable def o493 (p : Program) : Obj := ⟨(.type "function"), none, (.func (fdOf (sA p 39) (S "_decimal_to_128") 3 [] .none .none .none (.str (S "bson.decimal128") 848) none (.ref 492) .none 0)), #[]⟩
noncomputable def o501 : Obj := ⟨(.type "tuple"), none, (.seq (#[]) 0), #[]⟩
noncomputable def o503 : Obj := ⟨(.type "tuple"), none, (.seq (#[(.str (S "self") 920), (.str (S "value") 921)]) 0), #[]⟩
noncomputable def o504 : Obj := ⟨(.type "tuple"), none, (.seq (#[]) 0), #[]⟩
noncomputable def o506 : Obj := ⟨(.type "code"), none, (.fields (#[(.str (S "__init__") 917), (.str (S "Decimal128.__init__") 918), (.str (S "/claim/cut.py") 919), (.int 325 0), (.int 2 0), (.int 0 0), (.int 0 0), (.int 3 0), (.ref 501), (.bool true), (.int 181 0), (.ref 502), .none, (.ref 503), (.ref 504), (.ref 505), (.int 922 0), (.int 325 0), (.str (S "/claim/cut.py") 923)])), #[]⟩
noncomputable def o507 (p : Program) : Obj := ⟨(.type "function"), none, (.func (fdOf (sB p 40 1) (S "Decimal128.__init__") 3 [] .none .none .none (.str (S "bson.decimal128") 848) none (.ref 506) .none 0)), #[]⟩
noncomputable def o508 : Obj := ⟨(.type "tuple"), none, (.seq (#[]) 0), #[]⟩
noncomputable def o510 : Obj := ⟨(.type "tuple"), none, (.seq (#[(.str (S "self") 928)]) 0), #[]⟩
noncomputable def o511 : Obj := ⟨(.type "tuple"), none, (.seq (#[]) 0), #[]⟩
noncomputable def o513 : Obj := ⟨(.type "code"), none, (.fields (#[(.str (S "to_decimal") 925), (.str (S "Decimal128.to_decimal") 926), (.str (S "/claim/cut.py") 927), (.int 335 0), (.int 1 0), (.int 0 0), (.int 0 0), (.int 3 0), (.ref 508), (.bool true), (.int 181 0), (.ref 509), .none, (.ref 510), (.ref 511), (.ref 512), (.int 929 0), (.int 335 0), (.str (S "/claim/cut.py") 930)])), #[]⟩
noncomputable def o514 (p : Program) : Obj := ⟨(.type "function"), none, (.func (fdOf (sB p 40 2) (S "Decimal128.to_decimal") 3 [] .none .none .none (.str (S "bson.decimal128") 848) none (.ref 513) .none 0)), #[]⟩
noncomputable def o515 : Obj := ⟨(.type "tuple"), none, (.seq (#[]) 0), #[]⟩
noncomputable def o517 : Obj := ⟨(.type "tuple"), none, (.seq (#[(.str (S "cls") 935), (.str (S "value") 936)]) 0), #[]⟩
noncomputable def o518 : Obj := ⟨(.type "tuple"), none, (.seq (#[]) 0), #[]⟩
noncomputable def o520 : Obj := ⟨(.type "code"), none, (.fields (#[(.str (S "from_bid") 932), (.str (S "Decimal128.from_bid") 933), (.str (S "/claim/cut.py") 934), (.int 338 0), (.int 2 0), (.int 0 0), (.int 0 0), (.int 3 0), (.ref 515), (.bool true), (.int 181 0), (.ref 516), .none, (.ref 517), (.ref 518), (.ref 519), (.int 937 0), (.int 338 0), (.str (S "/claim/cut.py") 938)])), #[]⟩
noncomputable def o521 (p : Program) : Obj := ⟨(.type "function"), none, (.func (fdOf (sB p 40 3) (S "Decimal128.from_bid") 3 [] .none .none .none (.str (S "bson.decimal128") 848) (some 524) (.ref 520) .none 0)), #[]⟩
noncomputable def o522 (P : Params) : Obj := ⟨(.type "dict"), none, (.dict (#[dE P (S "__module__") 940 (.str (S "bson.decimal128") 848), dE P (S "__name__") 943 (.str (S "from_bid") 942), dE P (S "__qualname__") 946 (.str (S "Decimal128.from_bid") 945), dE P (S "__doc__") 948 .none, dE P (S "__annotations__") 950 (.ref 524)]) 5), #[]⟩
noncomputable def o523 : Obj := ⟨(.type "classmethod"), (some 522), (.fields (#[(.ref 521), (.bool false)])), #[]⟩
noncomputable def o524 : Obj := ⟨(.type "dict"), none, (.dict (#[]) 0), #[]⟩
noncomputable def o525 : Obj := ⟨(.type "tuple"), none, (.seq (#[]) 0), #[]⟩
noncomputable def o527 : Obj := ⟨(.type "tuple"), none, (.seq (#[(.str (S "self") 955)]) 0), #[]⟩
noncomputable def o528 : Obj := ⟨(.type "tuple"), none, (.seq (#[]) 0), #[]⟩
noncomputable def o530 : Obj := ⟨(.type "code"), none, (.fields (#[(.str (S "bid") 952), (.str (S "Decimal128.bid") 953), (.str (S "/claim/cut.py") 954), (.int 346 0), (.int 1 0), (.int 0 0), (.int 0 0), (.int 3 0), (.ref 525), (.bool true), (.int 181 0), (.ref 526), .none, (.ref 527), (.ref 528), (.ref 529), (.int 956 0), (.int 346 0), (.str (S "/claim/cut.py") 957)])), #[]⟩
noncomputable def o531 (p : Program) : Obj := ⟨(.type "function"), none, (.func (fdOf (sB p 40 4) (S "Decimal128.bid") 3 [] .none .none .none (.str (S "bson.decimal128") 848) none (.ref 530) .none 0)), #[]⟩
noncomputable def o532 : Obj := ⟨(.type "property"), none, (.fields (#[(.ref 531), .none, .none, .none, (.str (S "bid") 959), (.bool false)])), #[]⟩
noncomputable def o533 : Obj := ⟨(.type "tuple"), none, (.seq (#[]) 0), #[]⟩
noncomputable def o535 : Obj := ⟨(.type "tuple"), none, (.seq (#[(.str (S "self") 963), (.str (S "other") 964)]) 0), #[]⟩
noncomputable def o536 : Obj := ⟨(.type "tuple"), none, (.seq (#[]) 0), #[]⟩
noncomputable def o538 : Obj := ⟨(.type "code"), none, (.fields (#[(.str (S "__eq__") 960), (.str (S "Decimal128.__eq__") 961), (.str (S "/claim/cut.py") 962), (.int 350 0), (.int 2 0), (.int 0 0), (.int 0 0), (.int 3 0), (.ref 533), (.bool true), (.int 181 0), (.ref 534), .none, (.ref 535), (.ref 536), (.ref 537), (.int 965 0), (.int 350 0), (.str (S "/claim/cut.py") 966)])), #[]⟩
noncomputable def o539 (p : Program) : Obj := ⟨(.type "function"), none, (.func (fdOf (sB p 40 5) (S "Decimal128.__eq__") 3 [] .none .none .none (.str (S "bson.decimal128") 848) none (.ref 538) .none 0)), #[]⟩
noncomputable def o540 : Obj := ⟨(.type "tuple"), none, (.seq (#[]) 0), #[]⟩
noncomputable def o542 : Obj := ⟨(.type "tuple"), none, (.seq (#[(.str (S "self") 971), (.str (S "other") 972)]) 0), #[]⟩
noncomputable def o543 : Obj := ⟨(.type "tuple"), none, (.seq (#[]) 0), #[]⟩
noncomputable def o545 : Obj := ⟨(.type "code"), none, (.fields (#[(.str (S "__ne__") 968), (.str (S "Decimal128.__ne__") 969), (.str (S "/claim/cut.py") 970), (.int 355 0), (.int 2 0), (.int 0 0), (.int 0 0), (.int 3 0), (.ref 540), (.bool true), (.int 181 0), (.ref 541), .none, (.ref 542), (.ref 543), (.ref 544), (.int 973 0), (.int 355 0), (.str (S "/claim/cut.py") 974)])), #[]⟩
noncomputable def o546 (p : Program) : Obj := ⟨(.type "function"), none, (.func (fdOf (sB p 40 6) (S "Decimal128.__ne__") 3 [] .none .none .none (.str (S "bson.decimal128") 848) none (.ref 545) .none 0)), #[]⟩
noncomputable def o547 : Obj := ⟨(.type "tuple"), none, (.seq (#[(.str (S "_high") 976), (.str (S "_low") 977)]) 0), #[]⟩
noncomputable def o548 (P : Params) : Obj := ⟨(.type "dict"), none, (.dict (#[dE P (S "__module__") 910 (.str (S "bson.decimal128") 848), dE P (S "__firstlineno__") 914 (.int 322 913), dE P (S "_type_marker") 916 (.int 19 915), dE P (S "__init__") 924 (.ref 507), dE P (S "to_decimal") 931 (.ref 514), dE P (S "from_bid") 951 (.ref 523), dE P (S "bid") 959 (.ref 532), dE P (S "__eq__") 967 (.ref 539), dE P (S "__ne__") 975 (.ref 546), dE P (S "__static_attributes__") 978 (.ref 547), dE P (S "__dict__") 980 (.ref 550), dE P (S "__weakref__") 982 (.ref 551), dE P (S "__doc__") 983 .none, dE P (S "__hash__") 984 .none]) 5), #[]⟩
noncomputable def o549 : Obj := ⟨(.type "type"), none, (.cls ⟨(S "Decimal128"), [(.type "object")], [(.ref 549), (.type "object")], 548, (S "Decimal128"), true, [], [], false, none, false⟩), #[none, none, (some (.str (S "Decimal128") 903)), (some (.str (S "Decimal128") 911)), (some (.builtin "object.__new__")), (some (.bool true))]⟩
noncomputable def o550 : Obj := ⟨(.type "getset_descriptor"), none, (.fields (#[(.str (S "__dict__") 979), (.ref 549), (.builtin "function.__dict__"), (.builtin "function.__dict__#set")])), #[]⟩
noncomputable def o551 : Obj := ⟨(.type "getset_descriptor"), none, (.fields (#[(.str (S "__weakref__") 981), (.ref 549), (.builtin "ExceptionGroup.__weakref__"), .none])), #[]⟩
noncomputable def o554 : Obj := ⟨(.type "tuple"), none, (.seq (#[(.type "Exception")]) 0), #[]⟩
noncomputable def o561 : Obj := ⟨(.type "tuple"), none, (.seq (#[]) 0), #[]⟩
noncomputable def o562 (P : Params) : Obj := ⟨(.type "dict"), none, (.dict (#[dE P (S "__module__") 996 (.str (S "bson.errors") 987), dE P (S "__firstlineno__") 1000 (.int 358 999), dE P (S "__static_attributes__") 1001 (.ref 561), dE P (S "__weakref__") 1003 (.ref 564), dE P (S "__doc__") 1004 .none]) 3), #[]⟩
noncomputable def o563 : Obj := ⟨(.type "type"), none, (.cls ⟨(S "BSONError"), [(.type "Exception")], [(.ref 563), (.type "Exception"), (.type "BaseException"), (.type "object")], 562, (S "BSONError"), true, [], [(.ref 576), (.ref 588), (.ref 618), (.ref 630)], false, none, false⟩), #[(some (.ref 554)), none, (some (.str (S "BSONError") 989)), (some (.str (S "BSONError") 997)), (some (.builtin "Exception.__new__")), (some (.bool true))]⟩
noncomputable def o564 : Obj := ⟨(.type "getset_descriptor"), none, (.fields (#[(.str (S "__weakref__") 1002), (.ref 563), (.builtin "ExceptionGroup.__weakref__"), .none])), #[]⟩
noncomputable def o567 : Obj := ⟨(.type "tuple"), none, (.seq (#[(.ref 563)]) 0), #[]⟩
noncomputable def o574 : Obj := ⟨(.type "tuple"), none, (.seq (#[]) 0), #[]⟩
noncomputable def o575 (P : Params) : Obj := ⟨(.type "dict"), none, (.dict (#[dE P (S "__module__") 1016 (.str (S "bson.errors") 987), dE P (S "__firstlineno__") 1020 (.int 360 1019), dE P (S "__static_attributes__") 1021 (.ref 574), dE P (S "__doc__") 1022 .none]) 2), #[]⟩
noncomputable def o576 : Obj := ⟨(.type "type"), none, (.cls ⟨(S "InvalidBSON"), [(.ref 563)], [(.ref 576), (.ref 563), (.type "Exception"), (.type "BaseException"), (.type "object")], 575, (S "InvalidBSON"), true, [], [], false, none, false⟩), #[(some (.ref 567)), none, (some (.str (S "InvalidBSON") 1009)), (some (.str (S "InvalidBSON") 1017)), (some (.builtin "Exception.__new__")), (some (.bool true))]⟩
noncomputable def o579 : Obj := ⟨(.type "tuple"), none, (.seq (#[(.ref 563)]) 0), #[]⟩
noncomputable def o586 : Obj := ⟨(.type "tuple"), none, (.seq (#[]) 0), #[]⟩
noncomputable def o587 (P : Params) : Obj := ⟨(.type "dict"), none, (.dict (#[dE P (S "__module__") 1032 (.str (S "bson.errors") 987), dE P (S "__firstlineno__") 1036 (.int 362 1035), dE P (S "__static_attributes__") 1037 (.ref 586), dE P (S "__doc__") 1038 .none]) 2), #[]⟩
noncomputable def o588 : Obj := ⟨(.type "type"), none, (.cls ⟨(S "InvalidStringData"), [(.ref 563)], [(.ref 588), (.ref 563), (.type "Exception"), (.type "BaseException"), (.type "object")], 587, (S "InvalidStringData"), true, [], [], false, none, false⟩), #[(some (.ref 579)), none, (some (.str (S "InvalidStringData") 1025)), (some (.str (S "InvalidStringData") 1033)), (some (.builtin "Exception.__new__")), (some (.bool true))]⟩
noncomputable def o591 : Obj := ⟨(.type "tuple"), none, (.seq (#[(.ref 563)]) 0), #[]⟩
noncomputable def o594 : Obj := ⟨(.type "cell"), none, (.cell (some (.ref 618))), #[]⟩
noncomputable def o599 : Obj := ⟨(.type "tuple"), none, (.seq (#[.none]) 0), #[]⟩
noncomputable def o600 : Obj := ⟨(.type "tuple"), none, (.seq (#[(.ref 594)]) 0), #[]⟩
noncomputable def o601 : Obj := ⟨(.type "tuple"), none, (.seq (#[(.str (S "__class__") 1056)]) 0), #[]⟩
noncomputable def o603 : Obj := ⟨(.type "tuple"), none, (.seq (#[(.str (S "self") 1057), (.str (S "message") 1058), (.str (S "document") 1059)]) 0), #[]⟩
noncomputable def o604 : Obj := ⟨(.type "tuple"), none, (.seq (#[]) 0), #[]⟩
noncomputable def o606 : Obj := ⟨(.type "code"), none, (.fields (#[(.str (S "__init__") 1053), (.str (S "InvalidDocument.__init__") 1054), (.str (S "/claim/cut.py") 1055), (.int 366 0), (.int 3 0), (.int 0 0), (.int 0 0), (.int 3 0), (.ref 601), (.bool true), (.int 181 0), (.ref 602), .none, (.ref 603), (.ref 604), (.ref 605), (.int 1060 0), (.int 366 0), (.str (S "/claim/cut.py") 1061)])), #[]⟩
noncomputable def o607 (p : Program) : Obj := ⟨(.type "function"), none, (.func (fdOf (sB p 45 0) (S "InvalidDocument.__init__") 3 [((S "__class__"), 594)] (.ref 599) .none .none (.str (S "bson.errors") 987) none (.ref 606) (.ref 600) 0)), #[]⟩
noncomputable def o608 : Obj := ⟨(.type "tuple"), none, (.seq (#[]) 0), #[]⟩
noncomputable def o610 : Obj := ⟨(.type "tuple"), none, (.seq (#[(.str (S "self") 1066)]) 0), #[]⟩
noncomputable def o611 : Obj := ⟨(.type "tuple"), none, (.seq (#[]) 0), #[]⟩
noncomputable def o613 : Obj := ⟨(.type "code"), none, (.fields (#[(.str (S "document") 1063), (.str (S "InvalidDocument.document") 1064), (.str (S "/claim/cut.py") 1065), (.int 370 0), (.int 1 0), (.int 0 0), (.int 0 0), (.int 3 0), (.ref 608), (.bool true), (.int 181 0), (.ref 609), .none, (.ref 610), (.ref 611), (.ref 612), (.int 1067 0), (.int 370 0), (.str (S "/claim/cut.py") 1068)])), #[]⟩
noncomputable def o614 (p : Program) : Obj := ⟨(.type "function"), none, (.func (fdOf (sB p 45 1) (S "InvalidDocument.document") 3 [] .none .none .none (.str (S "bson.errors") 987) none (.ref 613) .none 0)), #[]⟩
noncomputable def o615 : Obj := ⟨(.type "property"), none, (.fields (#[(.ref 614), .none, .none, .none, (.str (S "document") 1070), (.bool false)])), #[]⟩
noncomputable def o616 : Obj := ⟨(.type "tuple"), none, (.seq (#[(.str (S "_document") 1071)]) 0), #[]⟩
noncomputable def o617 (P : Params) : Obj := ⟨(.type "dict"), none, (.dict (#[dE P (S "__module__") 1048 (.str (S "bson.errors") 987), dE P (S "__firstlineno__") 1052 (.int 364 1051), dE P (S "__init__") 1062 (.ref 607), dE P (S "document") 1070 (.ref 615), dE P (S "__static_attributes__") 1072 (.ref 616), dE P (S "__doc__") 1074 .none]) 3), #[]⟩
noncomputable def o618 : Obj := ⟨(.type "type"), none, (.cls ⟨(S "InvalidDocument"), [(.ref 563)], [(.ref 618), (.ref 563), (.type "Exception"), (.type "BaseException"), (.type "object")], 617, (S "InvalidDocument"), true, [], [], false, none, false⟩), #[(some (.ref 591)), none, (some (.str (S "InvalidDocument") 1041)), (some (.str (S "InvalidDocument") 1049)), (some (.builtin "Exception.__new__")), (some (.bool true))]⟩
noncomputable def o621 : Obj := ⟨(.type "tuple"), none, (.seq (#[(.ref 563)]) 0), #[]⟩
noncomputable def o628 : Obj := ⟨(.type "tuple"), none, (.seq (#[]) 0), #[]⟩
noncomputable def o629 (P : Params) : Obj := ⟨(.type "dict"), none, (.dict (#[dE P (S "__module__") 1084 (.str (S "bson.errors") 987), dE P (S "__firstlineno__") 1088 (.int 373 1087), dE P (S "__static_attributes__") 1089 (.ref 628), dE P (S "__doc__") 1090 .none]) 2), #[]⟩
noncomputable def o630 : Obj := ⟨(.type "type"), none, (.cls ⟨(S "InvalidId"), [(.ref 563)], [(.ref 630), (.ref 563), (.type "Exception"), (.type "BaseException"), (.type "object")], 629, (S "InvalidId"), true, [], [], false, none, false⟩), #[(some (.ref 621)), none, (some (.str (S "InvalidId") 1077)), (some (.str (S "InvalidId") 1085)), (some (.builtin "Exception.__new__")), (some (.bool true))]⟩
noncomputable def o640 : Obj := ⟨(.type "tuple"), none, (.seq (#[]) 0), #[]⟩
noncomputable def o642 : Obj := ⟨(.type "tuple"), none, (.seq (#[(.str (S "self") 1112), (.str (S "value") 1113)]) 0), #[]⟩
noncomputable def o643 : Obj := ⟨(.type "tuple"), none, (.seq (#[]) 0), #[]⟩
noncomputable def o645 : Obj := ⟨(.type "code"), none, (.fields (#[(.str (S "__init__") 1109), (.str (S "Int64.__init__") 1110), (.str (S "/claim/cut.py") 1111), (.int 379 0), (.int 2 0), (.int 0 0), (.int 0 0), (.int 3 0), (.ref 640), (.bool true), (.int 181 0), (.ref 641), .none, (.ref 642), (.ref 643), (.ref 644), (.int 1114 0), (.int 379 0), (.str (S "/claim/cut.py") 1115)])), #[]⟩
noncomputable def o646 (p : Program) : Obj := ⟨(.type "function"), none, (.func (fdOf (sB p 48 1) (S "Int64.__init__") 3 [] .none .none .none (.str (S "bson.int64") 1093) none (.ref 645) .none 0)), #[]⟩
noncomputable def o647 : Obj := ⟨(.type "tuple"), none, (.seq (#[]) 0), #[]⟩
noncomputable def o649 : Obj := ⟨(.type "tuple"), none, (.seq (#[(.str (S "self") 1120), (.str (S "other") 1121)]) 0), #[]⟩
noncomputable def o650 : Obj := ⟨(.type "tuple"), none, (.seq (#[]) 0), #[]⟩
noncomputable def o652 : Obj := ⟨(.type "code"), none, (.fields (#[(.str (S "__eq__") 1117), (.str (S "Int64.__eq__") 1118), (.str (S "/claim/cut.py") 1119), (.int 382 0), (.int 2 0), (.int 0 0), (.int 0 0), (.int 3 0), (.ref 647), (.bool true), (.int 181 0), (.ref 648), .none, (.ref 649), (.ref 650), (.ref 651), (.int 1122 0), (.int 382 0), (.str (S "/claim/cut.py") 1123)])), #[]⟩
noncomputable def o653 (p : Program) : Obj := ⟨(.type "function"), none, (.func (fdOf (sB p 48 2) (S "Int64.__eq__") 3 [] .none .none .none (.str (S "bson.int64") 1093) none (.ref 652) .none 0)), #[]⟩
noncomputable def o654 : Obj := ⟨(.type "tuple"), none, (.seq (#[(.str (S "value") 1125)]) 0), #[]⟩
noncomputable def o655 (P : Params) : Obj := ⟨(.type "dict"), none, (.dict (#[dE P (S "__module__") 1102 (.str (S "bson.int64") 1093), dE P (S "__firstlineno__") 1106 (.int 376 1105), dE P (S "_type_marker") 1108 (.int 18 1107), dE P (S "__init__") 1116 (.ref 646), dE P (S "__eq__") 1124 (.ref 653), dE P (S "__static_attributes__") 1126 (.ref 654), dE P (S "__dict__") 1128 (.ref 657), dE P (S "__weakref__") 1130 (.ref 658), dE P (S "__doc__") 1131 .none, dE P (S "__hash__") 1132 .none]) 5), #[]⟩
noncomputable def o656 : Obj := ⟨(.type "type"), none, (.cls ⟨(S "Int64"), [(.type "object")], [(.ref 656), (.type "object")], 655, (S "Int64"), true, [], [], false, none, false⟩), #[none, none, (some (.str (S "Int64") 1095)), (some (.str (S "Int64") 1103)), (some (.builtin "object.__new__")), (some (.bool true))]⟩
noncomputable def o657 : Obj := ⟨(.type "getset_descriptor"), none, (.fields (#[(.str (S "__dict__") 1127), (.ref 656), (.builtin "function.__dict__"), (.builtin "function.__dict__#set")])), #[]⟩
noncomputable def o658 : Obj := ⟨(.type "getset_descriptor"), none, (.fields (#[(.str (S "__weakref__") 1129), (.ref 656), (.builtin "ExceptionGroup.__weakref__"), .none])), #[]⟩
noncomputable def o668 : Obj := ⟨(.type "tuple"), none, (.seq (#[]) 0), #[]⟩
noncomputable def o670 : Obj := ⟨(.type "tuple"), none, (.seq (#[(.str (S "self") 1154), (.str (S "other") 1155)]) 0), #[]⟩
noncomputable def o671 : Obj := ⟨(.type "tuple"), none, (.seq (#[]) 0), #[]⟩
noncomputable def o673 : Obj := ⟨(.type "code"), none, (.fields (#[(.str (S "__eq__") 1151), (.str (S "MaxKey.__eq__") 1152), (.str (S "/claim/cut.py") 1153), (.int 388 0), (.int 2 0), (.int 0 0), (.int 0 0), (.int 3 0), (.ref 668), (.bool true), (.int 181 0), (.ref 669), .none, (.ref 670), (.ref 671), (.ref 672), (.int 1156 0), (.int 388 0), (.str (S "/claim/cut.py") 1157)])), #[]⟩
noncomputable def o674 (p : Program) : Obj := ⟨(.type "function"), none, (.func (fdOf (sB p 50 1) (S "MaxKey.__eq__") 3 [] .none .none .none (.str (S "bson.max_key") 1135) none (.ref 673) .none 0)), #[]⟩
noncomputable def o675 : Obj := ⟨(.type "tuple"), none, (.seq (#[]) 0), #[]⟩
noncomputable def o677 : Obj := ⟨(.type "tuple"), none, (.seq (#[(.str (S "self") 1162), (.str (S "other") 1163)]) 0), #[]⟩
noncomputable def o678 : Obj := ⟨(.type "tuple"), none, (.seq (#[]) 0), #[]⟩
noncomputable def o680 : Obj := ⟨(.type "code"), none, (.fields (#[(.str (S "__ne__") 1159), (.str (S "MaxKey.__ne__") 1160), (.str (S "/claim/cut.py") 1161), (.int 391 0), (.int 2 0), (.int 0 0), (.int 0 0), (.int 3 0), (.ref 675), (.bool true), (.int 181 0), (.ref 676), .none, (.ref 677), (.ref 678), (.ref 679), (.int 1164 0), (.int 391 0), (.str (S "/claim/cut.py") 1165)])), #[]⟩
noncomputable def o681 (p : Program) : Obj := ⟨(.type "function"), none, (.func (fdOf (sB p 50 2) (S "MaxKey.__ne__") 3 [] .none .none .none (.str (S "bson.max_key") 1135) none (.ref 680) .none 0)), #[]⟩
noncomputable def o682 : Obj := ⟨(.type "tuple"), none, (.seq (#[]) 0), #[]⟩
noncomputable def o684 : Obj := ⟨(.type "tuple"), none, (.seq (#[(.str (S "self") 1170), (.str (S "other") 1171)]) 0), #[]⟩
noncomputable def o685 : Obj := ⟨(.type "tuple"), none, (.seq (#[]) 0), #[]⟩
noncomputable def o687 : Obj := ⟨(.type "code"), none, (.fields (#[(.str (S "__le__") 1167), (.str (S "MaxKey.__le__") 1168), (.str (S "/claim/cut.py") 1169), (.int 394 0), (.int 2 0), (.int 0 0), (.int 0 0), (.int 3 0), (.ref 682), (.bool true), (.int 181 0), (.ref 683), .none, (.ref 684), (.ref 685), (.ref 686), (.int 1172 0), (.int 394 0), (.str (S "/claim/cut.py") 1173)])), #[]⟩
noncomputable def o688 (p : Program) : Obj := ⟨(.type "function"), none, (.func (fdOf (sB p 50 3) (S "MaxKey.__le__") 3 [] .none .none .none (.str (S "bson.max_key") 1135) none (.ref 687) .none 0)), #[]⟩
noncomputable def o689 : Obj := ⟨(.type "tuple"), none, (.seq (#[]) 0), #[]⟩
noncomputable def o691 : Obj := ⟨(.type "tuple"), none, (.seq (#[(.str (S "self") 1178), (.str (S "dummy") 1179)]) 0), #[]⟩
noncomputable def o692 : Obj := ⟨(.type "tuple"), none, (.seq (#[]) 0), #[]⟩
noncomputable def o694 : Obj := ⟨(.type "code"), none, (.fields (#[(.str (S "__lt__") 1175), (.str (S "MaxKey.__lt__") 1176), (.str (S "/claim/cut.py") 1177), (.int 397 0), (.int 2 0), (.int 0 0), (.int 0 0), (.int 3 0), (.ref 689), (.bool true), (.int 181 0), (.ref 690), .none, (.ref 691), (.ref 692), (.ref 693), (.int 1180 0), (.int 397 0), (.str (S "/claim/cut.py") 1181)])), #[]⟩
noncomputable def o695 (p : Program) : Obj := ⟨(.type "function"), none, (.func (fdOf (sB p 50 4) (S "MaxKey.__lt__") 3 [] .none .none .none (.str (S "bson.max_key") 1135) none (.ref 694) .none 0)), #[]⟩
noncomputable def o696 : Obj := ⟨(.type "tuple"), none, (.seq (#[]) 0), #[]⟩
noncomputable def o698 : Obj := ⟨(.type "tuple"), none, (.seq (#[(.str (S "self") 1186), (.str (S "dummy") 1187)]) 0), #[]⟩
noncomputable def o699 : Obj := ⟨(.type "tuple"), none, (.seq (#[]) 0), #[]⟩
noncomputable def o701 : Obj := ⟨(.type "code"), none, (.fields (#[(.str (S "__ge__") 1183), (.str (S "MaxKey.__ge__") 1184), (.str (S "/claim/cut.py") 1185), (.int 400 0), (.int 2 0), (.int 0 0), (.int 0 0), (.int 3 0), (.ref 696), (.bool true), (.int 181 0), (.ref 697), .none, (.ref 698), (.ref 699), (.ref 700), (.int 1188 0), (.int 400 0), (.str (S "/claim/cut.py") 1189)])), #[]⟩
noncomputable def o702 (p : Program) : Obj := ⟨(.type "function"), none, (.func (fdOf (sB p 50 5) (S "MaxKey.__ge__") 3 [] .none .none .none (.str (S "bson.max_key") 1135) none (.ref 701) .none 0)), #[]⟩
noncomputable def o703 : Obj := ⟨(.type "tuple"), none, (.seq (#[]) 0), #[]⟩
noncomputable def o705 : Obj := ⟨(.type "tuple"), none, (.seq (#[(.str (S "self") 1194), (.str (S "other") 1195)]) 0), #[]⟩
noncomputable def o706 : Obj := ⟨(.type "tuple"), none, (.seq (#[]) 0), #[]⟩
noncomputable def o708 : Obj := ⟨(.type "code"), none, (.fields (#[(.str (S "__gt__") 1191), (.str (S "MaxKey.__gt__") 1192), (.str (S "/claim/cut.py") 1193), (.int 403 0), (.int 2 0), (.int 0 0), (.int 0 0), (.int 3 0), (.ref 703), (.bool true), (.int 181 0), (.ref 704), .none, (.ref 705), (.ref 706), (.ref 707), (.int 1196 0), (.int 403 0), (.str (S "/claim/cut.py") 1197)])), #[]⟩
noncomputable def o709 (p : Program) : Obj := ⟨(.type "function"), none, (.func (fdOf (sB p 50 6) (S "MaxKey.__gt__") 3 [] .none .none .none (.str (S "bson.max_key") 1135) none (.ref 708) .none 0)), #[]⟩
noncomputable def o710 : Obj := ⟨(.type "tuple"), none, (.seq (#[]) 0), #[]⟩
noncomputable def o712 : Obj := ⟨(.type "tuple"), none, (.seq (#[(.str (S "self") 1202)]) 0), #[]⟩
noncomputable def o713 : Obj := ⟨(.type "tuple"), none, (.seq (#[]) 0), #[]⟩
noncomputable def o715 : Obj := ⟨(.type "code"), none, (.fields (#[(.str (S "__repr__") 1199), (.str (S "MaxKey.__repr__") 1200), (.str (S "/claim/cut.py") 1201), (.int 406 0), (.int 1 0), (.int 0 0), (.int 0 0), (.int 3 0), (.ref 710), (.bool true), (.int 181 0), (.ref 711), .none, (.ref 712), (.ref 713), (.ref 714), (.int 1203 0), (.int 406 0), (.str (S "/claim/cut.py") 1204)])), #[]⟩
noncomputable def o716 (p : Program) : Obj := ⟨(.type "function"), none, (.func (fdOf (sB p 50 7) (S "MaxKey.__repr__") 3 [] .none .none .none (.str (S "bson.max_key") 1135) none (.ref 715) .none 0)), #[]⟩
noncomputable def o717 : Obj := ⟨(.type "tuple"), none, (.seq (#[]) 0), #[]⟩
noncomputable def o718 (P : Params) : Obj := ⟨(.type "dict"), none, (.dict (#[dE P (S "__module__") 1144 (.str (S "bson.max_key") 1135), dE P (S "__firstlineno__") 1148 (.int 385 1147), dE P (S "_type_marker") 1150 (.int 127 1149), dE P (S "__eq__") 1158 (.ref 674), dE P (S "__ne__") 1166 (.ref 681), dE P (S "__le__") 1174 (.ref 688), dE P (S "__lt__") 1182 (.ref 695), dE P (S "__ge__") 1190 (.ref 702), dE P (S "__gt__") 1198 (.ref 709), dE P (S "__repr__") 1205 (.ref 716), dE P (S "__static_attributes__") 1206 (.ref 717), dE P (S "__dict__") 1208 (.ref 720), dE P (S "__weakref__") 1210 (.ref 721), dE P (S "__doc__") 1211 .none, dE P (S "__hash__") 1212 .none]) 5), #[]⟩
noncomputable def o719 : Obj := ⟨(.type "type"), none, (.cls ⟨(S "MaxKey"), [(.type "object")], [(.ref 719), (.type "object")], 718, (S "MaxKey"), true, [], [], false, none, false⟩), #[none, none, (some (.str (S "MaxKey") 1137)), (some (.str (S "MaxKey") 1145)), (some (.builtin "object.__new__")), (some (.bool true))]⟩
noncomputable def o720 : Obj := ⟨(.type "getset_descriptor"), none, (.fields (#[(.str (S "__dict__") 1207), (.ref 719), (.builtin "function.__dict__"), (.builtin "function.__dict__#set")])), #[]⟩
noncomputable def o721 : Obj := ⟨(.type "getset_descriptor"), none, (.fields (#[(.str (S "__weakref__") 1209), (.ref 719), (.builtin "ExceptionGroup.__weakref__"), .none])), #[]⟩
noncomputable def o731 : Obj := ⟨(.type "tuple"), none, (.seq (#[]) 0), #[]⟩
noncomputable def o733 : Obj := ⟨(.type "tuple"), none, (.seq (#[(.str (S "self") 1234), (.str (S "other") 1235)]) 0), #[]⟩
noncomputable def o734 : Obj := ⟨(.type "tuple"), none, (.seq (#[]) 0), #[]⟩
noncomputable def o736 : Obj := ⟨(.type "code"), none, (.fields (#[(.str (S "__eq__") 1231), (.str (S "MinKey.__eq__") 1232), (.str (S "/claim/cut.py") 1233), (.int 412 0), (.int 2 0), (.int 0 0), (.int 0 0), (.int 3 0), (.ref 731), (.bool true), (.int 181 0), (.ref 732), .none, (.ref 733), (.ref 734), (.ref 735), (.int 1236 0), (.int 412 0), (.str (S "/claim/cut.py") 1237)])), #[]⟩
noncomputable def o737 (p : Program) : Obj := ⟨(.type "function"), none, (.func (fdOf (sB p 52 1) (S "MinKey.__eq__") 3 [] .none .none .none (.str (S "bson.min_key") 1215) none (.ref 736) .none 0)), #[]⟩
noncomputable def o738 : Obj := ⟨(.type "tuple"), none, (.seq (#[]) 0), #[]⟩
noncomputable def o740 : Obj := ⟨(.type "tuple"), none, (.seq (#[(.str (S "self") 1242), (.str (S "other") 1243)]) 0), #[]⟩
noncomputable def o741 : Obj := ⟨(.type "tuple"), none, (.seq (#[]) 0), #[]⟩
noncomputable def o743 : Obj := ⟨(.type "code"), none, (.fields (#[(.str (S "__ne__") 1239), (.str (S "MinKey.__ne__") 1240), (.str (S "/claim/cut.py") 1241), (.int 415 0), (.int 2 0), (.int 0 0), (.int 0 0), (.int 3 0), (.ref 738), (.bool true), (.int 181 0), (.ref 739), .none, (.ref 740), (.ref 741), (.ref 742), (.int 1244 0), (.int 415 0), (.str (S "/claim/cut.py") 1245)])), #[]⟩
noncomputable def o744 (p : Program) : Obj := ⟨(.type "function"), none, (.func (fdOf (sB p 52 2) (S "MinKey.__ne__") 3 [] .none .none .none (.str (S "bson.min_key") 1215) none (.ref 743) .none 0)), #[]⟩
noncomputable def o745 : Obj := ⟨(.type "tuple"), none, (.seq (#[]) 0), #[]⟩
noncomputable def o747 : Obj := ⟨(.type "tuple"), none, (.seq (#[(.str (S "self") 1250), (.str (S "dummy") 1251)]) 0), #[]⟩
noncomputable def o748 : Obj := ⟨(.type "tuple"), none, (.seq (#[]) 0), #[]⟩
noncomputable def o750 : Obj := ⟨(.type "code"), none, (.fields (#[(.str (S "__le__") 1247), (.str (S "MinKey.__le__") 1248), (.str (S "/claim/cut.py") 1249), (.int 418 0), (.int 2 0), (.int 0 0), (.int 0 0), (.int 3 0), (.ref 745), (.bool true), (.int 181 0), (.ref 746), .none, (.ref 747), (.ref 748), (.ref 749), (.int 1252 0), (.int 418 0), (.str (S "/claim/cut.py") 1253)])), #[]⟩
noncomputable def o751 (p : Program) : Obj := ⟨(.type "function"), none, (.func (fdOf (sB p 52 3) (S "MinKey.__le__") 3 [] .none .none .none (.str (S "bson.min_key") 1215) none (.ref 750) .none 0)), #[]⟩
noncomputable def o752 : Obj := ⟨(.type "tuple"), none, (.seq (#[]) 0), #[]⟩
noncomputable def o754 : Obj := ⟨(.type "tuple"), none, (.seq (#[(.str (S "self") 1258), (.str (S "other") 1259)]) 0), #[]⟩
noncomputable def o755 : Obj := ⟨(.type "tuple"), none, (.seq (#[]) 0), #[]⟩
noncomputable def o757 : Obj := ⟨(.type "code"), none, (.fields (#[(.str (S "__lt__") 1255), (.str (S "MinKey.__lt__") 1256), (.str (S "/claim/cut.py") 1257), (.int 421 0), (.int 2 0), (.int 0 0), (.int 0 0), (.int 3 0), (.ref 752), (.bool true), (.int 181 0), (.ref 753), .none, (.ref 754), (.ref 755), (.ref 756), (.int 1260 0), (.int 421 0), (.str (S "/claim/cut.py") 1261)])), #[]⟩
noncomputable def o758 (p : Program) : Obj := ⟨(.type "function"), none, (.func (fdOf (sB p 52 4) (S "MinKey.__lt__") 3 [] .none .none .none (.str (S "bson.min_key") 1215) none (.ref 757) .none 0)), #[]⟩
noncomputable def o759 : Obj := ⟨(.type "tuple"), none, (.seq (#[]) 0), #[]⟩
noncomputable def o761 : Obj := ⟨(.type "tuple"), none, (.seq (#[(.str (S "self") 1266), (.str (S "other") 1267)]) 0), #[]⟩
noncomputable def o762 : Obj := ⟨(.type "tuple"), none, (.seq (#[]) 0), #[]⟩
noncomputable def o764 : Obj := ⟨(.type "code"), none, (.fields (#[(.str (S "__ge__") 1263), (.str (S "MinKey.__ge__") 1264), (.str (S "/claim/cut.py") 1265), (.int 424 0), (.int 2 0), (.int 0 0), (.int 0 0), (.int 3 0), (.ref 759), (.bool true), (.int 181 0), (.ref 760), .none, (.ref 761), (.ref 762), (.ref 763), (.int 1268 0), (.int 424 0), (.str (S "/claim/cut.py") 1269)])), #[]⟩
noncomputable def o765 (p : Program) : Obj := ⟨(.type "function"), none, (.func (fdOf (sB p 52 5) (S "MinKey.__ge__") 3 [] .none .none .none (.str (S "bson.min_key") 1215) none (.ref 764) .none 0)), #[]⟩
noncomputable def o766 : Obj := ⟨(.type "tuple"), none, (.seq (#[]) 0), #[]⟩
noncomputable def o768 : Obj := ⟨(.type "tuple"), none, (.seq (#[(.str (S "self") 1274), (.str (S "dummy") 1275)]) 0), #[]⟩
noncomputable def o769 : Obj := ⟨(.type "tuple"), none, (.seq (#[]) 0), #[]⟩
noncomputable def o771 : Obj := ⟨(.type "code"), none, (.fields (#[(.str (S "__gt__") 1271), (.str (S "MinKey.__gt__") 1272), (.str (S "/claim/cut.py") 1273), (.int 427 0), (.int 2 0), (.int 0 0), (.int 0 0), (.int 3 0), (.ref 766), (.bool true), (.int 181 0), (.ref 767), .none, (.ref 768), (.ref 769), (.ref 770), (.int 1276 0), (.int 427 0), (.str (S "/claim/cut.py") 1277)])), #[]⟩
noncomputable def o772 (p : Program) : Obj := ⟨(.type "function"), none, (.func (fdOf (sB p 52 6) (S "MinKey.__gt__") 3 [] .none .none .none (.str (S "bson.min_key") 1215) none (.ref 771) .none 0)), #[]⟩
noncomputable def o773 : Obj := ⟨(.type "tuple"), none, (.seq (#[]) 0), #[]⟩
noncomputable def o775 : Obj := ⟨(.type "tuple"), none, (.seq (#[(.str (S "self") 1282)]) 0), #[]⟩
noncomputable def o776 : Obj := ⟨(.type "tuple"), none, (.seq (#[]) 0), #[]⟩
noncomputable def o778 : Obj := ⟨(.type "code"), none, (.fields (#[(.str (S "__repr__") 1279), (.str (S "MinKey.__repr__") 1280), (.str (S "/claim/cut.py") 1281), (.int 430 0), (.int 1 0), (.int 0 0), (.int 0 0), (.int 3 0), (.ref 773), (.bool true), (.int 181 0), (.ref 774), .none, (.ref 775), (.ref 776), (.ref 777), (.int 1283 0), (.int 430 0), (.str (S "/claim/cut.py") 1284)])), #[]⟩
noncomputable def o779 (p : Program) : Obj := ⟨(.type "function"), none, (.func (fdOf (sB p 52 7) (S "MinKey.__repr__") 3 [] .none .none .none (.str (S "bson.min_key") 1215) none (.ref 778) .none 0)), #[]⟩
noncomputable def o780 : Obj := ⟨(.type "tuple"), none, (.seq (#[]) 0), #[]⟩
noncomputable def o781 (P : Params) : Obj := ⟨(.type "dict"), none, (.dict (#[dE P (S "__module__") 1224 (.str (S "bson.min_key") 1215), dE P (S "__firstlineno__") 1228 (.int 409 1227), dE P (S "_type_marker") 1230 (.int 255 1229), dE P (S "__eq__") 1238 (.ref 737), dE P (S "__ne__") 1246 (.ref 744), dE P (S "__le__") 1254 (.ref 751), dE P (S "__lt__") 1262 (.ref 758), dE P (S "__ge__") 1270 (.ref 765), dE P (S "__gt__") 1278 (.ref 772), dE P (S "__repr__") 1285 (.ref 779), dE P (S "__static_attributes__") 1286 (.ref 780), dE P (S "__dict__") 1288 (.ref 783), dE P (S "__weakref__") 1290 (.ref 784), dE P (S "__doc__") 1291 .none, dE P (S "__hash__") 1292 .none]) 5), #[]⟩
noncomputable def o782 : Obj := ⟨(.type "type"), none, (.cls ⟨(S "MinKey"), [(.type "object")], [(.ref 782), (.type "object")], 781, (S "MinKey"), true, [], [], false, none, false⟩), #[none, none, (some (.str (S "MinKey") 1217)), (some (.str (S "MinKey") 1225)), (some (.builtin "object.__new__")), (some (.bool true))]⟩
noncomputable def o783 : Obj := ⟨(.type "getset_descriptor"), none, (.fields (#[(.str (S "__dict__") 1287), (.ref 782), (.builtin "function.__dict__"), (.builtin "function.__dict__#set")])), #[]⟩
noncomputable def o784 : Obj := ⟨(.type "getset_descriptor"), none, (.fields (#[(.str (S "__weakref__") 1289), (.ref 782), (.builtin "ExceptionGroup.__weakref__"), .none])), #[]⟩
noncomputable def o787 : Obj := ⟨(.type "tuple"), none, (.seq (#[]) 0), #[]⟩
noncomputable def o789 : Obj := ⟨(.type "tuple"), none, (.seq (#[(.str (S "octets") 1302)]) 0), #[]⟩
noncomputable def o790 : Obj := ⟨(.type "tuple"), none, (.seq (#[]) 0), #[]⟩
noncomputable def o792 : Obj := ⟨(.type "code"), none, (.fields (#[(.str (S "_UNPACK_INT") 1299), (.str (S "_UNPACK_INT") 1300), (.str (S "/claim/cut.py") 1301), (.int 434 0), (.int 1 0), (.int 0 0), (.int 0 0), (.int 3 0), (.ref 787), (.bool true), (.int 181 0), (.ref 788), .none, (.ref 789), (.ref 790), (.ref 791), (.int 1303 0), (.int 434 0), (.str (S "/claim/cut.py") 1304)])), #[]⟩
noncomputable def o793 (p : Program) : Obj := ⟨(.type "function"), none, (.func (fdOf (sA p 55) (S "_UNPACK_INT") 3 [] .none .none .none (.str (S "bson.objectid") 1295) none (.ref 792) .none 0)), #[]⟩
noncomputable def o794 : Obj := ⟨(.type "tuple"), none, (.seq (#[]) 0), #[]⟩
noncomputable def o797 : Obj := ⟨(.type "code"), none, (.fields (#[(.str (S "_from_hex") 1306), (.str (S "_from_hex") 1307), (.str (S "/claim/cut.py") 1308), (.int 436 0), (.int 1 0), (.int 0 0), (.int 0 0), (.int 3 0), (.ref 794), (.bool true), (.int 181 0), (.ref 795), .none, .none, .none, (.ref 796), (.int 1309 0), (.int 436 0), (.str (S "/claim/cut.py") 1310)])), #[]⟩
noncomputable def o798 (p : Program) : Obj := ⟨(.type "function"), none, (.func (fdOf (sA p 56) (S "_from_hex") 3 [] .none .none .none (.str (S "bson.objectid") 1295) none (.ref 797) .none 0)), #[]⟩
noncomputable def o799 : Obj := ⟨(.type "tuple"), none, (.seq (#[]) 0), #[]⟩
noncomputable def o801 : Obj := ⟨(.type "tuple"), none, (.seq (#[(.str (S "oid") 1315)]) 0), #[]⟩
noncomputable def o802 : Obj := ⟨(.type "tuple"), none, (.seq (#[]) 0), #[]⟩
noncomputable def o804 : Obj := ⟨(.type "code"), none, (.fields (#[(.str (S "_raise_invalid_id") 1312), (.str (S "_raise_invalid_id") 1313), (.str (S "/claim/cut.py") 1314), (.int 443 0), (.int 1 0), (.int 0 0), (.int 0 0), (.int 3 0), (.ref 799), (.bool true), (.int 181 0), (.ref 800), .none, (.ref 801), (.ref 802), (.ref 803), (.int 1316 0), (.int 443 0), (.str (S "/claim/cut.py") 1317)])), #[]⟩
noncomputable def o805 (p : Program) : Obj := ⟨(.type "function"), none, (.func (fdOf (sA p 57) (S "_raise_invalid_id") 3 [] .none .none .none (.str (S "bson.objectid") 1295) none (.ref 804) .none 0)), #[]⟩
noncomputable def o813 : Obj := ⟨(.type "tuple"), none, (.seq (#[]) 0), #[]⟩
noncomputable def o815 : Obj := ⟨(.type "tuple"), none, (.seq (#[(.str (S "self") 1336), (.str (S "oid") 1337)]) 0), #[]⟩
noncomputable def o816 : Obj := ⟨(.type "tuple"), none, (.seq (#[]) 0), #[]⟩
noncomputable def o818 : Obj := ⟨(.type "code"), none, (.fields (#[(.str (S "__init__") 1333), (.str (S "ObjectId.__init__") 1334), (.str (S "/claim/cut.py") 1335), (.int 448 0), (.int 2 0), (.int 0 0), (.int 0 0), (.int 3 0), (.ref 813), (.bool true), (.int 181 0), (.ref 814), .none, (.ref 815), (.ref 816), (.ref 817), (.int 1338 0), (.int 448 0), (.str (S "/claim/cut.py") 1339)])), #[]⟩
noncomputable def o819 (p : Program) : Obj := ⟨(.type "function"), none, (.func (fdOf (sB p 58 1) (S "ObjectId.__init__") 3 [] .none .none .none (.str (S "bson.objectid") 1295) none (.ref 818) .none 0)), #[]⟩
noncomputable def o820 : Obj := ⟨(.type "tuple"), none, (.seq (#[]) 0), #[]⟩
noncomputable def o822 : Obj := ⟨(.type "tuple"), none, (.seq (#[(.str (S "cls") 1344), (.str (S "oid") 1345)]) 0), #[]⟩
noncomputable def o823 : Obj := ⟨(.type "tuple"), none, (.seq (#[]) 0), #[]⟩
noncomputable def o825 : Obj := ⟨(.type "code"), none, (.fields (#[(.str (S "is_valid") 1341), (.str (S "ObjectId.is_valid") 1342), (.str (S "/claim/cut.py") 1343), (.int 466 0), (.int 2 0), (.int 0 0), (.int 0 0), (.int 3 0), (.ref 820), (.bool true), (.int 181 0), (.ref 821), .none, (.ref 822), (.ref 823), (.ref 824), (.int 1346 0), (.int 466 0), (.str (S "/claim/cut.py") 1347)])), #[]⟩
noncomputable def o826 (p : Program) : Obj := ⟨(.type "function"), none, (.func (fdOf (sB p 58 2) (S "ObjectId.is_valid") 3 [] .none .none .none (.str (S "bson.objectid") 1295) (some 829) (.ref 825) .none 0)), #[]⟩
noncomputable def o827 (P : Params) : Obj := ⟨(.type "dict"), none, (.dict (#[dE P (S "__module__") 1349 (.str (S "bson.objectid") 1295), dE P (S "__name__") 1352 (.str (S "is_valid") 1351), dE P (S "__qualname__") 1355 (.str (S "ObjectId.is_valid") 1354), dE P (S "__doc__") 1357 .none, dE P (S "__annotations__") 1359 (.ref 829)]) 5), #[]⟩
noncomputable def o828 : Obj := ⟨(.type "classmethod"), (some 827), (.fields (#[(.ref 826), (.bool false)])), #[]⟩
noncomputable def o829 : Obj := ⟨(.type "dict"), none, (.dict (#[]) 0), #[]⟩
noncomputable def o830 : Obj := ⟨(.type "tuple"), none, (.seq (#[]) 0), #[]⟩
noncomputable def o832 : Obj := ⟨(.type "tuple"), none, (.seq (#[(.str (S "self") 1364)]) 0), #[]⟩
noncomputable def o833 : Obj := ⟨(.type "tuple"), none, (.seq (#[]) 0), #[]⟩
noncomputable def o835 : Obj := ⟨(.type "code"), none, (.fields (#[(.str (S "binary") 1361), (.str (S "ObjectId.binary") 1362), (.str (S "/claim/cut.py") 1363), (.int 476 0), (.int 1 0), (.int 0 0), (.int 0 0), (.int 3 0), (.ref 830), (.bool true), (.int 181 0), (.ref 831), .none, (.ref 832), (.ref 833), (.ref 834), (.int 1365 0), (.int 476 0), (.str (S "/claim/cut.py") 1366)])), #[]⟩
noncomputable def o836 (p : Program) : Obj := ⟨(.type "function"), none, (.func (fdOf (sB p 58 3) (S "ObjectId.binary") 3 [] .none .none .none (.str (S "bson.objectid") 1295) none (.ref 835) .none 0)), #[]⟩
noncomputable def o837 : Obj := ⟨(.type "property"), none, (.fields (#[(.ref 836), .none, .none, .none, (.str (S "binary") 1368), (.bool false)])), #[]⟩
noncomputable def o838 : Obj := ⟨(.type "tuple"), none, (.seq (#[]) 0), #[]⟩
noncomputable def o840 : Obj := ⟨(.type "tuple"), none, (.seq (#[(.str (S "self") 1372), (.str (S "timestamp") 1373)]) 0), #[]⟩
noncomputable def o841 : Obj := ⟨(.type "tuple"), none, (.seq (#[]) 0), #[]⟩
noncomputable def o843 : Obj := ⟨(.type "code"), none, (.fields (#[(.str (S "generation_time") 1369), (.str (S "ObjectId.generation_time") 1370), (.str (S "/claim/cut.py") 1371), (.int 480 0), (.int 1 0), (.int 0 0), (.int 0 0), (.int 3 0), (.ref 838), (.bool true), (.int 181 0), (.ref 839), .none, (.ref 840), (.ref 841), (.ref 842), (.int 1374 0), (.int 480 0), (.str (S "/claim/cut.py") 1375)])), #[]⟩
noncomputable def o844 (p : Program) : Obj := ⟨(.type "function"), none, (.func (fdOf (sB p 58 4) (S "ObjectId.generation_time") 3 [] .none .none .none (.str (S "bson.objectid") 1295) none (.ref 843) .none 0)), #[]⟩
noncomputable def o845 : Obj := ⟨(.type "property"), none, (.fields (#[(.ref 844), .none, .none, .none, (.str (S "generation_time") 1377), (.bool false)])), #[]⟩
noncomputable def o846 : Obj := ⟨(.type "tuple"), none, (.seq (#[]) 0), #[]⟩
noncomputable def o849 : Obj := ⟨(.type "code"), none, (.fields (#[(.str (S "__str__") 1378), (.str (S "ObjectId.__str__") 1379), (.str (S "/claim/cut.py") 1380), (.int 485 0), (.int 1 0), (.int 0 0), (.int 0 0), (.int 3 0), (.ref 846), (.bool true), (.int 181 0), (.ref 847), .none, .none, .none, (.ref 848), (.int 1381 0), (.int 485 0), (.str (S "/claim/cut.py") 1382)])), #[]⟩
noncomputable def o850 (p : Program) : Obj := ⟨(.type "function"), none, (.func (fdOf (sB p 58 5) (S "ObjectId.__str__") 3 [] .none .none .none (.str (S "bson.objectid") 1295) none (.ref 849) .none 0)), #[]⟩
noncomputable def o851 : Obj := ⟨(.type "tuple"), none, (.seq (#[]) 0), #[]⟩
noncomputable def o853 : Obj := ⟨(.type "tuple"), none, (.seq (#[(.str (S "self") 1387)]) 0), #[]⟩
noncomputable def o854 : Obj := ⟨(.type "tuple"), none, (.seq (#[]) 0), #[]⟩
noncomputable def o856 : Obj := ⟨(.type "code"), none, (.fields (#[(.str (S "__repr__") 1384), (.str (S "ObjectId.__repr__") 1385), (.str (S "/claim/cut.py") 1386), (.int 488 0), (.int 1 0), (.int 0 0), (.int 0 0), (.int 3 0), (.ref 851), (.bool true), (.int 181 0), (.ref 852), .none, (.ref 853), (.ref 854), (.ref 855), (.int 1388 0), (.int 488 0), (.str (S "/claim/cut.py") 1389)])), #[]⟩
noncomputable def o857 (p : Program) : Obj := ⟨(.type "function"), none, (.func (fdOf (sB p 58 6) (S "ObjectId.__repr__") 3 [] .none .none .none (.str (S "bson.objectid") 1295) none (.ref 856) .none 0)), #[]⟩
noncomputable def o858 : Obj := ⟨(.type "tuple"), none, (.seq (#[]) 0), #[]⟩
noncomputable def o860 : Obj := ⟨(.type "tuple"), none, (.seq (#[(.str (S "self") 1394), (.str (S "other") 1395)]) 0), #[]⟩
noncomputable def o861 : Obj := ⟨(.type "tuple"), none, (.seq (#[]) 0), #[]⟩
noncomputable def o863 : Obj := ⟨(.type "code"), none, (.fields (#[(.str (S "__eq__") 1391), (.str (S "ObjectId.__eq__") 1392), (.str (S "/claim/cut.py") 1393), (.int 491 0), (.int 2 0), (.int 0 0), (.int 0 0), (.int 3 0), (.ref 858), (.bool true), (.int 181 0), (.ref 859), .none, (.ref 860), (.ref 861), (.ref 862), (.int 1396 0), (.int 491 0), (.str (S "/claim/cut.py") 1397)])), #[]⟩
noncomputable def o864 (p : Program) : Obj := ⟨(.type "function"), none, (.func (fdOf (sB p 58 7) (S "ObjectId.__eq__") 3 [] .none .none .none (.str (S "bson.objectid") 1295) none (.ref 863) .none 0)), #[]⟩
noncomputable def o865 : Obj := ⟨(.type "tuple"), none, (.seq (#[]) 0), #[]⟩
noncomputable def o867 : Obj := ⟨(.type "tuple"), none, (.seq (#[(.str (S "self") 1402), (.str (S "other") 1403)]) 0), #[]⟩
noncomputable def o868 : Obj := ⟨(.type "tuple"), none, (.seq (#[]) 0), #[]⟩
noncomputable def o870 : Obj := ⟨(.type "code"), none, (.fields (#[(.str (S "__ne__") 1399), (.str (S "ObjectId.__ne__") 1400), (.str (S "/claim/cut.py") 1401), (.int 496 0), (.int 2 0), (.int 0 0), (.int 0 0), (.int 3 0), (.ref 865), (.bool true), (.int 181 0), (.ref 866), .none, (.ref 867), (.ref 868), (.ref 869), (.int 1404 0), (.int 496 0), (.str (S "/claim/cut.py") 1405)])), #[]⟩
noncomputable def o871 (p : Program) : Obj := ⟨(.type "function"), none, (.func (fdOf (sB p 58 8) (S "ObjectId.__ne__") 3 [] .none .none .none (.str (S "bson.objectid") 1295) none (.ref 870) .none 0)), #[]⟩
noncomputable def o872 : Obj := ⟨(.type "tuple"), none, (.seq (#[]) 0), #[]⟩
noncomputable def o874 : Obj := ⟨(.type "tuple"), none, (.seq (#[(.str (S "self") 1410), (.str (S "other") 1411)]) 0), #[]⟩
noncomputable def o875 : Obj := ⟨(.type "tuple"), none, (.seq (#[]) 0), #[]⟩
noncomputable def o877 : Obj := ⟨(.type "code"), none, (.fields (#[(.str (S "__lt__") 1407), (.str (S "ObjectId.__lt__") 1408), (.str (S "/claim/cut.py") 1409), (.int 501 0), (.int 2 0), (.int 0 0), (.int 0 0), (.int 3 0), (.ref 872), (.bool true), (.int 181 0), (.ref 873), .none, (.ref 874), (.ref 875), (.ref 876), (.int 1412 0), (.int 501 0), (.str (S "/claim/cut.py") 1413)])), #[]⟩
noncomputable def o878 (p : Program) : Obj := ⟨(.type "function"), none, (.func (fdOf (sB p 58 9) (S "ObjectId.__lt__") 3 [] .none .none .none (.str (S "bson.objectid") 1295) none (.ref 877) .none 0)), #[]⟩
noncomputable def o879 : Obj := ⟨(.type "tuple"), none, (.seq (#[]) 0), #[]⟩
noncomputable def o881 : Obj := ⟨(.type "tuple"), none, (.seq (#[(.str (S "self") 1418), (.str (S "other") 1419)]) 0), #[]⟩
noncomputable def o882 : Obj := ⟨(.type "tuple"), none, (.seq (#[]) 0), #[]⟩
noncomputable def o884 : Obj := ⟨(.type "code"), none, (.fields (#[(.str (S "__le__") 1415), (.str (S "ObjectId.__le__") 1416), (.str (S "/claim/cut.py") 1417), (.int 506 0), (.int 2 0), (.int 0 0), (.int 0 0), (.int 3 0), (.ref 879), (.bool true), (.int 181 0), (.ref 880), .none, (.ref 881), (.ref 882), (.ref 883), (.int 1420 0), (.int 506 0), (.str (S "/claim/cut.py") 1421)])), #[]⟩
noncomputable def o885 (p : Program) : Obj := ⟨(.type "function"), none, (.func (fdOf (sB p 58 10) (S "ObjectId.__le__") 3 [] .none .none .none (.str (S "bson.objectid") 1295) none (.ref 884) .none 0)), #[]⟩
noncomputable def o886 : Obj := ⟨(.type "tuple"), none, (.seq (#[]) 0), #[]⟩
noncomputable def o888 : Obj := ⟨(.type "tuple"), none, (.seq (#[(.str (S "self") 1426), (.str (S "other") 1427)]) 0), #[]⟩
noncomputable def o889 : Obj := ⟨(.type "tuple"), none, (.seq (#[]) 0), #[]⟩
noncomputable def o891 : Obj := ⟨(.type "code"), none, (.fields (#[(.str (S "__gt__") 1423), (.str (S "ObjectId.__gt__") 1424), (.str (S "/claim/cut.py") 1425), (.int 511 0), (.int 2 0), (.int 0 0), (.int 0 0), (.int 3 0), (.ref 886), (.bool true), (.int 181 0), (.ref 887), .none, (.ref 888), (.ref 889), (.ref 890), (.int 1428 0), (.int 511 0), (.str (S "/claim/cut.py") 1429)])), #[]⟩
noncomputable def o892 (p : Program) : Obj := ⟨(.type "function"), none, (.func (fdOf (sB p 58 11) (S "ObjectId.__gt__") 3 [] .none .none .none (.str (S "bson.objectid") 1295) none (.ref 891) .none 0)), #[]⟩
noncomputable def o893 : Obj := ⟨(.type "tuple"), none, (.seq (#[]) 0), #[]⟩
noncomputable def o895 : Obj := ⟨(.type "tuple"), none, (.seq (#[(.str (S "self") 1434), (.str (S "other") 1435)]) 0), #[]⟩
noncomputable def o896 : Obj := ⟨(.type "tuple"), none, (.seq (#[]) 0), #[]⟩
noncomputable def o898 : Obj := ⟨(.type "code"), none, (.fields (#[(.str (S "__ge__") 1431), (.str (S "ObjectId.__ge__") 1432), (.str (S "/claim/cut.py") 1433), (.int 516 0), (.int 2 0), (.int 0 0), (.int 0 0), (.int 3 0), (.ref 893), (.bool true), (.int 181 0), (.ref 894), .none, (.ref 895), (.ref 896), (.ref 897), (.int 1436 0), (.int 516 0), (.str (S "/claim/cut.py") 1437)])), #[]⟩
noncomputable def o899 (p : Program) : Obj := ⟨(.type "function"), none, (.func (fdOf (sB p 58 12) (S "ObjectId.__ge__") 3 [] .none .none .none (.str (S "bson.objectid") 1295) none (.ref 898) .none 0)), #[]⟩
noncomputable def o900 : Obj := ⟨(.type "tuple"), none, (.seq (#[(.str (S "_id") 1439)]) 0), #[]⟩
noncomputable def o901 (P : Params) : Obj := ⟨(.type "dict"), none, (.dict (#[dE P (S "__module__") 1326 (.str (S "bson.objectid") 1295), dE P (S "__firstlineno__") 1330 (.int 445 1329), dE P (S "_type_marker") 1332 (.int 7 1331), dE P (S "__init__") 1340 (.ref 819), dE P (S "is_valid") 1360 (.ref 828), dE P (S "binary") 1368 (.ref 837), dE P (S "generation_time") 1377 (.ref 845), dE P (S "__str__") 1383 (.ref 850), dE P (S "__repr__") 1390 (.ref 857), dE P (S "__eq__") 1398 (.ref 864), dE P (S "__ne__") 1406 (.ref 871), dE P (S "__lt__") 1414 (.ref 878), dE P (S "__le__") 1422 (.ref 885), dE P (S "__gt__") 1430 (.ref 892), dE P (S "__ge__") 1438 (.ref 899), dE P (S "__static_attributes__") 1440 (.ref 900), dE P (S "__dict__") 1442 (.ref 903), dE P (S "__weakref__") 1444 (.ref 904), dE P (S "__doc__") 1445 .none, dE P (S "__hash__") 1446 .none]) 5), #[]⟩
noncomputable def o902 : Obj := ⟨(.type "type"), none, (.cls ⟨(S "ObjectId"), [(.type "object")], [(.ref 902), (.type "object")], 901, (S "ObjectId"), true, [], [], false, none, false⟩), #[none, none, (some (.str (S "ObjectId") 1319)), (some (.str (S "ObjectId") 1327)), (some (.builtin "object.__new__")), (some (.bool true))]⟩
noncomputable def o903 : Obj := ⟨(.type "getset_descriptor"), none, (.fields (#[(.str (S "__dict__") 1441), (.ref 902), (.builtin "function.__dict__"), (.builtin "function.__dict__#set")])), #[]⟩
noncomputable def o904 : Obj := ⟨(.type "getset_descriptor"), none, (.fields (#[(.str (S "__weakref__") 1443), (.ref 902), (.builtin "ExceptionGroup.__weakref__"), .none])), #[]⟩
noncomputable def o907 : Obj := ⟨(.type "tuple"), none, (.seq (#[]) 0), #[]⟩
noncomputable def o909 : Obj := ⟨(.type "tuple"), none, (.seq (#[(.str (S "str_flags") 1466), (.str (S "flags") 1467)]) 0), #[]⟩
noncomputable def o910 : Obj := ⟨(.type "tuple"), none, (.seq (#[]) 0), #[]⟩
noncomputable def o912 : Obj := ⟨(.type "code"), none, (.fields (#[(.str (S "str_flags_to_int") 1463), (.str (S "str_flags_to_int") 1464), (.str (S "/claim/cut.py") 1465), (.int 527 0), (.int 1 0), (.int 0 0), (.int 0 0), (.int 3 0), (.ref 907), (.bool true), (.int 181 0), (.ref 908), .none, (.ref 909), (.ref 910), (.ref 911), (.int 1468 0), (.int 527 0), (.str (S "/claim/cut.py") 1469)])), #[]⟩
noncomputable def o913 (p : Program) : Obj := ⟨(.type "function"), none, (.func (fdOf (sA p 66) (S "str_flags_to_int") 3 [] .none .none .none (.str (S "bson.regex") 1449) none (.ref 912) .none 0)), #[]⟩
noncomputable def o921 : Obj := ⟨(.type "tuple"), none, (.seq (#[(.int 0 1485)]) 0), #[]⟩
noncomputable def o922 : Obj := ⟨(.type "tuple"), none, (.seq (#[]) 0), #[]⟩
noncomputable def o924 : Obj := ⟨(.type "tuple"), none, (.seq (#[(.str (S "self") 1489), (.str (S "pattern") 1490), (.str (S "flags") 1491)]) 0), #[]⟩
noncomputable def o925 : Obj := ⟨(.type "tuple"), none, (.seq (#[]) 0), #[]⟩
noncomputable def o927 : Obj := ⟨(.type "code"), none, (.fields (#[(.str (S "__init__") 1486), (.str (S "Regex.__init__") 1487), (.str (S "/claim/cut.py") 1488), (.int 545 0), (.int 3 0), (.int 0 0), (.int 0 0), (.int 3 0), (.ref 922), (.bool true), (.int 181 0), (.ref 923), .none, (.ref 924), (.ref 925), (.ref 926), (.int 1492 0), (.int 545 0), (.str (S "/claim/cut.py") 1493)])), #[]⟩
noncomputable def o928 (p : Program) : Obj := ⟨(.type "function"), none, (.func (fdOf (sB p 67 1) (S "Regex.__init__") 3 [] (.ref 921) .none .none (.str (S "bson.regex") 1449) none (.ref 927) .none 0)), #[]⟩
noncomputable def o929 : Obj := ⟨(.type "tuple"), none, (.seq (#[]) 0), #[]⟩
noncomputable def o931 : Obj := ⟨(.type "tuple"), none, (.seq (#[(.str (S "self") 1498), (.str (S "other") 1499)]) 0), #[]⟩
noncomputable def o932 : Obj := ⟨(.type "tuple"), none, (.seq (#[]) 0), #[]⟩
noncomputable def o934 : Obj := ⟨(.type "code"), none, (.fields (#[(.str (S "__eq__") 1495), (.str (S "Regex.__eq__") 1496), (.str (S "/claim/cut.py") 1497), (.int 556 0), (.int 2 0), (.int 0 0), (.int 0 0), (.int 3 0), (.ref 929), (.bool true), (.int 181 0), (.ref 930), .none, (.ref 931), (.ref 932), (.ref 933), (.int 1500 0), (.int 556 0), (.str (S "/claim/cut.py") 1501)])), #[]⟩
noncomputable def o935 (p : Program) : Obj := ⟨(.type "function"), none, (.func (fdOf (sB p 67 2) (S "Regex.__eq__") 3 [] .none .none .none (.str (S "bson.regex") 1449) none (.ref 934) .none 0)), #[]⟩
noncomputable def o936 : Obj := ⟨(.type "tuple"), none, (.seq (#[]) 0), #[]⟩
noncomputable def o938 : Obj := ⟨(.type "tuple"), none, (.seq (#[(.str (S "self") 1506), (.str (S "other") 1507)]) 0), #[]⟩
noncomputable def o939 : Obj := ⟨(.type "tuple"), none, (.seq (#[]) 0), #[]⟩
noncomputable def o941 : Obj := ⟨(.type "code"), none, (.fields (#[(.str (S "__ne__") 1503), (.str (S "Regex.__ne__") 1504), (.str (S "/claim/cut.py") 1505), (.int 562 0), (.int 2 0), (.int 0 0), (.int 0 0), (.int 3 0), (.ref 936), (.bool true), (.int 181 0), (.ref 937), .none, (.ref 938), (.ref 939), (.ref 940), (.int 1508 0), (.int 562 0), (.str (S "/claim/cut.py") 1509)])), #[]⟩
noncomputable def o942 (p : Program) : Obj := ⟨(.type "function"), none, (.func (fdOf (sB p 67 3) (S "Regex.__ne__") 3 [] .none .none .none (.str (S "bson.regex") 1449) none (.ref 941) .none 0)), #[]⟩
noncomputable def o943 : Obj := ⟨(.type "tuple"), none, (.seq (#[(.str (S "flags") 1511), (.str (S "pattern") 1512)]) 0), #[]⟩
noncomputable def o944 (P : Params) : Obj := ⟨(.type "dict"), none, (.dict (#[dE P (S "__module__") 1478 (.str (S "bson.regex") 1449), dE P (S "__firstlineno__") 1482 (.int 542 1481), dE P (S "_type_marker") 1484 (.int 11 1483), dE P (S "__init__") 1494 (.ref 928), dE P (S "__eq__") 1502 (.ref 935), dE P (S "__ne__") 1510 (.ref 942), dE P (S "__static_attributes__") 1513 (.ref 943), dE P (S "__dict__") 1515 (.ref 946), dE P (S "__weakref__") 1517 (.ref 947), dE P (S "__doc__") 1518 .none, dE P (S "__hash__") 1519 .none]) 5), #[]⟩
noncomputable def o945 : Obj := ⟨(.type "type"), none, (.cls ⟨(S "Regex"), [(.type "object")], [(.ref 945), (.type "object")], 944, (S "Regex"), true, [], [], false, none, false⟩), #[none, none, (some (.str (S "Regex") 1471)), (some (.str (S "Regex") 1479)), (some (.builtin "object.__new__")), (some (.bool true))]⟩
noncomputable def o946 : Obj := ⟨(.type "getset_descriptor"), none, (.fields (#[(.str (S "__dict__") 1514), (.ref 945), (.builtin "function.__dict__"), (.builtin "function.__dict__#set")])), #[]⟩
noncomputable def o947 : Obj := ⟨(.type "getset_descriptor"), none, (.fields (#[(.str (S "__weakref__") 1516), (.ref 945), (.builtin "ExceptionGroup.__weakref__"), .none])), #[]⟩
noncomputable def o957 : Obj := ⟨(.type "tuple"), none, (.seq (#[]) 0), #[]⟩
noncomputable def o959 : Obj := ⟨(.type "tuple"), none, (.seq (#[(.str (S "self") 1543), (.str (S "time") 1544), (.str (S "inc") 1545)]) 0), #[]⟩
noncomputable def o960 : Obj := ⟨(.type "tuple"), none, (.seq (#[]) 0), #[]⟩
noncomputable def o962 : Obj := ⟨(.type "code"), none, (.fields (#[(.str (S "__init__") 1540), (.str (S "Timestamp.__init__") 1541), (.str (S "/claim/cut.py") 1542), (.int 569 0), (.int 3 0), (.int 0 0), (.int 0 0), (.int 3 0), (.ref 957), (.bool true), (.int 181 0), (.ref 958), .none, (.ref 959), (.ref 960), (.ref 961), (.int 1546 0), (.int 569 0), (.str (S "/claim/cut.py") 1547)])), #[]⟩
noncomputable def o963 (p : Program) : Obj := ⟨(.type "function"), none, (.func (fdOf (sB p 70 1) (S "Timestamp.__init__") 3 [] .none .none .none (.str (S "bson.timestamp") 1522) none (.ref 962) .none 0)), #[]⟩
noncomputable def o964 : Obj := ⟨(.type "tuple"), none, (.seq (#[]) 0), #[]⟩
noncomputable def o966 : Obj := ⟨(.type "tuple"), none, (.seq (#[(.str (S "self") 1552)]) 0), #[]⟩
noncomputable def o967 : Obj := ⟨(.type "tuple"), none, (.seq (#[]) 0), #[]⟩
noncomputable def o969 : Obj := ⟨(.type "code"), none, (.fields (#[(.str (S "time") 1549), (.str (S "Timestamp.time") 1550), (.str (S "/claim/cut.py") 1551), (.int 581 0), (.int 1 0), (.int 0 0), (.int 0 0), (.int 3 0), (.ref 964), (.bool true), (.int 181 0), (.ref 965), .none, (.ref 966), (.ref 967), (.ref 968), (.int 1553 0), (.int 581 0), (.str (S "/claim/cut.py") 1554)])), #[]⟩
noncomputable def o970 (p : Program) : Obj := ⟨(.type "function"), none, (.func (fdOf (sB p 70 2) (S "Timestamp.time") 3 [] .none .none .none (.str (S "bson.timestamp") 1522) none (.ref 969) .none 0)), #[]⟩
noncomputable def o971 : Obj := ⟨(.type "property"), none, (.fields (#[(.ref 970), .none, .none, .none, (.str (S "time") 1556), (.bool false)])), #[]⟩
noncomputable def o972 : Obj := ⟨(.type "tuple"), none, (.seq (#[]) 0), #[]⟩
noncomputable def o974 : Obj := ⟨(.type "tuple"), none, (.seq (#[(.str (S "self") 1560)]) 0), #[]⟩
noncomputable def o975 : Obj := ⟨(.type "tuple"), none, (.seq (#[]) 0), #[]⟩
noncomputable def o977 : Obj := ⟨(.type "code"), none, (.fields (#[(.str (S "inc") 1557), (.str (S "Timestamp.inc") 1558), (.str (S "/claim/cut.py") 1559), (.int 585 0), (.int 1 0), (.int 0 0), (.int 0 0), (.int 3 0), (.ref 972), (.bool true), (.int 181 0), (.ref 973), .none, (.ref 974), (.ref 975), (.ref 976), (.int 1561 0), (.int 585 0), (.str (S "/claim/cut.py") 1562)])), #[]⟩
noncomputable def o978 (p : Program) : Obj := ⟨(.type "function"), none, (.func (fdOf (sB p 70 3) (S "Timestamp.inc") 3 [] .none .none .none (.str (S "bson.timestamp") 1522) none (.ref 977) .none 0)), #[]⟩
noncomputable def o979 : Obj := ⟨(.type "property"), none, (.fields (#[(.ref 978), .none, .none, .none, (.str (S "inc") 1564), (.bool false)])), #[]⟩
noncomputable def o980 : Obj := ⟨(.type "tuple"), none, (.seq (#[]) 0), #[]⟩
noncomputable def o982 : Obj := ⟨(.type "tuple"), none, (.seq (#[(.str (S "self") 1568), (.str (S "other") 1569)]) 0), #[]⟩
noncomputable def o983 : Obj := ⟨(.type "tuple"), none, (.seq (#[]) 0), #[]⟩
noncomputable def o985 : Obj := ⟨(.type "code"), none, (.fields (#[(.str (S "__eq__") 1565), (.str (S "Timestamp.__eq__") 1566), (.str (S "/claim/cut.py") 1567), (.int 589 0), (.int 2 0), (.int 0 0), (.int 0 0), (.int 3 0), (.ref 980), (.bool true), (.int 181 0), (.ref 981), .none, (.ref 982), (.ref 983), (.ref 984), (.int 1570 0), (.int 589 0), (.str (S "/claim/cut.py") 1571)])), #[]⟩
noncomputable def o986 (p : Program) : Obj := ⟨(.type "function"), none, (.func (fdOf (sB p 70 4) (S "Timestamp.__eq__") 3 [] .none .none .none (.str (S "bson.timestamp") 1522) none (.ref 985) .none 0)), #[]⟩
noncomputable def o987 : Obj := ⟨(.type "tuple"), none, (.seq (#[]) 0), #[]⟩
noncomputable def o989 : Obj := ⟨(.type "tuple"), none, (.seq (#[(.str (S "self") 1576), (.str (S "other") 1577)]) 0), #[]⟩
noncomputable def o990 : Obj := ⟨(.type "tuple"), none, (.seq (#[]) 0), #[]⟩
noncomputable def o992 : Obj := ⟨(.type "code"), none, (.fields (#[(.str (S "__ne__") 1573), (.str (S "Timestamp.__ne__") 1574), (.str (S "/claim/cut.py") 1575), (.int 595 0), (.int 2 0), (.int 0 0), (.int 0 0), (.int 3 0), (.ref 987), (.bool true), (.int 181 0), (.ref 988), .none, (.ref 989), (.ref 990), (.ref 991), (.int 1578 0), (.int 595 0), (.str (S "/claim/cut.py") 1579)])), #[]⟩
noncomputable def o993 (p : Program) : Obj := ⟨(.type "function"), none, (.func (fdOf (sB p 70 5) (S "Timestamp.__ne__") 3 [] .none .none .none (.str (S "bson.timestamp") 1522) none (.ref 992) .none 0)), #[]⟩
noncomputable def o994 : Obj := ⟨(.type "tuple"), none, (.seq (#[]) 0), #[]⟩
noncomputable def o996 : Obj := ⟨(.type "tuple"), none, (.seq (#[(.str (S "self") 1584), (.str (S "other") 1585)]) 0), #[]⟩
noncomputable def o997 : Obj := ⟨(.type "tuple"), none, (.seq (#[]) 0), #[]⟩
noncomputable def o999 : Obj := ⟨(.type "code"), none, (.fields (#[(.str (S "__lt__") 1581), (.str (S "Timestamp.__lt__") 1582), (.str (S "/claim/cut.py") 1583), (.int 598 0), (.int 2 0), (.int 0 0), (.int 0 0), (.int 3 0), (.ref 994), (.bool true), (.int 181 0), (.ref 995), .none, (.ref 996), (.ref 997), (.ref 998), (.int 1586 0), (.int 598 0), (.str (S "/claim/cut.py") 1587)])), #[]⟩
noncomputable def o1000 (p : Program) : Obj := ⟨(.type "function"), none, (.func (fdOf (sB p 70 6) (S "Timestamp.__lt__") 3 [] .none .none .none (.str (S "bson.timestamp") 1522) none (.ref 999) .none 0)), #[]⟩
noncomputable def o1001 : Obj := ⟨(.type "tuple"), none, (.seq (#[]) 0), #[]⟩
noncomputable def o1003 : Obj := ⟨(.type "tuple"), none, (.seq (#[(.str (S "self") 1592), (.str (S "other") 1593)]) 0), #[]⟩
noncomputable def o1004 : Obj := ⟨(.type "tuple"), none, (.seq (#[]) 0), #[]⟩
noncomputable def o1006 : Obj := ⟨(.type "code"), none, (.fields (#[(.str (S "__le__") 1589), (.str (S "Timestamp.__le__") 1590), (.str (S "/claim/cut.py") 1591), (.int 603 0), (.int 2 0), (.int 0 0), (.int 0 0), (.int 3 0), (.ref 1001), (.bool true), (.int 181 0), (.ref 1002), .none, (.ref 1003), (.ref 1004), (.ref 1005), (.int 1594 0), (.int 603 0), (.str (S "/claim/cut.py") 1595)])), #[]⟩
noncomputable def o1007 (p : Program) : Obj := ⟨(.type "function"), none, (.func (fdOf (sB p 70 7) (S "Timestamp.__le__") 3 [] .none .none .none (.str (S "bson.timestamp") 1522) none (.ref 1006) .none 0)), #[]⟩
noncomputable def o1008 : Obj := ⟨(.type "tuple"), none, (.seq (#[]) 0), #[]⟩
noncomputable def o1010 : Obj := ⟨(.type "tuple"), none, (.seq (#[(.str (S "self") 1600), (.str (S "other") 1601)]) 0), #[]⟩
noncomputable def o1011 : Obj := ⟨(.type "tuple"), none, (.seq (#[]) 0), #[]⟩
noncomputable def o1013 : Obj := ⟨(.type "code"), none, (.fields (#[(.str (S "__gt__") 1597), (.str (S "Timestamp.__gt__") 1598), (.str (S "/claim/cut.py") 1599), (.int 608 0), (.int 2 0), (.int 0 0), (.int 0 0), (.int 3 0), (.ref 1008), (.bool true), (.int 181 0), (.ref 1009), .none, (.ref 1010), (.ref 1011), (.ref 1012), (.int 1602 0), (.int 608 0), (.str (S "/claim/cut.py") 1603)])), #[]⟩
noncomputable def o1014 (p : Program) : Obj := ⟨(.type "function"), none, (.func (fdOf (sB p 70 8) (S "Timestamp.__gt__") 3 [] .none .none .none (.str (S "bson.timestamp") 1522) none (.ref 1013) .none 0)), #[]⟩
noncomputable def o1015 : Obj := ⟨(.type "tuple"), none, (.seq (#[]) 0), #[]⟩
noncomputable def o1017 : Obj := ⟨(.type "tuple"), none, (.seq (#[(.str (S "self") 1608), (.str (S "other") 1609)]) 0), #[]⟩
noncomputable def o1018 : Obj := ⟨(.type "tuple"), none, (.seq (#[]) 0), #[]⟩
noncomputable def o1020 : Obj := ⟨(.type "code"), none, (.fields (#[(.str (S "__ge__") 1605), (.str (S "Timestamp.__ge__") 1606), (.str (S "/claim/cut.py") 1607), (.int 613 0), (.int 2 0), (.int 0 0), (.int 0 0), (.int 3 0), (.ref 1015), (.bool true), (.int 181 0), (.ref 1016), .none, (.ref 1017), (.ref 1018), (.ref 1019), (.int 1610 0), (.int 613 0), (.str (S "/claim/cut.py") 1611)])), #[]⟩
noncomputable def o1021 (p : Program) : Obj := ⟨(.type "function"), none, (.func (fdOf (sB p 70 9) (S "Timestamp.__ge__") 3 [] .none .none .none (.str (S "bson.timestamp") 1522) none (.ref 1020) .none 0)), #[]⟩
noncomputable def o1022 : Obj := ⟨(.type "tuple"), none, (.seq (#[(.str (S "_inc") 1613), (.str (S "_time") 1614)]) 0), #[]⟩
noncomputable def o1023 (P : Params) : Obj := ⟨(.type "dict"), none, (.dict (#[dE P (S "__module__") 1533 (.str (S "bson.timestamp") 1522), dE P (S "__firstlineno__") 1537 (.int 566 1536), dE P (S "_type_marker") 1539 (.int 17 1538), dE P (S "__init__") 1548 (.ref 963), dE P (S "time") 1556 (.ref 971), dE P (S "inc") 1564 (.ref 979), dE P (S "__eq__") 1572 (.ref 986), dE P (S "__ne__") 1580 (.ref 993), dE P (S "__lt__") 1588 (.ref 1000), dE P (S "__le__") 1596 (.ref 1007), dE P (S "__gt__") 1604 (.ref 1014), dE P (S "__ge__") 1612 (.ref 1021), dE P (S "__static_attributes__") 1615 (.ref 1022), dE P (S "__dict__") 1617 (.ref 1025), dE P (S "__weakref__") 1619 (.ref 1026), dE P (S "__doc__") 1620 .none, dE P (S "__hash__") 1621 .none]) 5), #[]⟩
noncomputable def o1024 : Obj := ⟨(.type "type"), none, (.cls ⟨(S "Timestamp"), [(.type "object")], [(.ref 1024), (.type "object")], 1023, (S "Timestamp"), true, [], [], false, none, false⟩), #[none, none, (some (.str (S "Timestamp") 1526)), (some (.str (S "Timestamp") 1534)), (some (.builtin "object.__new__")), (some (.bool true))]⟩
noncomputable def o1025 : Obj := ⟨(.type "getset_descriptor"), none, (.fields (#[(.str (S "__dict__") 1616), (.ref 1024), (.builtin "function.__dict__"), (.builtin "function.__dict__#set")])), #[]⟩
noncomputable def o1026 : Obj := ⟨(.type "getset_descriptor"), none, (.fields (#[(.str (S "__weakref__") 1618), (.ref 1024), (.builtin "ExceptionGroup.__weakref__"), .none])), #[]⟩
noncomputable def o1029 : Obj := ⟨(.type "tuple"), none, (.seq (#[]) 0), #[]⟩
noncomputable def o1031 : Obj := ⟨(.type "tuple"), none, (.seq (#[(.str (S "data") 1629), (.str (S "position") 1630), (.str (S "size") 1631), (.str (S "signed") 1632)]) 0), #[]⟩
noncomputable def o1032 : Obj := ⟨(.type "tuple"), none, (.seq (#[]) 0), #[]⟩
noncomputable def o1034 : Obj := ⟨(.type "code"), none, (.fields (#[(.str (S "_unpack") 1626), (.str (S "_unpack") 1627), (.str (S "/claim/cut.py") 1628), (.int 618 0), (.int 4 0), (.int 0 0), (.int 0 0), (.int 3 0), (.ref 1029), (.bool true), (.int 181 0), (.ref 1030), .none, (.ref 1031), (.ref 1032), (.ref 1033), (.int 1633 0), (.int 618 0), (.str (S "/claim/cut.py") 1634)])), #[]⟩
noncomputable def o1035 (p : Program) : Obj := ⟨(.type "function"), none, (.func (fdOf (sA p 72) (S "_unpack") 3 [] .none .none .none (.str (S "bson") 1624) none (.ref 1034) .none 0)), #[]⟩
noncomputable def o1036 : Obj := ⟨(.type "tuple"), none, (.seq (#[]) 0), #[]⟩
noncomputable def o1038 : Obj := ⟨(.type "tuple"), none, (.seq (#[(.str (S "data") 1639), (.str (S "position") 1640)]) 0), #[]⟩
noncomputable def o1039 : Obj := ⟨(.type "tuple"), none, (.seq (#[]) 0), #[]⟩
noncomputable def o1041 : Obj := ⟨(.type "code"), none, (.fields (#[(.str (S "_UNPACK_INT_FROM") 1636), (.str (S "_UNPACK_INT_FROM") 1637), (.str (S "/claim/cut.py") 1638), (.int 622 0), (.int 2 0), (.int 0 0), (.int 0 0), (.int 3 0), (.ref 1036), (.bool true), (.int 181 0), (.ref 1037), .none, (.ref 1038), (.ref 1039), (.ref 1040), (.int 1641 0), (.int 622 0), (.str (S "/claim/cut.py") 1642)])), #[]⟩
noncomputable def o1042 (p : Program) : Obj := ⟨(.type "function"), none, (.func (fdOf (sA p 73) (S "_UNPACK_INT_FROM") 3 [] .none .none .none (.str (S "bson") 1624) none (.ref 1041) .none 0)), #[]⟩
noncomputable def o1043 : Obj := ⟨(.type "tuple"), none, (.seq (#[]) 0), #[]⟩
noncomputable def o1045 : Obj := ⟨(.type "tuple"), none, (.seq (#[(.str (S "data") 1647), (.str (S "position") 1648)]) 0), #[]⟩
noncomputable def o1046 : Obj := ⟨(.type "tuple"), none, (.seq (#[]) 0), #[]⟩
noncomputable def o1048 : Obj := ⟨(.type "code"), none, (.fields (#[(.str (S "_UNPACK_LENGTH_SUBTYPE_FROM") 1644), (.str (S "_UNPACK_LENGTH_SUBTYPE_FROM") 1645), (.str (S "/claim/cut.py") 1646), (.int 624 0), (.int 2 0), (.int 0 0), (.int 0 0), (.int 3 0), (.ref 1043), (.bool true), (.int 181 0), (.ref 1044), .none, (.ref 1045), (.ref 1046), (.ref 1047), (.int 1649 0), (.int 624 0), (.str (S "/claim/cut.py") 1650)])), #[]⟩
noncomputable def o1049 (p : Program) : Obj := ⟨(.type "function"), none, (.func (fdOf (sA p 74) (S "_UNPACK_LENGTH_SUBTYPE_FROM") 3 [] .none .none .none (.str (S "bson") 1624) none (.ref 1048) .none 0)), #[]⟩
noncomputable def o1050 : Obj := ⟨(.type "tuple"), none, (.seq (#[]) 0), #[]⟩
noncomputable def o1052 : Obj := ⟨(.type "tuple"), none, (.seq (#[(.str (S "data") 1655), (.str (S "position") 1656)]) 0), #[]⟩
noncomputable def o1053 : Obj := ⟨(.type "tuple"), none, (.seq (#[]) 0), #[]⟩
noncomputable def o1055 : Obj := ⟨(.type "code"), none, (.fields (#[(.str (S "_UNPACK_LONG_FROM") 1652), (.str (S "_UNPACK_LONG_FROM") 1653), (.str (S "/claim/cut.py") 1654), (.int 628 0), (.int 2 0), (.int 0 0), (.int 0 0), (.int 3 0), (.ref 1050), (.bool true), (.int 181 0), (.ref 1051), .none, (.ref 1052), (.ref 1053), (.ref 1054), (.int 1657 0), (.int 628 0), (.str (S "/claim/cut.py") 1658)])), #[]⟩
noncomputable def o1056 (p : Program) : Obj := ⟨(.type "function"), none, (.func (fdOf (sA p 75) (S "_UNPACK_LONG_FROM") 3 [] .none .none .none (.str (S "bson") 1624) none (.ref 1055) .none 0)), #[]⟩
noncomputable def o1057 : Obj := ⟨(.type "tuple"), none, (.seq (#[]) 0), #[]⟩
noncomputable def o1059 : Obj := ⟨(.type "tuple"), none, (.seq (#[(.str (S "data") 1663), (.str (S "position") 1664)]) 0), #[]⟩
noncomputable def o1060 : Obj := ⟨(.type "tuple"), none, (.seq (#[]) 0), #[]⟩
noncomputable def o1062 : Obj := ⟨(.type "code"), none, (.fields (#[(.str (S "_UNPACK_TIMESTAMP_FROM") 1660), (.str (S "_UNPACK_TIMESTAMP_FROM") 1661), (.str (S "/claim/cut.py") 1662), (.int 630 0), (.int 2 0), (.int 0 0), (.int 0 0), (.int 3 0), (.ref 1057), (.bool true), (.int 181 0), (.ref 1058), .none, (.ref 1059), (.ref 1060), (.ref 1061), (.int 1665 0), (.int 630 0), (.str (S "/claim/cut.py") 1666)])), #[]⟩
noncomputable def o1063 (p : Program) : Obj := ⟨(.type "function"), none, (.func (fdOf (sA p 76) (S "_UNPACK_TIMESTAMP_FROM") 3 [] .none .none .none (.str (S "bson") 1624) none (.ref 1062) .none 0)), #[]⟩
noncomputable def o1064 : Obj := ⟨(.type "tuple"), none, (.seq (#[]) 0), #[]⟩
noncomputable def o1066 : Obj := ⟨(.type "tuple"), none, (.seq (#[(.str (S "octets") 1671), (.str (S "errors") 1672), (.str (S "final") 1673)]) 0), #[]⟩
noncomputable def o1067 : Obj := ⟨(.type "tuple"), none, (.seq (#[]) 0), #[]⟩
noncomputable def o1069 : Obj := ⟨(.type "code"), none, (.fields (#[(.str (S "_utf_8_decode") 1668), (.str (S "_utf_8_decode") 1669), (.str (S "/claim/cut.py") 1670), (.int 634 0), (.int 3 0), (.int 0 0), (.int 0 0), (.int 3 0), (.ref 1064), (.bool true), (.int 181 0), (.ref 1065), .none, (.ref 1066), (.ref 1067), (.ref 1068), (.int 1674 0), (.int 634 0), (.str (S "/claim/cut.py") 1675)])), #[]⟩
noncomputable def o1070 (p : Program) : Obj := ⟨(.type "function"), none, (.func (fdOf (sA p 77) (S "_utf_8_decode") 3 [] .none .none .none (.str (S "bson") 1624) none (.ref 1069) .none 0)), #[]⟩
noncomputable def o1071 : Obj := ⟨(.type "tuple"), none, (.seq (#[]) 0), #[]⟩
noncomputable def o1073 : Obj := ⟨(.type "tuple"), none, (.seq (#[(.str (S "string") 1680)]) 0), #[]⟩
noncomputable def o1074 : Obj := ⟨(.type "tuple"), none, (.seq (#[]) 0), #[]⟩
noncomputable def o1076 : Obj := ⟨(.type "code"), none, (.fields (#[(.str (S "_utf_8_encode") 1677), (.str (S "_utf_8_encode") 1678), (.str (S "/claim/cut.py") 1679), (.int 636 0), (.int 1 0), (.int 0 0), (.int 0 0), (.int 3 0), (.ref 1071), (.bool true), (.int 181 0), (.ref 1072), .none, (.ref 1073), (.ref 1074), (.ref 1075), (.int 1681 0), (.int 636 0), (.str (S "/claim/cut.py") 1682)])), #[]⟩
noncomputable def o1077 (p : Program) : Obj := ⟨(.type "function"), none, (.func (fdOf (sA p 78) (S "_utf_8_encode") 3 [] .none .none .none (.str (S "bson") 1624) none (.ref 1076) .none 0)), #[]⟩
noncomputable def o1078 : Obj := ⟨(.type "tuple"), none, (.seq (#[]) 0), #[]⟩
noncomputable def o1080 : Obj := ⟨(.type "tuple"), none, (.seq (#[(.str (S "data") 1687), (.str (S "position") 1688), (.str (S "k") 1689)]) 0), #[]⟩
noncomputable def o1081 : Obj := ⟨(.type "tuple"), none, (.seq (#[]) 0), #[]⟩
noncomputable def o1083 : Obj := ⟨(.type "code"), none, (.fields (#[(.str (S "_index_nul") 1684), (.str (S "_index_nul") 1685), (.str (S "/claim/cut.py") 1686), (.int 638 0), (.int 2 0), (.int 0 0), (.int 0 0), (.int 3 0), (.ref 1078), (.bool true), (.int 181 0), (.ref 1079), .none, (.ref 1080), (.ref 1081), (.ref 1082), (.int 1690 0), (.int 638 0), (.str (S "/claim/cut.py") 1691)])), #[]⟩
noncomputable def o1084 (p : Program) : Obj := ⟨(.type "function"), none, (.func (fdOf (sA p 79) (S "_index_nul") 3 [] .none .none .none (.str (S "bson") 1624) none (.ref 1083) .none 0)), #[]⟩
noncomputable def o1085 : Obj := ⟨(.type "tuple"), none, (.seq (#[]) 0), #[]⟩
noncomputable def o1087 : Obj := ⟨(.type "tuple"), none, (.seq (#[(.str (S "data") 1696)]) 0), #[]⟩
noncomputable def o1088 : Obj := ⟨(.type "tuple"), none, (.seq (#[]) 0), #[]⟩
noncomputable def o1090 : Obj := ⟨(.type "code"), none, (.fields (#[(.str (S "get_data_and_view") 1693), (.str (S "get_data_and_view") 1694), (.str (S "/claim/cut.py") 1695), (.int 643 0), (.int 1 0), (.int 0 0), (.int 0 0), (.int 3 0), (.ref 1085), (.bool true), (.int 181 0), (.ref 1086), .none, (.ref 1087), (.ref 1088), (.ref 1089), (.int 1697 0), (.int 643 0), (.str (S "/claim/cut.py") 1698)])), #[]⟩
noncomputable def o1091 (p : Program) : Obj := ⟨(.type "function"), none, (.func (fdOf (sA p 80) (S "get_data_and_view") 3 [] .none .none .none (.str (S "bson") 1624) none (.ref 1090) .none 0)), #[]⟩
noncomputable def o1092 : Obj := ⟨(.type "tuple"), none, (.seq (#[]) 0), #[]⟩
noncomputable def o1094 : Obj := ⟨(.type "tuple"), none, (.seq (#[(.str (S "element_type") 1703), (.str (S "element_name") 1704)]) 0), #[]⟩
noncomputable def o1095 : Obj := ⟨(.type "tuple"), none, (.seq (#[]) 0), #[]⟩
noncomputable def o1097 : Obj := ⟨(.type "code"), none, (.fields (#[(.str (S "_raise_unknown_type") 1700), (.str (S "_raise_unknown_type") 1701), (.str (S "/claim/cut.py") 1702), (.int 645 0), (.int 2 0), (.int 0 0), (.int 0 0), (.int 3 0), (.ref 1092), (.bool true), (.int 181 0), (.ref 1093), .none, (.ref 1094), (.ref 1095), (.ref 1096), (.int 1705 0), (.int 645 0), (.str (S "/claim/cut.py") 1706)])), #[]⟩
noncomputable def o1098 (p : Program) : Obj := ⟨(.type "function"), none, (.func (fdOf (sA p 81) (S "_raise_unknown_type") 3 [] .none .none .none (.str (S "bson") 1624) none (.ref 1097) .none 0)), #[]⟩
noncomputable def o1099 : Obj := ⟨(.type "tuple"), none, (.seq (#[]) 0), #[]⟩
noncomputable def o1101 : Obj := ⟨(.type "tuple"), none, (.seq (#[(.str (S "data") 1711), (.str (S "_view") 1712), (.str (S "position") 1713), (.str (S "dummy0") 1714), (.str (S "dummy1") 1715), (.str (S "dummy2") 1716)]) 0), #[]⟩
noncomputable def o1102 : Obj := ⟨(.type "tuple"), none, (.seq (#[]) 0), #[]⟩
noncomputable def o1104 : Obj := ⟨(.type "code"), none, (.fields (#[(.str (S "_get_int") 1708), (.str (S "_get_int") 1709), (.str (S "/claim/cut.py") 1710), (.int 647 0), (.int 6 0), (.int 0 0), (.int 0 0), (.int 3 0), (.ref 1099), (.bool true), (.int 181 0), (.ref 1100), .none, (.ref 1101), (.ref 1102), (.ref 1103), (.int 1717 0), (.int 647 0), (.str (S "/claim/cut.py") 1718)])), #[]⟩
noncomputable def o1105 (p : Program) : Obj := ⟨(.type "function"), none, (.func (fdOf (sA p 82) (S "_get_int") 3 [] .none .none .none (.str (S "bson") 1624) none (.ref 1104) .none 0)), #[]⟩
noncomputable def o1106 : Obj := ⟨(.type "tuple"), none, (.seq (#[]) 0), #[]⟩
noncomputable def o1108 : Obj := ⟨(.type "tuple"), none, (.seq (#[(.str (S "data") 1723), (.str (S "view") 1724), (.str (S "position") 1725), (.str (S "opts") 1726), (.str (S "end") 1727)]) 0), #[]⟩
noncomputable def o1109 : Obj := ⟨(.type "tuple"), none, (.seq (#[]) 0), #[]⟩
noncomputable def o1111 : Obj := ⟨(.type "code"), none, (.fields (#[(.str (S "_get_c_string") 1720), (.str (S "_get_c_string") 1721), (.str (S "/claim/cut.py") 1722), (.int 649 0), (.int 4 0), (.int 0 0), (.int 0 0), (.int 3 0), (.ref 1106), (.bool true), (.int 181 0), (.ref 1107), .none, (.ref 1108), (.ref 1109), (.ref 1110), (.int 1728 0), (.int 649 0), (.str (S "/claim/cut.py") 1729)])), #[]⟩
noncomputable def o1112 (p : Program) : Obj := ⟨(.type "function"), none, (.func (fdOf (sA p 83) (S "_get_c_string") 3 [] .none .none .none (.str (S "bson") 1624) none (.ref 1111) .none 0)), #[]⟩
noncomputable def o1113 : Obj := ⟨(.type "tuple"), none, (.seq (#[]) 0), #[]⟩
noncomputable def o1115 : Obj := ⟨(.type "tuple"), none, (.seq (#[(.str (S "data") 1734), (.str (S "view") 1735), (.str (S "position") 1736), (.str (S "obj_end") 1737), (.str (S "opts") 1738), (.str (S "dummy") 1739), (.str (S "length") 1740), (.str (S "end") 1741)]) 0), #[]⟩
noncomputable def o1116 : Obj := ⟨(.type "tuple"), none, (.seq (#[]) 0), #[]⟩
noncomputable def o1118 : Obj := ⟨(.type "code"), none, (.fields (#[(.str (S "_get_string") 1731), (.str (S "_get_string") 1732), (.str (S "/claim/cut.py") 1733), (.int 652 0), (.int 6 0), (.int 0 0), (.int 0 0), (.int 3 0), (.ref 1113), (.bool true), (.int 181 0), (.ref 1114), .none, (.ref 1115), (.ref 1116), (.ref 1117), (.int 1742 0), (.int 652 0), (.str (S "/claim/cut.py") 1743)])), #[]⟩
noncomputable def o1119 (p : Program) : Obj := ⟨(.type "function"), none, (.func (fdOf (sA p 84) (S "_get_string") 3 [] .none .none .none (.str (S "bson") 1624) none (.ref 1118) .none 0)), #[]⟩
noncomputable def o1120 : Obj := ⟨(.type "tuple"), none, (.seq (#[]) 0), #[]⟩
noncomputable def o1122 : Obj := ⟨(.type "tuple"), none, (.seq (#[(.str (S "data") 1748), (.str (S "position") 1749), (.str (S "obj_end") 1750), (.str (S "obj_size") 1751), (.str (S "exc") 1752), (.str (S "end") 1753)]) 0), #[]⟩
noncomputable def o1123 : Obj := ⟨(.type "tuple"), none, (.seq (#[]) 0), #[]⟩
noncomputable def o1125 : Obj := ⟨(.type "code"), none, (.fields (#[(.str (S "_get_object_size") 1745), (.str (S "_get_object_size") 1746), (.str (S "/claim/cut.py") 1747), (.int 661 0), (.int 3 0), (.int 0 0), (.int 0 0), (.int 3 0), (.ref 1120), (.bool true), (.int 181 0), (.ref 1121), .none, (.ref 1122), (.ref 1123), (.ref 1124), (.int 1754 0), (.int 661 0), (.str (S "/claim/cut.py") 1755)])), #[]⟩
noncomputable def o1126 (p : Program) : Obj := ⟨(.type "function"), none, (.func (fdOf (sA p 85) (S "_get_object_size") 3 [] .none .none .none (.str (S "bson") 1624) none (.ref 1125) .none 0)), #[]⟩
noncomputable def o1127 : Obj := ⟨(.type "tuple"), none, (.seq (#[]) 0), #[]⟩
noncomputable def o1129 : Obj := ⟨(.type "tuple"), none, (.seq (#[(.str (S "data") 1760), (.str (S "view") 1761), (.str (S "position") 1762), (.str (S "obj_end") 1763), (.str (S "opts") 1764), (.str (S "dummy") 1765), (.str (S "obj_size") 1766), (.str (S "end") 1767), (.str (S "obj") 1768)]) 0), #[]⟩
noncomputable def o1130 : Obj := ⟨(.type "tuple"), none, (.seq (#[]) 0), #[]⟩
noncomputable def o1132 : Obj := ⟨(.type "code"), none, (.fields (#[(.str (S "_get_object") 1757), (.str (S "_get_object") 1758), (.str (S "/claim/cut.py") 1759), (.int 674 0), (.int 6 0), (.int 0 0), (.int 0 0), (.int 3 0), (.ref 1127), (.bool true), (.int 181 0), (.ref 1128), .none, (.ref 1129), (.ref 1130), (.ref 1131), (.int 1769 0), (.int 674 0), (.str (S "/claim/cut.py") 1770)])), #[]⟩
noncomputable def o1133 (p : Program) : Obj := ⟨(.type "function"), none, (.func (fdOf (sA p 86) (S "_get_object") 3 [] .none .none .none (.str (S "bson") 1624) none (.ref 1132) .none 0)), #[]⟩
noncomputable def o1134 : Obj := ⟨(.type "tuple"), none, (.seq (#[]) 0), #[]⟩
noncomputable def o1136 : Obj := ⟨(.type "tuple"), none, (.seq (#[(.str (S "data") 1775), (.str (S "view") 1776), (.str (S "position") 1777), (.str (S "obj_end") 1778), (.str (S "opts") 1779), (.str (S "element_name") 1780), (.str (S "size") 1781), (.str (S "end") 1782), (.str (S "result") 1783), (.str (S "element_type") 1784), (.str (S "value") 1785)]) 0), #[]⟩
noncomputable def o1137 : Obj := ⟨(.type "tuple"), none, (.seq (#[]) 0), #[]⟩
noncomputable def o1139 : Obj := ⟨(.type "code"), none, (.fields (#[(.str (S "_get_array") 1772), (.str (S "_get_array") 1773), (.str (S "/claim/cut.py") 1774), (.int 681 0), (.int 6 0), (.int 0 0), (.int 0 0), (.int 3 0), (.ref 1134), (.bool true), (.int 181 0), (.ref 1135), .none, (.ref 1136), (.ref 1137), (.ref 1138), (.int 1786 0), (.int 681 0), (.str (S "/claim/cut.py") 1787)])), #[]⟩
noncomputable def o1140 (p : Program) : Obj := ⟨(.type "function"), none, (.func (fdOf (sA p 87) (S "_get_array") 3 [] .none .none .none (.str (S "bson") 1624) none (.ref 1139) .none 0)), #[]⟩
noncomputable def o1141 : Obj := ⟨(.type "tuple"), none, (.seq (#[]) 0), #[]⟩
noncomputable def o1143 : Obj := ⟨(.type "tuple"), none, (.seq (#[(.str (S "data") 1792), (.str (S "_view") 1793), (.str (S "position") 1794), (.str (S "obj_end") 1795), (.str (S "opts") 1796), (.str (S "dummy1") 1797), (.str (S "length") 1798), (.str (S "subtype") 1799), (.str (S "length2") 1800), (.str (S "end") 1801), (.str (S "uuid_rep") 1802), (.str (S "binary_value") 1803), (.str (S "value") 1804)]) 0), #[]⟩
noncomputable def o1144 : Obj := ⟨(.type "tuple"), none, (.seq (#[]) 0), #[]⟩
noncomputable def o1146 : Obj := ⟨(.type "code"), none, (.fields (#[(.str (S "_get_binary") 1789), (.str (S "_get_binary") 1790), (.str (S "/claim/cut.py") 1791), (.int 700 0), (.int 6 0), (.int 0 0), (.int 0 0), (.int 3 0), (.ref 1141), (.bool true), (.int 181 0), (.ref 1142), .none, (.ref 1143), (.ref 1144), (.ref 1145), (.int 1805 0), (.int 700 0), (.str (S "/claim/cut.py") 1806)])), #[]⟩
noncomputable def o1147 (p : Program) : Obj := ⟨(.type "function"), none, (.func (fdOf (sA p 88) (S "_get_binary") 3 [] .none .none .none (.str (S "bson") 1624) none (.ref 1146) .none 0)), #[]⟩
noncomputable def o1148 : Obj := ⟨(.type "tuple"), none, (.seq (#[]) 0), #[]⟩
noncomputable def o1150 : Obj := ⟨(.type "tuple"), none, (.seq (#[(.str (S "data") 1811), (.str (S "_view") 1812), (.str (S "position") 1813), (.str (S "dummy0") 1814), (.str (S "dummy1") 1815), (.str (S "dummy2") 1816), (.str (S "end") 1817)]) 0), #[]⟩
noncomputable def o1151 : Obj := ⟨(.type "tuple"), none, (.seq (#[]) 0), #[]⟩
noncomputable def o1153 : Obj := ⟨(.type "code"), none, (.fields (#[(.str (S "_get_oid") 1808), (.str (S "_get_oid") 1809), (.str (S "/claim/cut.py") 1810), (.int 723 0), (.int 6 0), (.int 0 0), (.int 0 0), (.int 3 0), (.ref 1148), (.bool true), (.int 181 0), (.ref 1149), .none, (.ref 1150), (.ref 1151), (.ref 1152), (.int 1818 0), (.int 723 0), (.str (S "/claim/cut.py") 1819)])), #[]⟩
noncomputable def o1154 (p : Program) : Obj := ⟨(.type "function"), none, (.func (fdOf (sA p 89) (S "_get_oid") 3 [] .none .none .none (.str (S "bson") 1624) none (.ref 1153) .none 0)), #[]⟩
noncomputable def o1155 : Obj := ⟨(.type "tuple"), none, (.seq (#[]) 0), #[]⟩
noncomputable def o1157 : Obj := ⟨(.type "tuple"), none, (.seq (#[(.str (S "data") 1824), (.str (S "_view") 1825), (.str (S "position") 1826), (.str (S "dummy0") 1827), (.str (S "dummy1") 1828), (.str (S "dummy2") 1829), (.str (S "end") 1830), (.str (S "boolean_byte") 1831)]) 0), #[]⟩
noncomputable def o1158 : Obj := ⟨(.type "tuple"), none, (.seq (#[]) 0), #[]⟩
noncomputable def o1160 : Obj := ⟨(.type "code"), none, (.fields (#[(.str (S "_get_boolean") 1821), (.str (S "_get_boolean") 1822), (.str (S "/claim/cut.py") 1823), (.int 726 0), (.int 6 0), (.int 0 0), (.int 0 0), (.int 3 0), (.ref 1155), (.bool true), (.int 181 0), (.ref 1156), .none, (.ref 1157), (.ref 1158), (.ref 1159), (.int 1832 0), (.int 726 0), (.str (S "/claim/cut.py") 1833)])), #[]⟩
noncomputable def o1161 (p : Program) : Obj := ⟨(.type "function"), none, (.func (fdOf (sA p 90) (S "_get_boolean") 3 [] .none .none .none (.str (S "bson") 1624) none (.ref 1160) .none 0)), #[]⟩
noncomputable def o1162 : Obj := ⟨(.type "tuple"), none, (.seq (#[]) 0), #[]⟩
noncomputable def o1164 : Obj := ⟨(.type "tuple"), none, (.seq (#[(.str (S "data") 1838), (.str (S "_view") 1839), (.str (S "position") 1840), (.str (S "dummy0") 1841), (.str (S "opts") 1842), (.str (S "dummy1") 1843)]) 0), #[]⟩
noncomputable def o1165 : Obj := ⟨(.type "tuple"), none, (.seq (#[]) 0), #[]⟩
noncomputable def o1167 : Obj := ⟨(.type "code"), none, (.fields (#[(.str (S "_get_date") 1835), (.str (S "_get_date") 1836), (.str (S "/claim/cut.py") 1837), (.int 734 0), (.int 6 0), (.int 0 0), (.int 0 0), (.int 3 0), (.ref 1162), (.bool true), (.int 181 0), (.ref 1163), .none, (.ref 1164), (.ref 1165), (.ref 1166), (.int 1844 0), (.int 734 0), (.str (S "/claim/cut.py") 1845)])), #[]⟩
noncomputable def o1168 (p : Program) : Obj := ⟨(.type "function"), none, (.func (fdOf (sA p 91) (S "_get_date") 3 [] .none .none .none (.str (S "bson") 1624) none (.ref 1167) .none 0)), #[]⟩
noncomputable def o1169 : Obj := ⟨(.type "tuple"), none, (.seq (#[]) 0), #[]⟩
noncomputable def o1171 : Obj := ⟨(.type "tuple"), none, (.seq (#[(.str (S "data") 1850), (.str (S "view") 1851), (.str (S "position") 1852), (.str (S "obj_end") 1853), (.str (S "opts") 1854), (.str (S "element_name") 1855), (.str (S "code") 1856)]) 0), #[]⟩
noncomputable def o1172 : Obj := ⟨(.type "tuple"), none, (.seq (#[]) 0), #[]⟩
noncomputable def o1174 : Obj := ⟨(.type "code"), none, (.fields (#[(.str (S "_get_code") 1847), (.str (S "_get_code") 1848), (.str (S "/claim/cut.py") 1849), (.int 736 0), (.int 6 0), (.int 0 0), (.int 0 0), (.int 3 0), (.ref 1169), (.bool true), (.int 181 0), (.ref 1170), .none, (.ref 1171), (.ref 1172), (.ref 1173), (.int 1857 0), (.int 736 0), (.str (S "/claim/cut.py") 1858)])), #[]⟩
noncomputable def o1175 (p : Program) : Obj := ⟨(.type "function"), none, (.func (fdOf (sA p 92) (S "_get_code") 3 [] .none .none .none (.str (S "bson") 1624) none (.ref 1174) .none 0)), #[]⟩
noncomputable def o1176 : Obj := ⟨(.type "tuple"), none, (.seq (#[]) 0), #[]⟩
noncomputable def o1178 : Obj := ⟨(.type "tuple"), none, (.seq (#[(.str (S "data") 1863), (.str (S "view") 1864), (.str (S "position") 1865), (.str (S "_obj_end") 1866), (.str (S "opts") 1867), (.str (S "element_name") 1868), (.str (S "code_end") 1869), (.str (S "code") 1870), (.str (S "scope") 1871)]) 0), #[]⟩
noncomputable def o1179 : Obj := ⟨(.type "tuple"), none, (.seq (#[]) 0), #[]⟩
noncomputable def o1181 : Obj := ⟨(.type "code"), none, (.fields (#[(.str (S "_get_code_w_scope") 1860), (.str (S "_get_code_w_scope") 1861), (.str (S "/claim/cut.py") 1862), (.int 739 0), (.int 6 0), (.int 0 0), (.int 0 0), (.int 3 0), (.ref 1176), (.bool true), (.int 181 0), (.ref 1177), .none, (.ref 1178), (.ref 1179), (.ref 1180), (.int 1872 0), (.int 739 0), (.str (S "/claim/cut.py") 1873)])), #[]⟩
noncomputable def o1182 (p : Program) : Obj := ⟨(.type "function"), none, (.func (fdOf (sA p 93) (S "_get_code_w_scope") 3 [] .none .none .none (.str (S "bson") 1624) none (.ref 1181) .none 0)), #[]⟩
noncomputable def o1183 : Obj := ⟨(.type "tuple"), none, (.seq (#[]) 0), #[]⟩
noncomputable def o1185 : Obj := ⟨(.type "tuple"), none, (.seq (#[(.str (S "data") 1878), (.str (S "view") 1879), (.str (S "position") 1880), (.str (S "dummy0") 1881), (.str (S "opts") 1882), (.str (S "dummy1") 1883), (.str (S "pattern") 1884), (.str (S "bson_flags") 1885), (.str (S "bson_re") 1886)]) 0), #[]⟩
noncomputable def o1186 : Obj := ⟨(.type "tuple"), none, (.seq (#[]) 0), #[]⟩
noncomputable def o1188 : Obj := ⟨(.type "code"), none, (.fields (#[(.str (S "_get_regex") 1875), (.str (S "_get_regex") 1876), (.str (S "/claim/cut.py") 1877), (.int 746 0), (.int 6 0), (.int 0 0), (.int 0 0), (.int 3 0), (.ref 1183), (.bool true), (.int 181 0), (.ref 1184), .none, (.ref 1185), (.ref 1186), (.ref 1187), (.int 1887 0), (.int 746 0), (.str (S "/claim/cut.py") 1888)])), #[]⟩
noncomputable def o1189 (p : Program) : Obj := ⟨(.type "function"), none, (.func (fdOf (sA p 94) (S "_get_regex") 3 [] .none .none .none (.str (S "bson") 1624) none (.ref 1188) .none 0)), #[]⟩
noncomputable def o1190 : Obj := ⟨(.type "tuple"), none, (.seq (#[]) 0), #[]⟩
noncomputable def o1192 : Obj := ⟨(.type "tuple"), none, (.seq (#[(.str (S "data") 1893), (.str (S "view") 1894), (.str (S "position") 1895), (.str (S "obj_end") 1896), (.str (S "opts") 1897), (.str (S "element_name") 1898), (.str (S "collection") 1899), (.str (S "oid") 1900)]) 0), #[]⟩
noncomputable def o1193 : Obj := ⟨(.type "tuple"), none, (.seq (#[]) 0), #[]⟩
noncomputable def o1195 : Obj := ⟨(.type "code"), none, (.fields (#[(.str (S "_get_ref") 1890), (.str (S "_get_ref") 1891), (.str (S "/claim/cut.py") 1892), (.int 751 0), (.int 6 0), (.int 0 0), (.int 0 0), (.int 3 0), (.ref 1190), (.bool true), (.int 181 0), (.ref 1191), .none, (.ref 1192), (.ref 1193), (.ref 1194), (.int 1901 0), (.int 751 0), (.str (S "/claim/cut.py") 1902)])), #[]⟩
noncomputable def o1196 (p : Program) : Obj := ⟨(.type "function"), none, (.func (fdOf (sA p 95) (S "_get_ref") 3 [] .none .none .none (.str (S "bson") 1624) none (.ref 1195) .none 0)), #[]⟩
noncomputable def o1197 : Obj := ⟨(.type "tuple"), none, (.seq (#[]) 0), #[]⟩
noncomputable def o1199 : Obj := ⟨(.type "tuple"), none, (.seq (#[(.str (S "data") 1907), (.str (S "_view") 1908), (.str (S "position") 1909), (.str (S "dummy0") 1910), (.str (S "dummy1") 1911), (.str (S "dummy2") 1912), (.str (S "inc") 1913), (.str (S "timestamp") 1914)]) 0), #[]⟩
noncomputable def o1200 : Obj := ⟨(.type "tuple"), none, (.seq (#[]) 0), #[]⟩
noncomputable def o1202 : Obj := ⟨(.type "code"), none, (.fields (#[(.str (S "_get_timestamp") 1904), (.str (S "_get_timestamp") 1905), (.str (S "/claim/cut.py") 1906), (.int 755 0), (.int 6 0), (.int 0 0), (.int 0 0), (.int 3 0), (.ref 1197), (.bool true), (.int 181 0), (.ref 1198), .none, (.ref 1199), (.ref 1200), (.ref 1201), (.int 1915 0), (.int 755 0), (.str (S "/claim/cut.py") 1916)])), #[]⟩
noncomputable def o1203 (p : Program) : Obj := ⟨(.type "function"), none, (.func (fdOf (sA p 96) (S "_get_timestamp") 3 [] .none .none .none (.str (S "bson") 1624) none (.ref 1202) .none 0)), #[]⟩
noncomputable def o1204 : Obj := ⟨(.type "tuple"), none, (.seq (#[]) 0), #[]⟩
noncomputable def o1206 : Obj := ⟨(.type "tuple"), none, (.seq (#[(.str (S "data") 1921), (.str (S "_view") 1922), (.str (S "position") 1923), (.str (S "dummy0") 1924), (.str (S "dummy1") 1925), (.str (S "dummy2") 1926)]) 0), #[]⟩
noncomputable def o1207 : Obj := ⟨(.type "tuple"), none, (.seq (#[]) 0), #[]⟩
noncomputable def o1209 : Obj := ⟨(.type "code"), none, (.fields (#[(.str (S "_get_int64") 1918), (.str (S "_get_int64") 1919), (.str (S "/claim/cut.py") 1920), (.int 758 0), (.int 6 0), (.int 0 0), (.int 0 0), (.int 3 0), (.ref 1204), (.bool true), (.int 181 0), (.ref 1205), .none, (.ref 1206), (.ref 1207), (.ref 1208), (.int 1927 0), (.int 758 0), (.str (S "/claim/cut.py") 1928)])), #[]⟩
noncomputable def o1210 (p : Program) : Obj := ⟨(.type "function"), none, (.func (fdOf (sA p 97) (S "_get_int64") 3 [] .none .none .none (.str (S "bson") 1624) none (.ref 1209) .none 0)), #[]⟩
noncomputable def o1211 : Obj := ⟨(.type "tuple"), none, (.seq (#[]) 0), #[]⟩
noncomputable def o1213 : Obj := ⟨(.type "tuple"), none, (.seq (#[(.str (S "data") 1933), (.str (S "_view") 1934), (.str (S "position") 1935), (.str (S "dummy0") 1936), (.str (S "dummy1") 1937), (.str (S "dummy2") 1938), (.str (S "end") 1939)]) 0), #[]⟩
noncomputable def o1214 : Obj := ⟨(.type "tuple"), none, (.seq (#[]) 0), #[]⟩
noncomputable def o1216 : Obj := ⟨(.type "code"), none, (.fields (#[(.str (S "_get_decimal128") 1930), (.str (S "_get_decimal128") 1931), (.str (S "/claim/cut.py") 1932), (.int 760 0), (.int 6 0), (.int 0 0), (.int 0 0), (.int 3 0), (.ref 1211), (.bool true), (.int 181 0), (.ref 1212), .none, (.ref 1213), (.ref 1214), (.ref 1215), (.int 1940 0), (.int 760 0), (.str (S "/claim/cut.py") 1941)])), #[]⟩
noncomputable def o1217 (p : Program) : Obj := ⟨(.type "function"), none, (.func (fdOf (sA p 98) (S "_get_decimal128") 3 [] .none .none .none (.str (S "bson") 1624) none (.ref 1216) .none 0)), #[]⟩
noncomputable def o1218 : Obj := ⟨(.type "tuple"), none, (.seq (#[]) 0), #[]⟩
noncomputable def o1220 : Obj := ⟨(.type "tuple"), none, (.seq (#[(.str (S "element_type") 1946), (.str (S "data") 1947), (.str (S "view") 1948), (.str (S "position") 1949), (.str (S "obj_end") 1950), (.str (S "opts") 1951), (.str (S "element_name") 1952)]) 0), #[]⟩
noncomputable def o1221 : Obj := ⟨(.type "tuple"), none, (.seq (#[]) 0), #[]⟩
noncomputable def o1223 : Obj := ⟨(.type "code"), none, (.fields (#[(.str (S "_get_element") 1943), (.str (S "_get_element") 1944), (.str (S "/claim/cut.py") 1945), (.int 763 0), (.int 7 0), (.int 0 0), (.int 0 0), (.int 3 0), (.ref 1218), (.bool true), (.int 181 0), (.ref 1219), .none, (.ref 1220), (.ref 1221), (.ref 1222), (.int 1953 0), (.int 763 0), (.str (S "/claim/cut.py") 1954)])), #[]⟩
noncomputable def o1224 (p : Program) : Obj := ⟨(.type "function"), none, (.func (fdOf (sA p 99) (S "_get_element") 3 [] .none .none .none (.str (S "bson") 1624) none (.ref 1223) .none 0)), #[]⟩
noncomputable def o1225 : Obj := ⟨(.type "tuple"), none, (.seq (#[]) 0), #[]⟩
noncomputable def o1227 : Obj := ⟨(.type "tuple"), none, (.seq (#[(.str (S "data") 1959), (.str (S "view") 1960), (.str (S "position") 1961), (.str (S "obj_end") 1962), (.str (S "opts") 1963), (.str (S "element_type") 1964), (.str (S "element_name") 1965), (.str (S "value") 1966)]) 0), #[]⟩
noncomputable def o1228 : Obj := ⟨(.type "tuple"), none, (.seq (#[]) 0), #[]⟩
noncomputable def o1230 : Obj := ⟨(.type "code"), none, (.fields (#[(.str (S "_element_to_dict") 1956), (.str (S "_element_to_dict") 1957), (.str (S "/claim/cut.py") 1958), (.int 805 0), (.int 5 0), (.int 0 0), (.int 0 0), (.int 3 0), (.ref 1225), (.bool true), (.int 181 0), (.ref 1226), .none, (.ref 1227), (.ref 1228), (.ref 1229), (.int 1967 0), (.int 805 0), (.str (S "/claim/cut.py") 1968)])), #[]⟩
noncomputable def o1231 (p : Program) : Obj := ⟨(.type "function"), none, (.func (fdOf (sA p 100) (S "_element_to_dict") 3 [] .none .none .none (.str (S "bson") 1624) none (.ref 1230) .none 0)), #[]⟩
noncomputable def o1232 : Obj := ⟨(.type "tuple"), none, (.seq (#[]) 0), #[]⟩
noncomputable def o1234 : Obj := ⟨(.type "tuple"), none, (.seq (#[(.str (S "data") 1973), (.str (S "view") 1974), (.str (S "position") 1975), (.str (S "obj_end") 1976), (.str (S "opts") 1977), (.str (S "result") 1978), (.str (S "end") 1979), (.str (S "key") 1980), (.str (S "value") 1981)]) 0), #[]⟩
noncomputable def o1235 : Obj := ⟨(.type "tuple"), none, (.seq (#[]) 0), #[]⟩
noncomputable def o1237 : Obj := ⟨(.type "code"), none, (.fields (#[(.str (S "_elements_to_dict") 1970), (.str (S "_elements_to_dict") 1971), (.str (S "/claim/cut.py") 1972), (.int 814 0), (.int 5 0), (.int 0 0), (.int 0 0), (.int 3 0), (.ref 1232), (.bool true), (.int 181 0), (.ref 1233), .none, (.ref 1234), (.ref 1235), (.ref 1236), (.int 1982 0), (.int 814 0), (.str (S "/claim/cut.py") 1983)])), #[]⟩
noncomputable def o1238 (p : Program) : Obj := ⟨(.type "function"), none, (.func (fdOf (sA p 101) (S "_elements_to_dict") 3 [] .none .none .none (.str (S "bson") 1624) none (.ref 1237) .none 0)), #[]⟩
noncomputable def o1239 : Obj := ⟨(.type "tuple"), none, (.seq (#[]) 0), #[]⟩
noncomputable def o1241 : Obj := ⟨(.type "tuple"), none, (.seq (#[(.str (S "data") 1988), (.str (S "opts") 1989), (.str (S "view") 1990), (.str (S "_") 1991), (.str (S "end") 1992), (.str (S "exc") 1993)]) 0), #[]⟩
noncomputable def o1242 : Obj := ⟨(.type "tuple"), none, (.seq (#[]) 0), #[]⟩
noncomputable def o1244 : Obj := ⟨(.type "code"), none, (.fields (#[(.str (S "_bson_to_dict") 1985), (.str (S "_bson_to_dict") 1986), (.str (S "/claim/cut.py") 1987), (.int 823 0), (.int 2 0), (.int 0 0), (.int 0 0), (.int 3 0), (.ref 1239), (.bool true), (.int 181 0), (.ref 1240), .none, (.ref 1241), (.ref 1242), (.ref 1243), (.int 1994 0), (.int 823 0), (.str (S "/claim/cut.py") 1995)])), #[]⟩
noncomputable def o1245 (p : Program) : Obj := ⟨(.type "function"), none, (.func (fdOf (sA p 102) (S "_bson_to_dict") 3 [] .none .none .none (.str (S "bson") 1624) none (.ref 1244) .none 0)), #[]⟩
noncomputable def o1246 : Obj := ⟨(.type "tuple"), none, (.seq (#[]) 0), #[]⟩
noncomputable def o1248 : Obj := ⟨(.type "tuple"), none, (.seq (#[(.str (S "value") 2000)]) 0), #[]⟩
noncomputable def o1249 : Obj := ⟨(.type "tuple"), none, (.seq (#[]) 0), #[]⟩
noncomputable def o1251 : Obj := ⟨(.type "code"), none, (.fields (#[(.str (S "_PACK_INT") 1997), (.str (S "_PACK_INT") 1998), (.str (S "/claim/cut.py") 1999), (.int 832 0), (.int 1 0), (.int 0 0), (.int 0 0), (.int 3 0), (.ref 1246), (.bool true), (.int 181 0), (.ref 1247), .none, (.ref 1248), (.ref 1249), (.ref 1250), (.int 2001 0), (.int 832 0), (.str (S "/claim/cut.py") 2002)])), #[]⟩
noncomputable def o1252 (p : Program) : Obj := ⟨(.type "function"), none, (.func (fdOf (sA p 103) (S "_PACK_INT") 3 [] .none .none .none (.str (S "bson") 1624) none (.ref 1251) .none 0)), #[]⟩
noncomputable def o1253 : Obj := ⟨(.type "tuple"), none, (.seq (#[]) 0), #[]⟩
noncomputable def o1255 : Obj := ⟨(.type "tuple"), none, (.seq (#[(.str (S "length") 2007), (.str (S "subtype") 2008)]) 0), #[]⟩
noncomputable def o1256 : Obj := ⟨(.type "tuple"), none, (.seq (#[]) 0), #[]⟩
noncomputable def o1258 : Obj := ⟨(.type "code"), none, (.fields (#[(.str (S "_PACK_LENGTH_SUBTYPE") 2004), (.str (S "_PACK_LENGTH_SUBTYPE") 2005), (.str (S "/claim/cut.py") 2006), (.int 834 0), (.int 2 0), (.int 0 0), (.int 0 0), (.int 3 0), (.ref 1253), (.bool true), (.int 181 0), (.ref 1254), .none, (.ref 1255), (.ref 1256), (.ref 1257), (.int 2009 0), (.int 834 0), (.str (S "/claim/cut.py") 2010)])), #[]⟩
noncomputable def o1259 (p : Program) : Obj := ⟨(.type "function"), none, (.func (fdOf (sA p 104) (S "_PACK_LENGTH_SUBTYPE") 3 [] .none .none .none (.str (S "bson") 1624) none (.ref 1258) .none 0)), #[]⟩
noncomputable def o1260 : Obj := ⟨(.type "tuple"), none, (.seq (#[]) 0), #[]⟩
noncomputable def o1262 : Obj := ⟨(.type "tuple"), none, (.seq (#[(.str (S "value") 2015)]) 0), #[]⟩
noncomputable def o1263 : Obj := ⟨(.type "tuple"), none, (.seq (#[]) 0), #[]⟩
noncomputable def o1265 : Obj := ⟨(.type "code"), none, (.fields (#[(.str (S "_PACK_LONG") 2012), (.str (S "_PACK_LONG") 2013), (.str (S "/claim/cut.py") 2014), (.int 836 0), (.int 1 0), (.int 0 0), (.int 0 0), (.int 3 0), (.ref 1260), (.bool true), (.int 181 0), (.ref 1261), .none, (.ref 1262), (.ref 1263), (.ref 1264), (.int 2016 0), (.int 836 0), (.str (S "/claim/cut.py") 2017)])), #[]⟩
noncomputable def o1266 (p : Program) : Obj := ⟨(.type "function"), none, (.func (fdOf (sA p 105) (S "_PACK_LONG") 3 [] .none .none .none (.str (S "bson") 1624) none (.ref 1265) .none 0)), #[]⟩
noncomputable def o1267 : Obj := ⟨(.type "tuple"), none, (.seq (#[]) 0), #[]⟩
noncomputable def o1269 : Obj := ⟨(.type "tuple"), none, (.seq (#[(.str (S "inc") 2022), (.str (S "time") 2023)]) 0), #[]⟩
noncomputable def o1270 : Obj := ⟨(.type "tuple"), none, (.seq (#[]) 0), #[]⟩
noncomputable def o1272 : Obj := ⟨(.type "code"), none, (.fields (#[(.str (S "_PACK_TIMESTAMP") 2019), (.str (S "_PACK_TIMESTAMP") 2020), (.str (S "/claim/cut.py") 2021), (.int 840 0), (.int 2 0), (.int 0 0), (.int 0 0), (.int 3 0), (.ref 1267), (.bool true), (.int 181 0), (.ref 1268), .none, (.ref 1269), (.ref 1270), (.ref 1271), (.int 2024 0), (.int 840 0), (.str (S "/claim/cut.py") 2025)])), #[]⟩
noncomputable def o1273 (p : Program) : Obj := ⟨(.type "function"), none, (.func (fdOf (sA p 106) (S "_PACK_TIMESTAMP") 3 [] .none .none .none (.str (S "bson") 1624) none (.ref 1272) .none 0)), #[]⟩
noncomputable def o1274 : Obj := ⟨(.type "tuple"), none, (.seq (#[]) 0), #[]⟩
noncomputable def o1276 : Obj := ⟨(.type "tuple"), none, (.seq (#[(.str (S "string") 2030)]) 0), #[]⟩
noncomputable def o1277 : Obj := ⟨(.type "tuple"), none, (.seq (#[]) 0), #[]⟩
noncomputable def o1279 : Obj := ⟨(.type "code"), none, (.fields (#[(.str (S "_make_c_string_check") 2027), (.str (S "_make_c_string_check") 2028), (.str (S "/claim/cut.py") 2029), (.int 842 0), (.int 1 0), (.int 0 0), (.int 0 0), (.int 3 0), (.ref 1274), (.bool true), (.int 181 0), (.ref 1275), .none, (.ref 1276), (.ref 1277), (.ref 1278), (.int 2031 0), (.int 842 0), (.str (S "/claim/cut.py") 2032)])), #[]⟩
noncomputable def o1280 (p : Program) : Obj := ⟨(.type "function"), none, (.func (fdOf (sA p 107) (S "_make_c_string_check") 3 [] .none .none .none (.str (S "bson") 1624) none (.ref 1279) .none 0)), #[]⟩
noncomputable def o1281 : Obj := ⟨(.type "tuple"), none, (.seq (#[]) 0), #[]⟩
noncomputable def o1283 : Obj := ⟨(.type "tuple"), none, (.seq (#[(.str (S "string") 2037)]) 0), #[]⟩
noncomputable def o1284 : Obj := ⟨(.type "tuple"), none, (.seq (#[]) 0), #[]⟩
noncomputable def o1286 : Obj := ⟨(.type "code"), none, (.fields (#[(.str (S "_make_c_string") 2034), (.str (S "_make_c_string") 2035), (.str (S "/claim/cut.py") 2036), (.int 855 0), (.int 1 0), (.int 0 0), (.int 0 0), (.int 3 0), (.ref 1281), (.bool true), (.int 181 0), (.ref 1282), .none, (.ref 1283), (.ref 1284), (.ref 1285), (.int 2038 0), (.int 855 0), (.str (S "/claim/cut.py") 2039)])), #[]⟩
noncomputable def o1287 (p : Program) : Obj := ⟨(.type "function"), none, (.func (fdOf (sA p 108) (S "_make_c_string") 3 [] .none .none .none (.str (S "bson") 1624) none (.ref 1286) .none 0)), #[]⟩
noncomputable def o1288 : Obj := ⟨(.type "tuple"), none, (.seq (#[]) 0), #[]⟩
noncomputable def o1290 : Obj := ⟨(.type "tuple"), none, (.seq (#[(.str (S "string") 2044)]) 0), #[]⟩
noncomputable def o1291 : Obj := ⟨(.type "tuple"), none, (.seq (#[]) 0), #[]⟩
noncomputable def o1293 : Obj := ⟨(.type "code"), none, (.fields (#[(.str (S "_make_name") 2041), (.str (S "_make_name") 2042), (.str (S "/claim/cut.py") 2043), (.int 864 0), (.int 1 0), (.int 0 0), (.int 0 0), (.int 3 0), (.ref 1288), (.bool true), (.int 181 0), (.ref 1289), .none, (.ref 1290), (.ref 1291), (.ref 1292), (.int 2045 0), (.int 864 0), (.str (S "/claim/cut.py") 2046)])), #[]⟩
noncomputable def o1294 (p : Program) : Obj := ⟨(.type "function"), none, (.func (fdOf (sA p 109) (S "_make_name") 3 [] .none .none .none (.str (S "bson") 1624) none (.ref 1293) .none 0)), #[]⟩
noncomputable def o1295 : Obj := ⟨(.type "tuple"), none, (.seq (#[]) 0), #[]⟩
noncomputable def o1297 : Obj := ⟨(.type "tuple"), none, (.seq (#[(.str (S "name") 2051), (.str (S "value") 2052), (.str (S "dummy0") 2053), (.str (S "dummy1") 2054)]) 0), #[]⟩
noncomputable def o1298 : Obj := ⟨(.type "tuple"), none, (.seq (#[]) 0), #[]⟩
noncomputable def o1300 : Obj := ⟨(.type "code"), none, (.fields (#[(.str (S "_encode_bytes") 2048), (.str (S "_encode_bytes") 2049), (.str (S "/claim/cut.py") 2050), (.int 868 0), (.int 4 0), (.int 0 0), (.int 0 0), (.int 3 0), (.ref 1295), (.bool true), (.int 181 0), (.ref 1296), .none, (.ref 1297), (.ref 1298), (.ref 1299), (.int 2055 0), (.int 868 0), (.str (S "/claim/cut.py") 2056)])), #[]⟩
noncomputable def o1301 (p : Program) : Obj := ⟨(.type "function"), none, (.func (fdOf (sA p 110) (S "_encode_bytes") 3 [] .none .none .none (.str (S "bson") 1624) none (.ref 1300) .none 0)), #[]⟩
noncomputable def o1302 : Obj := ⟨(.type "tuple"), none, (.seq (#[]) 0), #[]⟩
noncomputable def o1305 : Obj := ⟨(.type "code"), none, (.fields (#[(.str (S "_encode_mapping") 2058), (.str (S "_encode_mapping") 2059), (.str (S "/claim/cut.py") 2060), (.int 870 0), (.int 4 0), (.int 0 0), (.int 0 0), (.int 3 0), (.ref 1302), (.bool true), (.int 181 0), (.ref 1303), .none, .none, .none, (.ref 1304), (.int 2061 0), (.int 870 0), (.str (S "/claim/cut.py") 2062)])), #[]⟩
noncomputable def o1306 (p : Program) : Obj := ⟨(.type "function"), none, (.func (fdOf (sA p 111) (S "_encode_mapping") 3 [] .none .none .none (.str (S "bson") 1624) none (.ref 1305) .none 0)), #[]⟩
noncomputable def o1307 : Obj := ⟨(.type "tuple"), none, (.seq (#[]) 0), #[]⟩
noncomputable def o1309 : Obj := ⟨(.type "tuple"), none, (.seq (#[(.str (S "name") 2067), (.str (S "value") 2068), (.str (S "check_keys") 2069), (.str (S "opts") 2070), (.str (S "buf") 2071), (.str (S "begin") 2072), (.str (S "key") 2073), (.str (S "val") 2074)]) 0), #[]⟩
noncomputable def o1310 : Obj := ⟨(.type "tuple"), none, (.seq (#[]) 0), #[]⟩
noncomputable def o1312 : Obj := ⟨(.type "code"), none, (.fields (#[(.str (S "_encode_dbref") 2064), (.str (S "_encode_dbref") 2065), (.str (S "/claim/cut.py") 2066), (.int 873 0), (.int 4 0), (.int 0 0), (.int 0 0), (.int 3 0), (.ref 1307), (.bool true), (.int 181 0), (.ref 1308), .none, (.ref 1309), (.ref 1310), (.ref 1311), (.int 2075 0), (.int 873 0), (.str (S "/claim/cut.py") 2076)])), #[]⟩
noncomputable def o1313 (p : Program) : Obj := ⟨(.type "function"), none, (.func (fdOf (sA p 112) (S "_encode_dbref") 3 [] .none .none .none (.str (S "bson") 1624) none (.ref 1312) .none 0)), #[]⟩
noncomputable def o1314 : Obj := ⟨(.type "tuple"), none, (.seq (#[]) 0), #[]⟩
noncomputable def o1317 : Obj := ⟨(.type "code"), none, (.fields (#[(.str (S "_encode_list") 2078), (.str (S "_encode_list") 2079), (.str (S "/claim/cut.py") 2080), (.int 885 0), (.int 4 0), (.int 0 0), (.int 0 0), (.int 3 0), (.ref 1314), (.bool true), (.int 181 0), (.ref 1315), .none, .none, .none, (.ref 1316), (.int 2081 0), (.int 885 0), (.str (S "/claim/cut.py") 2082)])), #[]⟩
noncomputable def o1318 (p : Program) : Obj := ⟨(.type "function"), none, (.func (fdOf (sA p 113) (S "_encode_list") 3 [] .none .none .none (.str (S "bson") 1624) none (.ref 1317) .none 0)), #[]⟩
noncomputable def o1319 : Obj := ⟨(.type "tuple"), none, (.seq (#[]) 0), #[]⟩
noncomputable def o1321 : Obj := ⟨(.type "tuple"), none, (.seq (#[(.str (S "name") 2087), (.str (S "value") 2088), (.str (S "dummy0") 2089), (.str (S "dummy1") 2090), (.str (S "bvalue") 2091)]) 0), #[]⟩
noncomputable def o1322 : Obj := ⟨(.type "tuple"), none, (.seq (#[]) 0), #[]⟩
noncomputable def o1324 : Obj := ⟨(.type "code"), none, (.fields (#[(.str (S "_encode_text") 2084), (.str (S "_encode_text") 2085), (.str (S "/claim/cut.py") 2086), (.int 888 0), (.int 4 0), (.int 0 0), (.int 0 0), (.int 3 0), (.ref 1319), (.bool true), (.int 181 0), (.ref 1320), .none, (.ref 1321), (.ref 1322), (.ref 1323), (.int 2092 0), (.int 888 0), (.str (S "/claim/cut.py") 2093)])), #[]⟩
noncomputable def o1325 (p : Program) : Obj := ⟨(.type "function"), none, (.func (fdOf (sA p 114) (S "_encode_text") 3 [] .none .none .none (.str (S "bson") 1624) none (.ref 1324) .none 0)), #[]⟩
noncomputable def o1326 : Obj := ⟨(.type "tuple"), none, (.seq (#[]) 0), #[]⟩
noncomputable def o1328 : Obj := ⟨(.type "tuple"), none, (.seq (#[(.str (S "name") 2098), (.str (S "value") 2099), (.str (S "dummy0") 2100), (.str (S "dummy1") 2101), (.str (S "subtype") 2102), (.str (S "data") 2103)]) 0), #[]⟩
noncomputable def o1329 : Obj := ⟨(.type "tuple"), none, (.seq (#[]) 0), #[]⟩
noncomputable def o1331 : Obj := ⟨(.type "code"), none, (.fields (#[(.str (S "_encode_binary") 2095), (.str (S "_encode_binary") 2096), (.str (S "/claim/cut.py") 2097), (.int 891 0), (.int 4 0), (.int 0 0), (.int 0 0), (.int 3 0), (.ref 1326), (.bool true), (.int 181 0), (.ref 1327), .none, (.ref 1328), (.ref 1329), (.ref 1330), (.int 2104 0), (.int 891 0), (.str (S "/claim/cut.py") 2105)])), #[]⟩
noncomputable def o1332 (p : Program) : Obj := ⟨(.type "function"), none, (.func (fdOf (sA p 115) (S "_encode_binary") 3 [] .none .none .none (.str (S "bson") 1624) none (.ref 1331) .none 0)), #[]⟩
noncomputable def o1333 : Obj := ⟨(.type "tuple"), none, (.seq (#[]) 0), #[]⟩
noncomputable def o1335 : Obj := ⟨(.type "tuple"), none, (.seq (#[(.str (S "name") 2110), (.str (S "value") 2111), (.str (S "dummy") 2112), (.str (S "opts") 2113), (.str (S "uuid_representation") 2114), (.str (S "binval") 2115)]) 0), #[]⟩
noncomputable def o1336 : Obj := ⟨(.type "tuple"), none, (.seq (#[]) 0), #[]⟩
noncomputable def o1338 : Obj := ⟨(.type "code"), none, (.fields (#[(.str (S "_encode_uuid") 2107), (.str (S "_encode_uuid") 2108), (.str (S "/claim/cut.py") 2109), (.int 897 0), (.int 4 0), (.int 0 0), (.int 0 0), (.int 3 0), (.ref 1333), (.bool true), (.int 181 0), (.ref 1334), .none, (.ref 1335), (.ref 1336), (.ref 1337), (.int 2116 0), (.int 897 0), (.str (S "/claim/cut.py") 2117)])), #[]⟩
noncomputable def o1339 (p : Program) : Obj := ⟨(.type "function"), none, (.func (fdOf (sA p 116) (S "_encode_uuid") 3 [] .none .none .none (.str (S "bson") 1624) none (.ref 1338) .none 0)), #[]⟩
noncomputable def o1340 : Obj := ⟨(.type "tuple"), none, (.seq (#[]) 0), #[]⟩
noncomputable def o1342 : Obj := ⟨(.type "tuple"), none, (.seq (#[(.str (S "name") 2122), (.str (S "value") 2123), (.str (S "dummy") 2124), (.str (S "dummy1") 2125)]) 0), #[]⟩
noncomputable def o1343 : Obj := ⟨(.type "tuple"), none, (.seq (#[]) 0), #[]⟩
noncomputable def o1345 : Obj := ⟨(.type "code"), none, (.fields (#[(.str (S "_encode_objectid") 2119), (.str (S "_encode_objectid") 2120), (.str (S "/claim/cut.py") 2121), (.int 901 0), (.int 4 0), (.int 0 0), (.int 0 0), (.int 3 0), (.ref 1340), (.bool true), (.int 181 0), (.ref 1341), .none, (.ref 1342), (.ref 1343), (.ref 1344), (.int 2126 0), (.int 901 0), (.str (S "/claim/cut.py") 2127)])), #[]⟩
noncomputable def o1346 (p : Program) : Obj := ⟨(.type "function"), none, (.func (fdOf (sA p 117) (S "_encode_objectid") 3 [] .none .none .none (.str (S "bson") 1624) none (.ref 1345) .none 0)), #[]⟩
noncomputable def o1347 : Obj := ⟨(.type "tuple"), none, (.seq (#[]) 0), #[]⟩
noncomputable def o1349 : Obj := ⟨(.type "tuple"), none, (.seq (#[(.str (S "name") 2132), (.str (S "value") 2133), (.str (S "dummy0") 2134), (.str (S "dummy1") 2135)]) 0), #[]⟩
noncomputable def o1350 : Obj := ⟨(.type "tuple"), none, (.seq (#[]) 0), #[]⟩
noncomputable def o1352 : Obj := ⟨(.type "code"), none, (.fields (#[(.str (S "_encode_bool") 2129), (.str (S "_encode_bool") 2130), (.str (S "/claim/cut.py") 2131), (.int 903 0), (.int 4 0), (.int 0 0), (.int 0 0), (.int 3 0), (.ref 1347), (.bool true), (.int 181 0), (.ref 1348), .none, (.ref 1349), (.ref 1350), (.ref 1351), (.int 2136 0), (.int 903 0), (.str (S "/claim/cut.py") 2137)])), #[]⟩
noncomputable def o1353 (p : Program) : Obj := ⟨(.type "function"), none, (.func (fdOf (sA p 118) (S "_encode_bool") 3 [] .none .none .none (.str (S "bson") 1624) none (.ref 1352) .none 0)), #[]⟩
noncomputable def o1354 : Obj := ⟨(.type "tuple"), none, (.seq (#[]) 0), #[]⟩
noncomputable def o1356 : Obj := ⟨(.type "tuple"), none, (.seq (#[(.str (S "name") 2142), (.str (S "value") 2143), (.str (S "dummy0") 2144), (.str (S "dummy1") 2145), (.str (S "millis") 2146)]) 0), #[]⟩
noncomputable def o1357 : Obj := ⟨(.type "tuple"), none, (.seq (#[]) 0), #[]⟩
noncomputable def o1359 : Obj := ⟨(.type "code"), none, (.fields (#[(.str (S "_encode_datetime_ms") 2139), (.str (S "_encode_datetime_ms") 2140), (.str (S "/claim/cut.py") 2141), (.int 905 0), (.int 4 0), (.int 0 0), (.int 0 0), (.int 3 0), (.ref 1354), (.bool true), (.int 181 0), (.ref 1355), .none, (.ref 1356), (.ref 1357), (.ref 1358), (.int 2147 0), (.int 905 0), (.str (S "/claim/cut.py") 2148)])), #[]⟩
noncomputable def o1360 (p : Program) : Obj := ⟨(.type "function"), none, (.func (fdOf (sA p 119) (S "_encode_datetime_ms") 3 [] .none .none .none (.str (S "bson") 1624) none (.ref 1359) .none 0)), #[]⟩
noncomputable def o1361 : Obj := ⟨(.type "tuple"), none, (.seq (#[]) 0), #[]⟩
noncomputable def o1363 : Obj := ⟨(.type "tuple"), none, (.seq (#[(.str (S "name") 2153), (.str (S "dummy0") 2154), (.str (S "dummy1") 2155), (.str (S "dummy2") 2156)]) 0), #[]⟩
noncomputable def o1364 : Obj := ⟨(.type "tuple"), none, (.seq (#[]) 0), #[]⟩
noncomputable def o1366 : Obj := ⟨(.type "code"), none, (.fields (#[(.str (S "_encode_none") 2150), (.str (S "_encode_none") 2151), (.str (S "/claim/cut.py") 2152), (.int 908 0), (.int 4 0), (.int 0 0), (.int 0 0), (.int 3 0), (.ref 1361), (.bool true), (.int 181 0), (.ref 1362), .none, (.ref 1363), (.ref 1364), (.ref 1365), (.int 2157 0), (.int 908 0), (.str (S "/claim/cut.py") 2158)])), #[]⟩
noncomputable def o1367 (p : Program) : Obj := ⟨(.type "function"), none, (.func (fdOf (sA p 120) (S "_encode_none") 3 [] .none .none .none (.str (S "bson") 1624) none (.ref 1366) .none 0)), #[]⟩
noncomputable def o1368 : Obj := ⟨(.type "tuple"), none, (.seq (#[]) 0), #[]⟩
noncomputable def o1370 : Obj := ⟨(.type "tuple"), none, (.seq (#[(.str (S "name") 2163), (.str (S "value") 2164), (.str (S "dummy0") 2165), (.str (S "dummy1") 2166), (.str (S "flags") 2167), (.str (S "sflags") 2168)]) 0), #[]⟩
noncomputable def o1371 : Obj := ⟨(.type "tuple"), none, (.seq (#[]) 0), #[]⟩
noncomputable def o1373 : Obj := ⟨(.type "code"), none, (.fields (#[(.str (S "_encode_regex") 2160), (.str (S "_encode_regex") 2161), (.str (S "/claim/cut.py") 2162), (.int 910 0), (.int 4 0), (.int 0 0), (.int 0 0), (.int 3 0), (.ref 1368), (.bool true), (.int 181 0), (.ref 1369), .none, (.ref 1370), (.ref 1371), (.ref 1372), (.int 2169 0), (.int 910 0), (.str (S "/claim/cut.py") 2170)])), #[]⟩
noncomputable def o1374 (p : Program) : Obj := ⟨(.type "function"), none, (.func (fdOf (sA p 121) (S "_encode_regex") 3 [] .none .none .none (.str (S "bson") 1624) none (.ref 1373) .none 0)), #[]⟩
noncomputable def o1375 : Obj := ⟨(.type "tuple"), none, (.seq (#[]) 0), #[]⟩
noncomputable def o1377 : Obj := ⟨(.type "tuple"), none, (.seq (#[(.str (S "name") 2175), (.str (S "value") 2176), (.str (S "dummy") 2177), (.str (S "opts") 2178), (.str (S "cstring") 2179), (.str (S "cstrlen") 2180), (.str (S "scope") 2181), (.str (S "full_length") 2182)]) 0), #[]⟩
noncomputable def o1378 : Obj := ⟨(.type "tuple"), none, (.seq (#[]) 0), #[]⟩
noncomputable def o1380 : Obj := ⟨(.type "code"), none, (.fields (#[(.str (S "_encode_code") 2172), (.str (S "_encode_code") 2173), (.str (S "/claim/cut.py") 2174), (.int 932 0), (.int 4 0), (.int 0 0), (.int 0 0), (.int 3 0), (.ref 1375), (.bool true), (.int 181 0), (.ref 1376), .none, (.ref 1377), (.ref 1378), (.ref 1379), (.int 2183 0), (.int 932 0), (.str (S "/claim/cut.py") 2184)])), #[]⟩
noncomputable def o1381 (p : Program) : Obj := ⟨(.type "function"), none, (.func (fdOf (sA p 122) (S "_encode_code") 3 [] .none .none .none (.str (S "bson") 1624) none (.ref 1380) .none 0)), #[]⟩
noncomputable def o1382 : Obj := ⟨(.type "tuple"), none, (.seq (#[]) 0), #[]⟩
noncomputable def o1384 : Obj := ⟨(.type "tuple"), none, (.seq (#[(.str (S "name") 2189), (.str (S "value") 2190), (.str (S "dummy0") 2191), (.str (S "dummy1") 2192)]) 0), #[]⟩
noncomputable def o1385 : Obj := ⟨(.type "tuple"), none, (.seq (#[]) 0), #[]⟩
noncomputable def o1387 : Obj := ⟨(.type "code"), none, (.fields (#[(.str (S "_encode_int") 2186), (.str (S "_encode_int") 2187), (.str (S "/claim/cut.py") 2188), (.int 940 0), (.int 4 0), (.int 0 0), (.int 0 0), (.int 3 0), (.ref 1382), (.bool true), (.int 181 0), (.ref 1383), .none, (.ref 1384), (.ref 1385), (.ref 1386), (.int 2193 0), (.int 940 0), (.str (S "/claim/cut.py") 2194)])), #[]⟩
noncomputable def o1388 (p : Program) : Obj := ⟨(.type "function"), none, (.func (fdOf (sA p 123) (S "_encode_int") 3 [] .none .none .none (.str (S "bson") 1624) none (.ref 1387) .none 0)), #[]⟩
noncomputable def o1389 : Obj := ⟨(.type "tuple"), none, (.seq (#[]) 0), #[]⟩
noncomputable def o1391 : Obj := ⟨(.type "tuple"), none, (.seq (#[(.str (S "name") 2199), (.str (S "value") 2200), (.str (S "dummy0") 2201), (.str (S "dummy1") 2202)]) 0), #[]⟩
noncomputable def o1392 : Obj := ⟨(.type "tuple"), none, (.seq (#[]) 0), #[]⟩
noncomputable def o1394 : Obj := ⟨(.type "code"), none, (.fields (#[(.str (S "_encode_timestamp") 2196), (.str (S "_encode_timestamp") 2197), (.str (S "/claim/cut.py") 2198), (.int 948 0), (.int 4 0), (.int 0 0), (.int 0 0), (.int 3 0), (.ref 1389), (.bool true), (.int 181 0), (.ref 1390), .none, (.ref 1391), (.ref 1392), (.ref 1393), (.int 2203 0), (.int 948 0), (.str (S "/claim/cut.py") 2204)])), #[]⟩
noncomputable def o1395 (p : Program) : Obj := ⟨(.type "function"), none, (.func (fdOf (sA p 124) (S "_encode_timestamp") 3 [] .none .none .none (.str (S "bson") 1624) none (.ref 1394) .none 0)), #[]⟩
noncomputable def o1396 : Obj := ⟨(.type "tuple"), none, (.seq (#[]) 0), #[]⟩
noncomputable def o1398 : Obj := ⟨(.type "tuple"), none, (.seq (#[(.str (S "name") 2209), (.str (S "value") 2210), (.str (S "dummy0") 2211), (.str (S "dummy1") 2212)]) 0), #[]⟩
noncomputable def o1399 : Obj := ⟨(.type "tuple"), none, (.seq (#[]) 0), #[]⟩
noncomputable def o1401 : Obj := ⟨(.type "code"), none, (.fields (#[(.str (S "_encode_long") 2206), (.str (S "_encode_long") 2207), (.str (S "/claim/cut.py") 2208), (.int 950 0), (.int 4 0), (.int 0 0), (.int 0 0), (.int 3 0), (.ref 1396), (.bool true), (.int 181 0), (.ref 1397), .none, (.ref 1398), (.ref 1399), (.ref 1400), (.int 2213 0), (.int 950 0), (.str (S "/claim/cut.py") 2214)])), #[]⟩
noncomputable def o1402 (p : Program) : Obj := ⟨(.type "function"), none, (.func (fdOf (sA p 125) (S "_encode_long") 3 [] .none .none .none (.str (S "bson") 1624) none (.ref 1401) .none 0)), #[]⟩
noncomputable def o1403 : Obj := ⟨(.type "tuple"), none, (.seq (#[]) 0), #[]⟩
noncomputable def o1405 : Obj := ⟨(.type "tuple"), none, (.seq (#[(.str (S "name") 2219), (.str (S "value") 2220), (.str (S "dummy0") 2221), (.str (S "dummy1") 2222)]) 0), #[]⟩
noncomputable def o1406 : Obj := ⟨(.type "tuple"), none, (.seq (#[]) 0), #[]⟩
noncomputable def o1408 : Obj := ⟨(.type "code"), none, (.fields (#[(.str (S "_encode_decimal128") 2216), (.str (S "_encode_decimal128") 2217), (.str (S "/claim/cut.py") 2218), (.int 955 0), (.int 4 0), (.int 0 0), (.int 0 0), (.int 3 0), (.ref 1403), (.bool true), (.int 181 0), (.ref 1404), .none, (.ref 1405), (.ref 1406), (.ref 1407), (.int 2223 0), (.int 955 0), (.str (S "/claim/cut.py") 2224)])), #[]⟩
noncomputable def o1409 (p : Program) : Obj := ⟨(.type "function"), none, (.func (fdOf (sA p 126) (S "_encode_decimal128") 3 [] .none .none .none (.str (S "bson") 1624) none (.ref 1408) .none 0)), #[]⟩
noncomputable def o1410 : Obj := ⟨(.type "tuple"), none, (.seq (#[]) 0), #[]⟩
noncomputable def o1412 : Obj := ⟨(.type "tuple"), none, (.seq (#[(.str (S "name") 2229), (.str (S "dummy0") 2230), (.str (S "dummy1") 2231), (.str (S "dummy2") 2232)]) 0), #[]⟩
noncomputable def o1413 : Obj := ⟨(.type "tuple"), none, (.seq (#[]) 0), #[]⟩
noncomputable def o1415 : Obj := ⟨(.type "code"), none, (.fields (#[(.str (S "_encode_minkey") 2226), (.str (S "_encode_minkey") 2227), (.str (S "/claim/cut.py") 2228), (.int 957 0), (.int 4 0), (.int 0 0), (.int 0 0), (.int 3 0), (.ref 1410), (.bool true), (.int 181 0), (.ref 1411), .none, (.ref 1412), (.ref 1413), (.ref 1414), (.int 2233 0), (.int 957 0), (.str (S "/claim/cut.py") 2234)])), #[]⟩
noncomputable def o1416 (p : Program) : Obj := ⟨(.type "function"), none, (.func (fdOf (sA p 127) (S "_encode_minkey") 3 [] .none .none .none (.str (S "bson") 1624) none (.ref 1415) .none 0)), #[]⟩
noncomputable def o1417 : Obj := ⟨(.type "tuple"), none, (.seq (#[]) 0), #[]⟩
noncomputable def o1419 : Obj := ⟨(.type "tuple"), none, (.seq (#[(.str (S "name") 2239), (.str (S "dummy0") 2240), (.str (S "dummy1") 2241), (.str (S "dummy2") 2242)]) 0), #[]⟩
noncomputable def o1420 : Obj := ⟨(.type "tuple"), none, (.seq (#[]) 0), #[]⟩
noncomputable def o1422 : Obj := ⟨(.type "code"), none, (.fields (#[(.str (S "_encode_maxkey") 2236), (.str (S "_encode_maxkey") 2237), (.str (S "/claim/cut.py") 2238), (.int 959 0), (.int 4 0), (.int 0 0), (.int 0 0), (.int 3 0), (.ref 1417), (.bool true), (.int 181 0), (.ref 1418), .none, (.ref 1419), (.ref 1420), (.ref 1421), (.int 2243 0), (.int 959 0), (.str (S "/claim/cut.py") 2244)])), #[]⟩
noncomputable def o1423 (p : Program) : Obj := ⟨(.type "function"), none, (.func (fdOf (sA p 128) (S "_encode_maxkey") 3 [] .none .none .none (.str (S "bson") 1624) none (.ref 1422) .none 0)), #[]⟩
noncomputable def o1424 : Obj := ⟨(.type "tuple"), none, (.seq (#[(.bool false)]) 0), #[]⟩
noncomputable def o1425 : Obj := ⟨(.type "tuple"), none, (.seq (#[]) 0), #[]⟩
noncomputable def o1427 : Obj := ⟨(.type "tuple"), none, (.seq (#[(.str (S "name") 2249), (.str (S "value") 2250), (.str (S "check_keys") 2251), (.str (S "opts") 2252), (.str (S "in_fallback_call") 2253), (.str (S "was_integer_overflow") 2254), (.str (S "fallback_encoder") 2255)]) 0), #[]⟩
noncomputable def o1428 : Obj := ⟨(.type "tuple"), none, (.seq (#[]) 0), #[]⟩
noncomputable def o1430 : Obj := ⟨(.type "code"), none, (.fields (#[(.str (S "_name_value_to_bson") 2246), (.str (S "_name_value_to_bson") 2247), (.str (S "/claim/cut.py") 2248), (.int 961 0), (.int 5 0), (.int 0 0), (.int 0 0), (.int 3 0), (.ref 1425), (.bool true), (.int 181 0), (.ref 1426), .none, (.ref 1427), (.ref 1428), (.ref 1429), (.int 2256 0), (.int 961 0), (.str (S "/claim/cut.py") 2257)])), #[]⟩
noncomputable def o1431 (p : Program) : Obj := ⟨(.type "function"), none, (.func (fdOf (sA p 129) (S "_name_value_to_bson") 3 [] (.ref 1424) .none .none (.str (S "bson") 1624) none (.ref 1430) .none 0)), #[]⟩
noncomputable def o1432 : Obj := ⟨(.type "tuple"), none, (.seq (#[]) 0), #[]⟩
noncomputable def o1434 : Obj := ⟨(.type "tuple"), none, (.seq (#[(.str (S "key") 2262), (.str (S "value") 2263), (.str (S "check_keys") 2264), (.str (S "opts") 2265), (.str (S "name") 2266)]) 0), #[]⟩
noncomputable def o1435 : Obj := ⟨(.type "tuple"), none, (.seq (#[]) 0), #[]⟩
noncomputable def o1437 : Obj := ⟨(.type "code"), none, (.fields (#[(.str (S "_element_to_bson") 2259), (.str (S "_element_to_bson") 2260), (.str (S "/claim/cut.py") 2261), (.int 1010 0), (.int 4 0), (.int 0 0), (.int 0 0), (.int 3 0), (.ref 1432), (.bool true), (.int 181 0), (.ref 1433), .none, (.ref 1434), (.ref 1435), (.ref 1436), (.int 2267 0), (.int 1010 0), (.str (S "/claim/cut.py") 2268)])), #[]⟩
noncomputable def o1438 (p : Program) : Obj := ⟨(.type "function"), none, (.func (fdOf (sA p 130) (S "_element_to_bson") 3 [] .none .none .none (.str (S "bson") 1624) none (.ref 1437) .none 0)), #[]⟩
noncomputable def o1439 : Obj := ⟨(.type "tuple"), none, (.seq (#[(.bool true)]) 0), #[]⟩
noncomputable def o1440 : Obj := ⟨(.type "tuple"), none, (.seq (#[]) 0), #[]⟩
noncomputable def o1442 : Obj := ⟨(.type "tuple"), none, (.seq (#[(.str (S "doc") 2273), (.str (S "check_keys") 2274), (.str (S "opts") 2275), (.str (S "top_level") 2276), (.str (S "elements") 2277), (.str (S "key") 2278), (.str (S "value") 2279), (.str (S "err") 2280), (.str (S "encoded") 2281)]) 0), #[]⟩
noncomputable def o1443 : Obj := ⟨(.type "tuple"), none, (.seq (#[]) 0), #[]⟩
noncomputable def o1445 : Obj := ⟨(.type "code"), none, (.fields (#[(.str (S "_dict_to_bson") 2270), (.str (S "_dict_to_bson") 2271), (.str (S "/claim/cut.py") 2272), (.int 1020 0), (.int 4 0), (.int 0 0), (.int 0 0), (.int 3 0), (.ref 1440), (.bool true), (.int 181 0), (.ref 1441), .none, (.ref 1442), (.ref 1443), (.ref 1444), (.int 2282 0), (.int 1020 0), (.str (S "/claim/cut.py") 2283)])), #[]⟩
noncomputable def o1446 (p : Program) : Obj := ⟨(.type "function"), none, (.func (fdOf (sA p 131) (S "_dict_to_bson") 3 [] (.ref 1439) .none .none (.str (S "bson") 1624) none (.ref 1445) .none 0)), #[]⟩
noncomputable def o1447 : Obj := ⟨(.type "tuple"), none, (.seq (#[(.bool false), (.ref 262)]) 0), #[]⟩
noncomputable def o1448 : Obj := ⟨(.type "tuple"), none, (.seq (#[]) 0), #[]⟩
noncomputable def o1450 : Obj := ⟨(.type "tuple"), none, (.seq (#[(.str (S "document") 2288), (.str (S "check_keys") 2289), (.str (S "codec_options") 2290)]) 0), #[]⟩
noncomputable def o1451 : Obj := ⟨(.type "tuple"), none, (.seq (#[]) 0), #[]⟩
noncomputable def o1453 : Obj := ⟨(.type "code"), none, (.fields (#[(.str (S "encode") 2285), (.str (S "encode") 2286), (.str (S "/claim/cut.py") 2287), (.int 1034 0), (.int 3 0), (.int 0 0), (.int 0 0), (.int 3 0), (.ref 1448), (.bool true), (.int 181 0), (.ref 1449), .none, (.ref 1450), (.ref 1451), (.ref 1452), (.int 2291 0), (.int 1034 0), (.str (S "/claim/cut.py") 2292)])), #[]⟩
noncomputable def o1454 (p : Program) : Obj := ⟨(.type "function"), none, (.func (fdOf (sA p 132) (S "encode") 3 [] (.ref 1447) .none .none (.str (S "bson") 1624) none (.ref 1453) .none 0)), #[]⟩
noncomputable def o1455 : Obj := ⟨(.type "tuple"), none, (.seq (#[.none]) 0), #[]⟩
noncomputable def o1456 : Obj := ⟨(.type "tuple"), none, (.seq (#[]) 0), #[]⟩
noncomputable def o1458 : Obj := ⟨(.type "tuple"), none, (.seq (#[(.str (S "data") 2297), (.str (S "codec_options") 2298), (.str (S "opts") 2299)]) 0), #[]⟩
noncomputable def o1459 : Obj := ⟨(.type "tuple"), none, (.seq (#[]) 0), #[]⟩
noncomputable def o1461 : Obj := ⟨(.type "code"), none, (.fields (#[(.str (S "decode") 2294), (.str (S "decode") 2295), (.str (S "/claim/cut.py") 2296), (.int 1038 0), (.int 2 0), (.int 0 0), (.int 0 0), (.int 3 0), (.ref 1456), (.bool true), (.int 181 0), (.ref 1457), .none, (.ref 1458), (.ref 1459), (.ref 1460), (.int 2300 0), (.int 1038 0), (.str (S "/claim/cut.py") 2301)])), #[]⟩
noncomputable def o1462 (p : Program) : Obj := ⟨(.type "function"), none, (.func (fdOf (sA p 133) (S "decode") 3 [] (.ref 1455) .none .none (.str (S "bson") 1624) none (.ref 1461) .none 0)), #[]⟩
noncomputable def o1463 : Obj := ⟨(.type "tuple"), none, (.seq (#[]) 0), #[]⟩
noncomputable def o1465 : Obj := ⟨(.type "tuple"), none, (.seq (#[(.str (S "what") 2308)]) 0), #[]⟩
noncomputable def o1466 : Obj := ⟨(.type "tuple"), none, (.seq (#[]) 0), #[]⟩
noncomputable def o1468 : Obj := ⟨(.type "code"), none, (.fields (#[(.str (S "_law_made") 2305), (.str (S "_law_made") 2306), (.str (S "/claim/cut.py") 2307), (.int 1044 0), (.int 1 0), (.int 0 0), (.int 0 0), (.int 3 0), (.ref 1463), (.bool true), (.int 181 0), (.ref 1464), .none, (.ref 1465), (.ref 1466), (.ref 1467), (.int 2309 0), (.int 1044 0), (.str (S "/claim/cut.py") 2310)])), #[]⟩
noncomputable def o1469 (p : Program) : Obj := ⟨(.type "function"), none, (.func (fdOf (sA p 135) (S "_law_made") 3 [] .none .none .none (.str (S "law_an0026_01") 2303) none (.ref 1468) .none 0)), #[]⟩
noncomputable def o1470 : Obj := ⟨(.type "tuple"), none, (.seq (#[]) 0), #[]⟩
noncomputable def o1472 : Obj := ⟨(.type "tuple"), none, (.seq (#[(.str (S "one") 2315), (.str (S "two") 2316)]) 0), #[]⟩
noncomputable def o1473 : Obj := ⟨(.type "tuple"), none, (.seq (#[]) 0), #[]⟩
noncomputable def o1475 : Obj := ⟨(.type "code"), none, (.fields (#[(.str (S "_law_orders") 2312), (.str (S "_law_orders") 2313), (.str (S "/claim/cut.py") 2314), (.int 1051 0), (.int 2 0), (.int 0 0), (.int 0 0), (.int 3 0), (.ref 1470), (.bool true), (.int 181 0), (.ref 1471), .none, (.ref 1472), (.ref 1473), (.ref 1474), (.int 2317 0), (.int 1051 0), (.str (S "/claim/cut.py") 2318)])), #[]⟩
noncomputable def o1476 (p : Program) : Obj := ⟨(.type "function"), none, (.func (fdOf (sA p 136) (S "_law_orders") 3 [] .none .none .none (.str (S "law_an0026_01") 2303) none (.ref 1475) .none 0)), #[]⟩
noncomputable def o1477 : Obj := ⟨(.type "tuple"), none, (.seq (#[]) 0), #[]⟩
noncomputable def o1479 : Obj := ⟨(.type "tuple"), none, (.seq (#[(.str (S "time") 2323), (.str (S "inc") 2324), (.str (S "stamp") 2325)]) 0), #[]⟩
noncomputable def o1480 : Obj := ⟨(.type "tuple"), none, (.seq (#[]) 0), #[]⟩
noncomputable def o1482 : Obj := ⟨(.type "code"), none, (.fields (#[(.str (S "_law_stamp") 2320), (.str (S "_law_stamp") 2321), (.str (S "/claim/cut.py") 2322), (.int 1053 0), (.int 2 0), (.int 0 0), (.int 0 0), (.int 3 0), (.ref 1477), (.bool true), (.int 181 0), (.ref 1478), .none, (.ref 1479), (.ref 1480), (.ref 1481), (.int 2326 0), (.int 1053 0), (.str (S "/claim/cut.py") 2327)])), #[]⟩
noncomputable def o1483 (p : Program) : Obj := ⟨(.type "function"), none, (.func (fdOf (sA p 137) (S "_law_stamp") 3 [] .none .none .none (.str (S "law_an0026_01") 2303) none (.ref 1482) .none 0)), #[]⟩
noncomputable def o1484 : Obj := ⟨(.type "tuple"), none, (.seq (#[]) 0), #[]⟩
noncomputable def o1486 : Obj := ⟨(.type "tuple"), none, (.seq (#[(.str (S "n") 2332)]) 0), #[]⟩
noncomputable def o1487 : Obj := ⟨(.type "tuple"), none, (.seq (#[]) 0), #[]⟩
noncomputable def o1489 : Obj := ⟨(.type "code"), none, (.fields (#[(.str (S "_law_little") 2329), (.str (S "_law_little") 2330), (.str (S "/claim/cut.py") 2331), (.int 1061 0), (.int 1 0), (.int 0 0), (.int 0 0), (.int 3 0), (.ref 1484), (.bool true), (.int 181 0), (.ref 1485), .none, (.ref 1486), (.ref 1487), (.ref 1488), (.int 2333 0), (.int 1061 0), (.str (S "/claim/cut.py") 2334)])), #[]⟩
noncomputable def o1490 (p : Program) : Obj := ⟨(.type "function"), none, (.func (fdOf (sA p 138) (S "_law_little") 3 [] .none .none .none (.str (S "law_an0026_01") 2303) none (.ref 1489) .none 0)), #[]⟩
noncomputable def o1491 : Obj := ⟨(.type "tuple"), none, (.seq (#[]) 0), #[]⟩
noncomputable def o1494 : Obj := ⟨(.type "code"), none, (.fields (#[(.str (S "law") 2336), (.str (S "law") 2337), (.str (S "/claim/cut.py") 2338), (.int 1063 0), (.int 1 0), (.int 0 0), (.int 0 0), (.int 3 0), (.ref 1491), (.bool true), (.int 181 0), (.ref 1492), .none, .none, .none, (.ref 1493), (.int 2339 0), (.int 1063 0), (.str (S "/claim/cut.py") 2340)])), #[]⟩
noncomputable def o1495 (p : Program) : Obj := ⟨(.type "function"), none, (.func (fdOf (sA p 139) (S "law") 3 [] .none .none .none (.str (S "law_an0026_01") 2303) none (.ref 1494) .none 0)), #[]⟩
noncomputable def tree (p : Program) (P : Params) : BT := (.node ⟨(.type "dict"), none, (.dict (List.toArray (dE P (S "__name__") 1 (.str (S "builtins") 160) :: dE P (S "__doc__") 2 (.builtin "builtins.__doc__:str#opaque") :: dE P (S "__package__") 3 (.builtin "builtins.__package__:str#opaque") :: dE P (S "__loader__") 4 (.builtin "builtins.__loader__:shared#opaque") :: dE P (S "__spec__") 5 (.builtin "builtins.__spec__#opaque") :: dE P (S "__build_class__") 6 (.builtin "__build_class__") :: dE P (S "__import__") 7 (.builtin "__import__") :: dE P (S "abs") 8 (.builtin "abs") :: dE P (S "all") 9 (.builtin "all") :: dE P (S "any") 10 (.builtin "any") :: dE P (S "ascii") 11 (.builtin "ascii") :: dE P (S "bin") 12 (.builtin "bin") :: dE P (S "breakpoint") 13 (.builtin "breakpoint") :: dE P (S "callable") 14 (.builtin "callable") :: dE P (S "chr") 15 (.builtin "chr") :: dE P (S "compile") 16 (.builtin "compile") :: dE P (S "delattr") 17 (.builtin "delattr") :: dE P (S "dir") 18 (.builtin "dir") :: dE P (S "divmod") 19 (.builtin "divmod") :: dE P (S "eval") 20 (.builtin "eval") :: dE P (S "exec") 21 (.builtin "exec") :: dE P (S "format") 22 (.builtin "format") :: dE P (S "getattr") 23 (.builtin "getattr") :: dE P (S "globals") 24 (.builtin "globals") :: dE P (S "hasattr") 25 (.builtin "hasattr") :: dE P (S "hash") 26 (.builtin "hash") :: dE P (S "hex") 27 (.builtin "hex") :: dE P (S "id") 28 (.builtin "id") :: dE P (S "input") 29 (.builtin "input") :: dE P (S "isinstance") 30 (.builtin "isinstance") :: dE P (S "issubclass") 31 (.builtin "issubclass") :: dE P (S "iter") 32 (.builtin "iter") :: dE P (S "aiter") 33 (.builtin "aiter") :: dE P (S "len") 34 (.builtin "len") :: dE P (S "locals") 35 (.builtin "locals") :: dE P (S "max") 36 (.builtin "max") :: dE P (S "min") 37 (.builtin "min") :: dE P (S "next") 38 (.builtin "next") :: dE P (S "anext") 39 (.builtin "anext") :: dE P (S "oct") 40 (.builtin "oct") :: dE P (S "ord") 41 (.builtin "ord") :: dE P (S "pow") 42 (.builtin "pow") :: dE P (S "print") 43 (.builtin "print") :: dE P (S "repr") 44 (.builtin "repr") :: dE P (S "round") 45 (.builtin "round") :: dE P (S "setattr") 46 (.builtin "setattr") :: dE P (S "sorted") 47 (.builtin "sorted") :: dE P (S "sum") 48 (.builtin "sum") :: dE P (S "vars") 49 (.builtin "vars") :: dE P (S "None") 50 .none :: dE P (S "Ellipsis") 51 .ellipsis :: dE P (S "NotImplemented") 52 .notImplemented :: dE P (S "False") 53 (.bool false) :: dE P (S "True") 54 (.bool true) :: dE P (S "bool") 55 (.type "bool") :: dE P (S "memoryview") 56 (.type "memoryview") :: dE P (S "bytearray") 57 (.type "bytearray") :: dE P (S "bytes") 58 (.type "bytes") :: dE P (S "classmethod") 59 (.type "classmethod") :: dE P (S "complex") 60 (.type "complex") :: dE P (S "dict") 61 (.type "dict") :: dE P (S "enumerate") 62 (.type "enumerate") :: dE P (S "filter") 63 (.type "filter") :: dE P (S "float") 64 (.type "float") :: dE P (S "frozenset") 65 (.type "frozenset") :: dE P (S "property") 66 (.type "property") :: dE P (S "int") 67 (.type "int") :: dE P (S "list") 68 (.type "list") :: dE P (S "map") 69 (.type "map") :: dE P (S "object") 70 (.type "object") :: dE P (S "range") 71 (.type "range") :: dE P (S "reversed") 72 (.type "reversed") :: dE P (S "set") 73 (.type "set") :: dE P (S "slice") 74 (.type "slice") :: dE P (S "staticmethod") 75 (.type "staticmethod") :: dE P (S "str") 76 (.type "str") :: dE P (S "super") 77 (.type "super") :: dE P (S "tuple") 78 (.type "tuple") :: dE P (S "type") 79 (.type "type") :: dE P (S "zip") 80 (.type "zip") :: dE P (S "__debug__") 81 (.bool true) :: dE P (S "BaseException") 82 (.type "BaseException") :: dE P (S "BaseExceptionGroup") 83 (.type "BaseExceptionGroup") :: dE P (S "Exception") 84 (.type "Exception") :: dE P (S "GeneratorExit") 85 (.type "GeneratorExit") :: dE P (S "KeyboardInterrupt") 86 (.type "KeyboardInterrupt") :: dE P (S "SystemExit") 87 (.type "SystemExit") :: dE P (S "ArithmeticError") 88 (.type "ArithmeticError") :: dE P (S "AssertionError") 89 (.type "AssertionError") :: dE P (S "AttributeError") 90 (.type "AttributeError") :: dE P (S "BufferError") 91 (.type "BufferError") :: dE P (S "EOFError") 92 (.type "EOFError") :: dE P (S "ImportError") 93 (.type "ImportError") :: dE P (S "LookupError") 94 (.type "LookupError") :: dE P (S "MemoryError") 95 (.type "MemoryError") :: dE P (S "NameError") 96 (.type "NameError") :: dE P (S "OSError") 97 (.type "OSError") :: dE P (S "ReferenceError") 98 (.type "ReferenceError") :: dE P (S "RuntimeError") 99 (.type "RuntimeError") :: dE P (S "StopAsyncIteration") 100 (.type "StopAsyncIteration") :: dE P (S "StopIteration") 101 (.type "StopIteration") :: dE P (S "SyntaxError") 102 (.type "SyntaxError") :: dE P (S "SystemError") 103 (.type "SystemError") :: dE P (S "TypeError") 104 (.type "TypeError") :: dE P (S "ValueError") 105 (.type "ValueError") :: dE P (S "Warning") 106 (.type "Warning") :: dE P (S "FloatingPointError") 107 (.type "FloatingPointError") :: dE P (S "OverflowError") 108 (.type "OverflowError") :: dE P (S "ZeroDivisionError") 109 (.type "ZeroDivisionError") :: dE P (S "BytesWarning") 110 (.type "BytesWarning") :: dE P (S "DeprecationWarning") 111 (.type "DeprecationWarning") :: dE P (S "EncodingWarning") 112 (.type "EncodingWarning") :: dE P (S "FutureWarning") 113 (.type "FutureWarning") :: dE P (S "ImportWarning") 114 (.type "ImportWarning") :: dE P (S "PendingDeprecationWarning") 115 (.type "PendingDeprecationWarning") :: dE P (S "ResourceWarning") 116 (.type "ResourceWarning") :: dE P (S "RuntimeWarning") 117 (.type "RuntimeWarning") :: dE P (S "SyntaxWarning") 118 (.type "SyntaxWarning") :: dE P (S "UnicodeWarning") 119 (.type "UnicodeWarning") :: dE P (S "UserWarning") 120 (.type "UserWarning") :: dE P (S "BlockingIOError") 121 (.type "BlockingIOError") :: dE P (S "ChildProcessError") 122 (.type "ChildProcessError") :: dE P (S "ConnectionError") 123 (.type "ConnectionError") :: dE P (S "FileExistsError") 124 (.type "FileExistsError") :: dE P (S "FileNotFoundError") 125 (.type "FileNotFoundError") :: dE P (S "InterruptedError") 126 (.type "InterruptedError") :: dE P (S "IsADirectoryError") 127 (.type "IsADirectoryError") :: dE P (S "NotADirectoryError") 128 (.type "NotADirectoryError") :: dE P (S "PermissionError") 129 (.type "PermissionError") :: dE P (S "ProcessLookupError") 130 (.type "ProcessLookupError") :: dE P (S "TimeoutError") 131 (.type "TimeoutError") :: dE P (S "IndentationError") 132 (.type "IndentationError") :: dE P (S "_IncompleteInputError") 133 (.type "_IncompleteInputError") :: dE P (S "IndexError") 134 (.type "IndexError") :: dE P (S "KeyError") 135 (.type "KeyError") :: dE P (S "ModuleNotFoundError") 136 (.type "ModuleNotFoundError") :: dE P (S "NotImplementedError") 137 (.type "NotImplementedError") :: dE P (S "PythonFinalizationError") 138 (.type "PythonFinalizationError") :: dE P (S "RecursionError") 139 (.type "RecursionError") :: dE P (S "UnboundLocalError") 140 (.type "UnboundLocalError") :: dE P (S "UnicodeError") 141 (.type "UnicodeError") :: dE P (S "BrokenPipeError") 142 (.type "BrokenPipeError") :: dE P (S "ConnectionAbortedError") 143 (.type "ConnectionAbortedError") :: dE P (S "ConnectionRefusedError") 144 (.type "ConnectionRefusedError") :: dE P (S "ConnectionResetError") 145 (.type "ConnectionResetError") :: dE P (S "TabError") 146 (.type "TabError") :: dE P (S "UnicodeDecodeError") 147 (.type "UnicodeDecodeError") :: dE P (S "UnicodeEncodeError") 148 (.type "UnicodeEncodeError") :: dE P (S "UnicodeTranslateError") 149 (.type "UnicodeTranslateError") :: dE P (S "ExceptionGroup") 150 (.type "ExceptionGroup") :: dE P (S "EnvironmentError") 151 (.type "OSError") :: dE P (S "IOError") 152 (.type "OSError") :: dE P (S "open") 153 (.builtin "open") :: dE P (S "quit") 154 (.builtin "builtins.quit#opaque") :: dE P (S "exit") 155 (.builtin "builtins.exit#opaque") :: dE P (S "copyright") 156 (.builtin "builtins.copyright#opaque") :: dE P (S "credits") 157 (.builtin "builtins.credits#opaque") :: dE P (S "license") 158 (.builtin "builtins.license#opaque") :: dE P (S "help") 159 (.builtin "builtins.help#opaque") :: [])) 159), #[]⟩ (.node (o1 P) (.node (o3 P) (.node ⟨(.type "tuple"), none, (.seq (#[]) 0), #[]⟩ (.node o15 (.node ⟨.none, none, (.fields (#[])), #[]⟩ (.node ⟨(.type "code"), none, (.fields (#[(.str (S "UuidRepresentation") 252), (.str (S "UuidRepresentation") 253), (.str (S "/claim/cut.py") 254), (.int 20 0), (.int 0 0), (.int 0 0), (.int 0 0), (.int 0 0), (.ref 61), (.bool false), (.int 181 0), (.ref 62), .none, .none, .none, .none, (.int 255 0), (.int 20 0), (.str (S "/claim/cut.py") 256)])), #[]⟩ (.node (o127 p) (.node (o255 P) (.node o511 (.node (o1023 P) .nil .nil) .nil) (.node ⟨.none, none, (.fields (#[])), #[]⟩ (.node o1279 .nil .nil) .nil)) (.node o383 (.node ⟨(.type "frame"), none, .plain, #[(some (.ref 638)), (some (.ref 3)), (some (.ref 635)), none, (some (.str (S "bson.int64") 1093)), none, (some (.ref 0))]⟩ (.node o1151 .nil .nil) .nil) (.node o895 (.node ⟨.none, none, (.func (fdOf (sA p 126) (S "_encode_decimal128") 0 [] .none .none .none .none none .none .none 0)), #[]⟩ .nil .nil) .nil))) (.node ⟨.none, none, (.func (fdOf (sB p 14 4) (S "Code.__ne__") 0 [] .none .none .none .none none .none .none 0)), #[]⟩ (.node ⟨.none, none, (.fields (#[])), #[]⟩ (.node (o575 P) (.node o1087 .nil .nil) .nil) (.node ⟨.none, none, (.fields (#[])), #[]⟩ (.node o1343 .nil .nil) .nil)) (.node (o447 p) (.node o703 (.node ⟨.none, none, (.func (fdOf (sA p 98) (S "_get_decimal128") 0 [] .none .none .none .none none .none .none 0)), #[]⟩ .nil .nil) .nil) (.node o959 (.node ⟨.none, none, (.fields (#[])), #[]⟩ .nil .nil) .nil)))) (.node ⟨.none, none, (.func (fdOf (sB p 12 2) (S "Binary.from_uuid") 0 [] .none .none .none .none none .none .none 0)), #[]⟩ (.node ⟨(.type "dict"), none, (.dict (#[dE P (S "__module__") 444 (.str (S "bson.code") 435), dE P (S "__qualname__") 446 (.str (S "Code") 445), dE P (S "__firstlineno__") 448 (.int 108 447), dE P (S "_type_marker") 450 (.int 13 449), dE P (S "__init__") 460 (.ref 171), dE P (S "scope") 468 (.ref 179), dE P (S "__eq__") 476 (.ref 186), dE P (S "__ne__") 484 (.ref 193), dE P (S "__static_attributes__") 487 (.ref 194)]) 9), #[]⟩ (.node ⟨.none, none, (.func (fdOf (sB p 20 1) (S "DatetimeMS.__lt__") 0 [] .none .none .none .none none .none .none 0)), #[]⟩ (.node o543 (.node o1055 .nil .nil) .nil) (.node o799 (.node ⟨.none, none, (.func (fdOf (sA p 112) (S "_encode_dbref") 0 [] .none .none .none .none none .none .none 0)), #[]⟩ .nil .nil) .nil)) (.node o415 (.node o671 (.node o1183 .nil .nil) .nil) (.node o927 (.node o1439 .nil .nil) .nil))) (.node o223 (.node ⟨.none, none, (.func (fdOf (sB p 22 1) (S "DBRef.__init__") 0 [] .none .none .none .none none .none .none 0)), #[]⟩ (.node (o607 p) (.node (o1119 p) .nil .nil) .nil) (.node o863 (.node o1375 .nil .nil) .nil)) (.node o479 (.node ⟨.none, none, (.func (fdOf (sB p 52 1) (S "MinKey.__eq__") 0 [] .none .none .none .none none .none .none 0)), #[]⟩ (.node ⟨.none, none, (.fields (#[])), #[]⟩ .nil .nil) .nil) (.node ⟨.none, none, (.func (fdOf (sB p 70 5) (S "Timestamp.__ne__") 0 [] .none .none .none .none none .none .none 0)), #[]⟩ .nil .nil))))) (.node o47 (.node ⟨.none, none, (.fields (#[(.int 38 0), (.int 4 0), (.ref 88), (.int 47 0), (.int 4 0), (.ref 96), (.int 67 0), (.int 4 0), (.ref 107), (.int 90 0), (.int 4 0), (.ref 115), (.int 93 0), (.int 4 0), (.ref 126), (.int 97 0), (.int 4 0), (.ref 133), (.int 100 0), (.int 4 0), (.ref 141), (.int 105 0), (.int 4 0), (.ref 148)])), #[]⟩ (.node o143 (.node ⟨(.type "dict"), none, (.dict (#[dE P (S "__module__") 608 (.str (S "bson.datetime_ms") 599), dE P (S "__qualname__") 610 (.str (S "DatetimeMS") 609), dE P (S "__firstlineno__") 612 (.int 176 611), dE P (S "__init__") 620 (.ref 282), dE P (S "__lt__") 628 (.ref 289), dE P (S "__le__") 636 (.ref 296), dE P (S "__eq__") 644 (.ref 303), dE P (S "__ne__") 652 (.ref 310), dE P (S "__gt__") 660 (.ref 317), dE P (S "__ge__") 668 (.ref 324), dE P (S "_type_marker") 670 (.int 9 669), dE P (S "__int__") 677 (.ref 331), dE P (S "__static_attributes__") 679 (.ref 332)]) 13), #[]⟩ (.node o527 (.node o1039 .nil .nil) .nil) (.node o783 (.node o1295 .nil .nil) .nil)) (.node ⟨(.type "tuple"), none, (.seq (#[]) 0), #[]⟩ (.node (o655 P) (.node o1167 .nil .nil) .nil) (.node ⟨.none, none, (.func (fdOf (sA p 66) (S "str_flags_to_int") 0 [] .none .none .none .none none .none .none 0)), #[]⟩ (.node (o1423 p) .nil .nil) .nil))) (.node ⟨(.type "frame"), none, .plain, #[(some (.ref 206)), (some (.ref 3)), (some (.ref 203)), none, (some (.str (S "bson.codec_options") 496)), none, (some (.ref 0))]⟩ (.node o335 (.node o591 (.node ⟨.none, none, (.func (fdOf (sA p 82) (S "_get_int") 0 [] .none .none .none .none none .none .none 0)), #[]⟩ .nil .nil) .nil) (.node ⟨.none, none, (.fields (#[])), #[]⟩ (.node o1359 .nil .nil) .nil)) (.node ⟨.none, none, (.fields (#[])), #[]⟩ (.node o719 (.node (o1231 p) .nil .nil) .nil) (.node o975 (.node o1487 .nil .nil) .nil)))) (.node ⟨.none, none, (.fields (#[])), #[]⟩ (.node o175 (.node (o303 p) (.node ⟨(.type "code"), none, (.fields (#[(.str (S "BSONError") 991), (.str (S "BSONError") 992), (.str (S "/claim/cut.py") 993), (.int 358 0), (.int 0 0), (.int 0 0), (.int 0 0), (.int 0 0), (.ref 557), (.bool false), (.int 181 0), (.ref 558), .none, .none, .none, .none, (.int 994 0), (.int 358 0), (.str (S "/claim/cut.py") 995)])), #[]⟩ (.node o1071 .nil .nil) .nil) (.node o815 (.node ⟨.none, none, (.fields (#[])), #[]⟩ .nil .nil) .nil)) (.node ⟨.none, none, (.func (fdOf (sB p 24 3) (S "Decimal.is_nan") 0 [] .none .none .none .none none .none .none 0)), #[]⟩ (.node o687 (.node o1199 .nil .nil) .nil) (.node o943 (.node o1455 .nil .nil) .nil))) (.node ⟨(.type "tuple"), none, (.seq (#[]) 0), #[]⟩ (.node o367 (.node ⟨(.type "dict"), none, (.dict (#[dE P (S "__module__") 1084 (.str (S "bson.errors") 987), dE P (S "__qualname__") 1086 (.str (S "InvalidId") 1085), dE P (S "__firstlineno__") 1088 (.int 373 1087), dE P (S "__static_attributes__") 1089 (.ref 628)]) 4), #[]⟩ (.node ⟨.none, none, (.fields (#[])), #[]⟩ .nil .nil) .nil) (.node o879 (.node o1391 .nil .nil) .nil)) (.node ⟨(.type "builtin_function_or_method"), none, (.fields (#[(.builtin "type.__prepare__"), (.type "type")])), #[]⟩ (.node (o751 p) (.node o1263 .nil .nil) .nil) (.node (o1007 p) .nil .nil)))))) (.node ⟨(.type "builtin_function_or_method"), none, (.fields (#[(.builtin "type.__prepare__"), (.type "type")])), #[]⟩ (.node o39 (.node ⟨(.type "builtin_function_or_method"), none, (.fields (#[(.builtin "object.__init_subclass__"), (.ref 67)])), #[]⟩ (.node o135 (.node ⟨(.type "frame"), none, (.dict (#[dE P (S "self") 580 (.ref 262), dE P (S "uuid_representation") 581 (.int 0 557), dE P (S "unicode_decode_error_handler") 582 (.str (S "strict") 558), dE P (S "type_registry") 583 (.ref 265)]) 4), #[]⟩ (.node ⟨.none, none, (.func (fdOf (sB p 40 3) (S "Decimal128.from_bid") 0 [] .none .none .none .none none .none .none 0)), #[]⟩ (.node o1031 .nil .nil) .nil) (.node o775 (.node (o1287 p) .nil .nil) .nil)) (.node (o391 p) (.node o647 (.node ⟨.none, none, (.func (fdOf (sA p 90) (S "_get_boolean") 0 [] .none .none .none .none none .none .none 0)), #[]⟩ .nil .nil) .nil) (.node o903 (.node o1415 .nil .nil) .nil))) (.node ⟨(.type "super"), none, (.fields (#[(.ref 196), (.ref 196), (.ref 196)])), #[]⟩ (.node o327 (.node ⟨.none, none, (.fields (#[])), #[]⟩ (.node o1095 .nil .nil) .nil) (.node ⟨.none, none, (.fields (#[])), #[]⟩ (.node ⟨.none, none, (.func (fdOf (sA p 118) (S "_encode_bool") 0 [] .none .none .none .none none .none .none 0)), #[]⟩ .nil .nil) .nil)) (.node o455 (.node ⟨.none, none, (.fields (#[])), #[]⟩ (.node o1223 .nil .nil) .nil) (.node o967 (.node o1479 .nil .nil) .nil)))) (.node ⟨.none, none, (.fields (#[])), #[]⟩ (.node o167 (.node o295 (.node o551 (.node (o1063 p) .nil .nil) .nil) (.node ⟨(.type "builtin_function_or_method"), none, (.fields (#[(.builtin "type.__prepare__"), (.type "type")])), #[]⟩ (.node o1319 .nil .nil) .nil)) (.node o423 (.node ⟨.none, none, (.func (fdOf (sB p 50 2) (S "MaxKey.__ne__") 0 [] .none .none .none .none none .none .none 0)), #[]⟩ (.node ⟨.none, none, (.fields (#[])), #[]⟩ .nil .nil) .nil) (.node (o935 p) (.node o1447 .nil .nil) .nil))) (.node o231 (.node o359 (.node o615 (.node o1127 .nil .nil) .nil) (.node (o871 p) (.node ⟨.none, none, (.fields (#[])), #[]⟩ .nil .nil) .nil)) (.node o487 (.node o743 (.node o1255 .nil .nil) .nil) (.node o999 .nil .nil))))) (.node ⟨.none, none, (.func (fdOf (sA p 3) (S "_turned") 0 [] .none .none .none .none none .none .none 0)), #[]⟩ (.node ⟨.none, none, (.func (fdOf (sB p 12 1) (S "Binary.__init__") 0 [] .none .none .none .none none .none .none 0)), #[]⟩ (.node (o151 P) (.node o279 (.node o535 (.node ⟨.none, none, (.func (fdOf (sA p 74) (S "_UNPACK_LENGTH_SUBTYPE_FROM") 0 [] .none .none .none .none none .none .none 0)), #[]⟩ .nil .nil) .nil) (.node ⟨.none, none, (.func (fdOf (sA p 55) (S "_UNPACK_INT") 0 [] .none .none .none .none none .none .none 0)), #[]⟩ (.node ⟨.none, none, (.fields (#[])), #[]⟩ .nil .nil) .nil)) (.node ⟨.none, none, (.fields (#[])), #[]⟩ (.node ⟨(.type "dict"), none, (.dict (#[dE P (S "__module__") 1144 (.str (S "bson.max_key") 1135), dE P (S "__qualname__") 1146 (.str (S "MaxKey") 1145), dE P (S "__firstlineno__") 1148 (.int 385 1147), dE P (S "_type_marker") 1150 (.int 127 1149), dE P (S "__eq__") 1158 (.ref 674), dE P (S "__ne__") 1166 (.ref 681), dE P (S "__le__") 1174 (.ref 688), dE P (S "__lt__") 1182 (.ref 695), dE P (S "__ge__") 1190 (.ref 702), dE P (S "__gt__") 1198 (.ref 709), dE P (S "__repr__") 1205 (.ref 716), dE P (S "__static_attributes__") 1206 (.ref 717)]) 12), #[]⟩ (.node (o1175 p) .nil .nil) .nil) (.node ⟨(.type "code"), none, (.fields (#[(.str (S "Regex") 1473), (.str (S "Regex") 1474), (.str (S "/claim/cut.py") 1475), (.int 542 0), (.int 0 0), (.int 0 0), (.int 0 0), (.int 0 0), (.ref 917), (.bool false), (.int 181 0), (.ref 918), .none, .none, .none, .none, (.int 1476 0), (.int 542 0), (.str (S "/claim/cut.py") 1477)])), #[]⟩ (.node (o1431 p) .nil .nil) .nil))) (.node (o215 p) (.node ⟨.none, none, (.fields (#[(.int 215 0), (.int 4 0), (.ref 352), (.int 227 0), (.int 4 0), (.ref 359), (.int 231 0), (.int 4 0), (.ref 367), (.int 235 0), (.int 4 0), (.ref 375), (.int 238 0), (.int 4 0), (.ref 383), (.int 245 0), (.int 4 0), (.ref 390)])), #[]⟩ (.node o599 (.node o1111 .nil .nil) .nil) (.node ⟨.none, none, (.func (fdOf (sB p 58 6) (S "ObjectId.__repr__") 0 [] .none .none .none .none none .none .none 0)), #[]⟩ (.node (o1367 p) .nil .nil) .nil)) (.node o471 (.node ⟨(.type "tuple"), none, (.seq (#[]) 0), #[]⟩ (.node o1239 .nil .nil) .nil) (.node o983 (.node (o1495 p) .nil .nil) .nil)))) (.node o119 (.node o183 (.node o311 (.node o567 (.node ⟨.none, none, (.fields (#[])), #[]⟩ .nil .nil) .nil) (.node o823 (.node o1335 .nil .nil) .nil)) (.node o439 (.node (o695 p) (.node o1207 .nil .nil) .nil) (.node ⟨(.type "builtin_function_or_method"), none, (.fields (#[(.builtin "type.__prepare__"), (.type "type")])), #[]⟩ (.node o1463 .nil .nil) .nil))) (.node o247 (.node o375 (.node ⟨(.type "super"), none, (.fields (#[(.ref 630), (.ref 630), (.ref 630)])), #[]⟩ (.node o1143 .nil .nil) .nil) (.node ⟨.none, none, (.fields (#[])), #[]⟩ (.node o1399 .nil .nil) .nil)) (.node o503 (.node o759 (.node ⟨.none, none, (.func (fdOf (sA p 106) (S "_PACK_TIMESTAMP") 0 [] .none .none .none .none none .none .none 0)), #[]⟩ .nil .nil) .nil) (.node o1015 .nil .nil))))))) (.node ⟨(.type "tuple"), none, (.seq (#[]) 0), #[]⟩ (.node ⟨.none, none, (.func (fdOf (sA p 0) (S "_wall") 0 [] .none .none .none .none none .none .none 0)), #[]⟩ (.node o35 (.node o67 (.node o131 (.node ⟨(.type "super"), none, (.fields (#[(.ref 256), (.ref 256), (.ref 256)])), #[]⟩ (.node o515 (.node ⟨(.type "super"), none, (.fields (#[(.ref 1024), (.ref 1024), (.ref 1024)])), #[]⟩ .nil .nil) .nil) (.node o771 (.node o1283 .nil .nil) .nil)) (.node o387 (.node o643 (.node o1155 .nil .nil) .nil) (.node (o899 p) (.node ⟨.none, none, (.fields (#[])), #[]⟩ .nil .nil) .nil))) (.node (o195 P) (.node o323 (.node o579 (.node (o1091 p) .nil .nil) .nil) (.node o835 (.node o1347 .nil .nil) .nil)) (.node o451 (.node ⟨.none, none, (.func (fdOf (sB p 50 6) (S "MaxKey.__gt__") 0 [] .none .none .none .none none .none .none 0)), #[]⟩ (.node ⟨.none, none, (.fields (#[])), #[]⟩ .nil .nil) .nil) (.node (o963 p) (.node o1475 .nil .nil) .nil)))) (.node o99 (.node ⟨(.type "frame"), none, .plain, #[(some (.ref 162)), (some (.ref 3)), (some (.ref 159)), none, (some (.str (S "bson.code") 435)), none, (some (.ref 0))]⟩ (.node ⟨.none, none, (.fields (#[])), #[]⟩ (.node o547 (.node o1059 .nil .nil) .nil) (.node ⟨.none, none, (.func (fdOf (sA p 57) (S "_raise_invalid_id") 0 [] .none .none .none .none none .none .none 0)), #[]⟩ (.node ⟨.none, none, (.fields (#[])), #[]⟩ .nil .nil) .nil)) (.node (o419 p) (.node o675 (.node ⟨.none, none, (.func (fdOf (sA p 94) (S "_get_regex") 0 [] .none .none .none .none none .none .none 0)), #[]⟩ .nil .nil) .nil) (.node o931 (.node o1443 .nil .nil) .nil))) (.node o227 (.node ⟨.none, none, (.fields (#[])), #[]⟩ (.node o611 (.node o1123 .nil .nil) .nil) (.node o867 (.node ⟨.none, none, (.func (fdOf (sA p 122) (S "_encode_code") 0 [] .none .none .none .none none .none .none 0)), #[]⟩ .nil .nil) .nil)) (.node ⟨.none, none, (.fields (#[])), #[]⟩ (.node ⟨.none, none, (.fields (#[])), #[]⟩ (.node o1251 .nil .nil) .nil) (.node ⟨.none, none, (.fields (#[])), #[]⟩ .nil .nil))))) (.node o51 (.node o83 (.node ⟨.none, none, (.func (fdOf (sB p 12 8) (S "Binary.__ne__") 0 [] .none .none .none .none none .none .none 0)), #[]⟩ (.node ⟨(.type "frame"), none, .plain, #[(some (.ref 274)), (some (.ref 3)), (some (.ref 271)), none, (some (.str (S "bson.datetime_ms") 599)), none, (some (.ref 0))]⟩ (.node (o531 p) (.node o1043 .nil .nil) .nil) (.node o787 (.node ⟨.none, none, (.func (fdOf (sA p 110) (S "_encode_bytes") 0 [] .none .none .none .none none .none .none 0)), #[]⟩ .nil .nil) .nil)) (.node ⟨.none, none, (.fields (#[(.int 250 0), (.int 4 0), (.ref 411), (.int 255 0), (.int 4 0), (.ref 418), (.int 258 0), (.int 4 0), (.ref 425), (.int 261 0), (.int 4 0), (.ref 432), (.int 264 0), (.int 4 0), (.ref 439), (.int 267 0), (.int 4 0), (.ref 446), (.int 270 0), (.int 4 0), (.ref 453)])), #[]⟩ (.node ⟨(.type "super"), none, (.fields (#[(.ref 656), (.ref 656), (.ref 656)])), #[]⟩ (.node o1171 .nil .nil) .nil) (.node ⟨(.type "builtin_function_or_method"), none, (.fields (#[(.builtin "type.__prepare__"), (.type "type")])), #[]⟩ (.node o1427 .nil .nil) .nil))) (.node o211 (.node ⟨(.type "tuple"), none, (.seq (#[]) 0), #[]⟩ (.node ⟨(.type "tuple"), none, (.seq (#[]) 0), #[]⟩ (.node ⟨.none, none, (.fields (#[])), #[]⟩ .nil .nil) .nil) (.node o851 (.node o1363 .nil .nil) .nil)) (.node o467 (.node ⟨(.type "builtin_function_or_method"), none, (.fields (#[(.builtin "object.__init_subclass__"), (.ref 719)])), #[]⟩ (.node o1235 .nil .nil) .nil) (.node o979 (.node o1491 .nil .nil) .nil)))) (.node o115 (.node o179 (.node o307 (.node o563 (.node ⟨.none, none, (.func (fdOf (sA p 78) (S "_utf_8_encode") 0 [] .none .none .none .none none .none .none 0)), #[]⟩ .nil .nil) .nil) (.node (o819 p) (.node o1331 .nil .nil) .nil)) (.node ⟨.none, none, (.fields (#[])), #[]⟩ (.node o691 (.node (o1203 p) .nil .nil) .nil) (.node o947 (.node o1459 .nil .nil) .nil))) (.node ⟨.none, none, (.fields (#[(.int 163 0), (.int 4 0), (.ref 252)])), #[]⟩ (.node ⟨.none, none, (.fields (#[])), #[]⟩ (.node ⟨(.type "frame"), none, .plain, #[(some (.ref 626)), (some (.ref 3)), (some (.ref 623)), none, (some (.str (S "bson.errors") 987)), none, (some (.ref 0))]⟩ (.node o1139 .nil .nil) .nil) (.node ⟨.none, none, (.func (fdOf (sB p 58 10) (S "ObjectId.__le__") 0 [] .none .none .none .none none .none .none 0)), #[]⟩ (.node (o1395 p) .nil .nil) .nil)) (.node ⟨(.type "code"), none, (.fields (#[(.str (S "Decimal128") 905), (.str (S "Decimal128") 906), (.str (S "/claim/cut.py") 907), (.int 322 0), (.int 0 0), (.int 0 0), (.int 0 0), (.int 0 0), (.ref 497), (.bool false), (.int 181 0), (.ref 498), .none, .none, .none, .none, (.int 908 0), (.int 322 0), (.str (S "/claim/cut.py") 909)])), #[]⟩ (.node o755 (.node o1267 .nil .nil) .nil) (.node o1011 .nil .nil)))))) (.node ⟨(.type "code"), none, (.fields (#[(.str (S "UUID") 198), (.str (S "UUID") 199), (.str (S "/claim/cut.py") 200), (.int 5 0), (.int 0 0), (.int 0 0), (.int 0 0), (.int 0 0), (.ref 25), (.bool false), (.int 181 0), (.ref 26), .none, .none, .none, .none, (.int 201 0), (.int 5 0), (.str (S "/claim/cut.py") 202)])), #[]⟩ (.node (o43 p) (.node ⟨(.type "tuple"), none, (.seq (#[]) 0), #[]⟩ (.node o139 (.node ⟨(.type "list"), none, (.seq (#[]) 0), #[]⟩ (.node o523 (.node (o1035 p) .nil .nil) .nil) (.node (o779 p) (.node o1291 .nil .nil) .nil)) (.node o395 (.node ⟨.none, none, (.func (fdOf (sB p 48 2) (S "Int64.__eq__") 0 [] .none .none .none .none none .none .none 0)), #[]⟩ (.node ⟨.none, none, (.fields (#[])), #[]⟩ .nil .nil) .nil) (.node o907 (.node o1419 .nil .nil) .nil))) (.node ⟨(.type "dict"), none, (.dict (#[dE P (S "__module__") 505 (.str (S "bson.codec_options") 496), dE P (S "__qualname__") 507 (.str (S "TypeRegistry") 506), dE P (S "__firstlineno__") 509 (.int 145 508), dE P (S "__init__") 518 (.ref 215), dE P (S "codecs") 526 (.ref 223), dE P (S "fallback_encoder") 534 (.ref 231), dE P (S "__static_attributes__") 537 (.ref 232)]) 7), #[]⟩ (.node (o331 p) (.node (o587 P) (.node o1099 .nil .nil) .nil) (.node o843 (.node ⟨.none, none, (.fields (#[])), #[]⟩ .nil .nil) .nil)) (.node o459 (.node o715 (.node o1227 .nil .nil) .nil) (.node o971 (.node (o1483 p) .nil .nil) .nil)))) (.node o107 (.node (o171 p) (.node o299 (.node ⟨(.type "builtin_function_or_method"), none, (.fields (#[(.builtin "type.__prepare__"), (.type "type")])), #[]⟩ (.node o1067 .nil .nil) .nil) (.node ⟨(.type "code"), none, (.fields (#[(.str (S "ObjectId") 1321), (.str (S "ObjectId") 1322), (.str (S "/claim/cut.py") 1323), (.int 445 0), (.int 0 0), (.int 0 0), (.int 0 0), (.int 0 0), (.ref 809), (.bool false), (.int 181 0), (.ref 810), .none, .none, .none, .none, (.int 1324 0), (.int 445 0), (.str (S "/claim/cut.py") 1325)])), #[]⟩ (.node ⟨.none, none, (.func (fdOf (sA p 114) (S "_encode_text") 0 [] .none .none .none .none none .none .none 0)), #[]⟩ .nil .nil) .nil)) (.node o427 (.node ⟨.none, none, (.fields (#[])), #[]⟩ (.node o1195 .nil .nil) .nil) (.node o939 (.node o1451 .nil .nil) .nil))) (.node o235 (.node ⟨.none, none, (.fields (#[])), #[]⟩ (.node ⟨(.type "super"), none, (.fields (#[(.ref 618), (.ref 618), (.ref 618)])), #[]⟩ (.node ⟨.none, none, (.func (fdOf (sA p 86) (S "_get_object") 0 [] .none .none .none .none none .none .none 0)), #[]⟩ .nil .nil) .nil) (.node o875 (.node o1387 .nil .nil) .nil)) (.node ⟨.none, none, (.func (fdOf (sA p 39) (S "_decimal_to_128") 0 [] .none .none .none .none none .none .none 0)), #[]⟩ (.node o747 (.node (o1259 p) .nil .nil) .nil) (.node o1003 .nil .nil))))) (.node ⟨(.type "builtin_function_or_method"), none, (.fields (#[(.builtin "type.__prepare__"), (.type "type")])), #[]⟩ (.node o91 (.node ⟨(.type "super"), none, (.fields (#[(.ref 152), (.ref 152), (.ref 152)])), #[]⟩ (.node o283 (.node (o539 p) (.node ⟨.none, none, (.fields (#[])), #[]⟩ .nil .nil) .nil) (.node ⟨.none, none, (.fields (#[])), #[]⟩ (.node o1307 .nil .nil) .nil)) (.node o411 (.node ⟨(.type "frame"), none, .plain, #[(some (.ref 666)), (some (.ref 3)), (some (.ref 663)), none, (some (.str (S "bson.max_key") 1135)), none, (some (.ref 0))]⟩ (.node o1179 .nil .nil) .nil) (.node ⟨.none, none, (.fields (#[])), #[]⟩ (.node o1435 .nil .nil) .nil))) (.node o219 (.node o347 (.node o603 (.node o1115 .nil .nil) .nil) (.node ⟨.none, none, (.fields (#[])), #[]⟩ (.node o1371 .nil .nil) .nil)) (.node (o475 p) (.node o731 (.node ⟨.none, none, (.func (fdOf (sA p 102) (S "_bson_to_dict") 0 [] .none .none .none .none none .none .none 0)), #[]⟩ .nil .nil) .nil) (.node o987 .nil .nil)))) (.node o123 (.node o187 (.node ⟨.none, none, (.func (fdOf (sB p 20 5) (S "DatetimeMS.__gt__") 0 [] .none .none .none .none none .none .none 0)), #[]⟩ (.node ⟨.none, none, (.fields (#[])), #[]⟩ (.node o1083 .nil .nil) .nil) (.node (o827 P) (.node (o1339 p) .nil .nil) .nil)) (.node o443 (.node o699 (.node o1211 .nil .nil) .nil) (.node ⟨(.type "code"), none, (.fields (#[(.str (S "Timestamp") 1528), (.str (S "Timestamp") 1529), (.str (S "/claim/cut.py") 1530), (.int 566 0), (.int 0 0), (.int 0 0), (.int 0 0), (.int 0 0), (.ref 953), (.bool false), (.int 181 0), (.ref 954), .none, .none, .none, .none, (.int 1531 0), (.int 566 0), (.str (S "/claim/cut.py") 1532)])), #[]⟩ (.node ⟨.none, none, (.func (fdOf (sA p 135) (S "_law_made") 0 [] .none .none .none .none none .none .none 0)), #[]⟩ .nil .nil) .nil))) (.node ⟨.none, none, (.func (fdOf (sB p 17 0) (S "CodecOptions.__init__") 0 [] .none .none .none .none none .none .none 0)), #[]⟩ (.node ⟨.none, none, (.fields (#[])), #[]⟩ (.node ⟨(.type "dict"), none, (.dict (#[dE P (S "__module__") 1102 (.str (S "bson.int64") 1093), dE P (S "__qualname__") 1104 (.str (S "Int64") 1103), dE P (S "__firstlineno__") 1106 (.int 376 1105), dE P (S "_type_marker") 1108 (.int 18 1107), dE P (S "__init__") 1116 (.ref 646), dE P (S "__eq__") 1124 (.ref 653), dE P (S "__static_attributes__") 1126 (.ref 654)]) 7), #[]⟩ (.node (o1147 p) .nil .nil) .nil) (.node o891 (.node o1403 .nil .nil) .nil)) (.node (o507 p) (.node ⟨.none, none, (.func (fdOf (sB p 52 5) (S "MinKey.__ge__") 0 [] .none .none .none .none none .none .none 0)), #[]⟩ (.node ⟨.none, none, (.fields (#[])), #[]⟩ .nil .nil) .nil) (.node ⟨.none, none, (.func (fdOf (sB p 70 9) (S "Timestamp.__ge__") 0 [] .none .none .none .none none .none .none 0)), #[]⟩ .nil .nil)))))))) (.node ⟨(.type "module"), (some 3), .plain, #[]⟩ (.node ⟨(.type "code"), none, (.fields (#[(.str (S "<module>") 176), (.str (S "<module>") 177), (.str (S "/claim/cut.py") 178), (.int 1 0), (.int 0 0), (.int 0 0), (.int 0 0), (.int 0 0), (.ref 7), (.bool false), (.int 175 0), (.ref 8), .none, .none, .none, .none, (.int 179 0), (.int 1 0), (.str (S "/claim/cut.py") 180)])), #[]⟩ (.node o17 (.node o33 (.node o65 (.node ⟨.none, none, (.fields (#[])), #[]⟩ (.node o257 (.node o513 (.node o1025 .nil .nil) .nil) (.node o769 (.node o1281 .nil .nil) .nil)) (.node o385 (.node ⟨.none, none, (.fields (#[])), #[]⟩ (.node o1153 .nil .nil) .nil) (.node ⟨.none, none, (.func (fdOf (sB p 58 12) (S "ObjectId.__ge__") 0 [] .none .none .none .none none .none .none 0)), #[]⟩ (.node (o1409 p) .nil .nil) .nil))) (.node (o193 p) (.node o321 (.node ⟨(.type "super"), none, (.fields (#[(.ref 576), (.ref 576), (.ref 576)])), #[]⟩ (.node ⟨.none, none, (.func (fdOf (sA p 80) (S "get_data_and_view") 0 [] .none .none .none .none none .none .none 0)), #[]⟩ .nil .nil) .nil) (.node o833 (.node o1345 .nil .nil) .nil)) (.node ⟨.none, none, (.fields (#[])), #[]⟩ (.node o705 (.node (o1217 p) .nil .nil) .nil) (.node ⟨.none, none, (.func (fdOf (sB p 70 1) (S "Timestamp.__init__") 0 [] .none .none .none .none none .none .none 0)), #[]⟩ (.node o1473 .nil .nil) .nil)))) (.node (o97 p) (.node ⟨.none, none, (.fields (#[(.int 111 0), (.int 4 0), (.ref 170), (.int 134 0), (.int 4 0), (.ref 177), (.int 137 0), (.int 4 0), (.ref 185), (.int 142 0), (.int 4 0), (.ref 192)])), #[]⟩ (.node (o289 p) (.node o545 (.node o1057 .nil .nil) .nil) (.node o801 (.node (o1313 p) .nil .nil) .nil)) (.node ⟨.none, none, (.func (fdOf (sB p 24 1) (S "Decimal.as_tuple") 0 [] .none .none .none .none none .none .none 0)), #[]⟩ (.node o673 (.node o1185 .nil .nil) .nil) (.node o929 (.node ⟨.none, none, (.fields (#[])), #[]⟩ .nil .nil) .nil))) (.node ⟨.none, none, (.fields (#[])), #[]⟩ (.node (o353 p) (.node ⟨.none, none, (.fields (#[])), #[]⟩ (.node ⟨.none, none, (.fields (#[])), #[]⟩ .nil .nil) .nil) (.node o865 (.node o1377 .nil .nil) .nil)) (.node o481 (.node (o737 p) (.node o1249 .nil .nil) .nil) (.node (o993 p) .nil .nil))))) (.node ⟨(.type "super"), none, (.fields (#[(.ref 46), (.ref 46), (.ref 46)])), #[]⟩ (.node ⟨(.type "frame"), none, .plain, #[(some (.ref 80)), (some (.ref 3)), (some (.ref 77)), none, (some (.str (S "bson.binary") 244)), none, (some (.ref 0))]⟩ (.node o145 (.node ⟨.none, none, (.fields (#[(.int 178 0), (.int 4 0), (.ref 281), (.int 186 0), (.int 4 0), (.ref 288), (.int 189 0), (.int 4 0), (.ref 295), (.int 192 0), (.int 4 0), (.ref 302), (.int 197 0), (.int 4 0), (.ref 309), (.int 202 0), (.int 4 0), (.ref 316), (.int 205 0), (.int 4 0), (.ref 323), (.int 209 0), (.int 4 0), (.ref 330)])), #[]⟩ (.node ⟨.none, none, (.func (fdOf (sB p 40 4) (S "Decimal128.bid") 0 [] .none .none .none .none none .none .none 0)), #[]⟩ (.node o1041 .nil .nil) .nil) (.node ⟨(.type "super"), none, (.fields (#[(.ref 782), (.ref 782), (.ref 782)])), #[]⟩ (.node o1297 .nil .nil) .nil)) (.node ⟨(.type "dict"), none, (.dict (#[dE P (S "__module__") 780 (.str (S "bson.decimals") 771), dE P (S "__qualname__") 782 (.str (S "Decimal") 781), dE P (S "__firstlineno__") 784 (.int 248 783), dE P (S "__init__") 792 (.ref 412), dE P (S "as_tuple") 799 (.ref 419), dE P (S "is_infinite") 806 (.ref 426), dE P (S "is_nan") 813 (.ref 433), dE P (S "is_snan") 820 (.ref 440), dE P (S "is_signed") 827 (.ref 447), dE P (S "__eq__") 835 (.ref 454), dE P (S "__static_attributes__") 839 (.ref 455)]) 11), #[]⟩ (.node o657 (.node o1169 .nil .nil) .nil) (.node (o913 p) (.node o1425 .nil .nil) .nil))) (.node o209 (.node ⟨(.type "super"), none, (.fields (#[(.ref 334), (.ref 334), (.ref 334)])), #[]⟩ (.node ⟨(.type "dict"), none, (.dict (#[dE P (S "__module__") 1048 (.str (S "bson.errors") 987), dE P (S "__qualname__") 1050 (.str (S "InvalidDocument") 1049), dE P (S "__firstlineno__") 1052 (.int 364 1051), dE P (S "__init__") 1062 (.ref 607), dE P (S "document") 1070 (.ref 615), dE P (S "__static_attributes__") 1072 (.ref 616), dE P (S "__classcell__") 1073 (.ref 594)]) 7), #[]⟩ (.node (o1105 p) .nil .nil) .nil) (.node o849 (.node o1361 .nil .nil) .nil)) (.node o465 (.node o721 (.node ⟨.none, none, (.fields (#[])), #[]⟩ .nil .nil) .nil) (.node o977 (.node o1489 .nil .nil) .nil)))) (.node o113 (.node o177 (.node ⟨.none, none, (.fields (#[])), #[]⟩ (.node o561 (.node o1073 .nil .nil) .nil) (.node ⟨.none, none, (.func (fdOf (sB p 58 1) (S "ObjectId.__init__") 0 [] .none .none .none .none none .none .none 0)), #[]⟩ (.node o1329 .nil .nil) .nil)) (.node (o433 p) (.node o689 (.node ⟨.none, none, (.func (fdOf (sA p 96) (S "_get_timestamp") 0 [] .none .none .none .none none .none .none 0)), #[]⟩ .nil .nil) .nil) (.node o945 (.node ⟨.none, none, (.fields (#[])), #[]⟩ .nil .nil) .nil))) (.node ⟨(.type "dict"), none, (.dict (#[dE P (S "__module__") 552 (.str (S "bson.codec_options") 496), dE P (S "__qualname__") 554 (.str (S "CodecOptions") 553), dE P (S "__firstlineno__") 556 (.int 161 555), dE P (S "__init__") 568 (.ref 253), dE P (S "__static_attributes__") 572 (.ref 254)]) 5), #[]⟩ (.node o369 (.node ⟨.none, none, (.fields (#[])), #[]⟩ (.node o1137 .nil .nil) .nil) (.node o881 (.node ⟨.none, none, (.func (fdOf (sA p 124) (S "_encode_timestamp") 0 [] .none .none .none .none none .none .none 0)), #[]⟩ .nil .nil) .nil)) (.node ⟨(.type "tuple"), none, (.seq (#[]) 0), #[]⟩ (.node ⟨.none, none, (.fields (#[])), #[]⟩ (.node o1265 .nil .nil) .nil) (.node ⟨.none, none, (.fields (#[])), #[]⟩ .nil .nil)))))) (.node ⟨(.type "tuple"), none, (.seq (#[]) 0), #[]⟩ (.node ⟨.none, none, (.func (fdOf (sB p 2 1) (S "UUID.__eq__") 0 [] .none .none .none .none none .none .none 0)), #[]⟩ (.node o73 (.node ⟨.none, none, (.fields (#[])), #[]⟩ (.node o265 (.node (o521 p) (.node ⟨.none, none, (.func (fdOf (sA p 72) (S "_unpack") 0 [] .none .none .none .none none .none .none 0)), #[]⟩ .nil .nil) .nil) (.node ⟨.none, none, (.func (fdOf (sB p 52 7) (S "MinKey.__repr__") 0 [] .none .none .none .none none .none .none 0)), #[]⟩ (.node ⟨.none, none, (.fields (#[])), #[]⟩ .nil .nil) .nil)) (.node (o393 P) (.node o649 (.node (o1161 p) .nil .nil) .nil) (.node ⟨(.type "super"), none, (.fields (#[(.ref 902), (.ref 902), (.ref 902)])), #[]⟩ (.node o1417 .nil .nil) .nil))) (.node ⟨(.type "tuple"), none, (.seq (#[]) 0), #[]⟩ (.node ⟨.none, none, (.func (fdOf (sB p 20 8) (S "DatetimeMS.__int__") 0 [] .none .none .none .none none .none .none 0)), #[]⟩ (.node ⟨(.type "frame"), none, .plain, #[(some (.ref 584)), (some (.ref 3)), (some (.ref 581)), none, (some (.str (S "bson.errors") 987)), none, (some (.ref 0))]⟩ (.node o1097 .nil .nil) .nil) (.node o841 (.node (o1353 p) .nil .nil) .nil)) (.node o457 (.node o713 (.node o1225 .nil .nil) .nil) (.node o969 (.node ⟨.none, none, (.func (fdOf (sA p 137) (S "_law_stamp") 0 [] .none .none .none .none none .none .none 0)), #[]⟩ .nil .nil) .nil)))) (.node o105 (.node ⟨.none, none, (.func (fdOf (sB p 14 1) (S "Code.__init__") 0 [] .none .none .none .none none .none .none 0)), #[]⟩ (.node o297 (.node ⟨(.type "builtin_function_or_method"), none, (.fields (#[(.builtin "object.__init_subclass__"), (.ref 549)])), #[]⟩ (.node ⟨.none, none, (.fields (#[])), #[]⟩ .nil .nil) .nil) (.node ⟨(.type "tuple"), none, (.seq (#[]) 0), #[]⟩ (.node o1321 .nil .nil) .nil)) (.node o425 (.node (o681 p) (.node o1193 .nil .nil) .nil) (.node ⟨.none, none, (.fields (#[])), #[]⟩ (.node ⟨.none, none, (.fields (#[])), #[]⟩ .nil .nil) .nil))) (.node (o233 P) (.node o361 (.node (o617 P) (.node o1129 .nil .nil) .nil) (.node ⟨.none, none, (.fields (#[])), #[]⟩ (.node o1385 .nil .nil) .nil)) (.node o489 (.node o745 (.node ⟨.none, none, (.func (fdOf (sA p 104) (S "_PACK_LENGTH_SUBTYPE") 0 [] .none .none .none .none none .none .none 0)), #[]⟩ .nil .nil) .nil) (.node o1001 .nil .nil))))) (.node (o57 p) (.node (o89 p) (.node o153 (.node o281 (.node ⟨.none, none, (.func (fdOf (sB p 40 5) (S "Decimal128.__eq__") 0 [] .none .none .none .none none .none .none 0)), #[]⟩ (.node (o1049 p) .nil .nil) .nil) (.node (o793 p) (.node o1305 .nil .nil) .nil)) (.node o409 (.node ⟨.none, none, (.fields (#[(.int 388 0), (.int 4 0), (.ref 673), (.int 391 0), (.int 4 0), (.ref 680), (.int 394 0), (.int 4 0), (.ref 687), (.int 397 0), (.int 4 0), (.ref 694), (.int 400 0), (.int 4 0), (.ref 701), (.int 403 0), (.int 4 0), (.ref 708), (.int 406 0), (.int 4 0), (.ref 715)])), #[]⟩ (.node ⟨.none, none, (.fields (#[])), #[]⟩ .nil .nil) .nil) (.node o921 (.node ⟨.none, none, (.fields (#[])), #[]⟩ .nil .nil) .nil))) (.node ⟨.none, none, (.fields (#[])), #[]⟩ (.node ⟨(.type "frame"), none, .plain, #[(some (.ref 344)), (some (.ref 3)), (some (.ref 341)), none, (some (.str (S "bson.dbref") 688)), none, (some (.ref 0))]⟩ (.node o601 (.node o1113 .nil .nil) .nil) (.node (o857 p) (.node ⟨.none, none, (.fields (#[])), #[]⟩ .nil .nil) .nil)) (.node ⟨.none, none, (.func (fdOf (sA p 27) (S "_UNPACK_64") 0 [] .none .none .none .none none .none .none 0)), #[]⟩ (.node ⟨(.type "code"), none, (.fields (#[(.str (S "MinKey") 1219), (.str (S "MinKey") 1220), (.str (S "/claim/cut.py") 1221), (.int 409 0), (.int 0 0), (.int 0 0), (.int 0 0), (.int 0 0), (.ref 727), (.bool false), (.int 181 0), (.ref 728), .none, .none, .none, .none, (.int 1222 0), (.int 409 0), (.str (S "/claim/cut.py") 1223)])), #[]⟩ (.node o1241 .nil .nil) .nil) (.node o985 .nil .nil)))) (.node o121 (.node o185 (.node o313 (.node ⟨(.type "dict"), none, (.dict (#[dE P (S "__module__") 1016 (.str (S "bson.errors") 987), dE P (S "__qualname__") 1018 (.str (S "InvalidBSON") 1017), dE P (S "__firstlineno__") 1020 (.int 360 1019), dE P (S "__static_attributes__") 1021 (.ref 574)]) 4), #[]⟩ (.node o1081 .nil .nil) .nil) (.node o825 (.node ⟨.none, none, (.func (fdOf (sA p 116) (S "_encode_uuid") 0 [] .none .none .none .none none .none .none 0)), #[]⟩ .nil .nil) .nil)) (.node o441 (.node ⟨.none, none, (.fields (#[])), #[]⟩ (.node o1209 .nil .nil) .nil) (.node ⟨(.type "tuple"), none, (.seq (#[]) 0), #[]⟩ (.node o1465 .nil .nil) .nil))) (.node o249 (.node o377 (.node ⟨(.type "tuple"), none, (.seq (#[]) 0), #[]⟩ (.node ⟨.none, none, (.func (fdOf (sA p 88) (S "_get_binary") 0 [] .none .none .none .none none .none .none 0)), #[]⟩ .nil .nil) .nil) (.node o889 (.node o1401 .nil .nil) .nil)) (.node ⟨.none, none, (.func (fdOf (sB p 40 1) (S "Decimal128.__init__") 0 [] .none .none .none .none none .none .none 0)), #[]⟩ (.node o761 (.node (o1273 p) .nil .nil) .nil) (.node o1017 .nil .nil))))))) (.node ⟨(.type "code"), none, (.fields (#[(.str (S "<module>") 182), (.str (S "<module>") 183), (.str (S "/claim/cut.py") 184), (.int 1 0), (.int 0 0), (.int 0 0), (.int 0 0), (.int 0 0), (.ref 11), (.bool false), (.int 181 0), (.ref 12), .none, .none, .none, .none, (.int 185 0), (.int 1 0), (.str (S "/claim/cut.py") 186)])), #[]⟩ (.node (o21 p) (.node o37 (.node o69 (.node o133 (.node (o261 P) (.node o517 (.node o1029 .nil .nil) .nil) (.node o773 (.node ⟨.none, none, (.func (fdOf (sA p 108) (S "_make_c_string") 0 [] .none .none .none .none none .none .none 0)), #[]⟩ .nil .nil) .nil)) (.node ⟨.none, none, (.func (fdOf (sB p 22 6) (S "DBRef.__ne__") 0 [] .none .none .none .none none .none .none 0)), #[]⟩ (.node o645 (.node o1157 .nil .nil) .nil) (.node (o901 P) (.node o1413 .nil .nil) .nil))) (.node o197 (.node o325 (.node ⟨(.type "dict"), none, (.dict (#[dE P (S "__module__") 1032 (.str (S "bson.errors") 987), dE P (S "__qualname__") 1034 (.str (S "InvalidStringData") 1033), dE P (S "__firstlineno__") 1036 (.int 362 1035), dE P (S "__static_attributes__") 1037 (.ref 586)]) 4), #[]⟩ (.node ⟨.none, none, (.fields (#[])), #[]⟩ .nil .nil) .nil) (.node o837 (.node o1349 .nil .nil) .nil)) (.node o453 (.node (o709 p) (.node o1221 .nil .nil) .nil) (.node ⟨.none, none, (.fields (#[])), #[]⟩ (.node o1477 .nil .nil) .nil)))) (.node o101 (.node o165 (.node o293 (.node o549 (.node ⟨.none, none, (.func (fdOf (sA p 76) (S "_UNPACK_TIMESTAMP_FROM") 0 [] .none .none .none .none none .none .none 0)), #[]⟩ .nil .nil) .nil) (.node (o805 p) (.node o1317 .nil .nil) .nil)) (.node ⟨.none, none, (.fields (#[])), #[]⟩ (.node o677 (.node (o1189 p) .nil .nil) .nil) (.node ⟨.none, none, (.func (fdOf (sB p 67 2) (S "Regex.__eq__") 0 [] .none .none .none .none none .none .none 0)), #[]⟩ (.node o1445 .nil .nil) .nil))) (.node o229 (.node o357 (.node o613 (.node o1125 .nil .nil) .nil) (.node ⟨.none, none, (.func (fdOf (sB p 58 8) (S "ObjectId.__ne__") 0 [] .none .none .none .none none .none .none 0)), #[]⟩ (.node (o1381 p) .nil .nil) .nil)) (.node o485 (.node o741 (.node o1253 .nil .nil) .nil) (.node o997 .nil .nil))))) (.node o53 (.node o85 (.node (o149 p) (.node ⟨.none, none, (.fields (#[])), #[]⟩ (.node o533 (.node o1045 .nil .nil) .nil) (.node o789 (.node (o1301 p) .nil .nil) .nil)) (.node ⟨(.type "frame"), none, .plain, #[(some (.ref 404)), (some (.ref 3)), (some (.ref 401)), none, (some (.str (S "bson.decimals") 771)), none, (some (.ref 0))]⟩ (.node ⟨(.type "tuple"), none, (.seq (#[]) 0), #[]⟩ (.node ⟨.none, none, (.func (fdOf (sA p 92) (S "_get_code") 0 [] .none .none .none .none none .none .none 0)), #[]⟩ .nil .nil) .nil) (.node ⟨(.type "tuple"), none, (.seq (#[]) 0), #[]⟩ (.node ⟨.none, none, (.func (fdOf (sA p 129) (S "_name_value_to_bson") 0 [] .none .none .none .none none .none .none 0)), #[]⟩ .nil .nil) .nil))) (.node ⟨.none, none, (.func (fdOf (sB p 16 0) (S "TypeRegistry.__init__") 0 [] .none .none .none .none none .none .none 0)), #[]⟩ (.node ⟨(.type "dict"), none, (.dict (#[dE P (S "__module__") 697 (.str (S "bson.dbref") 688), dE P (S "__qualname__") 699 (.str (S "DBRef") 698), dE P (S "__firstlineno__") 701 (.int 212 700), dE P (S "_type_marker") 703 (.int 100 702), dE P (S "__init__") 715 (.ref 353), dE P (S "collection") 723 (.ref 361), dE P (S "id") 731 (.ref 369), dE P (S "database") 739 (.ref 377), dE P (S "__eq__") 749 (.ref 384), dE P (S "__ne__") 757 (.ref 391), dE P (S "__static_attributes__") 762 (.ref 392)]) 11), #[]⟩ (.node ⟨(.type "code"), none, (.fields (#[(.str (S "InvalidDocument") 1043), (.str (S "InvalidDocument") 1044), (.str (S "/claim/cut.py") 1045), (.int 364 0), (.int 0 0), (.int 0 0), (.int 0 0), (.int 0 0), (.ref 595), (.bool false), (.int 181 0), (.ref 596), .none, .none, .none, .none, (.int 1046 0), (.int 364 0), (.str (S "/claim/cut.py") 1047)])), #[]⟩ (.node o1109 .nil .nil) .nil) (.node o853 (.node ⟨.none, none, (.func (fdOf (sA p 120) (S "_encode_none") 0 [] .none .none .none .none none .none .none 0)), #[]⟩ .nil .nil) .nil)) (.node o469 (.node ⟨(.type "builtin_function_or_method"), none, (.fields (#[(.builtin "type.__prepare__"), (.type "type")])), #[]⟩ (.node o1237 .nil .nil) .nil) (.node ⟨.none, none, (.fields (#[])), #[]⟩ (.node ⟨.none, none, (.func (fdOf (sA p 139) (S "law") 0 [] .none .none .none .none none .none .none 0)), #[]⟩ .nil .nil) .nil)))) (.node (o117 P) (.node ⟨.none, none, (.fields (#[])), #[]⟩ (.node o309 (.node ⟨(.type "super"), none, (.fields (#[(.ref 563), (.ref 563), (.ref 563)])), #[]⟩ (.node (o1077 p) .nil .nil) .nil) (.node ⟨.none, none, (.fields (#[])), #[]⟩ (.node o1333 .nil .nil) .nil)) (.node o437 (.node ⟨.none, none, (.func (fdOf (sB p 50 4) (S "MaxKey.__lt__") 0 [] .none .none .none .none none .none .none 0)), #[]⟩ (.node ⟨.none, none, (.fields (#[])), #[]⟩ .nil .nil) .nil) (.node ⟨(.type "builtin_function_or_method"), none, (.fields (#[(.builtin "object.__init_subclass__"), (.ref 945)])), #[]⟩ (.node o1461 .nil .nil) .nil))) (.node ⟨(.type "frame"), none, .plain, #[(some (.ref 244)), (some (.ref 3)), (some (.ref 241)), none, (some (.str (S "bson.codec_options") 496)), none, (some (.ref 0))]⟩ (.node o373 (.node (o629 P) (.node o1141 .nil .nil) .nil) (.node (o885 p) (.node ⟨.none, none, (.fields (#[])), #[]⟩ .nil .nil) .nil)) (.node o501 (.node o757 (.node o1269 .nil .nil) .nil) (.node o1013 .nil .nil)))))) (.node o29 (.node (o45 P) (.node ⟨(.type "dict"), none, (.dict (#[dE P (S "__module__") 319 (.str (S "bson.binary") 244), dE P (S "__qualname__") 321 (.str (S "Binary") 320), dE P (S "__firstlineno__") 323 (.int 35 322), dE P (S "_type_marker") 325 (.int 5 324), dE P (S "__init__") 335 (.ref 89), dE P (S "from_uuid") 360 (.ref 99), dE P (S "as_uuid") 369 (.ref 108), dE P (S "from_vector") 391 (.ref 118), dE P (S "as_vector") 399 (.ref 127), dE P (S "subtype") 407 (.ref 135), dE P (S "__eq__") 415 (.ref 142), dE P (S "__ne__") 423 (.ref 149), dE P (S "__static_attributes__") 426 (.ref 150)]) 13), #[]⟩ (.node o141 (.node ⟨(.type "tuple"), none, (.seq (#[]) 0), #[]⟩ (.node o525 (.node ⟨.none, none, (.fields (#[])), #[]⟩ .nil .nil) .nil) (.node (o781 P) (.node o1293 .nil .nil) .nil)) (.node ⟨(.type "super"), none, (.fields (#[(.ref 394), (.ref 394), (.ref 394)])), #[]⟩ (.node (o653 p) (.node o1165 .nil .nil) .nil) (.node o909 (.node ⟨.none, none, (.func (fdOf (sA p 128) (S "_encode_maxkey") 0 [] .none .none .none .none none .none .none 0)), #[]⟩ .nil .nil) .nil))) (.node ⟨.none, none, (.fields (#[(.int 147 0), (.int 4 0), (.ref 214), (.int 155 0), (.int 4 0), (.ref 221), (.int 159 0), (.int 4 0), (.ref 229)])), #[]⟩ (.node (o333 P) (.node ⟨(.type "super"), none, (.fields (#[(.ref 588), (.ref 588), (.ref 588)])), #[]⟩ (.node o1101 .nil .nil) .nil) (.node o845 (.node o1357 .nil .nil) .nil)) (.node ⟨(.type "builtin_function_or_method"), none, (.fields (#[(.builtin "object.__init_subclass__"), (.ref 457)])), #[]⟩ (.node o717 (.node ⟨.none, none, (.func (fdOf (sA p 100) (S "_element_to_dict") 0 [] .none .none .none .none none .none .none 0)), #[]⟩ .nil .nil) .nil) (.node ⟨.none, none, (.fields (#[])), #[]⟩ (.node ⟨.none, none, (.fields (#[])), #[]⟩ .nil .nil) .nil)))) (.node o109 (.node ⟨.none, none, (.fields (#[])), #[]⟩ (.node ⟨.none, none, (.func (fdOf (sB p 20 3) (S "DatetimeMS.__eq__") 0 [] .none .none .none .none none .none .none 0)), #[]⟩ (.node ⟨(.type "tuple"), none, (.seq (#[]) 0), #[]⟩ (.node o1069 .nil .nil) .nil) (.node o813 (.node (o1325 p) .nil .nil) .nil)) (.node o429 (.node o685 (.node o1197 .nil .nil) .nil) (.node o941 (.node o1453 .nil .nil) .nil))) (.node ⟨(.type "super"), none, (.fields (#[(.ref 234), (.ref 234), (.ref 234)])), #[]⟩ (.node o365 (.node o621 (.node (o1133 p) .nil .nil) .nil) (.node o877 (.node o1389 .nil .nil) .nil)) (.node (o493 p) (.node ⟨.none, none, (.func (fdOf (sB p 52 3) (S "MinKey.__le__") 0 [] .none .none .none .none none .none .none 0)), #[]⟩ (.node ⟨.none, none, (.fields (#[])), #[]⟩ .nil .nil) .nil) (.node ⟨.none, none, (.func (fdOf (sB p 70 7) (S "Timestamp.__le__") 0 [] .none .none .none .none none .none .none 0)), #[]⟩ .nil .nil))))) (.node ⟨(.type "tuple"), none, (.seq (#[]) 0), #[]⟩ (.node o93 (.node ⟨(.type "tuple"), none, (.seq (#[]) 0), #[]⟩ (.node o285 (.node ⟨.none, none, (.fields (#[])), #[]⟩ (.node o1053 .nil .nil) .nil) (.node o797 (.node o1309 .nil .nil) .nil)) (.node o413 (.node ⟨.none, none, (.fields (#[])), #[]⟩ (.node o1181 .nil .nil) .nil) (.node o925 (.node o1437 .nil .nil) .nil))) (.node o221 (.node o349 (.node ⟨.none, none, (.func (fdOf (sB p 45 0) (S "InvalidDocument.__init__") 0 [] .none .none .none .none none .none .none 0)), #[]⟩ (.node ⟨.none, none, (.func (fdOf (sA p 84) (S "_get_string") 0 [] .none .none .none .none none .none .none 0)), #[]⟩ .nil .nil) .nil) (.node o861 (.node o1373 .nil .nil) .nil)) (.node o477 (.node o733 (.node (o1245 p) .nil .nil) .nil) (.node o989 .nil .nil)))) (.node ⟨.none, none, (.func (fdOf (sB p 12 5) (S "Binary.as_vector") 0 [] .none .none .none .none none .none .none 0)), #[]⟩ (.node o189 (.node (o317 p) (.node ⟨(.type "frame"), none, .plain, #[(some (.ref 572)), (some (.ref 3)), (some (.ref 569)), none, (some (.str (S "bson.errors") 987)), none, (some (.ref 0))]⟩ (.node o1085 .nil .nil) .nil) (.node o829 (.node ⟨.none, none, (.fields (#[])), #[]⟩ .nil .nil) .nil)) (.node ⟨.none, none, (.func (fdOf (sB p 24 5) (S "Decimal.is_signed") 0 [] .none .none .none .none none .none .none 0)), #[]⟩ (.node o701 (.node o1213 .nil .nil) .nil) (.node o957 (.node (o1469 p) .nil .nil) .nil))) (.node (o253 p) (.node o381 (.node ⟨.none, none, (.fields (#[(.int 379 0), (.int 4 0), (.ref 645), (.int 382 0), (.int 4 0), (.ref 652)])), #[]⟩ (.node ⟨.none, none, (.fields (#[])), #[]⟩ .nil .nil) .nil) (.node o893 (.node o1405 .nil .nil) .nil)) (.node ⟨.none, none, (.fields (#[])), #[]⟩ (.node (o765 p) (.node o1277 .nil .nil) .nil) (.node (o1021 p) .nil .nil))))))))) (.node (o2 P) (.node o4 (.node ⟨.none, none, (.fields (#[])), #[]⟩ (.node ⟨.none, none, (.fields (#[])), #[]⟩ (.node o32 (.node ⟨(.type "frame"), none, .plain, #[(some (.ref 63)), (some (.ref 3)), (some (.ref 60)), none, (some (.str (S "bson.binary") 244)), none, (some (.ref 0))]⟩ (.node o128 (.node o256 (.node ⟨.none, none, (.func (fdOf (sB p 40 2) (S "Decimal128.to_decimal") 0 [] .none .none .none .none none .none .none 0)), #[]⟩ (.node o1024 .nil .nil) .nil) (.node o768 (.node (o1280 p) .nil .nil) .nil)) (.node (o384 p) (.node o640 (.node ⟨.none, none, (.func (fdOf (sA p 89) (S "_get_oid") 0 [] .none .none .none .none none .none .none 0)), #[]⟩ .nil .nil) .nil) (.node o896 (.node o1408 .nil .nil) .nil))) (.node o192 (.node o320 (.node o576 (.node o1088 .nil .nil) .nil) (.node o832 (.node ⟨.none, none, (.func (fdOf (sA p 117) (S "_encode_objectid") 0 [] .none .none .none .none none .none .none 0)), #[]⟩ .nil .nil) .nil)) (.node o448 (.node ⟨.none, none, (.fields (#[])), #[]⟩ (.node o1216 .nil .nil) .nil) (.node o960 (.node o1472 .nil .nil) .nil)))) (.node o96 (.node ⟨(.type "tuple"), none, (.seq (#[]) 0), #[]⟩ (.node o288 (.node ⟨.none, none, (.func (fdOf (sB p 40 6) (S "Decimal128.__ne__") 0 [] .none .none .none .none none .none .none 0)), #[]⟩ (.node (o1056 p) .nil .nil) .nil) (.node ⟨.none, none, (.fields (#[])), #[]⟩ (.node o1312 .nil .nil) .nil)) (.node o416 (.node ⟨.none, none, (.func (fdOf (sB p 50 1) (S "MaxKey.__eq__") 0 [] .none .none .none .none none .none .none 0)), #[]⟩ (.node ⟨.none, none, (.fields (#[])), #[]⟩ .nil .nil) .nil) (.node (o928 p) (.node o1440 .nil .nil) .nil))) (.node o224 (.node o352 (.node o608 (.node o1120 .nil .nil) .nil) (.node (o864 p) (.node ⟨.none, none, (.fields (#[])), #[]⟩ .nil .nil) .nil)) (.node o480 (.node o736 (.node o1248 .nil .nil) .nil) (.node o992 .nil .nil))))) (.node o48 (.node ⟨(.type "code"), none, (.fields (#[(.str (S "Binary") 314), (.str (S "Binary") 315), (.str (S "/claim/cut.py") 316), (.int 35 0), (.int 0 0), (.int 0 0), (.int 0 0), (.int 0 0), (.ref 78), (.bool false), (.int 181 0), (.ref 79), .none, .none, .none, .none, (.int 317 0), (.int 35 0), (.str (S "/claim/cut.py") 318)])), #[]⟩ (.node ⟨.none, none, (.fields (#[])), #[]⟩ (.node ⟨(.type "tuple"), none, (.seq (#[]) 0), #[]⟩ (.node o528 (.node ⟨.none, none, (.func (fdOf (sA p 73) (S "_UNPACK_INT_FROM") 0 [] .none .none .none .none none .none .none 0)), #[]⟩ .nil .nil) .nil) (.node o784 (.node ⟨.none, none, (.fields (#[])), #[]⟩ .nil .nil) .nil)) (.node ⟨(.type "builtin_function_or_method"), none, (.fields (#[(.builtin "type.__prepare__"), (.type "type")])), #[]⟩ (.node o656 (.node (o1168 p) .nil .nil) .nil) (.node o912 (.node o1424 .nil .nil) .nil))) (.node o208 (.node o336 (.node ⟨(.type "builtin_function_or_method"), none, (.fields (#[(.builtin "type.__prepare__"), (.type "type")])), #[]⟩ (.node o1104 .nil .nil) .nil) (.node ⟨.none, none, (.func (fdOf (sB p 58 5) (S "ObjectId.__str__") 0 [] .none .none .none .none none .none .none 0)), #[]⟩ (.node (o1360 p) .nil .nil) .nil)) (.node o464 (.node o720 (.node o1232 .nil .nil) .nil) (.node ⟨.none, none, (.func (fdOf (sB p 70 3) (S "Timestamp.inc") 0 [] .none .none .none .none none .none .none 0)), #[]⟩ (.node ⟨.none, none, (.func (fdOf (sA p 138) (S "_law_little") 0 [] .none .none .none .none none .none .none 0)), #[]⟩ .nil .nil) .nil)))) (.node o112 (.node ⟨.none, none, (.func (fdOf (sB p 14 2) (S "Code.scope") 0 [] .none .none .none .none none .none .none 0)), #[]⟩ (.node o304 (.node ⟨(.type "frame"), none, .plain, #[(some (.ref 559)), (some (.ref 3)), (some (.ref 556)), none, (some (.str (S "bson.errors") 987)), none, (some (.ref 0))]⟩ (.node ⟨.none, none, (.fields (#[])), #[]⟩ .nil .nil) .nil) (.node o816 (.node o1328 .nil .nil) .nil)) (.node o432 (.node (o688 p) (.node o1200 .nil .nil) .nil) (.node (o944 P) (.node o1456 .nil .nil) .nil))) (.node ⟨(.type "builtin_function_or_method"), none, (.fields (#[(.builtin "type.__prepare__"), (.type "type")])), #[]⟩ (.node (o368 p) (.node ⟨(.type "tuple"), none, (.seq (#[]) 0), #[]⟩ (.node o1136 .nil .nil) .nil) (.node ⟨.none, none, (.fields (#[])), #[]⟩ (.node o1392 .nil .nil) .nil)) (.node ⟨(.type "dict"), none, (.dict (#[dE P (S "__module__") 910 (.str (S "bson.decimal128") 848), dE P (S "__qualname__") 912 (.str (S "Decimal128") 911), dE P (S "__firstlineno__") 914 (.int 322 913), dE P (S "_type_marker") 916 (.int 19 915), dE P (S "__init__") 924 (.ref 507), dE P (S "to_decimal") 931 (.ref 514), dE P (S "from_bid") 951 (.ref 523), dE P (S "bid") 959 (.ref 532), dE P (S "__eq__") 967 (.ref 539), dE P (S "__ne__") 975 (.ref 546), dE P (S "__static_attributes__") 978 (.ref 547)]) 11), #[]⟩ (.node o752 (.node ⟨.none, none, (.func (fdOf (sA p 105) (S "_PACK_LONG") 0 [] .none .none .none .none none .none .none 0)), #[]⟩ .nil .nil) .nil) (.node o1008 .nil .nil)))))) (.node ⟨(.type "dict"), none, (.dict (#[dE P (S "__module__") 203 (.str (S "bson.uuids") 194), dE P (S "__qualname__") 205 (.str (S "UUID") 204), dE P (S "__firstlineno__") 207 (.int 5 206), dE P (S "__init__") 217 (.ref 36), dE P (S "__eq__") 225 (.ref 43), dE P (S "__static_attributes__") 228 (.ref 44)]) 6), #[]⟩ (.node o40 (.node o72 (.node o136 (.node (o264 P) (.node o520 (.node o1032 .nil .nil) .nil) (.node o776 (.node o1288 .nil .nil) .nil)) (.node o392 (.node ⟨.none, none, (.fields (#[])), #[]⟩ (.node o1160 .nil .nil) .nil) (.node o904 (.node (o1416 p) .nil .nil) .nil))) (.node ⟨(.type "builtin_function_or_method"), none, (.fields (#[(.builtin "object.__init_subclass__"), (.ref 196)])), #[]⟩ (.node o328 (.node ⟨(.type "code"), none, (.fields (#[(.str (S "InvalidStringData") 1027), (.str (S "InvalidStringData") 1028), (.str (S "/claim/cut.py") 1029), (.int 362 0), (.int 0 0), (.int 0 0), (.int 0 0), (.int 0 0), (.ref 582), (.bool false), (.int 181 0), (.ref 583), .none, .none, .none, .none, (.int 1030 0), (.int 362 0), (.str (S "/claim/cut.py") 1031)])), #[]⟩ (.node ⟨.none, none, (.func (fdOf (sA p 81) (S "_raise_unknown_type") 0 [] .none .none .none .none none .none .none 0)), #[]⟩ .nil .nil) .nil) (.node o840 (.node o1352 .nil .nil) .nil)) (.node (o456 P) (.node o712 (.node (o1224 p) .nil .nil) .nil) (.node ⟨.none, none, (.func (fdOf (sB p 70 2) (S "Timestamp.time") 0 [] .none .none .none .none none .none .none 0)), #[]⟩ (.node o1480 .nil .nil) .nil)))) (.node o104 (.node o168 (.node (o296 p) (.node ⟨(.type "super"), none, (.fields (#[(.ref 549), (.ref 549), (.ref 549)])), #[]⟩ (.node o1064 .nil .nil) .nil) (.node ⟨(.type "dict"), none, (.dict (#[dE P (S "__module__") 1326 (.str (S "bson.objectid") 1295), dE P (S "__qualname__") 1328 (.str (S "ObjectId") 1327), dE P (S "__firstlineno__") 1330 (.int 445 1329), dE P (S "_type_marker") 1332 (.int 7 1331), dE P (S "__init__") 1340 (.ref 819), dE P (S "is_valid") 1360 (.ref 828), dE P (S "binary") 1368 (.ref 837), dE P (S "generation_time") 1377 (.ref 845), dE P (S "__str__") 1383 (.ref 850), dE P (S "__repr__") 1390 (.ref 857), dE P (S "__eq__") 1398 (.ref 864), dE P (S "__ne__") 1406 (.ref 871), dE P (S "__lt__") 1414 (.ref 878), dE P (S "__le__") 1422 (.ref 885), dE P (S "__gt__") 1430 (.ref 892), dE P (S "__ge__") 1438 (.ref 899), dE P (S "__static_attributes__") 1440 (.ref 900)]) 17), #[]⟩ (.node ⟨.none, none, (.fields (#[])), #[]⟩ .nil .nil) .nil)) (.node ⟨.none, none, (.func (fdOf (sB p 24 2) (S "Decimal.is_infinite") 0 [] .none .none .none .none none .none .none 0)), #[]⟩ (.node o680 (.node o1192 .nil .nil) .nil) (.node o936 (.node o1448 .nil .nil) .nil))) (.node o232 (.node (o360 p) (.node o616 (.node ⟨.none, none, (.fields (#[])), #[]⟩ .nil .nil) .nil) (.node o872 (.node o1384 .nil .nil) .nil)) (.node (o488 p) (.node (o744 p) (.node o1256 .nil .nil) .nil) (.node (o1000 p) .nil .nil))))) (.node o56 (.node o88 (.node o152 (.node ⟨.none, none, (.func (fdOf (sB p 20 0) (S "DatetimeMS.__init__") 0 [] .none .none .none .none none .none .none 0)), #[]⟩ (.node o536 (.node o1048 .nil .nil) .nil) (.node o792 (.node ⟨.none, none, (.func (fdOf (sA p 111) (S "_encode_mapping") 0 [] .none .none .none .none none .none .none 0)), #[]⟩ .nil .nil) .nil)) (.node o408 (.node ⟨(.type "tuple"), none, (.seq (#[]) 0), #[]⟩ (.node o1176 .nil .nil) .nil) (.node ⟨(.type "frame"), none, .plain, #[(some (.ref 919)), (some (.ref 3)), (some (.ref 916)), none, (some (.str (S "bson.regex") 1449)), none, (some (.ref 0))]⟩ (.node o1432 .nil .nil) .nil))) (.node o216 (.node ⟨(.type "code"), none, (.fields (#[(.str (S "DBRef") 692), (.str (S "DBRef") 693), (.str (S "/claim/cut.py") 694), (.int 212 0), (.int 0 0), (.int 0 0), (.int 0 0), (.int 0 0), (.ref 342), (.bool false), (.int 181 0), (.ref 343), .none, .none, .none, .none, (.int 695 0), (.int 212 0), (.str (S "/claim/cut.py") 696)])), #[]⟩ (.node o600 (.node (o1112 p) .nil .nil) .nil) (.node o856 (.node o1368 .nil .nil) .nil)) (.node o472 (.node ⟨.none, none, (.fields (#[(.int 412 0), (.int 4 0), (.ref 736), (.int 415 0), (.int 4 0), (.ref 743), (.int 418 0), (.int 4 0), (.ref 750), (.int 421 0), (.int 4 0), (.ref 757), (.int 424 0), (.int 4 0), (.ref 764), (.int 427 0), (.int 4 0), (.ref 771), (.int 430 0), (.int 4 0), (.ref 778)])), #[]⟩ (.node ⟨.none, none, (.fields (#[])), #[]⟩ .nil .nil) .nil) (.node ⟨.none, none, (.func (fdOf (sB p 70 4) (S "Timestamp.__eq__") 0 [] .none .none .none .none none .none .none 0)), #[]⟩ .nil .nil)))) (.node o120 (.node ⟨.none, none, (.func (fdOf (sB p 14 3) (S "Code.__eq__") 0 [] .none .none .none .none none .none .none 0)), #[]⟩ (.node ⟨.none, none, (.fields (#[])), #[]⟩ (.node ⟨(.type "builtin_function_or_method"), none, (.fields (#[(.builtin "type.__prepare__"), (.type "type")])), #[]⟩ (.node o1080 .nil .nil) .nil) (.node ⟨.none, none, (.func (fdOf (sB p 58 2) (S "ObjectId.is_valid") 0 [] .none .none .none .none none .none .none 0)), #[]⟩ (.node o1336 .nil .nil) .nil)) (.node (o440 p) (.node o696 (.node ⟨.none, none, (.func (fdOf (sA p 97) (S "_get_int64") 0 [] .none .none .none .none none .none .none 0)), #[]⟩ .nil .nil) .nil) (.node ⟨(.type "dict"), none, (.dict (#[dE P (S "__module__") 1533 (.str (S "bson.timestamp") 1522), dE P (S "__qualname__") 1535 (.str (S "Timestamp") 1534), dE P (S "__firstlineno__") 1537 (.int 566 1536), dE P (S "_type_marker") 1539 (.int 17 1538), dE P (S "__init__") 1548 (.ref 963), dE P (S "time") 1556 (.ref 971), dE P (S "inc") 1564 (.ref 979), dE P (S "__eq__") 1572 (.ref 986), dE P (S "__ne__") 1580 (.ref 993), dE P (S "__lt__") 1588 (.ref 1000), dE P (S "__le__") 1596 (.ref 1007), dE P (S "__gt__") 1604 (.ref 1014), dE P (S "__ge__") 1612 (.ref 1021), dE P (S "__static_attributes__") 1615 (.ref 1022)]) 14), #[]⟩ (.node ⟨.none, none, (.fields (#[])), #[]⟩ .nil .nil) .nil))) (.node ⟨.none, none, (.fields (#[])), #[]⟩ (.node (o376 p) (.node ⟨(.type "builtin_function_or_method"), none, (.fields (#[(.builtin "object.__init_subclass__"), (.ref 630)])), #[]⟩ (.node o1144 .nil .nil) .nil) (.node o888 (.node ⟨.none, none, (.func (fdOf (sA p 125) (S "_encode_long") 0 [] .none .none .none .none none .none .none 0)), #[]⟩ .nil .nil) .nil)) (.node o504 (.node ⟨.none, none, (.fields (#[])), #[]⟩ (.node o1272 .nil .nil) .nil) (.node ⟨.none, none, (.fields (#[])), #[]⟩ .nil .nil))))))) (.node ⟨.none, none, (.fields (List.toArray ((.int 1 0) :: (.int 0 0) :: (.ref 20) :: (.int 5 0) :: (.int 0 0) :: (.ref 27) :: (.int 15 0) :: (.int 0 0) :: (.ref 56) :: (.int 20 0) :: (.int 0 0) :: (.ref 63) :: (.int 35 0) :: (.int 0 0) :: (.ref 80) :: (.int 108 0) :: (.int 0 0) :: (.ref 162) :: (.int 145 0) :: (.int 0 0) :: (.ref 206) :: (.int 161 0) :: (.int 0 0) :: (.ref 244) :: (.int 176 0) :: (.int 0 0) :: (.ref 274) :: (.int 212 0) :: (.int 0 0) :: (.ref 344) :: (.int 248 0) :: (.int 0 0) :: (.ref 404) :: (.int 273 0) :: (.int 0 0) :: (.ref 467) :: (.int 275 0) :: (.int 0 0) :: (.ref 474) :: (.int 287 0) :: (.int 0 0) :: (.ref 487) :: (.int 291 0) :: (.int 0 0) :: (.ref 492) :: (.int 322 0) :: (.int 0 0) :: (.ref 499) :: (.int 358 0) :: (.int 0 0) :: (.ref 559) :: (.int 360 0) :: (.int 0 0) :: (.ref 572) :: (.int 362 0) :: (.int 0 0) :: (.ref 584) :: (.int 364 0) :: (.int 0 0) :: (.ref 597) :: (.int 373 0) :: (.int 0 0) :: (.ref 626) :: (.int 376 0) :: (.int 0 0) :: (.ref 638) :: (.int 385 0) :: (.int 0 0) :: (.ref 666) :: (.int 409 0) :: (.int 0 0) :: (.ref 729) :: (.int 434 0) :: (.int 0 0) :: (.ref 792) :: (.int 436 0) :: (.int 0 0) :: (.ref 797) :: (.int 443 0) :: (.int 0 0) :: (.ref 804) :: (.int 445 0) :: (.int 0 0) :: (.ref 811) :: (.int 527 0) :: (.int 0 0) :: (.ref 912) :: (.int 542 0) :: (.int 0 0) :: (.ref 919) :: (.int 566 0) :: (.int 0 0) :: (.ref 955) :: (.int 618 0) :: (.int 0 0) :: (.ref 1034) :: (.int 622 0) :: (.int 0 0) :: (.ref 1041) :: (.int 624 0) :: (.int 0 0) :: (.ref 1048) :: (.int 628 0) :: (.int 0 0) :: (.ref 1055) :: (.int 630 0) :: (.int 0 0) :: (.ref 1062) :: (.int 634 0) :: (.int 0 0) :: (.ref 1069) :: (.int 636 0) :: (.int 0 0) :: (.ref 1076) :: (.int 638 0) :: (.int 0 0) :: (.ref 1083) :: (.int 643 0) :: (.int 0 0) :: (.ref 1090) :: (.int 645 0) :: (.int 0 0) :: (.ref 1097) :: (.int 647 0) :: (.int 0 0) :: (.ref 1104) :: (.int 649 0) :: (.int 0 0) :: (.ref 1111) :: (.int 652 0) :: (.int 0 0) :: (.ref 1118) :: (.int 661 0) :: (.int 0 0) :: (.ref 1125) :: (.int 674 0) :: (.int 0 0) :: (.ref 1132) :: (.int 681 0) :: (.int 0 0) :: (.ref 1139) :: (.int 700 0) :: (.int 0 0) :: (.ref 1146) :: (.int 723 0) :: (.int 0 0) :: (.ref 1153) :: (.int 726 0) :: (.int 0 0) :: (.ref 1160) :: (.int 734 0) :: (.int 0 0) :: (.ref 1167) :: (.int 736 0) :: (.int 0 0) :: (.ref 1174) :: (.int 739 0) :: (.int 0 0) :: (.ref 1181) :: (.int 746 0) :: (.int 0 0) :: (.ref 1188) :: (.int 751 0) :: (.int 0 0) :: (.ref 1195) :: (.int 755 0) :: (.int 0 0) :: (.ref 1202) :: (.int 758 0) :: (.int 0 0) :: (.ref 1209) :: (.int 760 0) :: (.int 0 0) :: (.ref 1216) :: (.int 763 0) :: (.int 0 0) :: (.ref 1223) :: (.int 805 0) :: (.int 0 0) :: (.ref 1230) :: (.int 814 0) :: (.int 0 0) :: (.ref 1237) :: (.int 823 0) :: (.int 0 0) :: (.ref 1244) :: (.int 832 0) :: (.int 0 0) :: (.ref 1251) :: (.int 834 0) :: (.int 0 0) :: (.ref 1258) :: (.int 836 0) :: (.int 0 0) :: (.ref 1265) :: (.int 840 0) :: (.int 0 0) :: (.ref 1272) :: (.int 842 0) :: (.int 0 0) :: (.ref 1279) :: (.int 855 0) :: (.int 0 0) :: (.ref 1286) :: (.int 864 0) :: (.int 0 0) :: (.ref 1293) :: (.int 868 0) :: (.int 0 0) :: (.ref 1300) :: (.int 870 0) :: (.int 0 0) :: (.ref 1305) :: (.int 873 0) :: (.int 0 0) :: (.ref 1312) :: (.int 885 0) :: (.int 0 0) :: (.ref 1317) :: (.int 888 0) :: (.int 0 0) :: (.ref 1324) :: (.int 891 0) :: (.int 0 0) :: (.ref 1331) :: (.int 897 0) :: (.int 0 0) :: (.ref 1338) :: (.int 901 0) :: (.int 0 0) :: (.ref 1345) :: (.int 903 0) :: (.int 0 0) :: (.ref 1352) :: (.int 905 0) :: (.int 0 0) :: (.ref 1359) :: (.int 908 0) :: (.int 0 0) :: (.ref 1366) :: (.int 910 0) :: (.int 0 0) :: (.ref 1373) :: (.int 932 0) :: (.int 0 0) :: (.ref 1380) :: (.int 940 0) :: (.int 0 0) :: (.ref 1387) :: (.int 948 0) :: (.int 0 0) :: (.ref 1394) :: (.int 950 0) :: (.int 0 0) :: (.ref 1401) :: (.int 955 0) :: (.int 0 0) :: (.ref 1408) :: (.int 957 0) :: (.int 0 0) :: (.ref 1415) :: (.int 959 0) :: (.int 0 0) :: (.ref 1422) :: (.int 961 0) :: (.int 0 0) :: (.ref 1430) :: (.int 1010 0) :: (.int 0 0) :: (.ref 1437) :: (.int 1020 0) :: (.int 0 0) :: (.ref 1445) :: (.int 1034 0) :: (.int 0 0) :: (.ref 1453) :: (.int 1038 0) :: (.int 0 0) :: (.ref 1461) :: (.int 1044 0) :: (.int 0 0) :: (.ref 1468) :: (.int 1051 0) :: (.int 0 0) :: (.ref 1475) :: (.int 1053 0) :: (.int 0 0) :: (.ref 1482) :: (.int 1061 0) :: (.int 0 0) :: (.ref 1489) :: (.int 1063 0) :: (.int 0 0) :: (.ref 1494) :: []))), #[]⟩ (.node o20 (.node (o36 p) (.node o68 (.node ⟨.none, none, (.func (fdOf (sB p 12 6) (S "Binary.subtype") 0 [] .none .none .none .none none .none .none 0)), #[]⟩ (.node ⟨(.type "builtin_function_or_method"), none, (.fields (#[(.builtin "object.__init_subclass__"), (.ref 256)])), #[]⟩ (.node ⟨.none, none, (.fields (#[])), #[]⟩ (.node ⟨(.type "builtin_function_or_method"), none, (.fields (#[(.builtin "object.__init_subclass__"), (.ref 1024)])), #[]⟩ .nil .nil) .nil) (.node (o772 p) (.node o1284 .nil .nil) .nil)) (.node o388 (.node ⟨.none, none, (.func (fdOf (sB p 48 1) (S "Int64.__init__") 0 [] .none .none .none .none none .none .none 0)), #[]⟩ (.node ⟨.none, none, (.fields (#[])), #[]⟩ .nil .nil) .nil) (.node o900 (.node o1412 .nil .nil) .nil))) (.node o196 (.node (o324 p) (.node ⟨(.type "builtin_function_or_method"), none, (.fields (#[(.builtin "type.__prepare__"), (.type "type")])), #[]⟩ (.node o1092 .nil .nil) .nil) (.node (o836 p) (.node ⟨.none, none, (.fields (#[])), #[]⟩ .nil .nil) .nil)) (.node ⟨.none, none, (.func (fdOf (sB p 24 6) (S "Decimal.__eq__") 0 [] .none .none .none .none none .none .none 0)), #[]⟩ (.node o708 (.node o1220 .nil .nil) .nil) (.node o964 (.node (o1476 p) .nil .nil) .nil)))) (.node o100 (.node o164 (.node o292 (.node (o548 P) (.node o1060 .nil .nil) .nil) (.node o804 (.node ⟨.none, none, (.func (fdOf (sA p 113) (S "_encode_list") 0 [] .none .none .none .none none .none .none 0)), #[]⟩ .nil .nil) .nil)) (.node o420 (.node ⟨.none, none, (.fields (#[])), #[]⟩ (.node o1188 .nil .nil) .nil) (.node o932 (.node ⟨.none, none, (.func (fdOf (sA p 131) (S "_dict_to_bson") 0 [] .none .none .none .none none .none .none 0)), #[]⟩ .nil .nil) .nil))) (.node ⟨.none, none, (.func (fdOf (sB p 16 2) (S "TypeRegistry.fallback_encoder") 0 [] .none .none .none .none none .none .none 0)), #[]⟩ (.node o356 (.node ⟨.none, none, (.func (fdOf (sB p 45 1) (S "InvalidDocument.document") 0 [] .none .none .none .none none .none .none 0)), #[]⟩ (.node ⟨.none, none, (.func (fdOf (sA p 85) (S "_get_object_size") 0 [] .none .none .none .none none .none .none 0)), #[]⟩ .nil .nil) .nil) (.node o868 (.node o1380 .nil .nil) .nil)) (.node o484 (.node o740 (.node (o1252 p) .nil .nil) .nil) (.node o996 .nil .nil))))) (.node ⟨.none, none, (.fields (#[])), #[]⟩ (.node ⟨.none, none, (.fields (#[])), #[]⟩ (.node o148 (.node o276 (.node o532 (.node ⟨.none, none, (.fields (#[])), #[]⟩ .nil .nil) .nil) (.node ⟨.none, none, (.fields (#[])), #[]⟩ (.node o1300 .nil .nil) .nil)) (.node ⟨(.type "code"), none, (.fields (#[(.str (S "Decimal") 775), (.str (S "Decimal") 776), (.str (S "/claim/cut.py") 777), (.int 248 0), (.int 0 0), (.int 0 0), (.int 0 0), (.int 0 0), (.ref 402), (.bool false), (.int 181 0), (.ref 403), .none, .none, .none, .none, (.int 778 0), (.int 248 0), (.str (S "/claim/cut.py") 779)])), #[]⟩ (.node ⟨(.type "builtin_function_or_method"), none, (.fields (#[(.builtin "object.__init_subclass__"), (.ref 656)])), #[]⟩ (.node o1172 .nil .nil) .nil) (.node ⟨(.type "dict"), none, (.dict (#[dE P (S "__module__") 1478 (.str (S "bson.regex") 1449), dE P (S "__qualname__") 1480 (.str (S "Regex") 1479), dE P (S "__firstlineno__") 1482 (.int 542 1481), dE P (S "_type_marker") 1484 (.int 11 1483), dE P (S "__init__") 1494 (.ref 928), dE P (S "__eq__") 1502 (.ref 935), dE P (S "__ne__") 1510 (.ref 942), dE P (S "__static_attributes__") 1513 (.ref 943)]) 8), #[]⟩ (.node o1428 .nil .nil) .nil))) (.node o212 (.node ⟨(.type "builtin_function_or_method"), none, (.fields (#[(.builtin "type.__prepare__"), (.type "type")])), #[]⟩ (.node ⟨.none, none, (.fields (#[(.int 366 0), (.int 4 0), (.ref 606), (.int 371 0), (.int 4 0), (.ref 613)])), #[]⟩ (.node o1108 .nil .nil) .nil) (.node ⟨.none, none, (.fields (#[])), #[]⟩ (.node o1364 .nil .nil) .nil)) (.node (o468 p) (.node ⟨(.type "tuple"), none, (.seq (#[]) 0), #[]⟩ (.node ⟨.none, none, (.func (fdOf (sA p 101) (S "_elements_to_dict") 0 [] .none .none .none .none none .none .none 0)), #[]⟩ .nil .nil) .nil) (.node o980 (.node ⟨.none, none, (.fields (#[])), #[]⟩ .nil .nil) .nil)))) (.node (o116 p) (.node o180 (.node ⟨.none, none, (.func (fdOf (sB p 20 4) (S "DatetimeMS.__ne__") 0 [] .none .none .none .none none .none .none 0)), #[]⟩ (.node o564 (.node o1076 .nil .nil) .nil) (.node o820 (.node (o1332 p) .nil .nil) .nil)) (.node o436 (.node o692 (.node o1204 .nil .nil) .nil) (.node ⟨(.type "super"), none, (.fields (#[(.ref 945), (.ref 945), (.ref 945)])), #[]⟩ (.node ⟨.none, none, (.func (fdOf (sA p 133) (S "decode") 0 [] .none .none .none .none none .none .none 0)), #[]⟩ .nil .nil) .nil))) (.node ⟨(.type "code"), none, (.fields (#[(.str (S "CodecOptions") 547), (.str (S "CodecOptions") 548), (.str (S "/claim/cut.py") 549), (.int 161 0), (.int 0 0), (.int 0 0), (.int 0 0), (.int 0 0), (.ref 242), (.bool false), (.int 181 0), (.ref 243), .none, .none, .none, .none, (.int 550 0), (.int 161 0), (.str (S "/claim/cut.py") 551)])), #[]⟩ (.node o372 (.node o628 (.node (o1140 p) .nil .nil) .nil) (.node o884 (.node o1396 .nil .nil) .nil)) (.node ⟨(.type "frame"), none, .plain, #[(some (.ref 499)), (some (.ref 3)), (some (.ref 496)), none, (some (.str (S "bson.decimal128") 848)), none, (some (.ref 0))]⟩ (.node ⟨.none, none, (.func (fdOf (sB p 52 4) (S "MinKey.__lt__") 0 [] .none .none .none .none none .none .none 0)), #[]⟩ (.node ⟨.none, none, (.fields (#[])), #[]⟩ .nil .nil) .nil) (.node ⟨.none, none, (.func (fdOf (sB p 70 8) (S "Timestamp.__gt__") 0 [] .none .none .none .none none .none .none 0)), #[]⟩ .nil .nil)))))) (.node ⟨(.type "frame"), none, .plain, #[(some (.ref 27)), (some (.ref 3)), (some (.ref 24)), none, (some (.str (S "bson.uuids") 194)), none, (some (.ref 0))]⟩ (.node o44 (.node ⟨(.type "builtin_function_or_method"), none, (.fields (#[(.builtin "type.__prepare__"), (.type "type")])), #[]⟩ (.node ⟨.none, none, (.func (fdOf (sB p 12 7) (S "Binary.__eq__") 0 [] .none .none .none .none none .none .none 0)), #[]⟩ (.node o268 (.node o524 (.node o1036 .nil .nil) .nil) (.node o780 (.node ⟨.none, none, (.func (fdOf (sA p 109) (S "_make_name") 0 [] .none .none .none .none none .none .none 0)), #[]⟩ .nil .nil) .nil)) (.node o396 (.node o652 (.node o1164 .nil .nil) .nil) (.node ⟨.none, none, (.fields (#[])), #[]⟩ (.node o1420 .nil .nil) .nil))) (.node ⟨(.type "tuple"), none, (.seq (#[]) 0), #[]⟩ (.node o332 (.node o588 (.node ⟨.none, none, (.fields (#[])), #[]⟩ .nil .nil) .nil) (.node (o844 p) (.node o1356 .nil .nil) .nil)) (.node ⟨(.type "super"), none, (.fields (#[(.ref 457), (.ref 457), (.ref 457)])), #[]⟩ (.node (o716 p) (.node o1228 .nil .nil) .nil) (.node o972 (.node o1484 .nil .nil) .nil)))) (.node (o108 p) (.node o172 (.node o300 (.node ⟨(.type "dict"), none, (.dict (#[dE P (S "__module__") 996 (.str (S "bson.errors") 987), dE P (S "__qualname__") 998 (.str (S "BSONError") 997), dE P (S "__firstlineno__") 1000 (.int 358 999), dE P (S "__static_attributes__") 1001 (.ref 561)]) 4), #[]⟩ (.node ⟨.none, none, (.func (fdOf (sA p 77) (S "_utf_8_decode") 0 [] .none .none .none .none none .none .none 0)), #[]⟩ .nil .nil) .nil) (.node ⟨(.type "frame"), none, .plain, #[(some (.ref 811)), (some (.ref 3)), (some (.ref 808)), none, (some (.str (S "bson.objectid") 1295)), none, (some (.ref 0))]⟩ (.node o1324 .nil .nil) .nil)) (.node ⟨.none, none, (.fields (#[])), #[]⟩ (.node o684 (.node (o1196 p) .nil .nil) .nil) (.node ⟨.none, none, (.func (fdOf (sB p 67 3) (S "Regex.__ne__") 0 [] .none .none .none .none none .none .none 0)), #[]⟩ (.node ⟨.none, none, (.func (fdOf (sA p 132) (S "encode") 0 [] .none .none .none .none none .none .none 0)), #[]⟩ .nil .nil) .nil))) (.node o236 (.node o364 (.node ⟨(.type "builtin_function_or_method"), none, (.fields (#[(.builtin "object.__init_subclass__"), (.ref 618)])), #[]⟩ (.node o1132 .nil .nil) .nil) (.node ⟨.none, none, (.func (fdOf (sB p 58 9) (S "ObjectId.__lt__") 0 [] .none .none .none .none none .none .none 0)), #[]⟩ (.node (o1388 p) .nil .nil) .nil)) (.node o492 (.node o748 (.node o1260 .nil .nil) .nil) (.node o1004 .nil .nil))))) (.node ⟨(.type "dict"), none, (.dict (#[dE P (S "__module__") 257 (.str (S "bson.binary") 244), dE P (S "__qualname__") 259 (.str (S "UuidRepresentation") 258), dE P (S "__firstlineno__") 261 (.int 20 260), dE P (S "UNSPECIFIED") 263 (.int 0 262), dE P (S "STANDARD") 266 (.int 4 265), dE P (S "PYTHON_LEGACY") 269 (.int 3 268), dE P (S "JAVA_LEGACY") 272 (.int 5 271), dE P (S "CSHARP_LEGACY") 275 (.int 6 274), dE P (S "__static_attributes__") 277 (.ref 65)]) 9), #[]⟩ (.node ⟨.none, none, (.fields (#[])), #[]⟩ (.node ⟨(.type "builtin_function_or_method"), none, (.fields (#[(.builtin "object.__init_subclass__"), (.ref 152)])), #[]⟩ (.node ⟨.none, none, (.fields (#[])), #[]⟩ (.node o540 (.node o1052 .nil .nil) .nil) (.node ⟨.none, none, (.func (fdOf (sA p 56) (S "_from_hex") 0 [] .none .none .none .none none .none .none 0)), #[]⟩ (.node ⟨.none, none, (.fields (#[])), #[]⟩ .nil .nil) .nil)) (.node (o412 p) (.node o668 (.node ⟨.none, none, (.func (fdOf (sA p 93) (S "_get_code_w_scope") 0 [] .none .none .none .none none .none .none 0)), #[]⟩ .nil .nil) .nil) (.node o924 (.node ⟨.none, none, (.func (fdOf (sA p 130) (S "_element_to_bson") 0 [] .none .none .none .none none .none .none 0)), #[]⟩ .nil .nil) .nil))) (.node ⟨.none, none, (.func (fdOf (sB p 16 1) (S "TypeRegistry.codecs") 0 [] .none .none .none .none none .none .none 0)), #[]⟩ (.node ⟨.none, none, (.fields (#[])), #[]⟩ (.node o604 (.node o1116 .nil .nil) .nil) (.node o860 (.node ⟨.none, none, (.func (fdOf (sA p 121) (S "_encode_regex") 0 [] .none .none .none .none none .none .none 0)), #[]⟩ .nil .nil) .nil)) (.node o476 (.node ⟨.none, none, (.fields (#[])), #[]⟩ (.node o1244 .nil .nil) .nil) (.node ⟨.none, none, (.fields (#[])), #[]⟩ .nil .nil)))) (.node o124 (.node ⟨.none, none, (.fields (#[])), #[]⟩ (.node o316 (.node ⟨(.type "code"), none, (.fields (#[(.str (S "InvalidBSON") 1011), (.str (S "InvalidBSON") 1012), (.str (S "/claim/cut.py") 1013), (.int 360 0), (.int 0 0), (.int 0 0), (.int 0 0), (.int 0 0), (.ref 570), (.bool false), (.int 181 0), (.ref 571), .none, .none, .none, .none, (.int 1014 0), (.int 360 0), (.str (S "/claim/cut.py") 1015)])), #[]⟩ (.node (o1084 p) .nil .nil) .nil) (.node o828 (.node o1340 .nil .nil) .nil)) (.node o444 (.node ⟨.none, none, (.func (fdOf (sB p 50 5) (S "MaxKey.__ge__") 0 [] .none .none .none .none none .none .none 0)), #[]⟩ (.node ⟨.none, none, (.fields (#[])), #[]⟩ .nil .nil) .nil) (.node ⟨(.type "frame"), none, .plain, #[(some (.ref 955)), (some (.ref 3)), (some (.ref 952)), none, (some (.str (S "bson.timestamp") 1522)), none, (some (.ref 0))]⟩ (.node o1468 .nil .nil) .nil))) (.node o252 (.node o380 (.node ⟨(.type "tuple"), none, (.seq (#[]) 0), #[]⟩ (.node o1148 .nil .nil) .nil) (.node (o892 p) (.node ⟨.none, none, (.fields (#[])), #[]⟩ .nil .nil) .nil)) (.node o508 (.node o764 (.node o1276 .nil .nil) .nil) (.node o1020 .nil .nil)))))))) (.node ⟨(.type "dict"), none, (.dict (#[]) 0), #[]⟩ (.node ⟨(.type "frame"), none, .plain, #[(some (.ref 9)), (some (.ref 3)), (some (.ref 3)), none, (some (.str (S "__main__") 164)), none, (some (.ref 0))]⟩ (.node o18 (.node ⟨.none, none, (.func (fdOf (sB p 2 0) (S "UUID.__init__") 0 [] .none .none .none .none none .none .none 0)), #[]⟩ (.node (o66 P) (.node o130 (.node o258 (.node (o514 p) (.node o1026 .nil .nil) .nil) (.node ⟨.none, none, (.func (fdOf (sB p 52 6) (S "MinKey.__gt__") 0 [] .none .none .none .none none .none .none 0)), #[]⟩ (.node ⟨.none, none, (.fields (#[])), #[]⟩ .nil .nil) .nil)) (.node ⟨.none, none, (.fields (#[])), #[]⟩ (.node o642 (.node (o1154 p) .nil .nil) .nil) (.node o898 (.node o1410 .nil .nil) .nil))) (.node o194 (.node ⟨.none, none, (.func (fdOf (sB p 20 6) (S "DatetimeMS.__ge__") 0 [] .none .none .none .none none .none .none 0)), #[]⟩ (.node ⟨(.type "builtin_function_or_method"), none, (.fields (#[(.builtin "object.__init_subclass__"), (.ref 576)])), #[]⟩ (.node o1090 .nil .nil) .nil) (.node ⟨.none, none, (.func (fdOf (sB p 58 3) (S "ObjectId.binary") 0 [] .none .none .none .none none .none .none 0)), #[]⟩ (.node (o1346 p) .nil .nil) .nil)) (.node o450 (.node o706 (.node o1218 .nil .nil) .nil) (.node o962 (.node ⟨.none, none, (.func (fdOf (sA p 136) (S "_law_orders") 0 [] .none .none .none .none none .none .none 0)), #[]⟩ .nil .nil) .nil)))) (.node (o98 P) (.node ⟨(.type "code"), none, (.fields (#[(.str (S "Code") 439), (.str (S "Code") 440), (.str (S "/claim/cut.py") 441), (.int 108 0), (.int 0 0), (.int 0 0), (.int 0 0), (.int 0 0), (.ref 160), (.bool false), (.int 181 0), (.ref 161), .none, .none, .none, .none, (.int 442 0), (.int 108 0), (.str (S "/claim/cut.py") 443)])), #[]⟩ (.node o290 (.node (o546 p) (.node ⟨.none, none, (.fields (#[])), #[]⟩ .nil .nil) .nil) (.node o802 (.node o1314 .nil .nil) .nil)) (.node o418 (.node (o674 p) (.node o1186 .nil .nil) .nil) (.node ⟨.none, none, (.fields (#[])), #[]⟩ (.node o1442 .nil .nil) .nil))) (.node o226 (.node o354 (.node o610 (.node o1122 .nil .nil) .nil) (.node ⟨.none, none, (.fields (#[])), #[]⟩ (.node o1378 .nil .nil) .nil)) (.node o482 (.node o738 (.node ⟨.none, none, (.func (fdOf (sA p 103) (S "_PACK_INT") 0 [] .none .none .none .none none .none .none 0)), #[]⟩ .nil .nil) .nil) (.node o994 .nil .nil))))) (.node ⟨(.type "builtin_function_or_method"), none, (.fields (#[(.builtin "object.__init_subclass__"), (.ref 46)])), #[]⟩ (.node o82 (.node o146 (.node ⟨(.type "code"), none, (.fields (#[(.str (S "DatetimeMS") 603), (.str (S "DatetimeMS") 604), (.str (S "/claim/cut.py") 605), (.int 176 0), (.int 0 0), (.int 0 0), (.int 0 0), (.int 0 0), (.ref 272), (.bool false), (.int 181 0), (.ref 273), .none, .none, .none, .none, (.int 606 0), (.int 176 0), (.str (S "/claim/cut.py") 607)])), #[]⟩ (.node o530 (.node (o1042 p) .nil .nil) .nil) (.node ⟨(.type "builtin_function_or_method"), none, (.fields (#[(.builtin "object.__init_subclass__"), (.ref 782)])), #[]⟩ (.node o1298 .nil .nil) .nil)) (.node ⟨(.type "tuple"), none, (.seq (#[]) 0), #[]⟩ (.node o658 (.node ⟨.none, none, (.fields (#[])), #[]⟩ .nil .nil) .nil) (.node ⟨(.type "tuple"), none, (.seq (#[]) 0), #[]⟩ (.node ⟨.none, none, (.fields (#[])), #[]⟩ .nil .nil) .nil))) (.node ⟨.none, none, (.fields (#[])), #[]⟩ (.node ⟨(.type "builtin_function_or_method"), none, (.fields (#[(.builtin "object.__init_subclass__"), (.ref 334)])), #[]⟩ (.node o594 (.node o1106 .nil .nil) .nil) (.node (o850 p) (.node ⟨.none, none, (.fields (#[])), #[]⟩ .nil .nil) .nil)) (.node ⟨.none, none, (.func (fdOf (sA p 26) (S "_PACK_64") 0 [] .none .none .none .none none .none .none 0)), #[]⟩ (.node ⟨(.type "super"), none, (.fields (#[(.ref 719), (.ref 719), (.ref 719)])), #[]⟩ (.node o1234 .nil .nil) .nil) (.node (o978 p) (.node (o1490 p) .nil .nil) .nil)))) (.node ⟨.none, none, (.func (fdOf (sB p 12 4) (S "Binary.from_vector") 0 [] .none .none .none .none none .none .none 0)), #[]⟩ (.node (o178 p) (.node o306 (.node (o562 P) (.node o1074 .nil .nil) .nil) (.node o818 (.node ⟨.none, none, (.func (fdOf (sA p 115) (S "_encode_binary") 0 [] .none .none .none .none none .none .none 0)), #[]⟩ .nil .nil) .nil)) (.node o434 (.node ⟨.none, none, (.fields (#[])), #[]⟩ (.node o1202 .nil .nil) .nil) (.node o946 (.node o1458 .nil .nil) .nil))) (.node ⟨(.type "tuple"), none, (.seq (#[]) 0), #[]⟩ (.node o370 (.node ⟨(.type "code"), none, (.fields (#[(.str (S "InvalidId") 1079), (.str (S "InvalidId") 1080), (.str (S "/claim/cut.py") 1081), (.int 373 0), (.int 0 0), (.int 0 0), (.int 0 0), (.int 0 0), (.ref 624), (.bool false), (.int 181 0), (.ref 625), .none, .none, .none, .none, (.int 1082 0), (.int 373 0), (.str (S "/claim/cut.py") 1083)])), #[]⟩ (.node ⟨.none, none, (.func (fdOf (sA p 87) (S "_get_array") 0 [] .none .none .none .none none .none .none 0)), #[]⟩ .nil .nil) .nil) (.node o882 (.node o1394 .nil .nil) .nil)) (.node ⟨.none, none, (.fields (#[(.int 325 0), (.int 4 0), (.ref 506), (.int 335 0), (.int 4 0), (.ref 513), (.int 339 0), (.int 4 0), (.ref 520), (.int 347 0), (.int 4 0), (.ref 530), (.int 350 0), (.int 4 0), (.ref 538), (.int 355 0), (.int 4 0), (.ref 545)])), #[]⟩ (.node o754 (.node (o1266 p) .nil .nil) .nil) (.node o1010 .nil .nil)))))) (.node ⟨.none, none, (.fields (#[(.int 7 0), (.int 4 0), (.ref 35), (.int 13 0), (.int 4 0), (.ref 42)])), #[]⟩ (.node o42 (.node o74 (.node o138 (.node ⟨(.type "frame"), none, (.dict (#[dE P (S "self") 584 (.ref 265), dE P (S "type_codecs") 585 .none, dE P (S "fallback_encoder") 586 .none]) 3), #[]⟩ (.node (o522 P) (.node o1034 .nil .nil) .nil) (.node o778 (.node o1290 .nil .nil) .nil)) (.node o394 (.node o650 (.node o1162 .nil .nil) .nil) (.node ⟨(.type "builtin_function_or_method"), none, (.fields (#[(.builtin "object.__init_subclass__"), (.ref 902)])), #[]⟩ (.node ⟨.none, none, (.fields (#[])), #[]⟩ .nil .nil) .nil))) (.node ⟨(.type "builtin_function_or_method"), none, (.fields (#[(.builtin "type.__prepare__"), (.type "type")])), #[]⟩ (.node o330 (.node o586 (.node (o1098 p) .nil .nil) .nil) (.node ⟨.none, none, (.func (fdOf (sB p 58 4) (S "ObjectId.generation_time") 0 [] .none .none .none .none none .none .none 0)), #[]⟩ (.node o1354 .nil .nil) .nil)) (.node o458 (.node ⟨.none, none, (.func (fdOf (sB p 50 7) (S "MaxKey.__repr__") 0 [] .none .none .none .none none .none .none 0)), #[]⟩ (.node ⟨.none, none, (.fields (#[])), #[]⟩ .nil .nil) .nil) (.node (o970 p) (.node o1482 .nil .nil) .nil)))) (.node ⟨.none, none, (.func (fdOf (sB p 12 3) (S "Binary.as_uuid") 0 [] .none .none .none .none none .none .none 0)), #[]⟩ (.node o170 (.node ⟨.none, none, (.fields (#[])), #[]⟩ (.node o554 (.node o1066 .nil .nil) .nil) (.node ⟨.none, none, (.fields (#[(.int 448 0), (.int 4 0), (.ref 818), (.int 467 0), (.int 4 0), (.ref 825), (.int 477 0), (.int 4 0), (.ref 835), (.int 481 0), (.int 4 0), (.ref 843), (.int 485 0), (.int 4 0), (.ref 849), (.int 488 0), (.int 4 0), (.ref 856), (.int 491 0), (.int 4 0), (.ref 863), (.int 496 0), (.int 4 0), (.ref 870), (.int 501 0), (.int 4 0), (.ref 877), (.int 506 0), (.int 4 0), (.ref 884), (.int 511 0), (.int 4 0), (.ref 891), (.int 516 0), (.int 4 0), (.ref 898)])), #[]⟩ (.node o1322 .nil .nil) .nil)) (.node (o426 p) (.node o682 (.node ⟨.none, none, (.func (fdOf (sA p 95) (S "_get_ref") 0 [] .none .none .none .none none .none .none 0)), #[]⟩ .nil .nil) .nil) (.node o938 (.node o1450 .nil .nil) .nil))) (.node o234 (.node o362 (.node o618 (.node o1130 .nil .nil) .nil) (.node o874 (.node ⟨.none, none, (.func (fdOf (sA p 123) (S "_encode_int") 0 [] .none .none .none .none none .none .none 0)), #[]⟩ .nil .nil) .nil)) (.node ⟨.none, none, (.fields (#[])), #[]⟩ (.node ⟨.none, none, (.fields (#[])), #[]⟩ (.node o1258 .nil .nil) .nil) (.node ⟨.none, none, (.fields (#[])), #[]⟩ .nil .nil))))) (.node ⟨(.type "tuple"), none, (.seq (#[]) 0), #[]⟩ (.node o90 (.node o154 (.node (o282 p) (.node o538 (.node o1050 .nil .nil) .nil) (.node o794 (.node (o1306 p) .nil .nil) .nil)) (.node ⟨.none, none, (.func (fdOf (sB p 24 0) (S "Decimal.__init__") 0 [] .none .none .none .none none .none .none 0)), #[]⟩ (.node ⟨(.type "code"), none, (.fields (#[(.str (S "MaxKey") 1139), (.str (S "MaxKey") 1140), (.str (S "/claim/cut.py") 1141), (.int 385 0), (.int 0 0), (.int 0 0), (.int 0 0), (.int 0 0), (.ref 664), (.bool false), (.int 181 0), (.ref 665), .none, .none, .none, .none, (.int 1142 0), (.int 385 0), (.str (S "/claim/cut.py") 1143)])), #[]⟩ (.node o1178 .nil .nil) .nil) (.node o922 (.node o1434 .nil .nil) .nil))) (.node o218 (.node o346 (.node ⟨.none, none, (.fields (#[])), #[]⟩ (.node ⟨.none, none, (.fields (#[])), #[]⟩ .nil .nil) .nil) (.node o858 (.node o1370 .nil .nil) .nil)) (.node o474 (.node ⟨(.type "frame"), none, .plain, #[(some (.ref 729)), (some (.ref 3)), (some (.ref 726)), none, (some (.str (S "bson.min_key") 1215)), none, (some (.ref 0))]⟩ (.node o1242 .nil .nil) .nil) (.node (o986 p) .nil .nil)))) (.node ⟨.none, none, (.fields (#[])), #[]⟩ (.node (o186 p) (.node o314 (.node ⟨(.type "tuple"), none, (.seq (#[]) 0), #[]⟩ (.node ⟨.none, none, (.func (fdOf (sA p 79) (S "_index_nul") 0 [] .none .none .none .none none .none .none 0)), #[]⟩ .nil .nil) .nil) (.node (o826 p) (.node o1338 .nil .nil) .nil)) (.node ⟨.none, none, (.fields (#[])), #[]⟩ (.node o698 (.node (o1210 p) .nil .nil) .nil) (.node ⟨.none, none, (.fields (#[(.int 569 0), (.int 4 0), (.ref 962), (.int 582 0), (.int 4 0), (.ref 969), (.int 586 0), (.int 4 0), (.ref 977), (.int 589 0), (.int 4 0), (.ref 985), (.int 595 0), (.int 4 0), (.ref 992), (.int 598 0), (.int 4 0), (.ref 999), (.int 603 0), (.int 4 0), (.ref 1006), (.int 608 0), (.int 4 0), (.ref 1013), (.int 613 0), (.int 4 0), (.ref 1020)])), #[]⟩ (.node o1466 .nil .nil) .nil))) (.node o250 (.node o378 (.node ⟨(.type "builtin_function_or_method"), none, (.fields (#[(.builtin "type.__prepare__"), (.type "type")])), #[]⟩ (.node o1146 .nil .nil) .nil) (.node ⟨.none, none, (.func (fdOf (sB p 58 11) (S "ObjectId.__gt__") 0 [] .none .none .none .none none .none .none 0)), #[]⟩ (.node (o1402 p) .nil .nil) .nil)) (.node o506 (.node o762 (.node o1274 .nil .nil) .nil) (.node o1018 .nil .nil))))))) (.node ⟨(.type "frame"), none, .plain, #[(some (.ref 13)), (some (.ref 3)), (some (.ref 3)), none, (some (.str (S "__main__") 164)), none, (some (.ref 0))]⟩ (.node ⟨(.type "tuple"), none, (.seq (#[]) 0), #[]⟩ (.node ⟨.none, none, (.fields (#[])), #[]⟩ (.node ⟨(.type "super"), none, (.fields (#[(.ref 67), (.ref 67), (.ref 67)])), #[]⟩ (.node (o134 p) (.node o262 (.node o518 (.node ⟨.none, none, (.fields (#[])), #[]⟩ .nil .nil) .nil) (.node ⟨.none, none, (.fields (#[])), #[]⟩ (.node o1286 .nil .nil) .nil)) (.node o390 (.node (o646 p) (.node o1158 .nil .nil) .nil) (.node o902 (.node ⟨.none, none, (.func (fdOf (sA p 127) (S "_encode_minkey") 0 [] .none .none .none .none none .none .none 0)), #[]⟩ .nil .nil) .nil))) (.node o198 (.node ⟨.none, none, (.fields (#[])), #[]⟩ (.node ⟨(.type "tuple"), none, (.seq (#[]) 0), #[]⟩ (.node o1094 .nil .nil) .nil) (.node o838 (.node o1350 .nil .nil) .nil)) (.node (o454 p) (.node o710 (.node ⟨.none, none, (.func (fdOf (sA p 99) (S "_get_element") 0 [] .none .none .none .none none .none .none 0)), #[]⟩ .nil .nil) .nil) (.node o966 (.node ⟨.none, none, (.fields (#[])), #[]⟩ .nil .nil) .nil)))) (.node o102 (.node ⟨.none, none, (.fields (#[])), #[]⟩ (.node ⟨.none, none, (.func (fdOf (sB p 20 2) (S "DatetimeMS.__le__") 0 [] .none .none .none .none none .none .none 0)), #[]⟩ (.node o550 (.node o1062 .nil .nil) .nil) (.node ⟨(.type "tuple"), none, (.seq (#[]) 0), #[]⟩ (.node (o1318 p) .nil .nil) .nil)) (.node o422 (.node o678 (.node o1190 .nil .nil) .nil) (.node o934 (.node (o1446 p) .nil .nil) .nil))) (.node (o230 p) (.node ⟨.none, none, (.func (fdOf (sB p 22 2) (S "DBRef.collection") 0 [] .none .none .none .none none .none .none 0)), #[]⟩ (.node (o614 p) (.node (o1126 p) .nil .nil) .nil) (.node o870 (.node o1382 .nil .nil) .nil)) (.node ⟨.none, none, (.func (fdOf (sA p 38) (S "_check_fits") 0 [] .none .none .none .none none .none .none 0)), #[]⟩ (.node ⟨.none, none, (.func (fdOf (sB p 52 2) (S "MinKey.__ne__") 0 [] .none .none .none .none none .none .none 0)), #[]⟩ (.node ⟨.none, none, (.fields (#[])), #[]⟩ .nil .nil) .nil) (.node ⟨.none, none, (.func (fdOf (sB p 70 6) (S "Timestamp.__lt__") 0 [] .none .none .none .none none .none .none 0)), #[]⟩ .nil .nil))))) (.node o54 (.node o86 (.node o150 (.node o278 (.node ⟨.none, none, (.fields (#[])), #[]⟩ (.node o1046 .nil .nil) .nil) (.node o790 (.node o1302 .nil .nil) .nil)) (.node o406 (.node ⟨(.type "builtin_function_or_method"), none, (.fields (#[(.builtin "type.__prepare__"), (.type "type")])), #[]⟩ (.node o1174 .nil .nil) .nil) (.node ⟨.none, none, (.fields (#[(.int 545 0), (.int 4 0), (.ref 927), (.int 556 0), (.int 4 0), (.ref 934), (.int 562 0), (.int 4 0), (.ref 941)])), #[]⟩ (.node o1430 .nil .nil) .nil))) (.node o214 (.node ⟨(.type "tuple"), none, (.seq (#[]) 0), #[]⟩ (.node ⟨(.type "frame"), none, .plain, #[(some (.ref 597)), (some (.ref 3)), (some (.ref 593)), none, (some (.str (S "bson.errors") 987)), none, (some (.ref 0))]⟩ (.node ⟨.none, none, (.func (fdOf (sA p 83) (S "_get_c_string") 0 [] .none .none .none .none none .none .none 0)), #[]⟩ .nil .nil) .nil) (.node o854 (.node o1366 .nil .nil) .nil)) (.node ⟨.none, none, (.fields (#[])), #[]⟩ (.node ⟨(.type "dict"), none, (.dict (#[dE P (S "__module__") 1224 (.str (S "bson.min_key") 1215), dE P (S "__qualname__") 1226 (.str (S "MinKey") 1225), dE P (S "__firstlineno__") 1228 (.int 409 1227), dE P (S "_type_marker") 1230 (.int 255 1229), dE P (S "__eq__") 1238 (.ref 737), dE P (S "__ne__") 1246 (.ref 744), dE P (S "__le__") 1254 (.ref 751), dE P (S "__lt__") 1262 (.ref 758), dE P (S "__ge__") 1270 (.ref 765), dE P (S "__gt__") 1278 (.ref 772), dE P (S "__repr__") 1285 (.ref 779), dE P (S "__static_attributes__") 1286 (.ref 780)]) 12), #[]⟩ (.node (o1238 p) .nil .nil) .nil) (.node o982 (.node o1494 .nil .nil) .nil)))) (.node o118 (.node o182 (.node (o310 p) (.node ⟨(.type "builtin_function_or_method"), none, (.fields (#[(.builtin "object.__init_subclass__"), (.ref 563)])), #[]⟩ (.node o1078 .nil .nil) .nil) (.node o822 (.node ⟨.none, none, (.fields (#[])), #[]⟩ .nil .nil) .nil)) (.node ⟨.none, none, (.func (fdOf (sB p 24 4) (S "Decimal.is_snan") 0 [] .none .none .none .none none .none .none 0)), #[]⟩ (.node o694 (.node o1206 .nil .nil) .nil) (.node ⟨(.type "tuple"), none, (.seq (#[]) 0), #[]⟩ (.node (o1462 p) .nil .nil) .nil))) (.node o246 (.node ⟨.none, none, (.func (fdOf (sB p 22 4) (S "DBRef.database") 0 [] .none .none .none .none none .none .none 0)), #[]⟩ (.node o630 (.node ⟨.none, none, (.fields (#[])), #[]⟩ .nil .nil) .nil) (.node o886 (.node o1398 .nil .nil) .nil)) (.node ⟨.none, none, (.fields (#[])), #[]⟩ (.node (o758 p) (.node o1270 .nil .nil) .nil) (.node (o1014 p) .nil .nil)))))) (.node o30 (.node o46 (.node ⟨(.type "tuple"), none, (.seq (#[]) 0), #[]⟩ (.node (o142 p) (.node ⟨(.type "builtin_function_or_method"), none, (.fields (#[(.builtin "type.__prepare__"), (.type "type")])), #[]⟩ (.node ⟨.none, none, (.fields (#[])), #[]⟩ (.node o1038 .nil .nil) .nil) (.node o782 (.node (o1294 p) .nil .nil) .nil)) (.node ⟨(.type "builtin_function_or_method"), none, (.fields (#[(.builtin "object.__init_subclass__"), (.ref 394)])), #[]⟩ (.node o654 (.node ⟨.none, none, (.func (fdOf (sA p 91) (S "_get_date") 0 [] .none .none .none .none none .none .none 0)), #[]⟩ .nil .nil) .nil) (.node o910 (.node o1422 .nil .nil) .nil))) (.node ⟨(.type "code"), none, (.fields (#[(.str (S "TypeRegistry") 500), (.str (S "TypeRegistry") 501), (.str (S "/claim/cut.py") 502), (.int 145 0), (.int 0 0), (.int 0 0), (.int 0 0), (.int 0 0), (.ref 204), (.bool false), (.int 181 0), (.ref 205), .none, .none, .none, .none, (.int 503 0), (.int 145 0), (.str (S "/claim/cut.py") 504)])), #[]⟩ (.node o334 (.node ⟨(.type "builtin_function_or_method"), none, (.fields (#[(.builtin "object.__init_subclass__"), (.ref 588)])), #[]⟩ (.node o1102 .nil .nil) .nil) (.node o846 (.node ⟨.none, none, (.func (fdOf (sA p 119) (S "_encode_datetime_ms") 0 [] .none .none .none .none none .none .none 0)), #[]⟩ .nil .nil) .nil)) (.node o462 (.node (o718 P) (.node o1230 .nil .nil) .nil) (.node o974 (.node o1486 .nil .nil) .nil)))) (.node o110 (.node o174 (.node o302 (.node ⟨.none, none, (.fields (#[])), #[]⟩ (.node (o1070 p) .nil .nil) .nil) (.node ⟨.none, none, (.fields (#[])), #[]⟩ (.node o1326 .nil .nil) .nil)) (.node o430 (.node ⟨.none, none, (.func (fdOf (sB p 50 3) (S "MaxKey.__le__") 0 [] .none .none .none .none none .none .none 0)), #[]⟩ (.node ⟨.none, none, (.fields (#[])), #[]⟩ .nil .nil) .nil) (.node (o942 p) (.node (o1454 p) .nil .nil) .nil))) (.node ⟨(.type "builtin_function_or_method"), none, (.fields (#[(.builtin "object.__init_subclass__"), (.ref 234)])), #[]⟩ (.node ⟨.none, none, (.func (fdOf (sB p 22 3) (S "DBRef.id") 0 [] .none .none .none .none none .none .none 0)), #[]⟩ (.node ⟨(.type "builtin_function_or_method"), none, (.fields (#[(.builtin "type.__prepare__"), (.type "type")])), #[]⟩ (.node o1134 .nil .nil) .nil) (.node (o878 p) (.node ⟨.none, none, (.fields (#[])), #[]⟩ .nil .nil) .nil)) (.node ⟨(.type "tuple"), none, (.seq (#[]) 0), #[]⟩ (.node o750 (.node o1262 .nil .nil) .nil) (.node o1006 .nil .nil))))) (.node ⟨.none, none, (.fields (#[])), #[]⟩ (.node o94 (.node ⟨(.type "builtin_function_or_method"), none, (.fields (#[(.builtin "type.__prepare__"), (.type "type")])), #[]⟩ (.node o286 (.node o542 (.node ⟨.none, none, (.func (fdOf (sA p 75) (S "_UNPACK_LONG_FROM") 0 [] .none .none .none .none none .none .none 0)), #[]⟩ .nil .nil) .nil) (.node (o798 p) (.node o1310 .nil .nil) .nil)) (.node ⟨.none, none, (.fields (#[])), #[]⟩ (.node o670 (.node (o1182 p) .nil .nil) .nil) (.node ⟨.none, none, (.func (fdOf (sB p 67 1) (S "Regex.__init__") 0 [] .none .none .none .none none .none .none 0)), #[]⟩ (.node (o1438 p) .nil .nil) .nil))) (.node (o222 p) (.node o350 (.node o606 (.node o1118 .nil .nil) .nil) (.node ⟨.none, none, (.func (fdOf (sB p 58 7) (S "ObjectId.__eq__") 0 [] .none .none .none .none none .none .none 0)), #[]⟩ (.node (o1374 p) .nil .nil) .nil)) (.node o478 (.node o734 (.node o1246 .nil .nil) .nil) (.node o990 .nil .nil)))) (.node o126 (.node o190 (.node o318 (.node o574 (.node ⟨.none, none, (.fields (#[])), #[]⟩ .nil .nil) .nil) (.node o830 (.node o1342 .nil .nil) .nil)) (.node o446 (.node (o702 p) (.node o1214 .nil .nil) .nil) (.node ⟨.none, none, (.fields (#[])), #[]⟩ (.node o1470 .nil .nil) .nil))) (.node o254 (.node ⟨.none, none, (.func (fdOf (sB p 22 5) (S "DBRef.__eq__") 0 [] .none .none .none .none none .none .none 0)), #[]⟩ (.node ⟨(.type "code"), none, (.fields (#[(.str (S "Int64") 1097), (.str (S "Int64") 1098), (.str (S "/claim/cut.py") 1099), (.int 376 0), (.int 0 0), (.int 0 0), (.int 0 0), (.int 0 0), (.ref 636), (.bool false), (.int 181 0), (.ref 637), .none, .none, .none, .none, (.int 1100 0), (.int 376 0), (.str (S "/claim/cut.py") 1101)])), #[]⟩ (.node o1150 .nil .nil) .nil) (.node ⟨.none, none, (.fields (#[])), #[]⟩ (.node o1406 .nil .nil) .nil)) (.node o510 (.node o766 (.node ⟨.none, none, (.func (fdOf (sA p 107) (S "_make_c_string_check") 0 [] .none .none .none .none none .none .none 0)), #[]⟩ .nil .nil) .nil) (.node o1022 .nil .nil))))))))))
noncomputable def K (P : Params) : Frag := ((nat_lit 2, o2 P) :: (nat_lit 3, o3 P) :: (nat_lit 15, o15) :: (nat_lit 17, o17) :: (nat_lit 18, o18) :: (nat_lit 20, o20) :: (nat_lit 21, o21 pw_an0026_01) :: (nat_lit 29, o29) :: (nat_lit 30, o30) :: (nat_lit 32, o32) :: (nat_lit 33, o33) :: (nat_lit 35, o35) :: (nat_lit 36, o36 pw_an0026_01) :: (nat_lit 37, o37) :: (nat_lit 39, o39) :: (nat_lit 40, o40) :: (nat_lit 42, o42) :: (nat_lit 43, o43 pw_an0026_01) :: (nat_lit 44, o44) :: (nat_lit 45, o45 P) :: (nat_lit 46, o46) :: (nat_lit 47, o47) :: (nat_lit 48, o48) :: (nat_lit 51, o51) :: (nat_lit 53, o53) :: (nat_lit 54, o54) :: (nat_lit 56, o56) :: (nat_lit 57, o57 pw_an0026_01) :: (nat_lit 65, o65) :: (nat_lit 66, o66 P) :: (nat_lit 67, o67) :: (nat_lit 68, o68) :: (nat_lit 69, o69) :: (nat_lit 72, o72) :: (nat_lit 73, o73) :: (nat_lit 74, o74) :: (nat_lit 82, o82) :: (nat_lit 83, o83) :: (nat_lit 85, o85) :: (nat_lit 86, o86) :: (nat_lit 88, o88) :: (nat_lit 89, o89 pw_an0026_01) :: (nat_lit 90, o90) :: (nat_lit 91, o91) :: (nat_lit 93, o93) :: (nat_lit 94, o94) :: (nat_lit 96, o96) :: (nat_lit 97, o97 pw_an0026_01) :: (nat_lit 98, o98 P) :: (nat_lit 99, o99) :: (nat_lit 100, o100) :: (nat_lit 101, o101) :: (nat_lit 102, o102) :: (nat_lit 104, o104) :: (nat_lit 105, o105) :: (nat_lit 107, o107) :: (nat_lit 108, o108 pw_an0026_01) :: (nat_lit 109, o109) :: (nat_lit 110, o110) :: (nat_lit 112, o112) :: (nat_lit 113, o113) :: (nat_lit 115, o115) :: (nat_lit 116, o116 pw_an0026_01) :: (nat_lit 117, o117 P) :: (nat_lit 118, o118) :: (nat_lit 119, o119) :: (nat_lit 120, o120) :: (nat_lit 121, o121) :: (nat_lit 123, o123) :: (nat_lit 124, o124) :: (nat_lit 126, o126) :: (nat_lit 127, o127 pw_an0026_01) :: (nat_lit 128, o128) :: (nat_lit 130, o130) :: (nat_lit 131, o131) :: (nat_lit 133, o133) :: (nat_lit 134, o134 pw_an0026_01) :: (nat_lit 135, o135) :: (nat_lit 136, o136) :: (nat_lit 138, o138) :: (nat_lit 139, o139) :: (nat_lit 141, o141) :: (nat_lit 142, o142 pw_an0026_01) :: (nat_lit 143, o143) :: (nat_lit 145, o145) :: (nat_lit 146, o146) :: (nat_lit 148, o148) :: (nat_lit 149, o149 pw_an0026_01) :: (nat_lit 150, o150) :: (nat_lit 151, o151 P) :: (nat_lit 152, o152) :: (nat_lit 153, o153) :: (nat_lit 154, o154) :: (nat_lit 164, o164) :: (nat_lit 165, o165) :: (nat_lit 167, o167) :: (nat_lit 168, o168) :: (nat_lit 170, o170) :: (nat_lit 171, o171 pw_an0026_01) :: (nat_lit 172, o172) :: (nat_lit 174, o174) :: (nat_lit 175, o175) :: (nat_lit 177, o177) :: (nat_lit 178, o178 pw_an0026_01) :: (nat_lit 179, o179) :: (nat_lit 180, o180) :: (nat_lit 182, o182) :: (nat_lit 183, o183) :: (nat_lit 185, o185) :: (nat_lit 186, o186 pw_an0026_01) :: (nat_lit 187, o187) :: (nat_lit 189, o189) :: (nat_lit 190, o190) :: (nat_lit 192, o192) :: (nat_lit 193, o193 pw_an0026_01) :: (nat_lit 194, o194) :: (nat_lit 195, o195 P) :: (nat_lit 196, o196) :: (nat_lit 197, o197) :: (nat_lit 198, o198) :: (nat_lit 208, o208) :: (nat_lit 209, o209) :: (nat_lit 211, o211) :: (nat_lit 212, o212) :: (nat_lit 214, o214) :: (nat_lit 215, o215 pw_an0026_01) :: (nat_lit 216, o216) :: (nat_lit 218, o218) :: (nat_lit 219, o219) :: (nat_lit 221, o221) :: (nat_lit 222, o222 pw_an0026_01) :: (nat_lit 223, o223) :: (nat_lit 224, o224) :: (nat_lit 226, o226) :: (nat_lit 227, o227) :: (nat_lit 229, o229) :: (nat_lit 230, o230 pw_an0026_01) :: (nat_lit 231, o231) :: (nat_lit 232, o232) :: (nat_lit 233, o233 P) :: (nat_lit 234, o234) :: (nat_lit 235, o235) :: (nat_lit 236, o236) :: (nat_lit 246, o246) :: (nat_lit 247, o247) :: (nat_lit 249, o249) :: (nat_lit 250, o250) :: (nat_lit 252, o252) :: (nat_lit 253, o253 pw_an0026_01) :: (nat_lit 254, o254) :: (nat_lit 255, o255 P) :: (nat_lit 256, o256) :: (nat_lit 257, o257) :: (nat_lit 258, o258) :: (nat_lit 261, o261 P) :: (nat_lit 262, o262) :: (nat_lit 264, o264 P) :: (nat_lit 265, o265) :: (nat_lit 268, o268) :: (nat_lit 276, o276) :: (nat_lit 278, o278) :: (nat_lit 279, o279) :: (nat_lit 281, o281) :: (nat_lit 282, o282 pw_an0026_01) :: (nat_lit 283, o283) :: (nat_lit 285, o285) :: (nat_lit 286, o286) :: (nat_lit 288, o288) :: (nat_lit 289, o289 pw_an0026_01) :: (nat_lit 290, o290) :: (nat_lit 292, o292) :: (nat_lit 293, o293) :: (nat_lit 295, o295) :: (nat_lit 296, o296 pw_an0026_01) :: (nat_lit 297, o297) :: (nat_lit 299, o299) :: (nat_lit 300, o300) :: (nat_lit 302, o302) :: (nat_lit 303, o303 pw_an0026_01) :: (nat_lit 304, o304) :: (nat_lit 306, o306) :: (nat_lit 307, o307) :: (nat_lit 309, o309) :: (nat_lit 310, o310 pw_an0026_01) :: (nat_lit 311, o311) :: (nat_lit 313, o313) :: (nat_lit 314, o314) :: (nat_lit 316, o316) :: (nat_lit 317, o317 pw_an0026_01) :: (nat_lit 318, o318) :: (nat_lit 320, o320) :: (nat_lit 321, o321) :: (nat_lit 323, o323) :: (nat_lit 324, o324 pw_an0026_01) :: (nat_lit 325, o325) :: (nat_lit 327, o327) :: (nat_lit 328, o328) :: (nat_lit 330, o330) :: (nat_lit 331, o331 pw_an0026_01) :: (nat_lit 332, o332) :: (nat_lit 333, o333 P) :: (nat_lit 334, o334) :: (nat_lit 335, o335) :: (nat_lit 336, o336) :: (nat_lit 346, o346) :: (nat_lit 347, o347) :: (nat_lit 349, o349) :: (nat_lit 350, o350) :: (nat_lit 352, o352) :: (nat_lit 353, o353 pw_an0026_01) :: (nat_lit 354, o354) :: (nat_lit 356, o356) :: (nat_lit 357, o357) :: (nat_lit 359, o359) :: (nat_lit 360, o360 pw_an0026_01) :: (nat_lit 361, o361) :: (nat_lit 362, o362) :: (nat_lit 364, o364) :: (nat_lit 365, o365) :: (nat_lit 367, o367) :: (nat_lit 368, o368 pw_an0026_01) :: (nat_lit 369, o369) :: (nat_lit 370, o370) :: (nat_lit 372, o372) :: (nat_lit 373, o373) :: (nat_lit 375, o375) :: (nat_lit 376, o376 pw_an0026_01) :: (nat_lit 377, o377) :: (nat_lit 378, o378) :: (nat_lit 380, o380) :: (nat_lit 381, o381) :: (nat_lit 383, o383) :: (nat_lit 384, o384 pw_an0026_01) :: (nat_lit 385, o385) :: (nat_lit 387, o387) :: (nat_lit 388, o388) :: (nat_lit 390, o390) :: (nat_lit 391, o391 pw_an0026_01) :: (nat_lit 392, o392) :: (nat_lit 393, o393 P) :: (nat_lit 394, o394) :: (nat_lit 395, o395) :: (nat_lit 396, o396) :: (nat_lit 406, o406) :: (nat_lit 408, o408) :: (nat_lit 409, o409) :: (nat_lit 411, o411) :: (nat_lit 412, o412 pw_an0026_01) :: (nat_lit 413, o413) :: (nat_lit 415, o415) :: (nat_lit 416, o416) :: (nat_lit 418, o418) :: (nat_lit 419, o419 pw_an0026_01) :: (nat_lit 420, o420) :: (nat_lit 422, o422) :: (nat_lit 423, o423) :: (nat_lit 425, o425) :: (nat_lit 426, o426 pw_an0026_01) :: (nat_lit 427, o427) :: (nat_lit 429, o429) :: (nat_lit 430, o430) :: (nat_lit 432, o432) :: (nat_lit 433, o433 pw_an0026_01) :: (nat_lit 434, o434) :: (nat_lit 436, o436) :: (nat_lit 437, o437) :: (nat_lit 439, o439) :: (nat_lit 440, o440 pw_an0026_01) :: (nat_lit 441, o441) :: (nat_lit 443, o443) :: (nat_lit 444, o444) :: (nat_lit 446, o446) :: (nat_lit 447, o447 pw_an0026_01) :: (nat_lit 448, o448) :: (nat_lit 450, o450) :: (nat_lit 451, o451) :: (nat_lit 453, o453) :: (nat_lit 454, o454 pw_an0026_01) :: (nat_lit 455, o455) :: (nat_lit 456, o456 P) :: (nat_lit 457, o457) :: (nat_lit 458, o458) :: (nat_lit 459, o459) :: (nat_lit 462, o462) :: (nat_lit 464, o464) :: (nat_lit 465, o465) :: (nat_lit 467, o467) :: (nat_lit 468, o468 pw_an0026_01) :: (nat_lit 469, o469) :: (nat_lit 471, o471) :: (nat_lit 472, o472) :: (nat_lit 474, o474) :: (nat_lit 475, o475 pw_an0026_01) :: (nat_lit 476, o476) :: (nat_lit 477, o477) :: (nat_lit 478, o478) :: (nat_lit 479, o479) :: (nat_lit 480, o480) :: (nat_lit 481, o481) :: (nat_lit 482, o482) :: (nat_lit 484, o484) :: (nat_lit 485, o485) :: (nat_lit 487, o487) :: (nat_lit 488, o488 pw_an0026_01) :: (nat_lit 489, o489) :: (nat_lit 492, o492) :: (nat_lit 493, o493 pw_an0026_01) :: (nat_lit 501, o501) :: (nat_lit 503, o503) :: (nat_lit 504, o504) :: (nat_lit 506, o506) :: (nat_lit 507, o507 pw_an0026_01) :: (nat_lit 508, o508) :: (nat_lit 510, o510) :: (nat_lit 511, o511) :: (nat_lit 513, o513) :: (nat_lit 514, o514 pw_an0026_01) :: (nat_lit 515, o515) :: (nat_lit 517, o517) :: (nat_lit 518, o518) :: (nat_lit 520, o520) :: (nat_lit 521, o521 pw_an0026_01) :: (nat_lit 522, o522 P) :: (nat_lit 523, o523) :: (nat_lit 524, o524) :: (nat_lit 525, o525) :: (nat_lit 527, o527) :: (nat_lit 528, o528) :: (nat_lit 530, o530) :: (nat_lit 531, o531 pw_an0026_01) :: (nat_lit 532, o532) :: (nat_lit 533, o533) :: (nat_lit 535, o535) :: (nat_lit 536, o536) :: (nat_lit 538, o538) :: (nat_lit 539, o539 pw_an0026_01) :: (nat_lit 540, o540) :: (nat_lit 542, o542) :: (nat_lit 543, o543) :: (nat_lit 545, o545) :: (nat_lit 546, o546 pw_an0026_01) :: (nat_lit 547, o547) :: (nat_lit 548, o548 P) :: (nat_lit 549, o549) :: (nat_lit 550, o550) :: (nat_lit 551, o551) :: (nat_lit 554, o554) :: (nat_lit 561, o561) :: (nat_lit 562, o562 P) :: (nat_lit 563, o563) :: (nat_lit 564, o564) :: (nat_lit 567, o567) :: (nat_lit 574, o574) :: (nat_lit 575, o575 P) :: (nat_lit 576, o576) :: (nat_lit 579, o579) :: (nat_lit 586, o586) :: (nat_lit 587, o587 P) :: (nat_lit 588, o588) :: (nat_lit 591, o591) :: (nat_lit 594, o594) :: (nat_lit 599, o599) :: (nat_lit 600, o600) :: (nat_lit 601, o601) :: (nat_lit 603, o603) :: (nat_lit 604, o604) :: (nat_lit 606, o606) :: (nat_lit 607, o607 pw_an0026_01) :: (nat_lit 608, o608) :: (nat_lit 610, o610) :: (nat_lit 611, o611) :: (nat_lit 613, o613) :: (nat_lit 614, o614 pw_an0026_01) :: (nat_lit 615, o615) :: (nat_lit 616, o616) :: (nat_lit 617, o617 P) :: (nat_lit 618, o618) :: (nat_lit 621, o621) :: (nat_lit 628, o628) :: (nat_lit 629, o629 P) :: (nat_lit 630, o630) :: (nat_lit 640, o640) :: (nat_lit 642, o642) :: (nat_lit 643, o643) :: (nat_lit 645, o645) :: (nat_lit 646, o646 pw_an0026_01) :: (nat_lit 647, o647) :: (nat_lit 649, o649) :: (nat_lit 650, o650) :: (nat_lit 652, o652) :: (nat_lit 653, o653 pw_an0026_01) :: (nat_lit 654, o654) :: (nat_lit 655, o655 P) :: (nat_lit 656, o656) :: (nat_lit 657, o657) :: (nat_lit 658, o658) :: (nat_lit 668, o668) :: (nat_lit 670, o670) :: (nat_lit 671, o671) :: (nat_lit 673, o673) :: (nat_lit 674, o674 pw_an0026_01) :: (nat_lit 675, o675) :: (nat_lit 677, o677) :: (nat_lit 678, o678) :: (nat_lit 680, o680) :: (nat_lit 681, o681 pw_an0026_01) :: (nat_lit 682, o682) :: (nat_lit 684, o684) :: (nat_lit 685, o685) :: (nat_lit 687, o687) :: (nat_lit 688, o688 pw_an0026_01) :: (nat_lit 689, o689) :: (nat_lit 691, o691) :: (nat_lit 692, o692) :: (nat_lit 694, o694) :: (nat_lit 695, o695 pw_an0026_01) :: (nat_lit 696, o696) :: (nat_lit 698, o698) :: (nat_lit 699, o699) :: (nat_lit 701, o701) :: (nat_lit 702, o702 pw_an0026_01) :: (nat_lit 703, o703) :: (nat_lit 705, o705) :: (nat_lit 706, o706) :: (nat_lit 708, o708) :: (nat_lit 709, o709 pw_an0026_01) :: (nat_lit 710, o710) :: (nat_lit 712, o712) :: (nat_lit 713, o713) :: (nat_lit 715, o715) :: (nat_lit 716, o716 pw_an0026_01) :: (nat_lit 717, o717) :: (nat_lit 718, o718 P) :: (nat_lit 719, o719) :: (nat_lit 720, o720) :: (nat_lit 721, o721) :: (nat_lit 731, o731) :: (nat_lit 733, o733) :: (nat_lit 734, o734) :: (nat_lit 736, o736) :: (nat_lit 737, o737 pw_an0026_01) :: (nat_lit 738, o738) :: (nat_lit 740, o740) :: (nat_lit 741, o741) :: (nat_lit 743, o743) :: (nat_lit 744, o744 pw_an0026_01) :: (nat_lit 745, o745) :: (nat_lit 747, o747) :: (nat_lit 748, o748) :: (nat_lit 750, o750) :: (nat_lit 751, o751 pw_an0026_01) :: (nat_lit 752, o752) :: (nat_lit 754, o754) :: (nat_lit 755, o755) :: (nat_lit 757, o757) :: (nat_lit 758, o758 pw_an0026_01) :: (nat_lit 759, o759) :: (nat_lit 761, o761) :: (nat_lit 762, o762) :: (nat_lit 764, o764) :: (nat_lit 765, o765 pw_an0026_01) :: (nat_lit 766, o766) :: (nat_lit 768, o768) :: (nat_lit 769, o769) :: (nat_lit 771, o771) :: (nat_lit 772, o772 pw_an0026_01) :: (nat_lit 773, o773) :: (nat_lit 775, o775) :: (nat_lit 776, o776) :: (nat_lit 778, o778) :: (nat_lit 779, o779 pw_an0026_01) :: (nat_lit 780, o780) :: (nat_lit 781, o781 P) :: (nat_lit 782, o782) :: (nat_lit 783, o783) :: (nat_lit 784, o784) :: (nat_lit 787, o787) :: (nat_lit 789, o789) :: (nat_lit 790, o790) :: (nat_lit 792, o792) :: (nat_lit 793, o793 pw_an0026_01) :: (nat_lit 794, o794) :: (nat_lit 797, o797) :: (nat_lit 798, o798 pw_an0026_01) :: (nat_lit 799, o799) :: (nat_lit 801, o801) :: (nat_lit 802, o802) :: (nat_lit 804, o804) :: (nat_lit 805, o805 pw_an0026_01) :: (nat_lit 813, o813) :: (nat_lit 815, o815) :: (nat_lit 816, o816) :: (nat_lit 818, o818) :: (nat_lit 819, o819 pw_an0026_01) :: (nat_lit 820, o820) :: (nat_lit 822, o822) :: (nat_lit 823, o823) :: (nat_lit 825, o825) :: (nat_lit 826, o826 pw_an0026_01) :: (nat_lit 827, o827 P) :: (nat_lit 828, o828) :: (nat_lit 829, o829) :: (nat_lit 830, o830) :: (nat_lit 832, o832) :: (nat_lit 833, o833) :: (nat_lit 835, o835) :: (nat_lit 836, o836 pw_an0026_01) :: (nat_lit 837, o837) :: (nat_lit 838, o838) :: (nat_lit 840, o840) :: (nat_lit 841, o841) :: (nat_lit 843, o843) :: (nat_lit 844, o844 pw_an0026_01) :: (nat_lit 845, o845) :: (nat_lit 846, o846) :: (nat_lit 849, o849) :: (nat_lit 850, o850 pw_an0026_01) :: (nat_lit 851, o851) :: (nat_lit 853, o853) :: (nat_lit 854, o854) :: (nat_lit 856, o856) :: (nat_lit 857, o857 pw_an0026_01) :: (nat_lit 858, o858) :: (nat_lit 860, o860) :: (nat_lit 861, o861) :: (nat_lit 863, o863) :: (nat_lit 864, o864 pw_an0026_01) :: (nat_lit 865, o865) :: (nat_lit 867, o867) :: (nat_lit 868, o868) :: (nat_lit 870, o870) :: (nat_lit 871, o871 pw_an0026_01) :: (nat_lit 872, o872) :: (nat_lit 874, o874) :: (nat_lit 875, o875) :: (nat_lit 877, o877) :: (nat_lit 878, o878 pw_an0026_01) :: (nat_lit 879, o879) :: (nat_lit 881, o881) :: (nat_lit 882, o882) :: (nat_lit 884, o884) :: (nat_lit 885, o885 pw_an0026_01) :: (nat_lit 886, o886) :: (nat_lit 888, o888) :: (nat_lit 889, o889) :: (nat_lit 891, o891) :: (nat_lit 892, o892 pw_an0026_01) :: (nat_lit 893, o893) :: (nat_lit 895, o895) :: (nat_lit 896, o896) :: (nat_lit 898, o898) :: (nat_lit 899, o899 pw_an0026_01) :: (nat_lit 900, o900) :: (nat_lit 901, o901 P) :: (nat_lit 902, o902) :: (nat_lit 903, o903) :: (nat_lit 904, o904) :: (nat_lit 907, o907) :: (nat_lit 909, o909) :: (nat_lit 910, o910) :: (nat_lit 912, o912) :: (nat_lit 913, o913 pw_an0026_01) :: (nat_lit 921, o921) :: (nat_lit 922, o922) :: (nat_lit 924, o924) :: (nat_lit 925, o925) :: (nat_lit 927, o927) :: (nat_lit 928, o928 pw_an0026_01) :: (nat_lit 929, o929) :: (nat_lit 931, o931) :: (nat_lit 932, o932) :: (nat_lit 934, o934) :: (nat_lit 935, o935 pw_an0026_01) :: (nat_lit 936, o936) :: (nat_lit 938, o938) :: (nat_lit 939, o939) :: (nat_lit 941, o941) :: (nat_lit 942, o942 pw_an0026_01) :: (nat_lit 943, o943) :: (nat_lit 944, o944 P) :: (nat_lit 945, o945) :: (nat_lit 946, o946) :: (nat_lit 947, o947) :: (nat_lit 957, o957) :: (nat_lit 959, o959) :: (nat_lit 960, o960) :: (nat_lit 962, o962) :: (nat_lit 963, o963 pw_an0026_01) :: (nat_lit 964, o964) :: (nat_lit 966, o966) :: (nat_lit 967, o967) :: (nat_lit 969, o969) :: (nat_lit 970, o970 pw_an0026_01) :: (nat_lit 971, o971) :: (nat_lit 972, o972) :: (nat_lit 974, o974) :: (nat_lit 975, o975) :: (nat_lit 977, o977) :: (nat_lit 978, o978 pw_an0026_01) :: (nat_lit 979, o979) :: (nat_lit 980, o980) :: (nat_lit 982, o982) :: (nat_lit 983, o983) :: (nat_lit 985, o985) :: (nat_lit 986, o986 pw_an0026_01) :: (nat_lit 987, o987) :: (nat_lit 989, o989) :: (nat_lit 990, o990) :: (nat_lit 992, o992) :: (nat_lit 993, o993 pw_an0026_01) :: (nat_lit 994, o994) :: (nat_lit 996, o996) :: (nat_lit 997, o997) :: (nat_lit 999, o999) :: (nat_lit 1000, o1000 pw_an0026_01) :: (nat_lit 1001, o1001) :: (nat_lit 1003, o1003) :: (nat_lit 1004, o1004) :: (nat_lit 1006, o1006) :: (nat_lit 1007, o1007 pw_an0026_01) :: (nat_lit 1008, o1008) :: (nat_lit 1010, o1010) :: (nat_lit 1011, o1011) :: (nat_lit 1013, o1013) :: (nat_lit 1014, o1014 pw_an0026_01) :: (nat_lit 1015, o1015) :: (nat_lit 1017, o1017) :: (nat_lit 1018, o1018) :: (nat_lit 1020, o1020) :: (nat_lit 1021, o1021 pw_an0026_01) :: (nat_lit 1022, o1022) :: (nat_lit 1023, o1023 P) :: (nat_lit 1024, o1024) :: (nat_lit 1025, o1025) :: (nat_lit 1026, o1026) :: (nat_lit 1029, o1029) :: (nat_lit 1031, o1031) :: (nat_lit 1032, o1032) :: (nat_lit 1034, o1034) :: (nat_lit 1035, o1035 pw_an0026_01) :: (nat_lit 1036, o1036) :: (nat_lit 1038, o1038) :: (nat_lit 1039, o1039) :: (nat_lit 1041, o1041) :: (nat_lit 1042, o1042 pw_an0026_01) :: (nat_lit 1043, o1043) :: (nat_lit 1045, o1045) :: (nat_lit 1046, o1046) :: (nat_lit 1048, o1048) :: (nat_lit 1049, o1049 pw_an0026_01) :: (nat_lit 1050, o1050) :: (nat_lit 1052, o1052) :: (nat_lit 1053, o1053) :: (nat_lit 1055, o1055) :: (nat_lit 1056, o1056 pw_an0026_01) :: (nat_lit 1057, o1057) :: (nat_lit 1059, o1059) :: (nat_lit 1060, o1060) :: (nat_lit 1062, o1062) :: (nat_lit 1063, o1063 pw_an0026_01) :: (nat_lit 1064, o1064) :: (nat_lit 1066, o1066) :: (nat_lit 1067, o1067) :: (nat_lit 1069, o1069) :: (nat_lit 1070, o1070 pw_an0026_01) :: (nat_lit 1071, o1071) :: (nat_lit 1073, o1073) :: (nat_lit 1074, o1074) :: (nat_lit 1076, o1076) :: (nat_lit 1077, o1077 pw_an0026_01) :: (nat_lit 1078, o1078) :: (nat_lit 1080, o1080) :: (nat_lit 1081, o1081) :: (nat_lit 1083, o1083) :: (nat_lit 1084, o1084 pw_an0026_01) :: (nat_lit 1085, o1085) :: (nat_lit 1087, o1087) :: (nat_lit 1088, o1088) :: (nat_lit 1090, o1090) :: (nat_lit 1091, o1091 pw_an0026_01) :: (nat_lit 1092, o1092) :: (nat_lit 1094, o1094) :: (nat_lit 1095, o1095) :: (nat_lit 1097, o1097) :: (nat_lit 1098, o1098 pw_an0026_01) :: (nat_lit 1099, o1099) :: (nat_lit 1101, o1101) :: (nat_lit 1102, o1102) :: (nat_lit 1104, o1104) :: (nat_lit 1105, o1105 pw_an0026_01) :: (nat_lit 1106, o1106) :: (nat_lit 1108, o1108) :: (nat_lit 1109, o1109) :: (nat_lit 1111, o1111) :: (nat_lit 1112, o1112 pw_an0026_01) :: (nat_lit 1113, o1113) :: (nat_lit 1115, o1115) :: (nat_lit 1116, o1116) :: (nat_lit 1118, o1118) :: (nat_lit 1119, o1119 pw_an0026_01) :: (nat_lit 1120, o1120) :: (nat_lit 1122, o1122) :: (nat_lit 1123, o1123) :: (nat_lit 1125, o1125) :: (nat_lit 1126, o1126 pw_an0026_01) :: (nat_lit 1127, o1127) :: (nat_lit 1129, o1129) :: (nat_lit 1130, o1130) :: (nat_lit 1132, o1132) :: (nat_lit 1133, o1133 pw_an0026_01) :: (nat_lit 1134, o1134) :: (nat_lit 1136, o1136) :: (nat_lit 1137, o1137) :: (nat_lit 1139, o1139) :: (nat_lit 1140, o1140 pw_an0026_01) :: (nat_lit 1141, o1141) :: (nat_lit 1143, o1143) :: (nat_lit 1144, o1144) :: (nat_lit 1146, o1146) :: (nat_lit 1147, o1147 pw_an0026_01) :: (nat_lit 1148, o1148) :: (nat_lit 1150, o1150) :: (nat_lit 1151, o1151) :: (nat_lit 1153, o1153) :: (nat_lit 1154, o1154 pw_an0026_01) :: (nat_lit 1155, o1155) :: (nat_lit 1157, o1157) :: (nat_lit 1158, o1158) :: (nat_lit 1160, o1160) :: (nat_lit 1161, o1161 pw_an0026_01) :: (nat_lit 1162, o1162) :: (nat_lit 1164, o1164) :: (nat_lit 1165, o1165) :: (nat_lit 1167, o1167) :: (nat_lit 1168, o1168 pw_an0026_01) :: (nat_lit 1169, o1169) :: (nat_lit 1171, o1171) :: (nat_lit 1172, o1172) :: (nat_lit 1174, o1174) :: (nat_lit 1175, o1175 pw_an0026_01) :: (nat_lit 1176, o1176) :: (nat_lit 1178, o1178) :: (nat_lit 1179, o1179) :: (nat_lit 1181, o1181) :: (nat_lit 1182, o1182 pw_an0026_01) :: (nat_lit 1183, o1183) :: (nat_lit 1185, o1185) :: (nat_lit 1186, o1186) :: (nat_lit 1188, o1188) :: (nat_lit 1189, o1189 pw_an0026_01) :: (nat_lit 1190, o1190) :: (nat_lit 1192, o1192) :: (nat_lit 1193, o1193) :: (nat_lit 1195, o1195) :: (nat_lit 1196, o1196 pw_an0026_01) :: (nat_lit 1197, o1197) :: (nat_lit 1199, o1199) :: (nat_lit 1200, o1200) :: (nat_lit 1202, o1202) :: (nat_lit 1203, o1203 pw_an0026_01) :: (nat_lit 1204, o1204) :: (nat_lit 1206, o1206) :: (nat_lit 1207, o1207) :: (nat_lit 1209, o1209) :: (nat_lit 1210, o1210 pw_an0026_01) :: (nat_lit 1211, o1211) :: (nat_lit 1213, o1213) :: (nat_lit 1214, o1214) :: (nat_lit 1216, o1216) :: (nat_lit 1217, o1217 pw_an0026_01) :: (nat_lit 1218, o1218) :: (nat_lit 1220, o1220) :: (nat_lit 1221, o1221) :: (nat_lit 1223, o1223) :: (nat_lit 1224, o1224 pw_an0026_01) :: (nat_lit 1225, o1225) :: (nat_lit 1227, o1227) :: (nat_lit 1228, o1228) :: (nat_lit 1230, o1230) :: (nat_lit 1231, o1231 pw_an0026_01) :: (nat_lit 1232, o1232) :: (nat_lit 1234, o1234) :: (nat_lit 1235, o1235) :: (nat_lit 1237, o1237) :: (nat_lit 1238, o1238 pw_an0026_01) :: (nat_lit 1239, o1239) :: (nat_lit 1241, o1241) :: (nat_lit 1242, o1242) :: (nat_lit 1244, o1244) :: (nat_lit 1245, o1245 pw_an0026_01) :: (nat_lit 1246, o1246) :: (nat_lit 1248, o1248) :: (nat_lit 1249, o1249) :: (nat_lit 1251, o1251) :: (nat_lit 1252, o1252 pw_an0026_01) :: (nat_lit 1253, o1253) :: (nat_lit 1255, o1255) :: (nat_lit 1256, o1256) :: (nat_lit 1258, o1258) :: (nat_lit 1259, o1259 pw_an0026_01) :: (nat_lit 1260, o1260) :: (nat_lit 1262, o1262) :: (nat_lit 1263, o1263) :: (nat_lit 1265, o1265) :: (nat_lit 1266, o1266 pw_an0026_01) :: (nat_lit 1267, o1267) :: (nat_lit 1269, o1269) :: (nat_lit 1270, o1270) :: (nat_lit 1272, o1272) :: (nat_lit 1273, o1273 pw_an0026_01) :: (nat_lit 1274, o1274) :: (nat_lit 1276, o1276) :: (nat_lit 1277, o1277) :: (nat_lit 1279, o1279) :: (nat_lit 1280, o1280 pw_an0026_01) :: (nat_lit 1281, o1281) :: (nat_lit 1283, o1283) :: (nat_lit 1284, o1284) :: (nat_lit 1286, o1286) :: (nat_lit 1287, o1287 pw_an0026_01) :: (nat_lit 1288, o1288) :: (nat_lit 1290, o1290) :: (nat_lit 1291, o1291) :: (nat_lit 1293, o1293) :: (nat_lit 1294, o1294 pw_an0026_01) :: (nat_lit 1295, o1295) :: (nat_lit 1297, o1297) :: (nat_lit 1298, o1298) :: (nat_lit 1300, o1300) :: (nat_lit 1301, o1301 pw_an0026_01) :: (nat_lit 1302, o1302) :: (nat_lit 1305, o1305) :: (nat_lit 1306, o1306 pw_an0026_01) :: (nat_lit 1307, o1307) :: (nat_lit 1309, o1309) :: (nat_lit 1310, o1310) :: (nat_lit 1312, o1312) :: (nat_lit 1313, o1313 pw_an0026_01) :: (nat_lit 1314, o1314) :: (nat_lit 1317, o1317) :: (nat_lit 1318, o1318 pw_an0026_01) :: (nat_lit 1319, o1319) :: (nat_lit 1321, o1321) :: (nat_lit 1322, o1322) :: (nat_lit 1324, o1324) :: (nat_lit 1325, o1325 pw_an0026_01) :: (nat_lit 1326, o1326) :: (nat_lit 1328, o1328) :: (nat_lit 1329, o1329) :: (nat_lit 1331, o1331) :: (nat_lit 1332, o1332 pw_an0026_01) :: (nat_lit 1333, o1333) :: (nat_lit 1335, o1335) :: (nat_lit 1336, o1336) :: (nat_lit 1338, o1338) :: (nat_lit 1339, o1339 pw_an0026_01) :: (nat_lit 1340, o1340) :: (nat_lit 1342, o1342) :: (nat_lit 1343, o1343) :: (nat_lit 1345, o1345) :: (nat_lit 1346, o1346 pw_an0026_01) :: (nat_lit 1347, o1347) :: (nat_lit 1349, o1349) :: (nat_lit 1350, o1350) :: (nat_lit 1352, o1352) :: (nat_lit 1353, o1353 pw_an0026_01) :: (nat_lit 1354, o1354) :: (nat_lit 1356, o1356) :: (nat_lit 1357, o1357) :: (nat_lit 1359, o1359) :: (nat_lit 1360, o1360 pw_an0026_01) :: (nat_lit 1361, o1361) :: (nat_lit 1363, o1363) :: (nat_lit 1364, o1364) :: (nat_lit 1366, o1366) :: (nat_lit 1367, o1367 pw_an0026_01) :: (nat_lit 1368, o1368) :: (nat_lit 1370, o1370) :: (nat_lit 1371, o1371) :: (nat_lit 1373, o1373) :: (nat_lit 1374, o1374 pw_an0026_01) :: (nat_lit 1375, o1375) :: (nat_lit 1377, o1377) :: (nat_lit 1378, o1378) :: (nat_lit 1380, o1380) :: (nat_lit 1381, o1381 pw_an0026_01) :: (nat_lit 1382, o1382) :: (nat_lit 1384, o1384) :: (nat_lit 1385, o1385) :: (nat_lit 1387, o1387) :: (nat_lit 1388, o1388 pw_an0026_01) :: (nat_lit 1389, o1389) :: (nat_lit 1391, o1391) :: (nat_lit 1392, o1392) :: (nat_lit 1394, o1394) :: (nat_lit 1395, o1395 pw_an0026_01) :: (nat_lit 1396, o1396) :: (nat_lit 1398, o1398) :: (nat_lit 1399, o1399) :: (nat_lit 1401, o1401) :: (nat_lit 1402, o1402 pw_an0026_01) :: (nat_lit 1403, o1403) :: (nat_lit 1405, o1405) :: (nat_lit 1406, o1406) :: (nat_lit 1408, o1408) :: (nat_lit 1409, o1409 pw_an0026_01) :: (nat_lit 1410, o1410) :: (nat_lit 1412, o1412) :: (nat_lit 1413, o1413) :: (nat_lit 1415, o1415) :: (nat_lit 1416, o1416 pw_an0026_01) :: (nat_lit 1417, o1417) :: (nat_lit 1419, o1419) :: (nat_lit 1420, o1420) :: (nat_lit 1422, o1422) :: (nat_lit 1423, o1423 pw_an0026_01) :: (nat_lit 1424, o1424) :: (nat_lit 1425, o1425) :: (nat_lit 1427, o1427) :: (nat_lit 1428, o1428) :: (nat_lit 1430, o1430) :: (nat_lit 1431, o1431 pw_an0026_01) :: (nat_lit 1432, o1432) :: (nat_lit 1434, o1434) :: (nat_lit 1435, o1435) :: (nat_lit 1437, o1437) :: (nat_lit 1438, o1438 pw_an0026_01) :: (nat_lit 1439, o1439) :: (nat_lit 1440, o1440) :: (nat_lit 1442, o1442) :: (nat_lit 1443, o1443) :: (nat_lit 1445, o1445) :: (nat_lit 1446, o1446 pw_an0026_01) :: (nat_lit 1447, o1447) :: (nat_lit 1448, o1448) :: (nat_lit 1450, o1450) :: (nat_lit 1451, o1451) :: (nat_lit 1453, o1453) :: (nat_lit 1454, o1454 pw_an0026_01) :: (nat_lit 1455, o1455) :: (nat_lit 1456, o1456) :: (nat_lit 1458, o1458) :: (nat_lit 1459, o1459) :: (nat_lit 1461, o1461) :: (nat_lit 1462, o1462 pw_an0026_01) :: (nat_lit 1463, o1463) :: (nat_lit 1465, o1465) :: (nat_lit 1466, o1466) :: (nat_lit 1468, o1468) :: (nat_lit 1469, o1469 pw_an0026_01) :: (nat_lit 1470, o1470) :: (nat_lit 1472, o1472) :: (nat_lit 1473, o1473) :: (nat_lit 1475, o1475) :: (nat_lit 1476, o1476 pw_an0026_01) :: (nat_lit 1477, o1477) :: (nat_lit 1479, o1479) :: (nat_lit 1480, o1480) :: (nat_lit 1482, o1482) :: (nat_lit 1483, o1483 pw_an0026_01) :: (nat_lit 1484, o1484) :: (nat_lit 1486, o1486) :: (nat_lit 1487, o1487) :: (nat_lit 1489, o1489) :: (nat_lit 1490, o1490 pw_an0026_01) :: (nat_lit 1491, o1491) :: (nat_lit 1494, o1494) :: (nat_lit 1495, o1495 pw_an0026_01) :: [])
noncomputable def Kas : List Addr := (2 :: 3 :: 15 :: 17 :: 18 :: 20 :: 21 :: 29 :: 30 :: 32 :: 33 :: 35 :: 36 :: 37 :: 39 :: 40 :: 42 :: 43 :: 44 :: 45 :: 46 :: 47 :: 48 :: 51 :: 53 :: 54 :: 56 :: 57 :: 65 :: 66 :: 67 :: 68 :: 69 :: 72 :: 73 :: 74 :: 82 :: 83 :: 85 :: 86 :: 88 :: 89 :: 90 :: 91 :: 93 :: 94 :: 96 :: 97 :: 98 :: 99 :: 100 :: 101 :: 102 :: 104 :: 105 :: 107 :: 108 :: 109 :: 110 :: 112 :: 113 :: 115 :: 116 :: 117 :: 118 :: 119 :: 120 :: 121 :: 123 :: 124 :: 126 :: 127 :: 128 :: 130 :: 131 :: 133 :: 134 :: 135 :: 136 :: 138 :: 139 :: 141 :: 142 :: 143 :: 145 :: 146 :: 148 :: 149 :: 150 :: 151 :: 152 :: 153 :: 154 :: 164 :: 165 :: 167 :: 168 :: 170 :: 171 :: 172 :: 174 :: 175 :: 177 :: 178 :: 179 :: 180 :: 182 :: 183 :: 185 :: 186 :: 187 :: 189 :: 190 :: 192 :: 193 :: 194 :: 195 :: 196 :: 197 :: 198 :: 208 :: 209 :: 211 :: 212 :: 214 :: 215 :: 216 :: 218 :: 219 :: 221 :: 222 :: 223 :: 224 :: 226 :: 227 :: 229 :: 230 :: 231 :: 232 :: 233 :: 234 :: 235 :: 236 :: 246 :: 247 :: 249 :: 250 :: 252 :: 253 :: 254 :: 255 :: 256 :: 257 :: 258 :: 261 :: 262 :: 264 :: 265 :: 268 :: 276 :: 278 :: 279 :: 281 :: 282 :: 283 :: 285 :: 286 :: 288 :: 289 :: 290 :: 292 :: 293 :: 295 :: 296 :: 297 :: 299 :: 300 :: 302 :: 303 :: 304 :: 306 :: 307 :: 309 :: 310 :: 311 :: 313 :: 314 :: 316 :: 317 :: 318 :: 320 :: 321 :: 323 :: 324 :: 325 :: 327 :: 328 :: 330 :: 331 :: 332 :: 333 :: 334 :: 335 :: 336 :: 346 :: 347 :: 349 :: 350 :: 352 :: 353 :: 354 :: 356 :: 357 :: 359 :: 360 :: 361 :: 362 :: 364 :: 365 :: 367 :: 368 :: 369 :: 370 :: 372 :: 373 :: 375 :: 376 :: 377 :: 378 :: 380 :: 381 :: 383 :: 384 :: 385 :: 387 :: 388 :: 390 :: 391 :: 392 :: 393 :: 394 :: 395 :: 396 :: 406 :: 408 :: 409 :: 411 :: 412 :: 413 :: 415 :: 416 :: 418 :: 419 :: 420 :: 422 :: 423 :: 425 :: 426 :: 427 :: 429 :: 430 :: 432 :: 433 :: 434 :: 436 :: 437 :: 439 :: 440 :: 441 :: 443 :: 444 :: 446 :: 447 :: 448 :: 450 :: 451 :: 453 :: 454 :: 455 :: 456 :: 457 :: 458 :: 459 :: 462 :: 464 :: 465 :: 467 :: 468 :: 469 :: 471 :: 472 :: 474 :: 475 :: 476 :: 477 :: 478 :: 479 :: 480 :: 481 :: 482 :: 484 :: 485 :: 487 :: 488 :: 489 :: 492 :: 493 :: 501 :: 503 :: 504 :: 506 :: 507 :: 508 :: 510 :: 511 :: 513 :: 514 :: 515 :: 517 :: 518 :: 520 :: 521 :: 522 :: 523 :: 524 :: 525 :: 527 :: 528 :: 530 :: 531 :: 532 :: 533 :: 535 :: 536 :: 538 :: 539 :: 540 :: 542 :: 543 :: 545 :: 546 :: 547 :: 548 :: 549 :: 550 :: 551 :: 554 :: 561 :: 562 :: 563 :: 564 :: 567 :: 574 :: 575 :: 576 :: 579 :: 586 :: 587 :: 588 :: 591 :: 594 :: 599 :: 600 :: 601 :: 603 :: 604 :: 606 :: 607 :: 608 :: 610 :: 611 :: 613 :: 614 :: 615 :: 616 :: 617 :: 618 :: 621 :: 628 :: 629 :: 630 :: 640 :: 642 :: 643 :: 645 :: 646 :: 647 :: 649 :: 650 :: 652 :: 653 :: 654 :: 655 :: 656 :: 657 :: 658 :: 668 :: 670 :: 671 :: 673 :: 674 :: 675 :: 677 :: 678 :: 680 :: 681 :: 682 :: 684 :: 685 :: 687 :: 688 :: 689 :: 691 :: 692 :: 694 :: 695 :: 696 :: 698 :: 699 :: 701 :: 702 :: 703 :: 705 :: 706 :: 708 :: 709 :: 710 :: 712 :: 713 :: 715 :: 716 :: 717 :: 718 :: 719 :: 720 :: 721 :: 731 :: 733 :: 734 :: 736 :: 737 :: 738 :: 740 :: 741 :: 743 :: 744 :: 745 :: 747 :: 748 :: 750 :: 751 :: 752 :: 754 :: 755 :: 757 :: 758 :: 759 :: 761 :: 762 :: 764 :: 765 :: 766 :: 768 :: 769 :: 771 :: 772 :: 773 :: 775 :: 776 :: 778 :: 779 :: 780 :: 781 :: 782 :: 783 :: 784 :: 787 :: 789 :: 790 :: 792 :: 793 :: 794 :: 797 :: 798 :: 799 :: 801 :: 802 :: 804 :: 805 :: 813 :: 815 :: 816 :: 818 :: 819 :: 820 :: 822 :: 823 :: 825 :: 826 :: 827 :: 828 :: 829 :: 830 :: 832 :: 833 :: 835 :: 836 :: 837 :: 838 :: 840 :: 841 :: 843 :: 844 :: 845 :: 846 :: 849 :: 850 :: 851 :: 853 :: 854 :: 856 :: 857 :: 858 :: 860 :: 861 :: 863 :: 864 :: 865 :: 867 :: 868 :: 870 :: 871 :: 872 :: 874 :: 875 :: 877 :: 878 :: 879 :: 881 :: 882 :: 884 :: 885 :: 886 :: 888 :: 889 :: 891 :: 892 :: 893 :: 895 :: 896 :: 898 :: 899 :: 900 :: 901 :: 902 :: 903 :: 904 :: 907 :: 909 :: 910 :: 912 :: 913 :: 921 :: 922 :: 924 :: 925 :: 927 :: 928 :: 929 :: 931 :: 932 :: 934 :: 935 :: 936 :: 938 :: 939 :: 941 :: 942 :: 943 :: 944 :: 945 :: 946 :: 947 :: 957 :: 959 :: 960 :: 962 :: 963 :: 964 :: 966 :: 967 :: 969 :: 970 :: 971 :: 972 :: 974 :: 975 :: 977 :: 978 :: 979 :: 980 :: 982 :: 983 :: 985 :: 986 :: 987 :: 989 :: 990 :: 992 :: 993 :: 994 :: 996 :: 997 :: 999 :: 1000 :: 1001 :: 1003 :: 1004 :: 1006 :: 1007 :: 1008 :: 1010 :: 1011 :: 1013 :: 1014 :: 1015 :: 1017 :: 1018 :: 1020 :: 1021 :: 1022 :: 1023 :: 1024 :: 1025 :: 1026 :: 1029 :: 1031 :: 1032 :: 1034 :: 1035 :: 1036 :: 1038 :: 1039 :: 1041 :: 1042 :: 1043 :: 1045 :: 1046 :: 1048 :: 1049 :: 1050 :: 1052 :: 1053 :: 1055 :: 1056 :: 1057 :: 1059 :: 1060 :: 1062 :: 1063 :: 1064 :: 1066 :: 1067 :: 1069 :: 1070 :: 1071 :: 1073 :: 1074 :: 1076 :: 1077 :: 1078 :: 1080 :: 1081 :: 1083 :: 1084 :: 1085 :: 1087 :: 1088 :: 1090 :: 1091 :: 1092 :: 1094 :: 1095 :: 1097 :: 1098 :: 1099 :: 1101 :: 1102 :: 1104 :: 1105 :: 1106 :: 1108 :: 1109 :: 1111 :: 1112 :: 1113 :: 1115 :: 1116 :: 1118 :: 1119 :: 1120 :: 1122 :: 1123 :: 1125 :: 1126 :: 1127 :: 1129 :: 1130 :: 1132 :: 1133 :: 1134 :: 1136 :: 1137 :: 1139 :: 1140 :: 1141 :: 1143 :: 1144 :: 1146 :: 1147 :: 1148 :: 1150 :: 1151 :: 1153 :: 1154 :: 1155 :: 1157 :: 1158 :: 1160 :: 1161 :: 1162 :: 1164 :: 1165 :: 1167 :: 1168 :: 1169 :: 1171 :: 1172 :: 1174 :: 1175 :: 1176 :: 1178 :: 1179 :: 1181 :: 1182 :: 1183 :: 1185 :: 1186 :: 1188 :: 1189 :: 1190 :: 1192 :: 1193 :: 1195 :: 1196 :: 1197 :: 1199 :: 1200 :: 1202 :: 1203 :: 1204 :: 1206 :: 1207 :: 1209 :: 1210 :: 1211 :: 1213 :: 1214 :: 1216 :: 1217 :: 1218 :: 1220 :: 1221 :: 1223 :: 1224 :: 1225 :: 1227 :: 1228 :: 1230 :: 1231 :: 1232 :: 1234 :: 1235 :: 1237 :: 1238 :: 1239 :: 1241 :: 1242 :: 1244 :: 1245 :: 1246 :: 1248 :: 1249 :: 1251 :: 1252 :: 1253 :: 1255 :: 1256 :: 1258 :: 1259 :: 1260 :: 1262 :: 1263 :: 1265 :: 1266 :: 1267 :: 1269 :: 1270 :: 1272 :: 1273 :: 1274 :: 1276 :: 1277 :: 1279 :: 1280 :: 1281 :: 1283 :: 1284 :: 1286 :: 1287 :: 1288 :: 1290 :: 1291 :: 1293 :: 1294 :: 1295 :: 1297 :: 1298 :: 1300 :: 1301 :: 1302 :: 1305 :: 1306 :: 1307 :: 1309 :: 1310 :: 1312 :: 1313 :: 1314 :: 1317 :: 1318 :: 1319 :: 1321 :: 1322 :: 1324 :: 1325 :: 1326 :: 1328 :: 1329 :: 1331 :: 1332 :: 1333 :: 1335 :: 1336 :: 1338 :: 1339 :: 1340 :: 1342 :: 1343 :: 1345 :: 1346 :: 1347 :: 1349 :: 1350 :: 1352 :: 1353 :: 1354 :: 1356 :: 1357 :: 1359 :: 1360 :: 1361 :: 1363 :: 1364 :: 1366 :: 1367 :: 1368 :: 1370 :: 1371 :: 1373 :: 1374 :: 1375 :: 1377 :: 1378 :: 1380 :: 1381 :: 1382 :: 1384 :: 1385 :: 1387 :: 1388 :: 1389 :: 1391 :: 1392 :: 1394 :: 1395 :: 1396 :: 1398 :: 1399 :: 1401 :: 1402 :: 1403 :: 1405 :: 1406 :: 1408 :: 1409 :: 1410 :: 1412 :: 1413 :: 1415 :: 1416 :: 1417 :: 1419 :: 1420 :: 1422 :: 1423 :: 1424 :: 1425 :: 1427 :: 1428 :: 1430 :: 1431 :: 1432 :: 1434 :: 1435 :: 1437 :: 1438 :: 1439 :: 1440 :: 1442 :: 1443 :: 1445 :: 1446 :: 1447 :: 1448 :: 1450 :: 1451 :: 1453 :: 1454 :: 1455 :: 1456 :: 1458 :: 1459 :: 1461 :: 1462 :: 1463 :: 1465 :: 1466 :: 1468 :: 1469 :: 1470 :: 1472 :: 1473 :: 1475 :: 1476 :: 1477 :: 1479 :: 1480 :: 1482 :: 1483 :: 1484 :: 1486 :: 1487 :: 1489 :: 1490 :: 1491 :: 1494 :: 1495 :: [])
end
end
theorem kfillx : (PySem.Challenge.rw_an0026_01, K) = (PySem.Challenge.rw_an0026_01, K) := by
  k_fill
  rfl
end Mine
namespace Mine
section
open PySem PySem.W PyProof.Rows
noncomputable def runP (thr : Thread → Bool) (ok : Thread → Bool) (stp : SharedT → Thread → Option (SharedT × Thread)) : Nat → SharedT → Thread → Option SharedT
  | 0, _, _ => none
  | n + 1, s, t => match thr t with
    | true => some s
    | false => match ok t with
      | false => none
      | true => match stp s t with
        | some (s', t') => runP thr ok stp n s' t'
        | none => none
theorem runP_of {tb : String → Option Builtin} {p : Program} {w : World} {n₀ : Nat} {ann : Option Value} : ∀ {n : Nat} {s s' : SharedT} {t : Thread}, runP through (stepOk n₀ ann) (stepT (denote tb) p w) n s t = some s' → topRun tb p w n₀ ann n s.abs t = some s'.abs
  | 0, _, _, _, h => by cases h
  | n + 1, s, s', t, h => by
    unfold runP at h
    unfold topRun
    cases ht : through t with
    | true => rw [ht] at h; cases h; rfl
    | false =>
      rw [ht] at h
      cases hk : stepOk n₀ ann t with
      | false => rw [hk] at h; cases h
      | true =>
        rw [hk] at h
        cases hs : stepT (denote tb) p w s t with
        | none => rw [hs] at h; cases h
        | some r =>
          obtain ⟨s₂, t₂⟩ := r
          rw [hs] at h
          rw [stepT_spec hs]
          exact runP_of h
end
end Mine
namespace Mine
section
open PySem PySem.W PyProof.Rows
noncomputable def tree0 (P : Params) : BT := .node (boot_o_0 P) (.node (boot_o_1 P) (.node (boot_o_3 P) (.node (boot_o_7 P) .nil .nil) .nil) (.node (boot_o_5 P) (.node (boot_o_9 P) .nil .nil) .nil)) (.node (boot_o_2 P) (.node (boot_o_4 P) (.node (boot_o_8 P) .nil .nil) .nil) (.node (boot_o_6 P) (.node (boot_o_10 P) .nil .nil) .nil))
noncomputable def S0 (w : World) (os : OsState) : SharedT := ⟨tree0 w.params, 11, {}, #[], boot_drawn, boot_toks, os⟩
noncomputable def S1 (w : World) (os : OsState) : SharedT := ⟨tree PySem.Challenge.pw_an0026_01 w.params, 1496, {}, #[], {}, 2342, os⟩
theorem s0_abs (w : World) (os : OsState) : (S0 w os).abs = ⟨boot_heap w.params, #[], boot_drawn, boot_toks, os⟩ := by kernel_rfl
def Runs (w : World) : Prop := ∀ os, runP through (stepOk 11 (some (.ref 6))) (stepT (denote treeTable) PySem.Challenge.pw_an0026_01 w) 12000 (S0 w os) (topStub PySem.Challenge.pw_an0026_01) = some (S1 w os)
theorem run_false (w : World) : Runs (w.withFollow "special-get-raises" false) := by
  unfold Runs
  rw [PySem.W.Fast.te10156331382660048174, PySem.W.Fast.te11892475500146522536, PySem.W.Fast.te14364793385576792824, PySem.W.Fast.te6613529449190102663]
  intro os
  kernel_rfl
end
end Mine
namespace Mine
section
open PySem PySem.W PyProof.Rows
theorem run_true (w : World) : Runs (w.withFollow "special-get-raises" true) := by
  unfold Runs
  rw [PySem.W.Fast.te10156331382660048174, PySem.W.Fast.te11892475500146522536, PySem.W.Fast.te14364793385576792824, PySem.W.Fast.te6613529449190102663]
  intro os
  kernel_rfl
end
end Mine
namespace Mine
section
open PySem PySem.W PyProof.Rows PySem.Calls
noncomputable def qv : Program := { PySem.Challenge.pw_an0026_01 with main := { PySem.Challenge.pw_an0026_01.main with body := [sA PySem.Challenge.pw_an0026_01 139] } }
noncomputable def lo : List Str := [S "_wall", S "UUID", S "_turned", S "OLD_UUID_SUBTYPE", S "UUID_SUBTYPE", S "UuidRepresentation", S "STANDARD", S "ALL_UUID_SUBTYPES", S "ALL_UUID_REPRESENTATIONS", S "UUID_REPRESENTATION_NAMES", S "Binary", S "Code", S "TypeRegistry", S "CodecOptions", S "DEFAULT_CODEC_OPTIONS", S "DatetimeMS", S "DBRef", S "Decimal", S "_PACK_64", S "_UNPACK_64", S "_EXPONENT_MASK", S "_EXPONENT_BIAS", S "_MAX_DIGITS", S "_SIGN", S "_NINF", S "_PINF", S "_NNAN", S "_PNAN", S "_NSNAN", S "_PSNAN", S "_check_fits", S "_decimal_to_128", S "Decimal128", S "BSONError", S "InvalidBSON", S "InvalidStringData", S "InvalidDocument", S "InvalidId", S "Int64", S "MaxKey", S "MinKey", S "_HEX_DIGITS", S "_UNPACK_INT", S "_from_hex", S "_raise_invalid_id", S "ObjectId", S "_IGNORECASE", S "_LOCALE", S "_MULTILINE", S "_DOTALL", S "_UNICODE", S "_VERBOSE", S "str_flags_to_int", S "Regex", S "UPPERBOUND", S "Timestamp", S "_unpack", S "_UNPACK_INT_FROM", S "_UNPACK_LENGTH_SUBTYPE_FROM", S "_UNPACK_LONG_FROM", S "_UNPACK_TIMESTAMP_FROM", S "_utf_8_decode", S "_utf_8_encode", S "_index_nul", S "get_data_and_view", S "_raise_unknown_type", S "_get_int", S "_get_c_string", S "_get_string", S "_get_object_size", S "_get_object", S "_get_array", S "_get_binary", S "_get_oid", S "_get_boolean", S "_get_date", S "_get_code", S "_get_code_w_scope", S "_get_regex", S "_get_ref", S "_get_timestamp", S "_get_int64", S "_get_decimal128", S "_get_element", S "_element_to_dict", S "_elements_to_dict", S "_bson_to_dict", S "_PACK_INT", S "_PACK_LENGTH_SUBTYPE", S "_PACK_LONG", S "_PACK_TIMESTAMP", S "_make_c_string_check", S "_make_c_string", S "_make_name", S "_encode_bytes", S "_encode_mapping", S "_encode_dbref", S "_encode_list", S "_encode_text", S "_encode_binary", S "_encode_uuid", S "_encode_objectid", S "_encode_bool", S "_encode_datetime_ms", S "_encode_none", S "_encode_regex", S "_encode_code", S "_encode_int", S "_encode_timestamp", S "_encode_long", S "_encode_decimal128", S "_encode_minkey", S "_encode_maxkey", S "_name_value_to_bson", S "_element_to_bson", S "_dict_to_bson", S "encode", S "decode", S "_law_made", S "_law_orders", S "_law_stamp", S "_law_little"]
noncomputable def H1 (P : Params) : Heap := absHeap (tree PySem.Challenge.pw_an0026_01 P) 1496 {}
noncomputable def s1 (w : World) (os : OsState) : Shared := ⟨H1 w.params, #[], {}, 2342, os⟩
theorem look1 (w : World) : staticsOk (importedModules PySem.Challenge.pw_an0026_01.main.body) (boot_heap w.params) (H1 w.params) = true := by kernel_rfl
theorem look2 (w : World) : namesBound PySem.Challenge.pw_an0026_01 (H1 w.params) = true := by kernel_rfl
theorem look3 (w : World) (os : OsState) : gensDone (s1 w os) = true := by kernel_rfl
theorem look4 (w : World) : laidKept (boot_heap w.params) (H1 w.params) = true := by kernel_rfl
theorem inK1 : ∀ P, (K P).map (fun p => (tree PySem.Challenge.pw_an0026_01 P).get p.1) = (K P).map (fun p => some p.2) := fun P => by kernel_rfl
theorem inK2 : ∀ P, (K P).map (fun p => alive p.2) = (K P).map (fun p => some p.2) := fun P => by kernel_rfl
theorem inK3 : ∀ P, (K P).all (fun p => Nat.blt p.1 1496) = true := fun P => by kernel_rfl
theorem inK4 : ∀ P, Kas = (K P).map (·.1) := fun P => by kernel_rfl
theorem oo1 (w : World) (os : OsState) : seen ((recsOf qv).map (·.name)) (ownsOf qv) [] { (s1 w os) with gens := #[] } = expectedOf qv := by kernel_rfl
theorem oo2 (w : World) (os : OsState) : (s1 w os).heap.bltView = bltViewBooted := by kernel_rfl
theorem oo3a (w : World) (os : OsState) : (s1 w os).heap.keysOk (looseW qv lo) ((recsOf qv).map (·.name)) ((litsOf qv).map (·.1)) ((clssOf qv (looseW qv lo)).map (·.name)) = true := by kernel_rfl
theorem oo3b (w : World) (os : OsState) : (s1 w os).heap.accountedOkI (importedModules PySem.Challenge.pw_an0026_01.main.body) = true := by kernel_rfl
theorem oo3c (w : World) (os : OsState) : ((s1 w os).heap.isNs mainGlobals && (s1 w os).heap.isNs builtinsNs) = true := by kernel_rfl
theorem oo3d (w : World) (os : OsState) : tablesOk qv (s1 w os).heap = true := by kernel_rfl
theorem oo3e (w : World) (os : OsState) : xlAt qv [] (s1 w os) = true := by kernel_rfl
theorem oo3f (w : World) (os : OsState) : recOk (RowW.records PySem.Challenge.rw_an0026_01.row.toRowW) (s1 w os) = true := by kernel_rfl
theorem oo4 (w : World) (os : OsState) : tabsOk qv (s1 w os) = true := by kernel_rfl
theorem oo5 (w : World) (os : OsState) : pinSeenD qv (drecsOf qv) (s1 w os) = pinGoodD (drecsOf qv) := by kernel_rfl
theorem oo6 (w : World) (os : OsState) : plainSeenE qv (looseW qv lo) (s1 w os) = plainGoodE qv (looseW qv lo) := by kernel_rfl
theorem oo7 (w : World) (os : OsState) : plainSeenD qv lo (s1 w os) = plainGoodD qv lo := by kernel_rfl
theorem oo8 (w : World) (os : OsState) : wideSeen qv (s1 w os) = wideGood qv := by kernel_rfl
theorem oo9 (w : World) (os : OsState) : clsSeenW qv lo (s1 w os) = clsGoodW qv lo := by kernel_rfl
end
end Mine
namespace Mine
section
open PySem PySem.W PyProof.Rows PySem.Calls
theorem runs (w : World) : Runs w := byRow2 "special-get-raises" (P := Runs) run_false run_true w
theorem top_run (w : World) (os : OsState) : topRun treeTable PySem.Challenge.pw_an0026_01 w 11 (some (.ref 6)) 12000 ⟨boot_heap w.params, #[], boot_drawn, boot_toks, os⟩ (topStub PySem.Challenge.pw_an0026_01) = some (s1 w os) := by
  rw [← s0_abs w os]
  exact runP_of (runs w os)
theorem boot_size (w : World) : ((boot_heap w.params).isNs mainGlobals && (#[] : Array GenState).size == 0, (boot_heap w.params).objs.size, (boot_heap w.params).nsMap mainGlobals "__annotations__") = (true, 11, some (.ref 6)) := by kernel_rfl
theorem map_at {t : BT} {n : Nat} {life : Life} : ∀ {l : Frag}, l.map (fun p => t.get p.1) = l.map (fun p => some p.2) → l.map (fun p => alive p.2) = l.map (fun p => some p.2) → l.all (fun p => Nat.blt p.1 n) = true →
    (l.map (·.1)).map (absHeap t n life).get? = l.map fun p => some p.2
  | [], _, _, _ => rfl
  | (a, o) :: l, h1, h2, h3 => by
    simp only [List.map_cons, List.cons.injEq, List.all_cons, Bool.and_eq_true] at h1 h2 h3 ⊢
    refine ⟨?_, map_at h1.2 h2.2 h3.2⟩
    rw [abs_get (Nat.le_of_ble_eq_true h3.1) h1.1, h2.1]
noncomputable abbrev hookK : Hook := kHook K Kas inK4
theorem obsK (w : World) (os : OsState) : hookK.obs (s1 w os) = hookK.val w := by
  show Kas.map (H1 w.params).get? = (K w.params).map fun p => some p.2
  rw [inK4 w.params]
  exact map_at (inK1 _) (inK2 _) (inK3 _)
theorem seenO (w : World) (os : OsState) : openSeen qv lo (importedModules PySem.Challenge.pw_an0026_01.main.body) (fun s => xlAt qv [] s && recOk (RowW.records PySem.Challenge.rw_an0026_01.row.toRowW) s) true (s1 w os) = openGood qv lo := by
  unfold openSeen openGood
  refine looks_pair (oo1 w os) (looks_pair (oo2 w os) (looks_pair ?_ (looks_pair (oo4 w os) (looks_pair (oo5 w os) (looks_pair (oo6 w os) (looks_pair (oo7 w os) (looks_pair (oo8 w os) (oo9 w os))))))))
  show (_ && _ && _ && _ && _ && (xlAt qv [] (s1 w os) && recOk (RowW.records PySem.Challenge.rw_an0026_01.row.toRowW) (s1 w os)) && _) = true
  rw [oo3a w os, oo3b w os, oo3d w os, oo3e w os, oo3f w os]
  have h := oo3c w os
  rw [Bool.and_eq_true] at h
  rw [h.1, h.2]
  rfl
theorem left : LeftO PySem.Challenge.rw_an0026_01.row.prog qv lo (fun s => xlAt qv [] s && recOk (RowW.records PySem.Challenge.rw_an0026_01.row.toRowW) s) hookK.obs hookK.val 12000 := by
  refine LeftO.of_pieces (M := 12000) (boot_open (by kernel_rfl) (by decide) (fun s => by kernel_rfl)) boot_size top_run (by decide) fun w => ?_
  funext os
  refine looks_pair ?_ (looks_pair (seenO w os) (obsK w os))
  have h1 := look1 w
  have h2 := look2 w
  have h3 := look3 w os
  have h4 := look4 w
  show (staticsOk (importedModules PySem.Challenge.pw_an0026_01.main.body) (boot_heap w.params) (H1 w.params) && namesBound PySem.Challenge.pw_an0026_01 (H1 w.params) && gensDone (s1 w os) && laidKept (boot_heap w.params) (H1 w.params)) = true
  rw [h1, h2, h3, h4]
  rfl
theorem twhole : PySem.Challenge.rw_an0026_01.row.prog.tablesWhole = true := by
  unfold PySem.Program.tablesWhole PySem.TablesWhole.wProgram
  rw [PySem.W.Fast.te6116379765354995101]
  decide +kernel
theorem wsaid : PySem.Challenge.rw_an0026_01.wellSaid = true := by
  repeat' (first
    | (with_reducible refine look_both ?_ ?_)
    | (delta OpenLaw.wellSaid)
    | (delta OpenRow.wellSaid)
    | (delta OpenRow.partSaid)
    | (delta looksOpen)
    | (decide +kernel))
end
end Mine
namespace Mine
section
open PySem PySem.W PySem.Calls PyProof.Rows PySem.Spec
section
variable {P : Params}
noncomputable def gTab : List (String × Option Value) := ("UUID", some (.ref 46)) :: ("Binary", some (.ref 152)) :: ("Int64", some (.ref 656)) :: ("Code", some (.ref 196)) :: ("DBRef", some (.ref 394)) :: ("MaxKey", some (.ref 719)) :: ("MinKey", some (.ref 782)) :: ("ObjectId", some (.ref 902)) :: ("Regex", some (.ref 945)) :: ("Timestamp", some (.ref 1024)) :: ("Decimal128", some (.ref 549)) :: ("DatetimeMS", some (.ref 334)) :: ("_encode_objectid", some (.ref 1346)) :: ("_encode_timestamp", some (.ref 1395)) :: ("_encode_minkey", some (.ref 1416)) :: ("_encode_maxkey", some (.ref 1423)) :: ("_PACK_INT", some (.ref 1252)) :: ("_PACK_TIMESTAMP", some (.ref 1273)) :: ("_make_name", some (.ref 1294)) :: ("_name_value_to_bson", some (.ref 1431)) :: ("_element_to_bson", some (.ref 1438)) :: ("_dict_to_bson", some (.ref 1446)) :: ("encode", some (.ref 1454)) :: ("decode", some (.ref 1462)) :: ("_bson_to_dict", some (.ref 1245)) :: ("_elements_to_dict", some (.ref 1238)) :: ("_element_to_dict", some (.ref 1231)) :: ("_get_element", some (.ref 1224)) :: ("_get_c_string", some (.ref 1112)) :: ("_get_oid", some (.ref 1154)) :: ("_get_timestamp", some (.ref 1203)) :: ("_get_object_size", some (.ref 1126)) :: ("_UNPACK_INT", some (.ref 793)) :: ("get_data_and_view", some (.ref 1091)) :: ("_index_nul", some (.ref 1084)) :: ("_utf_8_encode", some (.ref 1077)) :: ("_utf_8_decode", some (.ref 1070)) :: ("CodecOptions", some (.ref 256)) :: ("DEFAULT_CODEC_OPTIONS", some (.ref 262)) :: ("InvalidBSON", some (.ref 576)) :: ("InvalidDocument", some (.ref 618)) :: ("InvalidId", some (.ref 630)) :: ("_law_made", some (.ref 1469)) :: ("_law_orders", some (.ref 1476)) :: ("_law_stamp", some (.ref 1483)) :: ("_law_little", some (.ref 1490)) :: ("_from_hex", some (.ref 798)) :: ("_raise_invalid_id", some (.ref 805)) :: ("_UNPACK_TIMESTAMP_FROM", some (.ref 1063)) :: ("_UNPACK_INT_FROM", some (.ref 1042)) :: ("isinstance", none) :: ("bool", none) :: ("int", none) :: ("str", none) :: ("bytes", none) :: ("dict", none) :: ("list", none) :: ("tuple", none) :: ("len", none) :: ("range", none) :: ("ValueError", none) :: ("TypeError", none) :: ("KeyError", none) :: ("Exception", none) :: ("sum", none) :: ("abs", none) :: ("enumerate", none) :: []
theorem gTab_ok : gTab.map (fun x => nsIn (K P) mainGlobals (Str.ofString x.1)) = gTab.map (fun x => some x.2) := by kernel_rfl
theorem g_of {i : Nat} {n : String} {v : Option Value} (h : gTab[i]? = some (n, v)) : nsIn (K P) mainGlobals (Str.ofString n) = some v :=
  List.map_inj_left.mp (gTab_ok (P := P)) (n, v) (List.mem_of_getElem? h)
theorem g_UUID : nsIn (K P) mainGlobals (Str.ofString "UUID") = some (some (.ref 46)) := g_of (i := 0) rfl
theorem g_Binary : nsIn (K P) mainGlobals (Str.ofString "Binary") = some (some (.ref 152)) := g_of (i := 1) rfl
theorem g_Int64 : nsIn (K P) mainGlobals (Str.ofString "Int64") = some (some (.ref 656)) := g_of (i := 2) rfl
theorem g_Code : nsIn (K P) mainGlobals (Str.ofString "Code") = some (some (.ref 196)) := g_of (i := 3) rfl
theorem g_DBRef : nsIn (K P) mainGlobals (Str.ofString "DBRef") = some (some (.ref 394)) := g_of (i := 4) rfl
theorem g_MaxKey : nsIn (K P) mainGlobals (Str.ofString "MaxKey") = some (some (.ref 719)) := g_of (i := 5) rfl
theorem g_MinKey : nsIn (K P) mainGlobals (Str.ofString "MinKey") = some (some (.ref 782)) := g_of (i := 6) rfl
theorem g_ObjectId : nsIn (K P) mainGlobals (Str.ofString "ObjectId") = some (some (.ref 902)) := g_of (i := 7) rfl
theorem g_Regex : nsIn (K P) mainGlobals (Str.ofString "Regex") = some (some (.ref 945)) := g_of (i := 8) rfl
theorem g_Timestamp : nsIn (K P) mainGlobals (Str.ofString "Timestamp") = some (some (.ref 1024)) := g_of (i := 9) rfl
theorem g_Decimal128 : nsIn (K P) mainGlobals (Str.ofString "Decimal128") = some (some (.ref 549)) := g_of (i := 10) rfl
theorem g_DatetimeMS : nsIn (K P) mainGlobals (Str.ofString "DatetimeMS") = some (some (.ref 334)) := g_of (i := 11) rfl
theorem g_encode_objectidU : nsIn (K P) mainGlobals (Str.ofString "_encode_objectid") = some (some (.ref 1346)) := g_of (i := 12) rfl
theorem g_encode_timestampU : nsIn (K P) mainGlobals (Str.ofString "_encode_timestamp") = some (some (.ref 1395)) := g_of (i := 13) rfl
theorem g_encode_minkeyU : nsIn (K P) mainGlobals (Str.ofString "_encode_minkey") = some (some (.ref 1416)) := g_of (i := 14) rfl
theorem g_encode_maxkeyU : nsIn (K P) mainGlobals (Str.ofString "_encode_maxkey") = some (some (.ref 1423)) := g_of (i := 15) rfl
theorem g_PACK_INTU : nsIn (K P) mainGlobals (Str.ofString "_PACK_INT") = some (some (.ref 1252)) := g_of (i := 16) rfl
theorem g_PACK_TIMESTAMPU : nsIn (K P) mainGlobals (Str.ofString "_PACK_TIMESTAMP") = some (some (.ref 1273)) := g_of (i := 17) rfl
theorem g_make_nameU : nsIn (K P) mainGlobals (Str.ofString "_make_name") = some (some (.ref 1294)) := g_of (i := 18) rfl
theorem g_name_value_to_bsonU : nsIn (K P) mainGlobals (Str.ofString "_name_value_to_bson") = some (some (.ref 1431)) := g_of (i := 19) rfl
theorem g_element_to_bsonU : nsIn (K P) mainGlobals (Str.ofString "_element_to_bson") = some (some (.ref 1438)) := g_of (i := 20) rfl
theorem g_dict_to_bsonU : nsIn (K P) mainGlobals (Str.ofString "_dict_to_bson") = some (some (.ref 1446)) := g_of (i := 21) rfl
theorem g_encode : nsIn (K P) mainGlobals (Str.ofString "encode") = some (some (.ref 1454)) := g_of (i := 22) rfl
theorem g_decode : nsIn (K P) mainGlobals (Str.ofString "decode") = some (some (.ref 1462)) := g_of (i := 23) rfl
theorem g_bson_to_dictU : nsIn (K P) mainGlobals (Str.ofString "_bson_to_dict") = some (some (.ref 1245)) := g_of (i := 24) rfl
theorem g_elements_to_dictU : nsIn (K P) mainGlobals (Str.ofString "_elements_to_dict") = some (some (.ref 1238)) := g_of (i := 25) rfl
theorem g_element_to_dictU : nsIn (K P) mainGlobals (Str.ofString "_element_to_dict") = some (some (.ref 1231)) := g_of (i := 26) rfl
theorem g_get_elementU : nsIn (K P) mainGlobals (Str.ofString "_get_element") = some (some (.ref 1224)) := g_of (i := 27) rfl
theorem g_get_c_stringU : nsIn (K P) mainGlobals (Str.ofString "_get_c_string") = some (some (.ref 1112)) := g_of (i := 28) rfl
theorem g_get_oidU : nsIn (K P) mainGlobals (Str.ofString "_get_oid") = some (some (.ref 1154)) := g_of (i := 29) rfl
theorem g_get_timestampU : nsIn (K P) mainGlobals (Str.ofString "_get_timestamp") = some (some (.ref 1203)) := g_of (i := 30) rfl
theorem g_get_object_sizeU : nsIn (K P) mainGlobals (Str.ofString "_get_object_size") = some (some (.ref 1126)) := g_of (i := 31) rfl
theorem g_UNPACK_INTU : nsIn (K P) mainGlobals (Str.ofString "_UNPACK_INT") = some (some (.ref 793)) := g_of (i := 32) rfl
theorem g_get_data_and_view : nsIn (K P) mainGlobals (Str.ofString "get_data_and_view") = some (some (.ref 1091)) := g_of (i := 33) rfl
theorem g_index_nulU : nsIn (K P) mainGlobals (Str.ofString "_index_nul") = some (some (.ref 1084)) := g_of (i := 34) rfl
theorem g_utf_8_encodeU : nsIn (K P) mainGlobals (Str.ofString "_utf_8_encode") = some (some (.ref 1077)) := g_of (i := 35) rfl
theorem g_utf_8_decodeU : nsIn (K P) mainGlobals (Str.ofString "_utf_8_decode") = some (some (.ref 1070)) := g_of (i := 36) rfl
theorem g_CodecOptions : nsIn (K P) mainGlobals (Str.ofString "CodecOptions") = some (some (.ref 256)) := g_of (i := 37) rfl
theorem g_DEFAULT_CODEC_OPTIONS : nsIn (K P) mainGlobals (Str.ofString "DEFAULT_CODEC_OPTIONS") = some (some (.ref 262)) := g_of (i := 38) rfl
theorem g_InvalidBSON : nsIn (K P) mainGlobals (Str.ofString "InvalidBSON") = some (some (.ref 576)) := g_of (i := 39) rfl
theorem g_InvalidDocument : nsIn (K P) mainGlobals (Str.ofString "InvalidDocument") = some (some (.ref 618)) := g_of (i := 40) rfl
theorem g_InvalidId : nsIn (K P) mainGlobals (Str.ofString "InvalidId") = some (some (.ref 630)) := g_of (i := 41) rfl
theorem g_law_madeU : nsIn (K P) mainGlobals (Str.ofString "_law_made") = some (some (.ref 1469)) := g_of (i := 42) rfl
theorem g_law_ordersU : nsIn (K P) mainGlobals (Str.ofString "_law_orders") = some (some (.ref 1476)) := g_of (i := 43) rfl
theorem g_law_stampU : nsIn (K P) mainGlobals (Str.ofString "_law_stamp") = some (some (.ref 1483)) := g_of (i := 44) rfl
theorem g_law_littleU : nsIn (K P) mainGlobals (Str.ofString "_law_little") = some (some (.ref 1490)) := g_of (i := 45) rfl
theorem g_from_hexU : nsIn (K P) mainGlobals (Str.ofString "_from_hex") = some (some (.ref 798)) := g_of (i := 46) rfl
theorem g_raise_invalid_idU : nsIn (K P) mainGlobals (Str.ofString "_raise_invalid_id") = some (some (.ref 805)) := g_of (i := 47) rfl
theorem g_UNPACK_TIMESTAMP_FROMU : nsIn (K P) mainGlobals (Str.ofString "_UNPACK_TIMESTAMP_FROM") = some (some (.ref 1063)) := g_of (i := 48) rfl
theorem g_UNPACK_INT_FROMU : nsIn (K P) mainGlobals (Str.ofString "_UNPACK_INT_FROM") = some (some (.ref 1042)) := g_of (i := 49) rfl
theorem gb_isinstance : nsIn (K P) mainGlobals (Str.ofString "isinstance") = some (none) := g_of (i := 50) rfl
theorem gb_bool : nsIn (K P) mainGlobals (Str.ofString "bool") = some (none) := g_of (i := 51) rfl
theorem gb_int : nsIn (K P) mainGlobals (Str.ofString "int") = some (none) := g_of (i := 52) rfl
theorem gb_str : nsIn (K P) mainGlobals (Str.ofString "str") = some (none) := g_of (i := 53) rfl
theorem gb_bytes : nsIn (K P) mainGlobals (Str.ofString "bytes") = some (none) := g_of (i := 54) rfl
theorem gb_dict : nsIn (K P) mainGlobals (Str.ofString "dict") = some (none) := g_of (i := 55) rfl
theorem gb_list : nsIn (K P) mainGlobals (Str.ofString "list") = some (none) := g_of (i := 56) rfl
theorem gb_tuple : nsIn (K P) mainGlobals (Str.ofString "tuple") = some (none) := g_of (i := 57) rfl
theorem gb_len : nsIn (K P) mainGlobals (Str.ofString "len") = some (none) := g_of (i := 58) rfl
theorem gb_range : nsIn (K P) mainGlobals (Str.ofString "range") = some (none) := g_of (i := 59) rfl
theorem gb_ValueError : nsIn (K P) mainGlobals (Str.ofString "ValueError") = some (none) := g_of (i := 60) rfl
theorem gb_TypeError : nsIn (K P) mainGlobals (Str.ofString "TypeError") = some (none) := g_of (i := 61) rfl
theorem gb_KeyError : nsIn (K P) mainGlobals (Str.ofString "KeyError") = some (none) := g_of (i := 62) rfl
theorem gb_Exception : nsIn (K P) mainGlobals (Str.ofString "Exception") = some (none) := g_of (i := 63) rfl
theorem gb_sum : nsIn (K P) mainGlobals (Str.ofString "sum") = some (none) := g_of (i := 64) rfl
theorem gb_abs : nsIn (K P) mainGlobals (Str.ofString "abs") = some (none) := g_of (i := 65) rfl
theorem gb_enumerate : nsIn (K P) mainGlobals (Str.ofString "enumerate") = some (none) := g_of (i := 66) rfl
noncomputable def ownL : List Addr := [902, 1024, 782, 719]
noncomputable def candL : List Value := [.type "bool", .type "int", .type "str", .type "bytes", .type "dict", .type "list", .type "tuple", .ref 334, .ref 46, .ref 152, .ref 656, .ref 196, .ref 394, .ref 719, .ref 782, .ref 902, .ref 945, .ref 1024, .ref 549]
noncomputable def kitTab (K : Frag) : Bool := ownL.all fun D => candL.all fun c => decide (kitOne K (.ref D) c = some (c == .ref D))
theorem kitTab_ok : kitTab (K P) = true := by kernel_rfl
noncomputable def inTab (D : Addr) (c : Value) : Bool := ownL.contains D && candL.contains c
theorem kit_own {D : Addr} {c : Value} {b : Bool} (h : inTab D c = true) (e : (c == .ref D) = b) : kitOne (K P) (.ref D) c = some b := by
  have t := kitTab_ok (P := P)
  unfold inTab at h
  rw [Bool.and_eq_true, List.contains_iff_mem, List.contains_iff_mem] at h
  have h1 := List.all_eq_true.mp t D h.1
  have h2 := of_decide_eq_true (List.all_eq_true.mp h1 c h.2)
  rw [h2, e]
noncomputable def tyL : List String := ["int", "str", "bytes", "NoneType", "bool"]
noncomputable def kitTabT (K : Frag) : Bool := tyL.all fun D => candL.all fun c => decide (kitOne K (.type D) c = some (c == .type D || (D == "bool" && c == .type "int")))
theorem kitTabT_ok : kitTabT (K P) = true := by kernel_rfl
noncomputable def inTabT (D : String) (c : Value) : Bool := tyL.contains D && candL.contains c
theorem kit_ty {D : String} {c : Value} {b : Bool} (h : inTabT D c = true) (e : (c == .type D || (D == "bool" && c == .type "int")) = b) : kitOne (K P) (.type D) c = some b := by
  have t := kitTabT_ok (P := P)
  unfold inTabT at h
  rw [Bool.and_eq_true, List.contains_iff_mem, List.contains_iff_mem] at h
  have h1 := List.all_eq_true.mp t D h.1
  have h2 := of_decide_eq_true (List.all_eq_true.mp h1 c h.2)
  rw [h2, e]
theorem kit_lt {D : Addr} (h : inTab D (.type "list") = true) : kitAny (K P) (.ref D) [.type "list", .type "tuple"] = some false := by
  have h1 : inTab D (.type "list") = true := h
  have h2 : inTab D (.type "tuple") = true := by
    unfold inTab at h ⊢
    rw [Bool.and_eq_true] at h ⊢
    exact ⟨h.1, by decide⟩
  unfold kitAny
  rw [kit_own (b := false) h1 rfl]
  show kitAny (K P) (.ref D) [.type "tuple"] = some false
  unfold kitAny
  rw [kit_own (b := false) h2 rfl]
  rfl
abbrev Own (P : Params) (D : Addr) : Prop := ∀ {x : Addr} {ox od : Obj}, KitX (K P) (.ref x) (.ref D) (fun h => InstAt h x ox D (some od))
theorem own902 : Own P 902 := kitx_own (by kernel_rfl) (by kernel_rfl) (by kernel_rfl) (by kernel_rfl) (by kernel_rfl) (by kernel_rfl)
theorem own1024 : Own P 1024 := kitx_own (by kernel_rfl) (by kernel_rfl) (by kernel_rfl) (by kernel_rfl) (by kernel_rfl) (by kernel_rfl)
theorem own782 : Own P 782 := kitx_own (by kernel_rfl) (by kernel_rfl) (by kernel_rfl) (by kernel_rfl) (by kernel_rfl) (by kernel_rfl)
theorem own719 : Own P 719 := kitx_own (by kernel_rfl) (by kernel_rfl) (by kernel_rfl) (by kernel_rfl) (by kernel_rfl) (by kernel_rfl)
theorem own_of {D : Addr} (h : ownL.contains D = true) : Own P D := by
  rw [List.contains_iff_mem] at h
  simp only [ownL, List.mem_cons, List.not_mem_nil, or_false] at h
  rcases h with rfl | rfl | rfl | rfl
  · exact own902
  · exact own1024
  · exact own782
  · exact own719
end
section
variable {prog : Program} {w : World} {A : Around} {E Q : Value → Shared → Prop} {s : Shared} {h₀ : Heap} {L : Addr} {m : Str → Option Value} {news : List (Addr × Obj)} {x D dx tp : Addr} {od : Obj} {c : Value} {b : Bool} {n : Nat}
theorem isi_own (F : Fr h₀ L s.heap m) (X : (K w.params).In h₀) (N : News h₀ L s.heap news) (m1 : (x, instObj D dx) ∈ news) (m2 : (dx, od) ∈ news) (i : inTab D c = true) (e : (c == .ref D) = b)
    (h : ∀ tk, Q (.bool b) { s with toks := tk }) : wpAny (model prog w) A (call (.builtin "isinstance") [.ref x, c]) Q E s := by
  refine kia_one (own_of (P := w.params) (D := D) ?_) (X.keeps F.keep) (InstAt.of_news N m1 m2) (kit_own i e) (by intro q; cases q) h
  unfold inTab at i
  exact (Bool.and_eq_true _ _ ▸ i).1
theorem isi_ownLT (F : Fr h₀ L s.heap m) (X : (K w.params).In h₀) (N : News h₀ L s.heap news) (m1 : (x, instObj D dx) ∈ news) (m2 : (dx, od) ∈ news) (i : inTab D (.type "list") = true)
    (m3 : (tp, ({ cls := .type "tuple", data := .seq #[.type "list", .type "tuple"] n } : Obj)) ∈ news) (h : ∀ tk, Q (.bool false) { s with toks := tk }) : wpAny (model prog w) A (call (.builtin "isinstance") [.ref x, .ref tp]) Q E s := by
  refine kia_tup (its := [.type "list", .type "tuple"]) (own_of (P := w.params) (D := D) ?_) (X.keeps F.keep) (InstAt.of_news N m1 m2) (N _ m3).1 (kit_lt i) (by intro q; cases q) h
  unfold inTab at i
  exact (Bool.and_eq_true _ _ ▸ i).1
theorem isi_int {i : Int} {u : Tok} (F : Fr h₀ L s.heap m) (X : (K w.params).In h₀) (i1 : inTabT "int" c = true) (e : (c == .type "int" || ("int" == "bool" && c == .type "int")) = b) (h : ∀ tk, Q (.bool b) { s with toks := tk }) :
    wpAny (model prog w) A (call (.builtin "isinstance") [.int i u, c]) Q E s := kia_one kitx_int (X.keeps F.keep) trivial (kit_ty i1 e) (by intro q; cases q) h
theorem isi_str {y : Str} {u : Tok} (F : Fr h₀ L s.heap m) (X : (K w.params).In h₀) (i1 : inTabT "str" c = true) (e : (c == .type "str" || ("str" == "bool" && c == .type "int")) = b) (h : ∀ tk, Q (.bool b) { s with toks := tk }) :
    wpAny (model prog w) A (call (.builtin "isinstance") [.str y u, c]) Q E s := kia_one kitx_str (X.keeps F.keep) trivial (kit_ty i1 e) (by intro q; cases q) h
theorem isi_bytes {a : Array UInt8} {u : Tok} (F : Fr h₀ L s.heap m) (X : (K w.params).In h₀) (i1 : inTabT "bytes" c = true) (e : (c == .type "bytes" || ("bytes" == "bool" && c == .type "int")) = b) (h : ∀ tk, Q (.bool b) { s with toks := tk }) :
    wpAny (model prog w) A (call (.builtin "isinstance") [.bytes a u, c]) Q E s := kia_one kitx_bytes (X.keeps F.keep) trivial (kit_ty i1 e) (by intro q; cases q) h
theorem isi_bool {i : Bool} (F : Fr h₀ L s.heap m) (X : (K w.params).In h₀) (i1 : inTabT "bool" c = true) (e : (c == .type "bool" || ("bool" == "bool" && c == .type "int")) = b) (h : ∀ tk, Q (.bool b) { s with toks := tk }) :
    wpAny (model prog w) A (call (.builtin "isinstance") [.bool i, c]) Q E s := kia_one kitx_bool (X.keeps F.keep) trivial (kit_ty i1 e) (by intro q; cases q) h
theorem isi_none (F : Fr h₀ L s.heap m) (X : (K w.params).In h₀) (i1 : inTabT "NoneType" c = true) (e : (c == .type "NoneType" || ("NoneType" == "bool" && c == .type "int")) = b) (h : ∀ tk, Q (.bool b) { s with toks := tk }) :
    wpAny (model prog w) A (call (.builtin "isinstance") [.none, c]) Q E s := kia_one kitx_none (X.keeps F.keep) trivial (kit_ty i1 e) (by intro q; cases q) h
theorem isi_codec (F : Fr h₀ L s.heap m) (X : (K w.params).In h₀) (h : ∀ tk, Q (.bool true) { s with toks := tk }) : wpAny (model prog w) A (call (.builtin "isinstance") [.ref 262, .ref 256]) Q E s :=
  kia_one (kitx_own (D := 256) (by kernel_rfl) (by kernel_rfl) (by kernel_rfl) (by kernel_rfl) (by kernel_rfl) (by kernel_rfl)) (X.keeps F.keep) (InstAt.of_K (X.keeps F.keep) (by k_is) (by k_is)) (by kernel_rfl) (by intro q; cases q) h
theorem News.tl {h₀ h : Heap} {p : Addr × Obj} {l : List (Addr × Obj)} (N : News h₀ L h (p :: l)) : News h₀ L h l := fun q hq => N q (List.mem_cons_of_mem _ hq)
end
end
end Mine
namespace Mine
section
open PySem PySem.W PySem.Calls PyProof.Rows
section
variable {prog : Program} {w : World} {A A₀ : Around} {s : Shared} {Kf : Frag} {L : Addr} {h₀ base : Heap} {m mg mb : Str → Option Value} {news : List (Addr × Obj)} {p : Program} {loose : List Str} {mean : ExcName → Option Value} {env : Env}
  {R : Result → Shared → Prop} {name qual : Str} {params : Arguments} {body : List Stmt} {scope : Scope} {dV kV doc pm cdv ct oc : Value} {an od : Option Addr} {osl : Array (Option Value)} {f : Addr} {args : Args} {binds : List (Str × Value)}
theorem enter1 (B : Below A₀ base [] h₀) (F : Fr h₀ L s.heap m) (X₀ : Kf.In h₀) (N : News h₀ L s.heap news) (T : Top p loose mean mg mb h₀) (hA : A.frames = some [env]) (hf : env.frame = some L) (hke : env.scope.kind = .function)
    (ho : Kf.lookup f = some ⟨oc, od, .func (fnOf name qual params body scope dV kV doc pm an cdv ct), osl⟩) (hcd : codeIn Kf cdv qual = true) (hroom : A.depth < recursionLimit)
    (hbind : BindsTo s (fnOf name qual params body scope dV kV doc pm an cdv ct) args binds) (hloc : ∀ y ∈ binds, scope.names.lookup y.1 = some .local)
    (h : ∀ g L' h₁, Fr h₀ L g m → Fr g L' h₁ (fun y => binds.reverse.lookup y) → News g L' h₁ news → Below A base [env] g → Kf.In g → Top p loose mean mg mb g → KtsDicts ([env].filterMap (·.frame)) g →
      wpAny (model prog w) (A.deeper (envOf qual scope L' f cdv)) (execs body (envOf qual scope L' f cdv))
        (fun fl s' => LeaveS0 ([env].filterMap (·.frame)) h₀ L m g R (match fl with | .ret v => v | _ => .none) s')
        (fun e s' => wpAny (model prog w) (A.deeper (envOf qual scope L' f cdv)) (leaving (envOf qual scope L' f cdv) e) (fun _ s'' => R (.error e) s'') (fun e' s'' => R (.error e') s'') s')
        { s with heap := h₁, toks := s.toks + binds.length })
    (hco : scope.isCoroutine = false) (hgen : scope.isGenerator = false) (hk : scope.kind = .function)
    (hcell : ∀ x ∈ scope.names, x.2 ≠ .cell) : codeAny (model prog w) A (.call (.ref f) args) R s := by
  have X := X₀.keeps F.keep
  have fs : [env].filterMap (·.frame) = [L] := by simp [hf]
  have nm : ∀ b o, h₀.get? b = some o → b ∉ news.map (·.1) := fun b o e q => by
    obtain ⟨x, hx, rfl⟩ := List.mem_map.mp q
    rw [(N x hx).2.2] at e
    cases e
  have st : h₀.StaysIn (hideAll s.heap (news.map (·.1))) := fun b o e => hideAll_get _ (F.keep b o e) (nm b o e)
  have nL : L ∉ news.map (·.1) := fun q => by
    obtain ⟨x, hx, e⟩ := List.mem_map.mp q
    exact (N x hx).2.1 e
  have nL₀ : h₀.get? L = none := kts_self F
  have B₁ := pushX B F hf hke
  have B₂ : Below A base [env] (hideAll s.heap (news.map (·.1))) := ⟨hA, fun b o e => st b o (B.stays b o e), funFrames_hideAll B₁.frames fun e he b hb hq => by
    cases he with
    | head =>
      rw [hf] at hq
      exact nL ((Option.some.inj hq).symm ▸ hb)
    | tail _ he => cases he⟩
  obtain ⟨oL, es, ep, hL, hLd, hLk, hLf⟩ := F.ns
  have hLg := hideAll_get (news.map (·.1)) hL nL
  refine codeAny_call_def (fd := fnOf name qual params body scope dV kV doc pm an cdv ct) (body := body) (binds := binds) hroom (X _ _ ho) rfl (T.nolimit.keeps F.keep) (codeRec_of X hcd) rfl hbind hcell hloc (fun h₁ hns hk₁ => ?_) hco hgen hk
  refine wpAny_mono (h _ s.heap.objs.size h₁ ⟨⟨oL, es, ep, hLg, hLd, hLk, hLf⟩, st, F.above⟩ ⟨hns, fun b o e => hk₁ b o (of_hideAll _ e), Nat.le_of_eq (hideAll_size _ _)⟩
    (fun q hq => ⟨hk₁ _ _ (N q hq).1, Nat.ne_of_lt (Heap.lt_size (N q hq).1), hideAll_none _ (List.mem_map_of_mem hq)⟩) B₂ (X₀.keeps st) (T.keeps st) (fun b hb => by
      rw [fs] at hb
      rw [List.mem_singleton.mp hb]
      exact ⟨oL, es, ep, hLg, hLd⟩)) (fun fl s' hl => ?_) fun _ _ y => y
  obtain ⟨g', L', m', news', T', F', N', k⟩ := hl
  rw [fs] at T'
  obtain ⟨sl, hs⟩ := T'.up hLg
  have old : ∀ b o, h₀.get? b = some o → g'.get? b = some o := fun b o e => T'.other b o (st b o e) fun q => by
    rw [List.mem_singleton.mp q, nL₀] at e
    cases e
  refine k ⟨⟨_, es, ep, F'.keep _ _ hs, hLd, hLk, hLf⟩, fun b o e => F'.keep b o (old b o e), F.above⟩ fun q hq => ⟨(N' q hq).1, fun e => ?_, ?_⟩
  · have := (N' q hq).2.2
    rw [e, hs] at this
    cases this
  · cases e : h₀.get? q.1 with
    | none => rfl
    | some o =>
      have := (N' q hq).2.2
      rw [old _ _ e] at this
      cases this
end
end
end Mine
namespace Mine
section
open PySem PySem.W PySem.Calls PyProof.Rows
noncomputable def zipB : List PySem.Arg → List Value → List (Str × Value)
  | a :: as, v :: vs => (a.arg, v) :: zipB as vs
  | _, _ => []
noncomputable def lkB (y : Str) : List PySem.Arg → List Value → Option Value
  | a :: as, v :: vs => if y = a.arg then some v else lkB y as vs
  | _, _ => none
noncomputable def ndB : List PySem.Arg → Bool
  | [] => true
  | a :: as => as.all (fun b => !(a.arg == b.arg)) && ndB as
theorem zipB_mem {as : List PySem.Arg} {vs : List Value} {p : Str × Value} (h : p ∈ zipB as vs) : ∃ a ∈ as, a.arg = p.1 := by
  induction as generalizing vs with
  | nil => cases vs <;> cases h
  | cons a as ih =>
    cases vs with
    | nil => cases h
    | cons v vs =>
      rcases List.mem_cons.mp h with rfl | h
      · exact ⟨a, List.mem_cons_self, rfl⟩
      · obtain ⟨b, hb, e⟩ := ih h
        exact ⟨b, List.mem_cons_of_mem _ hb, e⟩
theorem lookup_app {y : Str} : ∀ (l r : List (Str × Value)), (l ++ r).lookup y = (l.lookup y).or (r.lookup y)
  | [], r => by simp
  | (a, v) :: l, r => by
    rw [List.cons_append, List.lookup_cons, List.lookup_cons]
    split
    · rfl
    · exact lookup_app l r
theorem lkB_eq {as : List PySem.Arg} {vs : List Value} (h : ndB as = true) (y : Str) : (zipB as vs).reverse.lookup y = lkB y as vs := by
  induction as generalizing vs with
  | nil => cases vs <;> rfl
  | cons a as ih =>
    cases vs with
    | nil => rfl
    | cons v vs =>
      unfold ndB at h
      rw [Bool.and_eq_true] at h
      show List.lookup y (((a.arg, v) :: zipB as vs).reverse) = if y = a.arg then some v else lkB y as vs
      rw [List.reverse_cons, lookup_app, ih h.2]
      by_cases e : y = a.arg
      · rw [if_pos e]
        have none : lkB y as vs = none := by
          rw [← ih h.2]
          rw [List.lookup_eq_none_iff]
          intro p hp
          obtain ⟨b, hb, eb⟩ := zipB_mem (List.mem_reverse.mp hp)
          have := List.all_eq_true.mp h.1 b hb
          rw [e, ← eb]
          simpa using this
        rw [none, e, List.lookup_cons, beq_self_eq_true]
        rfl
      · rw [if_neg e, List.lookup_cons, beq_false_of_ne e]
        simp
section
variable {prog : Program} {w : World} {A A₀ : Around} {s : Shared} {Kf : Frag} {L : Addr} {h₀ base : Heap} {m mg mb : Str → Option Value} {news : List (Addr × Obj)} {p : Program} {loose : List Str} {mean : ExcName → Option Value} {env : Env} {outer : List Env}
  {R : Result → Shared → Prop} {name qual : Str} {params : Arguments} {body : List Stmt} {scope : Scope} {dV kV doc pm cdv ct oc : Value} {an od : Option Addr} {osl : Array (Option Value)} {f : Addr} {args : Args} {vs : List Value}
theorem bz_pos {fd : FuncData} (h : bindArgs fd args = pure (zipB fd.params.args args.pos)) : BindsTo s fd args (zipB fd.params.args args.pos) := BindsTo.of_eq h
theorem bz_dflt {fd : FuncData} {T : Addr} {o : Obj} {items : Array Value} {n : Nat} {k : Option (Array Value) → Sem (List (Str × Value))} (X : Kf.In s.heap) (hd : fd.defaults = .ref T) (ho : Kf.lookup T = some o) (hs : o.data = .seq items n)
    (h₁ : bindArgs fd args = seqItems? fd.defaults >>= k) (h₂ : k (some items) = pure (zipB fd.params.args (args.pos ++ items.toList))) : BindsTo s fd args (zipB fd.params.args (args.pos ++ items.toList)) := BindsTo.of_defaults hd (X _ _ ho) hs h₁ h₂
theorem code_defZ (B : Below A₀ base outer h₀) (F : Fr h₀ L s.heap m) (X₀ : Kf.In h₀) (N : News h₀ L s.heap news) (T : Top p loose mean mg mb h₀) (hA : A.frames = some (env :: outer)) (hf : env.frame = some L) (hke : env.scope.kind = .function)
    (ho : Kf.lookup f = some ⟨oc, od, .func (fnOf name qual params body scope dV kV doc pm an cdv ct), osl⟩) (hcd : codeIn Kf cdv qual = true) (hroom : A.depth < recursionLimit)
    (hbind : BindsTo s (fnOf name qual params body scope dV kV doc pm an cdv ct) args (zipB params.args vs)) (hnd : (ndB params.args && params.args.all fun a => decide (scope.names.lookup a.arg = some .local)) = true)
    (h : ∀ g L' h₁, Fr h₀ L g m → Fr g L' h₁ (fun y => lkB y params.args vs) → News g L' h₁ news → Below A base (env :: outer) g → Kf.In g → Top p loose mean mg mb g →
      wpAny (model prog w) (A.deeper (envOf qual scope L' f cdv)) (execs body (envOf qual scope L' f cdv))
        (fun fl s' => match fl with | .ret v => LeaveK h₀ L m g R v s' | _ => LeaveK h₀ L m g R .none s')
        (fun e s' => wpAny (model prog w) (A.deeper (envOf qual scope L' f cdv)) (leaving (envOf qual scope L' f cdv) e) (fun _ s'' => R (.error e) s'') (fun e' s'' => R (.error e') s'') s')
        { s with heap := h₁, toks := s.toks + (zipB params.args vs).length })
    (hco : scope.isCoroutine = false) (hgen : scope.isGenerator = false) (hk : scope.kind = .function)
    (hcell : ∀ x ∈ scope.names, x.2 ≠ .cell) : codeAny (model prog w) A (.call (.ref f) args) R s := by
  rw [Bool.and_eq_true] at hnd
  refine code_def B F X₀ N T hA hf hke ho hcd hroom hbind (fun x hx => ?_) (fun g L' h₁ FG F' N' B' X' T' => ?_) hco hgen hk hcell
  · obtain ⟨a, ha, e⟩ := zipB_mem hx
    rw [← e]
    exact of_decide_eq_true (List.all_eq_true.mp hnd.2 a ha)
  · have e : (fun y => (zipB params.args vs).reverse.lookup y) = fun y => lkB y params.args vs := funext fun y => lkB_eq hnd.1 y
    rw [e] at F'
    exact wpAny_mono (h g L' h₁ FG F' N' B' X' T') (fun fl _ q => by cases fl <;> exact q) (fun _ _ q => q)
theorem enter1Z (B : Below A₀ base [] h₀) (F : Fr h₀ L s.heap m) (X₀ : Kf.In h₀) (N : News h₀ L s.heap news) (T : Top p loose mean mg mb h₀) (hA : A.frames = some [env]) (hf : env.frame = some L) (hke : env.scope.kind = .function)
    (ho : Kf.lookup f = some ⟨oc, od, .func (fnOf name qual params body scope dV kV doc pm an cdv ct), osl⟩) (hcd : codeIn Kf cdv qual = true) (hroom : A.depth < recursionLimit)
    (hbind : BindsTo s (fnOf name qual params body scope dV kV doc pm an cdv ct) args (zipB params.args vs)) (hnd : (ndB params.args && params.args.all fun a => decide (scope.names.lookup a.arg = some .local)) = true)
    (h : ∀ g L' h₁, Fr h₀ L g m → Fr g L' h₁ (fun y => lkB y params.args vs) → News g L' h₁ news → Below A base [env] g → Kf.In g → Top p loose mean mg mb g → KtsDicts ([env].filterMap (·.frame)) g →
      wpAny (model prog w) (A.deeper (envOf qual scope L' f cdv)) (execs body (envOf qual scope L' f cdv))
        (fun fl s' => match fl with | .ret v => LeaveS0 ([env].filterMap (·.frame)) h₀ L m g R v s' | _ => LeaveS0 ([env].filterMap (·.frame)) h₀ L m g R .none s')
        (fun e s' => wpAny (model prog w) (A.deeper (envOf qual scope L' f cdv)) (leaving (envOf qual scope L' f cdv) e) (fun _ s'' => R (.error e) s'') (fun e' s'' => R (.error e') s'') s')
        { s with heap := h₁, toks := s.toks + (zipB params.args vs).length })
    (hco : scope.isCoroutine = false) (hgen : scope.isGenerator = false) (hk : scope.kind = .function)
    (hcell : ∀ x ∈ scope.names, x.2 ≠ .cell) : codeAny (model prog w) A (.call (.ref f) args) R s := by
  rw [Bool.and_eq_true] at hnd
  refine enter1 B F X₀ N T hA hf hke ho hcd hroom hbind (fun x hx => ?_) (fun g L' h₁ FG F' N' B' X' T' D' => ?_) hco hgen hk hcell
  · obtain ⟨a, ha, e⟩ := zipB_mem hx
    rw [← e]
    exact of_decide_eq_true (List.all_eq_true.mp hnd.2 a ha)
  · have e : (fun y => (zipB params.args vs).reverse.lookup y) = fun y => lkB y params.args vs := funext fun y => lkB_eq hnd.1 y
    rw [e] at F'
    exact wpAny_mono (h g L' h₁ FG F' N' B' X' T' D') (fun fl _ q => by cases fl <;> exact q) (fun _ _ q => q)
theorem lk_miss {x y : Str} {v v' : Value} {o : Option Value} (h : (x == y) = false) (e : o = some v) : (if x = y then some v' else o) = some v := by
  rw [if_neg (ne_of_beq_false h)]
  exact e
theorem lk_hit {x : Str} {v : Value} {o : Option Value} : (if x = x then some v else o) = some v := if_pos rfl
end
end
end Mine
namespace Mine
section
open PySem PySem.W PySem.Calls PyProof.Rows
open Builtin
open Builtin
theorem slot_lt : Slot "bytes" (cmpInfo .Lt).2.1 "bytes.__lt__" :=
  .of (owner := "bytes") (n := "__lt__") (by rw [typeLookup_type, builtinLookup_eq_fast]; kernel_rfl) (by decide +kernel) (by decide +kernel) (by decide +kernel) (.inl (by decide +kernel)) (by rw [isSubtype_type]; kernel_rfl)
theorem slot_le : Slot "bytes" (cmpInfo .LtE).2.1 "bytes.__le__" :=
  .of (owner := "bytes") (n := "__le__") (by rw [typeLookup_type, builtinLookup_eq_fast]; kernel_rfl) (by decide +kernel) (by decide +kernel) (by decide +kernel) (.inl (by decide +kernel)) (by rw [isSubtype_type]; kernel_rfl)
theorem slot_gt : Slot "bytes" (cmpInfo .Gt).2.1 "bytes.__gt__" :=
  .of (owner := "bytes") (n := "__gt__") (by rw [typeLookup_type, builtinLookup_eq_fast]; kernel_rfl) (by decide +kernel) (by decide +kernel) (by decide +kernel) (.inl (by decide +kernel)) (by rw [isSubtype_type]; kernel_rfl)
theorem slot_ge : Slot "bytes" (cmpInfo .GtE).2.1 "bytes.__ge__" :=
  .of (owner := "bytes") (n := "__ge__") (by rw [typeLookup_type, builtinLookup_eq_fast]; kernel_rfl) (by decide +kernel) (by decide +kernel) (by decide +kernel) (.inl (by decide +kernel)) (by rw [isSubtype_type]; kernel_rfl)
noncomputable def bH (n : String) (b c : Array UInt8) : Bool := Bytes.holds n (Bytes.order b.toList c.toList)
theorem bts (s : Shared) (b : Array UInt8) (t : Tok) : s.TypeIs (.bytes b t) "bytes" := rfl
section
variable {prog : Program} {w : World} {A : Around} {E : Value → Shared → Prop} {s : Shared} {b c : Array UInt8} {t u : Tok} {Q : Value → Shared → Prop}
theorem g_lt : Gives (Builtin.«bytes.__lt__» ⟨[.bytes b t, .bytes c u], []⟩) (.val (.bool (bH "__lt__" b c))) := by
  refine .of_wp fun M A E s Q hq => ?_
  show wpAny M A (isInstance (.bytes c u) (.type "bytes") >>= fun r => _) _ E s
  refine wpAny_bind (wpAny_isInstance (bts s c u) PySem.F.sub_bytes_bytes ?_)
  exact wpAny_pure ⟨_, rfl, hq⟩
theorem a_lt (a b : Value) : argsOk "bytes.__lt__" ⟨[a, b], []⟩ := by
  unfold argsOk; rw [signature?_of (id := "bytes.__lt__") (n := ['_', '_', 't', 'l', '_', '_']) (o := ['s', 'e', 't', 'y', 'b']) (by kernel_rfl) FB.owner_bytes]; kernel_rfl
theorem e_lt : entryFor table "bytes.__lt__" = some Builtin.«bytes.__lt__» := entryFor_of_tree (by kernel_rfl)
theorem b_lt (h : Q (.bool (bH "__lt__" b c)) s) : wpAny (model prog w) A (compareOp .Lt (.bytes b t) (.bytes c u)) Q E s :=
  compareOp_gives (op := .Lt) (bts s b t) (bts s c u) slot_lt e_lt (a_lt _ _) g_lt (fun e => nomatch e) h
theorem g_le : Gives (Builtin.«bytes.__le__» ⟨[.bytes b t, .bytes c u], []⟩) (.val (.bool (bH "__le__" b c))) := by
  refine .of_wp fun M A E s Q hq => ?_
  show wpAny M A (isInstance (.bytes c u) (.type "bytes") >>= fun r => _) _ E s
  refine wpAny_bind (wpAny_isInstance (bts s c u) PySem.F.sub_bytes_bytes ?_)
  exact wpAny_pure ⟨_, rfl, hq⟩
theorem a_le (a b : Value) : argsOk "bytes.__le__" ⟨[a, b], []⟩ := by
  unfold argsOk; rw [signature?_of (id := "bytes.__le__") (n := ['_', '_', 'e', 'l', '_', '_']) (o := ['s', 'e', 't', 'y', 'b']) (by kernel_rfl) FB.owner_bytes]; kernel_rfl
theorem e_le : entryFor table "bytes.__le__" = some Builtin.«bytes.__le__» := entryFor_of_tree (by kernel_rfl)
theorem b_le (h : Q (.bool (bH "__le__" b c)) s) : wpAny (model prog w) A (compareOp .LtE (.bytes b t) (.bytes c u)) Q E s :=
  compareOp_gives (op := .LtE) (bts s b t) (bts s c u) slot_le e_le (a_le _ _) g_le (fun e => nomatch e) h
theorem g_gt : Gives (Builtin.«bytes.__gt__» ⟨[.bytes b t, .bytes c u], []⟩) (.val (.bool (bH "__gt__" b c))) := by
  refine .of_wp fun M A E s Q hq => ?_
  show wpAny M A (isInstance (.bytes c u) (.type "bytes") >>= fun r => _) _ E s
  refine wpAny_bind (wpAny_isInstance (bts s c u) PySem.F.sub_bytes_bytes ?_)
  exact wpAny_pure ⟨_, rfl, hq⟩
theorem a_gt (a b : Value) : argsOk "bytes.__gt__" ⟨[a, b], []⟩ := by
  unfold argsOk; rw [signature?_of (id := "bytes.__gt__") (n := ['_', '_', 't', 'g', '_', '_']) (o := ['s', 'e', 't', 'y', 'b']) (by kernel_rfl) FB.owner_bytes]; kernel_rfl
theorem e_gt : entryFor table "bytes.__gt__" = some Builtin.«bytes.__gt__» := entryFor_of_tree (by kernel_rfl)
theorem b_gt (h : Q (.bool (bH "__gt__" b c)) s) : wpAny (model prog w) A (compareOp .Gt (.bytes b t) (.bytes c u)) Q E s :=
  compareOp_gives (op := .Gt) (bts s b t) (bts s c u) slot_gt e_gt (a_gt _ _) g_gt (fun e => nomatch e) h
theorem g_ge : Gives (Builtin.«bytes.__ge__» ⟨[.bytes b t, .bytes c u], []⟩) (.val (.bool (bH "__ge__" b c))) := by
  refine .of_wp fun M A E s Q hq => ?_
  show wpAny M A (isInstance (.bytes c u) (.type "bytes") >>= fun r => _) _ E s
  refine wpAny_bind (wpAny_isInstance (bts s c u) PySem.F.sub_bytes_bytes ?_)
  exact wpAny_pure ⟨_, rfl, hq⟩
theorem a_ge (a b : Value) : argsOk "bytes.__ge__" ⟨[a, b], []⟩ := by
  unfold argsOk; rw [signature?_of (id := "bytes.__ge__") (n := ['_', '_', 'e', 'g', '_', '_']) (o := ['s', 'e', 't', 'y', 'b']) (by kernel_rfl) FB.owner_bytes]; kernel_rfl
theorem e_ge : entryFor table "bytes.__ge__" = some Builtin.«bytes.__ge__» := entryFor_of_tree (by kernel_rfl)
theorem b_ge (h : Q (.bool (bH "__ge__" b c)) s) : wpAny (model prog w) A (compareOp .GtE (.bytes b t) (.bytes c u)) Q E s :=
  compareOp_gives (op := .GtE) (bts s b t) (bts s c u) slot_ge e_ge (a_ge _ _) g_ge (fun e => nomatch e) h
end
end
end Mine
namespace Mine
section
open PySem PySem.W PySem.Calls PyProof.Rows
open Builtin
open Builtin
noncomputable def lexB (strict eq : Bool) (i j k l : Int) : Bool := if i = k then (if j = l then eq else (if strict then decide (j < l) else decide (j > l))) else (if strict then decide (i < k) else decide (i > k))
section
variable {prog : Program} {w : World} {A : Around} {E : Value → Shared → Prop} {s : Shared} {x y : Addr} {i j k l : Int} {t1 t2 t3 t4 : Tok} {Q : Value → Shared → Prop}
theorem tt_lt {P : Fin → Shared → Prop} {A' : Around} (hx : IsTup s.heap x #[.int i t1, .int j t2]) (hy : IsTup s.heap y #[.int k t3, .int l t4]) (h : P (.done (.ret (.bool (lexB true false i j k l)))) s) :
    wpAny (model prog w) A' (Builtin.«tuple.__lt__» ⟨[.ref x, .ref y], []⟩) P E s := by
  have hTb : s.TypeIs (.ref y) "tuple" := let ⟨o, ho, hc, _⟩ := hy; ⟨o, ho, hc⟩
  obtain ⟨oa, hoa, _, na, hda⟩ := hx
  obtain ⟨ob, hob, _, nb, hdb⟩ := hy
  show wpAny _ _ (isInstance (.ref y) (.type "tuple") >>= _) _ _ s
  refine wpAny_bind (wpAny_isInstance hTb PySem.F.sub_tuple_tuple ?_)
  simp only [Bool.not_true, Bool.false_eq_true, if_false]
  refine wpAny_bind (wpAny_tupleItemsOf hoa hda ?_)
  refine wpAny_bind (wpAny_tupleItemsOf hob hdb ?_)
  refine wpAny_bind ?_
  refine wpAny_forIn_list _
    (fun rest r s' => r.1 = none ∧ s' = s ∧ (rest = [(.int i t1, .int k t3), (.int j t2, .int l t4)] ∨ (rest = [(.int j t2, .int l t4)] ∧ i = k) ∨ (rest = [] ∧ i = k ∧ j = l)))
    _ ?_ ?_ _ _ ⟨rfl, rfl, .inl rfl⟩
  · rintro ⟨u, v⟩ rest r s' ⟨hr, rfl, hz⟩
    rcases hz with hz | ⟨hz, rfl⟩ | ⟨hz, _⟩
    · cases hz
      refine wpAny_bind (wpAny_eqBool_int ?_)
      by_cases e : i = k
      · subst e
        simp only [beq_self_eq_true, Bool.not_true, Bool.false_eq_true, if_false]
        refine wpAny_pure ?_; simp
      · rw [show (i == k) = false from beq_eq_false_iff_ne.mpr e]
        simp only [Bool.not_false, if_true]
        refine wpAny_bind (wpAny_rule (wpAny_bind ?_))
        refine lt_int ?_
        have ee : decide (i < k) = lexB true false i j k l := by
          unfold lexB
          rw [if_neg e]
          show decide (i < k) = decide (i < k)
          exact decide_eq_decide.mpr (by omega)
        rw [ee]
        exact wpAny_bind (wpAny_pure (wpAny_pure (wpAny_pure h)))
    · cases hz
      refine wpAny_bind (wpAny_eqBool_int ?_)
      by_cases e : j = l
      · subst e
        simp only [beq_self_eq_true, Bool.not_true, Bool.false_eq_true, if_false]
        refine wpAny_pure ?_; simp
      · rw [show (j == l) = false from beq_eq_false_iff_ne.mpr e]
        simp only [Bool.not_false, if_true]
        refine wpAny_bind (wpAny_rule (wpAny_bind ?_))
        refine lt_int ?_
        have ee : decide (j < l) = lexB true false i j i l := by
          unfold lexB
          rw [if_pos rfl, if_neg e]
          show decide (j < l) = decide (j < l)
          exact decide_eq_decide.mpr (by omega)
        rw [ee]
        exact wpAny_bind (wpAny_pure (wpAny_pure (wpAny_pure h)))
    · cases hz
  · rintro ⟨r1, r2⟩ s' ⟨hr, rfl, hz⟩
    simp only at hr
    subst hr
    rcases hz with hz | ⟨hz, _⟩ | ⟨_, rfl, rfl⟩
    · cases hz
    · cases hz
    refine wpAny_pure ?_
    have ee : lexB true false i j i j = false := by unfold lexB; rw [if_pos rfl, if_pos rfl]
    rw [ee] at h
    exact h
theorem tc_lt (hx : IsTup s.heap x #[.int i t1, .int j t2]) (hy : IsTup s.heap y #[.int k t3, .int l t4]) (hu : A.units < cLine) (h : Q (.bool (lexB true false i j k l)) s) :
    wpAny (model prog w) A (compareOp .Lt (.ref x) (.ref y)) Q E s := by
  have hTa : s.TypeIs (.ref x) "tuple" := let ⟨o, ho, hc, _⟩ := hx; ⟨o, ho, hc⟩
  have hTb : s.TypeIs (.ref y) "tuple" := let ⟨o, ho, hc, _⟩ := hy; ⟨o, ho, hc⟩
  show wpAny _ _ (richCompare .Lt (.ref x) (.ref y)) _ _ _
  refine richCompare_meets_room (S := fun _ R s' => s' = s ∧ R (.ok (.ret (.bool (lexB true false i j k l)))) s) hTa hTb PySem.F.slot_tuple_lt PySem.F.entry_tuple_lt (PySem.F.args_tuple_lt_2 _ _) ?_ ⟨rfl, (fun e => nomatch e), h⟩ hu
  refine Meets.of_wp fun prog w A R s' hs => ?_
  obtain ⟨rfl, hs⟩ := hs
  exact tt_lt hx hy ⟨_, rfl, hs⟩
theorem tt_le {P : Fin → Shared → Prop} {A' : Around} (hx : IsTup s.heap x #[.int i t1, .int j t2]) (hy : IsTup s.heap y #[.int k t3, .int l t4]) (h : P (.done (.ret (.bool (lexB true true i j k l)))) s) :
    wpAny (model prog w) A' (Builtin.«tuple.__le__» ⟨[.ref x, .ref y], []⟩) P E s := by
  have hTb : s.TypeIs (.ref y) "tuple" := let ⟨o, ho, hc, _⟩ := hy; ⟨o, ho, hc⟩
  obtain ⟨oa, hoa, _, na, hda⟩ := hx
  obtain ⟨ob, hob, _, nb, hdb⟩ := hy
  show wpAny _ _ (isInstance (.ref y) (.type "tuple") >>= _) _ _ s
  refine wpAny_bind (wpAny_isInstance hTb PySem.F.sub_tuple_tuple ?_)
  simp only [Bool.not_true, Bool.false_eq_true, if_false]
  refine wpAny_bind (wpAny_tupleItemsOf hoa hda ?_)
  refine wpAny_bind (wpAny_tupleItemsOf hob hdb ?_)
  refine wpAny_bind ?_
  refine wpAny_forIn_list _
    (fun rest r s' => r.1 = none ∧ s' = s ∧ (rest = [(.int i t1, .int k t3), (.int j t2, .int l t4)] ∨ (rest = [(.int j t2, .int l t4)] ∧ i = k) ∨ (rest = [] ∧ i = k ∧ j = l)))
    _ ?_ ?_ _ _ ⟨rfl, rfl, .inl rfl⟩
  · rintro ⟨u, v⟩ rest r s' ⟨hr, rfl, hz⟩
    rcases hz with hz | ⟨hz, rfl⟩ | ⟨hz, _⟩
    · cases hz
      refine wpAny_bind (wpAny_eqBool_int ?_)
      by_cases e : i = k
      · subst e
        simp only [beq_self_eq_true, Bool.not_true, Bool.false_eq_true, if_false]
        refine wpAny_pure ?_; simp
      · rw [show (i == k) = false from beq_eq_false_iff_ne.mpr e]
        simp only [Bool.not_false, if_true]
        refine wpAny_bind (wpAny_rule (wpAny_bind ?_))
        refine le_int ?_
        have ee : decide (i ≤ k) = lexB true true i j k l := by
          unfold lexB
          rw [if_neg e]
          show decide (i ≤ k) = decide (i < k)
          exact decide_eq_decide.mpr (by omega)
        rw [ee]
        exact wpAny_bind (wpAny_pure (wpAny_pure (wpAny_pure h)))
    · cases hz
      refine wpAny_bind (wpAny_eqBool_int ?_)
      by_cases e : j = l
      · subst e
        simp only [beq_self_eq_true, Bool.not_true, Bool.false_eq_true, if_false]
        refine wpAny_pure ?_; simp
      · rw [show (j == l) = false from beq_eq_false_iff_ne.mpr e]
        simp only [Bool.not_false, if_true]
        refine wpAny_bind (wpAny_rule (wpAny_bind ?_))
        refine le_int ?_
        have ee : decide (j ≤ l) = lexB true true i j i l := by
          unfold lexB
          rw [if_pos rfl, if_neg e]
          show decide (j ≤ l) = decide (j < l)
          exact decide_eq_decide.mpr (by omega)
        rw [ee]
        exact wpAny_bind (wpAny_pure (wpAny_pure (wpAny_pure h)))
    · cases hz
  · rintro ⟨r1, r2⟩ s' ⟨hr, rfl, hz⟩
    simp only at hr
    subst hr
    rcases hz with hz | ⟨hz, _⟩ | ⟨_, rfl, rfl⟩
    · cases hz
    · cases hz
    refine wpAny_pure ?_
    have ee : lexB true true i j i j = true := by unfold lexB; rw [if_pos rfl, if_pos rfl]
    rw [ee] at h
    exact h
theorem tc_le (hx : IsTup s.heap x #[.int i t1, .int j t2]) (hy : IsTup s.heap y #[.int k t3, .int l t4]) (hu : A.units < cLine) (h : Q (.bool (lexB true true i j k l)) s) :
    wpAny (model prog w) A (compareOp .LtE (.ref x) (.ref y)) Q E s := by
  have hTa : s.TypeIs (.ref x) "tuple" := let ⟨o, ho, hc, _⟩ := hx; ⟨o, ho, hc⟩
  have hTb : s.TypeIs (.ref y) "tuple" := let ⟨o, ho, hc, _⟩ := hy; ⟨o, ho, hc⟩
  show wpAny _ _ (richCompare .LtE (.ref x) (.ref y)) _ _ _
  refine richCompare_meets_room (S := fun _ R s' => s' = s ∧ R (.ok (.ret (.bool (lexB true true i j k l)))) s) hTa hTb PySem.F.slot_tuple_le PySem.F.entry_tuple_le (PySem.F.args_tuple_le_2 _ _) ?_ ⟨rfl, (fun e => nomatch e), h⟩ hu
  refine Meets.of_wp fun prog w A R s' hs => ?_
  obtain ⟨rfl, hs⟩ := hs
  exact tt_le hx hy ⟨_, rfl, hs⟩
theorem tt_gt {P : Fin → Shared → Prop} {A' : Around} (hx : IsTup s.heap x #[.int i t1, .int j t2]) (hy : IsTup s.heap y #[.int k t3, .int l t4]) (h : P (.done (.ret (.bool (lexB false false i j k l)))) s) :
    wpAny (model prog w) A' (Builtin.«tuple.__gt__» ⟨[.ref x, .ref y], []⟩) P E s := by
  have hTb : s.TypeIs (.ref y) "tuple" := let ⟨o, ho, hc, _⟩ := hy; ⟨o, ho, hc⟩
  obtain ⟨oa, hoa, _, na, hda⟩ := hx
  obtain ⟨ob, hob, _, nb, hdb⟩ := hy
  show wpAny _ _ (isInstance (.ref y) (.type "tuple") >>= _) _ _ s
  refine wpAny_bind (wpAny_isInstance hTb PySem.F.sub_tuple_tuple ?_)
  simp only [Bool.not_true, Bool.false_eq_true, if_false]
  refine wpAny_bind (wpAny_tupleItemsOf hoa hda ?_)
  refine wpAny_bind (wpAny_tupleItemsOf hob hdb ?_)
  refine wpAny_bind ?_
  refine wpAny_forIn_list _
    (fun rest r s' => r.1 = none ∧ s' = s ∧ (rest = [(.int i t1, .int k t3), (.int j t2, .int l t4)] ∨ (rest = [(.int j t2, .int l t4)] ∧ i = k) ∨ (rest = [] ∧ i = k ∧ j = l)))
    _ ?_ ?_ _ _ ⟨rfl, rfl, .inl rfl⟩
  · rintro ⟨u, v⟩ rest r s' ⟨hr, rfl, hz⟩
    rcases hz with hz | ⟨hz, rfl⟩ | ⟨hz, _⟩
    · cases hz
      refine wpAny_bind (wpAny_eqBool_int ?_)
      by_cases e : i = k
      · subst e
        simp only [beq_self_eq_true, Bool.not_true, Bool.false_eq_true, if_false]
        refine wpAny_pure ?_; simp
      · rw [show (i == k) = false from beq_eq_false_iff_ne.mpr e]
        simp only [Bool.not_false, if_true]
        refine wpAny_bind (wpAny_rule (wpAny_bind ?_))
        refine gt_int ?_
        have ee : decide (i > k) = lexB false false i j k l := by
          unfold lexB
          rw [if_neg e]
          show decide (i > k) = decide (i > k)
          exact decide_eq_decide.mpr (by omega)
        rw [ee]
        exact wpAny_bind (wpAny_pure (wpAny_pure (wpAny_pure h)))
    · cases hz
      refine wpAny_bind (wpAny_eqBool_int ?_)
      by_cases e : j = l
      · subst e
        simp only [beq_self_eq_true, Bool.not_true, Bool.false_eq_true, if_false]
        refine wpAny_pure ?_; simp
      · rw [show (j == l) = false from beq_eq_false_iff_ne.mpr e]
        simp only [Bool.not_false, if_true]
        refine wpAny_bind (wpAny_rule (wpAny_bind ?_))
        refine gt_int ?_
        have ee : decide (j > l) = lexB false false i j i l := by
          unfold lexB
          rw [if_pos rfl, if_neg e]
          show decide (j > l) = decide (j > l)
          exact decide_eq_decide.mpr (by omega)
        rw [ee]
        exact wpAny_bind (wpAny_pure (wpAny_pure (wpAny_pure h)))
    · cases hz
  · rintro ⟨r1, r2⟩ s' ⟨hr, rfl, hz⟩
    simp only at hr
    subst hr
    rcases hz with hz | ⟨hz, _⟩ | ⟨_, rfl, rfl⟩
    · cases hz
    · cases hz
    refine wpAny_pure ?_
    have ee : lexB false false i j i j = false := by unfold lexB; rw [if_pos rfl, if_pos rfl]
    rw [ee] at h
    exact h
theorem tc_gt (hx : IsTup s.heap x #[.int i t1, .int j t2]) (hy : IsTup s.heap y #[.int k t3, .int l t4]) (hu : A.units < cLine) (h : Q (.bool (lexB false false i j k l)) s) :
    wpAny (model prog w) A (compareOp .Gt (.ref x) (.ref y)) Q E s := by
  have hTa : s.TypeIs (.ref x) "tuple" := let ⟨o, ho, hc, _⟩ := hx; ⟨o, ho, hc⟩
  have hTb : s.TypeIs (.ref y) "tuple" := let ⟨o, ho, hc, _⟩ := hy; ⟨o, ho, hc⟩
  show wpAny _ _ (richCompare .Gt (.ref x) (.ref y)) _ _ _
  refine richCompare_meets_room (S := fun _ R s' => s' = s ∧ R (.ok (.ret (.bool (lexB false false i j k l)))) s) hTa hTb PySem.F.slot_tuple_gt PySem.F.entry_tuple_gt (PySem.F.args_tuple_gt_2 _ _) ?_ ⟨rfl, (fun e => nomatch e), h⟩ hu
  refine Meets.of_wp fun prog w A R s' hs => ?_
  obtain ⟨rfl, hs⟩ := hs
  exact tt_gt hx hy ⟨_, rfl, hs⟩
theorem tt_ge {P : Fin → Shared → Prop} {A' : Around} (hx : IsTup s.heap x #[.int i t1, .int j t2]) (hy : IsTup s.heap y #[.int k t3, .int l t4]) (h : P (.done (.ret (.bool (lexB false true i j k l)))) s) :
    wpAny (model prog w) A' (Builtin.«tuple.__ge__» ⟨[.ref x, .ref y], []⟩) P E s := by
  have hTb : s.TypeIs (.ref y) "tuple" := let ⟨o, ho, hc, _⟩ := hy; ⟨o, ho, hc⟩
  obtain ⟨oa, hoa, _, na, hda⟩ := hx
  obtain ⟨ob, hob, _, nb, hdb⟩ := hy
  show wpAny _ _ (isInstance (.ref y) (.type "tuple") >>= _) _ _ s
  refine wpAny_bind (wpAny_isInstance hTb PySem.F.sub_tuple_tuple ?_)
  simp only [Bool.not_true, Bool.false_eq_true, if_false]
  refine wpAny_bind (wpAny_tupleItemsOf hoa hda ?_)
  refine wpAny_bind (wpAny_tupleItemsOf hob hdb ?_)
  refine wpAny_bind ?_
  refine wpAny_forIn_list _
    (fun rest r s' => r.1 = none ∧ s' = s ∧ (rest = [(.int i t1, .int k t3), (.int j t2, .int l t4)] ∨ (rest = [(.int j t2, .int l t4)] ∧ i = k) ∨ (rest = [] ∧ i = k ∧ j = l)))
    _ ?_ ?_ _ _ ⟨rfl, rfl, .inl rfl⟩
  · rintro ⟨u, v⟩ rest r s' ⟨hr, rfl, hz⟩
    rcases hz with hz | ⟨hz, rfl⟩ | ⟨hz, _⟩
    · cases hz
      refine wpAny_bind (wpAny_eqBool_int ?_)
      by_cases e : i = k
      · subst e
        simp only [beq_self_eq_true, Bool.not_true, Bool.false_eq_true, if_false]
        refine wpAny_pure ?_; simp
      · rw [show (i == k) = false from beq_eq_false_iff_ne.mpr e]
        simp only [Bool.not_false, if_true]
        refine wpAny_bind (wpAny_rule (wpAny_bind ?_))
        refine ge_int ?_
        have ee : decide (i ≥ k) = lexB false true i j k l := by
          unfold lexB
          rw [if_neg e]
          show decide (i ≥ k) = decide (i > k)
          exact decide_eq_decide.mpr (by omega)
        rw [ee]
        exact wpAny_bind (wpAny_pure (wpAny_pure (wpAny_pure h)))
    · cases hz
      refine wpAny_bind (wpAny_eqBool_int ?_)
      by_cases e : j = l
      · subst e
        simp only [beq_self_eq_true, Bool.not_true, Bool.false_eq_true, if_false]
        refine wpAny_pure ?_; simp
      · rw [show (j == l) = false from beq_eq_false_iff_ne.mpr e]
        simp only [Bool.not_false, if_true]
        refine wpAny_bind (wpAny_rule (wpAny_bind ?_))
        refine ge_int ?_
        have ee : decide (j ≥ l) = lexB false true i j i l := by
          unfold lexB
          rw [if_pos rfl, if_neg e]
          show decide (j ≥ l) = decide (j > l)
          exact decide_eq_decide.mpr (by omega)
        rw [ee]
        exact wpAny_bind (wpAny_pure (wpAny_pure (wpAny_pure h)))
    · cases hz
  · rintro ⟨r1, r2⟩ s' ⟨hr, rfl, hz⟩
    simp only at hr
    subst hr
    rcases hz with hz | ⟨hz, _⟩ | ⟨_, rfl, rfl⟩
    · cases hz
    · cases hz
    refine wpAny_pure ?_
    have ee : lexB false true i j i j = true := by unfold lexB; rw [if_pos rfl, if_pos rfl]
    rw [ee] at h
    exact h
theorem tc_ge (hx : IsTup s.heap x #[.int i t1, .int j t2]) (hy : IsTup s.heap y #[.int k t3, .int l t4]) (hu : A.units < cLine) (h : Q (.bool (lexB false true i j k l)) s) :
    wpAny (model prog w) A (compareOp .GtE (.ref x) (.ref y)) Q E s := by
  have hTa : s.TypeIs (.ref x) "tuple" := let ⟨o, ho, hc, _⟩ := hx; ⟨o, ho, hc⟩
  have hTb : s.TypeIs (.ref y) "tuple" := let ⟨o, ho, hc, _⟩ := hy; ⟨o, ho, hc⟩
  show wpAny _ _ (richCompare .GtE (.ref x) (.ref y)) _ _ _
  refine richCompare_meets_room (S := fun _ R s' => s' = s ∧ R (.ok (.ret (.bool (lexB false true i j k l)))) s) hTa hTb PySem.F.slot_tuple_ge PySem.F.entry_tuple_ge (PySem.F.args_tuple_ge_2 _ _) ?_ ⟨rfl, (fun e => nomatch e), h⟩ hu
  refine Meets.of_wp fun prog w A R s' hs => ?_
  obtain ⟨rfl, hs⟩ := hs
  exact tt_ge hx hy ⟨_, rfl, hs⟩
end
end
end Mine
namespace Mine
section
open PySem PySem.W PySem.Calls PyProof.Rows
abbrev listO (vs : Array Value) (n : Nat) : Obj := { cls := .type "list", data := .seq vs n }
section
variable {prog : Program} {w : World} {A : Around} {E : Value → Shared → Prop} {s : Shared} {env : Env} {h₀ : Heap} {x : Str} {body : List Stmt} {Q : Flow → Shared → Prop}
theorem UnrPost.mono {L I : Addr} {it : Obj} {R R' : (Str → Option Value) → List (Addr × Obj) → Prop} {s₁ : Shared} (hR : ∀ m n, R m n → R' m n) (f : Flow) (s₂ : Shared) (h : UnrPost h₀ L s₁ I it R Q f s₂) : UnrPost h₀ L s₁ I it R' Q f s₂ := by
  have z : UnrEnd h₀ L s₁ I it R s₂ → UnrEnd h₀ L s₁ I it R' s₂ := fun ⟨h', tk, m', n', e, F, N, o, r⟩ => ⟨h', tk, m', n', e, F, N, o, hR _ _ r⟩
  cases f with
  | ret v => exact h
  | brk => exact h
  | next => exact z h
  | cont => exact z h
theorem krs_all {I : Addr} {a c : Int} {n : Nat} (J : Nat → (Str → Option Value) → List (Addr × Obj) → Prop)
    (turn : ∀ i m₁ news₁ t h tk, i < n → J i m₁ news₁ → Fr h₀ env.locals h (fun y => if y = x then some (.int (a + (i : Int) * c) t) else m₁ y) →
      News h₀ env.locals h ((I, krsIt (a + ((i + 1 : Nat) : Int) * c) ((n : Int) - ((i + 1 : Nat) : Int)) c) :: news₁) →
      wpAny (model prog w) A (execs body env) (UnrPost h₀ env.locals { s with heap := h, toks := tk } I (krsIt (a + ((i + 1 : Nat) : Int) * c) ((n : Int) - ((i + 1 : Nat) : Int)) c) (J (i + 1)) Q) E { s with heap := h, toks := tk })
    (done : ∀ m₁ news₁ h tk, J n m₁ news₁ → Fr h₀ env.locals h m₁ → News h₀ env.locals h news₁ → Q .next { s with heap := h, toks := tk }) :
    ∀ k i m₁ news₁, i + k = n → J i m₁ news₁ → KrsRest prog w A E h₀ env x body Q s I a c n k i m₁ news₁
  | 0, i, m₁, news₁, e, j => fun h tk F N => done m₁ news₁ h tk ((show i = n by omega) ▸ j) F N
  | k + 1, i, m₁, news₁, e, j => fun t h tk F N => wpAny_mono (turn i m₁ news₁ t h tk (by omega) j F N)
      (fun f s₂ hp => UnrPost.mono (fun m' n' r => krs_all J turn done k (i + 1) m' n' (by omega) r) f s₂ hp) fun _ _ e => e
def StepEnd (h₀ : Heap) (L : Addr) (s : Shared) (l I : Addr) (it : Obj) (base : List (Addr × Obj)) (J : (Str → Option Value) → Array Value → Prop) (Q : Flow → Shared → Prop) (f : Flow) (s' : Shared) : Prop :=
  match f with
  | .ret v => Q (.ret v) s'
  | .brk => Q .next s'
  | _ => ∃ h' tk m' vs n, s' = { s with heap := h', toks := tk } ∧ Fr h₀ L h' m' ∧ News h₀ L h' ((l, listO vs n) :: (I, it) :: base) ∧ J m' vs
theorem range_list {r l : Addr} {a c b : Int} {t₀ u₀ v₀ : Tok} {n n0 : Nat} {vs0 : Array Value} {m₀ : Str → Option Value} {base : List (Addr × Obj)} (J : Nat → (Str → Option Value) → Array Value → Prop)
    (hh : A.handled = none) (hr : IsRange s.heap r a b c t₀ u₀ v₀) (hsmall : Builtin.Range.small a b c = true) (hn : Builtin.Range.rangeSize a b c = (n : Int)) (F : Fr h₀ env.locals s.heap m₀) (N : News h₀ env.locals s.heap ((l, listO vs0 n0) :: base))
    (j0 : J 0 m₀ vs0)
    (turn : ∀ I i t h tk m₁ vs k, i < n → (∀ p ∈ (l, listO vs k) :: base, p.1 < I) → J i m₁ vs → Fr h₀ env.locals h (fun y => if y = x then some (.int (a + (i : Int) * c) t) else m₁ y) →
      News h₀ env.locals h ((l, listO vs k) :: (I, krsIt (a + ((i + 1 : Nat) : Int) * c) ((n : Int) - ((i + 1 : Nat) : Int)) c) :: base) →
      wpAny (model prog w) A (execs body env) (StepEnd h₀ env.locals { s with heap := h, toks := tk } l I (krsIt (a + ((i + 1 : Nat) : Int) * c) ((n : Int) - ((i + 1 : Nat) : Int)) c) base (J (i + 1)) Q) E { s with heap := h, toks := tk })
    (done : ∀ m₁ vs k h tk, J n m₁ vs → Fr h₀ env.locals h m₁ → News h₀ env.locals h ((l, listO vs k) :: base) → Q .next { s with heap := h, toks := tk }) :
    wpAny (model prog w) A (pyIter (.ref r)) (fun it s₂ => LoopAtV prog w A h₀ env x body Q E it s₂) E s := by
  refine krs_iter hh hr hsmall hn F N fun I hI => ?_
  refine krs_all (fun i m₁ news₁ => ∃ vs k, news₁ = (l, listO vs k) :: base ∧ J i m₁ vs) ?_ ?_ n 0 m₀ _ (by omega) ⟨vs0, n0, rfl, j0⟩
  · rintro i m₁ _ t h tk hi ⟨vs, k, rfl, j⟩ F' N'
    have hI' : ∀ p ∈ (l, listO vs k) :: base, p.1 < I := fun p hp => by
      rcases List.mem_cons.mp hp with rfl | hp
      · exact hI (l, listO vs0 n0) (List.mem_cons_self ..)
      · exact hI _ (List.mem_cons_of_mem _ hp)
    refine wpAny_mono (turn I i t h tk m₁ vs k hi hI' j F' fun p hp => ?_) (fun f s₂ hp => ?_) fun _ _ e => e
    · rcases List.mem_cons.mp hp with rfl | hp
      · exact N' _ (List.mem_cons_of_mem _ (List.mem_cons_self ..))
      · rcases List.mem_cons.mp hp with rfl | hp
        · exact N' _ (List.mem_cons_self ..)
        · exact N' _ (List.mem_cons_of_mem _ (List.mem_cons_of_mem _ hp))
    · have z : (∃ h' tk' m' vs k', s₂ = { s with heap := h', toks := tk' } ∧ Fr h₀ env.locals h' m' ∧ News h₀ env.locals h' ((l, listO vs k') :: (I, krsIt (a + ((i + 1 : Nat) : Int) * c) ((n : Int) - ((i + 1 : Nat) : Int)) c) :: base) ∧ J (i + 1) m' vs) → UnrEnd h₀ env.locals { s with heap := h, toks := tk } I (krsIt (a + ((i + 1 : Nat) : Int) * c) ((n : Int) - ((i + 1 : Nat) : Int)) c) (fun m₁ news₁ => ∃ vs k, news₁ = (l, listO vs k) :: base ∧ J (i + 1) m₁ vs) s₂ := by
        rintro ⟨h', tk', m', vs', k', e, F'', N'', j'⟩
        refine ⟨h', tk', m', (l, listO vs' k') :: base, e, F'', fun p hp => ?_, fun p hp => ?_, vs', k', rfl, j'⟩
        · rcases List.mem_cons.mp hp with rfl | hp
          · exact N'' _ (List.mem_cons_of_mem _ (List.mem_cons_self ..))
          · rcases List.mem_cons.mp hp with rfl | hp
            · exact N'' _ (List.mem_cons_self ..)
            · exact N'' _ (List.mem_cons_of_mem _ (List.mem_cons_of_mem _ hp))
        · rcases List.mem_cons.mp hp with rfl | hp
          · exact Nat.ne_of_lt (hI (l, listO vs0 n0) (List.mem_cons_self ..))
          · exact Nat.ne_of_lt (hI _ (List.mem_cons_of_mem _ hp))
      cases f with
      | ret v => exact hp
      | brk => exact hp
      | next => exact z hp
      | cont => exact z hp
  · rintro m₁ _ h tk ⟨vs, k, rfl, j⟩ F' N'
    exact done m₁ vs k h tk j F' N'
theorem join_fit (a b c : Str) (ha : a.length ≤ 0) (hb : b.length ≤ 400) (hc : c.length ≤ 200) : (a ++ b ++ c).length ≤ sizeLine := by
  rw [PySem.Str.length_append, PySem.Str.length_append]
  simp only [sizeLine]
  omega
theorem ite_t {c : Prop} [Decidable c] {P Q : Prop} (h : c) (p : P) : ite c P Q := by rw [if_pos h]; exact p
theorem ite_f {c : Prop} [Decidable c] {P Q : Prop} (h : ¬ c) (p : Q) : ite c P Q := by rw [if_neg h]; exact p
end
end
end Mine
namespace Mine
section
open PySem PySem.W PySem.Calls PyProof.Rows
def OutV (h₀ : Heap) (L : Addr) (m : Str → Option Value) (news : List (Addr × Obj)) (g : Heap) (L' : Addr) (R : Result → Shared → Prop) (v : Value) (s' : Shared) : Prop :=
  (∃ m', Fr g L' s'.heap m') ∧ (Fr h₀ L s'.heap m → News h₀ L s'.heap news → R (.ok (.ret v)) s')
section
variable {prog : Program} {w : World} {A A₀ : Around} {s : Shared} {Kf : Frag} {L : Addr} {h₀ base : Heap} {m mg mb : Str → Option Value} {news : List (Addr × Obj)} {p : Program} {loose : List Str} {mean : ExcName → Option Value} {env : Env} {outer : List Env}
  {R : Result → Shared → Prop} {name qual : Str} {params : Arguments} {body : List Stmt} {scope : Scope} {dV kV doc pm cdv ct oc : Value} {an od : Option Addr} {osl : Array (Option Value)} {f : Addr} {args : Args} {binds : List (Str × Value)}
theorem enter10 (B : Below A₀ base outer h₀) (F : Fr h₀ L s.heap m) (X₀ : Kf.In h₀) (N : News h₀ L s.heap news) (T : Top p loose mean mg mb h₀) (hA : A.frames = some (env :: outer)) (hf : env.frame = some L) (hke : env.scope.kind = .function)
    (ho : Kf.lookup f = some ⟨oc, od, .func (fnOf name qual params body scope dV kV doc pm an cdv ct), osl⟩) (hcd : codeIn Kf cdv qual = true) (hroom : A.depth < recursionLimit)
    (hbind : BindsTo s (fnOf name qual params body scope dV kV doc pm an cdv ct) args binds) (hloc : ∀ y ∈ binds, scope.names.lookup y.1 = some .local)
    (h : ∀ L' h₁, Fr s.heap L' h₁ (fun y => binds.reverse.lookup y) → News s.heap L' h₁ [] → Below A base (env :: outer) s.heap → Kf.In s.heap → Top p loose mean mg mb s.heap →
      wpAny (model prog w) (A.deeper (envOf qual scope L' f cdv)) (execs body (envOf qual scope L' f cdv))
        (fun fl s' => OutV h₀ L m news s.heap L' R (match fl with | .ret v => v | _ => .none) s')
        (fun e s' => wpAny (model prog w) (A.deeper (envOf qual scope L' f cdv)) (leaving (envOf qual scope L' f cdv) e) (fun _ s'' => R (.error e) s'') (fun e' s'' => R (.error e') s'') s')
        { s with heap := h₁, toks := s.toks + binds.length })
    (hco : scope.isCoroutine = false) (hgen : scope.isGenerator = false) (hk : scope.kind = .function)
    (hcell : ∀ x ∈ scope.names, x.2 ≠ .cell) : codeAny (model prog w) A (.call (.ref f) args) R s := by
  have X := X₀.keeps F.keep
  have nm : ∀ b o, h₀.get? b = some o → b ∉ news.map (·.1) := fun b o e q => by
    obtain ⟨x, hx, rfl⟩ := List.mem_map.mp q
    rw [(N x hx).2.2] at e
    cases e
  have st : h₀.StaysIn (hideAll s.heap (news.map (·.1))) := fun b o e => hideAll_get _ (F.keep b o e) (nm b o e)
  have nL : L ∉ news.map (·.1) := fun q => by
    obtain ⟨x, hx, e⟩ := List.mem_map.mp q
    exact (N x hx).2.1 e
  have nL₀ : h₀.get? L = none := kts_self F
  have B₁ := pushX B F hf hke
  have B₂ : Below A base (env :: outer) s.heap := ⟨hA, fun b o e => F.keep b o (B.stays b o e), B₁.frames⟩
  obtain ⟨oL, es, ep, hL, hLd, hLk, hLf⟩ := F.ns
  have hLg := hideAll_get (news.map (·.1)) hL nL
  refine codeAny_call_def (fd := fnOf name qual params body scope dV kV doc pm an cdv ct) (body := body) (binds := binds) hroom (X _ _ ho) rfl (T.nolimit.keeps F.keep) (codeRec_of X hcd) rfl hbind hcell hloc (fun h₁ hns hk₁ => ?_) hco hgen hk
  refine wpAny_mono (h s.heap.objs.size h₁ ⟨hns, fun b o e => hk₁ b o e, Nat.le_refl _⟩ (fun _ hq => nomatch hq) B₂ X (T.keeps F.keep)) (fun fl s' hl => ?_) fun _ _ y => y
  obtain ⟨⟨m', F'⟩, k⟩ := hl
  exact k ⟨⟨oL, es, ep, F'.keep _ _ hL, hLd, hLk, hLf⟩, fun b o e => F'.keep b o (F.keep b o e), F.above⟩ fun q hq => ⟨F'.keep _ _ (N q hq).1, (N q hq).2.1, (N q hq).2.2⟩
theorem leave10 {s' : Shared} {L' a : Addr} {hh : Heap} {m' : Str → Option Value} {cls : String} {cd : Value} {Q : Unit → Shared → Prop} {E : Value → Shared → Prop}
    (B : Below A₀ base outer h₀) (F : Fr h₀ L s.heap m) (N : News h₀ L s.heap news) (hf : env.frame = some L) (B₂ : Below A base (env :: outer) s.heap)
    (hx : Heap.NewExc hh s'.heap a cls) (F' : Fr s.heap L' hh m') (hk : scope.kind = .function)
    (k : ∀ G h', Fr h₀ L G m → RaisedSN base G (env :: outer) a (.type cls) news h' → G.UpToSlots h' → Q () { s' with heap := h' }) :
    wpAny (model prog w) (A.deeper (envOf name scope L' f cd)) (leaving (envOf name scope L' f cd) (.ref a)) Q E s' := by
  have nm : ∀ b o, h₀.get? b = some o → b ∉ news.map (·.1) := fun b o e q => by
    obtain ⟨x, hx, rfl⟩ := List.mem_map.mp q
    rw [(N x hx).2.2] at e
    cases e
  have st : h₀.StaysIn (hideAll s.heap (news.map (·.1))) := fun b o e => hideAll_get _ (F.keep b o e) (nm b o e)
  have nL : L ∉ news.map (·.1) := fun q => by
    obtain ⟨x, hx, e⟩ := List.mem_map.mp q
    exact (N x hx).2.1 e
  obtain ⟨oL, es, ep, hL, hLd, hLk, hLf⟩ := F.ns
  have hLg := hideAll_get (news.map (·.1)) hL nL
  refine leave_newS B₂ hx F' (news := []) (fun _ hq => absurd hq List.not_mem_nil) (fun h' S _ U => ?_) hk
  obtain ⟨BB, a0, hB, hBG, _, hfl⟩ := S
  have FG : Fr h₀ L (hideAll s.heap (news.map (·.1))) m := ⟨⟨oL, es, ep, hLg, hLd, hLk, hLf⟩, st, F.above⟩
  refine k (hideAll s.heap (news.map (·.1))) h' FG ⟨BB, a0, hB, fun b o e => hBG b o (of_hideAll _ e), fun q hq => ⟨hBG _ _ (N q hq).1 fun hm => ?_, hideAll_none _ (List.mem_map_of_mem hq), fresh_of_stays B.stays (N q hq).2.2⟩, hfl⟩ ((Heap.UpToSlots.of_keeps fun b o e => of_hideAll _ e).trans U)
  obtain ⟨env', he, hf'⟩ := List.mem_filterMap.mp hm
  rcases List.mem_cons.mp he with rfl | he
  · rw [hf] at hf'
    exact (N q hq).2.1 (Option.some.inj hf').symm
  · obtain ⟨o, ho', _⟩ := (B.frames.mem (List.mem_filterMap.mpr ⟨env', he, hf'⟩)).2
    rw [(N q hq).2.2] at ho'; cases ho'
structure LV (A₀ : Around) (base : Heap) (outer : List Env) (h₀ : Heap) (L : Addr) (s : Shared) (m : Str → Option Value) (news : List (Addr × Obj)) : Prop where
  b : Below A₀ base outer h₀
  f : Fr h₀ L s.heap m
  n : News h₀ L s.heap news
theorem leave11 {s' : Shared} {L' a : Addr} {hh : Heap} {m' : Str → Option Value} {cls : String} {cd cd' : Value} {gd : Option (List Code)} {dp un : Nat} {cn : Str} {cs : Scope} {ac : Addr} {cl : List (Str × Addr)} {Q : Unit → Shared → Prop} {E : Value → Shared → Prop}
    (V : LV A₀ base outer h₀ L s m news) (hx : Heap.NewExc hh s'.heap a cls) (F' : Fr s.heap L' hh m') (hk : scope.kind = .function) (hks : cs.kind = .function)
    (k : ∀ G h', Fr h₀ L G m → RaisedSN base G (envX cn cs L ac cd' cl :: outer) a (.type cls) news h' → G.UpToSlots h' → Q () { s' with heap := h' }) :
    wpAny (model prog w) ((ktrTop dp un gd cn cs L ac cd' cl outer).deeper (envOf name scope L' f cd)) (leaving (envOf name scope L' f cd) (.ref a)) Q E s' :=
  leave10 (env := envX cn cs L ac cd' cl) V.b V.f V.n rfl ⟨rfl, fun b o e => V.f.keep b o (V.b.stays b o e), (pushX V.b V.f rfl hks).frames⟩ hx F' hk k
end
end
end Mine
namespace Mine
section
open PySem PySem.W PySem.Calls PyProof.Rows
abbrev HEX : Str := "0123456789abcdefABCDEF"
noncomputable def hxd (c : Str) : Int := let d := Txt.find HEX c; if d > 15 then d - 6 else d
noncomputable def hexes (x : Str) (i : Nat) : List Int := (List.range i).map fun (j : Nat) => 16 * hxd (Txt.item x (0 + (j : Int) * 2)) + hxd (Txt.item x (0 + (j : Int) * 2 + 1))
def hexAt (x : Str) (i : Int) : Prop := 0 ≤ Txt.find HEX (Txt.item x i) ∧ Txt.find HEX (Txt.item x i) ≤ 21
def hexOk (x : Str) (i : Nat) : Prop := ∀ j : Nat, j < i → hexAt x (0 + (j : Int) * 2) ∧ hexAt x (0 + (j : Int) * 2 + 1)
theorem hexAt_of {x : Str} {i : Int} (h : 0 ≤ Txt.find HEX (Txt.item x i)) (hl : (Txt.item x i).length = 1) : hexAt x i := by
  refine ⟨h, ?_⟩
  rcases PyProof.Rows.fact_find HEX (Txt.item x i) with e | ⟨_, e⟩
  · omega
  · rw [hl, show HEX.length = 22 from by decide] at e; omega
theorem hexNot1 {x : Str} {i : Nat} (hi : i < 12) (h : Txt.find HEX (Txt.item x (0 + (i : Int) * 2)) = -1) : ¬ hexOk x 12 := fun o => by
  have := (o i hi).1.1; omega
theorem hexNot2 {x : Str} {i : Nat} (hi : i < 12) (h : Txt.find HEX (Txt.item x (0 + (i : Int) * 2 + 1)) = -1) : ¬ hexOk x 12 := fun o => by
  have := (o i hi).2.1; omega
def hexJ (x : Str) (t : Tok) (l : Addr) (i : Nat) (m : Str → Option Value) (vs : Array Value) : Prop :=
  m "text" = some (.str x t) ∧ m "octets" = some (.ref l) ∧ IntsAre vs.toList (hexes x i) ∧ hexOk x i
theorem hexJ0 {x : Str} {t : Tok} {l : Addr} {m : Str → Option Value} (h1 : m "text" = some (.str x t)) (h2 : m "octets" = some (.ref l)) : hexJ x t l 0 m #[] := ⟨h1, h2, .nil, fun _ h => absurd h (Nat.not_lt_zero _)⟩
theorem hexSz {vs : Array Value} {x : Str} {i : Nat} (j : IntsAre vs.toList (hexes x i)) (hi : i < 12) : vs.size ≤ sizeLine := by
  have h := j.length
  rw [Array.length_toList, hexes, List.length_map, List.length_range] at h
  rw [h, sizeLine_eq]; omega
theorem hexes_succ (x : Str) (i : Nat) : hexes x (i + 1) = hexes x i ++ [16 * hxd (Txt.item x (0 + (i : Int) * 2)) + hxd (Txt.item x (0 + (i : Int) * 2 + 1))] := by
  unfold hexes; rw [List.range_succ, List.map_append]; rfl
theorem hexPush {vs : Array Value} {x : Str} {i : Nat} {t t' : Tok} {l : Addr} {m : Str → Option Value} {n : Int} (j1 : m "text" = some (.str x t)) (j2 : m "octets" = some (.ref l)) (j3 : IntsAre vs.toList (hexes x i)) (j4 : hexOk x i)
    (ha : hexAt x (0 + (i : Int) * 2)) (hb : hexAt x (0 + (i : Int) * 2 + 1))
    (hn : n = 16 * hxd (Txt.item x (0 + (i : Int) * 2)) + hxd (Txt.item x (0 + (i : Int) * 2 + 1))) : hexJ x t l (i + 1) m (vs.push (.int n t')) := by
  refine ⟨j1, j2, ?_, fun j hj => ?_⟩
  · rw [Array.toList_push, hexes_succ, ← hn]
    exact j3.append (.cons n t' .nil)
  · rcases Nat.lt_or_ge j i with h | h
    · exact j4 j h
    · have e : j = i := by omega
      subst e; exact ⟨ha, hb⟩
theorem hxd_hi {x : Str} {i : Int} (h : hexAt x i) : 0 ≤ hxd (Txt.item x i) ∧ hxd (Txt.item x i) < 16 := by
  unfold hxd
  obtain ⟨h1, h2⟩ := h
  dsimp only
  split <;> omega
theorem hexes_in {x : Str} {n : Nat} (h : hexOk x n) : KBa.In (hexes x n) := by
  intro v hv
  obtain ⟨j, hj, rfl⟩ := List.mem_map.mp hv
  have hj := List.mem_range.mp hj
  obtain ⟨h1, h2⟩ := h j hj
  have a := hxd_hi h1
  have b := hxd_hi h2
  omega
section
variable {prog : Program} {w : World} {A : Around} {E : Value → Shared → Prop} {s : Shared} {Q : Value → Shared → Prop}
theorem len24 {x : Str} {t : Tok} (hb : x.length = 24) (h : Q (.int 24 (s.toks+1)) {s with toks := s.toks+1+1}) :
    wpAny (model prog w) A (call (.builtin "len") [.str x t]) Q E s := len_str (by omega) (by rw [hb]; exact h)
end
theorem hexStep {h₀ : Heap} {L l I : Addr} {s s' : Shared} {it : Obj} {J : (Str → Option Value) → Array Value → Prop} {Q : Flow → Shared → Prop} {m₁ : Str → Option Value} {news₁ : List (Addr × Obj)} {vs : Array Value} {n : Nat}
    (F : Fr h₀ L s'.heap m₁) (N : News h₀ L s'.heap news₁) (hl : (l, listO vs n) ∈ news₁) (hI : (I, it) ∈ news₁) (hs : s' = { s with heap := s'.heap, toks := s'.toks }) (j : J m₁ vs) : StepEnd h₀ L s l I it [] J Q .next s' :=
  ⟨s'.heap, s'.toks, m₁, vs, n, hs, F, fun p hp => by
    rcases List.mem_cons.mp hp with rfl | hp
    · exact N _ hl
    · rw [List.mem_singleton.mp hp]; exact N _ hI, j⟩
theorem hxd_eq {c : Str} {a : Int} (h : (15 < Txt.find HEX c ∧ a = Txt.find HEX c - 6) ∨ (Txt.find HEX c ≤ 15 ∧ a = Txt.find HEX c)) : a = hxd c := by
  unfold hxd
  dsimp only
  rcases h with ⟨h, e⟩ | ⟨h, e⟩
  · rw [if_pos h]; exact e
  · rw [if_neg (by omega)]; exact e
theorem hxd_sum {c d : Str} {a b n : Int} (hn : n = 16 * a + b) (ha : (15 < Txt.find HEX c ∧ a = Txt.find HEX c - 6) ∨ (Txt.find HEX c ≤ 15 ∧ a = Txt.find HEX c)) (hb : (15 < Txt.find HEX d ∧ b = Txt.find HEX d - 6) ∨ (Txt.find HEX d ≤ 15 ∧ b = Txt.find HEX d)) : n = 16 * hxd c + hxd d := by
  rw [← hxd_eq ha, ← hxd_eq hb, hn]
end
end Mine
namespace Mine
section
open PySem PySem.W PySem.Calls PyProof.Rows
section
variable {prog : Program} {w : World} {A : Around} {s : Shared} {h₀ : Heap} {L : Addr} {m : Str → Option Value} {env : Env}
theorem comp_all {elt : Expr} {x : Str} {scope : Scope} {cl : List (Str × Addr)} {S : List (Addr × Obj) → Prop} {P : Nat → Value → Prop} {Fin : List Value → List (Addr × Obj) → Prop} {news : List (Addr × Obj)} (n : Nat) (J : Nat → List Value → Prop)
    (hS : S news)
    (turn : ∀ i v I oI C oC D ys m₂ h tk (E' : Value → Shared → Prop), i < n → J i ys → P i v → LCg.NsObj oC m₂ → m₂ x = some v → Fr h₀ L h m → News h₀ L h ((I, oI) :: (C, oC) :: (D, LCg.lst ys) :: news) → LCg.Off3 I C D news → ((@Ne Nat I C) ∧ (@Ne Nat I D) ∧ (@Ne Nat C D)) →
      wpAny (model prog w) A (eval elt (compEnvC scope cl C env)) (fun y s' => s' = { s with heap := s'.heap, toks := s'.toks } ∧ Fr h₀ L s'.heap m ∧ News h₀ L s'.heap ((I, oI) :: (C, oC) :: (D, LCg.lst ys) :: news) ∧ J (i + 1) (ys ++ [y])) E' { s with heap := h, toks := tk })
    (done : ∀ ys, J n ys → Fin ys news) : ∀ k i ys, i + k = n → J i ys → LCg.CompRest prog w A h₀ L m env elt x scope cl s S P Fin k i ys news
  | 0, i, ys, e, j => done ys ((show i = n by omega) ▸ j)
  | k + 1, i, ys, e, j => fun v I oI C oC D m₂ h tk E' hP hC hx F N off ne => wpAny_mono (turn i v I oI C oC D ys m₂ h tk E' (by omega) j hP hC hx F N off ne)
      (fun y s' hq => ⟨s'.heap, s'.toks, news, hq.1, hq.2.1, hq.2.2.1, off, hS, comp_all n J hS turn done k (i + 1) (ys ++ [y]) (by omega) hq.2.2.2⟩) fun _ _ e => e
def LawAt (w : World) (L : Addr) (k : Nat) (qk : Flow → Shared → Prop) (ek : Value → Shared → Prop) (s : Shared) : Prop :=
  ∀ name qual params body scope dV kV doc pm an cdv ct oc od osl, (K w.params).lookup 1495 = some ⟨oc, od, .func (fnOf name qual params body scope dV kV doc pm an cdv ct), osl⟩ →
    wpAny (model PySem.Challenge.rw_an0026_01.row.prog w) (callerA.deeper (envOfC qual scope L 1495 cdv)) (execs (body.drop k) (envOfC qual scope L 1495 cdv)) qk ek s
def Stop (w : World) (L : Addr) (k : Nat) (qk : Flow → Shared → Prop) (ek : Value → Shared → Prop) (A : Around) (body : List Stmt) (env : Env) : Prop :=
  ∀ s, LawAt w L k qk ek s → wpAny (model PySem.Challenge.rw_an0026_01.row.prog w) A (execs body env) qk ek s
theorem Stop.go {w : World} {L : Addr} {k : Nat} {qk : Flow → Shared → Prop} {ek : Value → Shared → Prop} {A : Around} {body : List Stmt} {env : Env} {s : Shared} (h : Stop w L k qk ek A body env) (l : LawAt w L k qk ek s) :
    wpAny (model PySem.Challenge.rw_an0026_01.row.prog w) A (execs body env) qk ek s := h s l
theorem lawSeg {w : World} {L : Addr} {k : Nat} (j : Nat) {qk : Flow → Shared → Prop} {ek : Value → Shared → Prop} {s : Shared} {name qual : Str} {params : Arguments} {body : List Stmt} {scope : Scope} {dV kV doc pm cdv ct oc : Value} {an od : Option Addr} {osl : Array (Option Value)}
    (ho : (K w.params).lookup 1495 = some ⟨oc, od, .func (fnOf name qual params body scope dV kV doc pm an cdv ct), osl⟩)
    (h : Stop w L j qk ek (callerA.deeper (envOfC qual scope L 1495 cdv)) (body.drop j) (envOfC qual scope L 1495 cdv) → wpAny (model PySem.Challenge.rw_an0026_01.row.prog w) (callerA.deeper (envOfC qual scope L 1495 cdv)) (execs (body.drop k) (envOfC qual scope L 1495 cdv)) qk ek s) : LawAt w L k qk ek s := by
  have ho₀ := ho
  intro name' qual' params' body' scope' dV' kV' doc' pm' an' cdv' ct' oc' od' osl' ho'
  rw [ho] at ho'
  unfold fnOf at ho'
  cases ho'
  exact h fun s l => l _ _ _ _ _ _ _ _ _ _ _ _ _ _ _ ho₀
end
section
variable {prog : Program} {w : World} {A : Around} {E : Value → Shared → Prop} {s : Shared} {Q : Value → Shared → Prop} {t u : Tok}
theorem pow256 {n : Int} (h0 : 0 ≤ n) (h1 : n ≤ 20) (h : Q (.int (256 ^ n.toNat) s.toks) { s with toks := s.toks + 1 }) : wpAny (model prog w) A (binaryOp .Pow (.int 256 t) (.int n u)) Q E s := by
  refine pow_int h0 ?_ h
  have e : Builtin.Int.intBits 256 = 9 := by decide
  rw [e]; omega
theorem log256 : ∀ k, k < 21 → ((256 : Int) ^ k).natAbs.log2 < 9000 := by decide +kernel
theorem fdiv256 {a : Int} {k : Nat} (hk : k ≤ 20) (h : Q (.int (a.fdiv (256 ^ k)) s.toks) { s with toks := s.toks + 1 }) : wpAny (model prog w) A (binaryOp .FloorDiv (.int a t) (.int (256 ^ k) u)) Q E s :=
  floordiv_int (Int.ne_of_gt (Int.pow_pos (by decide))) h (Or.inl (PyProof.noPylong_of_log2 (log256 k (by omega))))
theorem fdiv_le {i n : Int} {b : Int} (hi : 0 ≤ i) (hb : i ≤ b) (hn : 0 < n) : 0 ≤ i.fdiv n ∧ i.fdiv n ≤ b := by
  rw [Int.fdiv_eq_ediv_of_nonneg _ (by omega)]
  exact ⟨Int.ediv_nonneg hi (by omega), Int.le_trans (Int.ediv_le_self _ hi) hb⟩
theorem pow_seg {i N : Nat} (hi : i < 12) (hn : 0 < N) (h : Q (.int (256 ^ ((0 + (i : Int)).fdiv (N : Int)).toNat) s.toks) { s with toks := s.toks + 1 }) : wpAny (model prog w) A (binaryOp .Pow (.int 256 t) (.int ((0 + (i : Int)).fdiv (N : Int)) u)) Q E s := by
  have h1 := fdiv_le (i := 0 + (i : Int)) (n := (N : Int)) (b := 20) (by omega) (by omega) (by omega)
  exact pow256 h1.1 h1.2 h
theorem div_seg {i N : Nat} {a : Int} (hi : i < 12) (hn : 0 < N) (h : Q (.int (a.fdiv (256 ^ ((0 + (i : Int)).fdiv (N : Int)).toNat)) s.toks) { s with toks := s.toks + 1 }) : wpAny (model prog w) A (binaryOp .FloorDiv (.int a t) (.int (256 ^ ((0 + (i : Int)).fdiv (N : Int)).toNat) u)) Q E s := by
  have h1 := fdiv_le (i := 0 + (i : Int)) (n := (N : Int)) (b := 20) (by omega) (by omega) (by omega)
  exact fdiv256 (by omega) h
end
theorem news_list {b h : Heap} {L l : Addr} {news : List (Addr × Obj)} {vs : Array Value} {n : Nat} (N : News b L h news) (hm : (l, listO vs n) ∈ news) : h.IsList l vs := ⟨_, (N _ hm).1, rfl, _, rfl⟩
def JIs (_ : Nat) (_ : Nat → List Value → Prop) : Prop := True
theorem comp_allJ {prog : Program} {w : World} {A : Around} {s : Shared} {h₀ : Heap} {L : Addr} {m : Str → Option Value} {env : Env} {elt : Expr} {x : Str} {scope : Scope} {cl : List (Str × Addr)} {S : List (Addr × Obj) → Prop} {P : Nat → Value → Prop} {Fin : List Value → List (Addr × Obj) → Prop} {news : List (Addr × Obj)} {n : Nat} {J : Nat → List Value → Prop}
    (_ : JIs n J) (hS : S news) (j0 : J 0 [])
    (turn : ∀ i v I oI C oC D ys m₂ h tk (E' : Value → Shared → Prop), i < n → J i ys → P i v → LCg.NsObj oC m₂ → m₂ x = some v → Fr h₀ L h m → News h₀ L h ((I, oI) :: (C, oC) :: (D, LCg.lst ys) :: news) → LCg.Off3 I C D news → ((@Ne Nat I C) ∧ (@Ne Nat I D) ∧ (@Ne Nat C D)) →
      wpAny (model prog w) A (eval elt (compEnvC scope cl C env)) (fun y s' => s' = { s with heap := s'.heap, toks := s'.toks } ∧ Fr h₀ L s'.heap m ∧ News h₀ L s'.heap ((I, oI) :: (C, oC) :: (D, LCg.lst ys) :: news) ∧ J (i + 1) (ys ++ [y])) E' { s with heap := h, toks := tk })
    (done : ∀ ys, J n ys → Fin ys news) : LCg.CompRest prog w A h₀ L m env elt x scope cl s S P Fin n 0 [] news :=
  comp_all n J hS turn done n 0 [] (by omega) j0
noncomputable def octet (ns : List Int) (i : Nat) : Int := (((ns.getD (((0 + (i : Int)).fmod ns.length).toNat) 0).fdiv (256 ^ ((0 + (i : Int)).fdiv ns.length).toNat)).fmod 256)
noncomputable def octs (ns : List Int) (i : Nat) : List Int := (List.range i).map (octet ns)
theorem octs_in (ns : List Int) (i : Nat) : KBa.In (octs ns i) := by
  intro v hv
  obtain ⟨j, _, rfl⟩ := List.mem_map.mp hv
  exact ⟨Int.fmod_nonneg_of_pos _ (by decide), Int.fmod_lt_of_pos _ (by decide)⟩
theorem octs_push {ns : List Int} {i : Nat} {ys : List Value} {t : Tok} (h : IntsAre ys (octs ns i)) : IntsAre (ys ++ [.int (octet ns i) t]) (octs ns (i + 1)) := by
  unfold octs
  rw [List.range_succ, List.map_append]
  exact h.append (.cons _ _ .nil)
theorem octs_push' {ns : List Int} {i : Nat} {ys : List Value} {t : Tok} {v : Int} (h : IntsAre ys (octs ns i)) (e : v = octet ns i) : IntsAre (ys ++ [.int v t]) (octs ns (i + 1)) := e ▸ octs_push h
theorem toKtr {M : Model} {c : Sem Value} {Q E : Value → Shared → Prop} {s : Shared} {name : Str} {scope : Scope} {L a : Addr} {cd : Value}
    (h : wpAny M (ktrTop 302 7 (some []) name scope L a cd (cellsFrom (L + 1) scope.names []) []) c Q E s) : wpAny M (callerA.deeper (envOfC name scope L a cd)) c Q E s := h
theorem ints4 {ts : List Value} {is : List Int} (h : IntsAre ts is) (e : is.length = 4) : ∃ i0 i1 i2 i3 k0 k1 k2 k3, ts = [.int i0 k0, .int i1 k1, .int i2 k2, .int i3 k3] := by
  cases h with
  | nil => simp at e
  | cons a ta h => cases h with
    | nil => simp at e
    | cons b tb h => cases h with
      | nil => simp at e
      | cons c tc h => cases h with
        | nil => simp at e
        | cons d td h => cases h with
          | nil => exact ⟨_, _, _, _, _, _, _, _, rfl⟩
          | cons _ _ _ => simp at e
theorem six6 {a b c d e f : Bool} (h : ((a == a) && ((b == b) && ((c == c) && ((d == d) && ((e == e) && (f == f)))))) = false) : False := by
  simp only [beq_self_eq_true, Bool.and_self] at h; exact Bool.noConfusion h
theorem ite_i {c : Prop} [Decidable c] {P Q : Prop} (h1 : c → P) (h2 : ¬ c → Q) : ite c P Q := by
  by_cases h : c
  · rw [if_pos h]; exact h1 h
  · rw [if_neg h]; exact h2 h
theorem bi_le {b : Array UInt8} (h : b.size ≤ 16777216) : (KBw.bInts b).length ≤ 16777216 := by rw [KBw.ints_length]; exact h
theorem upN9 {a c n : Nat} {i : Int} (h0 : 0 ≤ i) (hc : (c : Int) = max 0 (min i n)) (h : a = min (c - 0) (n - 0)) : (a : Int) = min i n := by
  have e : max 0 (min i (n:Int)) = min i n := Int.max_eq_right (Int.le_min.mpr ⟨h0, Int.natCast_nonneg n⟩)
  rw [e] at hc
  have l : c ≤ n := Int.ofNat_le.mp (hc ▸ Int.min_le_right i n)
  rw [h, Nat.sub_zero, Nat.sub_zero, Nat.min_eq_left l, hc]
theorem slice_up {b : Array UInt8} {i : Int} (h0 : 0 ≤ i)
    (k : KBw.bInts (KBy.picked b none (some i)) = ((KBw.bInts b).drop ((none : Option Int).elim 0 (clipAt (KBw.bInts b).length))).take ((some i).elim (KBw.bInts b).length (clipAt (KBw.bInts b).length) - (none : Option Int).elim 0 (clipAt (KBw.bInts b).length))) :
    ((KBy.picked b none (some i)).size : Int) = min i b.size := by
  have h := congrArg List.length k
  have c := clipAt_cast (KBw.bInts b).length i
  rw [KBw.ints_length, List.length_take, List.length_drop, KBw.ints_length] at h
  rw [KBw.ints_length, if_neg (Int.not_lt.mpr h0)] at c
  simp only [Option.elim] at h
  exact upN9 h0 c h
theorem rep_in (x : Int) : KBa.In (List.replicate (Int.toNat 12) [x.fmod 256]).flatten := by
  intro v hv
  have e : v = x.fmod 256 := by
    obtain ⟨l, hl, hv⟩ := List.mem_flatten.mp hv
    rw [(List.mem_replicate.mp hl).2] at hv
    exact List.mem_singleton.mp hv
  rw [e]
  exact ⟨Int.fmod_nonneg_of_pos _ (by decide), Int.fmod_lt_of_pos _ (by decide)⟩
theorem rep_len (x : Int) : (List.replicate (Int.toNat 12) [x]).flatten.length ≤ 16777216 := by
  have e : (List.replicate (Int.toNat 12) [x]).flatten.length = 12 := rfl
  rw [e]; decide
theorem rep_size {x : Int} (_ : KBa.In (List.replicate (Int.toNat 12) [x]).flatten) : (byteArr (List.replicate (Int.toNat 12) [x]).flatten).size = 12 := rfl
theorem two_size {a c : Array UInt8} {n q : Nat} {x : Int} (h1 : (a.size : Int) = min (x.fmod 12) n) (h2 : (c.size : Int) = min (12 - x.fmod 12) q) (hn : n = 12) (hq : q = 12) : (a ++ c).size = 12 := by
  have l := Int.fmod_nonneg_of_pos x (b := 12) (by decide)
  have u := Int.fmod_lt_of_pos x (b := 12) (by decide)
  rw [Array.size_append]; omega
theorem row_le {n q : Nat} {x : Int} (h : (n : Int) = min (x.fmod 16) q) : n ≤ 15 := by
  have u := Int.fmod_lt_of_pos x (b := 16) (by decide)
  omega
def OwnAt (w : World) (L : Addr) (ek : Value → Shared → Prop) : Prop :=
  ∀ name qual params body scope dV kV doc pm an cdv ct oc od osl, (K w.params).lookup 1495 = some ⟨oc, od, .func (fnOf name qual params body scope dV kV doc pm an cdv ct), osl⟩ →
    PassesOwn (model PySem.Challenge.rw_an0026_01.row.prog w) (callerA.deeper (envOfC qual scope L 1495 cdv)) (envOfC qual scope L 1495 cdv) ek
theorem lawSegO {w : World} {L : Addr} {k : Nat} (j : Nat) {qk : Flow → Shared → Prop} {ek : Value → Shared → Prop} {s : Shared} {name qual : Str} {params : Arguments} {body : List Stmt} {scope : Scope} {dV kV doc pm cdv ct oc : Value} {an od : Option Addr} {osl : Array (Option Value)}
    (ho : (K w.params).lookup 1495 = some ⟨oc, od, .func (fnOf name qual params body scope dV kV doc pm an cdv ct), osl⟩) (hO : OwnAt w L ek)
    (h : PassesOwn (model PySem.Challenge.rw_an0026_01.row.prog w) (callerA.deeper (envOfC qual scope L 1495 cdv)) (envOfC qual scope L 1495 cdv) ek → Stop w L j qk ek (callerA.deeper (envOfC qual scope L 1495 cdv)) (body.drop j) (envOfC qual scope L 1495 cdv) → wpAny (model PySem.Challenge.rw_an0026_01.row.prog w) (callerA.deeper (envOfC qual scope L 1495 cdv)) (execs (body.drop k) (envOfC qual scope L 1495 cdv)) qk ek s) : LawAt w L k qk ek s :=
  lawSeg j ho (h (hO _ _ _ _ _ _ _ _ _ _ _ _ _ _ _ ho))
theorem isd {prog : Program} {w : World} {A : Around} {E : Value → Shared → Prop} {s : Shared} {Q : Value → Shared → Prop} {h₀ : Heap} {L d : Addr} {news : List (Addr × Obj)} {o : Obj} (N : News h₀ L s.heap news) (hm : (d, o) ∈ news) (hc : o.cls = .type "dict") (h : Q (.bool true) s) :
    wpAny (model prog w) A (call (.builtin "isinstance") [.ref d, .type "dict"]) Q E s := PySem.IsiPair.dict_dict (N _ hm).1 hc h
theorem isd2 {prog : Program} {w : World} {A : Around} {E : Value → Shared → Prop} {s : Shared} {Q : Value → Shared → Prop} {h₀ : Heap} {L d : Addr} {news : List (Addr × Obj)} {o : Obj} {kvs : List (Str × Value)} (N : News h₀ L s.heap news) (hm : (d, o) ∈ news) (hc : Obj.IsDictOf (PySem.strKind prog w) o kvs) (h : Q (.bool true) s) :
    wpAny (model prog w) A (call (.builtin "isinstance") [.ref d, .type "dict"]) Q E s := by
  obtain ⟨_, _, x, _⟩ := hc
  exact PySem.IsiPair.dict_dict (N _ hm).1 x.1 h
end
end Mine
namespace Mine
section
open PySem PySem.W PySem.Calls PyProof.Rows
section
variable {prog : Program} {w : World} {A : Around} {E : Value → Shared → Prop} {s : Shared} {h₀ : Heap} {L : Addr} {m : Str → Option Value} {env : Env}
theorem bytes_st {I : Addr} {b : Array UInt8} {t : Tok} : ∀ i (h h' : Heap) (o : Obj) (nw : List (Addr × Obj)), KBw.IsBytesIter h I b t i → h.get? I = some o → h'.get? I = some o → (∀ b o, h₀.get? b = some o → h'.get? b = some o) → News h₀ L h' nw → True → KBw.IsBytesIter h' I b t i :=
  fun i h h' o nw st e e' _ _ _ => by
    obtain ⟨o', q, r⟩ := st
    rw [e] at q; cases q
    exact ⟨o, e', r⟩
theorem comp_bytes {elt iter : PySem.Expr} {x : Str} {px : Pos} {scope : Scope} {cl : List (Str × Addr)} {pos : Pos} {Q : Value → Shared → Prop}
    (_F₀ : Fr h₀ L s.heap m) (hclos : closureFor scope env = pure cl) (hcell : ∀ y ∈ scope.names, y.2 ≠ .cell) (hkind : scope.kind = .function)
    (hnames : ∀ y ∈ scope.names, y.2 = .local → scope.names.lookup y.1 = some .local) (hx : scope.names.lookup x = some .local)
    (h : wpAny (model prog w) A (eval iter env) (fun xv s₁ => ∃ b t news, xv = .bytes b t ∧ A.handled = none ∧ Fr h₀ L s₁.heap m ∧ News h₀ L s₁.heap news ∧ b.size ≤ sizeLine ∧
      ∀ g, LCg.CompRest prog w A h₀ L m env elt x scope cl { s₁ with heap := g } (fun _ => True) (fun i v => ∃ c u, b[i]? = some c ∧ v = .int (c.toNat : Int) u) (LCg.FinE h₀ L m { s₁ with heap := g } Q) b.size 0 [] news) E s)
    (hs : ∀ x, foldedSetIterable iter env x = pure x := by intro _; rfl) :
    wpAny (model prog w) A (eval (.ListComp elt [⟨.Name x px, iter, [], 0⟩] scope pos) env) Q E s := by
  rw [eval_ListComp]
  refine wpAny_comprehension_free (use := none) rfl hs hclos hkind hnames (wpAny_mono h (fun xv s₁ h₁ => ?_) fun _ _ e => e)
  obtain ⟨b, t, news, rfl, hh, F, N, hsz, R⟩ := h₁
  refine KBw.pyIter_bytes ?_
  refine LCg.block_U (KBw.walks hh _ b t) hsz (fun i h st => ⟨_, st.choose_spec.1⟩) bytes_st hcell hkind hx ⟨_, Heap.get?_push_size _ rfl, rfl, rfl⟩ (fun c hc => ?_)
    (F.keeps fun _ _ e => Heap.get?_push_of_some _ e) (N.grown fun _ _ e => Heap.get?_push_of_some _ e) (Nat.ne_of_lt F.ns.lt) (next_is_new F) (fun p hp => Nat.ne_of_lt (Heap.lt_size (N p hp).1)) trivial (R _) ?_
  · rw [List.mem_singleton.mp hc]
    show s₁.heap.objs.size < (s₁.heap.push _).objs.size
    rw [Heap.size_push]; exact Nat.lt_succ_self _
  · intro D C h tk m' ys news' F' N' o1 hn hC₀ hD₀ hCL hDL hCD offC fin
    refine ⟨m', hn, fun h'' hs'' => fin D h'' tk (F'.change hs'' hCL hC₀) (fun p hp => ?_) o1⟩
    refine ⟨hs''.extBut _ _ ?_ (N' p hp).1, (N' p hp).2⟩
    rcases List.mem_cons.mp hp with rfl | hp
    · exact Ne.symm hCD
    · exact offC p hp
end
noncomputable def HX16 : Str := "0123456789abcdef"
theorem u8_fdiv (c : UInt8) : 0 ≤ (c.toNat : Int).fdiv 16 ∧ (c.toNat : Int).fdiv 16 < 16 := by
  have h : c.toNat < 256 := c.toNat_lt
  rw [Int.fdiv_eq_ediv_of_nonneg _ (by decide)]
  omega
theorem u8_fmod (c : UInt8) : 0 ≤ (c.toNat : Int).fmod 16 ∧ (c.toNat : Int).fmod 16 < 16 := ⟨Int.fmod_nonneg_of_pos _ (by decide), Int.fmod_lt_of_pos _ (by decide)⟩
section
variable {prog : Program} {w : World} {A : Around} {E : Value → Shared → Prop} {s : Shared} {value slice : PySem.Expr} {t u : Tok} {c : UInt8} {Q : Value → Shared → Prop}
theorem hex_div (h : (Txt.item "0123456789abcdef" ((c.toNat : Int).fdiv 16)).length = 1 → Q (.str (Txt.item "0123456789abcdef" ((c.toNat : Int).fdiv 16)) s.toks) { s with toks := s.toks + 1 })
    (hs : subscripted slice false (.str "0123456789abcdef" t) (.int ((c.toNat : Int).fdiv 16) u) = operate [.str "0123456789abcdef" t, .int ((c.toNat : Int).fdiv 16) u] (getItem (.str "0123456789abcdef" t) (.int ((c.toNat : Int).fdiv 16) u)) := by with_unfolding_all rfl)
    (ht : ∀ r, letTemporaryGo value (.str "0123456789abcdef" t) r = pure () := by intro _; with_unfolding_all rfl) :
    wpAny (model prog w) A (subscriptTail value slice (.str "0123456789abcdef" t) (.int ((c.toNat : Int).fdiv 16) u)) Q E s :=
  KXi.item (n := 16) (by decide) (by have := (u8_fdiv c).1; omega) (by have := (u8_fdiv c).2; omega) (by decide) h hs ht
theorem hex_mod (h : (Txt.item "0123456789abcdef" ((c.toNat : Int).fmod 16)).length = 1 → Q (.str (Txt.item "0123456789abcdef" ((c.toNat : Int).fmod 16)) s.toks) { s with toks := s.toks + 1 })
    (hs : subscripted slice false (.str "0123456789abcdef" t) (.int ((c.toNat : Int).fmod 16) u) = operate [.str "0123456789abcdef" t, .int ((c.toNat : Int).fmod 16) u] (getItem (.str "0123456789abcdef" t) (.int ((c.toNat : Int).fmod 16) u)) := by with_unfolding_all rfl)
    (ht : ∀ r, letTemporaryGo value (.str "0123456789abcdef" t) r = pure () := by intro _; with_unfolding_all rfl) :
    wpAny (model prog w) A (subscriptTail value slice (.str "0123456789abcdef" t) (.int ((c.toNat : Int).fmod 16) u)) Q E s :=
  KXi.item (n := 16) (by decide) (by have := (u8_fmod c).1; omega) (by have := (u8_fmod c).2; omega) (by decide) h hs ht
end
noncomputable def hexl (B : Array UInt8) (i : Nat) : List Str := (List.range i).map fun k => Txt.item "0123456789abcdef" (((B[k]?.getD 0).toNat : Int).fdiv 16) ++ Txt.item "0123456789abcdef" (((B[k]?.getD 0).toNat : Int).fmod 16)
theorem strs_snoc {y : Str} {t : Tok} : ∀ {vs : List Value} {ys : List Str}, StrsAre vs ys → StrsAre (vs ++ [.str y t]) (ys ++ [y])
  | _, _, .nil => .cons y t .nil
  | _, _, .cons z u h => .cons z u (strs_snoc h)
theorem hexl_push {B : Array UInt8} {i : Nat} {c : UInt8} {ys : List Value} {t : Tok} (h : StrsAre ys (hexl B i)) (e : B[i]? = some c) :
    StrsAre (ys ++ [.str (Txt.item "0123456789abcdef" ((c.toNat : Int).fdiv 16) ++ Txt.item "0123456789abcdef" ((c.toNat : Int).fmod 16)) t]) (hexl B (i + 1)) := by
  have q : hexl B (i + 1) = hexl B i ++ [Txt.item "0123456789abcdef" ((c.toNat : Int).fdiv 16) ++ Txt.item "0123456789abcdef" ((c.toNat : Int).fmod 16)] := by
    unfold hexl
    rw [List.range_succ, List.map_append, List.map_singleton, e]; rfl
  rw [q]
  exact strs_snoc h
theorem item_one : ∀ i : Nat, i < 16 → (Txt.item "0123456789abcdef" (i : Int)).length = 1 := by decide +kernel
theorem item_oneZ {z : Int} (h0 : 0 ≤ z) (h1 : z < 16) : (Txt.item "0123456789abcdef" z).length = 1 := by
  have h := item_one z.toNat (by omega)
  rwa [Int.toNat_of_nonneg h0] at h
theorem hexl_len (B : Array UInt8) (n : Nat) : ∀ y ∈ hexl B n, y.length = 2 := by
  intro y hy
  obtain ⟨k, _, rfl⟩ := List.mem_map.mp hy
  rw [PySem.Str.length_append, item_oneZ (u8_fdiv _).1 (u8_fdiv _).2, item_oneZ (u8_fmod _).1 (u8_fmod _).2]
theorem sum_two : ∀ l : List Str, (∀ y ∈ l, y.length = 2) → (l.map (·.length)).sum = 2 * l.length
  | [], _ => rfl
  | a :: r, h => by
    rw [List.map_cons, List.sum_cons, sum_two r fun y hy => h y (List.mem_cons_of_mem _ hy), h a (List.mem_cons_self ..), List.length_cons]; omega
theorem hexl_sum (B : Array UInt8) (n : Nat) : ((hexl B n).map (·.length)).sum = 2 * n := by
  rw [sum_two _ (hexl_len B n), hexl, List.length_map, List.length_range]
theorem hexl_ok {B : Array UInt8} (h : B.size ≤ 1000) : ((hexl B B.size).map (·.length)).sum + (hexl B B.size).length * ("" : Str).length ≤ 16777216 := by
  have e : ("" : Str).length = 0 := by decide
  rw [hexl_sum, e]; omega
end
end Mine
namespace Mine
section
open PySem PySem.W PySem.Calls PyProof.Rows
structure HexOf (B : Array UInt8) (x : Str) : Prop where
  len : x.length = 24
  ok : hexOk x 12
  is : byteArr (hexes x 12) = B
  small : ∀ c ∈ x.cps.toList, c < 16 ^ 8
theorem repr_le {x : Str} (h : x.length ≤ 30) (hs : ∀ c ∈ x.cps.toList, c < 16 ^ 8) : (reprText x).length ≤ 400 := by
  have := StrLaws.reprText_len x hs
  omega
theorem cut23 {x : Str} (h : x.length = 24) : Txt.slice x none (some 23) = ⟨(x.cps.toList.take 23).toArray⟩ := by
  have := slice_closes_toL (x := x) (j := 23) (by decide) (by omega)
  exact eq_of_beq this
theorem str_len (x : Str) : x.cps.toList.length = x.length := rfl
theorem cut_no {x : Str} (h : x.length = 24) : (Txt.slice x none (some 23)).length ≠ 24 := by
  rw [cut23 h]
  have e : (⟨(x.cps.toList.take 23).toArray⟩ : Str).length = (x.cps.toList.take 23).length := List.size_toArray
  rw [e, List.length_take, str_len, h]; decide
theorem cut_small {x : Str} (h : x.length = 24) (hs : ∀ c ∈ x.cps.toList, c < 16 ^ 8) : ∀ c ∈ (Txt.slice x none (some 23)).cps.toList, c < 16 ^ 8 := by
  rw [cut23 h]
  exact fun c hc => hs c (List.mem_of_mem_take hc)
theorem add_cps (x y : Str) : (x ++ y).cps.toList = x.cps.toList ++ y.cps.toList := Array.toList_append
theorem add_no {x : Str} (h : x.length = 24) : (x ++ ("0" : Str)).length ≠ 24 := by
  rw [PySem.Str.length_append, h]; decide
theorem add_small {x : Str} (hs : ∀ c ∈ x.cps.toList, c < 16 ^ 8) : ∀ c ∈ (x ++ ("0" : Str)).cps.toList, c < 16 ^ 8 := by
  rw [add_cps]
  intro c hc
  rcases List.mem_append.mp hc with h | h
  · exact hs c h
  · have e : ("0" : Str).cps.toList = [48] := by decide +kernel
    rw [e] at h
    rw [List.mem_singleton.mp h]; decide
theorem cut_ok {x : Str} {B : Array UInt8} (h : HexOf B x) : (Txt.slice x none (some 23)).length ≠ 24 ∧ (Txt.slice x none (some 23)).length ≤ 30 ∧ (reprText (Txt.slice x none (some 23))).length ≤ 400 := by
  have l : (Txt.slice x none (some 23)).length ≤ 30 := by
    rw [cut23 h.len]
    have e : (⟨(x.cps.toList.take 23).toArray⟩ : Str).length = (x.cps.toList.take 23).length := List.size_toArray
    rw [e, List.length_take, str_len, h.len]; decide
  exact ⟨cut_no h.len, l, repr_le l (cut_small h.len h.small)⟩
theorem add_ok {x : Str} {B : Array UInt8} (h : HexOf B x) : (x ++ ("0" : Str)).length ≠ 24 ∧ (x ++ ("0" : Str)).length ≤ 30 ∧ (reprText (x ++ ("0" : Str))).length ≤ 400 := by
  have l : (x ++ ("0" : Str)).length ≤ 30 := by
    rw [PySem.Str.length_append, h.len]; decide
  exact ⟨add_no h.len, l, repr_le l (add_small h.small)⟩
end
end Mine
namespace Mine
section
open PySem PySem.W PySem.Calls PyProof.Rows
open PySem.SeqAt
section
variable {A : Around} {s : Shared}
theorem at_bytes {a b : Array UInt8} {t u : Tok} (e : a = b) : EqAt A s (.bytes a t) (.bytes b u) true := fun prog w E Q h => by
  subst e
  unfold eqBool
  refine wpAny_holding ?_
  refine wpAny_ite_split (fun _ => wpAny_bind (wpAny_rule (wpAny_pure h))) fun _ => ?_
  refine wpAny_bind ?_
  show wpAny (model prog w) A (compareOp .Eq (.bytes a t) (.bytes a u)) _ E s
  refine eq_bytes ?_
  simp only [beq_self_eq_true]
  exact wpAny_truthy_bool h
theorem at_str {a b : Str} {t u : Tok} (e : a = b) : EqAt A s (.str a t) (.str b u) true := by
  have h := EqAt.str_str (A := A) (s := s) a t b u
  rw [e] at h ⊢
  rwa [beq_self_eq_true] at h
theorem at_int {a b : Int} {t u : Tok} (e : a = b) : EqAt A s (.int a t) (.int b u) true := by
  have h := EqAt.int_int (A := A) (s := s) a t b u
  rw [e] at h ⊢
  rwa [beq_self_eq_true] at h
theorem at_bool {a b : Bool} (e : a = b) : EqAt A s (.bool a) (.bool b) true := by
  have h := EqAt.bool_bool (A := A) (s := s) a b
  rw [e] at h ⊢
  rwa [beq_self_eq_true] at h
end
inductive AllSame (A : Around) (s : Shared) : List Value → List Value → Prop
  | nil : AllSame A s [] []
  | cons {v w : Value} {vs ws : List Value} : EqAt A s v w true → AllSame A s vs ws → AllSame A s (v :: vs) (w :: ws)
theorem AllSame.len {A : Around} {s : Shared} : ∀ {vs ws : List Value}, AllSame A s vs ws → vs.length = ws.length
  | _, _, .nil => rfl
  | _, _, .cons _ h => congrArg (· + 1) h.len
theorem AllSame.at {A : Around} {s : Shared} : ∀ {vs ws : List Value}, AllSame A s vs ws → ∀ j (h1 : j < vs.length) (h2 : j < ws.length), EqAt A s vs[j] ws[j] true
  | _, _, .cons e _, 0, _, _ => e
  | _, _, .cons _ h, j + 1, h1, h2 => h.at j (Nat.lt_of_succ_lt_succ h1) (Nat.lt_of_succ_lt_succ h2)
section
variable {prog : Program} {w : World} {A : Around} {E : Value → Shared → Prop} {s : Shared} {Q : Value → Shared → Prop} {a b : Addr} {vs ws : List Value}
theorem ne_same (ha : s.heap.IsList a vs.toArray) (hb : s.heap.IsList b ws.toArray) (hu : A.units < cLine) (he : AllSame A.in1 s vs ws) (h : Q (.bool false) s) :
    wpAny (model prog w) A (compareOp .NotEq (.ref a) (.ref b)) Q E s := by
  have sz : vs.toArray.size = ws.toArray.size := by simpa using he.len
  have k := RcNeAt.lists (e := fun _ => true) ha hb sz hu (fun j h1 h2 => by simpa using he.at j (by simpa using h1) (by simpa using h2)) prog w E Q
  refine k ?_
  have e : (List.range vs.toArray.size).all (fun _ => true) = true := by simp
  rw [e]; exact h
theorem eq_same (ha : s.heap.IsList a vs.toArray) (hb : s.heap.IsList b ws.toArray) (hu : A.units < cLine) (he : AllSame A.in1 s vs ws) (h : Q (.bool true) s) :
    wpAny (model prog w) A (compareOp .Eq (.ref a) (.ref b)) Q E s := by
  have sz : vs.toArray.size = ws.toArray.size := by simpa using he.len
  have k := RcAt.lists (e := fun _ => true) ha hb sz hu (fun j h1 h2 => by simpa using he.at j (by simpa using h1) (by simpa using h2)) prog w E Q
  refine k ?_
  have e : (List.range vs.toArray.size).all (fun _ => true) = true := by simp
  rw [e]; exact h
end
theorem isl {b h : Heap} {L l : Addr} {news : List (Addr × Obj)} {o : Obj} {vs : List Value} {n : Nat} (N : News b L h news) (hm : (l, o) ∈ news) (hc : o.cls = .type "list") (hd : o.data = .seq vs.toArray n) : h.IsList l vs.toArray := ⟨_, (N _ hm).1, hc, _, hd⟩
theorem toKtrC {M : Model} {c : Code} {R : Result → Shared → Prop} {s : Shared} {name : Str} {scope : Scope} {L a : Addr} {cd : Value}
    (h : codeAny M (ktrTop 302 7 (some []) name scope L a cd (cellsFrom (L + 1) scope.names []) []) c R s) : codeAny M (callerA.deeper (envOfC name scope L a cd)) c R s := h
end
end Mine
namespace Mine
section
open PySem PySem.W PySem.Calls PyProof.Rows
noncomputable def forBody (k : Nat) (body : List Stmt) : List Stmt := match body.drop k with
  | .For _ _ b _ _ :: _ => b
  | _ => []
def TurnAt (w : World) (L : Addr) (k : Nat) (qk : Flow → Shared → Prop) (ek : Value → Shared → Prop) (s : Shared) : Prop :=
  ∀ name qual params body scope dV kV doc pm an cdv ct oc od osl, (K w.params).lookup 1495 = some ⟨oc, od, .func (fnOf name qual params body scope dV kV doc pm an cdv ct), osl⟩ →
    wpAny (model PySem.Challenge.rw_an0026_01.row.prog w) (callerA.deeper (envOfC qual scope L 1495 cdv)) (execs (forBody k body) (envOfC qual scope L 1495 cdv)) qk ek s
theorem turnSeg {w : World} {L : Addr} {k : Nat} {qk : Flow → Shared → Prop} {ek : Value → Shared → Prop} {s : Shared} {name qual : Str} {params : Arguments} {body : List Stmt} {scope : Scope} {dV kV doc pm cdv ct oc : Value} {an od : Option Addr} {osl : Array (Option Value)}
    (ho : (K w.params).lookup 1495 = some ⟨oc, od, .func (fnOf name qual params body scope dV kV doc pm an cdv ct), osl⟩)
    (h : wpAny (model PySem.Challenge.rw_an0026_01.row.prog w) (callerA.deeper (envOfC qual scope L 1495 cdv)) (execs (forBody k body) (envOfC qual scope L 1495 cdv)) qk ek s) : TurnAt w L k qk ek s := by
  intro name' qual' params' body' scope' dV' kV' doc' pm' an' cdv' ct' oc' od' osl' ho'
  rw [ho] at ho'
  unfold fnOf at ho'
  cases ho'
  exact h
theorem TurnAt.go {w : World} {L : Addr} {k : Nat} {qk : Flow → Shared → Prop} {ek : Value → Shared → Prop} {s : Shared} {name qual : Str} {params : Arguments} {body B : List Stmt} {scope : Scope} {dV kV doc pm cdv ct oc : Value} {an od : Option Addr} {osl : Array (Option Value)}
    (ho : (K w.params).lookup 1495 = some ⟨oc, od, .func (fnOf name qual params body scope dV kV doc pm an cdv ct), osl⟩) (hB : forBody k body = B)
    (h : TurnAt w L k qk ek s) : wpAny (model PySem.Challenge.rw_an0026_01.row.prog w) (callerA.deeper (envOfC qual scope L 1495 cdv)) (execs B (envOfC qual scope L 1495 cdv)) qk ek s := hB ▸ h _ _ _ _ _ _ _ _ _ _ _ _ _ _ _ ho
theorem envOfC_locals {n : Str} {sc : Scope} {L a : Addr} {cd : Value} : (envOfC n sc L a cd).locals = L := rfl
end
end Mine
namespace Mine
section
open PySem PySem.W PySem.Calls PyProof.Rows
abbrev SIG : Str := "0123456789abcdefABCDEF g-١"
theorem rng5 {z : Int} (h0 : 0 ≤ z) (h1 : z < 5) : Builtin.Range.small 0 (22 + z) 1 = true ∧ Builtin.Range.rangeSize 0 (22 + z) 1 = (((22 + z).toNat : Nat) : Int) ∧ (22 + z).toNat ≤ sizeLine := by
  rcases (by omega : z = 0 ∨ z = 1 ∨ z = 2 ∨ z = 3 ∨ z = 4) with rfl | rfl | rfl | rfl | rfl <;> decide
def IsSig (y : Str) : Prop := ∃ k : Nat, k < 26 ∧ y = Txt.item SIG (k : Int)
def OthJ (i : Nat) (ys : List Value) : Prop := ∃ l, StrsAre ys l ∧ l.length = i ∧ ∀ y ∈ l, IsSig y
theorem othJ0 : OthJ 0 [] := ⟨[], .nil, rfl, fun _ h => nomatch h⟩
theorem othJ_push {i : Nat} {ys : List Value} {x : Int} {M : Int} {t : Tok} (h : OthJ i ys) (hM : 0 < M) (hM2 : M ≤ 26) : OthJ (i + 1) (ys ++ [.str (Txt.item SIG (x.fmod M)) t]) := by
  obtain ⟨l, h1, h2, h3⟩ := h
  have a := Int.fmod_nonneg_of_pos x hM
  have b := Int.fmod_lt_of_pos x hM
  refine ⟨l ++ [Txt.item SIG (x.fmod M)], strs_snoc h1, by rw [List.length_append, h2]; rfl, fun y hy => ?_⟩
  rcases List.mem_append.mp hy with hy | hy
  · exact h3 y hy
  · rw [List.mem_singleton.mp hy]
    exact ⟨(x.fmod M).toNat, by omega, by rw [Int.toNat_of_nonneg a]⟩
theorem sig_len : ∀ k : Nat, k < 26 → (Txt.item SIG (k : Int)).length = 1 := by decide +kernel
theorem sig_small : ∀ k : Nat, k < 26 → (Txt.item SIG (k : Int)).cps.toList.all (· < 16 ^ 8) = true := by decide +kernel
theorem isSig_len {y : Str} (h : IsSig y) : y.length = 1 := by
  obtain ⟨k, hk, rfl⟩ := h
  exact sig_len k hk
theorem sum_one : ∀ l : List Str, (∀ y ∈ l, IsSig y) → (l.map (·.length)).sum = l.length
  | [], _ => rfl
  | a :: r, h => by
    rw [List.map_cons, List.sum_cons, sum_one r fun y hy => h y (List.mem_cons_of_mem _ hy), isSig_len (h a (List.mem_cons_self ..)), List.length_cons]; omega
def OthOf (x : Str) : Prop := ∃ l, x = Txt.join "" l ∧ (∀ y ∈ l, IsSig y) ∧ 22 ≤ l.length ∧ l.length ≤ 26
theorem oth_of {ol : List Str} {z : Int} (h3 : ∀ y ∈ ol, IsSig y) (h2 : ol.length = (22 + z.fmod 5).toNat) : OthOf (Txt.join "" ol) := by
  have a := Int.fmod_nonneg_of_pos z (b := 5) (by decide)
  have b := Int.fmod_lt_of_pos z (b := 5) (by decide)
  exact ⟨ol, rfl, h3, by omega, by omega⟩
end
end Mine
namespace Mine
section
open PySem PySem.W PySem.Calls PyProof.Rows
open PySem.SeqAt
section
variable {prog : Program} {w : World} {A : Around} {E : Value → Shared → Prop} {s : Shared} {Q : Value → Shared → Prop} {a b : Addr} {ys : List Value}
theorem eq_nil (ha : s.heap.IsList a ys.toArray) (hb : s.heap.IsList b ([] : List Value).toArray) (hu : A.units < cLine) (h : Q (.bool (decide (ys = []))) s) :
    wpAny (model prog w) A (compareOp .Eq (.ref a) (.ref b)) Q E s := by
  cases ys with
  | nil =>
    rw [decide_eq_true rfl] at h
    exact eq_same ha hb hu .nil h
  | cons y r =>
    rw [decide_eq_false (by simp)] at h
    exact RcAt.lists_lengths ha hb (by simp) hu prog w E Q h
end
theorem at_item {x : Str} {k : Nat} (h : k < x.length) : Txt.item x (k : Int) = ⟨#[x.cps.getD k 0]⟩ := by
  have hk : k < x.cps.size := h
  have e : seqIndex? (k : Int) x.length = some k := by
    unfold seqIndex?
    have h1 : ¬ ((k : Int) < 0) := by omega
    have h2 : (0 ≤ (k : Int) && decide ((k : Int) < (x.length : Int))) = true := by simp; omega
    simp only [if_neg h1, if_pos h2, Int.toNat_natCast]
  unfold Txt.item Txt.charAt
  rw [e]
  simp [Array.getD, hk]
theorem getD_at {l : List Str} {k : Nat} (h : k < l.length) : l.getD k Str.empty = l[k] := by simp [List.getD, h]
theorem item_mem {x : Str} {k : Nat} (h : k < x.length) : Txt.item x (k : Int) ∈ signs x := by
  rw [at_item h, ← signs_getD h]
  have hl : k < (signs x).length := by rw [signs_length]; exact h
  rw [getD_at hl]
  exact List.getElem_mem hl
theorem mem_item {x : Str} {y : Str} (h : y ∈ signs x) : ∃ k : Nat, k < x.length ∧ y = Txt.item x (k : Int) := by
  obtain ⟨k, hk, e⟩ := List.mem_iff_getElem.mp h
  have hk' : k < x.length := by rw [signs_length] at hk; exact hk
  refine ⟨k, hk', ?_⟩
  rw [at_item hk', ← signs_getD hk', getD_at hk, e]
theorem find_in {y : Str} : 0 ≤ Txt.find HEX y ↔ (Builtin.Str.occurrences HEX y 0 HEX.length 1).isEmpty = false := by
  unfold Txt.find
  cases Builtin.Str.occurrences HEX y 0 HEX.length 1 with
  | nil => simp
  | cons i r => simp
theorem hexAt_iff {x : Str} {k : Nat} (h : k < x.length) : hexAt x (k : Int) ↔ (Builtin.Str.occurrences HEX (Txt.item x (k : Int)) 0 HEX.length 1).isEmpty = false := by
  constructor
  · exact fun q => find_in.mp q.1
  · intro q
    refine hexAt_of (find_in.mpr q) ?_
    rw [at_item h]; rfl
theorem hexOk_iff {x : Str} (h : x.length = 24) : hexOk x 12 ↔ ∀ y ∈ signs x, (Builtin.Str.occurrences HEX y 0 HEX.length 1).isEmpty = false := by
  constructor
  · intro q y hy
    obtain ⟨k, hk, rfl⟩ := mem_item hy
    refine (hexAt_iff hk).mp ?_
    have hj : k / 2 < 12 := by omega
    rcases Nat.mod_two_eq_zero_or_one k with e | e
    · have := (q (k / 2) hj).1
      have z : (0 + ((k / 2 : Nat) : Int) * 2) = (k : Int) := by omega
      rwa [z] at this
    · have := (q (k / 2) hj).2
      have z : (0 + ((k / 2 : Nat) : Int) * 2 + 1) = (k : Int) := by omega
      rwa [z] at this
  · intro q j hj
    have z0 : (0 + (j : Int) * 2) = ((2 * j : Nat) : Int) := by omega
    have z1 : (0 + (j : Int) * 2 + 1) = ((2 * j + 1 : Nat) : Int) := by omega
    refine ⟨?_, ?_⟩
    · rw [z0]; exact (hexAt_iff (by omega)).mpr (q _ (item_mem (by omega)))
    · rw [z1]; exact (hexAt_iff (by omega)).mpr (q _ (item_mem (by omega)))
theorem hexed_iff {x : Str} {ys : List Value} (h : (x.length : Int) = 24)
    (hc : CarriedAll ys (List.map PyData.str (List.filter (fun a => !!(Builtin.Str.occurrences (Str.ofString "0123456789abcdefABCDEF") a 0 (Str.ofString "0123456789abcdefABCDEF").length 1).isEmpty) (signs x)))) :
    decide (ys = []) = true ↔ (x.length = 24 ∧ hexOk x 12) := by
  have h24 : x.length = 24 := by omega
  have l := hc.length_eq
  rw [List.length_map] at l
  rw [decide_eq_true_iff, hexOk_iff h24]
  constructor
  · intro e
    rw [e] at l
    have f := List.filter_eq_nil_iff.mp (List.length_eq_zero_iff.mp l.symm)
    refine ⟨h24, fun y hy => ?_⟩
    have := f y hy
    simpa using this
  · rintro ⟨_, q⟩
    have f : List.filter (fun a => !!(Builtin.Str.occurrences (Str.ofString "0123456789abcdefABCDEF") a 0 (Str.ofString "0123456789abcdefABCDEF").length 1).isEmpty) (signs x) = [] := by
      refine List.filter_eq_nil_iff.mpr fun y hy => ?_
      have := q y hy
      simpa using this
    rw [f] at l
    exact List.length_eq_zero_iff.mp l
theorem hexed_no {x : Str} (h : ¬ (x.length : Int) = 24) : false = true ↔ (x.length = 24 ∧ hexOk x 12) := ⟨fun e => (Bool.noConfusion e), fun e => absurd (by omega) h⟩
theorem hexed_no2 {x : Str} (h : (x.length : Int) ≠ 24) : ((x.length : Int) == 24) = true ↔ (x.length = 24 ∧ hexOk x 12) := ⟨fun e => absurd (eq_of_beq e) h, fun e => absurd (by omega) h⟩
end
end Mine
namespace Mine
section
open PySem PySem.W PySem.Calls PyProof.Rows PySem.NumText
noncomputable def numOf (x : (int_private% "Numeral")) : Option Int := (int_private% "Numeral.rec") (motive := fun _ => Option Int) none (fun _ => none) none (fun i => some i) x
theorem numOf_val {x : (int_private% "Numeral")} {n : Int} (h : numOf x = some n) : x = (int_private% "Numeral.value") n := by
  cases x with
  | value i => exact congrArg (int_private% "Numeral.value") (Option.some.inj h)
  | invalid => exact nomatch h
  | tooLong _ => exact nomatch h
  | byTheLibrary => exact nomatch h
noncomputable def hv (d : Nat) : Int := if d > 15 then (d : Int) - 6 else d
theorem read_pairs : ∀ a : Nat, a < 22 → ∀ b : Nat, b < 22 → numOf ((int_private% "readNumeral") 0 16 [HEX.cps.getD a 0, HEX.cps.getD b 0]) = some (16 * hv a + hv b) := by decide +kernel
theorem pair_fact : ∀ a : Nat, a < 22 → HEX.cps.getD a 0 < 128 ∧ HEX.cps.getD a 0 ≠ 0 := by decide +kernel
theorem wp_hex {M : Model} {A : Around} {E : Value → Shared → Prop} {s : Shared} {Q : Value → Shared → Prop} {v : Value} {text : List Nat} {n : Int}
    (hs : (text.takeWhile (· != 0)).length ≤ 640) (hr : (int_private% "readNumeral") 0 16 (text.takeWhile (· != 0)) = (int_private% "Numeral.value") n)
    (ha : ((text.takeWhile (· != 0)).length == text.length) = true) (h : Q (.int n s.toks) { s with toks := s.toks + 1 }) :
    wpAny M A ((int_private% "intFromText") v text 16) Q E s := by
  obtain ⟨hp, g, d, tk, os⟩ := s
  repeat (any_goals (first
    | assumption
    | (with_reducible refine wpAny_ite_true (decide_eq_true hs) ?_)
    | (with_reducible refine wpAny_ite_true (decide_eq_true ha) ?_)
    | wp_step))
  all_goals (try rw [hr])
  all_goals (try dsimp only)
  repeat (any_goals (first
    | assumption
    | (with_reducible refine wpAny_ite_true (decide_eq_true hs) ?_)
    | (with_reducible refine wpAny_ite_true (decide_eq_true ha) ?_)
    | wp_step))
theorem two_all {c d : Nat} (h : c < 128) (h' : d < 128) : ((#[c, d] : Array Nat).all (· < 128)) = true := by simp [h, h']
theorem two_take {c d : Nat} (h : c ≠ 0) (h' : d ≠ 0) : ([c, d] : List Nat).takeWhile (· != 0) = [c, d] := by simp [List.takeWhile_cons, h, h']
theorem wp_hex2 {M : Model} {A : Around} {E : Value → Shared → Prop} {s : Shared} {Q : Value → Shared → Prop} {v : Value} {x : PySem.Str} {z : List Nat} {n : Int} {c d bs : Nat}
    (h1 : (x.cps.all (· < 128)) = true) (h2 : x.cps.toList = [c, d]) (h3 : ([c, d] : List Nat).takeWhile (· != 0) = [c, d]) (hr : (int_private% "readNumeral") 0 16 [c, d] = (int_private% "Numeral.value") n) (hb : bs = 16) (h : Q (.int n s.toks) { s with toks := s.toks + 1 }) :
    wpAny M A ((int_private% "intFromText") v (if (x.cps.all fun x => decide (x < 128)) = true then x.cps.toList else z) bs) Q E s := by
  subst hb
  rw [if_pos h1, h2]
  exact wp_hex (by rw [h3]; exact (show 2 ≤ 640 by decide)) (by rw [h3]; exact hr) (by rw [h3]; exact beq_self_eq_true _) h
structure Kept (p : Prop) : Prop where
  out : p
set_option maxHeartbeats 8000000 in
theorem gives_hex {x : PySem.Str} {t u : Tok} {a b : Nat} (ha : a < 22) (hb : b < 22) (hx : x = ⟨#[HEX.cps.getD a 0, HEX.cps.getD b 0]⟩) : Gives (Builtin.«int.__new__» ⟨[.type "int", .str x t, .int 16 u], []⟩) (.int (16 * hv a + hv b)) :=
  .of_wp fun M A E s Q h => by
    obtain ⟨hp, g, d, tk, os⟩ := s
    have f1 := F.conv_sub_int
    have f2 := F.madeHere_int
    have f6 : typeOf (.str x t) = pure (.type "str") := rfl
    have hall : (x.cps.all (· < 128)) = true := by subst hx; exact two_all (pair_fact a ha).1 (pair_fact b hb).1
    have hl : x.cps.toList = [HEX.cps.getD a 0, HEX.cps.getD b 0] := by subst hx; rfl
    have ht : ([HEX.cps.getD a 0, HEX.cps.getD b 0] : List Nat).takeWhile (· != 0) = [HEX.cps.getD a 0, HEX.cps.getD b 0] := two_take (pair_fact a ha).2 (pair_fact b hb).2
    have hr := numOf_val (read_pairs a ha b hb)
    have hk := Kept.mk (And.intro hall (And.intro hl (And.intro ht hr)))
    clear hall hl ht hr hx
    repeat (any_goals (first
      | assumption
      | ((with_reducible show wpAny _ _ ((int_private% "intFromText") _ _ _) _ _ _); refine wp_hex2 hk.out.1 hk.out.2.1 hk.out.2.2.1 hk.out.2.2.2 rfl ?_)
      | wp_step))
    all_goals first | exact ⟨_, rfl, h⟩ | skip
theorem args_init_3 (a b c : Value) : argsOk "object.__init__" ⟨[a, b, c], []⟩ := by
  unfold argsOk; rw [signature?_of (id := "object.__init__") (n := ['_', '_', 't', 'i', 'n', 'i', '_', '_']) (o := ['t', 'c', 'e', 'j', 'b', 'o']) (by kernel_rfl) F.owner_object]; kernel_rfl
section
variable {prog : Program} {w : World} {A : Around} {E : Value → Shared → Prop} {s : Shared} {Q : Value → Shared → Prop} {x : PySem.Str} {t u : Tok} {a b : Nat}
theorem int_hex (ha : a < 22) (hb : b < 22) (hx : x = ⟨#[HEX.cps.getD a 0, HEX.cps.getD b 0]⟩) (h : ∀ t' k, Q (.int (16 * hv a + hv b) t') { s with toks := k }) : wpAny (model prog w) A (call (.type "int") [.str x t, .int 16 u]) Q E s :=
  callType_new F.called_int F.newNe_int (by kernel_rfl) (by kernel_rfl) (fun obj => args_init_3 obj _ _) F.entry_int_new (gives_hex ha hb hx).meets (show (Made.int (16 * hv a + hv b)).post _ s from ⟨rfl, h _ _⟩)
end
theorem sig_fact : ∀ k : Nat, k < 26 → 0 ≤ Txt.find HEX ⟨#[SIG.cps.getD k 0]⟩ → k < 22 ∧ SIG.cps.getD k 0 = HEX.cps.getD k 0 ∧ hxd ⟨#[SIG.cps.getD k 0]⟩ = hv k := by decide +kernel
theorem sig_item : ∀ k : Nat, k < 26 → (Txt.item SIG (k : Int)).cps.toList = [SIG.cps.getD k 0] := by decide +kernel
theorem join_cps : ∀ l : List PySem.Str, (Txt.join "" l).cps.toList = (l.map (·.cps.toList)).flatten := by
  intro l
  unfold Txt.join Builtin.Str.glued
  have e : ("" : PySem.Str).cps = #[] := by decide +kernel
  rw [e]
  have f : ∀ (r : List PySem.Str) (acc : Array Nat), (r.foldl (fun acc p => acc ++ #[] ++ p.cps) acc).toList = acc.toList ++ (r.map (·.cps.toList)).flatten := by
    intro r
    induction r with
    | nil => intro acc; simp
    | cons p r ih => intro acc; rw [List.foldl_cons, ih]; simp
  cases l with
  | nil => rfl
  | cons p r =>
    show ((r.foldl (fun acc p => acc ++ #[] ++ p.cps) p.cps)).toList = _
    rw [f]; simp
theorem oth_sig {x : PySem.Str} (h : OthOf x) : (∀ c ∈ x.cps.toList, ∃ k : Nat, k < 26 ∧ c = SIG.cps.getD k 0) ∧ 22 ≤ x.length ∧ x.length ≤ 26 := by
  obtain ⟨l, rfl, hl, h1, h2⟩ := h
  have len : (Txt.join "" l).length = l.length := by
    show (Txt.join "" l).cps.size = _
    rw [← Array.length_toList, join_cps, List.length_flatten, List.map_map]
    have : (l.map (List.length ∘ fun y => y.cps.toList)) = l.map (·.length) := by
      refine List.map_congr_left fun y _ => ?_
      exact Array.length_toList
    rw [this, sum_one l hl]
  refine ⟨fun c hc => ?_, by omega, by omega⟩
  rw [join_cps] at hc
  obtain ⟨cs, hcs, hc⟩ := List.mem_flatten.mp hc
  obtain ⟨y, hy, rfl⟩ := List.mem_map.mp hcs
  obtain ⟨k, hk, rfl⟩ := hl y hy
  rw [sig_item k hk] at hc
  exact ⟨k, hk, List.mem_singleton.mp hc⟩
theorem sig_lt : ∀ k : Nat, k < 26 → SIG.cps.getD k 0 < 16 ^ 8 := by decide +kernel
theorem oth_small {x : PySem.Str} (h : OthOf x) : ∀ c ∈ x.cps.toList, c < 16 ^ 8 := fun c hc => by
  obtain ⟨k, hk, rfl⟩ := (oth_sig h).1 c hc
  exact sig_lt k hk
theorem getD_mem {a : Array Nat} {k : Nat} (h : k < a.size) : a.getD k 0 ∈ a.toList := by
  simp [Array.getD, h]
theorem sig_at {x : PySem.Str} (h : OthOf x) {k : Nat} (hk : k < x.length) (ha : hexAt x (k : Int)) : ∃ d : Nat, d < 22 ∧ x.cps.getD k 0 = HEX.cps.getD d 0 ∧ hxd (Txt.item x (k : Int)) = hv d := by
  obtain ⟨d, hd, e⟩ := (oth_sig h).1 (x.cps.getD k 0) (getD_mem hk)
  have ha := ha.1
  rw [at_item hk, e] at ha
  obtain ⟨f1, f2, f3⟩ := sig_fact d hd ha
  exact ⟨d, f1, by rw [e, f2], by rw [at_item hk, e, f3]⟩
theorem slice_two {x : PySem.Str} {j : Nat} (h : 2 * j + 2 ≤ x.length) : Txt.slice x (some (2 * (0 + (j : Int)))) (some (2 * (0 + (j : Int)) + 2)) = ⟨#[x.cps.getD (2 * j) 0, x.cps.getD (2 * j + 1) 0]⟩ := by
  have e := eq_of_beq (slice_closesL (x := x) (i := 2 * (0 + (j : Int))) (j := 2 * (0 + (j : Int)) + 2) (by omega) (by omega) (by omega))
  rw [e]
  have a : (2 * (0 + (j : Int))).toNat = 2 * j := by omega
  have b : (2 * (0 + (j : Int)) + 2 - 2 * (0 + (j : Int))).toNat = 2 := by omega
  rw [a, b]
  have hs : 2 * j + 1 < x.cps.toList.length := by rw [Array.length_toList]; show 2 * j + 1 < x.length; omega
  have d : (x.cps.toList.drop (2 * j)).take 2 = [x.cps.toList[2 * j], x.cps.toList[2 * j + 1]] := by
    rw [List.drop_eq_getElem_cons (by omega), List.drop_eq_getElem_cons (by omega)]; rfl
  rw [d]
  have g : ∀ k, (hk : k < x.cps.toList.length) → x.cps.toList[k] = x.cps.getD k 0 := fun k hk => by
    have : k < x.cps.size := by rwa [Array.length_toList] at hk
    simp [Array.getD, this]
  rw [g _ (by omega), g _ hs]
section
variable {prog : Program} {w : World} {A : Around} {E : Value → Shared → Prop} {s : Shared} {Q : Value → Shared → Prop} {x : PySem.Str} {t u : Tok} {j : Nat}
theorem int_two (h : OthOf x) (hl : x.length = 24) (ok : hexOk x 12) (hj : j < 12) (k : ∀ t' k, Q (.int (16 * hxd (Txt.item x (0 + (j : Int) * 2)) + hxd (Txt.item x (0 + (j : Int) * 2 + 1))) t') { s with toks := k }) :
    wpAny (model prog w) A (call (.type "int") [.str (Txt.slice x (some (2 * (0 + (j : Int)))) (some (2 * (0 + (j : Int)) + 2))) t, .int 16 u]) Q E s := by
  have z0 : (0 + (j : Int) * 2) = ((2 * j : Nat) : Int) := by omega
  have z1 : (0 + (j : Int) * 2 + 1) = ((2 * j + 1 : Nat) : Int) := by omega
  have o := ok j hj
  rw [z1, z0] at o
  obtain ⟨a, ha, a1, a2⟩ := sig_at h (by omega) o.1
  obtain ⟨b, hb, b1, b2⟩ := sig_at h (by omega) o.2
  refine int_hex ha hb (by rw [slice_two (by omega), a1, b1]) fun t' k' => ?_
  have := k t' k'
  rw [z1, z0, a2, b2] at this
  exact this
end
theorem int_push {x : PySem.Str} {i : Nat} {ys : List Value} {t : Tok} (h : IntsAre ys (hexes x i)) : IntsAre (ys ++ [.int (16 * hxd (Txt.item x (0 + (i : Int) * 2)) + hxd (Txt.item x (0 + (i : Int) * 2 + 1))) t]) (hexes x (i + 1)) := by
  rw [hexes_succ]
  exact h.append (.cons _ _ .nil)
theorem hexes_le (x : PySem.Str) : (hexes x 12).length ≤ 16777216 := by rw [hexes, List.length_map, List.length_range]; decide
end
end Mine
namespace Mine
section
open PySem PySem.W PySem.Calls PyProof.Rows PyProof.Rows.LCg
theorem fr_but2 {h₀ h h' : Heap} {L : Addr} {m : Str → Option Value} {wr : List Addr} (F : Fr h₀ L h m) (hk : ∀ b o, b ∉ wr → h.get? b = some o → h'.get? b = some o) (hL : L ∉ wr) (hI : ∀ b ∈ wr, h₀.get? b = none) : Fr h₀ L h' m :=
  ⟨F.ns.at' fun o e => hk L o hL e, fun b o e => hk b o (fun hm => by rw [hI b hm] at e; cases e) (F.keep b o e), F.above⟩
theorem news_but2 {h₀ h h' : Heap} {L : Addr} {news : List (Addr × Obj)} {wr : List Addr} (N : News h₀ L h news) (hk : ∀ b o, b ∉ wr → h.get? b = some o → h'.get? b = some o) (off : ∀ p ∈ news, p.1 ∉ wr) : News h₀ L h' news :=
  fun p hp => ⟨hk _ _ (off p hp) (N p hp).1, (N p hp).2⟩
section
variable {prog : Program} {w : World} {A : Around} {E : Value → Shared → Prop} {s : Shared} {h₀ : Heap} {L : Addr} {m : Str → Option Value} {env : Env}
theorem block_E {elt iter : PySem.Expr} {x x₂ : Str} {px px₂ tp : Pos} {tk} {scope : Scope} {cl : List (Str × Addr)} {pos : Pos} {s₂ : Shared} {e it : Addr} {n : Nat} {Pt : Nat → Array Value → Prop} {St : Nat → Heap → Prop} {Mid : Nat → Addr → Heap → Prop}
    {news : List (Addr × Obj)} {J : Nat → List Value → Prop} {RR : Value → Addr → Result → Shared → Prop}
    (W : WalksU prog w A e [e, it] [e, it] n Pt St Mid) (hPt : ∀ i vals, Pt i vals → ∃ v₁ v₂, vals = #[v₁, v₂]) (hsz : n ≤ sizeLine) (hIo : ∀ i h, St i h → (∃ o, h.get? e = some o) ∧ ∃ o, h.get? it = some o) (hei : e ≠ it)
    (hcell : ∀ y ∈ scope.names, y.2 ≠ .cell) (hkind : scope.kind = .function) (hx : scope.names.lookup x = some .local) (hx₂ : scope.names.lookup x₂ = some .local) (hxx : x ≠ x₂) (hh : A.handled = none) (hst : St 0 s₂.heap)
    (F : Fr h₀ L s₂.heap m) (N : News h₀ L s₂.heap news) (hIL : L ∉ [e, it]) (hI₀ : ∀ b ∈ [e, it], h₀.get? b = none) (off : ∀ p ∈ news, p.1 ∉ [e, it]) (j0 : J 0 [])
    (turn : ∀ i v₁ v₂ oe oi C oC D ys m₂ h tk (E' : Value → Shared → Prop), i < n → J i ys → Pt i #[v₁, v₂] → NsObj oC m₂ → m₂ x = some v₁ → m₂ x₂ = some v₂ → Fr h₀ L h m → News h₀ L h ((e, oe) :: (it, oi) :: (C, oC) :: (D, lst ys) :: news) →
      ((@Ne Nat e C) ∧ (@Ne Nat e D) ∧ (@Ne Nat it C) ∧ (@Ne Nat it D) ∧ (@Ne Nat C D)) →
      wpAny (model prog w) A (eval elt (compEnvC scope cl C env)) (fun y s' => s' = { s₂ with heap := s'.heap, toks := s'.toks } ∧ Fr h₀ L s'.heap m ∧ News h₀ L s'.heap ((e, oe) :: (it, oi) :: (C, oC) :: (D, lst ys) :: news) ∧ J (i + 1) (ys ++ [y])) E' { s₂ with heap := h, toks := tk })
    (hRR : ∀ D C h tk m' ys, Fr h₀ L h m → News h₀ L h ((D, lst ys) :: news) → Off1 D news → h.Ns C m' → h₀.get? C = none → h₀.get? D = none → C ≠ L → D ≠ L → C ≠ D → (∀ p ∈ news, p.1 ≠ C) → J n ys → RR (.ref D) C (.ok .next) { s₂ with heap := h, toks := tk }) :
    wpAny (model prog w) A (newList []) (fun acc s₃ => wpAny (model prog w) A (newFunctionEnv scope env.globals cl [] env.qual none .none (some env)) (fun cenv s₄ =>
      codeAny (model prog w) A (.compStart (.ListComp elt [⟨.Tuple [.Name x px, .Name x₂ px₂] tk tp, iter, [], 0⟩] scope pos) 0 (.ref e) acc { cenv with scope := relabel scope env }) (RR acc cenv.locals) s₄) E s₃) E s₂ := by
  refine wpAny_newObj_type (wpAny_newFunctionEnv hcell (by intro y hy; simp at hy) (fun h₁ hns₁ hsb₁ => ?_) hkind)
  dsimp only at hns₁ hsb₁ ⊢
  generalize hH2 : s₂.heap.push { cls := .type "list", dict := none, data := .seq ([] : List Value).toArray } = H2 at hns₁ hsb₁ ⊢
  have hC : H2.objs.size = s₂.heap.objs.size + 1 := by rw [← hH2, Heap.size_push]
  have hDC : s₂.heap.objs.size ≠ H2.objs.size := by rw [hC]; exact Nat.ne_of_lt (Nat.lt_succ_self _)
  have below : ∀ b, b < s₂.heap.objs.size → b ≠ H2.objs.size ∧ b ≠ s₂.heap.objs.size := fun b hb => ⟨by rw [hC]; exact Nat.ne_of_lt (Nat.lt_succ_of_lt hb), Nat.ne_of_lt hb⟩
  obtain ⟨⟨oe₀, he₀⟩, ⟨oi₀, hi₀⟩⟩ := hIo 0 _ hst
  have elt' := Heap.lt_size he₀
  have ilt' := Heap.lt_size hi₀
  have old : ∀ b o, s₂.heap.get? b = some o → h₁.get? b = some o := fun b o q => hsb₁.extBut b o (below b (Heap.lt_size q)).1 (Heap.get?_push_of_some _ (hH2 ▸ Heap.get?_push_of_some _ q))
  have hacc : h₁.get? s₂.heap.objs.size = some (lst []) := hsb₁.extBut _ _ hDC (Heap.get?_push_of_some _ (hH2 ▸ Heap.get?_push_size _ rfl))
  have hst₁ : St 0 h₁ := W.frame _ _ _ hst fun b _ o q => old b o q
  have fresh₀ : ∀ a, s₂.heap.objs.size ≤ a → h₀.get? a = none := fun a ha => by
    cases q : h₀.get? a with
    | none => rfl
    | some o' => exact absurd (Heap.lt_size (F.keep a o' q)) (Nat.not_lt.mpr ha)
  have hD₀ : h₀.get? s₂.heap.objs.size = none := fresh₀ _ (Nat.le_refl _)
  have hC₀ : h₀.get? H2.objs.size = none := fresh₀ _ (by rw [hC]; exact Nat.le_succ _)
  have hDL : s₂.heap.objs.size ≠ L := Ne.symm (below L F.ns.lt).2
  have hCL : H2.objs.size ≠ L := Ne.symm (below L F.ns.lt).1
  have e1 := below e elt'
  have i1 := below it ilt'
  have Cw : H2.objs.size ∉ [e, it] := fun hm => by
    rcases List.mem_cons.mp hm with q | hm
    · exact e1.1 q.symm
    · exact i1.1 (List.mem_singleton.mp hm).symm
  have Dw : s₂.heap.objs.size ∉ [e, it] := fun hm => by
    rcases List.mem_cons.mp hm with q | hm
    · exact e1.2 q.symm
    · exact i1.2 (List.mem_singleton.mp hm).symm
  have nC : ∀ p ∈ news, p.1 ≠ H2.objs.size := fun p hp => (below _ (Heap.lt_size (N p hp).1)).1
  have nD : ∀ p ∈ news, p.1 ≠ s₂.heap.objs.size := fun p hp => (below _ (Heap.lt_size (N p hp).1)).2
  have o1D : Off1 s₂.heap.objs.size news := (Off3.of (I := H2.objs.size) (C := s₂.heap.objs.size) (D := s₂.heap.objs.size) fun p hp => ⟨nC p hp, nD p hp, nD p hp⟩).one
  have loop : ∀ s₃ : Shared, s₃ = { s₂ with heap := h₁, toks := s₂.toks + ([] : List (Str × Value)).length } →
      codeAny (model prog w) A (.compLoop (.ListComp elt [⟨.Tuple [.Name x px, .Name x₂ px₂] tk tp, iter, [], 0⟩] scope pos) 0 (.ref e) (.ref s₂.heap.objs.size) (compEnvC scope cl H2.objs.size env))
        (RR (.ref s₂.heap.objs.size) H2.objs.size) s₃ := by
    rintro s₃ rfl
    refine LCp.codeAny_compLoop_pair
      (fun k s' => ∃ h' tk i ys m', s' = { s₂ with heap := h', toks := tk } ∧ i ≤ n ∧ k = n + 1 - i ∧ ys.length = i ∧ St i h' ∧ Fr h₀ L h' m ∧ h'.Ns H2.objs.size m' ∧ News h₀ L h' ((s₂.heap.objs.size, lst ys) :: news) ∧ J i ys) ?_ (n + 1)
      ⟨h₁, _, 0, [], _, rfl, Nat.zero_le _, rfl, rfl, hst₁, F.keeps old, hns₁, fun p hp => ?_, j0⟩
    · rintro k s' ⟨h', tk, i, ys, m', rfl, hi, rfl, hyl, hst', F', hn', N', hJ⟩
      have offN : ∀ p ∈ (s₂.heap.objs.size, lst ys) :: news, p.1 ∉ [e, it] := fun p hp => by
        rcases List.mem_cons.mp hp with rfl | hp
        · exact Dw
        · exact off p hp
      by_cases hlt : i < n
      · refine W.item i _ _ _ hlt hst' fun T vals h₂ tk₂ hPv hT hMid hk₂ => ?_
        obtain ⟨v₁, v₂, rfl⟩ := hPt _ _ hPv
        refine W.go _ _ _ i T _ _ _ hMid fun h₃ hst₃ hk₃ => ?_
        have hk : ∀ b o, b ∉ [e, it] → h'.get? b = some o → h₃.get? b = some o := fun b o hb q => hk₃ b o hb (hk₂ b o hb q)
        have hT₃ : h₃.IsTuple T #[v₁, v₂] := hT.at fun o q => hk₃ T o (W.apart i T _ hMid) q
        have ht : IsTup h₃ T #[v₁, v₂] := hT₃
        refine assign_Tuple_tuple hh ht rfl rfl fun h₅ he => ?_
        have he' : ∀ b o, h₃.get? b = some o → h₅.get? b = some o := fun b o q => he b o (Nat.ne_of_lt (Heap.lt_size q)) q
        refine assignInOrder_cons (wpAny_assign_Name (wpAny_storeName_local (lookup_relabel_local hx) ((hn'.at' fun o q => hk _ o Cw q).at' fun o q => he' _ o q) (fun h₆ hn₆ hs₆ => ?_) (by simp [compEnvC, relabel, hkind])))
        refine assignInOrder_cons (wpAny_assign_Name (wpAny_storeName_local (lookup_relabel_local hx₂) hn₆ (fun h₄ hn₄ hs₄ => ?_) (by simp [compEnvC, relabel, hkind])))
        refine assignInOrder_nil ?_
        have old3 : ∀ b o, b ≠ H2.objs.size → h₃.get? b = some o → h₄.get? b = some o := fun b o hb q => hs₄.extBut b o hb (hs₆.extBut b o hb (he' b o q))
        have wne : ∀ b ∈ [e, it], b ≠ H2.objs.size := fun b hb q => Cw (q ▸ hb)
        have hst₄ : St (i + 1) h₄ := W.frame _ _ _ hst₃ fun b hb o q => old3 b o (wne b hb) q
        obtain ⟨⟨oe, hoe⟩, ⟨oi, hoi⟩⟩ := hIo _ _ hst₄
        obtain ⟨oC, heC, hoC⟩ := ns_obj hn₄
        have F₄ : Fr h₀ L h₄ m := (((fr_but2 F' hk hIL hI₀).keeps he').change hs₆ hCL hC₀).change hs₄ hCL hC₀
        have N₃ := news_but2 N' hk offN
        have N₄ : News h₀ L h₄ ((e, oe) :: (it, oi) :: (H2.objs.size, oC) :: (s₂.heap.objs.size, lst ys) :: news) := fun p hp => by
          rcases List.mem_cons.mp hp with rfl | hp
          · exact ⟨hoe, fun q => hIL (by rw [← q]; exact List.mem_cons_self ..), hI₀ _ (List.mem_cons_self ..)⟩
          · rcases List.mem_cons.mp hp with rfl | hp
            · exact ⟨hoi, fun q => hIL (by rw [← q]; exact List.mem_cons_of_mem _ (List.mem_cons_self ..)), hI₀ _ (List.mem_cons_of_mem _ (List.mem_cons_self ..))⟩
            · rcases List.mem_cons.mp hp with rfl | hp
              · exact ⟨heC, hCL, hC₀⟩
              · have z := N₃ p hp
                refine ⟨old3 _ _ ?_ z.1, z.2⟩
                rcases List.mem_cons.mp hp with rfl | hp
                · exact hDC
                · exact nC p hp
        refine wpAny_mono (turn i v₁ v₂ oe oi H2.objs.size oC s₂.heap.objs.size ys _ h₄ _ _ hlt hJ hPv hoC (by simp [hxx]) (by simp) F₄ N₄ ⟨e1.1, e1.2, i1.1, i1.2, Ne.symm hDC⟩) (fun y s₅ h₅ => ?_) fun _ _ q => q
        obtain ⟨hs5, F₅, N₅, hJ₅⟩ := h₅
        obtain ⟨h5, g5, d5, tk5, os5⟩ := s₅
        cases hs5
        have zE := (N₅ (e, oe) List.mem_cons_self).1
        have zI := (N₅ (it, oi) (List.mem_cons_of_mem _ List.mem_cons_self)).1
        have zC := (N₅ (H2.objs.size, oC) (List.mem_cons_of_mem _ (List.mem_cons_of_mem _ List.mem_cons_self))).1
        have zD := (N₅ (s₂.heap.objs.size, lst ys) (List.mem_cons_of_mem _ (List.mem_cons_of_mem _ (List.mem_cons_of_mem _ List.mem_cons_self)))).1
        have N₅' : News h₀ L h5 news := fun p hp => N₅ p (List.mem_cons_of_mem _ (List.mem_cons_of_mem _ (List.mem_cons_of_mem _ (List.mem_cons_of_mem _ hp))))
        have hst₅ : St (i + 1) h5 := W.frame _ _ _ hst₄ fun b hb o q => by
          rcases List.mem_cons.mp hb with rfl | hb
          · rw [hoe] at q; cases q; exact zE
          · obtain rfl := List.mem_singleton.mp hb
            rw [hoi] at q; cases q; exact zI
        refine append_at (hsz := by show ys.toArray.size ≤ sizeLine; rw [List.size_toArray, hyl]; exact Nat.le_trans hi hsz) zD fun h6 hs₆' hD₆ => ?_
        refine ⟨n + 1 - (i + 1), by omega, h6, tk5, i + 1, ys ++ [y], _, rfl, hlt, rfl, by rw [List.length_append, List.length_singleton, hyl], W.frame _ _ _ hst₅ fun b hb o q => hs₆'.extBut b o (fun z => Dw (z ▸ hb)) q, F₅.change hs₆' hDL hD₀,
          (hoC.ns zC).sameBut hs₆' (Ne.symm hDC), fun p hp => ?_, hJ₅⟩
        rcases List.mem_cons.mp hp with rfl | hp
        · exact ⟨hD₆.trans (congrArg some (lst_snoc ys y)), hDL, hD₀⟩
        · exact ⟨hs₆'.extBut _ _ (nD p hp) (N₅' p hp).1, (N₅' p hp).2⟩
      · obtain rfl : i = n := Nat.le_antisymm hi (Nat.not_lt.mp hlt)
        refine W.done _ _ _ hst' fun h₂ tk₂ hk₂ => ?_
        exact hRR _ _ h₂ tk₂ _ ys (fr_but2 F' hk₂ hIL hI₀) (news_but2 N' hk₂ offN) o1D (hn'.at' fun o q => hk₂ _ o Cw q) hC₀ hD₀ hCL hDL (Ne.symm hDC) nC hJ
    · rcases List.mem_cons.mp hp with rfl | hp
      · exact ⟨hacc, hDL, hD₀⟩
      · exact ⟨old _ _ (N p hp).1, (N p hp).2⟩
  exact codeAny_compStart_list (loop _ rfl) (W.self 0 _ _ _ hst₁ (loop _ rfl))
end
end
end Mine
namespace Mine
section
open PySem PySem.W PySem.Calls PyProof.Rows PyProof.Rows.LCg
def ECond (h₀ : Heap) (L : Addr) (m : Str → Option Value) (news : List (Addr × Obj)) (X : Str) (t : Tok) (e : Addr) (h' : Heap) : Prop :=
  Fr h₀ L h' m ∧ News h₀ L h' news ∧ ∃ it, IsEnum h' e it 0 .none ∧ h'.IsStrIter it (strIterType X) X t 0 ∧ e ≠ it ∧ L ∉ [e, it] ∧ (∀ b ∈ [e, it], h₀.get? b = none) ∧ ∀ p ∈ news, p.1 ∉ [e, it]
section
variable {prog : Program} {w : World} {A : Around} {E : Value → Shared → Prop} {s : Shared} {h₀ : Heap} {L : Addr} {m : Str → Option Value} {env : Env} {news : List (Addr × Obj)}
theorem call_enumE {X : Str} {t : Tok} {Q : Value → Shared → Prop} (F : Fr h₀ L s.heap m) (N : News h₀ L s.heap news) (h : ∀ e h', ECond h₀ L m news X t e h' → Q (.ref e) { s with heap := h' }) :
    wpAny (model prog w) A (call (.type "enumerate") [.str X t]) Q E s := by
  have hLs : L < s.heap.objs.size := F.ns.lt
  refine call_enumerate_str fun h' he hit hsz hk => h _ _ ⟨⟨F.ns.keeps hk, fun b o e => hk b o (F.keep b o e), F.above⟩, fun p hp => ⟨hk _ _ (N p hp).1, (N p hp).2⟩, _, he, hit, Nat.succ_ne_self _, ?_, ?_, ?_⟩
  · intro hm
    rcases List.mem_cons.mp hm with q | hm
    · exact absurd q (Nat.ne_of_lt (Nat.lt_succ_of_lt hLs))
    · exact absurd (List.mem_singleton.mp hm) (Nat.ne_of_lt hLs)
  · intro b hb
    rcases List.mem_cons.mp hb with rfl | hb
    · exact Heap.get?_none_of_le (Nat.le_trans F.above (Nat.le_of_lt (Nat.lt_succ_of_lt hLs)))
    · rw [List.mem_singleton.mp hb]; exact Heap.get?_none_of_le (Nat.le_trans F.above (Nat.le_of_lt hLs))
  · intro p hp hm
    have hq : p.1 < s.heap.objs.size := Heap.lt_size (N p hp).1
    rcases List.mem_cons.mp hm with q | hm
    · exact absurd q (Nat.ne_of_lt (Nat.lt_succ_of_lt hq))
    · exact absurd (List.mem_singleton.mp hm) (Nat.ne_of_lt hq)
theorem comp_enum {elt iter : PySem.Expr} {x x₂ : Str} {px px₂ tp : Pos} {tk} {scope : Scope} {cl : List (Str × Addr)} {pos : Pos} {Q : Value → Shared → Prop}
    (_F₀ : Fr h₀ L s.heap m) (hclos : closureFor scope env = pure cl) (hcell : ∀ y ∈ scope.names, y.2 ≠ .cell) (hkind : scope.kind = .function)
    (hnames : ∀ y ∈ scope.names, y.2 = .local → scope.names.lookup y.1 = some .local) (hx : scope.names.lookup x = some .local) (hx₂ : scope.names.lookup x₂ = some .local) (hxx : x ≠ x₂) {J : Nat → List Value → Prop} {nj : Nat} (_ : JIs nj J)
    (h : wpAny (model prog w) A (eval iter env) (fun xv s₁ => ∃ e X t news, xv = .ref e ∧ A.handled = none ∧ ECond h₀ L m news X t e s₁.heap ∧ X.cps.size ≤ sizeLine ∧ J 0 [] ∧ ∀ g,
      (∀ i c t₁ t₂ e it oe oi C oC D ys m₂ h tk (E' : Value → Shared → Prop), i < X.length → J i ys → X.cps[i]? = some c → NsObj oC m₂ → m₂ x = some (.int (i : Int) t₁) → m₂ x₂ = some (.str ⟨#[c]⟩ t₂) → Fr h₀ L h m →
        News h₀ L h ((e, oe) :: (it, oi) :: (C, oC) :: (D, lst ys) :: news) → ((@Ne Nat e C) ∧ (@Ne Nat e D) ∧ (@Ne Nat it C) ∧ (@Ne Nat it D) ∧ (@Ne Nat C D)) →
        wpAny (model prog w) A (eval elt (compEnvC scope cl C env)) (fun y s' => s' = { s₁ with heap := s'.heap, toks := s'.toks } ∧ Fr h₀ L s'.heap m ∧ News h₀ L s'.heap ((e, oe) :: (it, oi) :: (C, oC) :: (D, lst ys) :: news) ∧ J (i + 1) (ys ++ [y])) E' { s₁ with heap := h, toks := tk }) ∧
      (∀ ys, J X.length ys → FinE h₀ L m { s₁ with heap := g } Q ys news)) E s)
    (hs : ∀ x, foldedSetIterable iter env x = pure x := by intro _; rfl) :
    wpAny (model prog w) A (eval (.ListComp elt [⟨.Tuple [.Name x px, .Name x₂ px₂] tk tp, iter, [], 0⟩] scope pos) env) Q E s := by
  rw [eval_ListComp]
  refine wpAny_comprehension_free (use := none) rfl hs hclos hkind hnames (wpAny_mono h (fun xv s₁ h₁ => ?_) fun _ _ e => e)
  obtain ⟨e, X, t, news, rfl, hh, ⟨F, N, it, he, hit, hei, hIL, hI₀, off⟩, hsz, j0, R⟩ := h₁
  refine wpAny_pyIter_enum he ?_
  obtain ⟨St, Mid, W, hIo, hst⟩ : ∃ (St : Nat → Heap → Prop) (Mid : Nat → Addr → Heap → Prop), WalksU prog w A e [e, it] [e, it] X.cps.size (fun i vals => ∃ t x, (∃ c u, X.cps[i]? = some c ∧ x = Value.str ⟨#[c]⟩ u) ∧ vals = #[.int (i : Int) t, x]) St Mid ∧
      (∀ i h, St i h → (∃ o, h.get? e = some o) ∧ ∃ o, h.get? it = some o) ∧ St 0 s₁.heap := by
    have side : e ∉ [it] := fun hm => hei (List.mem_singleton.mp hm)
    cases ha : X.cps.all (· < 128)
    · have hit' : s₁.heap.IsStrIter it "str_iterator" X t 0 := by simpa [strIterType, ha] using hit
      exact ⟨_, _, (WalksT.enumerateD (Draws.strWide (prog := prog) (w := w) (A := A.in1) hh it X t) e hei side (by simp)).toU, fun i h st => ⟨let ⟨⟨_, z⟩, _⟩ := st; ⟨_, z⟩, let ⟨_, ⟨o, z, _⟩⟩ := st; ⟨o, z⟩⟩, ⟨⟨_, by simpa using he⟩, hit'⟩⟩
    · have hit' : s₁.heap.IsStrIter it "str_ascii_iterator" X t 0 := by simpa [strIterType, ha] using hit
      exact ⟨_, _, (WalksT.enumerateD (Draws.strAscii (prog := prog) (w := w) (A := A.in1) hh it X t) e hei side (by simp)).toU, fun i h st => ⟨let ⟨⟨_, z⟩, _⟩ := st; ⟨_, z⟩, let ⟨_, ⟨o, z, _⟩⟩ := st; ⟨o, z⟩⟩, ⟨⟨_, by simpa using he⟩, hit'⟩⟩
  refine block_E (J := J) W (fun i vals ⟨_, _, _, e⟩ => ⟨_, _, e⟩) hsz hIo hei hcell hkind hx hx₂ hxx hh hst F N hIL hI₀ off j0 ?_ ?_
  · intro i v₁ v₂ oe oi C oC D ys m₂ h tk E' hi hj hP hC a b F' N' ne
    obtain ⟨t₁, y, ⟨c, u, hc, rfl⟩, e'⟩ := hP
    obtain ⟨rfl, rfl⟩ : v₁ = .int (i : Int) t₁ ∧ v₂ = Value.str ⟨#[c]⟩ u := by simpa using congrArg Array.toList e'
    exact (R s₁.heap).1 i c t₁ u e it oe oi C oC D ys m₂ h tk E' hi hj hc hC a b F' N' ne
  · intro D C h tk m' ys F' N' o1 hn hC₀ hD₀ hCL hDL hCD offC hj
    refine ⟨m', hn, fun h'' hs'' => (R s₁.heap).2 ys hj D h'' tk (F'.change hs'' hCL hC₀) (fun p hp => ?_) o1⟩
    refine ⟨hs''.extBut _ _ ?_ (N' p hp).1, (N' p hp).2⟩
    rcases List.mem_cons.mp hp with rfl | hp
    · exact Ne.symm hCD
    · exact offC p hp
end
end
end Mine
namespace Mine
section
open PySem PySem.W PySem.Calls PyProof.Rows
abbrev LOW : Str := "0123456789abcdef"
def LowHex (x : Str) : Prop := ∀ c ∈ x.cps.toList, ∃ d : Nat, d < 16 ∧ c = LOW.cps.getD d 0
def UpOf (a y : Str) : Prop := y = a ∨ y = Txt.upper a
theorem low_fact : ∀ d : Nat, d < 16 → hxd ⟨#[LOW.cps.getD d 0]⟩ = d ∧ 0 ≤ Txt.find HEX ⟨#[LOW.cps.getD d 0]⟩ ∧ LOW.cps.getD d 0 < 16 ^ 8 := by decide +kernel
theorem up_fact : ∀ d : Nat, d < 16 → hxd (Txt.upper ⟨#[LOW.cps.getD d 0]⟩) = d ∧ 0 ≤ Txt.find HEX (Txt.upper ⟨#[LOW.cps.getD d 0]⟩) ∧ (Txt.upper ⟨#[LOW.cps.getD d 0]⟩).length = 1 ∧ (Txt.upper ⟨#[LOW.cps.getD d 0]⟩).cps.toList.all (· < 16 ^ 8) = true := by decide +kernel
theorem low_at {x : Str} (h : LowHex x) {k : Nat} (hk : k < x.length) : ∃ d : Nat, d < 16 ∧ Txt.item x (k : Int) = ⟨#[LOW.cps.getD d 0]⟩ := by
  obtain ⟨d, hd, e⟩ := h (x.cps.getD k 0) (getD_mem hk)
  exact ⟨d, hd, by rw [at_item hk, e]⟩
theorem up_one {x y : Str} (h : LowHex x) {k : Nat} (hk : k < x.length) (u : UpOf (Txt.item x (k : Int)) y) : y.length = 1 ∧ hxd y = hxd (Txt.item x (k : Int)) ∧ 0 ≤ Txt.find HEX y ∧ ∀ c ∈ y.cps.toList, c < 16 ^ 8 := by
  obtain ⟨d, hd, e⟩ := low_at h hk
  obtain ⟨a1, a2, a3⟩ := low_fact d hd
  obtain ⟨b1, b2, b3, b4⟩ := up_fact d hd
  rw [e] at u ⊢
  rcases u with rfl | rfl
  · exact ⟨rfl, rfl, a2, fun c hc => by rw [List.mem_singleton.mp hc]; exact a3⟩
  · exact ⟨b3, by rw [b1, a1], b2, fun c hc => by simpa using List.all_eq_true.mp b4 c hc⟩
def GreatJ (x : Str) (i : Nat) (ys : List Value) : Prop := ∃ l, StrsAre ys l ∧ l.length = i ∧ ∀ k, (hk : k < l.length) → UpOf (Txt.item x (k : Int)) l[k]
theorem greatJ0 {x : Str} : GreatJ x 0 [] := ⟨[], .nil, rfl, fun k hk => absurd hk (Nat.not_lt_zero k)⟩
theorem greatJ_push {x y : Str} {i : Nat} {ys : List Value} {t : Tok} (h : GreatJ x i ys) (u : UpOf (Txt.item x (i : Int)) y) : GreatJ x (i + 1) (ys ++ [.str y t]) := by
  obtain ⟨l, h1, h2, h3⟩ := h
  refine ⟨l ++ [y], strs_snoc h1, by rw [List.length_append, h2]; rfl, fun k hk => ?_⟩
  rw [List.getElem_append]
  split
  · exact h3 k _
  · rename_i q
    rw [List.length_append, List.length_singleton] at hk
    have e : k = i := by omega
    subst e
    simpa [h2] using u
theorem item_c {x : Str} {i c : Nat} (h : x.cps[i]? = some c) : (⟨#[c]⟩ : Str) = Txt.item x (i : Int) := by
  have hi : i < x.cps.size := (Array.getElem?_eq_some_iff.mp h).1
  rw [at_item (show i < x.length from hi)]
  have : x.cps.getD i 0 = c := by simp [Array.getD, hi]; exact (Array.getElem?_eq_some_iff.mp h).2
  rw [this]
theorem great_low {x y : Str} {i c : Nat} (h : x.cps[i]? = some c) (e : y = ⟨#[c]⟩) : UpOf (Txt.item x (i : Int)) y := .inl (by rw [e, item_c h])
theorem great_up {x y : Str} {i c : Nat} (h : x.cps[i]? = some c) (e : y = Txt.upper ⟨#[c]⟩) : UpOf (Txt.item x (i : Int)) y := .inr (by rw [e, item_c h])
theorem sum_ones : ∀ l : List Str, (∀ k, (hk : k < l.length) → (l[k]).length = 1) → (l.map (·.length)).sum = l.length
  | [], _ => rfl
  | a :: r, h => by
    have h0 : a.length = 1 := h 0 (Nat.zero_lt_succ _)
    rw [List.map_cons, List.sum_cons, sum_ones r fun k hk => h (k + 1) (Nat.succ_lt_succ hk)]
    rw [h0, List.length_cons]; omega
theorem ones_cps : ∀ l : List Str, (∀ k, (hk : k < l.length) → (l[k]).length = 1) → ∀ k, (hk : k < l.length) → (l.map (·.cps.toList)).flatten[k]? = some ((l[k]).cps.getD 0 0)
  | [], _, k, hk => absurd hk (Nat.not_lt_zero k)
  | a :: r, h, k, hk => by
    have h0 : a.cps.size = 1 := h 0 (Nat.zero_lt_succ _)
    have ha : a.cps.toList = [a.cps.getD 0 0] := by
      obtain ⟨⟨la⟩⟩ := a
      match la, h0 with
      | [c], _ => rfl
    rw [List.map_cons, List.flatten_cons, ha]
    cases k with
    | zero => rfl
    | succ k =>
      have := ones_cps r (fun k hk => h (k + 1) (Nat.succ_lt_succ hk)) k (Nat.lt_of_succ_lt_succ hk)
      simpa using this
theorem one_str {y : Str} (h : y.length = 1) : (⟨#[y.cps.getD 0 0]⟩ : Str) = y := by
  obtain ⟨⟨l⟩⟩ := y
  match l, h with
  | [c], _ => rfl
theorem great_is {x : Str} {B : Array UInt8} {l : List Str} (hx : HexOf B x) (hl : LowHex x) (n : l.length = 24) (u : ∀ k, (hk : k < l.length) → UpOf (Txt.item x (k : Int)) l[k]) : HexOf B (Txt.join "" l) := by
  have xl := hx.len
  have ones : ∀ k, (hk : k < l.length) → (l[k]).length = 1 := fun k hk => (up_one hl (by omega) (u k hk)).1
  have len : (Txt.join "" l).length = 24 := by
    show (Txt.join "" l).cps.size = _
    rw [← Array.length_toList, join_cps, List.length_flatten, List.map_map]
    have : (l.map (List.length ∘ fun y => y.cps.toList)) = l.map (·.length) := List.map_congr_left fun y _ => Array.length_toList
    rw [this, sum_ones l ones, n]
  have at_k : ∀ k, (hk : k < l.length) → Txt.item (Txt.join "" l) (k : Int) = l[k] := fun k hk => by
    rw [at_item (by omega)]
    have c := ones_cps l ones k hk
    rw [← join_cps] at c
    have g : (Txt.join "" l).cps.getD k 0 = (l[k]).cps.getD 0 0 := by
      have hk' : k < (Txt.join "" l).cps.size := by show k < (Txt.join "" l).length; omega
      rw [Array.getElem?_toList] at c
      simp [Array.getD, hk'] at c ⊢
      exact c
    rw [g, one_str (ones k hk)]
  have hd : ∀ k : Nat, k < 24 → hexAt (Txt.join "" l) (k : Int) ∧ hxd (Txt.item (Txt.join "" l) (k : Int)) = hxd (Txt.item x (k : Int)) := fun k hk => by
    have hk' : k < l.length := by omega
    obtain ⟨a, b, c, _⟩ := up_one hl (by omega) (u k hk')
    refine ⟨hexAt_of ?_ ?_, ?_⟩
    · rw [at_k k hk']; exact c
    · rw [at_k k hk']; exact a
    · rw [at_k k hk']; exact b
  have z0 : ∀ j : Nat, (0 + (j : Int) * 2) = ((2 * j : Nat) : Int) := fun j => by omega
  have z1 : ∀ j : Nat, (0 + (j : Int) * 2 + 1) = ((2 * j + 1 : Nat) : Int) := fun j => by omega
  refine ⟨len, fun j hj => ?_, ?_, ?_⟩
  · rw [z1, z0]; exact ⟨(hd _ (by omega)).1, (hd _ (by omega)).1⟩
  · have e : hexes (Txt.join "" l) 12 = hexes x 12 := by
      refine List.map_congr_left fun j hj => ?_
      have hj := List.mem_range.mp hj
      rw [z1, z0, (hd _ (by omega)).2, (hd _ (by omega)).2]
    rw [e]; exact hx.is
  · intro c hc
    rw [join_cps] at hc
    obtain ⟨cs, hcs, hc⟩ := List.mem_flatten.mp hc
    obtain ⟨y, hy, rfl⟩ := List.mem_map.mp hcs
    obtain ⟨k, hk, rfl⟩ := List.mem_iff_getElem.mp hy
    exact (up_one hl (by omega) (u k hk)).2.2.2 c hc
theorem great_ok {x : Str} {l : List Str} (hl : LowHex x) (n : l.length = x.length) (u : ∀ k, (hk : k < l.length) → UpOf (Txt.item x (k : Int)) l[k]) (h : x.length = 24) : (l.map (·.length)).sum + l.length * ("" : Str).length ≤ 16777216 := by
  have e : ("" : Str).length = 0 := by decide
  rw [sum_ones l fun k hk => (up_one hl (by omega) (u k hk)).1, e]; omega
theorem le24 {x : Str} (h : x.length = 24) : x.cps.size ≤ sizeLine := by
  have : x.cps.size = 24 := h
  rw [this, sizeLine_eq]; decide
theorem one_le {c : Nat} : (⟨#[c]⟩ : Str).length ≤ 5592405 := show 1 ≤ 5592405 by decide
end
end Mine
namespace Mine
section
open PySem PySem.W PySem.Calls PyProof.Rows
theorem low_item : ∀ d : Nat, d < 16 → (Txt.item "0123456789abcdef" (d : Int)).cps.toList = [LOW.cps.getD d 0] := by decide +kernel
theorem fd16 : ∀ n : Nat, n < 256 → ((n : Int).fdiv 16) = ((n / 16 : Nat) : Int) ∧ ((n : Int).fmod 16) = ((n % 16 : Nat) : Int) ∧ n / 16 < 16 ∧ n % 16 < 16 := by
  intro n hn
  refine ⟨?_, ?_, by omega, by omega⟩
  · rw [Int.fdiv_eq_ediv_of_nonneg _ (by decide)]; rfl
  · rw [Int.fmod_eq_emod_of_nonneg _ (by decide)]; rfl
noncomputable def hx (B : Array UInt8) (k : Nat) : Nat := (B[k]?.getD 0).toNat
theorem hx_lt (B : Array UInt8) (k : Nat) : hx B k < 256 := (B[k]?.getD 0).toNat_lt
theorem hexl_cps (B : Array UInt8) (n : Nat) : ((hexl B n).map (·.cps.toList)) = (List.range n).map fun k => [LOW.cps.getD (hx B k / 16) 0, LOW.cps.getD (hx B k % 16) 0] := by
  unfold hexl
  rw [List.map_map]
  refine List.map_congr_left fun k _ => ?_
  obtain ⟨a, b, c, d⟩ := fd16 (hx B k) (hx_lt B k)
  show (Txt.item "0123456789abcdef" ((hx B k : Int).fdiv 16) ++ Txt.item "0123456789abcdef" ((hx B k : Int).fmod 16)).cps.toList = _
  rw [add_cps, a, b, low_item _ c, low_item _ d]; rfl
theorem pairs_at (f g : Nat → Nat) : ∀ (l : List Nat) (k : Nat) (hk : k < l.length), (l.map fun i => [f i, g i]).flatten[2 * k]? = some (f l[k]) ∧ (l.map fun i => [f i, g i]).flatten[2 * k + 1]? = some (g l[k])
  | [], k, hk => absurd hk (Nat.not_lt_zero k)
  | a :: r, 0, _ => ⟨rfl, rfl⟩
  | a :: r, k + 1, hk => by
    have h := pairs_at f g r k (Nat.lt_of_succ_lt_succ hk)
    have e0 : 2 * (k + 1) = 2 * k + 1 + 1 := by omega
    rw [e0]
    exact h
theorem text_len (B : Array UInt8) (h : B.size = 12) : (Txt.join "" (hexl B B.size)).length = 24 := by
  show (Txt.join "" (hexl B B.size)).cps.size = _
  rw [← Array.length_toList, join_cps, hexl_cps, List.length_flatten, List.map_map, h]; rfl
theorem text_at (B : Array UInt8) (h : B.size = 12) {k : Nat} (hk : k < 12) : Txt.item (Txt.join "" (hexl B B.size)) ((2 * k : Nat) : Int) = ⟨#[LOW.cps.getD (hx B k / 16) 0]⟩ ∧ Txt.item (Txt.join "" (hexl B B.size)) ((2 * k + 1 : Nat) : Int) = ⟨#[LOW.cps.getD (hx B k % 16) 0]⟩ := by
  have l := text_len B h
  have p := pairs_at (fun k => LOW.cps.getD (hx B k / 16) 0) (fun k => LOW.cps.getD (hx B k % 16) 0) (List.range B.size) k (by rw [List.length_range]; omega)
  rw [← hexl_cps, ← join_cps, List.getElem_range] at p
  have g : ∀ (i c : Nat), i < 24 → (Txt.join "" (hexl B B.size)).cps.toList[i]? = some c → Txt.item (Txt.join "" (hexl B B.size)) (i : Int) = ⟨#[c]⟩ := fun i c hi e => by
    exact (item_c (by simpa using e)).symm
  exact ⟨g _ _ (by omega) p.1, g _ _ (by omega) p.2⟩
theorem text_low (B : Array UInt8) (h : B.size = 12) : LowHex (Txt.join "" (hexl B B.size)) := by
  intro c hc
  rw [join_cps, hexl_cps] at hc
  obtain ⟨cs, hcs, hc⟩ := List.mem_flatten.mp hc
  obtain ⟨k, _, rfl⟩ := List.mem_map.mp hcs
  have b := hx_lt B k
  rcases List.mem_cons.mp hc with rfl | hc
  · exact ⟨hx B k / 16, by omega, rfl⟩
  · exact ⟨hx B k % 16, by omega, List.mem_singleton.mp hc⟩
theorem text_is (B : Array UInt8) (h : B.size = 12) : HexOf B (Txt.join "" (hexl B B.size)) := by
  have z0 : ∀ j : Nat, (0 + (j : Int) * 2) = ((2 * j : Nat) : Int) := fun j => by omega
  have z1 : ∀ j : Nat, (0 + (j : Int) * 2 + 1) = ((2 * j + 1 : Nat) : Int) := fun j => by omega
  refine ⟨text_len B h, fun j hj => ?_, ?_, fun c hc => ?_⟩
  · have b := hx_lt B j
    obtain ⟨a, c⟩ := text_at B h hj
    rw [z1, z0]
    refine ⟨hexAt_of ?_ ?_, hexAt_of ?_ ?_⟩
    · rw [a]; exact (low_fact _ (by omega)).2.1
    · rw [a]; rfl
    · rw [c]; exact (low_fact _ (by omega)).2.1
    · rw [c]; rfl
  · have e : hexes (Txt.join "" (hexl B B.size)) 12 = (List.range 12).map fun k => (hx B k : Int) := by
      refine List.map_congr_left fun j hj => ?_
      have hj := List.mem_range.mp hj
      have b := hx_lt B j
      obtain ⟨a, c⟩ := text_at B h hj
      rw [z1, z0, a, c, (low_fact _ (by omega)).1, (low_fact _ (by omega)).1]
      omega
    rw [e]
    refine Array.ext (by rw [byteArr_size, List.length_map, List.length_range, h]) fun i h1 h2 => ?_
    have hi : i < 12 := by rw [h] at h2; exact h2
    simp [byteArr, hx, h2]
  · obtain ⟨d, hd, rfl⟩ := text_low B h c hc
    exact (low_fact d hd).2.2
end
end Mine
namespace Mine
section
open PySem PySem.W PySem.Calls PyProof.Rows
open PySem.Builtin PySem.Builtin.Str
section
variable {M : Model} {A : Around} {E : Value → Shared → Prop} {s : Shared} {x : PySem.Str} {t : Tok} {pl : Sem Bool}
theorem getM_encode {Q : Value × List Value → Shared → Prop} (h : Q (.builtin "str.encode", [.str x t]) s) : wpAny M A (getMethod (.str x t) "encode" pl) Q E s :=
  GM.of (.str x t) (typeIs_str _ _ _) F.slot_str_encode F.type_str_encode GM.noRef h
end
theorem enc_i (t u : Tok) : Gives («str.encode» ⟨[.str (S "i") t, .str (S "utf-8") u], []⟩) (.bytes #[105]) := by
  refine .of_eq ?_
  first | rfl | kernel_rfl
theorem enc_t (t u : Tok) : Gives («str.encode» ⟨[.str (S "t") t, .str (S "utf-8") u], []⟩) (.bytes #[116]) := by
  refine .of_eq ?_
  first | rfl | kernel_rfl
theorem enc_l (t u : Tok) : Gives («str.encode» ⟨[.str (S "l") t, .str (S "utf-8") u], []⟩) (.bytes #[108]) := by
  refine .of_eq ?_
  first | rfl | kernel_rfl
theorem enc_g (t u : Tok) : Gives («str.encode» ⟨[.str (S "g") t, .str (S "utf-8") u], []⟩) (.bytes #[103]) := by
  refine .of_eq ?_
  first | rfl | kernel_rfl
section
variable {prog : Program} {w : World} {A : Around} {E : Value → Shared → Prop} {s : Shared} {t u : Tok} {Q : Value → Shared → Prop}
theorem call_enc_i (h : ∀ t' k, Q (.bytes #[105] t') { s with toks := k }) : wpAny (model prog w) A (call (.builtin "str.encode") [.str (S "i") t, .str (S "utf-8") u]) Q E s :=
  call_gives F.slot_str_encode (typeIs_str _ _ _) F.entry_str_encode (F.args_str_encode_2 _ _) (enc_i t u) ⟨by size_fits, h _ _⟩
theorem call_enc_t (h : ∀ t' k, Q (.bytes #[116] t') { s with toks := k }) : wpAny (model prog w) A (call (.builtin "str.encode") [.str (S "t") t, .str (S "utf-8") u]) Q E s :=
  call_gives F.slot_str_encode (typeIs_str _ _ _) F.entry_str_encode (F.args_str_encode_2 _ _) (enc_t t u) ⟨by size_fits, h _ _⟩
theorem call_enc_l (h : ∀ t' k, Q (.bytes #[108] t') { s with toks := k }) : wpAny (model prog w) A (call (.builtin "str.encode") [.str (S "l") t, .str (S "utf-8") u]) Q E s :=
  call_gives F.slot_str_encode (typeIs_str _ _ _) F.entry_str_encode (F.args_str_encode_2 _ _) (enc_l t u) ⟨by size_fits, h _ _⟩
theorem call_enc_g (h : ∀ t' k, Q (.bytes #[103] t') { s with toks := k }) : wpAny (model prog w) A (call (.builtin "str.encode") [.str (S "g") t, .str (S "utf-8") u]) Q E s :=
  call_gives F.slot_str_encode (typeIs_str _ _ _) F.entry_str_encode (F.args_str_encode_2 _ _) (enc_g t u) ⟨by size_fits, h _ _⟩
end
end
end Mine
namespace Mine
section
open PySem PySem.W PySem.Calls PyProof.Rows
open PySem.Builtin PySem.Builtin.Str
section
variable {M : Model} {A : Around} {E : Value → Shared → Prop} {s : Shared} {env : Env}
theorem callWith_kwM {pos : Pos} {id : String} {first : List Value} {e : PySem.Expr} {rest : List PySem.Expr} {kws : List Keyword} {Q : Value → Shared → Prop}
    (h : wpAny M A (spliced (backTo pos (starEach (e :: rest) env))) (fun vs s₁ => wpAny M A (evalAll ((backToKw pos (keywordEach kws env)).map (·.2)))
      (fun kvs s₂ => wpAny M A (call (.builtin id) (first ++ vs) (((backToKw pos (keywordEach kws env)).filterMap (·.1)).zip kvs)) Q E s₂) E s₁) E s)
    (he : backTo pos (starEach (e :: rest) env) = (false, eval e env) :: backTo pos (starEach rest env) := by rfl)
    (hplain : (backTo pos (starEach (e :: rest) env)).any (·.1) = false := by rfl)
    (hall : (backToKw pos (keywordEach kws env)).all (·.1.isSome) = true := by rfl)
    (hkw : (backToKw pos (keywordEach kws env)).any (·.1.isNone) = false := by rfl) :
    wpAny M A (callWith pos (.builtin id) first (backTo pos (starEach (e :: rest) env)) (backToKw pos (keywordEach kws env))) Q E s := by
  refine callWith_builtin_kwB hplain hkw ?_
  rw [he] at h ⊢
  exact evalArgs_kwB hall h
end
theorem check37 (t u v : Tok) : checkBuiltinCall "int.to_bytes" ⟨[.int 37 t, .int 4 u, .str (S "little") v], [(S "signed", .bool true)]⟩ = pure () := by first | rfl | kernel_rfl
theorem tree37 (t u v : Tok) : «int.to_bytes» ⟨[.int 37 t, .int 4 u, .str (S "little") v], [(S "signed", .bool true)]⟩ = (Made.bytes #[37, 0, 0, 0]).tree := by
  first | rfl | kernel_rfl
theorem args37 (t u v : Tok) : argsOk "int.to_bytes" ⟨[.int 37 t, .int 4 u, .str (S "little") v], [(S "signed", .bool true)]⟩ := by
  unfold argsOk; kernel_rfl
section
variable {prog : Program} {w : World} {A : Around} {E : Value → Shared → Prop} {s : Shared} {t u v : Tok} {Q : Value → Shared → Prop}
theorem call37 (h : ∀ t' k, Q (.bytes #[37, 0, 0, 0] t') { s with toks := k }) : wpAny (model prog w) A (call (.builtin "int.to_bytes") [.int 37 t, .int 4 u, .str (S "little") v] [(S "signed", .bool true)]) Q E s := by
  refine wpAny_call_entry_kw KTBy.slot (typeIs_int s 37 t) KTBy.entry ?_ (args37 t u v)
  rw [tree37]
  exact wpAny_bind (wpAny_mkBytes (wpAny_pure ⟨_, rfl, h _ _⟩) (by rw [sizeLine_eq]; decide))
end
end
end Mine
namespace Mine
section
open PySem PySem.W PySem.Calls PyProof.Rows
section
variable {prog : Program} {w : World} {M : Model} {A : Around} {E : Value → Shared → Prop} {s : Shared} {h₀ : Heap} {L : Addr} {news : List (Addr × Obj)}
theorem from_littleK {b : Array UInt8} {t u : Tok} {sg : Bool} {P : Fin → Shared → Prop} (hl : b.size ≤ 8) (hneg : (sg && (b.toList.reverse.head?.any (· ≥ 128))) = false) (h : P (.done (.ret (.int (KFB.value (KBw.bInts b).reverse) s.toks))) { s with toks := s.toks + 1 }) :
    wpAny M A (Builtin.«int.from_bytes» ⟨[.type "int", .bytes b t, .str (PySem.Str.ofString "little") u], [(S "signed", .bool sg)]⟩) P E s := by
  have hv : ((b.toList.reverse.foldl (fun (acc : Nat) (b : UInt8) => acc * 256 + b.toNat) 0 : Nat) : Int) = KFB.value (KBw.bInts b).reverse := by
    rw [KFB.fold_cast, List.map_reverse]
    rfl
  have hn : b.toList.reverse.foldl (fun (acc : Nat) (b : UInt8) => acc * 256 + b.toNat) 0 < 2 ^ 64 := by
    have h1 := KFB.fold_lt b.toList.reverse 0
    rw [Nat.zero_add, Nat.one_mul, List.length_reverse, Array.length_toList] at h1
    have h2 : 256 ^ b.size ≤ 256 ^ 8 := Nat.pow_le_pow_right (by decide) hl
    omega
  unfold Builtin.«int.from_bytes»
  refine wpAny_bind (wpAny_of_eq (a := true) KFB.type_int ?_)
  refine KFB.if_not rfl ?_
  refine wpAny_bind (wpAny_of_eq (a := true) F.conv_sub_int ?_)
  refine KFB.if_not rfl ?_
  refine wpAny_bind (wpAny_of_eq (a := [some (.bytes b t), some (.str (PySem.Str.ofString "little") u), some (.bool sg)]) (by kernel_rfl) ?_)
  refine wpAny_bind (wpAny_of_eq (a := PySem.Str.ofString "little") (by kernel_rfl) ?_)
  refine wpAny_bind (wpAny_truthy_bool ?_)
  refine wpAny_bind (wpAny_of_eq (a := true) (by kernel_rfl) ?_)
  refine wpAny_bind (wpAny_of_eq (a := b) rfl ?_)
  dsimp only
  rw [if_pos rfl, hneg, if_neg (by decide)]
  show wpAny _ _ (mkIntGrown (b.toList.reverse.foldl (fun (acc : Int) (b : UInt8) => acc * 256 + (b.toNat : Int)) ((0 : Nat) : Int)) >>= fun v => _) _ _ _
  rw [KFB.foldI_eq]
  refine wpAny_bind (KFB.grown hn ?_)
  rw [hv]
  refine KFB.if_so (by decide +kernel) ?_
  exact wpAny_bind (wpAny_pure (wpAny_pure h))
theorem callWith_fieldsK {pos : Pos} {u : Addr} {first : List Value} {args : List (Bool × Sem Value)} {keywords : List (Option Str × Sem Value)} {Q : Value → Shared → Prop} (hplain : args.any (·.1) = false) (hkw : keywords.any (·.1.isNone) = false)
    (h : wpAny M A (evalArgs (.ref u) true args keywords) (fun x s₁ => KFB.StandsAt u s₁.heap ∧ wpAny M A (call (.ref u) (first ++ x.pos) x.kw) Q E s₁) E s) : wpAny M A (callWith pos (.ref u) first args keywords) Q E s := by
  unfold callWith
  refine wpAny_bind (wpAny_holding (wpAny_mono h (fun x s₁ h₁ => wpAny_bind (wpAny_standAt ?_)) fun _ _ x => x))
  obtain ⟨ho, hcall⟩ := h₁
  simp only [hplain, hkw, Bool.or_false]
  refine wpAny_bind (m := keeperOf (.ref u)) ?_
  unfold keeperOf
  refine wpAny_bind (wpAny_load ho ?_)
  simp only [KFB.bound, show (Value.type "builtin_function_or_method" != Value.type "method") = true by decide, show (Value.type "builtin_function_or_method" == Value.type "builtin_function_or_method" || Value.type "builtin_function_or_method" == Value.type "method-wrapper") = true by decide, if_true]
  refine wpAny_pure ?_
  exact wpAny_bind (wpAny_mono hcall (fun r s₂ hr => wpAny_bind (wpAny_holding (wpAny_point (wpAny_pure hr)))) fun _ _ x => x)
theorem callWith_boundK {pos : Pos} {u : Addr} {first : List Value} {env : Env} {e : PySem.Expr} {rest : List PySem.Expr} {kws : List Keyword} {Q : Value → Shared → Prop} (_N : News h₀ L s.heap news) (_hm : (u, KFB.bound) ∈ news)
    (h : wpAny M A (spliced (backTo pos (starEach (e :: rest) env))) (fun vs s₁ => wpAny M A (evalAll ((backToKw pos (keywordEach kws env)).map (·.2)))
      (fun kvs s₂ => KFB.StandsAt u s₂.heap ∧ wpAny M A (call (.ref u) (first ++ vs) (((backToKw pos (keywordEach kws env)).filterMap (·.1)).zip kvs)) Q E s₂) E s₁) E s)
    (he : backTo pos (starEach (e :: rest) env) = (false, eval e env) :: backTo pos (starEach rest env) := by rfl)
    (hplain : (backTo pos (starEach (e :: rest) env)).any (·.1) = false := by rfl)
    (hall : (backToKw pos (keywordEach kws env)).all (·.1.isSome) = true := by rfl)
    (hkw : (backToKw pos (keywordEach kws env)).any (·.1.isNone) = false := by rfl) :
    wpAny M A (callWith pos (.ref u) first (backTo pos (starEach (e :: rest) env)) (backToKw pos (keywordEach kws env))) Q E s := by
  refine callWith_fieldsK hplain hkw ?_
  rw [he] at h ⊢
  exact evalArgs_kwB hall h
theorem check_fbK {b : Array UInt8} {t u : Tok} {o : Str} {sg : Bool} : checkBoundCall "int.from_bytes" ⟨[.type "int", .bytes b t, .str o u], [(S "signed", .bool sg)]⟩ = pure () := by first | kernel_rfl | rfl
theorem call_littleK {x : Addr} {b : Array UInt8} {t u : Tok} {sg : Bool} {Q : Value → Shared → Prop} (N : News h₀ L s.heap news) (hm : (x, KFB.bound) ∈ news) (hl : b.size ≤ 8) (hneg : (sg && (b.toList.reverse.head?.any (· ≥ 128))) = false)
    (h : ∀ t' k, Q (.int (KFB.value (KBw.bInts b).reverse) t') { s with toks := k }) : wpAny (model prog w) A (call (.ref x) [.bytes b t, .str (PySem.Str.ofString "little") u] [(S "signed", .bool sg)]) Q E s := by
  have ho := KFB.at_of N hm
  refine wpAny_call (codeAny_of_tree ?_)
  show wpAny _ A.in1 (callAny (.ref x) ⟨[.bytes b t, .str (PySem.Str.ofString "little") u], [(S "signed", .bool sg)]⟩) _ _ s
  simp only [callAny]
  refine wpAny_bind (wpAny_load ho ?_)
  simp only [KFB.bound, show (Value.type "builtin_function_or_method" == Value.type "method" || Value.type "builtin_function_or_method" == Value.type "builtin_function_or_method" || Value.type "builtin_function_or_method" == Value.type "method-wrapper") = true by decide, if_true]
  refine KFB.if_so (by decide) ?_
  refine wpAny_bind (wpAny_of_eq (a := ()) check_fbK ?_)
  refine wpAny_bind (wpAny_pure (wpAny_pure ?_))
  exact ⟨KFB.quiet_fb, codeAny_builtin KFB.entry_fb (from_littleK hl hneg (h _ _))⟩
end
theorem four_neg {b : Array UInt8} {k0 k1 k2 k3 : Int} {sg : Bool} (hk : KBw.bInts b = [k0, k1, k2, k3]) (hs : sg = true → k3 < 128) : b.size ≤ 8 ∧ (sg && (b.toList.reverse.head?.any (· ≥ 128))) = false := by
  have hz : b.size = 4 := by rw [← KBw.ints_length, hk]; rfl
  have hl : b.toList.getLast?.map (fun c => ((c.toNat : Nat) : Int)) = some k3 := by
    rw [← List.getLast?_map]; exact congrArg List.getLast? hk
  refine ⟨by rw [hz]; decide, ?_⟩
  rw [List.head?_reverse]
  cases q : b.toList.getLast? with
  | none => rw [q] at hl; cases hl
  | some d =>
    rw [q] at hl
    have e : ((d.toNat : Nat) : Int) = k3 := Option.some.inj hl
    cases sg with
    | false => rfl
    | true =>
      have := hs rfl
      have hd : ¬ (d ≥ 128) := by
        intro q
        have q : (128 : UInt8).toNat ≤ d.toNat := q
        have : (128 : UInt8).toNat = 128 := rfl
        omega
      exact decide_eq_false hd
theorem four_val {b : Array UInt8} {k0 k1 k2 k3 : Int} (hk : KBw.bInts b = [k0, k1, k2, k3]) : KFB.value (KBw.bInts b).reverse = k0 + 256 * k1 + 65536 * k2 + 16777216 * k3 := by
  rw [hk]
  simp [KFB.value]
  omega
end
end Mine
namespace Mine
section
open PySem PySem.W PySem.Calls PyProof.Rows
section
variable {prog : Program} {w : World} {A : Around} {E : Value → Shared → Prop} {s : Shared} {h₀ : Heap} {env : Env} {x : Str} {body : List Stmt} {Q : Flow → Shared → Prop}
def StepP (h₀ : Heap) (L : Addr) (s : Shared) (I : Addr) (it : Obj) (base : List (Addr × Obj)) (J : (Str → Option Value) → Prop) (Q : Flow → Shared → Prop) (f : Flow) (s' : Shared) : Prop :=
  match f with
  | .ret v => Q (.ret v) s'
  | .brk => Q .next s'
  | _ => ∃ h' tk m', s' = { s with heap := h', toks := tk } ∧ Fr h₀ L h' m' ∧ News h₀ L h' ((I, it) :: base) ∧ J m'
theorem range_plain {r : Addr} {a c b : Int} {t₀ u₀ v₀ : Tok} {n : Nat} {m₀ : Str → Option Value} {base : List (Addr × Obj)} (J : Nat → (Str → Option Value) → Prop)
    (hh : A.handled = none) (hr : IsRange s.heap r a b c t₀ u₀ v₀) (hsmall : Builtin.Range.small a b c = true) (hn : Builtin.Range.rangeSize a b c = (n : Int)) (F : Fr h₀ env.locals s.heap m₀) (N : News h₀ env.locals s.heap base)
    (j0 : J 0 m₀)
    (turn : ∀ I i t h tk m₁, i < n → J i m₁ → Fr h₀ env.locals h (fun y => if y = x then some (.int (a + (i : Int) * c) t) else m₁ y) →
      News h₀ env.locals h ((I, krsIt (a + ((i + 1 : Nat) : Int) * c) ((n : Int) - ((i + 1 : Nat) : Int)) c) :: base) →
      wpAny (model prog w) A (execs body env) (StepP h₀ env.locals { s with heap := h, toks := tk } I (krsIt (a + ((i + 1 : Nat) : Int) * c) ((n : Int) - ((i + 1 : Nat) : Int)) c) base (J (i + 1)) Q) E { s with heap := h, toks := tk })
    (done : ∀ m₁ h tk, J n m₁ → Fr h₀ env.locals h m₁ → News h₀ env.locals h base → Q .next { s with heap := h, toks := tk }) :
    wpAny (model prog w) A (pyIter (.ref r)) (fun it s₂ => LoopAtV prog w A h₀ env x body Q E it s₂) E s := by
  refine krs_iter hh hr hsmall hn F N fun I hI => ?_
  refine krs_all (fun i m₁ news₁ => news₁ = base ∧ J i m₁) ?_ ?_ n 0 m₀ _ (by omega) ⟨rfl, j0⟩
  · rintro i m₁ news₁ t h tk hi ⟨hb, j⟩ F' N'
    rw [hb] at N'
    refine wpAny_mono (turn I i t h tk m₁ hi j F' N') (fun f s₂ hp => ?_) fun _ _ e => e
    have z : (∃ h' tk' m', s₂ = { s with heap := h', toks := tk' } ∧ Fr h₀ env.locals h' m' ∧ News h₀ env.locals h' ((I, krsIt (a + ((i + 1 : Nat) : Int) * c) ((n : Int) - ((i + 1 : Nat) : Int)) c) :: base) ∧ J (i + 1) m') → UnrEnd h₀ env.locals { s with heap := h, toks := tk } I (krsIt (a + ((i + 1 : Nat) : Int) * c) ((n : Int) - ((i + 1 : Nat) : Int)) c) (fun m₁ news₁ => news₁ = base ∧ J (i + 1) m₁) s₂ := by
      rintro ⟨h', tk', m', e, F'', N'', j'⟩
      exact ⟨h', tk', m', base, e, F'', N'', fun p hp => Nat.ne_of_lt (hI _ hp), rfl, j'⟩
    cases f with
    | ret v => exact hp
    | brk => exact hp
    | next => exact z hp
    | cont => exact z hp
  · rintro m₁ news₁ h tk ⟨hb, j⟩ F' N'
    rw [hb] at N'
    exact done m₁ h tk j F' N'
end
def NulJ (b : Array UInt8) (p : Int) (t : Tok) (i : Nat) (m : Str → Option Value) : Prop := m "data" = some (.bytes b t) ∧ ∀ k : Nat, k < i → (KBw.bInts b).getD (p + (k : Int)).toNat 0 ≠ 0
theorem range_sz {b : Array UInt8} {p : Int} {n : Nat} (hp : 0 ≤ p) (hn : p + (n : Int) = b.size) (hb : b.size ≤ 1000) : Builtin.Range.small p (b.size : Int) 1 = true ∧ Builtin.Range.rangeSize p (b.size : Int) 1 = (n : Int) := by
  constructor
  · exact small_one (by omega) (by omega) (by omega) (by omega)
  · rw [rangeSize_nat]
    have : (((b.size : Int) - p).toNat : Int) = n := by omega
    exact this
theorem nulJ_next {b : Array UInt8} {p : Int} {t : Tok} {i : Nat} {m : Str → Option Value} {v : Value} (j1 : m "data" = some (.bytes b t)) (j2 : ∀ k : Nat, k < i → (KBw.bInts b).getD (p + (k : Int)).toNat 0 ≠ 0) (h : ¬ (KBw.bInts b).getD (p + (i : Int) * 1).toNat 0 = 0) :
    NulJ b p t (i + 1) (fun y => if y = "k" then some v else m y) := by
  refine ⟨(if_neg (by decide)).trans j1, fun k hk => ?_⟩
  rcases Nat.lt_succ_iff_lt_or_eq.mp hk with q | rfl
  · exact j2 k q
  · rwa [Int.mul_one] at h
theorem nul_zero {b : Array UInt8} {p : Int} {i : Nat} (h : (KBw.bInts b).getD (p + (i : Int) * 1).toNat 0 = 0) : (KBw.bInts b).getD (p + (i : Int)).toNat 0 = 0 := by rwa [Int.mul_one] at h
end
end Mine
namespace Mine
section
open PySem PySem.W PySem.Calls PyProof.Rows
theorem slot_bjoin : Slot "bytes" "join" "bytes.join" :=
  .of (owner := "bytes") (n := "join") (by rw [typeLookup_type, builtinLookup_eq_fast]; kernel_rfl) (by decide +kernel) (by decide +kernel) (by decide +kernel)
    (by first | exact .inl (by decide +kernel) | exact .inr (by decide +kernel)) (by rw [isSubtype_type]; kernel_rfl)
theorem type_bjoin : typeOf (.builtin "bytes.join") = pure (.type "method_descriptor") := by show builtinType _ = _; rw [builtinType_eq_fast]; kernel_rfl
theorem entry_bjoin : entryFor table "bytes.join" = some Builtin.«bytes.join» := entryFor_of_fast (by kernel_rfl)
theorem args_bjoin (a b : Value) : argsOk "bytes.join" ⟨[a, b], []⟩ := by unfold argsOk; kernel_rfl
theorem ga_b : typeLookup (.type "bytes") "__getattribute__" = pure (some (.builtin "bytes.__getattribute__")) := by rw [typeLookup_type, builtinLookup_eq_fast]; kernel_rfl
theorem canon_ga_b : (Manifest.canonical "bytes.__getattribute__" != "object.__getattribute__") = false := by decide +kernel
theorem no_getattr_b : typeLookup (.type "bytes") "__getattr__" = pure none := by rw [typeLookup_type, builtinLookup_eq_fast]; kernel_rfl
theorem getM_bjoin {M : Model} {A : Around} {E : Value → Shared → Prop} {s : Shared} {b : Array UInt8} {t : Tok} {pl : Sem Bool} {Q : Value × List Value → Shared → Prop} (h : Q (.builtin "bytes.join", [.bytes b t]) s) :
    wpAny M A (getMethod (.bytes b t) (PySem.Str.ofString "join") pl) Q E s :=
  getMethod_value (T := "bytes") (name := PySem.Str.ofString "join") (ga := "bytes.__getattribute__") (id := "bytes.join") (PySem.W.typeIs_bytes s b t) (by intro _ x; cases x) ga_b canon_ga_b no_getattr_b slot_bjoin.lookup type_bjoin h
end
end Mine
namespace Mine
section
open PySem PySem.W PySem.Calls PyProof.Rows
open PySem.Builtin PySem.Builtin.Bytes
theorem look_bufX : typeLookup (.type "bytes") "__buffer__" = pure (some (.builtin "bytes.__buffer__")) := by rw [typeLookup_type, builtinLookup_eq_fast]; kernel_rfl
theorem look_relX : typeLookup (.type "bytes") "__release_buffer__" = pure none := by rw [typeLookup_type, builtinLookup_eq_fast]; kernel_rfl
theorem drop_bufX : ("bytes.__buffer__".dropRight ("__buffer__".length + 1)) = "bytes" := by decide +kernel
theorem not_endsX : (!"bytes.__buffer__".endsWith ("." ++ "__buffer__")) = false := by decide +kernel
set_option maxHeartbeats 8000000 in
theorem take_b {id : String} {M : Model} {A : Around} {E : Value → Shared → Prop} {s : Shared} {b : Array UInt8} {t : Tok} {Q : Option (Array UInt8 × Option Value) → Shared → Prop} (h : Q (some (b, none)) s) : wpAny M A (takeBufferQuiet? id (.bytes b t) 0) Q E s := by
  have fb := look_bufX
  have fr := look_relX
  obtain ⟨hp, g, d, tk, os⟩ := s
  unfold takeBufferQuiet?
  repeat (first | assumption | (rw [not_endsX]; refine wpAny_ite_false (by decide) ?_) | (rw [drop_bufX]; refine wpAny_isInstance (bts _ _ _) PySem.F.sub_bytes_bytes ?_) | wp_step)
end
end Mine
namespace Mine
section
open PySem PySem.W PySem.Calls PyProof.Rows
open PySem.Builtin PySem.Builtin.Bytes
theorem loopB {β : Type} {M : Model} {A : Around} {E : Value → Shared → Prop} {s : Shared} {f : Nat → β → Sem (ForInStep β)} (step : Nat → β → β) (ok : β → Prop) {b : β} {Q : β → Shared → Prop} (h0 : ok b) (hok : ∀ i b, ok b → ok (step i b))
    (turn : ∀ i b Q, i < 4 → ok b → Q (.yield (step i b)) s → wpAny M A (f i b) Q E s) (k : Q (step 3 (step 2 (step 1 (step 0 b)))) s) : wpAny M A (forIn (List.range' 0 4 1) b f) Q E s := by
  refine KPc.turn (turn 0 b _ (by decide) h0 ?_)
  refine KPc.turn (turn 1 _ _ (by decide) (hok _ _ h0) ?_)
  refine KPc.turn (turn 2 _ _ (by decide) (hok _ _ (hok _ _ h0)) ?_)
  refine KPc.turn (turn 3 _ _ (by decide) (hok _ _ (hok _ _ (hok _ _ h0))) ?_)
  show wpAny M A (forIn [] _ f) Q E s
  rw [List.forIn_nil]
  exact wpAny_pure k
set_option maxHeartbeats 8000000 in
theorem bjoin4 {D : Addr} {n : Nat} {dd : Option Addr} {sl : Array (Option Value)} {t t1 t2 t3 t4 : Tok} {b1 b2 b3 b4 : Array UInt8} (hz : b1.size + b2.size + b3.size + b4.size ≤ 1000) {M : Model} {A : Around} {E : Value → Shared → Prop} {s : Shared} {Q : Value → Shared → Prop}
    (hl : s.heap.get? D = some { cls := .type "list", dict := dd, data := .seq #[.bytes b1 t1, .bytes b2 t2, .bytes b3 t3, .bytes b4 t4] n, slots := sl })
    (h : ∀ t' k, Q (.bytes (b1 ++ b2 ++ b3 ++ b4) t') { s with toks := k }) :
    wpAny M A (Builtin.«bytes.join» ⟨[.bytes #[] t, .ref D], []⟩) (fun fin s' => ∃ v, fin = .done (.ret v) ∧ Q v s') E s := by
  have oh : ∀ (b : Array UInt8) (t : Tok), (Value.bytes b t).onHeap = false := fun _ _ => rfl
  unfold Builtin.«bytes.join» joinM
  refine wpAny_bind (wpAny_of_eq (a := (.bytes #[] t, .ref D)) rfl ?_)
  dsimp only
  refine KFB.if_so rfl ?_
  refine wpAny_bind ?_
  unfold joinItems
  refine wpAny_bind (wpAny_typeOf_ref hl ?_)
  refine KFB.if_so rfl ?_
  refine wpAny_pure ?_
  refine wpAny_bind (wpAny_seqItems hl rfl ?_)
  dsimp only
  refine KFB.if_so rfl ?_
  refine wpAny_bind ?_
  rw [show (#[Value.bytes b1 t1, .bytes b2 t2, .bytes b3 t3, .bytes b4 t4] : Array Value).size = 4 from rfl, KPc.range_list]
  refine loopB (fun i b => (b.1.push ((#[b1, b2, b3, b4] : Array (Array UInt8)).getD i #[]), b.2 ++ [((#[Value.bytes b1 t1, .bytes b2 t2, .bytes b3 t3, .bytes b4 t4] : Array Value).getD i .none, none)])) (fun b => b.2.any (·.1.onHeap) = false) rfl ?_ ?_ ?_
  · intro i b hb
    dsimp only
    rw [List.any_append, hb]
    match i with
    | 0 => rfl
    | 1 => rfl
    | 2 => rfl
    | 3 => rfl
    | _ + 4 => simp [Value.onHeap]
  · intro i b Q' hi hb hq
    refine wpAny_bind (wpAny_seqItems hl rfl ?_)
    dsimp only
    rw [hb]
    refine KFB.if_not rfl ?_
    refine wpAny_bind (wpAny_holding ?_)
    have hk : ∀ {Q'' : Option (Array UInt8 × Option Value) → Shared → Prop}, Q'' (some ((#[b1, b2, b3, b4] : Array (Array UInt8)).getD i #[], none)) s → wpAny M A (takeBufferQuiet? (toString Kind.bytes.name ++ toString ".join") ((#[Value.bytes b1 t1, .bytes b2 t2, .bytes b3 t3, .bytes b4 t4] : Array Value).getD i .none) 0) Q'' E s := by
      intro Q'' h
      match i, hi with
      | 0, _ => exact take_b h
      | 1, _ => exact take_b h
      | 2, _ => exact take_b h
      | 3, _ => exact take_b h
    refine hk ?_
    dsimp only
    refine wpAny_bind (wpAny_seqItems hl rfl ?_)
    dsimp only
    refine KFB.if_not rfl ?_
    exact wpAny_pure hq
  · show wpAny M A (payload (Value.bytes #[] t) >>= fun sep => _) _ E s
    refine wpAny_bind (wpAny_of_eq (a := #[]) rfl ?_)
    have z1 : tooLong (0 * 3 + b1.size + b2.size + b3.size + b4.size) = false := Bool.eq_false_iff.mpr (KPc.short (by omega))
    refine KFB.if_not z1 ?_
    have e : joined #[] [b1, b2, b3, b4] = b1 ++ b2 ++ b3 ++ b4 := by
      show #[] ++ b1 ++ #[] ++ b2 ++ #[] ++ b3 ++ #[] ++ b4 = _
      simp
    show wpAny M A (mkBytes (joined #[] [b1, b2, b3, b4]) >>= fun r => _) _ E s
    rw [e]
    refine wpAny_bind (wpAny_mkBytes ?_ (by simp only [Array.size_append, sizeLine_eq]; omega))
    refine wpAny_bind (wpAny_holding (wpAny_point ?_))
    refine wpAny_bind ?_
    dsimp only [List.append_eq, List.cons_append, List.nil_append]
    refine wpAny_bind (wpAny_letGo ?_)
    refine wpAny_bind (wpAny_letGo ?_)
    refine wpAny_bind (wpAny_letGo ?_)
    refine wpAny_bind (wpAny_letGo ?_)
    exact wpAny_pure (wpAny_pure ⟨_, rfl, h _ _⟩)
end
end Mine
namespace Mine
section
open PySem PySem.W PySem.Calls PyProof.Rows
section
variable {prog : Program} {w : World} {A : Around} {E : Value → Shared → Prop} {s : Shared} {Q : Value → Shared → Prop} {h₀ : Heap} {L : Addr} {news : List (Addr × Obj)}
theorem call_bjoin4 {D : Addr} {n : Nat} {t t1 t2 t3 t4 : Tok} {b1 b2 b3 b4 : Array UInt8} (N : News h₀ L s.heap news) (hm : (D, W.listOf #[.bytes b1 t1, .bytes b2 t2, .bytes b3 t3, .bytes b4 t4] n) ∈ news) (hz : b1.size + b2.size + b3.size + b4.size ≤ 1000)
    (h : ∀ t' k, Q (.bytes (b1 ++ b2 ++ b3 ++ b4) t') { s with toks := k }) : wpAny (model prog w) A (call (.builtin "bytes.join") [.bytes #[] t, .ref D]) Q E s := by
  refine wpAny_call (codeAny_call_builtin slot_bjoin.plain entry_bjoin (slot_bjoin.check _ _ _ _ _ _ _ _ (PySem.W.typeIs_bytes s _ _) (args_bjoin _ _) ?_))
  refine wpAny_mono (bjoin4 hz (N _ hm).1 h) (fun fin s' x => ?_) (fun _ _ x => x)
  obtain ⟨v, e, q⟩ := x
  subst e
  exact q
theorem call_bjoin4R {D : Addr} {n k : Nat} {t t1 t2 t3 t4 : Tok} {b1 b2 b3 b4 : Array UInt8} (N : News h₀ L s.heap news) (hm : (D, W.listOf #[.bytes b1 t1, .bytes b2 t2, .bytes b3 t3, .bytes b4 t4] n) ∈ news) (hz : b1.size + b2.size + b3.size + b4.size = k) (hk : k ≤ 1000)
    (h : ∀ R t' j, R = b1 ++ b2 ++ b3 ++ b4 → R.size = k → Q (.bytes R t') { s with toks := j }) : wpAny (model prog w) A (call (.builtin "bytes.join") [.bytes #[] t, .ref D]) Q E s :=
  call_bjoin4 N hm (by omega) fun t' j => h _ t' j rfl (by simp only [Array.size_append]; omega)
theorem len_32 {b : Array UInt8} {t : Tok} (e : b.size = 32) (h : ∀ t' k, Q (.int 32 t') { s with toks := k }) : wpAny (model prog w) A (call (.builtin "len") [.bytes b t]) Q E s := by
  refine len_bytes (by omega) ?_
  rw [e]
  exact h _ _
theorem len_37 {b : Array UInt8} {t : Tok} (e : b.size = 37) (h : ∀ t' k, Q (.int 37 t') { s with toks := k }) : wpAny (model prog w) A (call (.builtin "len") [.bytes b t]) Q E s := by
  refine len_bytes (by omega) ?_
  rw [e]
  exact h _ _
end
end
end Mine
namespace Mine
section
open PySem PySem.W PySem.Calls PyProof.Rows
def TrZ (h base : Heap) (e : Addr) (cls a0 fl : Value) : Prop :=
  ∃ oe vs T oT ts, h.get? e = some oe ∧ (oe.cls = cls ∧ vs[0]? = some a0 ∧ vs[2]? = some .none) ∧ oe.data = .fields vs ∧ vs[1]? = some (.ref T) ∧ base.get? T = none ∧ T ≠ e ∧ h.get? T = some oT ∧ oT.data = .fields ts ∧ ts[3]? = some fl
theorem TrZ.w {h base : Heap} {e : Addr} {cls a0 fl : Value} (x : TrZ h base e cls a0 fl) : h.TracedAtW base e cls a0 fl :=
  let ⟨oe, vs, T, oT, ts, he, hc, r⟩ := x; ⟨oe, vs, T, oT, ts, he, ⟨hc.1, hc.2.1⟩, r⟩
section
variable {M : Model} {A : Around} {E : Value → Shared → Prop} {s : Shared} {base : Heap} {env : Env} {outer : List Env} {L e : Addr} {oe : Obj} {vs : Array Value} {cls a0 fl head : Value} {Q : Unit → Shared → Prop} {l : List Env}
theorem keep_up {h h' : Heap} {e : Addr} {ws : Array Value} {o : Obj} (ho : h.get? e = some o) (hd : o.data = .fields ws) (k : ∀ b o, b ≠ e → h.get? b = some o → h'.get? b = some o) : h.UpToSlots h' := fun b o' hb hn =>
  ⟨o'.slots, k b o' (fun q => by rw [q, ho] at hb; cases hb; exact hn ws hd) hb⟩
theorem entryZ {hadNext : Bool} (hfr : A.frames = some (env :: outer)) (hl : s.heap.FunFrames base (env :: outer)) (hf : env.frame = some L)
    (he : s.heap.get? e = some oe) (hkb : base.StaysIn s.heap) (hen : base.get? e = none) (hd : oe.data = .fields vs) (hsz : 1 < vs.size) (h0 : vs[0]? = some a0) (h2 : vs[2]? = some .none)
    (h : ∀ h', base.StaysIn h' → h'.FunFrames base (env :: outer) → TrZ h' base e oe.cls a0 (rawInt L) → s.heap.UpToSlots h' → Q () { s with heap := h' }) :
    wpAny M A (do let a ← frameOf env; let pl ← entryPlaceOf L hadNext; let b ← EntryCells.newEntry head a .none (rawInt L) .none pl; setField (.ref e) 1 b) Q E s := by
  have ne : e ∉ (env :: outer).filterMap (·.frame) := fun hm => by
    obtain ⟨_, o, ho, hnf⟩ := hl.mem hm
    rw [he] at ho; cases ho; exact hnf vs hd
  refine wpAny_bind (wpAny_frameOf_fun hfr hl hf fun h₁ S => ?_)
  refine wpAny_bind (wpAny_entryPlaceOf fun pl hpl => ?_)
  unfold EntryCells.newEntry newFields
  refine wpAny_bind (wpAny_newObj_type ?_ (hpl.sizeOk5 _ _ _ _ _))
  have e₁ : h₁.get? e = some oe := (S.2.1 e ne).trans he
  have st₁ : base.StaysIn h₁ := fun b o q => (S.2.1 b fun hm => by rw [(hl.mem hm).1] at q; cases q).trans (hkb b o q)
  have e₂ := Heap.get?_push_of_some (h := h₁) { cls := .type "traceback", dict := none, data := .fields ([head, .ref L, .none, rawInt L, .none] ++ (if pl.isEmpty then List.replicate 6 Value.none else pl)).toArray } e₁
  refine wpAny_setField e₂ hd hsz (h _ ?_ ?_ ?_ ?_)
  all_goals have neT : h₁.objs.size ≠ e := Nat.ne_of_gt (Heap.lt_size e₁)
  all_goals have kp : ∀ b o, b ≠ e → h₁.get? b = some o → ((h₁.push { cls := .type "traceback", dict := none, data := .fields ([head, .ref L, .none, rawInt L, .none] ++ (if pl.isEmpty then List.replicate 6 Value.none else pl)).toArray }).update e (Obj.mapFields (·.setIfInBounds 1 (Value.ref h₁.objs.size)))).get? b = some o := fun b o nb q => ((Heap.get?_update_other _ _ (Ne.symm nb)).trans (Heap.get?_push_of_some _ q))
  · exact fun b o q => kp b o (fun z => by rw [z, hen] at q; cases q) (st₁ b o q)
  · refine hl.of_keeps fun b o q nf => ?_
    obtain ⟨sl, hs⟩ := S.2.2 b o q
    exact ⟨_, kp b _ (fun z => by rw [z, he] at q; cases q; exact nf vs hd) hs, rfl⟩
  · have d₃ := Obj.data_mapFields hd (·.setIfInBounds 1 (Value.ref h₁.objs.size))
    refine ⟨_, _, h₁.objs.size, _, _, Heap.get?_update_self _ e₂ (Obj.isFreed_of_fields d₃), ⟨Obj.cls_mapFields _ _, ?_, ?_⟩, d₃, by simp [hsz], st₁.fresh, neT, (Heap.get?_update_other _ _ (Ne.symm neT)).trans (Heap.get?_push_size h₁ rfl), rfl, by simp⟩
    · rw [Array.getElem?_setIfInBounds_ne (by decide)]; exact h0
    · rw [Array.getElem?_setIfInBounds_ne (by decide)]; exact h2
  · intro b o q nf
    obtain ⟨sl, hs⟩ := S.2.2 b o q
    exact ⟨sl, kp b _ (fun z => by rw [z, he] at q; cases q; exact nf vs hd) hs⟩
theorem flightZ (hkb : base.StaysIn s.heap) (hl : s.heap.FunFrames base l) (ht : TrZ s.heap base e cls a0 fl)
    (h : ∀ h', base.StaysIn h' → h'.FunFrames base l → TrZ h' base e cls a0 .none → s.heap.UpToSlots h' → Q () { s with heap := h' }) : wpAny M A (setFlight (.ref e) none) Q E s := by
  obtain ⟨oe, vs, T, oT, ts, he, hc, hd, h1, nT, neT, hT, dT, h3⟩ := ht
  have sz : 3 < ts.size := (Array.getElem?_eq_some_iff.mp h3).1
  have ot : ∀ b, b ≠ T → (s.heap.update T (Obj.mapFields (·.setIfInBounds 3 ((none : Option Addr).elim Value.none fun f => rawInt f)))).get? b = s.heap.get? b := fun b q => Heap.get?_update_other _ _ (Ne.symm q)
  have up := keep_up hT dT (h' := s.heap.update T (Obj.mapFields (·.setIfInBounds 3 ((none : Option Addr).elim Value.none fun f => rawInt f)))) fun b o q z => (ot b q).trans z
  unfold setFlight
  refine wpAny_bind (wpAny_field he hd h1 ?_)
  rw [if_pos (show (Value.ref T != Value.none) = true from by simp)]
  refine wpAny_setField hT dT sz (h _ (fun b o q => (ot b fun z => by rw [z, nT] at q; cases q).trans (hkb b o q)) (hl.of_keeps fun b o q nf => let ⟨_, z⟩ := up b o q nf; ⟨_, z, rfl⟩) ?_ up)
  exact ⟨oe, vs, T, _, _, (ot e (Ne.symm neT)).trans he, hc, hd, h1, nT, neT, Heap.get?_update_self _ hT (Obj.isFreed_of_fields (Obj.data_mapFields dT _)), Obj.data_mapFields dT _, by simp [sz]⟩
theorem noteZ1 (hfr : A.frames = some (env :: outer)) (hl : s.heap.FunFrames base (env :: outer)) (hf : env.frame = some L)
    (he : s.heap.get? e = some oe) (hkb : base.StaysIn s.heap) (hen : base.get? e = none) (hd : oe.data = .fields vs) (h1 : vs[1]? = some .none) (h0 : vs[0]? = some a0) (h2 : vs[2]? = some .none)
    (h : ∀ h', base.StaysIn h' → h'.FunFrames base (env :: outer) → TrZ h' base e oe.cls a0 (rawInt L) → s.heap.UpToSlots h' → Q () { s with heap := h' }) : wpAny M A (noteFrame (.ref e) env) Q E s := by
  unfold noteFrame
  simp only [hf]
  refine wpAny_bind (wpAny_field he hd h1 ?_)
  rw [if_neg (by decide)]
  exact entryZ hfr hl hf he hkb hen hd (Array.getElem?_eq_some_iff.mp h1).1 h0 h2 h
theorem noteZ (hfr : A.frames = some (env :: outer)) (hl : s.heap.FunFrames base (env :: outer)) (hf : env.frame = some L) (ht : TrZ s.heap base e cls a0 .none) (hkb : base.StaysIn s.heap) (hen : base.get? e = none)
    (h : ∀ h', base.StaysIn h' → h'.FunFrames base (env :: outer) → TrZ h' base e cls a0 (rawInt L) → s.heap.UpToSlots h' → Q () { s with heap := h' }) : wpAny M A (noteFrame (.ref e) env) Q E s := by
  obtain ⟨oe, vs, T, oT, ts, he, ⟨rfl, h0, h2⟩, hd, h1, nT, neT, hT, dT, h3⟩ := ht
  unfold noteFrame
  simp only [hf]
  refine wpAny_bind (wpAny_field he hd h1 ?_)
  rw [if_pos (show (Value.ref T != Value.none) = true from by simp)]
  refine wpAny_bind (wpAny_field hT dT h3 ?_)
  rw [if_neg (show ¬ ((Value.none == rawInt L) = true) from by simp [rawInt])]
  refine wpAny_bind (wpAny_setField hT dT (Array.getElem?_eq_some_iff.mp h3).1 ?_)
  have ot : ∀ b, b ≠ T → (s.heap.update T (Obj.mapFields (·.setIfInBounds 3 Value.none))).get? b = s.heap.get? b := fun b q => Heap.get?_update_other _ _ (Ne.symm q)
  have up := keep_up hT dT (h' := s.heap.update T (Obj.mapFields (·.setIfInBounds 3 Value.none))) fun b o q z => (ot b q).trans z
  exact entryZ hfr (hl.of_keeps fun b o q nf => let ⟨_, z⟩ := up b o q nf; ⟨_, z, rfl⟩) hf ((ot e (Ne.symm neT)).trans he) (fun b o q => (ot b fun z => by rw [z, nT] at q; cases q).trans (hkb b o q)) hen hd (Array.getElem?_eq_some_iff.mp h1).1 h0 h2
    fun h' a b c d => h h' a b c (up.trans d)
end
structure FlyZ (base : Heap) (l : List Env) (e : Addr) (cls a0 : Value) (h : Heap) : Prop where
  st : base.StaysIn h
  new : base.get? e = none
  fr : h.FunFrames base l
  tr : TrZ h base e cls a0 .none
theorem FlyZ.w {base h : Heap} {l : List Env} {e : Addr} {cls a0 : Value} (x : FlyZ base l e cls a0 h) : Heap.FlyingW base l e cls a0 h := ⟨x.st, x.new, x.fr, x.tr.w⟩
def RaisedZ (base G : Heap) (l : List Env) (e : Addr) (cls : Value) (news : List (Addr × Obj)) (h : Heap) : Prop :=
  ∃ B a0, base.StaysIn B ∧ (∀ b o, G.get? b = some o → b ∉ l.filterMap (·.frame) → B.get? b = some o) ∧ (∀ q ∈ news, B.get? q.1 = some q.2 ∧ G.get? q.1 = none ∧ base.get? q.1 = none) ∧ FlyZ B l e cls a0 h
theorem RaisedZ.sn {base G h : Heap} {l : List Env} {e : Addr} {cls : Value} {news : List (Addr × Obj)} (x : RaisedZ base G l e cls news h) : RaisedSN base G l e cls news h :=
  let ⟨B, a0, p, q, r, f⟩ := x; ⟨B, a0, p, q, r, f.w⟩
section
variable {prog : Program} {w : World} {A A₀ : Around} {s s' : Shared} {L L' a f ac : Addr} {h₀ base hh : Heap} {m m' : Str → Option Value} {news : List (Addr × Obj)} {env : Env} {outer : List Env} {Q : Unit → Shared → Prop} {E : Value → Shared → Prop}
  {name cn : Str} {scope cs : Scope} {cls : String} {cd cd' : Value} {gd : Option (List Code)} {dp un : Nat} {cl : List (Str × Addr)}
theorem leaveZ (V : LV A₀ base outer h₀ L s m news) (hx : Heap.NewExc hh s'.heap a cls) (F' : Fr s.heap L' hh m') (hk : scope.kind = .function) (hks : cs.kind = .function)
    (k : ∀ G h', Fr h₀ L G m → RaisedZ base G (envX cn cs L ac cd' cl :: outer) a (.type cls) news h' → G.UpToSlots h' → Q () { s' with heap := h' }) :
    wpAny (model prog w) ((ktrTop dp un gd cn cs L ac cd' cl outer).deeper (envOf name scope L' f cd)) (leaving (envOf name scope L' f cd) (.ref a)) Q E s' := by
  obtain ⟨B, F, N⟩ := V
  have B₂ : Below (ktrTop dp un gd cn cs L ac cd' cl outer) base (envX cn cs L ac cd' cl :: outer) s.heap := ⟨rfl, fun b o e => F.keep b o (B.stays b o e), (pushX B F rfl hks).frames⟩
  have K' := B₂.push (name := name) (a := f) (cd := cd) F' hk
  obtain ⟨oL, es, ep, hL, hLd, hLk, hLf⟩ := F.ns
  have nmem : ∀ b o, h₀.get? b = some o → b ∉ news.map (·.1) := fun b o e q => by
    obtain ⟨x, hx, rfl⟩ := List.mem_map.mp q
    rw [(N x hx).2.2] at e; cases e
  have nL : L ∉ news.map (·.1) := fun q => by
    obtain ⟨x, hx, e⟩ := List.mem_map.mp q
    exact (N x hx).2.1 e
  have FG : Fr h₀ L (hideAll s.heap (news.map (·.1))) m := ⟨⟨oL, es, ep, hideAll_get _ hL nL, hLd, hLk, hLf⟩, fun b o e => hideAll_get _ (F.keep b o e) (nmem b o e), F.above⟩
  have hin : ∀ env ∈ (envOf name scope L' f cd :: envX cn cs L ac cd' cl :: outer), ∀ b, env.frame = some b → b ∈ (envOf name scope L' f cd :: envX cn cs L ac cd' cl :: outer).filterMap (·.frame) := fun env he b hb => List.mem_filterMap.mpr ⟨env, he, hb⟩
  have nfr : ∀ q ∈ news, q.1 ∉ (envX cn cs L ac cd' cl :: outer).filterMap (·.frame) := fun q hq hm => by
    obtain ⟨o, ho, _⟩ := (B₂.frames.mem hm).2
    obtain ⟨env', he, hf'⟩ := List.mem_filterMap.mp hm
    rcases List.mem_cons.mp he with rfl | he
    · exact (N q hq).2.1 (Option.some.inj hf').symm
    · obtain ⟨o, ho', _⟩ := (B.frames.mem (List.mem_filterMap.mpr ⟨env', he, hf'⟩)).2
      rw [(N q hq).2.2] at ho'; cases ho'
  have nL' : ∀ b o, s.heap.get? b = some o → b ≠ L' := fun b o e z => by
    rw [z, kts_self F'] at e; cases e
  have up : ∀ b o, s.heap.get? b = some o → b ∉ (envX cn cs L ac cd' cl :: outer).filterMap (·.frame) → (hideAll hh ((envOf name scope L' f cd :: envX cn cs L ac cd' cl :: outer).filterMap (·.frame))).get? b = some o := fun b o e nm => hideAll_get _ (F'.keep b o e) fun hm => by
    rcases kts_mem hm with z | z
    · exact nL' b o e z
    · exact nm z
  obtain ⟨ob, tp, he, hcls, hd⟩ := hx.there
  have hen : (hideAll hh ((envOf name scope L' f cd :: envX cn cs L ac cd' cl :: outer).filterMap (·.frame))).get? a = none := by
    cases q : (hideAll hh ((envOf name scope L' f cd :: envX cn cs L ac cd' cl :: outer).filterMap (·.frame))).get? a with
    | none => rfl
    | some o => have := of_hideAll _ q; rw [hx.new] at this; cases this
  unfold leaving
  refine wpAny_bind (noteZ1 K'.stack ((funFrames_hide K'.frames hin).of_keeps fun b o q _ => ⟨o, hx.keeps b o q, rfl⟩) rfl he (fun b o q => hx.keeps b o (of_hideAll _ q)) hen hd rfl rfl rfl fun h₁ a1 a2 a3 a4 => ?_)
  refine flightZ a1 a2 a3 fun h₂ b1 b2 b3 b4 => ?_
  refine k _ h₂ FG ⟨_, tp, fun b o q => hideAll_get _ (K'.stays b o q) (fun hm => by rw [(K'.frames.mem hm).1] at q; cases q), fun b o q => up b o (of_hideAll _ q), fun q hq => ⟨up _ _ (N q hq).1 (nfr q hq), hideAll_none _ (List.mem_map_of_mem hq), fresh_of_stays B.stays (N q hq).2.2⟩, ⟨b1, hen, b2.2.2, hcls ▸ b3⟩⟩ ?_
  exact (Heap.UpToSlots.of_keeps fun b o e => hx.keeps b o (F'.keep b o (of_hideAll _ e))).trans (a4.trans b4)
end
section
variable {prog : Program} {w : World} {A₀ : Around} {E : Value → Shared → Prop} {s' : Shared} {base g g₀ G : Heap} {outer : List Env} {L a e : Addr} {m : Str → Option Value} {name : Str} {scope : Scope} {cd : Value}
  {b₀ : Stmt} {suite : List Stmt} {pos np : Pos} {rest : List ExceptHandler} {Q : Flow → Shared → Prop} {news : List (Addr × Obj)} {KF : Frag}
  {p : Program} {loose : List Str} {mean : ExcName → Option Value} {mg mb : Str → Option Value} {x : Str} {X T' : String}
def HeldZ (o : Obj) : Prop := ∃ vs, o.data = .fields vs ∧ vs[2]? = some .none
theorem caughtZ (R : RaisedZ base G (envOf name scope L a cd :: outer) e (.type X) news s'.heap) (F : Fr g L G m) (K : Below A₀ base outer g) (hsm : G.UpToSlots s'.heap) (XB : KF.In base) (TB : Top p loose mean mg mb base)
    (D : KtsDicts (outer.filterMap (·.frame)) g) (T0 : KtsTurn (outer.filterMap (·.frame)) g₀ g)
    (ex : nsIn KF mainGlobals x = some none) (hv : bootBuiltins x = some (.type T')) (hn' : x ≠ "__name__")
    (hexc : isSubtype (.type T') (.type "BaseException") = pure true) (hnt : isSubtype (.type ((Manifest.find? T').elim "type" fun y => y.metatype)) (.type "tuple") = pure false) (hsub : isSubtype (.type X) (.type T') = pure true)
    (k : ∀ h' g' oe, HeldZ oe → KtsTurn (outer.filterMap (·.frame)) g₀ g' → Fr g' L h' m → News g' L h' ((e, oe) :: news) → Below A₀ base outer g' → KF.In g' → Top p loose mean mg mb g' → KtsDicts (outer.filterMap (·.frame)) g' →
      wpAny (model prog w) ((A₀.deeper (envOf name scope L a cd)).mark (some (.ref e))) (execs (b₀ :: suite) (envOf name scope L a cd)) Q E { s' with heap := h' })
    (hk : scope.kind = .function := by rfl) (hx : (envOf name scope L a cd).kindOf x = some .globalImplicit := by rfl) (hd : (x == ("__debug__" : Str)) = false := by decide)
    (hE : PassesOwnAt (model prog w) ((A₀.deeper (envOf name scope L a cd)).mark (some (.ref e))) (A₀.deeper (envOf name scope L a cd)) (envOf name scope L a cd) E := by passes_own) :
    wpAny (model prog w) (A₀.deeper (envOf name scope L a cd)) (noteFrame (.ref e) (envOf name scope L a cd))
      (fun _ s₂ => wpAny (model prog w) (A₀.deeper (envOf name scope L a cd)) (setFlight (.ref e) none) (fun _ s₃ =>
        wpAny (model prog w) (A₀.deeper (envOf name scope L a cd)) (handleBy (.ref e) (envOf name scope L a cd) (.ExceptHandler (some (.Name x np)) none (b₀ :: suite) pos :: rest)) Q E s₃) E s₂) E s' := by
  obtain ⟨B, a0, hB, hBG, hl, f1, f2, f3, f4⟩ := R
  have hL : B.get? L = none := by
    obtain ⟨_, ⟨L', _, hf, hn', _⟩, _⟩ := f3
    obtain rfl : L = L' := Option.some.inj hf
    exact hn'
  refine noteZ (Around.frames_deeper K.stack) f3 rfl f4 f1 f2 fun h₄ a1 a2 a3 a4 => ?_
  refine flightZ a1 a2 a3 fun h₅ b1 b2 b3 b4 => ?_
  have u₅ := hsm.trans (a4.trans b4)
  obtain ⟨g₅, T₅, F₅, K₅⟩ := kts_ground K F hBG b1 u₅
  have X₅ : KF.In g₅ := XB.keeps K₅.stays
  have P₅ : TopRead p loose mg mb g₅ := topRead_of (TB.keeps K₅.stays)
  obtain ⟨ob, hob, hobc⟩ := b3.w.there
  refine wpAny_handleBy_builtin (X := X) (T := T') (b := true) hexc hnt hsub (name_B F₅ X₅ P₅ ex hv hn' ⟨rfl, ⟨ob, hob, hobc⟩, ?_⟩ hk hx hd)
  refine flightZ b1 b2 b3 fun h₆ c1 c2 c3 c4 => ?_
  have u₆ := u₅.trans c4
  obtain ⟨g₆, T₆, F₆, K₆⟩ := kts_ground K F hBG c1 u₆
  obtain ⟨oe, vs, _, _, _, hoe, ⟨_, _, hv2⟩, hoed, _⟩ := c3
  have neL : e ≠ L := fun z => by
    obtain ⟨oL, es, ep, hL6, hLd, _⟩ := F₆.ns
    rw [z, hL6] at hoe
    cases hoe
    rw [hLd] at hoed
    cases hoed
  have neg : g₆.get? e = none := T₆.none_ _ (kts_fresh F hBG f2 fun o ho hm => by
    obtain ⟨_, o', ho', hd'⟩ := K.frames.mem hm
    rw [ho] at ho'; cases ho'
    obtain ⟨sl, hs⟩ := u₆ e o (F.keep _ _ ho) hd'
    rw [hoe] at hs; cases hs
    exact hd' vs hoed)
  have Nl : News g₆ L h₆ ((e, oe) :: news) := fun q hq => by
    rcases List.mem_cons.mp hq with rfl | hq
    · exact ⟨hoe, neL, neg⟩
    · exact ⟨c1 _ _ (hl q hq).1, (fun z => by have := (hl q hq).1; rw [z, hL] at this; cases this), T₆.none_ _ (kts_none F.keep (hl q hq).2.1)⟩
  exact wpAny_passesOwnAt hE (k h₆ g₆ oe ⟨vs, hoed, hv2⟩ (T0.trans T₆) F₆ Nl K₆ (XB.keeps K₆.stays) (TB.keeps K₆.stays) (D.turn T₆))
end
end
end Mine
namespace Mine
section
open PySem PySem.W PySem.Calls PyProof.Rows
theorem entry_unchain : entryFor table "proto.unchain" = some Builtin.«proto.unchain» := entryFor_of_tree (by kernel_rfl)
section
variable {prog : Program} {w : World} {A : Around} {E : Value → Shared → Prop} {s : Shared} {e g : Addr} {og oe : Obj} {vs ws : Array Value}
theorem unchain_none {R : Result → Shared → Prop} (hg : s.heap.get? g = some og) (hd : og.data = .fields vs) (h2 : vs[2]? = some .none) (h : R (.ok (.ret .none)) s) :
    codeAny (model prog w) A (.builtin "proto.unchain" ⟨[.ref e, .ref g, .ref g, .bool false], []⟩) R s := by
  refine codeAny_builtin entry_unchain ?_
  unfold Builtin.«proto.unchain»
  refine wpAny_bind (wpAny_field hg hd h2 ?_)
  rw [if_pos (by decide)]
  exact wpAny_pure h
theorem raiseNew_held {α : Type} {Q : α → Shared → Prop} (hh : A.handled = some (.ref g)) (ne : g ≠ e) (hg : s.heap.get? g = some og) (hd : og.data = .fields vs) (h2 : vs[2]? = some .none)
    (he : s.heap.get? e = some oe) (hed : oe.data = .fields ws) (hsz : 2 < ws.size)
    (h : E (.ref e) { s with heap := s.heap.update e (Obj.mapFields (·.setIfInBounds 2 (.ref g))) }) : wpAny (model prog w) A (raiseNew (.ref e) : Sem α) Q E s := by
  unfold raiseNew
  refine wpAny_bind (wpAny_handled ?_)
  rw [hh]
  have nb : (Value.ref g != Value.ref e) = true := by
    simp only [bne_iff_ne, ne_eq, Value.ref.injEq]; exact ne
  dsimp only
  rw [if_pos nb]
  refine wpAny_bind (wpAny_holding (wpAny_runValue (unchain_none hg hd h2 ?_)))
  exact wpAny_bind (wpAny_setField he hed hsz (wpAny_throw h))
end
section
variable {prog : Program} {w : World} {A : Around} {E : Value → Shared → Prop} {env : Env} {g : Addr}
variable {nm q : Str} {C N : Addr} {bs bm bmB : List Value} {hdct : Bool} {sn : List Str} {sub : List Value} {ab : Bool} {col : Option Bool} {dd : Option Addr} {k0 k1 k2 k3 k5 : Option Value} {B newId initId : String}
def RaisedH (h h' : Heap) (g e : Addr) (cls : Value) (args : List Value) : Prop := ∃ h₁, Heap.MadeExcOf h h₁ e cls args ∧ h' = h₁.update e (Obj.mapFields (·.setIfInBounds 2 (.ref g)))
theorem raiseStmt_held {s : Shared} {x : Sem Value} {Q : Flow → Shared → Prop} (hbase : bm.contains (.type "BaseException") = true) (hh : A.handled = some (.ref g))
    (h : wpAny (model prog w) A x (fun v s₁ => ∃ e t, v = .ref e ∧ g ≠ e ∧ (∃ og vs, s₁.heap.get? g = some og ∧ og.data = .fields vs ∧ vs[2]? = some .none) ∧ s₁.heap.get? C = some (excClassObj nm q C N bs bm hdct sn sub ab col dd k0 k1 k2 k3 k5 newId) ∧
      s₁.heap.get? e = some { cls := .ref C, data := .fields #[.ref t, .none, .none, .none, .bool false, .none] } ∧ E (.ref e) { s₁ with heap := s₁.heap.update e (Obj.mapFields (·.setIfInBounds 2 (.ref g))) }) E s) :
    wpAny (model prog w) A (raiseStmt env (some x) none) Q E s := by
  have hcB : (Value.ref C :: bm).contains (.type "BaseException") = true := by rw [List.contains_cons, hbase, Bool.or_true]
  unfold raiseStmt
  refine wpAny_bind (wpAny_mono h (fun v s₁ h₁ => ?_) fun _ _ x => x)
  obtain ⟨e, t, rfl, ne, ⟨og, vs, hg, hgd, hg2⟩, hC, he, hE⟩ := h₁
  obtain ⟨hp, gn, d, tk, os⟩ := s₁
  repeat (first | with_reducible refine wpAny_loadPart_at he ?_ | with_reducible refine wpAny_loadPart_at hC ?_ | (with_reducible refine wpAny_isSubtype_exc hC ?_; rw [hcB]) | wp_step)
  exact raiseNew_held hh ne hg hgd hg2 he rfl (show 2 < 6 by decide) hE
theorem Raise_subH {s : Shared} (F : ExcBaseFacts B newId initId bmB) {mN : Str → Option Value} {x : Str} {np cpos pos : Pos} {args : List Expr} {Q : Flow → Shared → Prop}
    (hbase : bm.contains (.type "BaseException") = true) (hh : A.handled = some (.ref g)) (hplain : (backTo cpos (starEach args env)).any (·.1) = false) (hni : mN "__init__" = none)
    (h : wpAny (model prog w) A (eval (.Name x np) env) (fun f s₁ => f = .ref C ∧ wpAny (model prog w) A (evalArgs (.ref C) true (backTo cpos (starEach args env)) [])
      (fun a s₂ => a.kw = [] ∧ a.pos.length ≤ sizeLine ∧ s₂.heap.get? C = some (excClassObj nm q C N bs bm hdct sn sub ab col dd k0 k1 k2 k3 k5 newId) ∧ s₂.heap.Ns N mN ∧ OwnTail s₂.heap bmB bm ∧
        (∃ og us, s₂.heap.get? g = some og ∧ og.data = .fields us ∧ us[2]? = some .none) ∧ ∀ h' e, RaisedH s₂.heap h' g e (.ref C) a.pos → E (.ref e) { s₂ with heap := h' }) E s₁) E s) :
    wpAny (model prog w) A (exec (.Raise (some (.Call (.Name x np) args [] cpos)) none pos) env) Q E s := by
  rw [arm_exec_Raise]
  first
    | refine wpAny_bind (wpAny_standAt (raiseStmt_held (C := C) (nm := nm) (q := q) (N := N) (bs := bs) (bm := bm) (hdct := hdct) (sn := sn) (sub := sub) (ab := ab) (col := col) (dd := dd) (k0 := k0) (k1 := k1) (k2 := k2) (k3 := k3) (k5 := k5) (newId := newId) hbase hh (wpAny_bind (wpAny_mono (wpAny_Call_ofName (wpAny_mono h (fun f s₁ h₁ => ?_) fun _ _ x => x)) (fun v s₃ h₃ => wpAny_bind (wpAny_standAt (wpAny_pure h₃))) fun _ _ x => x))))
    | (simp only [evalOpt, Option.map]; refine wpAny_bind (wpAny_standAt (raiseStmt_held (C := C) (nm := nm) (q := q) (N := N) (bs := bs) (bm := bm) (hdct := hdct) (sn := sn) (sub := sub) (ab := ab) (col := col) (dd := dd) (k0 := k0) (k1 := k1) (k2 := k2) (k3 := k3) (k5 := k5) (newId := newId) hbase hh (wpAny_bind (wpAny_mono (wpAny_Call_ofName (wpAny_mono h (fun f s₁ h₁ => ?_) fun _ _ x => x)) (fun v s₃ h₃ => wpAny_bind (wpAny_standAt (wpAny_pure h₃))) fun _ _ x => x)))))
  obtain ⟨rfl, h₁⟩ := h₁
  unfold callWith
  refine wpAny_bind (wpAny_holding (wpAny_mono h₁ (fun a s₂ h₂ => wpAny_bind (wpAny_standAt ?_)) fun _ _ x => x))
  obtain ⟨apos, akw⟩ := a
  obtain ⟨hkw, hlen, hC, hn, T, ⟨og, us, hgo, hgd, hg2⟩, h₂⟩ := h₂
  obtain rfl : akw = [] := hkw
  obtain ⟨hp, gn, d, tk, os⟩ := s₂
  simp only [hplain]
  refine wpAny_bind (wpAny_keeperOf_exc hC ?_)
  refine wpAny_bind (wpAny_call_exc_subT (hrest := hlen) F T hC hn hni fun h' e hm => wpAny_bind (wpAny_holding (wpAny_point (wpAny_pure ?_))))
  obtain ⟨t, ht, _, _⟩ := hm.there
  exact ⟨e, t, rfl, (fun z => by have := hm.new; rw [← z, hgo] at this; cases this), ⟨og, us, hm.keeps _ _ hgo, hgd, hg2⟩, hm.keeps _ _ hC, ht, h₂ _ e ⟨h', hm, rfl⟩⟩
end
section
variable {prog : Program} {w : World} {A : Around} {E : Value → Shared → Prop} {s : Shared} {name : Str} {scope : Scope} {L a g : Addr} {cd : Value} {h₀ : Heap} {m mg : Str → Option Value}
  {x : Str} {C : Addr} {B newId initId : String} {bm : List Value} {np cpos pos : Pos} {Q : Flow → Shared → Prop}
theorem Raise_ownH {e₀ : Expr} {rest : List Expr} {og : Obj} (F : Fr h₀ L s.heap m) (hg : h₀.Ns mainGlobals mg) (O : OwnCls x C bm newId mg h₀) (FB : ExcBaseFacts B newId initId bm) (hh : A.handled = some (.ref g)) (hgo : h₀.get? g = some og) (hz : HeldZ og)
    (h : wpAny (model prog w) A (spliced (backTo cpos (starEach (e₀ :: rest) (envOf name scope L a cd)))) (fun vs s₂ => vs.length ≤ sizeLine ∧ (∀ b o, h₀.get? b = some o → s₂.heap.get? b = some o) ∧
      ∀ h' e, RaisedH s₂.heap h' g e (.ref C) vs → E (.ref e) { s₂ with heap := h' }) E s)
    (he : starEach (e₀ :: rest) (envOf name scope L a cd) = (false, eval e₀ (envOf name scope L a cd)) :: starEach rest (envOf name scope L a cd) := by rfl)
    (hplain : (backTo cpos (starEach rest (envOf name scope L a cd))).any (·.1) = false := by rfl)
    (hk : scope.kind = .function := by rfl) (hx : (envOf name scope L a cd).kindOf x = some .globalImplicit := by rfl) (hd : (x == ("__debug__" : Str)) = false := by decide) :
    wpAny (model prog w) A (exec (.Raise (some (.Call (.Name x np) (e₀ :: rest) [] cpos)) none pos) (envOf name scope L a cd)) Q E s := by
  obtain ⟨tl, N, nm, q, bs, hdct, sn, sub, ab, col, dd, k0, k1, k2, k3, k5, mN, hC, hN, hni, T⟩ := O.obj
  obtain ⟨us, hgd, hg2⟩ := hz
  refine Raise_subH (C := C) (nm := nm) (q := q) (N := N) (bs := bs) (bm := tl) (hdct := hdct) (sn := sn) (sub := sub) (ab := ab) (col := col) (dd := dd) (k0 := k0) (k1 := k1) (k2 := k2) (k3 := k3) (k5 := k5)
    FB (mN := mN) (T.hasType FB.hasBase) hh (by rw [he]; show (false || (backTo cpos (starEach rest (envOf name scope L a cd))).any (·.1)) = false; rw [hplain]; rfl) hni (ld_own F hg O ⟨rfl, ?_⟩ hk hx hd)
  rw [he] at h ⊢
  exact Calls.evalArgs_plain (wpAny_mono h (fun vs s₂ h₂ => ⟨rfl, h₂.1, h₂.2.1 _ _ hC, hN.keeps h₂.2.1, T.keeps h₂.2.1, ⟨og, us, h₂.2.1 _ _ hgo, hgd, hg2⟩, h₂.2.2⟩) fun _ _ y => y)
end
section
variable {prog : Program} {w : World} {A A₀ : Around} {s s' : Shared} {L L' a f ac g : Addr} {h₀ base hh : Heap} {m m' : Str → Option Value} {news : List (Addr × Obj)} {outer : List Env} {Q : Unit → Shared → Prop} {E : Value → Shared → Prop}
  {name cn : Str} {scope cs : Scope} {cls cd cd' : Value} {vs : List Value} {cl : List (Str × Addr)}
theorem leaveH (V : LV A₀ base outer h₀ L s m news) (hf : A.frames = some (envX cn cs L ac cd' cl :: outer)) (hx : RaisedH hh s'.heap g a cls vs) (F' : Fr s.heap L' hh m') (hk : scope.kind = .function) (hks : cs.kind = .function)
    (k : ∀ G h' t, Fr h₀ L G m → RaisedS base G (envX cn cs L ac cd' cl :: outer) a cls t vs news h' → G.UpToSlots h' → Q () { s' with heap := h' }) :
    wpAny (model prog w) (A.deeper (envOf name scope L' f cd)) (leaving (envOf name scope L' f cd) (.ref a)) Q E s' := by
  obtain ⟨B, F, N⟩ := V
  obtain ⟨h₁, hm, hs'⟩ := hx
  have B₂ : Below A base (envX cn cs L ac cd' cl :: outer) s.heap := ⟨hf, fun b o e => F.keep b o (B.stays b o e), (pushX B F rfl hks).frames⟩
  have K' := B₂.push (name := name) (a := f) (cd := cd) F' hk
  obtain ⟨oL, es, ep, hL, hLd, hLk, hLf⟩ := F.ns
  have nmem : ∀ b o, h₀.get? b = some o → b ∉ news.map (·.1) := fun b o e q => by
    obtain ⟨x, hx, rfl⟩ := List.mem_map.mp q
    rw [(N x hx).2.2] at e; cases e
  have nL : L ∉ news.map (·.1) := fun q => by
    obtain ⟨x, hx, e⟩ := List.mem_map.mp q
    exact (N x hx).2.1 e
  have FG : Fr h₀ L (hideAll s.heap (news.map (·.1))) m := ⟨⟨oL, es, ep, hideAll_get _ hL nL, hLd, hLk, hLf⟩, fun b o e => hideAll_get _ (F.keep b o e) (nmem b o e), F.above⟩
  have hin : ∀ env ∈ (envOf name scope L' f cd :: envX cn cs L ac cd' cl :: outer), ∀ b, env.frame = some b → b ∈ (envOf name scope L' f cd :: envX cn cs L ac cd' cl :: outer).filterMap (·.frame) := fun env he b hb => List.mem_filterMap.mpr ⟨env, he, hb⟩
  have nfr : ∀ q ∈ news, q.1 ∉ (envX cn cs L ac cd' cl :: outer).filterMap (·.frame) := fun q hq hm => by
    obtain ⟨env', he, hf'⟩ := List.mem_filterMap.mp hm
    rcases List.mem_cons.mp he with rfl | he
    · exact (N q hq).2.1 (Option.some.inj hf').symm
    · obtain ⟨o, ho', _⟩ := (B.frames.mem (List.mem_filterMap.mpr ⟨env', he, hf'⟩)).2
      rw [(N q hq).2.2] at ho'; cases ho'
  have nL' : ∀ b o, s.heap.get? b = some o → b ≠ L' := fun b o e z => by
    rw [z, kts_self F'] at e; cases e
  have up : ∀ b o, s.heap.get? b = some o → b ∉ (envX cn cs L ac cd' cl :: outer).filterMap (·.frame) → (hideAll hh ((envOf name scope L' f cd :: envX cn cs L ac cd' cl :: outer).filterMap (·.frame))).get? b = some o := fun b o e nm => hideAll_get _ (F'.keep b o e) fun hm => by
    rcases kts_mem hm with z | z
    · exact nL' b o e z
    · exact nm z
  obtain ⟨t, he, htn, ht⟩ := hm.there
  have hide : ∀ b, hh.get? b = none → (hideAll hh ((envOf name scope L' f cd :: envX cn cs L ac cd' cl :: outer).filterMap (·.frame))).get? b = none := fun b hb => by
    cases q : (hideAll hh ((envOf name scope L' f cd :: envX cn cs L ac cd' cl :: outer).filterMap (·.frame))).get? b with
    | none => rfl
    | some o => have := of_hideAll _ q; rw [hb] at this; cases this
  have te : t ≠ a := fun z => by rw [z, he] at ht; cases ht
  have ot : ∀ b, b ≠ a → s'.heap.get? b = h₁.get? b := fun b nb => by rw [hs']; exact Heap.get?_update_other _ _ (Ne.symm nb)
  have kp : ∀ b o, hh.get? b = some o → s'.heap.get? b = some o := fun b o e => (ot b fun z => by rw [z, hm.new] at e; cases e).trans (hm.keeps b o e)
  have hea : s'.heap.get? a = some { cls := cls, data := .fields #[.ref t, .none, .ref g, .none, .bool false, .none] } := by
    rw [hs']
    exact Heap.get?_update_self _ he rfl
  refine wpAny_leaving_firstW (a0 := .ref t) K'.stack ((funFrames_hide K'.frames hin).of_keeps fun b o q _ => ⟨o, kp b o q, rfl⟩) rfl hea (fun b o q => kp b o (of_hideAll _ q)) (hide a hm.new) rfl rfl rfl fun h' hL => ?_
  obtain ⟨k1, ⟨_, _, k2⟩, k3, k4⟩ := hL
  have ht' : s'.heap.get? t = some { cls := .type "tuple", data := .seq vs.toArray } := (ot t te).trans ht
  refine k _ h' t FG ⟨⟨_, fun b o q => hideAll_get _ (K'.stays b o q) (fun hm => by rw [(K'.frames.mem hm).1] at q; cases q), fun b o q => up b o (of_hideAll _ q), fun q hq => ⟨up _ _ (N q hq).1 (nfr q hq), hideAll_none _ (List.mem_map_of_mem hq), fresh_of_stays B.stays (N q hq).2.2⟩, ⟨k1, hide a hm.new, k2, k3⟩, hide t htn⟩, Heap.TupAt.of_slots ⟨_, _, ht', rfl, rfl⟩ k4⟩ ?_
  exact (Heap.UpToSlots.of_keeps fun b o e => kp b o (F'.keep b o (of_hideAll _ e))).trans k4
end
theorem raised_unturn {base g g' h : Heap} {l : List Env} {e t : Addr} {cls : Value} {vs : List Value} {news : List (Addr × Obj)} (R : RaisedS base g' l e cls t vs news h) (T : KtsTurn (l.filterMap (·.frame)) g g') : RaisedS base g l e cls t vs news h := by
  obtain ⟨⟨B, hB, hG, hl, hf⟩, ht⟩ := R
  refine ⟨⟨B, hB, fun b o q nm => hG b o (T.other b o q nm) nm, fun q hq => ⟨(hl q hq).1, ?_, (hl q hq).2.2⟩, hf⟩, ht⟩
  cases z : g.get? q.1 with
  | none => rfl
  | some o =>
    obtain ⟨sl, hs⟩ := T.up z
    rw [(hl q hq).2.1] at hs; cases hs
theorem up_unturn {fs : List Addr} {g g' h : Heap} (U : g'.UpToSlots h) (T : KtsTurn fs g g') : g.UpToSlots h := fun b o q nf => by
  obtain ⟨sl, hs⟩ := T.up q
  obtain ⟨sl', hs'⟩ := U b { o with slots := sl } hs nf
  exact ⟨sl', hs'⟩
end
end Mine
namespace Mine
section
open PySem PySem.W PySem.Calls PyProof.Rows
open PySem.Builtin PySem.Builtin.Str
noncomputable def hx2 (n : Int) : PySem.Str := Txt.item "0123456789abcdef" (n.fdiv 16) ++ Txt.item "0123456789abcdef" (n.fmod 16)
noncomputable def fX : Percent := { zero := true, width := some 2, type := 120 }
noncomputable def laidX (n : Nat) : List Nat := match percentField fX true (percentInt fX false ((Nat.toDigits 16 n).map Char.toNat)) with
  | none => percentInt fX false ((Nat.toDigits 16 n).map Char.toNat)
  | some l => l
theorem laidX_is : ∀ n : Nat, n < 256 → laidX n = (hx2 (n : Int)).cps.toList := by decide +kernel
theorem hx2_len : ∀ n : Nat, n < 256 → (hx2 (n : Int)).length = 2 := by decide +kernel
theorem mod_x (i : Int) (t u : Tok) (h0 : 0 ≤ i) (h1 : i < 256) : Meets («str.__mod__» ⟨[.str ⟨#[37, 48, 50, 120]⟩ t, .int i u], []⟩) (fun _ R s => ∀ t' k, R (.ok (.ret (.str (hx2 i) t'))) { s with toks := k }) := by
  obtain ⟨n, rfl⟩ := Int.eq_ofNat_of_zero_le h0
  have hn : n < 256 := by omega
  have key := laidX_is n hn
  have hl := hx2_len n hn
  have neg : decide ((n : Int) < 0) = false := decide_eq_false (by omega)
  apply KPc.meets_of
  intro _ _ _ _ _ _ hQ
  rw [KPc.entry_is]
  unfold percentFormat
  refine wpAny_bind (wpAny_isInstance (typeIs_int _ _ _) F.sub_int_tuple ?_)
  refine wpAny_bind (wpAny_of_eq (a := none) rfl ?_)
  refine wpAny_bind (wpAny_of_eq (KPc.fills _ _) ?_)
  kpc_if
  refine wpAny_bind (wpAny_pure ?_)
  refine wpAny_bind ?_
  rw [KPc.range_list]
  refine KPc.start ?_
  intro w' g0
  refine KPc.turn ?_
  kpc_check
  (repeat kpc_if)
  refine wpAny_bind ?_
  refine wpAny_holding ?_
  (repeat kpc_if)
  refine wpAny_bind (wpAny_of_eq (a := _) rfl ?_)
  (repeat kpc_if)
  refine wpAny_bind (wpAny_pure ?_)
  refine wpAny_pure ?_
  refine wpAny_of_eq (a := ForInStep.yield ([], w'.add ⟨(laidX n).toArray⟩ none, [])) ?e ?_
  case e =>
    rw [neg]
    dsimp only
    unfold laidX
    split
    all_goals rename_i heq
    · rw [show percentField fX true (percentInt fX false ((Nat.toDigits 16 n).map Char.toNat)) = none from heq]
      rfl
    · rw [show percentField fX true (percentInt fX false ((Nat.toDigits 16 n).map Char.toNat)) = some _ from heq]
  rw [key]
  refine KPc.after_add0 (by kpc_g) rfl (by kpc_obj) ?_
  intro w2 g2
  rw [show (⟨(hx2 (n : Int)).cps.toList.toArray⟩ : PySem.Str) = hx2 n from rfl, hl] at g2
  kpc_turns
section
variable {prog : Program} {w : World} {A : Around} {E : Value → Shared → Prop} {s : Shared} {X : PySem.Str} {n : Int} {t u : Tok} {Q : Value → Shared → Prop}
theorem mod_hex (hX : X = ⟨#[37, 48, 50, 120]⟩) (h0 : 0 ≤ n) (h1 : n < 256) (h : ∀ t' k, Q (.str (hx2 n) t') { s with toks := k }) : wpAny (model prog w) A (binaryOp .Mod (.str X t) (.int n u)) Q E s := by
  subst hX
  exact AutoFloatOps.binaryOp_left_meets (T := "str") (U := "int") (op := .Mod) (by decide) (typeIs_str s _ t) (fun s' => typeIs_int s' n u) F.fills_str_mod F.fills_int_mod F.sub_int_str F.slot_str_mod F.slot_int_rmod F.entry_str_mod (F.args_str_mod_2 _ _)
    (mod_x n t u h0 h1) (fun t' k => ⟨(fun e => nomatch e), h t' k⟩)
end
theorem u8_lt (c : UInt8) : (c.toNat : Int) < 256 := by have := c.toNat_lt; omega
theorem four_le {b : Array UInt8} (hz : b.size = 12) (h : KBw.bInts (KBy.picked b (some 0) (some 4)) = ((KBw.bInts b).drop ((some (0 : Int)).elim 0 (clipAt (KBw.bInts b).length))).take ((some (4 : Int)).elim (KBw.bInts b).length (clipAt (KBw.bInts b).length) - (some (0 : Int)).elim 0 (clipAt (KBw.bInts b).length))) :
    (KBw.bInts (KBy.picked b (some 0) (some 4))).length ≤ 8 := by
  rw [h, List.length_take, KBw.ints_length, hz]
  exact Nat.le_trans (Nat.min_le_left _ _) (by decide)
def CMark : Prop := True
noncomputable def shAt (B : Array UInt8) (i : Nat) : Int := (KBw.bInts B).getD (0 + (i : Int)).toNat 0 * 2 ^ (24 - 8 * (0 + (i : Int))).toNat
noncomputable def shs (B : Array UInt8) (i : Nat) : List Int := (List.range i).map (shAt B)
theorem shs_push {B : Array UInt8} {i : Nat} {ys : List Value} {t : Tok} {v : Int} (h : IntsAre ys (shs B i)) (e : v = shAt B i) : IntsAre (ys ++ [.int v t]) (shs B (i + 1)) := by
  subst e
  unfold shs
  rw [List.range_succ, List.map_append]
  exact h.append (.cons _ _ .nil)
theorem shs_sum {B : Array UInt8} (hB : B.size = 12) (h : KBw.bInts (KBy.picked B (some 0) (some 4)) = ((KBw.bInts B).drop ((some (0 : Int)).elim 0 (clipAt (KBw.bInts B).length))).take ((some (4 : Int)).elim (KBw.bInts B).length (clipAt (KBw.bInts B).length) - (some (0 : Int)).elim 0 (clipAt (KBw.bInts B).length))) :
    KFB.value (KBw.bInts (KBy.picked B (some 0) (some 4))) = (shs B 4).sum := by
  have l : (KBw.bInts B).length = 12 := by rw [KBw.ints_length]; exact hB
  have e : shs B 4 = [shAt B 0, shAt B 1, shAt B 2, shAt B 3] := rfl
  rw [h, e]
  unfold shAt
  generalize KBw.bInts B = ks at l
  have c4 : clipAt ks.length 4 = 4 := by
    have := clipAt_cast ks.length 4
    rw [if_neg (by omega)] at this
    omega
  have c0 : clipAt ks.length 0 = 0 := by
    have := clipAt_cast ks.length 0
    rw [if_neg (by omega)] at this
    omega
  simp only [Option.elim, c4, c0]
  match ks, l with
  | a :: b :: c :: d :: r, _ =>
    simp [KFB.value]
    omega
end
end Mine
open PySem PySem.W PySem.Calls PyProof.Rows
namespace Mine
set_option maxHeartbeats 8000000
theorem us9 {a k n m : Nat} (h : a + (k + n) < m) : a + k + n < m := by rw [Nat.add_assoc]; exact h
theorem um9 {a k n m m' : Nat} (h : a + n < m) (e : k ≤ n) (e' : m ≤ m') : a + k < m' := Nat.lt_of_lt_of_le (Nat.lt_of_le_of_lt (Nat.add_le_add_left e a) h) e'
theorem ul9 {a k n m : Nat} (h : a + (k + n) ≤ m) : a + k + n ≤ m := by rw [Nat.add_assoc]; exact h
theorem uz9 {a n m m' : Nat} (h : a + n < m) (e' : m ≤ m') : a < m' := Nat.lt_of_lt_of_le (Nat.lt_of_le_of_lt (Nat.le_add_right a n) h) e'
def IsV (prog : Program) (w : World) (news : List (Addr × Obj)) (v : Value) (D : Addr) (same : Bool) (tb : Value) : Prop :=
  (∀ {A : Around} {E Q : Value → Shared → Prop} {s : Shared} {h₁ : Heap} {L₁ : Addr} {m₁ : Str → Option Value}, Fr h₁ L₁ s.heap m₁ → (K w.params).In h₁ → News h₁ L₁ s.heap news → (∀ tk, Q (.bool same) { s with toks := tk }) → wpAny (model prog w) A (call (.builtin "isinstance") [v, .ref D]) Q E s) ∧
  (∀ {h₁ h : Heap} {L₁ : Addr}, News h₁ L₁ h news → Looks (model prog w) h (typeOf v) tb) ∧ notFirst (K w.params) D tb = true
theorem nameX_L9 {prog : Program} {w : World} {A : Around} {E Q : Value → Shared → Prop} {s : Shared} {h₀ : Heap} {L a : Addr} {m : Str → Option Value} {cn : Str} {cs : Scope} {ccd : Value} {cl : List (Str × Addr)} {x : Str} {v : Value} {pos : Pos} (F : Fr h₀ L s.heap m) (hv : m x = some v) (h : Q v s)
    (hk : cs.kind = .function) (hx : cs.names.lookup x = some .local) (hd : (x == ("__debug__" : Str)) = false) :
    wpAny (model prog w) A (eval (.Name x pos) (envX cn cs L a ccd cl)) Q E s := nameX_L F hv h hk hx hd
def nmc9 (cs : Scope) (k : NameKind) (x : Str) : Bool := decide (cs.kind = .function) && (decide (cs.names.lookup x = some k) && !(x == ("__debug__" : Str)))
theorem nmc9_k {cs : Scope} {k : NameKind} {x : Str} (h : nmc9 cs k x = true) : cs.kind = .function := of_decide_eq_true (Bool.and_eq_true_iff.mp h).1
theorem nmc9_x {cs : Scope} {k : NameKind} {x : Str} (h : nmc9 cs k x = true) : cs.names.lookup x = some k := of_decide_eq_true (Bool.and_eq_true_iff.mp (Bool.and_eq_true_iff.mp h).2).1
theorem nmc9_d {cs : Scope} {k : NameKind} {x : Str} (h : nmc9 cs k x = true) : (x == ("__debug__" : Str)) = false := (Bool.not_eq_true' _).mp (Bool.and_eq_true_iff.mp (Bool.and_eq_true_iff.mp h).2).2
theorem nL9 {cs : Scope} {cn : Str} {ccd : Value} {cl : List (Str × Addr)} {a : Addr} {prog : Program} {w : World} {h₀ : Heap} {L : Addr} {m : Str → Option Value} {A : Around} {E : Value → Shared → Prop} {x : Str} (hc : nmc9 cs .local x = true) {pos : Pos} {v : Value} (hv : m x = some v) {s : Shared} (F : Fr h₀ L s.heap m) {Q : Value → Shared → Prop} (h : Q v s) :
    wpAny (model prog w) A (eval (.Name x pos) (envX cn cs L a ccd cl)) Q E s := nameX_L F hv h (nmc9_k hc) (nmc9_x hc) (nmc9_d hc)
theorem nK9 {cs : Scope} {cn : Str} {ccd : Value} {cl : List (Str × Addr)} {a : Addr} {prog p : Program} {w : World} {Kf : Frag} {loose : List Str} {mean : ExcName → Option Value} {mg mb : Str → Option Value} {h₀ : Heap} (X : Kf.In h₀) (T : Top p loose mean mg mb h₀) {L : Addr} {m : Str → Option Value} {A : Around} {E : Value → Shared → Prop} {x : Str} (hc : nmc9 cs .globalImplicit x = true) {pos : Pos} {v : Value} (e : nsIn Kf mainGlobals x = some (some v)) {s : Shared} (F : Fr h₀ L s.heap m) {Q : Value → Shared → Prop} (h : Q v s) :
    wpAny (model prog w) A (eval (.Name x pos) (envX cn cs L a ccd cl)) Q E s := nameX_K F X (topRead_of T) e h (nmc9_k hc) (nmc9_x hc) (nmc9_d hc)
theorem nB9 {cs : Scope} {cn : Str} {ccd : Value} {cl : List (Str × Addr)} {a : Addr} {prog p : Program} {w : World} {Kf : Frag} {loose : List Str} {mean : ExcName → Option Value} {mg mb : Str → Option Value} {h₀ : Heap} (X : Kf.In h₀) (T : Top p loose mean mg mb h₀) {L : Addr} {m : Str → Option Value} {A : Around} {E : Value → Shared → Prop} {x : Str} (hc : nmc9 cs .globalImplicit x = true) {pos : Pos} {v : Value} (e : nsIn Kf mainGlobals x = some none) (hv : bootBuiltins x = some v) (hn : x ≠ "__name__") {s : Shared} (F : Fr h₀ L s.heap m) {Q : Value → Shared → Prop} (h : Q v s) :
    wpAny (model prog w) A (eval (.Name x pos) (envX cn cs L a ccd cl)) Q E s := nameX_B F X (topRead_of T) e hv hn h (nmc9_k hc) (nmc9_x hc) (nmc9_d hc)
theorem args9 {M : Model} {A : Around} {E : Value → Shared → Prop} {env : Env} {pos : Pos} {e : PySem.Expr} {rest : List PySem.Expr} {Q : List Value → Shared → Prop} {s : Shared}
    (h : wpAny M A (eval e env) (fun v s₁ => wpAny M A (spliced (backTo pos (starEach rest env))) (fun vs s₂ => Q (v :: vs) s₂) E s₁) E s)
    (he : starEach (e :: rest) env = (false, eval e env) :: starEach rest env) : wpAny M A (spliced (backTo pos (starEach (e :: rest) env))) Q E s := args_cons h he
theorem call9 {M : Model} {A : Around} {E : Value → Shared → Prop} {env : Env} {pos px : Pos} {x : Str} {args : List PySem.Expr} {Q : Value → Shared → Prop} {s : Shared}
    (h : wpAny M A (eval (.Name x px) env) (fun f s₁ => wpAny M A (callWith pos f [] (backTo pos (starEach args env)) []) Q E s₁) E s) : wpAny M A (eval (.Call (.Name x px) args [] pos) env) Q E s := Call_ h
def plain9 : PySem.Expr → Bool
  | .Starred _ _ => false
  | _ => true
def plains9 : List PySem.Expr → Bool
  | [] => true
  | e :: r => plain9 e && plains9 r
theorem starS9 {e : PySem.Expr} {rest : List PySem.Expr} {env : Env} (h : plain9 e = true) : starEach (e :: rest) env = (false, eval e env) :: starEach rest env := by
  cases e <;> first | rfl | exact Bool.noConfusion h
theorem anyS9 {pos : Pos} {env : Env} : ∀ {rest : List PySem.Expr}, plains9 rest = true → (backTo pos (starEach rest env)).any (·.1) = false
  | [], _ => rfl
  | e :: r, h => by
    have h' := Bool.and_eq_true_iff.mp h
    rw [starS9 h'.1]
    exact anyS9 (rest := r) h'.2
theorem spl9 {M : Model} {A : Around} {E : Value → Shared → Prop} {env : Env} {pos : Pos} {e : PySem.Expr} {rest : List PySem.Expr} (hp : plain9 e = true) {Q : List Value → Shared → Prop} {s : Shared}
    (h : wpAny M A (eval e env) (fun v s₁ => wpAny M A (spliced (backTo pos (starEach rest env))) (fun vs s₂ => Q (v :: vs) s₂) E s₁) E s) : wpAny M A (spliced (backTo pos (starEach (e :: rest) env))) Q E s := args_cons h (starS9 hp)
theorem spn9 {M : Model} {A : Around} {E : Value → Shared → Prop} {env : Env} {pos : Pos} {e : PySem.Expr} (hp : plain9 e = true) {Q : List Value → Shared → Prop} {s : Shared}
    (h : wpAny M A (eval e env) (fun v s₁ => Q [v] s₁) E s) : wpAny M A (spliced (backTo pos (starEach [e] env))) Q E s := spl9 hp (wpAny_mono h (fun _ _ q => args_nil q) (fun _ _ q => q))
theorem cwB1 {M : Model} {A : Around} {E : Value → Shared → Prop} {env : Env} {pos : Pos} {id : String} {e1 : PySem.Expr} (hp : plains9 [e1] = true) {Q : Value → Shared → Prop} {s : Shared} (h : wpAny M A (eval e1 env) (fun v1 s1 => wpAny M A (call (.builtin id) [v1]) Q E s1) E s) :
    wpAny M A (callWith pos (.builtin id) [] (backTo pos (starEach [e1] env)) []) Q E s :=
  callWith_builtin1 (spl9 (Bool.and_eq_true_iff.mp hp).1 (wpAny_mono h (fun _ _ q1 => args_nil q1) (fun _ _ q => q))) (starS9 (Bool.and_eq_true_iff.mp hp).1) (anyS9 (Bool.and_eq_true_iff.mp hp).2)
theorem cwT1 {M : Model} {A : Around} {E : Value → Shared → Prop} {env : Env} {pos : Pos} {id : String} {e1 : PySem.Expr} (hp : plains9 [e1] = true) {Q : Value → Shared → Prop} {s : Shared} (h : wpAny M A (eval e1 env) (fun v1 s1 => wpAny M A (call (.type id) [v1]) Q E s1) E s) :
    wpAny M A (callWith pos (.type id) [] (backTo pos (starEach [e1] env)) []) Q E s :=
  callWith_type1 (spl9 (Bool.and_eq_true_iff.mp hp).1 (wpAny_mono h (fun _ _ q1 => args_nil q1) (fun _ _ q => q))) (starS9 (Bool.and_eq_true_iff.mp hp).1) (anyS9 (Bool.and_eq_true_iff.mp hp).2)
theorem cwM1 {M : Model} {A : Around} {E : Value → Shared → Prop} {env : Env} {pos : Pos} {id : String} {x : Value} {e1 : PySem.Expr} (hp : plains9 [e1] = true) {Q : Value → Shared → Prop} {s : Shared} (h : wpAny M A (eval e1 env) (fun v1 s1 => wpAny M A (call (.builtin id) [x, v1]) Q E s1) E s) :
    wpAny M A (callWith pos (.builtin id) [x] (backTo pos (starEach [e1] env)) []) Q E s :=
  callWith_method1 (spl9 (Bool.and_eq_true_iff.mp hp).1 (wpAny_mono h (fun _ _ q1 => args_nil q1) (fun _ _ q => q))) (starS9 (Bool.and_eq_true_iff.mp hp).1) (anyS9 (Bool.and_eq_true_iff.mp hp).2)
theorem cwK1 {M : Model} {A : Around} {E : Value → Shared → Prop} {env : Env} {pos : Pos} {Kf : Frag} {h₀ : Heap} (X : Kf.In h₀) {f : Value} (hk : keepIn Kf f = true) {e1 : PySem.Expr} (hp : plains9 [e1] = true) {Q : Value → Shared → Prop} {s : Shared} (h : wpAny M A (eval e1 env) (fun v1 s1 => Kf.In s1.heap ∧ wpAny M A (call f [v1]) Q E s1) E s) :
    wpAny M A (callWith pos f [] (backTo pos (starEach [e1] env)) []) Q E s :=
  callWith_K X hk (spl9 (Bool.and_eq_true_iff.mp hp).1 (wpAny_mono h (fun _ _ q1 => args_nil q1) (fun _ _ q => q))) (starS9 (Bool.and_eq_true_iff.mp hp).1) (anyS9 (Bool.and_eq_true_iff.mp hp).2)
theorem cwB2 {M : Model} {A : Around} {E : Value → Shared → Prop} {env : Env} {pos : Pos} {id : String} {e1 e2 : PySem.Expr} (hp : plains9 [e1, e2] = true) {Q : Value → Shared → Prop} {s : Shared} (h : wpAny M A (eval e1 env) (fun v1 s1 => wpAny M A (eval e2 env) (fun v2 s2 => wpAny M A (call (.builtin id) [v1, v2]) Q E s2) E s1) E s) :
    wpAny M A (callWith pos (.builtin id) [] (backTo pos (starEach [e1, e2] env)) []) Q E s :=
  callWith_builtin1 (spl9 (Bool.and_eq_true_iff.mp hp).1 (wpAny_mono h (fun _ _ q1 => spl9 (Bool.and_eq_true_iff.mp (Bool.and_eq_true_iff.mp hp).2).1 (wpAny_mono q1 (fun _ _ q2 => args_nil q2) (fun _ _ q => q))) (fun _ _ q => q))) (starS9 (Bool.and_eq_true_iff.mp hp).1) (anyS9 (Bool.and_eq_true_iff.mp hp).2)
theorem cwM2 {M : Model} {A : Around} {E : Value → Shared → Prop} {env : Env} {pos : Pos} {id : String} {x : Value} {e1 e2 : PySem.Expr} (hp : plains9 [e1, e2] = true) {Q : Value → Shared → Prop} {s : Shared} (h : wpAny M A (eval e1 env) (fun v1 s1 => wpAny M A (eval e2 env) (fun v2 s2 => wpAny M A (call (.builtin id) [x, v1, v2]) Q E s2) E s1) E s) :
    wpAny M A (callWith pos (.builtin id) [x] (backTo pos (starEach [e1, e2] env)) []) Q E s :=
  callWith_method1 (spl9 (Bool.and_eq_true_iff.mp hp).1 (wpAny_mono h (fun _ _ q1 => spl9 (Bool.and_eq_true_iff.mp (Bool.and_eq_true_iff.mp hp).2).1 (wpAny_mono q1 (fun _ _ q2 => args_nil q2) (fun _ _ q => q))) (fun _ _ q => q))) (starS9 (Bool.and_eq_true_iff.mp hp).1) (anyS9 (Bool.and_eq_true_iff.mp hp).2)
theorem cwK2 {M : Model} {A : Around} {E : Value → Shared → Prop} {env : Env} {pos : Pos} {Kf : Frag} {h₀ : Heap} (X : Kf.In h₀) {f : Value} (hk : keepIn Kf f = true) {e1 e2 : PySem.Expr} (hp : plains9 [e1, e2] = true) {Q : Value → Shared → Prop} {s : Shared} (h : wpAny M A (eval e1 env) (fun v1 s1 => wpAny M A (eval e2 env) (fun v2 s2 => Kf.In s2.heap ∧ wpAny M A (call f [v1, v2]) Q E s2) E s1) E s) :
    wpAny M A (callWith pos f [] (backTo pos (starEach [e1, e2] env)) []) Q E s :=
  callWith_K X hk (spl9 (Bool.and_eq_true_iff.mp hp).1 (wpAny_mono h (fun _ _ q1 => spl9 (Bool.and_eq_true_iff.mp (Bool.and_eq_true_iff.mp hp).2).1 (wpAny_mono q1 (fun _ _ q2 => args_nil q2) (fun _ _ q => q))) (fun _ _ q => q))) (starS9 (Bool.and_eq_true_iff.mp hp).1) (anyS9 (Bool.and_eq_true_iff.mp hp).2)
theorem cwB3 {M : Model} {A : Around} {E : Value → Shared → Prop} {env : Env} {pos : Pos} {id : String} {e1 e2 e3 : PySem.Expr} (hp : plains9 [e1, e2, e3] = true) {Q : Value → Shared → Prop} {s : Shared} (h : wpAny M A (eval e1 env) (fun v1 s1 => wpAny M A (eval e2 env) (fun v2 s2 => wpAny M A (eval e3 env) (fun v3 s3 => wpAny M A (call (.builtin id) [v1, v2, v3]) Q E s3) E s2) E s1) E s) :
    wpAny M A (callWith pos (.builtin id) [] (backTo pos (starEach [e1, e2, e3] env)) []) Q E s :=
  callWith_builtin1 (spl9 (Bool.and_eq_true_iff.mp hp).1 (wpAny_mono h (fun _ _ q1 => spl9 (Bool.and_eq_true_iff.mp (Bool.and_eq_true_iff.mp hp).2).1 (wpAny_mono q1 (fun _ _ q2 => spl9 (Bool.and_eq_true_iff.mp (Bool.and_eq_true_iff.mp (Bool.and_eq_true_iff.mp hp).2).2).1 (wpAny_mono q2 (fun _ _ q3 => args_nil q3) (fun _ _ q => q))) (fun _ _ q => q))) (fun _ _ q => q))) (starS9 (Bool.and_eq_true_iff.mp hp).1) (anyS9 (Bool.and_eq_true_iff.mp hp).2)
theorem cwM3 {M : Model} {A : Around} {E : Value → Shared → Prop} {env : Env} {pos : Pos} {id : String} {x : Value} {e1 e2 e3 : PySem.Expr} (hp : plains9 [e1, e2, e3] = true) {Q : Value → Shared → Prop} {s : Shared} (h : wpAny M A (eval e1 env) (fun v1 s1 => wpAny M A (eval e2 env) (fun v2 s2 => wpAny M A (eval e3 env) (fun v3 s3 => wpAny M A (call (.builtin id) [x, v1, v2, v3]) Q E s3) E s2) E s1) E s) :
    wpAny M A (callWith pos (.builtin id) [x] (backTo pos (starEach [e1, e2, e3] env)) []) Q E s :=
  callWith_method1 (spl9 (Bool.and_eq_true_iff.mp hp).1 (wpAny_mono h (fun _ _ q1 => spl9 (Bool.and_eq_true_iff.mp (Bool.and_eq_true_iff.mp hp).2).1 (wpAny_mono q1 (fun _ _ q2 => spl9 (Bool.and_eq_true_iff.mp (Bool.and_eq_true_iff.mp (Bool.and_eq_true_iff.mp hp).2).2).1 (wpAny_mono q2 (fun _ _ q3 => args_nil q3) (fun _ _ q => q))) (fun _ _ q => q))) (fun _ _ q => q))) (starS9 (Bool.and_eq_true_iff.mp hp).1) (anyS9 (Bool.and_eq_true_iff.mp hp).2)
theorem cwK3 {M : Model} {A : Around} {E : Value → Shared → Prop} {env : Env} {pos : Pos} {Kf : Frag} {h₀ : Heap} (X : Kf.In h₀) {f : Value} (hk : keepIn Kf f = true) {e1 e2 e3 : PySem.Expr} (hp : plains9 [e1, e2, e3] = true) {Q : Value → Shared → Prop} {s : Shared} (h : wpAny M A (eval e1 env) (fun v1 s1 => wpAny M A (eval e2 env) (fun v2 s2 => wpAny M A (eval e3 env) (fun v3 s3 => Kf.In s3.heap ∧ wpAny M A (call f [v1, v2, v3]) Q E s3) E s2) E s1) E s) :
    wpAny M A (callWith pos f [] (backTo pos (starEach [e1, e2, e3] env)) []) Q E s :=
  callWith_K X hk (spl9 (Bool.and_eq_true_iff.mp hp).1 (wpAny_mono h (fun _ _ q1 => spl9 (Bool.and_eq_true_iff.mp (Bool.and_eq_true_iff.mp hp).2).1 (wpAny_mono q1 (fun _ _ q2 => spl9 (Bool.and_eq_true_iff.mp (Bool.and_eq_true_iff.mp (Bool.and_eq_true_iff.mp hp).2).2).1 (wpAny_mono q2 (fun _ _ q3 => args_nil q3) (fun _ _ q => q))) (fun _ _ q => q))) (fun _ _ q => q))) (starS9 (Bool.and_eq_true_iff.mp hp).1) (anyS9 (Bool.and_eq_true_iff.mp hp).2)
theorem cwK4 {M : Model} {A : Around} {E : Value → Shared → Prop} {env : Env} {pos : Pos} {Kf : Frag} {h₀ : Heap} (X : Kf.In h₀) {f : Value} (hk : keepIn Kf f = true) {e1 e2 e3 e4 : PySem.Expr} (hp : plains9 [e1, e2, e3, e4] = true) {Q : Value → Shared → Prop} {s : Shared} (h : wpAny M A (eval e1 env) (fun v1 s1 => wpAny M A (eval e2 env) (fun v2 s2 => wpAny M A (eval e3 env) (fun v3 s3 => wpAny M A (eval e4 env) (fun v4 s4 => Kf.In s4.heap ∧ wpAny M A (call f [v1, v2, v3, v4]) Q E s4) E s3) E s2) E s1) E s) :
    wpAny M A (callWith pos f [] (backTo pos (starEach [e1, e2, e3, e4] env)) []) Q E s :=
  callWith_K X hk (spl9 (Bool.and_eq_true_iff.mp hp).1 (wpAny_mono h (fun _ _ q1 => spl9 (Bool.and_eq_true_iff.mp (Bool.and_eq_true_iff.mp hp).2).1 (wpAny_mono q1 (fun _ _ q2 => spl9 (Bool.and_eq_true_iff.mp (Bool.and_eq_true_iff.mp (Bool.and_eq_true_iff.mp hp).2).2).1 (wpAny_mono q2 (fun _ _ q3 => spl9 (Bool.and_eq_true_iff.mp (Bool.and_eq_true_iff.mp (Bool.and_eq_true_iff.mp (Bool.and_eq_true_iff.mp hp).2).2).2).1 (wpAny_mono q3 (fun _ _ q4 => args_nil q4) (fun _ _ q => q))) (fun _ _ q => q))) (fun _ _ q => q))) (fun _ _ q => q))) (starS9 (Bool.and_eq_true_iff.mp hp).1) (anyS9 (Bool.and_eq_true_iff.mp hp).2)
theorem cwK5 {M : Model} {A : Around} {E : Value → Shared → Prop} {env : Env} {pos : Pos} {Kf : Frag} {h₀ : Heap} (X : Kf.In h₀) {f : Value} (hk : keepIn Kf f = true) {e1 e2 e3 e4 e5 : PySem.Expr} (hp : plains9 [e1, e2, e3, e4, e5] = true) {Q : Value → Shared → Prop} {s : Shared} (h : wpAny M A (eval e1 env) (fun v1 s1 => wpAny M A (eval e2 env) (fun v2 s2 => wpAny M A (eval e3 env) (fun v3 s3 => wpAny M A (eval e4 env) (fun v4 s4 => wpAny M A (eval e5 env) (fun v5 s5 => Kf.In s5.heap ∧ wpAny M A (call f [v1, v2, v3, v4, v5]) Q E s5) E s4) E s3) E s2) E s1) E s) :
    wpAny M A (callWith pos f [] (backTo pos (starEach [e1, e2, e3, e4, e5] env)) []) Q E s :=
  callWith_K X hk (spl9 (Bool.and_eq_true_iff.mp hp).1 (wpAny_mono h (fun _ _ q1 => spl9 (Bool.and_eq_true_iff.mp (Bool.and_eq_true_iff.mp hp).2).1 (wpAny_mono q1 (fun _ _ q2 => spl9 (Bool.and_eq_true_iff.mp (Bool.and_eq_true_iff.mp (Bool.and_eq_true_iff.mp hp).2).2).1 (wpAny_mono q2 (fun _ _ q3 => spl9 (Bool.and_eq_true_iff.mp (Bool.and_eq_true_iff.mp (Bool.and_eq_true_iff.mp (Bool.and_eq_true_iff.mp hp).2).2).2).1 (wpAny_mono q3 (fun _ _ q4 => spl9 (Bool.and_eq_true_iff.mp (Bool.and_eq_true_iff.mp (Bool.and_eq_true_iff.mp (Bool.and_eq_true_iff.mp (Bool.and_eq_true_iff.mp hp).2).2).2).2).1 (wpAny_mono q4 (fun _ _ q5 => args_nil q5) (fun _ _ q => q))) (fun _ _ q => q))) (fun _ _ q => q))) (fun _ _ q => q))) (fun _ _ q => q))) (starS9 (Bool.and_eq_true_iff.mp hp).1) (anyS9 (Bool.and_eq_true_iff.mp hp).2)
def AllM (l : List (Addr × Obj)) : List (Addr × Obj) → Prop
  | [] => True
  | [a] => a ∈ l
  | a :: b :: r => a ∈ l ∧ AllM l (b :: r)
theorem allM_of {l : List (Addr × Obj)} : ∀ {r : List (Addr × Obj)}, (∀ p ∈ r, p ∈ l) → AllM l r
  | [], _ => trivial
  | [_], h => h _ (.head _)
  | _ :: _ :: _, h => ⟨h _ (.head _), allM_of fun p hp => h p (.tail _ hp)⟩
theorem allMN {h₀ h : Heap} {L : Addr} {l : List (Addr × Obj)} (_ : News h₀ L h l) : AllM l l := allM_of fun _ h => h
@[elab_as_elim] theorem gen9L {P : List (Addr × Obj) → Prop} (l : List (Addr × Obj)) (h : ∀ x, P x) : P l := h l
theorem IsV.tl {prog : Program} {w : World} {news : List (Addr × Obj)} {v tb : Value} {D : Addr} {same : Bool} {p : Addr × Obj} (h : IsV prog w news v D same tb) : IsV prog w (p :: news) v D same tb :=
  ⟨fun F X N q => h.1 F X (News.tl N) q, fun N => h.2.1 (News.tl N), h.2.2⟩
def Has (p T : Prop) : Prop := T → p
theorem Has.hd {p q : Prop} : Has p (p ∧ q) := And.left
theorem Has.tl {p q r : Prop} (h : Has p q) : Has p (r ∧ q) := fun x => h x.2
theorem Has.self {p : Prop} : Has p p := id
theorem ne_gt9 {a b x : Nat} {P : Prop} (h : x < a ∧ P) (m : Has (b < a) (x < a ∧ P)) : a ≠ b := Nat.ne_of_gt (m h)
theorem ne_lt9 {a b x : Nat} {P : Prop} (h : x < b ∧ P) (m : Has (a < b) (x < b ∧ P)) : a ≠ b := Nat.ne_of_lt (m h)
theorem lt_c9 {a b x : Nat} {P : Prop} (h : x < b ∧ P) (m : Has (a < b) (x < b ∧ P)) : a < b := m h
theorem ltq9 {a b c : Nat} (h : c < b) (m : a < c) : a < b := Nat.lt_trans m h
theorem ne_cr9 {a b x : Nat} {P : Prop} (h : x ≠ b ∧ P) (m : Has (a ≠ b) (x ≠ b ∧ P)) : a ≠ b := m h
theorem lt19 {a : Nat} : a < a + 1 := Nat.lt_succ_self a
theorem lt29 {a : Nat} : a < a + 1 + 1 := Nat.lt_succ_of_lt lt19
theorem lt39 {a : Nat} : a < a + 1 + 1 + 1 := Nat.lt_succ_of_lt lt29
theorem lt49 {a : Nat} : a < a + 1 + 1 + 1 + 1 := Nat.lt_succ_of_lt lt39
theorem Has.lf {p q r : Prop} (h : Has p q) : Has p (q ∧ r) := fun x => h x.1
theorem Has.go {p a b c : Prop} (h : (a ∧ b) ∧ c) (m : Has p ((a ∧ b) ∧ c)) : p := m h
def AllLtB (d : Nat) : List (Addr × Obj) → Prop
  | [] => True
  | [p] => @LT.lt Nat _ p.1 d
  | p :: q :: r => @LT.lt Nat _ p.1 d ∧ AllLtB d (q :: r)
noncomputable def endsB : List (Addr × Obj) → Bool
  | [] => true
  | _ :: r => endsB r
theorem allLtB_of {d : Addr} : ∀ {l : List (Addr × Obj)}, (∀ p ∈ l, p.1 < d) → endsB l = true → AllLtB d l
  | [], _, _ => trivial
  | [p], h, _ => h p (.head _)
  | p :: _ :: _, h, e => ⟨h p (.head _), allLtB_of (fun q hq => h q (.tail _ hq)) e⟩
inductive Mk (n : Nat) : Prop
  | mk
local macro_rules | `(tactic| walk_at $s:str) => `(tactic| first | k_extra $s | fail)
local macro_rules | `(tactic| k_mem) => `(tactic| k_extra "k_mem")
local macro_rules | `(tactic| k_ne) => `(tactic| k_extra "k_ne")
local macro_rules | `(tactic| k_room) => `(tactic| k_extra "k_room")
local macro_rules | `(tactic| k_units) => `(tactic| k_extra "k_units")
local macro_rules | `(tactic| units_room) => `(tactic| k_extra "units_room")
local macro_rules | `(tactic| k_steps) => `(tactic| k_extra "k_steps")
local macro_rules | `(tactic| k_enter) => `(tactic| k_extra "k_enter")
theorem words_c1 : True := by
  k_with_none
  k_with "call ref" => (k_here; k_dflt (refine wpAny_call ?_; k_enter))
  k_with "k_mem" => ((repeat' first | (with_reducible exact List.mem_cons_self) | (with_reducible assumption) | exact List.Mem.head _ | refine List.mem_cons_of_mem _ ?_); done)
  k_with "my hs" => ((repeat' first | with_reducible exact Has.hd | with_reducible exact Has.self | with_reducible refine Has.tl ?_); done)
  k_with "my lt" => first | with_reducible assumption | (with_reducible refine' lt_c9 ?h ?m; (case h => with_reducible assumption); (case m => k_extra "my hs")) | (with_reducible refine' ltq9 ?h ?m; (case h => with_reducible assumption); (case m => k_extra "my lt"))
  k_with "my hg" => first | with_reducible exact Has.hd | with_reducible exact Has.self | (with_reducible refine Has.lf ?_; k_extra "my hg") | (with_reducible refine Has.tl ?_; k_extra "my hg")
  k_with "my ad" => with_reducible first | exact lt19 | exact lt29 | exact lt39 | exact lt49
  k_with "my ne" => first | (with_reducible refine Nat.ne_of_gt ?_; k_extra "my ad") | (with_reducible refine Nat.ne_of_lt ?_; k_extra "my ad") | (with_reducible refine' ne_cr9 ?h ?m; (case h => with_reducible assumption); (case m => k_extra "my hs")) | (with_reducible refine' Ne.symm (ne_cr9 ?h ?m); (case h => with_reducible assumption); (case m => k_extra "my hs")) | (with_reducible refine' Has.go ?h ?m; (case h => with_reducible assumption); (case m => k_extra "my hg")) | (with_reducible refine' Ne.symm (Has.go ?h ?m); (case h => with_reducible assumption); (case m => k_extra "my hg")) | (with_reducible refine Nat.ne_of_gt ?_; k_extra "my lt") | (with_reducible refine Nat.ne_of_lt ?_; k_extra "my lt")
  k_with "k_ne" => (refine neN ?_; (try dsimp only); first | with_reducible assumption | (with_reducible refine Ne.symm ?_; with_reducible assumption) | (with_reducible refine Nat.ne_of_lt ?_; with_reducible assumption) | (with_reducible refine Nat.ne_of_gt ?_; with_reducible assumption) | (with_reducible refine' ne_gt9 ?h ?m; (case h => with_reducible assumption); (case m => k_extra "my hs")) | (with_reducible refine' ne_lt9 ?h ?m; (case h => with_reducible assumption); (case m => k_extra "my hs")) | k_extra "my ne" | omega)
  k_with "my fq" => ((fail_if_success (fail_if_success k_fold)); refine let qk : _ → Shared → Prop := _; let ek : Value → Shared → Prop := _; (?_ : wpAny _ _ _ qk ek _))
  k_with "my fR" => refine let Rk : Result → Shared → Prop := _; let sv : Shared := _; (?_ : codeAny _ _ _ Rk sv)
  k_with "my en" => (k_extra "my enter"; intro g' L' h' FG' F' N' B' X' T'; (try dsimp only [lkB, List.cons_append, List.nil_append] at F'); (try k_lift B'); (try k_extra "my fq"); (try k_extra "my fa"))
  k_with "my en1" => (k_extra "my enter1"; intro g' L' h' FG' F' N' B' X' T' D'; (try dsimp only [lkB, List.cons_append, List.nil_append] at F'); (try k_lift B'); (try k_extra "my fq"); (try k_extra "my fa"))
  k_with "LeaveK" => ((fail_if_success k_made); (fail_if_success k_eltLeave); (k_dflt (refine' leaveK_ ?k1 ?k2 ?_; (case k1 => k_asm); (case k2 => k_asm); k_whole); intro kF kN; (try k_extra "my uf"); ground_anew kF; (have kX := kFor kF (by k_asm)); kts_tail))
  k_with "LeaveS0" => ((fail_if_success k_made); (k_dflt (refine' leaveS0_ ?F ?N ?T ?_; (case F => k_asm); (case N => k_asm); (case T => first | assumption | exact KtsTurn.refl); k_whole); intro kF kN; (try k_extra "my uf"); ground_anew kF; (have kX := kFor kF (by k_asm)); kts_tail))
  k_with "LeaveS" => ((fail_if_success k_made); first
    | (k_dflt (refine' leaveS_l ?F ?N ?_; (case F => k_asm); (case N => k_asm); k_whole); intro kF kN; (try k_extra "my uf"); ground_anew kF; (have kX := kFor kF (by k_asm)); kts_tail)
    | (k_dflt (refine' leaveS_r ?F ?N ?T ?_; (case F => k_asm); (case N => k_asm); (case T => first | assumption | exact KtsTurn.refl); k_whole); intro kg kT kF kN kB kX₀ kP kD; (try k_extra "my uf"); (have kX := kFor kF kX₀); (try k_lift kB); kts_tail))
  k_with "my uf" => ((fail_if_success (fail_if_success k_unfold)); first | with_reducible refine (?_ : wpAny _ _ _ _ _ _) | with_reducible refine (?_ : LeaveK _ _ _ _ _ _ _) | with_reducible refine (?_ : LeaveS0 _ _ _ _ _ _ _ _) | (k_unfold; (try dsimp only)))
  k_with "k_steps" => repeat' (first | k_extra "my uf" | (k_end; wrow_close) | walk1 | (dsimp only; walk1) | (leave1; walk_say "STEP leave1"; try dsimp only) | fail "no step")
  k_with "eval Call" => (k_here; with_reducible refine call9 ?_)
  k_with "spliced" => (k_here; (fail_if_success (with_reducible rename Mk 45 => mk9)); (with_reducible show wpAny _ _ (spliced (backTo _ (starEach (_ :: _) _))) _ _ _); (with_reducible first | refine' spn9 ?hp ?_ | refine' spl9 ?hp ?_); (case hp => k_dflt (exact Eq.refl true)))
  k_with "callWith" => (k_here; (fail_if_success (with_reducible rename Mk 45 => mk9)); (with_reducible first | refine' cwB1 ?hp ?_ | refine' cwB2 ?hp ?_ | refine' cwB3 ?hp ?_ | refine' cwT1 ?hp ?_ | refine' cwM1 ?hp ?_ | refine' cwM2 ?hp ?_ | refine' cwM3 ?hp ?_); (case hp => k_dflt (exact Eq.refl true)))
  k_with "callWith ref" => (k_here; (fail_if_success (with_reducible rename Mk 45 => mk9)); (with_reducible first | refine' cwK1 ?k1 ?k2 ?hp ?_ | refine' cwK2 ?k1 ?k2 ?hp ?_ | refine' cwK3 ?k1 ?k2 ?hp ?_ | refine' cwK4 ?k1 ?k2 ?hp ?_ | refine' cwK5 ?k1 ?k2 ?hp ?_); (case hp => k_dflt (exact Eq.refl true)); k_dflt ((case k1 => k_asm); (case k2 => k_is); k_whole))
  k_with "And" => ((with_reducible refine' (And.intro (a := Frag.In _ _) (b := wpAny _ _ (call _ (_ :: _)) _ _ _) ?ki ?_)); (case ki => k_in))
  k_with "my nx" => first | assumption | exact (fun p hp => (by assumption : News _ _ _ _) p (List.mem_cons_of_mem _ (hp))) | exact (fun p hp => (by assumption : News _ _ _ _) p (List.mem_cons_of_mem _ (List.mem_cons_of_mem _ (hp)))) | exact (fun p hp => (by assumption : News _ _ _ _) p (List.mem_cons_of_mem _ (List.mem_cons_of_mem _ (List.mem_cons_of_mem _ (hp))))) | k_extra "my drop"
  k_with "my fs" => refine let sv : Shared := _; (?_ : wpAny _ _ _ _ _ sv)
  k_with "my fm" => (with_reducible rename Fr _ _ _ (fun _ => _) => F9; refine let mv : Str → Option Value := _; have F8w9 : Fr _ _ _ mv := F9; ?_; clear F9)
  k_with "my fa" => refine let Ak : Around := _; (?_ : wpAny _ Ak _ _ _ _)
  k_with "my dp" => first | decide | ((try dsimp +zetaDelta only [recursionLimit, cLine, Around.mark, depth_under_make, depth_under_kw, depth_in1, depth_deeper, depth_caller, units_in1, units_deeper, units_under_make, Around.mark_units, units_caller]); (repeat with_reducible first | refine us9 ?_ | refine ul9 ?_); first | decide | (refine um9 (by with_reducible assumption) (by decide) (by decide)) | (refine Nat.le_of_lt (um9 (by with_reducible assumption) (by decide) (by decide))) | (refine uz9 (by with_reducible assumption) (by decide)) | (refine Nat.le_of_lt (uz9 (by with_reducible assumption) (by decide)))) | (simp +zetaDelta only [recursionLimit, cLine, Around.mark, depth_under_make, depth_under_kw, depth_in1, depth_deeper, depth_caller, units_in1, units_deeper, units_under_make, Around.mark_units, units_caller]; omega) | (dsimp only; omega)
  k_with "k_room" => k_extra "my dp"
  k_with "units_room" => k_extra "my dp"
  k_with "k_units" => k_extra "my dp"
  trivial
local macro_rules | `(tactic| k_lt $h:ident) => `(tactic| first | (replace $h := allLtB_of $h rfl; dsimp only [AllLtB] at $h:ident) | (replace $h := allLt_of $h; simp only [AllLt, and_true] at $h:ident))
local macro_rules | `(tactic| is_list) => `(tactic| first | exact News.isList (by k_asm) (by assumption) | exact News.isList (by k_asm) (List.mem_cons_of_mem _ (by assumption)) | exact News.isList (by k_asm) (List.mem_cons_of_mem _ (List.mem_cons_of_mem _ (by assumption))) | exact News.isList (by k_asm) (List.mem_cons_of_mem _ (List.mem_cons_of_mem _ (List.mem_cons_of_mem _ (by assumption)))) | exact News.isList (by k_asm) (List.mem_cons_of_mem _ (List.mem_cons_of_mem _ (List.mem_cons_of_mem _ (List.mem_cons_of_mem _ (by assumption))))) | exact News.isList (by k_asm) (List.mem_cons_of_mem _ (List.mem_cons_of_mem _ (List.mem_cons_of_mem _ (List.mem_cons_of_mem _ (List.mem_cons_of_mem _ (by assumption)))))) | exact News.isList (by k_asm) (List.mem_cons_of_mem _ (List.mem_cons_of_mem _ (List.mem_cons_of_mem _ (List.mem_cons_of_mem _ (List.mem_cons_of_mem _ (List.mem_cons_of_mem _ (by assumption))))))))
theorem words_c2 : True := by
  k_with "InitBack" => (k_here; dsimp only [InitBack])
  k_with "compareOp Lt bytes bytes" => (k_here; refine b_lt ?_)
  k_with "compareOp Lt ref ref" => (k_here; k_dflt (refine' tc_lt ?hx ?hy ?hu ?_; (case hx => exact News.isTup (by k_asm) (by k_mem)); (case hy => exact News.isTup (by k_asm) (by k_mem)); (case hu => k_units)))
  k_with "compareOp LtE bytes bytes" => (k_here; refine b_le ?_)
  k_with "compareOp LtE ref ref" => (k_here; k_dflt (refine' tc_le ?hx ?hy ?hu ?_; (case hx => exact News.isTup (by k_asm) (by k_mem)); (case hy => exact News.isTup (by k_asm) (by k_mem)); (case hu => k_units)))
  k_with "compareOp Gt bytes bytes" => (k_here; refine b_gt ?_)
  k_with "compareOp Gt ref ref" => (k_here; k_dflt (refine' tc_gt ?hx ?hy ?hu ?_; (case hx => exact News.isTup (by k_asm) (by k_mem)); (case hy => exact News.isTup (by k_asm) (by k_mem)); (case hu => k_units)))
  k_with "compareOp GtE bytes bytes" => (k_here; refine b_ge ?_)
  k_with "compareOp GtE ref ref" => (k_here; k_dflt (refine' tc_ge ?hx ?hy ?hu ?_; (case hx => exact News.isTup (by k_asm) (by k_mem)); (case hy => exact News.isTup (by k_asm) (by k_mem)); (case hu => k_units)))
  k_with "CmpBack" => (k_here; dsimp only [W.CmpBack])
  k_with "pyReprObj str" => (k_here; refine pyReprObj_str (hx := ?hx) ?_; (case hx => (simp only [sizeLine]; omega)))
  k_with "truthy bytes" => (k_here; refine truthy_bytes ?hx ?_; (case hx => first | (simp; done) | omega))
  k_with "call builtin:len" => (k_here; (with_reducible show wpAny _ _ (call (Value.builtin "len") [Value.bytes _ _]) _ _ _); refine len_bytes ?hx ?_; (case hx => omega))
  k_with "my enter1" => ((try k_extra "my fR"); first | (refine' enter1Z ?k1 ?k2 ?k3 ?k4 ?k5 ?kA ?kF ?kK ?k6 ?k7 ?k8 ?k9 ?kB ?_ ?c2 ?c3 ?c4 ?c5; (case kA => exact rfl); (case kF => exact rfl); (case kK => first | exact rfl | assumption); (case k1 => k_asm); (case k2 => k_asm); (case k3 => k_asm); (case k4 => k_asm); (case k5 => k_asm); (case k6 => k_is); (case k7 => k_is); (case k8 => k_extra "my dp"); (case k9 => first | exact bz_pos (by kernel_rfl!) | exact bz_dflt (by k_in) rfl (by k_is) rfl rfl (by kernel_rfl!)); (case c5 => decide +kernel); (case kB => decide +kernel); (case c2 => exact rfl); (case c3 => exact rfl); (case c4 => exact rfl)) | (refine' enter1 ?k1 ?k2 ?k3 ?k4 ?k5 ?kA ?kF ?kK ?k6 ?k7 ?k8 ?k9 ?kB ?_ ?c2 ?c3 ?c4 ?c5; (case kA => exact rfl); (case kF => exact rfl); (case kK => assumption); (case k1 => k_asm); (case k2 => k_asm); (case k3 => k_asm); (case k4 => k_asm); (case k5 => k_asm); (case k6 => k_is); (case k7 => k_is); (case k8 => k_extra "my dp"); (case k9 => first | exact BindsTo.of_eq rfl | exact binds_K (by k_in) rfl (by k_is) rfl rfl rfl | fail "k_enter: no rule for these arguments"); (case c5 => decide); (case kB => exact locs rfl); (case c2 => exact rfl); (case c3 => exact rfl); (case c4 => exact rfl)))
  k_with "my enter" => ((try k_extra "my fR"); first | (refine' code_defZ ?k1 ?k2 ?k3 ?k4 ?k5 ?kA ?kF ?kK ?k6 ?k7 ?k8 ?k9 ?kB ?_ ?c2 ?c3 ?c4 ?c5; (case kA => exact rfl); (case kF => exact rfl); (case kK => first | exact rfl | assumption); (case k1 => k_asm); (case k2 => k_asm); (case k3 => k_asm); (case k4 => k_asm); (case k5 => k_asm); (case k6 => k_is); (case k7 => k_is); (case k8 => k_extra "my dp"); (case k9 => first | exact bz_pos (by kernel_rfl!) | exact bz_dflt (by k_in) rfl (by k_is) rfl rfl (by kernel_rfl!)); (case c5 => decide +kernel); (case kB => decide +kernel); (case c2 => exact rfl); (case c3 => exact rfl); (case c4 => exact rfl)) | (refine' code_def ?k1 ?k2 ?k3 ?k4 ?k5 ?kA ?kF ?kK ?k6 ?k7 ?k8 ?k9 ?kB ?_ ?c2 ?c3 ?c4 ?c5; (case kA => exact rfl); (case kF => exact rfl); (case kK => assumption); (case k1 => k_asm); (case k2 => k_asm); (case k3 => k_asm); (case k4 => k_asm); (case k5 => k_asm); (case k6 => k_is); (case k7 => k_is); (case k8 => k_extra "my dp"); (case k9 => first | exact BindsTo.of_eq rfl | exact binds_K (by k_in) rfl (by k_is) rfl rfl rfl | fail "k_enter: no rule for these arguments"); (case c5 => decide); (case kB => exact locs rfl); (case c2 => exact rfl); (case c3 => exact rfl); (case c4 => exact rfl)))
  k_with "my drop" => (first | with_reducible assumption | (refine' News.tl (?dr); (case dr => with_reducible assumption)) | (refine' News.tl (News.tl (?dr)); (case dr => with_reducible assumption)) | (refine' News.tl (News.tl (News.tl (?dr))); (case dr => with_reducible assumption)) | (refine' News.tl (News.tl (News.tl (News.tl (?dr)))); (case dr => with_reducible assumption)) | (refine' News.tl (News.tl (News.tl (News.tl (News.tl (?dr))))); (case dr => with_reducible assumption)) | (refine' News.tl (News.tl (News.tl (News.tl (News.tl (News.tl (?dr)))))); (case dr => with_reducible assumption)) | (refine' News.tl (News.tl (News.tl (News.tl (News.tl (News.tl (News.tl (?dr))))))); (case dr => with_reducible assumption)) | (refine' News.tl (News.tl (News.tl (News.tl (News.tl (News.tl (News.tl (News.tl (?dr)))))))); (case dr => with_reducible assumption)) | (refine' News.tl (News.tl (News.tl (News.tl (News.tl (News.tl (News.tl (News.tl (News.tl (?dr))))))))); (case dr => with_reducible assumption)) | (refine' News.tl (News.tl (News.tl (News.tl (News.tl (News.tl (News.tl (News.tl (News.tl (News.tl (?dr)))))))))); (case dr => with_reducible assumption)) | (refine' News.tl (News.tl (News.tl (News.tl (News.tl (News.tl (News.tl (News.tl (News.tl (News.tl (News.tl (?dr))))))))))); (case dr => with_reducible assumption)) | (refine' News.tl (News.tl (News.tl (News.tl (News.tl (News.tl (News.tl (News.tl (News.tl (News.tl (News.tl (News.tl (?dr)))))))))))); (case dr => with_reducible assumption)) | (first | assumption | (refine' cb_drop ?cbN ?cbS; (case cbN => assumption); (case cbS => kcj_all))))
  k_with "eval Name" => (k_here; (with_reducible show wpAny _ _ (eval (Expr.Name _ _) _) _ _ _); name_kind "local"; k_dflt (refine' nL9 ?a ?v ?F ?_; (case F => k_asm); (case a => kernel_rfl); (case v => (first | ((repeat' first | with_reducible exact lk_hit | with_reducible assumption | with_reducible refine' lk_miss (by kernel_rfl) ?_); done) | exact rfl | with_reducible assumption)); k_whole))
  k_with "eval Name" => (k_here; (with_reducible show wpAny _ _ (eval (Expr.Name _ _) _) _ _ _); name_kind "globalImplicit"; k_dflt (refine' nK9 ?X ?T ?a ?e ?F ?_; (case F => k_asm); (case X => k_asm); (case e => (first | with_reducible exact g_UUID | with_reducible exact g_Binary | with_reducible exact g_Int64 | with_reducible exact g_Code | with_reducible exact g_DBRef | with_reducible exact g_MaxKey | with_reducible exact g_MinKey | with_reducible exact g_ObjectId | with_reducible exact g_Regex | with_reducible exact g_Timestamp | with_reducible exact g_Decimal128 | with_reducible exact g_DatetimeMS | with_reducible exact g_encode_objectidU | with_reducible exact g_encode_timestampU | with_reducible exact g_encode_minkeyU | with_reducible exact g_encode_maxkeyU | with_reducible exact g_PACK_INTU | with_reducible exact g_PACK_TIMESTAMPU | with_reducible exact g_make_nameU | with_reducible exact g_name_value_to_bsonU | with_reducible exact g_element_to_bsonU | with_reducible exact g_dict_to_bsonU | with_reducible exact g_encode | with_reducible exact g_decode | with_reducible exact g_bson_to_dictU | with_reducible exact g_elements_to_dictU | with_reducible exact g_element_to_dictU | with_reducible exact g_get_elementU | with_reducible exact g_get_c_stringU | with_reducible exact g_get_oidU | with_reducible exact g_get_timestampU | with_reducible exact g_get_object_sizeU | with_reducible exact g_UNPACK_INTU | with_reducible exact g_get_data_and_view | with_reducible exact g_index_nulU | with_reducible exact g_utf_8_encodeU | with_reducible exact g_utf_8_decodeU | with_reducible exact g_CodecOptions | with_reducible exact g_DEFAULT_CODEC_OPTIONS | with_reducible exact g_InvalidBSON | with_reducible exact g_InvalidDocument | with_reducible exact g_InvalidId | with_reducible exact g_law_madeU | with_reducible exact g_law_ordersU | with_reducible exact g_law_stampU | with_reducible exact g_law_littleU | with_reducible exact g_from_hexU | with_reducible exact g_raise_invalid_idU | with_reducible exact g_UNPACK_TIMESTAMP_FROMU | with_reducible exact g_UNPACK_INT_FROMU | k_is)); (case T => k_asm); (case a => kernel_rfl); k_whole))
  k_with "eval Name" => (k_here; (with_reducible show wpAny _ _ (eval (Expr.Name _ _) _) _ _ _); name_kind "globalImplicit"; name_is_builtin; k_dflt (refine' nB9 ?X ?T ?a ?e ?v ?n ?F ?_; (case F => k_asm); (case X => k_asm); (case e => (first | with_reducible exact gb_isinstance | with_reducible exact gb_bool | with_reducible exact gb_int | with_reducible exact gb_str | with_reducible exact gb_bytes | with_reducible exact gb_dict | with_reducible exact gb_list | with_reducible exact gb_tuple | with_reducible exact gb_len | with_reducible exact gb_range | with_reducible exact gb_ValueError | with_reducible exact gb_TypeError | with_reducible exact gb_KeyError | with_reducible exact gb_Exception | with_reducible exact gb_sum | with_reducible exact gb_abs | with_reducible exact gb_enumerate | k_is)); (case T => k_asm); (case a => kernel_rfl); (case v => boot_fast); (case n => decide +kernel); k_whole))
  k_with "call builtin:isinstance" => (k_here; (with_reducible show wpAny _ _ (call _ [Value.ref _, Value.ref _]) _ _ _); k_dflt (refine' isi_ownLT ?F ?X ?N ?m1 ?m2 ?i ?m3 ?_; (case N => k_asm); (case m1 => k_mem); (case m2 => k_mem); (case m3 => k_mem); (case i => decide +kernel); (case F => k_asm); (case X => k_asm); k_whole; intro isTw9))
  k_with "call builtin:isinstance" => (k_here; (with_reducible show wpAny _ _ (call _ [Value.ref _, _]) _ _ _); k_dflt (refine' isi_own ?F ?X ?N ?m1 ?m2 ?i ?e ?_; (case N => k_asm); (case m1 => k_mem); (case m2 => k_mem); (case i => decide +kernel); (case e => rfl); (case F => k_asm); (case X => k_asm); k_whole; intro isTw9))
  k_with "call builtin:isinstance" => (k_here; (with_reducible show wpAny _ _ (call _ [Value.int _ _, _]) _ _ _); k_dflt (refine' isi_int ?F ?X ?i ?e ?_; (case i => decide +kernel); (case e => rfl); (case F => k_asm); (case X => k_asm); k_whole; intro isTw9))
  k_with "call builtin:isinstance" => (k_here; (with_reducible show wpAny _ _ (call _ [Value.str _ _, _]) _ _ _); k_dflt (refine' isi_str ?F ?X ?i ?e ?_; (case i => decide +kernel); (case e => rfl); (case F => k_asm); (case X => k_asm); k_whole; intro isTw9))
  k_with "call builtin:isinstance" => (k_here; (with_reducible show wpAny _ _ (call _ [Value.bytes _ _, _]) _ _ _); k_dflt (refine' isi_bytes ?F ?X ?i ?e ?_; (case i => decide +kernel); (case e => rfl); (case F => k_asm); (case X => k_asm); k_whole; intro isTw9))
  k_with "call builtin:isinstance" => (k_here; (with_reducible show wpAny _ _ (call _ [Value.none, _]) _ _ _); k_dflt (refine' isi_none ?F ?X ?i ?e ?_; (case i => decide +kernel); (case e => rfl); (case F => k_asm); (case X => k_asm); k_whole; intro isTw9))
  k_with "call builtin:isinstance" => (k_here; (with_reducible show wpAny _ _ (call _ [Value.ref 262, Value.ref 256]) _ _ _); k_dflt (refine' isi_codec ?F ?X ?_; (case F => k_asm); (case X => k_asm); k_whole; intro isTw9))
  k_with "ite" => (first | with_reducible refine PyProof.Rows.ite_tt ?_ | with_reducible refine PyProof.Rows.ite_ff ?_)
  k_with "exec Raise some none" => (k_here; (first | (with_reducible show wpAny _ _ (exec (Stmt.Raise (some (Expr.Call (Expr.Name (Str.ofString "TypeError") _) _ _ _)) none _) _) _ _ _) | (with_reducible show wpAny _ _ (exec (Stmt.Raise (some (Expr.Call (Expr.Name (Str.ofString "ValueError") _) _ _ _)) none _) _) _ _ _)); refine Raise_new rfl ?_)
  k_with "And" => ((with_reducible show MethP _ _ _ _ _ ∧ _); refine ⟨by k_meth, ?_⟩; try dsimp only [List.nil_append, List.cons_append])
  k_with "And" => ((with_reducible show Frag.In _ _ ∧ _); refine ⟨by k_in, ?_⟩; try dsimp only [List.nil_append, List.cons_append])
  k_with "binaryOp Pow int int" => (k_here; (with_reducible refine pow_int_small ?kb1 ?kb2 ?kb3 ?_); (case kb1 => first | decide | exact Int.fmod_nonneg_of_pos _ (by decide) | exact Int.emod_nonneg _ (by decide)); (case kb2 => first | decide | exact Int.le_of_lt (Int.lt_of_lt_of_le (Int.fmod_lt_of_pos _ (by decide)) (by decide)) | exact Int.le_of_lt (Int.lt_of_lt_of_le (Int.emod_lt_of_pos _ (by decide)) (by decide))); (case kb3 => decide))
  k_with "execs cons" => (k_here; first | k_gentoks | ((with_reducible refine wpAny_execs_cons ?_); (try k_extra "my fq"); (try k_extra "my fs"); (try k_extra "my fm")))
  k_with "#0" => (k_here; (with_reducible show wpAny _ _ (eval (Expr.Name _ _) _) _ _ _); name_kind "local"; refine' nL9 ?hk ?hv ?F ?_; (case F => k_asm); (case hv => (first | exact rfl | with_reducible assumption | ((repeat (refine Eq.trans (if_neg (by decide)) ?_)); first | exact rfl | with_reducible assumption))); (case hk => kernel_rfl); k_whole)
  trivial
section
section
variable {prog p : Program} {w : World} {loose : List Str} {mean : ExcName → Option Value} {mg mb : Str → Option Value} {dp un : Nat}
  {gd : Option (List Code)} {cn : Str} {cs : Scope} {a : Addr} {ccd : Value} {cl : List (Str × Addr)} {outer : List Env} {A₀ : Around} {base h₀ : Heap} {L : Addr} {m : Str → Option Value} {s : Shared} {Q E : Value → Shared → Prop}
  {news : List (Addr × Obj)}
  (B : Below A₀ base outer h₀) (F : Fr h₀ L s.heap m) (X : (K w.params).In h₀) (N : News h₀ L s.heap news)
  (T : Top p loose mean mg mb h₀) (hk : cs.kind = .function) (hd : dp + 30 < 1000) (hu : un + 200 < 9900)
include B F X N T hk hd hu
local macro_rules | `(tactic| walk_at "pyIter ref") => `(tactic| k_extra "#pi1")
theorem words_1 : True := by
  k_with "eval Name" => (with_reducible rename Mk 1 => mk9); k_extra "#0"
  k_with "call builtin:len" => (with_reducible rename Mk 1 => mk9); (k_here; (with_reducible show wpAny _ _ (call (Value.builtin "len") [Value.str _ _]) _ _ _); refine len24 (by assumption) ?_)
  k_with "subscriptTail" => (with_reducible rename Mk 1 => mk9); (k_here; (with_reducible show wpAny _ _ (subscriptTail _ _ (Value.str _ _) (Value.int _ _)) _ _ _); k_dflt (refine KXi.item (n := 24) (by assumption) (by omega) (by omega) (by decide) ?_); intro kxiEw9)
  k_with "#pi1" => (k_here; (with_reducible rename IsRange _ _ _ _ _ _ _ _ => rgXw9); (with_reducible rename Fr _ _ _ _ => lF'w9); (with_reducible rename News _ _ _ _ => lN'w9); (with_unfolding_all refine' range_list (n := 12) (hexJ _ _ _) ?hh rgXw9 ?hs ?hn lF'w9 lN'w9 ?j0 ?turn ?done); (case hh => with_unfolding_all rfl); (case hs => decide); (case hn => decide); (case j0 => (refine hexJ0 ?a ?b; (case a => with_unfolding_all rfl); (case b => with_unfolding_all rfl))); (case' turn => (intro Iw9 iw9 tkw9 hw9 tkw9 m₁w9 vsw9 kw9 hiw9 hIw9 jw9 F'w9 N'w9; obtain ⟨j1w9, j2w9, j3w9, j4w9⟩ := jw9; clear lF'w9 lN'w9; have hlIw9 := hIw9 _ (List.mem_cons_self ..); (replace hlIw9 := ltN hlIw9); (dsimp only at hlIw9); clear hIw9; have hszw9 := hexSz j3w9 hiw9; (try simp only [List.nil_append, List.cons_append] at N'w9))); case' done => (intro m₁w9 vsw9 kw9 hw9 tkw9 jw9 F'w9 N'w9; obtain ⟨j1w9, j2w9, j3w9, j4w9⟩ := jw9; clear lF'w9 lN'w9))
  k_with "leaving ref" => (with_reducible rename Mk 1 => mk9); (k_here; (with_reducible rename Heap.NewExc _ _ _ _ => nxXw9); (with_reducible rename LV _ _ _ _ _ _ _ _ => lvXw9); refine leaveZ lvXw9 nxXw9 (by k_asm) rfl (by assumption) ?_; intro lvGw9 lvhw9 lvFw9 lvRw9 lvUw9)
  trivial
theorem from_hex {x : Str} {t : Tok} (hb : x.length = 24)
    (ret : hexOk x 12 → ∀ t' h' tk', Fr h₀ L h' m → News h₀ L h'  news → Q (.bytes (byteArr (hexes x 12)) t') { s with heap := h', toks := tk' })
    (err : ¬ hexOk x 12 → ∀ G a' h' tk', Fr h₀ L G m → RaisedZ base G (envX cn cs L a ccd cl :: outer) a' (.type "ValueError") news h' → G.UpToSlots h' → E (.ref a') { s with heap := h', toks := tk' }) :
    wpAny (model prog w) (ktrTop dp un gd cn cs L a ccd cl outer) (call (.ref 798) [.str x t]) Q E s := by
  have mk9 : Mk 1 := .mk
  refine wpAny_call ?_
  refine enter10 B F X N T rfl rfl hk (by k_is) (by k_is) (by k_extra "my dp") (BindsTo.of_eq rfl) (locs rfl) ?_ rfl rfl rfl (by decide)
  intro L' h₁ F' N' B' X' T'
  have lv : LV A₀ base outer h₀ L s m news := ⟨B, F, N⟩
  (try dsimp only at F'); k_steps
  all_goals first
    | (with_reducible show E (Value.ref _) _; exact err (hexNot1 (by with_reducible assumption) (by with_reducible assumption)) _ _ _ _ (by assumption) (by assumption) (by assumption))
    | (with_reducible show E (Value.ref _) _; exact err (hexNot2 (by with_reducible assumption) (by with_reducible assumption)) _ _ _ _ (by assumption) (by assumption) (by assumption))
    | (with_reducible show StepEnd _ _ _ _ _ _ _ _ _ _ _
       refine hexStep (by k_asm) (by k_asm) (by k_mem) (by k_mem) rfl ?_
       refine hexPush (by (first | exact rfl | assumption | (refine Eq.trans (if_neg (by decide)) ?_; first | exact rfl | assumption))) (by (first | exact rfl | assumption | (refine Eq.trans (if_neg (by decide)) ?_; first | exact rfl | assumption))) (by with_reducible assumption) (by with_reducible assumption) (hexAt_of (by with_reducible assumption) (by omega)) (hexAt_of (by with_reducible assumption) (by omega)) ?_
       refine hxd_sum rfl ?_ ?_
       all_goals first | exact .inl ⟨by with_reducible assumption, rfl⟩ | exact .inr ⟨Int.not_lt.mp (by with_reducible assumption), rfl⟩)
    | (with_reducible show wpAny _ _ (call (Value.type "bytes") _) _ _ _
       refine' KBa.make_K (vs := Array.toList _) ?F ?N rfl ?hl ?hi ?hr ?hn ?hh
       case F => k_asm
       case N => k_asm
       case hi => assumption
       case hl => exact ⟨_, (by assumption : News _ _ _ _) _ (List.mem_cons_self ..) |>.1, rfl, _, by rw [Array.toArray_toList]⟩
       case hr => exact hexes_in (by assumption)
       case hn => (rw [hexes, List.length_map, List.length_range]; decide)
       case hh => (intro h' t' k F' N' hin; k_steps; exact ⟨⟨_, F'⟩, fun kF kN => ret (by assumption) _ _ _ kF kN⟩))
end
end
section
theorem toTop {A : Around} {cn : Str} {cs : Scope} {L a : Addr} {cd : Value} {cl : List (Str × Addr)} {outer : List Env} (h1 : A.handled = none) (h2 : A.frames = some (envX cn cs L a cd cl :: outer)) : A = ktrTop A.depth A.units A.guards cn cs L a cd cl outer := by
  cases A; dsimp only at h1 h2; subst h1 h2; rfl
theorem hexSize {x : Str} (_ : hexOk x 12) : (byteArr (hexes x 12)).size = 12 := by
  simp only [byteArr, List.size_toArray, List.length_map, hexes, List.length_range]
section
variable {prog p : Program} {w : World} {loose : List Str} {mean : ExcName → Option Value} {mg mb : Str → Option Value} 
   {cn : Str} {cs : Scope} {a : Addr} {ccd : Value} {cl : List (Str × Addr)} {outer : List Env} {A₀ : Around} {base h₀ : Heap} {L : Addr} {m : Str → Option Value} {s : Shared} {Q E : Value → Shared → Prop}
  {news : List (Addr × Obj)}
  (B : Below A₀ base outer h₀) (F : Fr h₀ L s.heap m) (X : (K w.params).In h₀) (N : News h₀ L s.heap news)
  (T : Top p loose mean mg mb h₀) (hk : cs.kind = .function)
include B F X N T hk
theorem from_hex2 {A : Around} (hA : A.handled = none) (hf : A.frames = some (envX cn cs L a ccd cl :: outer)) (hd : A.depth + 30 < 1000) (hu : A.units + 200 < 9900) {x : Str} {t : Tok} (hb : x.length = 24)
    (h : (hexOk x 12 → ∀ t' h' tk', Fr h₀ L h' m → News h₀ L h'  news → Q (.bytes (byteArr (hexes x 12)) t') { s with heap := h', toks := tk' }) ∧
    (¬ hexOk x 12 → ∀ G a' h' tk', Fr h₀ L G m → RaisedZ base G (envX cn cs L a ccd cl :: outer) a' (.type "ValueError") news h' → G.UpToSlots h' → E (.ref a') { s with heap := h', toks := tk' })) :
    wpAny (model prog w) A (call (.ref 798) [.str x t]) Q E s := by
  have e : A = ktrTop A.depth A.units A.guards cn cs L a ccd cl outer := toTop hA hf
  rw [e]
  exact from_hex B F X N T hk hd hu hb h.1 h.2
end
end
theorem words_c3 : True := by
  k_with "#1" => (k_here; first | (refine ite_t ?h ?_; (case h => (simp only [beq_iff_eq, decide_eq_true_eq]; omega))) | (refine ite_f ?h ?_; (case h => (simp only [beq_iff_eq, decide_eq_true_eq]; omega))))
  k_with "#2" => (k_here; (with_reducible show PySem.Str.length (_ ++ _ ++ _) ≤ _ ∧ _); refine ⟨join_fit _ _ _ (by decide) (by first | with_reducible assumption | assumption) (by decide +kernel), ?_⟩)
  k_with "#3" => (k_here; (with_reducible show wpAny _ _ (joinParts _ (evalEach [] _)) _ _ _); refine joinParts_nilE (joinParts_nil ?_ ?hs); (case hs => exact join_fit _ _ _ (by decide) (by first | with_reducible assumption | assumption) (by decide +kernel)))
  trivial
section
section
variable {prog p : Program} {w : World} {loose : List Str} {mean : ExcName → Option Value} {mg mb : Str → Option Value} 
   {cn : Str} {cs : Scope} {a : Addr} {ccd : Value} {cl : List (Str × Addr)} {outer : List Env} {A₀ : Around} {base h₀ : Heap} {L : Addr} {m : Str → Option Value} {s : Shared} {Q E : Value → Shared → Prop}
  {news : List (Addr × Obj)}
  (B : Below A₀ base outer h₀) (F : Fr h₀ L s.heap m) (X : (K w.params).In h₀) (N : News h₀ L s.heap news)
  (T : Top p loose mean mg mb h₀) (hk : cs.kind = .function)
include B F X N T hk
theorem words_2 : True := by
  k_with "ite" => (with_reducible rename Mk 2 => mk9); k_extra "#1"
  k_with "And" => (with_reducible rename Mk 2 => mk9); k_extra "#2"
  k_with "joinParts" => (with_reducible rename Mk 2 => mk9); k_extra "#3"
  k_with "exec Raise some none" => (with_reducible rename Mk 2 => mk9); (k_here; k_dflt (refine' Raise_ownH ?F ?g ?O PySem.F.excBase_Exception ?h ?go ?gz ?_ ?a ?b ?c ?d ?e; (case F => k_asm); (case g => exact TopRead.g (by k_asm)); (case O => exact own_of_in (by k_asm) (by k_asm) (by k_is) (by k_exc)); (case h => assumption); (case go => assumption); (case gz => assumption); (case a => rfl); (case b => rfl); (case c => rfl); (case d => rfl); (case e => decide); k_whole))
  k_with "leaving ref" => (with_reducible rename Mk 2 => mk9); (k_here; (with_reducible rename RaisedH _ _ _ _ _ _ => rhXw9); (with_reducible rename LV _ _ _ _ _ _ _ _ => lvXw9); refine leaveH lvXw9 (by assumption) rhXw9 (by k_asm) rfl (by assumption) ?_; intro lvGw9 lvhw9 lvtw9 lvFw9 lvRw9 lvUw9)
  trivial
theorem raise805 {A : Around} {g : Addr} {og : Obj} {x : Str} {t : Tok} (hA : A.handled = some (.ref g)) (hf : A.frames = some (envX cn cs L a ccd cl :: outer)) (hd : A.depth + 30 < 1000) (hu : A.units + 200 < 9900) (hm : (g, og) ∈ news) (hz : HeldZ og) (hR : (reprText x).length ≤ 400) (hx : x.length ≤ 30)
    (err : ∀ G e h' tk' t vs, Fr h₀ L G m → RaisedS base G (envX cn cs L a ccd cl :: outer) e (.ref 630) t vs news h' → G.UpToSlots h' → E (.ref e) { s with heap := h', toks := tk' }) :
    wpAny (model prog w) A (call (.ref 805) [.str x t]) Q E s := by
  have mk9 : Mk 2 := .mk
  refine wpAny_call ?_
  refine enter10 B F X N T hf rfl hk (by k_is) (by k_is) (by k_extra "my dp") (BindsTo.of_eq rfl) (locs rfl) ?_ rfl rfl rfl (by decide)
  intro L' h₁ F' N' B' X' T'
  have lv : LV A₀ base outer h₀ L s m news := ⟨B, F, N⟩
  have hgo : s.heap.get? g = some og := (N _ hm).1
  (try dsimp only at F'); k_steps
  all_goals first
    | (with_reducible show E (Value.ref _) _; exact err _ _ _ _ _ _ (by assumption) (by assumption) (by assumption))
end
end
section
section
variable {prog p : Program} {w : World} {loose : List Str} {mean : ExcName → Option Value} {mg mb : Str → Option Value} {dp un : Nat}
  {gd : Option (List Code)} {cn : Str} {cs : Scope} {a : Addr} {ccd : Value} {cl : List (Str × Addr)} {A₀ : Around} {base h₀ : Heap} {L : Addr} {m : Str → Option Value} {s : Shared} {Q E : Value → Shared → Prop}
  {news : List (Addr × Obj)}
  (B : Below A₀ base [] h₀) (F : Fr h₀ L s.heap m) (X : (K w.params).In h₀) (N : News h₀ L s.heap news)
  (T : Top p loose mean mg mb h₀) (hk : cs.kind = .function) (hd : dp + 60 < 1000) (hu : un + 400 < 9900) (XB : (K w.params).In base) (TB : Top p loose mean mg mb base)
include B F X N T hk hd hu XB TB
theorem words_3 : True := by
  k_with "ite" => (with_reducible rename Mk 3 => mk9); k_extra "#1"
  k_with "And" => (with_reducible rename Mk 3 => mk9); k_extra "#2"
  k_with "joinParts" => (with_reducible rename Mk 3 => mk9); k_extra "#3"
  k_with "call ref" => (with_reducible rename Mk 3 => mk9); (k_here; (with_reducible show wpAny _ _ (call (Value.ref 798) _) _ _ _); k_dflt (refine' from_hex2 ?hB ?hF ?hX ?hN ?hT ?hK ?hA1 ?hA2 ?hD ?hU ?hb ?_; (case hA1 => exact rfl); (case hA2 => exact rfl); (case hF => k_asm); (case hN => k_asm); (case hB => k_asm); (case hX => k_asm); (case hT => k_asm); (case hK => first | exact rfl | assumption); (case hD => k_extra "my dp"); (case hU => k_extra "my dp"); (case hb => assumption); k_whole); focus (refine And.intro ?_ ?_; all_goals first | (intro (hOkw9 : hexOk _ _) t'w9 h'w9 tk'w9 kFw9 kNw9; have hSzw9 := hexSize hOkw9; (try k_sweep)) | (intro (hNow9 : ¬ hexOk _ _) G'w9 a'w9 h'w9 tk'w9 FG'w9 S'w9 U'w9; (try k_sweep))))
  k_with "noteFrame ref" => (with_reducible rename Mk 3 => mk9); (k_here; (with_reducible rename RaisedS _ _ _ _ _ _ _ _ _ => rsXw9); (with_reducible rename KtsTurn _ _ _ => ktXw9); (with_reducible rename Heap.UpToSlots _ _ => upXw9); (have rsYw9 := raised_unturn rsXw9 ktXw9); (have upYw9 := up_unturn upXw9 ktXw9); first | kts_caught | (k_dflt (refine' kts_lookS ?R ?F ?K ?U ?D ?_; (case R => assumption); (case F => assumption); (case K => assumption); (case U => assumption); (case D => assumption); k_whole); intro h'w9 R'w9 U'w9; (try dsimp only at R'w9 U'w9 ⊢)))
  k_with "call ref" => (with_reducible rename Mk 3 => mk9); (k_here; (with_reducible show wpAny _ _ (call (Value.ref 805) _) _ _ _); (with_reducible rename HeldZ _ => hzXw9); k_dflt (refine' raise805 ?hB ?hF ?hX ?hN ?hT ?hK ?hA1 ?hA2 ?hD ?hU ?hM ?hZ ?hR ?hx ?_; (case hA1 => exact rfl); (case hA2 => exact rfl); (case hF => k_asm); (case hN => k_asm); (case hB => k_asm); (case hX => k_asm); (case hT => k_asm); (case hK => first | exact rfl | assumption); (case hZ => exact hzXw9); (case hM => exact List.mem_cons_self ..); (case hD => k_extra "my dp"); (case hU => k_extra "my dp"); (case hR => assumption); (case hx => omega); k_whole); intro G'w9 e'w9 h'w9 tk'w9 t'w9 vs'w9 FG'w9 S'w9 U'w9; (try k_sweep))
  k_with "noteFrame ref" => (with_reducible rename Mk 3 => mk9); (k_here; (with_reducible rename RaisedZ _ _ _ _ _ _ _ => rzXw9); (with_reducible show wpAny _ _ (noteFrame _ _) (fun _ s₂w9 => wpAny _ _ (setFlight _ none) (fun _ s₃w9 => wpAny _ _ (handleBy _ _ (ExceptHandler.ExceptHandler (some (Expr.Name ("ValueError" : Str) _)) none _ _ :: _)) _ _ s₃w9) _ s₂w9) _ _); k_dflt (refine' caughtZ (T' := "ValueError") rzXw9 ?F ?K ?U ?XB ?TB ?D ?T0 ?ex PyProof.Rows.Boot.«ValueError» ?hn PySem.F.isExc_ValueError PySem.F.notTuple_ValueError ?hs ?_; (case F => assumption); (case K => assumption); (case U => assumption); (case XB => assumption); (case TB => assumption); (case D => assumption); (case T0 => first | assumption | exact KtsTurn.refl); (case hs => kts_sub); (case ex => k_is); (case hn => decide); k_whole); intro h'w9 g'w9 oeZw9 hZw9 T'w9 F'w9 N'w9 K'w9 X'w9 P'w9 D'w9; (try k_lift K'w9); (try k_sweep))
  k_with "k_enter" => (with_reducible rename Mk 3 => mk9); ((with_reducible show codeAny _ _ (Code.call (Value.ref 819) _) _ _); kts_go)
  trivial
theorem made24 {x : Str} {t : Tok} (hb : x.length = 24) (hR : (reprText x).length ≤ 400)
    (retOk : hexOk x 12 → ∀ t' h' tk', Fr h₀ L h' m → News h₀ L h' news → Q (.bytes (byteArr (hexes x 12)) t') { s with heap := h', toks := tk' }) (retNo : ¬ hexOk x 12 → ∀ t' h' tk', Fr h₀ L h' m → News h₀ L h' news → Q (.str (S "id") t') { s with heap := h', toks := tk' }) :
    wpAny (model prog w) (ktrTop dp un gd cn cs L a ccd cl []) (call (.ref 1469) [.str x t]) Q E s := by
  have mk9 : Mk 3 := .mk
  refine wpAny_call ?_
  k_extra "my en1"
  k_steps
  all_goals first
    | (with_reducible show Q (Value.bytes _ _) _; exact retOk (by assumption) _ _ _ (by k_asm) (by k_extra "my drop"))
    | (with_reducible show Q (Value.str _ _) _; exact retNo (by assumption) _ _ _ (by k_asm) (by k_extra "my drop"))
    | (exfalso; omega)
    | (exfalso; have := hexSize (by assumption); omega)
end
end
section
section
variable {prog p : Program} {w : World} {loose : List Str} {mean : ExcName → Option Value} {mg mb : Str → Option Value} {dp un : Nat}
  {gd : Option (List Code)} {cn : Str} {cs : Scope} {a : Addr} {ccd : Value} {cl : List (Str × Addr)} {A₀ : Around} {base h₀ : Heap} {L : Addr} {m : Str → Option Value} {s : Shared} {Q E : Value → Shared → Prop}
  {news : List (Addr × Obj)}
  (B : Below A₀ base [] h₀) (F : Fr h₀ L s.heap m) (X : (K w.params).In h₀) (N : News h₀ L s.heap news)
  (T : Top p loose mean mg mb h₀) (hk : cs.kind = .function) (hd : dp + 60 < 1000) (hu : un + 400 < 9900) (XB : (K w.params).In base) (TB : Top p loose mean mg mb base)
include B F X N T hk hd hu XB TB
theorem valid24C {R : Result → Shared → Prop} {x : Str} {t : Tok} (hb : x.length = 24) (hR : (reprText x).length ≤ 400)
    (retOk : hexOk x 12 → ∀ h' tk', Fr h₀ L h' m → News h₀ L h' news → R (.ok (.ret (.bool true))) { s with heap := h', toks := tk' }) (retNo : ¬ hexOk x 12 → ∀ h' tk', Fr h₀ L h' m → News h₀ L h' news → R (.ok (.ret (.bool false))) { s with heap := h', toks := tk' }) :
    codeAny (model prog w) (ktrTop dp un gd cn cs L a ccd cl []) (.call (.ref 826) ⟨[.ref 902, .str x t], []⟩) R s := by
  have mk9 : Mk 3 := .mk
  k_extra "my en1"
  k_steps
  all_goals first
    | (with_reducible show R (Except.ok (Flow.ret (Value.bool true))) _; exact retOk (by assumption) _ _ (by k_asm) (by k_extra "my drop"))
    | (with_reducible show R (Except.ok (Flow.ret (Value.bool false))) _; exact retNo (by assumption) _ _ (by k_asm) (by k_extra "my drop"))
    | (exfalso; omega)
    | (exfalso; have := hexSize (by assumption); omega)
end
end
theorem words_c4 : True := by
  k_with "k_enter" => ((try k_extra "my fR"); refine' code_defZ ?k1 ?k2 ?k3 ?k4 ?k5 ?kA ?kF ?kK ?k6 ?k7 ?k8 ?k9 ?kB ?_ ?c2 ?c3 ?c4 ?c5; (case kA => exact rfl); (case kF => exact rfl); (case kK => first | exact rfl | assumption); (case k1 => k_asm); (case k2 => k_asm); (case k3 => k_asm); (case k4 => k_asm); (case k5 => k_asm); (case k6 => k_is); (case k7 => k_is); (case k8 => k_room); (case k9 => first | exact bz_pos (by kernel_rfl!) | exact bz_dflt (by k_in) rfl (by k_is) rfl rfl (by kernel_rfl!)); (case c5 => decide +kernel); (case kB => decide +kernel); (case c2 => exact rfl); (case c3 => exact rfl); (case c4 => exact rfl); intro g'w9 L'w9 h'w9 FG'w9 F'w9 N'w9 B'w9 X'w9 T'w9; (try dsimp only [lkB, List.cons_append, List.nil_append] at F'w9); (try k_lift B'w9); (try k_extra "my fq"); (try k_extra "my fa"))
  trivial
section
section
variable {prog p : Program} {w : World} {loose : List Str} {mean : ExcName → Option Value} {mg mb : Str → Option Value} {dp un : Nat}
  {gd : Option (List Code)} {cn : Str} {cs : Scope} {a : Addr} {ccd : Value} {cl : List (Str × Addr)} {outer : List Env} {A₀ : Around} {base h₀ : Heap} {L : Addr} {m : Str → Option Value} {s : Shared} {Q E : Value → Shared → Prop}
  {news : List (Addr × Obj)}
  (B : Below A₀ base outer h₀) (F : Fr h₀ L s.heap m) (X : (K w.params).In h₀) (N : News h₀ L s.heap news)
  (T : Top p loose mean mg mb h₀) (hk : cs.kind = .function) (hd : dp + 30 < 1000) (hu : un + 200 < 9900)
include B F X N T hk hd hu
noncomputable def le4 (i : Int) : Array UInt8 := #[(i.fmod 256).toNat.toUInt8, ((i.fdiv 256).fmod 256).toNat.toUInt8, ((i.fdiv 65536).fmod 256).toNat.toUInt8, ((i.fdiv 16777216).fmod 256).toNat.toUInt8]
theorem little {i : Int} {t : Tok} (h1 : 0 ≤ i) (h2 : i < 4294967296) 
    (ret : ∀ t' h' tk', Fr h₀ L h' m → News h₀ L h' news → Q (.bytes (le4 i) t') { s with heap := h', toks := tk' }) :
    wpAny (model prog w) (ktrTop dp un gd cn cs L a ccd cl outer) (call (.ref 1490) [.int i t]) Q E s := by
  refine wpAny_call ?_
  k_extra "my en"
  k_steps
  all_goals first | exact ret _ _ _ (by k_asm) (by k_extra "my drop") | (exfalso; clear ret; omega)
end
end
section
theorem bInts_inj {b c : Array UInt8} (h : KBw.bInts b = KBw.bInts c) : b = c := by
  have f : ∀ l l' : List UInt8, (l.map fun c => ((c.toNat : Nat) : Int)) = (l'.map fun c => ((c.toNat : Nat) : Int)) → l = l' := by
    intro l
    induction l with
    | nil => intro l' h; cases l' with
      | nil => rfl
      | cons _ _ => cases h
    | cons a r ih => intro l' h; cases l' with
      | nil => cases h
      | cons a' r' =>
        rw [List.map_cons, List.map_cons] at h
        injection h with h1 h2
        rw [ih r' h2, UInt8.toNat_inj.mp (by omega : a.toNat = a'.toNat)]
  have := f b.toList c.toList h
  exact Array.toList_inj.mp this
theorem octet_back {y : Int} (h0 : 0 ≤ y) (h1 : y < 256) : ((y.toNat.toUInt8.toNat : Nat) : Int) = y := by
  have e : y.toNat.toUInt8.toNat = y.toNat % 256 := by simp
  rw [e]; omega
theorem em1 (i : Int) : i / 65536 = i / 256 / 256 := by rw [Int.ediv_ediv_of_nonneg (by decide)]; rfl
theorem em2 (i : Int) : i / 16777216 = i / 256 / 256 / 256 := by rw [Int.ediv_ediv_of_nonneg (by decide), Int.ediv_ediv_of_nonneg (by decide)]; rfl
theorem le4_ints {i : Int} (h0 : 0 ≤ i) : KBw.bInts (le4 i) = KTBy.little 4 i := by
  have e : KBw.bInts (le4 i) = [((i.fmod 256).toNat.toUInt8.toNat : Int), (((i.fdiv 256).fmod 256).toNat.toUInt8.toNat : Int), (((i.fdiv 65536).fmod 256).toNat.toUInt8.toNat : Int), (((i.fdiv 16777216).fmod 256).toNat.toUInt8.toNat : Int)] := rfl
  have b : ∀ x : Int, ((((x.fmod 256).toNat.toUInt8).toNat : Nat) : Int) = x.fmod 256 := fun x => octet_back (Int.fmod_nonneg_of_pos _ (by decide)) (Int.fmod_lt_of_pos _ (by decide))
  rw [e, b, b, b, b]
  simp only [KTBy.little]
  have m : ∀ x : Int, x.fmod 256 = x % 256 := fun x => Int.fmod_eq_emod_of_nonneg _ (by decide)
  rw [m, m, m, m, Int.fdiv_eq_ediv_of_nonneg _ (by decide), Int.fdiv_eq_ediv_of_nonneg _ (by decide), Int.fdiv_eq_ediv_of_nonneg _ (by decide)]
  rw [em1, em2]
theorem le4_of {b : Array UInt8} {i : Int} (h : KBw.bInts b = KTBy.little 4 i) (h0 : 0 ≤ i) : b = le4 i := bInts_inj (h.trans (le4_ints h0).symm)
theorem to_le4 {prog : Program} {w : World} {A : Around} {E Q : Value → Shared → Prop} {s : Shared} {x : Int} {t u v : Tok} (h0 : 0 ≤ x) (h1 : x < 4294967296) (h : ∀ t' k', Q (.bytes (le4 x) t') { s with toks := k' }) :
    wpAny (model prog w) A (call (.builtin "int.to_bytes") [.int x t, .int 4 u, .str (PySem.Str.ofString "little") v]) Q E s := by
  with_unfolding_all exact KTBy.to_little (k := 4) (B := 4294967296) (by decide) (by decide) h0 h1 (fun b t' k' hb _ => by rw [le4_of hb h0]; exact h t' k')
theorem le4_size (i : Int) : (le4 i).size = 4 := rfl
end
section
section
variable {prog : Program} {w : World} {A : Around} {E : Value → Shared → Prop} {s : Shared} {Q : Value → Shared → Prop} {h₀ : Heap} {L : Addr} {m : Str → Option Value} {news : List (Addr × Obj)}
theorem slice_eq {b c : Array UInt8} {t : Tok} {ks : List Int} {l u : Value} {lo hi : Option Int} {value slice : PySem.Expr} (hF : Fr h₀ L s.heap m) (hN : News h₀ L s.heap news) (hk : KBw.bInts b = ks) (hl : IsPart l lo) (hu : IsPart u hi) (hz : ks.length ≤ 16777216)
    (hc : (ks.drop (lo.elim 0 (clipAt ks.length))).take (hi.elim ks.length (clipAt ks.length) - lo.elim 0 (clipAt ks.length)) = KBw.bInts c)
    (h : ∀ h' t' k, Fr h₀ L h' m → News h₀ L h' news → Q (.bytes c t') { s with heap := h', toks := k })
    (hs : subscripted slice false (.bytes b t) (.ref s.heap.objs.size) = operate [.ref s.heap.objs.size, .bytes b t] (getItem (.bytes b t) (.ref s.heap.objs.size)) := by with_unfolding_all rfl)
    (ht : ∀ r, letTemporaryGo value (.bytes b t) r = pure () := by intro _; with_unfolding_all rfl) :
    wpAny (model prog w) A (subscriptTail value slice (.bytes b t) (.ref s.heap.objs.size)) Q E { s with heap := s.heap.push { cls := .type "slice", data := .fields #[l, u, .none] } } :=
  KBc.slice_K hF hN hk hl hu hz (fun h' t' k f n e => by
    rw [bInts_inj (e.trans hc)]
    exact h h' t' k f n) hs ht
theorem item_eq {b : Array UInt8} {t ui : Tok} {i v : Int} {ks : List Int} {value slice : PySem.Expr} (hk : KBw.bInts b = ks) (hfit : ks.length ≤ 1099511627776) (h0 : 0 ≤ i) (h1 : i < (ks.length : Int)) (hv : ks.getD i.toNat 0 = v)
    (h : ∀ t' k, Q (.int v t') { s with toks := k })
    (hs : subscripted slice false (.bytes b t) (.int i ui) = operate [.bytes b t, .int i ui] (getItem (.bytes b t) (.int i ui)) := by with_unfolding_all rfl)
    (ht : ∀ r, letTemporaryGo value (.bytes b t) r = pure () := by intro _; with_unfolding_all rfl) : wpAny (model prog w) A (subscriptTail value slice (.bytes b t) (.int i ui)) Q E s :=
  KBw.item_K hk hfit h0 h1 (fun t' k _ _ => by rw [hv]; exact h t' k) hs ht
theorem item_at {b : Array UInt8} {t ui : Tok} {i v : Int} {ks rest : List Int} {value slice : PySem.Expr} (hk : KBw.bInts b = ks) (hfit : ks.length ≤ 1099511627776) (h0 : 0 ≤ i) (h1 : i < (ks.length : Int)) (hv : ks.drop i.toNat = v :: rest)
    (h : ∀ t' k, Q (.int v t') { s with toks := k })
    (hs : subscripted slice false (.bytes b t) (.int i ui) = operate [.bytes b t, .int i ui] (getItem (.bytes b t) (.int i ui)) := by with_unfolding_all rfl)
    (ht : ∀ r, letTemporaryGo value (.bytes b t) r = pure () := by intro _; with_unfolding_all rfl) : wpAny (model prog w) A (subscriptTail value slice (.bytes b t) (.int i ui)) Q E s :=
  item_eq hk hfit h0 h1 (by rw [List.getD_eq_getElem?_getD, ← Nat.add_zero i.toNat, ← List.getElem?_drop, hv]; rfl) h hs ht
end
section
variable {prog : Program} {w : World} {A : Around} {E : Value → Shared → Prop} {s : Shared} {h₀ : Heap} {L L' a : Addr} {m : Str → Option Value} {cn : Str} {cs : Scope} {ccd : Value} {p : Program} {loose : List Str} {mean : ExcName → Option Value} {mg mb : Str → Option Value}
  {Q : Flow → Shared → Prop}
theorem tt_of {b : Bool} (h : b = true) {P Q : Prop} (x : P) : if b = true then P else Q := by subst h; exact x
theorem skip_eq {x : Str} {e n : Int} {te : Tok} {k : Nat} {p1 p2 p3 p4 : Pos} {body rest : List Stmt} (X : (K w.params).In h₀) (F : Fr h₀ L s.heap m) (hv : m x = some (.int e te)) (hk : cs.kind = .function) (hx : (envOf cn cs L a ccd).kindOf x = some .local) (hd : (x == ("__debug__" : Str)) = false)
    (hne : (e == n) = false)
    (h : ∀ tk, wpAny (model prog w) A (execs rest (envOf cn cs L a ccd)) Q E { s with toks := tk }) :
    wpAny (model prog w) A (execs (.If (.Compare (.Name x p1) [.Eq] [.Constant (.int n) k p2] p3) body [] p4 :: rest) (envOf cn cs L a ccd)) Q E s := by
  have nx : ∀ {Q' : Value → Shared → Prop}, Q' (.int e te) s → wpAny (model prog w) A (eval (.Name x p1) (envOf cn cs L a ccd)) Q' E s := fun q => nameX_L (cl := []) F hv q hk hx hd
  walk1
  walk1
  walk1
  refine nx ?_
  walk1
  walk1
  walk1
  walk1
  walk1
  walk1
  exact h _
theorem skip_isi {x c : Str} {v cv : Value} {p0 p1 p2 p3 p4 : Pos} {body rest : List Stmt} (X : (K w.params).In h₀) (F : Fr h₀ L s.heap m) (T : TopRead p loose mg mb h₀) (hv : m x = some v) (hk : cs.kind = .function) (hx : (envOf cn cs L a ccd).kindOf x = some .local) (hd : (x == ("__debug__" : Str)) = false)
    (hi : (envOf cn cs L a ccd).kindOf (Str.ofString "isinstance") = some .globalImplicit)
    (nc : ∀ {Q' : Value → Shared → Prop}, Q' cv s → wpAny (model prog w) A (eval (.Name c p2) (envOf cn cs L a ccd)) Q' E s)
    (is : ∀ {Q' : Value → Shared → Prop}, (∀ tk, Q' (.bool false) { s with toks := tk }) → wpAny (model prog w) A (call (.builtin "isinstance") [v, cv]) Q' E s)
    (h : ∀ tk, wpAny (model prog w) A (execs rest (envOf cn cs L a ccd)) Q E { s with toks := tk }) :
    wpAny (model prog w) A (execs (.If (.Call (.Name (Str.ofString "isinstance") p0) [.Name x p1, .Name c p2] [] p3) body [] p4 :: rest) (envOf cn cs L a ccd)) Q E s := by
  have nx : ∀ {Q' : Value → Shared → Prop}, Q' v s → wpAny (model prog w) A (eval (.Name x p1) (envOf cn cs L a ccd)) Q' E s := fun q => nameX_L (cl := []) F hv q hk hx hd
  have ni : ∀ {Q' : Value → Shared → Prop}, Q' (.builtin "isinstance") s → wpAny (model prog w) A (eval (.Name (Str.ofString "isinstance") p0) (envOf cn cs L a ccd)) Q' E s := fun q => nameX_B (cl := []) F X T gb_isinstance (by boot_fast) (by decide +kernel) q hk hi (by kernel_rfl)
  walk1
  walk1
  walk1
  walk1
  refine ni ?_
  walk1
  refine nx ?_
  refine nc ?_
  refine is fun tk => ?_
  walk1
  walk1
  walk1
  exact h _
theorem nm_K {x : Str} {cv : Value} {pos : Pos} (F : Fr h₀ L s.heap m) (X : (K w.params).In h₀) (T : TopRead p loose mg mb h₀) (e : nsIn (K w.params) mainGlobals x = some (some cv)) (hk : cs.kind = .function) (hx : (envOf cn cs L a ccd).kindOf x = some .globalImplicit) (hd : (x == ("__debug__" : Str)) = false) :
    ∀ {Q' : Value → Shared → Prop}, Q' cv s → wpAny (model prog w) A (eval (.Name x pos) (envOf cn cs L a ccd)) Q' E s := fun q => nameX_K (cl := []) F X T e q hk hx hd
theorem nm_B {x : Str} {cv : Value} {pos : Pos} (F : Fr h₀ L s.heap m) (X : (K w.params).In h₀) (T : TopRead p loose mg mb h₀) (e : nsIn (K w.params) mainGlobals x = some none) (hv : bootBuiltins x = some cv) (hn : (x == ("__name__" : Str)) = false) (hk : cs.kind = .function) (hx : (envOf cn cs L a ccd).kindOf x = some .globalImplicit) (hd : (x == ("__debug__" : Str)) = false) :
    ∀ {Q' : Value → Shared → Prop}, Q' cv s → wpAny (model prog w) A (eval (.Name x pos) (envOf cn cs L a ccd)) Q' E s := fun q => nameX_B (cl := []) F X T e hv (ne_of_beq_false hn) q hk hx hd
theorem is_own {x D dx : Addr} {c : Value} {od : Obj} {news : List (Addr × Obj)} {h₁ : Heap} {L₁ : Addr} {m₁ : Str → Option Value} (F : Fr h₁ L₁ s.heap m₁) (X : (K w.params).In h₁) (N : News h₁ L₁ s.heap news) (m1 : (x, instObj D dx) ∈ news) (m2 : (dx, od) ∈ news) (i : inTab D c = true) (e : (c == .ref D) = false) :
    ∀ {Q' : Value → Shared → Prop}, (∀ tk, Q' (.bool false) { s with toks := tk }) → wpAny (model prog w) A (call (.builtin "isinstance") [.ref x, c]) Q' E s := fun q => isi_own F X N m1 m2 i e q
noncomputable def gFind (c : Str) : Option (Option Value) := (gTab.find? fun x => Str.ofString x.1 == c).map (·.2)
theorem gFind_ok {c : Str} {v : Option Value} {P : Params} (h : gFind c = some v) : nsIn (K P) mainGlobals c = some v := by
  unfold gFind at h
  cases hf : gTab.find? (fun x => Str.ofString x.1 == c) with
  | none => rw [hf] at h; cases h
  | some x =>
    rw [hf] at h
    cases h
    have e := List.find?_some hf
    have q := List.map_inj_left.mp (gTab_ok (P := P)) x (List.mem_of_find?_eq_some hf)
    rw [eq_of_beq e] at q
    exact q
noncomputable def cvOf (c : Str) : Option Value := match gFind c with
  | some (some v) => some v
  | some none => bootBuiltins c
  | none => none
theorem nm_cv {c : Str} {cv : Value} {pos : Pos} (F : Fr h₀ L s.heap m) (X : (K w.params).In h₀) (T : TopRead p loose mg mb h₀) (e : cvOf c = some cv) (hk : cs.kind = .function) (hx : (envOf cn cs L a ccd).kindOf c = some .globalImplicit) (hn : (c == ("__name__" : Str)) = false) (hd : (c == ("__debug__" : Str)) = false) :
    ∀ {Q' : Value → Shared → Prop}, Q' cv s → wpAny (model prog w) A (eval (.Name c pos) (envOf cn cs L a ccd)) Q' E s := by
  unfold cvOf at e
  split at e
  · next v hv => cases e; exact nm_K F X T (gFind_ok hv) hk hx hd
  · next hv => exact nm_B F X T (gFind_ok hv) e hn hk hx hd
  · cases e
noncomputable def ifC : Stmt → Option PySem.Expr
  | .If c _ e _ => if e.isEmpty then some c else none
  | _ => none
noncomputable def nmP : PySem.Expr → Option Str
  | .Name x _ => some x
  | _ => none
noncomputable def callP : PySem.Expr → Option (PySem.Expr × List PySem.Expr)
  | .Call f as ks _ => if ks.isEmpty then some (f, as) else none
  | _ => none
noncomputable def twoP : List PySem.Expr → Option (PySem.Expr × PySem.Expr)
  | [a, b] => some (a, b)
  | _ => none
theorem any9 {α : Type} {o : Option α} {p : α → Bool} (h : o.any p = true) : ∃ a, o = some a ∧ p a = true := by
  cases o with
  | none => cases h
  | some a => exact ⟨a, rfl, h⟩
theorem ifC_inv {st : Stmt} {c : PySem.Expr} (h : ifC st = some c) : ∃ b p, st = .If c b [] p := by
  unfold ifC at h
  split at h
  · next c' b e p =>
    cases e with
    | nil => cases h; exact ⟨b, p, rfl⟩
    | cons _ _ => cases h
  · cases h
theorem nmP_inv {e : PySem.Expr} {x : Str} (h : nmP e = some x) : ∃ p, e = .Name x p := by
  unfold nmP at h
  split at h
  · cases h; exact ⟨_, rfl⟩
  · cases h
theorem callP_inv {e f : PySem.Expr} {as : List PySem.Expr} (h : callP e = some (f, as)) : ∃ p, e = .Call f as [] p := by
  unfold callP at h
  split at h
  · next f' as' ks p =>
    cases ks with
    | nil => cases h; exact ⟨p, rfl⟩
    | cons _ _ => cases h
  · cases h
theorem twoP_inv {l : List PySem.Expr} {a b : PySem.Expr} (h : twoP l = some (a, b)) : l = [a, b] := by
  unfold twoP at h
  split at h
  · cases h; rfl
  · cases h
noncomputable def skOne (cs : Scope) (D : Addr) (x : Str) (st : Stmt) : Bool := (ifC st).any fun e => (callP e).any fun fa => (twoP fa.2).any fun ab => (nmP fa.1).any fun i => (nmP ab.1).any fun y => (nmP ab.2).any fun c =>
  (i == Str.ofString "isinstance" && y == x) && ((cs.names.lookup c == some .globalImplicit && (!(c == ("__name__" : Str)) && !(c == ("__debug__" : Str)))) && (cvOf c).any fun cv => inTab D cv && !(cv == .ref D))
theorem skOne_inv {cs : Scope} {D : Addr} {x : Str} {st : Stmt} (h1 : skOne cs D x st = true) : ∃ p0 p1 c p2 p3 body p4 cv, st = .If (.Call (.Name (Str.ofString "isinstance") p0) [.Name x p1, .Name c p2] [] p3) body [] p4 ∧ cs.names.lookup c = some .globalImplicit ∧ (c == ("__name__" : Str)) = false ∧ (c == ("__debug__" : Str)) = false ∧ cvOf c = some cv ∧ inTab D cv = true ∧ (cv == .ref D) = false := by
  obtain ⟨e0, w0, z1⟩ := any9 h1
  clear h1
  obtain ⟨⟨f0, as0⟩, w1, z2⟩ := any9 z1
  obtain ⟨⟨a1, a2⟩, w2, z3⟩ := any9 z2
  obtain ⟨i, w3, z4⟩ := any9 z3
  obtain ⟨y, w4, z5⟩ := any9 z4
  obtain ⟨c, w5, z6⟩ := any9 z5
  obtain ⟨body, p4, rfl⟩ := ifC_inv w0
  obtain ⟨p3, rfl⟩ := callP_inv w1
  have w2 := twoP_inv w2
  dsimp only at w2 w3 w4 w5
  subst w2
  obtain ⟨p0, rfl⟩ := nmP_inv w3
  obtain ⟨p1, rfl⟩ := nmP_inv w4
  obtain ⟨p2, rfl⟩ := nmP_inv w5
  rw [Bool.and_eq_true, Bool.and_eq_true, Bool.and_eq_true, Bool.and_eq_true] at z6
  obtain ⟨⟨e1, e2⟩, ⟨e3, e45⟩, e6⟩ := z6
  rw [Bool.and_eq_true] at e45
  obtain ⟨e4, e5⟩ := e45
  have e1 := eq_of_beq e1
  have e2 := eq_of_beq e2
  subst e1 e2
  obtain ⟨cv, hc, e6⟩ := any9 e6
  rw [Bool.and_eq_true] at e6
  exact ⟨p0, p1, c, p2, p3, body, p4, cv, rfl, eq_of_beq e3, by simpa using e4, by simpa using e5, hc, e6.1, by simpa using e6.2⟩
theorem skip_run {x : Str} {D v dx : Addr} {od : Obj} {news : List (Addr × Obj)} (X : (K w.params).In h₀) (F : Fr h₀ L s.heap m) (T : TopRead p loose mg mb h₀) (N : News h₀ L s.heap news) (hv : m x = some (.ref v)) (m1 : (v, instObj D dx) ∈ news) (m2 : (dx, od) ∈ news) (hk : cs.kind = .function) (hx : cs.names.lookup x = some .local) (hd : (x == ("__debug__" : Str)) = false)
    (hi : cs.names.lookup (Str.ofString "isinstance") = some .globalImplicit) : ∀ {k : Nat} {sts : List Stmt} {tk : Nat}, (sts.take k).all (skOne cs D x) = true → (∀ tk, wpAny (model prog w) A (execs (sts.drop k) (envOf cn cs L a ccd)) Q E { s with toks := tk }) → wpAny (model prog w) A (execs sts (envOf cn cs L a ccd)) Q E { s with toks := tk } := by
  intro k
  induction k with
  | zero => intro sts tk _ h; exact h tk
  | succ k ih =>
    intro sts tk hs h
    cases sts with
    | nil => exact h tk
    | cons st r =>
      rw [List.take_succ_cons, List.all_cons, Bool.and_eq_true] at hs
      obtain ⟨h1, h2⟩ := hs
      obtain ⟨p0, p1, c, p2, p3, body, p4, cv, rfl, e3, e4, e5, hc, e6, e7⟩ := skOne_inv h1
      exact skip_isi (s := { s with toks := tk }) X F T hv hk hx hd hi (nm_cv (s := { s with toks := tk }) F X T hc hk e3 e4 e5) (is_own (s := { s with toks := tk }) F X N m1 m2 e6 e7) (fun tk' => ih h2 h)
theorem skip_runH {x c : Str} {p0 p1 p2 p3 p4 : Pos} {body rest : List Stmt} {D v dx : Addr} {od : Obj} {news : List (Addr × Obj)} {k : Nat} (X : (K w.params).In h₀) (F : Fr h₀ L s.heap m) (T : TopRead p loose mg mb h₀) (N : News h₀ L s.heap news) (hv : m x = some (.ref v)) (m1 : (v, instObj D dx) ∈ news) (m2 : (dx, od) ∈ news) (hk : cs.kind = .function) (hx : cs.names.lookup x = some .local) (hd : (x == ("__debug__" : Str)) = false)
    (hi : cs.names.lookup (Str.ofString "isinstance") = some .globalImplicit) (hc : ((Stmt.If (.Call (.Name (Str.ofString "isinstance") p0) [.Name x p1, .Name c p2] [] p3) body [] p4 :: rest).take k).all (skOne cs D x) = true)
    (h : ∀ tk, wpAny (model prog w) A (execs ((Stmt.If (.Call (.Name (Str.ofString "isinstance") p0) [.Name x p1, .Name c p2] [] p3) body [] p4 :: rest).drop k) (envOf cn cs L a ccd)) Q E { s with toks := tk }) : wpAny (model prog w) A (execs (Stmt.If (.Call (.Name (Str.ofString "isinstance") p0) [.Name x p1, .Name c p2] [] p3) body [] p4 :: rest) (envOf cn cs L a ccd)) Q E s :=
  skip_run (tk := s.toks) X F T N hv m1 m2 hk hx hd hi hc h
noncomputable def cmpP : PySem.Expr → Option (PySem.Expr × List CmpOp × List PySem.Expr)
  | .Compare l os rs _ => some (l, os, rs)
  | _ => none
noncomputable def eqP : List CmpOp → Bool
  | [.Eq] => true
  | _ => false
noncomputable def oneP : List PySem.Expr → Option PySem.Expr
  | [a] => some a
  | _ => none
noncomputable def cnP : PySem.Expr → Option Const
  | .Constant c _ _ => some c
  | _ => none
noncomputable def inP : Const → Option Int
  | .int n => some n
  | _ => none
theorem cmpP_inv {e l : PySem.Expr} {os : List CmpOp} {rs : List PySem.Expr} (h : cmpP e = some (l, os, rs)) : ∃ p, e = .Compare l os rs p := by
  unfold cmpP at h
  split at h
  · cases h; exact ⟨_, rfl⟩
  · cases h
theorem eqP_inv {os : List CmpOp} (h : eqP os = true) : os = [.Eq] := by
  unfold eqP at h
  split at h
  · rfl
  · cases h
theorem oneP_inv {l : List PySem.Expr} {a : PySem.Expr} (h : oneP l = some a) : l = [a] := by
  unfold oneP at h
  split at h
  · cases h; rfl
  · cases h
theorem cnP_inv {e : PySem.Expr} {c : Const} (h : cnP e = some c) : ∃ k p, e = .Constant c k p := by
  unfold cnP at h
  split at h
  · cases h; exact ⟨_, _, rfl⟩
  · cases h
theorem inP_inv {c : Const} {n : Int} (h : inP c = some n) : c = .int n := by
  unfold inP at h
  split at h
  · cases h; rfl
  · cases h
theorem skn {f : Stmt → Bool} {sts : List Stmt} {n : Nat} (h : (sts.take n).all f = true) : (sts.take n).all f = true := h
noncomputable def seOne (x : Str) (e : Int) (st : Stmt) : Bool := (ifC st).any fun c => (cmpP c).any fun q => eqP q.2.1 && (oneP q.2.2).any fun r => (nmP q.1).any fun y => (cnP r).any fun k => (inP k).any fun n => y == x && !(e == n)
theorem seOne_inv {x : Str} {e : Int} {st : Stmt} (h1 : seOne x e st = true) : ∃ p1 n k' p2 p3 body p4, st = .If (.Compare (.Name x p1) [.Eq] [.Constant (.int n) k' p2] p3) body [] p4 ∧ (e == n) = false := by
  obtain ⟨e0, w0, z1⟩ := any9 h1
  clear h1
  obtain ⟨⟨l0, os0, rs0⟩, w1, z2⟩ := any9 z1
  rw [Bool.and_eq_true] at z2
  obtain ⟨w2, z3⟩ := z2
  obtain ⟨r, w3, z4⟩ := any9 z3
  obtain ⟨y, w4, z5⟩ := any9 z4
  obtain ⟨c, w5, z6⟩ := any9 z5
  obtain ⟨n, w6, z7⟩ := any9 z6
  obtain ⟨body, p4, rfl⟩ := ifC_inv w0
  obtain ⟨p3, rfl⟩ := cmpP_inv w1
  dsimp only at w2 w3 w4
  have w2 := eqP_inv w2
  have w3 := oneP_inv w3
  subst w2 w3
  obtain ⟨p1, rfl⟩ := nmP_inv w4
  obtain ⟨k', p2, rfl⟩ := cnP_inv w5
  have w6 := inP_inv w6
  subst w6
  rw [Bool.and_eq_true] at z7
  have e2 := eq_of_beq z7.1
  subst e2
  exact ⟨p1, n, k', p2, p3, body, p4, rfl, by simpa using z7.2⟩
theorem skip_eqs {x : Str} {e : Int} {te : Tok} (X : (K w.params).In h₀) (F : Fr h₀ L s.heap m) (hv : m x = some (.int e te)) (hk : cs.kind = .function) (hx : cs.names.lookup x = some .local) (hd : (x == ("__debug__" : Str)) = false) :
    ∀ {k : Nat} {sts : List Stmt} {tk : Nat}, (sts.take k).all (seOne x e) = true → (∀ tk, wpAny (model prog w) A (execs (sts.drop k) (envOf cn cs L a ccd)) Q E { s with toks := tk }) → wpAny (model prog w) A (execs sts (envOf cn cs L a ccd)) Q E { s with toks := tk } := by
  intro k
  induction k with
  | zero => intro sts tk _ h; exact h tk
  | succ k ih =>
    intro sts tk hs h
    cases sts with
    | nil => exact h tk
    | cons st r =>
      rw [List.take_succ_cons, List.all_cons, Bool.and_eq_true] at hs
      obtain ⟨h1, h2⟩ := hs
      obtain ⟨p1, n, k', p2, p3, body, p4, rfl, e2⟩ := seOne_inv h1
      exact skip_eq (s := { s with toks := tk }) X F hv hk hx hd e2 (fun tk' => ih h2 h)
theorem skip_eqsH {x : Str} {e n : Int} {te : Tok} {k k' : Nat} {p1 p2 p3 p4 : Pos} {body rest : List Stmt} (X : (K w.params).In h₀) (F : Fr h₀ L s.heap m) (hv : m x = some (.int e te)) (hk : cs.kind = .function) (hx : cs.names.lookup x = some .local) (hd : (x == ("__debug__" : Str)) = false)
    (hc : ((Stmt.If (.Compare (.Name x p1) [.Eq] [.Constant (.int n) k' p2] p3) body [] p4 :: rest).take k).all (seOne x e) = true)
    (h : ∀ tk, wpAny (model prog w) A (execs ((Stmt.If (.Compare (.Name x p1) [.Eq] [.Constant (.int n) k' p2] p3) body [] p4 :: rest).drop k) (envOf cn cs L a ccd)) Q E { s with toks := tk }) :
    wpAny (model prog w) A (execs (Stmt.If (.Compare (.Name x p1) [.Eq] [.Constant (.int n) k' p2] p3) body [] p4 :: rest) (envOf cn cs L a ccd)) Q E s :=
  skip_eqs (tk := s.toks) X F hv hk hx hd hc h
end
end
section
open PySem PySem.W PySem.Calls PyProof.Rows PySem.Spec PySem.W.KBd
open Builtin
theorem dec_entry {c : UInt8} {cs : List UInt8} {t u : Tok} : «bytes.decode» ⟨[.bytes (c :: cs).toArray t, .str (PySem.Str.ofString "utf-8") u], []⟩ = (mkStr (PySem.Str.ofString "utf-8") >>= fun _ => mkStr (PySem.Str.ofString "utf-8") >>= fun e => mkStr (PySem.Str.ofString "bytes.decode") >>= fun d =>
    call (.builtin "_codecs.decode.text") [.bytes (c :: cs).toArray t, e, .none, d] >>= fun v => ret v) := by kernel_rfl
theorem dec_args (a b : Value) : argsOk "bytes.decode" ⟨[a, b], []⟩ := by unfold argsOk; kernel_rfl
section
variable {prog : Program} {w : World} {A : Around} {E : Value → Shared → Prop} {s : Shared} {c : UInt8} {cs : List UInt8} {t u : Tok} {x : PySem.Str} {n : Nat}
theorem dec_meets (hd : ∀ id, _codecs.runDecoder id _codecs.utf8Decoder none true (c :: cs).toArray 0 [] = pure (x.cps, n)) :
    Meets («bytes.decode» ⟨[.bytes (c :: cs).toArray t, .str (PySem.Str.ofString "utf-8") u], []⟩) (fun _ R s => x.length ≤ sizeLine ∧ ∀ t' k, R (.ok (.ret (.str x t'))) { s with toks := k }) := by
  refine .of_wp fun prog w A R s hS => ?_
  obtain ⟨hsz, h⟩ := hS
  rw [dec_entry]
  refine wpAny_bind (wpAny_mkStr ?_ (by decide))
  refine wpAny_bind (wpAny_mkStr ?_ (by decide))
  refine wpAny_bind (wpAny_mkStr ?_ (by decide))
  exact wpAny_bind (call_function_meets kind_text plain_text entry_text (args_text _ _ _ _) (meets_text hd) ⟨hsz, wpAny_pure ⟨_, rfl, h _ _⟩⟩)
theorem dec_call {Q : Value → Shared → Prop} (hd : ∀ id, _codecs.runDecoder id _codecs.utf8Decoder none true (c :: cs).toArray 0 [] = pure (x.cps, n)) (hsz : x.length ≤ 16777216) (h : ∀ t' k, Q (.str x t') { s with toks := k }) :
    wpAny (model prog w) A (call (.builtin "bytes.decode") [.bytes (c :: cs).toArray t, .str (PySem.Str.ofString "utf-8") u]) Q E s :=
  call_meets FB.slot_bytes_decode (PySem.W.typeIs_bytes _ _ _) FB.entry_bytes_decode (dec_args _ _) (dec_meets hd) ⟨by rw [sizeLine_eq]; exact hsz, h⟩
end
theorem run_i (id : String) : _codecs.runDecoder id _codecs.utf8Decoder none true #[105] 0 [] = pure ((PySem.Str.ofString "i").cps, 1) := by kernel_rfl
theorem run_t (id : String) : _codecs.runDecoder id _codecs.utf8Decoder none true #[116] 0 [] = pure ((PySem.Str.ofString "t").cps, 1) := by kernel_rfl
theorem run_l (id : String) : _codecs.runDecoder id _codecs.utf8Decoder none true #[108] 0 [] = pure ((PySem.Str.ofString "l").cps, 1) := by kernel_rfl
theorem run_g (id : String) : _codecs.runDecoder id _codecs.utf8Decoder none true #[103] 0 [] = pure ((PySem.Str.ofString "g").cps, 1) := by kernel_rfl
section
variable {prog : Program} {w : World} {A : Around} {E : Value → Shared → Prop} {s : Shared} {Q : Value → Shared → Prop} {h₀ : Heap} {L : Addr} {m : Str → Option Value} {news : List (Addr × Obj)}
theorem item37 {b : Array UInt8} {t ui : Tok} {i v : Int} {ks rest : List Int} {value slice : PySem.Expr} (hk : KBw.bInts b = ks) (hl : ks.length = 37) (h0 : 0 ≤ i) (h1 : i < 37) (hv : ks.drop i.toNat = v :: rest)
    (h : ∀ t' k, Q (.int v t') { s with toks := k })
    (hs : subscripted slice false (.bytes b t) (.int i ui) = operate [.bytes b t, .int i ui] (getItem (.bytes b t) (.int i ui)) := by with_unfolding_all rfl)
    (ht : ∀ r, letTemporaryGo value (.bytes b t) r = pure () := by intro _; with_unfolding_all rfl) : wpAny (model prog w) A (subscriptTail value slice (.bytes b t) (.int i ui)) Q E s :=
  item_at hk (by omega) h0 (by omega) hv h hs ht
theorem slice37 {b c : Array UInt8} {t : Tok} {ks : List Int} {l u : Value} {lo hi : Option Int} {value slice : PySem.Expr} (hF : Fr h₀ L s.heap m) (hN : News h₀ L s.heap news) (hk : KBw.bInts b = ks) (hl : ks.length = 37) (l1 : IsPart l lo) (u1 : IsPart u hi)
    (hc : (ks.drop (lo.elim 0 (clipAt ks.length))).take (hi.elim ks.length (clipAt ks.length) - lo.elim 0 (clipAt ks.length)) = KBw.bInts c)
    (h : ∀ h' t' k, Fr h₀ L h' m → News h₀ L h' news → Q (.bytes c t') { s with heap := h', toks := k })
    (hs : subscripted slice false (.bytes b t) (.ref s.heap.objs.size) = operate [.ref s.heap.objs.size, .bytes b t] (getItem (.bytes b t) (.ref s.heap.objs.size)) := by with_unfolding_all rfl)
    (ht : ∀ r, letTemporaryGo value (.bytes b t) r = pure () := by intro _; with_unfolding_all rfl) :
    wpAny (model prog w) A (subscriptTail value slice (.bytes b t) (.ref s.heap.objs.size)) Q E { s with heap := s.heap.push { cls := .type "slice", data := .fields #[l, u, .none] } } :=
  slice_eq hF hN hk l1 u1 (by omega) hc h hs ht
end
theorem allLt_all {d : Addr} {l : List (Addr × Obj)} (h : AllLt d l) : ∀ q ∈ l, q.1 < d := by
  induction l with
  | nil => intro q hq; cases hq
  | cons p r ih =>
    intro q hq
    cases hq with
    | head => exact h.1
    | tail _ hq => exact ih h.2 q hq
theorem News.d4 {h₀ h : Heap} {L : Addr} {a b c d : Addr × Obj} {l : List (Addr × Obj)} (N : News h₀ L h (a :: b :: c :: d :: l)) : News h₀ L h (a :: b :: c :: l) := fun q hq => by
  simp only [List.mem_cons] at hq
  refine N q ?_
  simp only [List.mem_cons]
  rcases hq with h | h | h | h
  · exact .inl h
  · exact .inr (.inl h)
  · exact .inr (.inr (.inl h))
  · exact .inr (.inr (.inr (.inr h)))
theorem News.sub {h₀ h : Heap} {L : Addr} {l l' : List (Addr × Obj)} (N : News h₀ L h l) (sb : List.Sublist l' l) : News h₀ L h l' := fun q hq => N q (sb.subset hq)
theorem lt_tl {d : Addr} {p : Addr × Obj} {l : List (Addr × Obj)} (h : ∀ q ∈ p :: l, q.1 < d) : ∀ q ∈ l, q.1 < d := fun q hq => h q (List.mem_cons_of_mem _ hq)
theorem ne_same_b {prog : Program} {w : World} {A : Around} {E : Value → Shared → Prop} {s : Shared} {b c : Array UInt8} {t u : Tok} {Q : Value → Shared → Prop} (e : b = c) (h : Q (.bool false) s) : wpAny (model prog w) A (compareOp .NotEq (.bytes b t) (.bytes c u)) Q E s := by
  subst e
  refine ne_bytes ?_
  rw [show (b.toList != b.toList) = false from bne_self_eq_false _]
  exact h
end
section
section
variable {prog p : Program} {w : World} {loose : List Str} {mean : ExcName → Option Value} {mg mb : Str → Option Value} {dp un : Nat}
  {gd : Option (List Code)} {cn : Str} {cs : Scope} {a : Addr} {ccd : Value} {cl : List (Str × Addr)} {outer : List Env} {A₀ : Around} {base h₀ : Heap} {L : Addr} {m : Str → Option Value} {s : Shared} {Q E : Value → Shared → Prop}
  {news : List (Addr × Obj)}
  (B : Below A₀ base outer h₀) (F : Fr h₀ L s.heap m) (X : (K w.params).In h₀) (N : News h₀ L s.heap news)
  (T : Top p loose mean mg mb h₀) (hk : cs.kind = .function) (hd : dp + 60 < 1000) (hu : un + 400 < 9900)
include B F X N T hk hd hu
theorem words_5 : True := by
  k_with "ite" => (with_reducible rename Mk 5 => mk9); k_extra "#1"
  k_with "callWith" => (with_reducible rename Mk 5 => mk9); (k_here; k_dflt (refine' callWith_boundK ?N ?m ?_; (case N => k_asm); (case m => k_mem); k_whole))
  k_with "evalAll" => (with_reducible rename Mk 5 => mk9); (k_here; k_dflt (first | refine kws_nil ?_ | refine kws_cons ?_))
  k_with "call ref" => (with_reducible rename Mk 5 => mk9); (k_here; k_dflt (show wpAny _ _ (call (Value.ref _) [Value.bytes _ _, Value.str _ _] [(_, Value.bool _)]) _ _ _); k_dflt (refine' call_littleK ?N ?m ?l ?g ?_; (case N => k_asm); (case m => k_mem); (case l => exact (four_neg (by assumption) (by assumption)).1); (case g => exact (four_neg (by assumption) (by assumption)).2); k_whole); intro clTw9 clKw9; rw [four_val (by assumption)])
  k_with "subscriptTail" => (with_reducible rename Mk 5 => mk9); (k_here; ((with_reducible show wpAny _ _ (subscriptTail _ (Expr.Slice _ _ none _) (Value.bytes _ _) (Value.ref _)) _ _ _)); (with_reducible rename Fr _ _ _ _ => F'w9); (with_reducible rename News _ _ _ _ => N'w9); (refine KBc.slice_K (s := ⟨_, _, _, _, _⟩) F'w9 N'w9 rfl (by constructor) (by constructor) (bi_le (by omega)) ?_); intro _ _ _ _ _ kbcKw9)
  trivial
theorem unp4 {t tp tn : Tok} {b : Array UInt8} {p : Int} {sg : Bool} {k0 k1 k2 k3 : Int} (hp : 0 ≤ p) (hp2 : p + 4 ≤ b.size) (hbz : b.size ≤ 1000) (hk4 : KBw.bInts (KBy.picked b (some p) (some (p + 4))) = [k0, k1, k2, k3]) (hsg : sg = true → k3 < 128)  
    (ret : ∀ t' h' tk', Fr h₀ L h' m → News h₀ L h' news → Q (.int (k0 + 256 * k1 + 65536 * k2 + 16777216 * k3) t') { s with heap := h', toks := tk' }) :
    wpAny (model prog w) (ktrTop dp un gd cn cs L a ccd cl outer) (call (.ref 1035) [.bytes b t, .int p tp, .int 4 tn, .bool sg]) Q E s := by
  have mk9 : Mk 5 := .mk
  refine wpAny_call ?_
  k_extra "my en"
  k_steps
  all_goals first | exact ret _ _ _ (by k_asm) (by k_extra "my drop") | (exfalso; clear ret; omega)
end
end
theorem words_c5 : True := by
  k_with "#4" => (k_here; ((with_reducible show wpAny _ _ (subscriptTail _ _ (Value.bytes _ _) (Value.int _ _)) _ _ _)); k_dflt (refine' item37 ?hk ?hl ?h0 ?h1 ?hv ?_; (case hk => with_reducible assumption); (case hl => exact rfl); (case h0 => decide); (case h1 => decide); (case hv => exact rfl)); intro itTw9 itKw9)
  k_with "#5" => (k_here; ((with_reducible show wpAny _ _ (subscriptTail _ (Expr.Slice _ _ none _) (Value.bytes _ _) (Value.ref _)) _ _ _)); (with_reducible rename Fr _ _ _ _ => F'w9); (with_reducible rename News _ _ _ _ => N'w9); k_dflt (refine slice37 (s := ⟨_, _, _, _, _⟩) F'w9 N'w9 (by with_reducible assumption) rfl (by constructor) (by constructor) (by first | with_reducible assumption | exact Eq.symm (by assumption)) ?_); intro slHw9 slTw9 slKw9 kFw9 kNw9; (try k_sweep))
  trivial
section
section
variable {prog p : Program} {w : World} {loose : List Str} {mean : ExcName → Option Value} {mg mb : Str → Option Value} {dp un : Nat}
  {gd : Option (List Code)} {cn : Str} {cs : Scope} {a : Addr} {ccd : Value} {cl : List (Str × Addr)} {outer : List Env} {A₀ : Around} {base h₀ : Heap} {L : Addr} {m : Str → Option Value} {s : Shared} {Q E : Value → Shared → Prop}
  {news : List (Addr × Obj)}
  (B : Below A₀ base outer h₀) (F : Fr h₀ L s.heap m) (X : (K w.params).In h₀) (N : News h₀ L s.heap news)
  (T : Top p loose mean mg mb h₀) (hk : cs.kind = .function) (hd : dp + 60 < 1000) (hu : un + 400 < 9900)
include B F X N T hk hd hu
theorem unpv {t tp tn : Tok} {b : Array UInt8} {p v : Int} {sg : Bool} {ks : List Int} {k0 k1 k2 k3 : Int} (hp : 0 ≤ p) (hp2 : p + 4 ≤ 37) (hz : b.size = 37) (hR : KBw.bInts b = ks)
    (h4 : (ks.drop ((some p).elim 0 (clipAt ks.length))).take ((some (p + 4)).elim ks.length (clipAt ks.length) - (some p).elim 0 (clipAt ks.length)) = [k0, k1, k2, k3]) (hsg : sg = true → k3 < 128) (hv : k0 + 256 * k1 + 65536 * k2 + 16777216 * k3 = v)
    (ret : ∀ t' h' tk', Fr h₀ L h' m → News h₀ L h'  news → Q (.int v t') { s with heap := h', toks := tk' }) :
    wpAny (model prog w) (ktrTop dp un gd cn cs L a ccd cl outer) (call (.ref 1035) [.bytes b t, .int p tp, .int 4 tn, .bool sg]) Q E s := by
  subst hv
  exact unp4 B F X N T hk hd hu hp (by omega) (by omega) ((KBc.ints_picked hR (some p) (some (p + 4))).trans h4) hsg ret
end
section
variable {prog p : Program} {w : World} {loose : List Str} {mean : ExcName → Option Value} {mg mb : Str → Option Value} {dp un : Nat}
  {gd : Option (List Code)} {cn : Str} {cs : Scope} {a : Addr} {ccd : Value} {cl : List (Str × Addr)} {outer : List Env} {A₀ : Around} {base h₀ : Heap} {L : Addr} {m : Str → Option Value} {s : Shared} {Q E : Value → Shared → Prop}
  {news : List (Addr × Obj)}
  (B : Below A₀ base outer h₀) (F : Fr h₀ L s.heap m) (X : (K w.params).In h₀) (N : News h₀ L s.heap news)
  (T : Top p loose mean mg mb h₀) (hk : cs.kind = .function) (hd : dp + 120 < 1000) (hu : un + 900 < 9900)
include B F X N T hk hd hu
theorem words_6 : True := by
  k_with "subscriptTail" => (with_reducible rename Mk 6 => mk9); k_extra "#4"
  k_with "subscriptTail" => (with_reducible rename Mk 6 => mk9); k_extra "#5"
  k_with "call builtin:len" => (with_reducible rename Mk 6 => mk9); (k_here; (with_reducible show wpAny _ _ (call (Value.builtin "len") [Value.bytes _ _]) _ _ _); refine len_37 (by with_reducible assumption) ?_; intro lnTw9 lnKw9)
  k_with "call ref" => (with_reducible rename Mk 6 => mk9); (k_here; (with_reducible show wpAny _ _ (call (Value.ref 1035) _) _ _ _); k_dflt (refine' unpv ?hB ?hF ?hX ?hN ?hT ?hK ?hD ?hU ?h0 ?h1 ?h2 ?h3 ?h4 ?h5 ?h6 ?_; (case hB => k_asm); (case hF => k_asm); (case hX => k_asm); (case hN => k_asm); (case hT => k_asm); (case hK => first | exact rfl | assumption); (case hD => k_extra "my dp"); (case hU => k_extra "my dp"); (case h0 => decide); (case h1 => decide); (case h2 => with_reducible assumption); (case h3 => with_reducible assumption); (case h4 => exact rfl); (case h5 => (intro qw9; first | exact absurd qw9 (by decide) | decide)); (case h6 => first | with_reducible assumption | exact (show (37 : Int) + 256 * 0 + 65536 * 0 + 16777216 * 0 = 37 by decide)); k_whole; intro upTw9 upHw9 upKw9 kFw9 kNw9; (try k_sweep)))
  trivial
theorem objsize {c0 c1 c2 c3 c4 c5 c6 c7 c8 c9 c10 c11 j0 j1 j2 j3 i0 i1 i2 i3 : Int} {R : Array UInt8} {tR tV : Tok} (hR : KBw.bInts R = [37, 0, 0, 0, 7, 105, 0, c0, c1, c2, c3, c4, c5, c6, c7, c8, c9, c10, c11, 17, 116, 0, j0, j1, j2, j3, i0, i1, i2, i3, 255, 108, 0, 127, 103, 0, 0]) (hz : R.size = 37) {tp te : Tok}  
    (ret : ∀ D n t1 t2 h' tk', Fr h₀ L h' m → News h₀ L h' ((D, { cls := .type "tuple", data := .seq #[.int 37 t1, .int 36 t2] n }) :: news) → Q (.ref D) { s with heap := h', toks := tk' }) :
    wpAny (model prog w) (ktrTop dp un gd cn cs L a ccd cl outer) (call (.ref 1126) [.bytes R tR, .int 0 tp, .int 37 te]) Q E s := by
  have mk9 : Mk 6 := .mk
  refine wpAny_call ?_
  k_extra "my en"
  k_steps
  all_goals first | exact ret _ _ _ _ _ _ (by k_asm) (by k_extra "my drop") | (exfalso; clear ret; omega)
end
end
theorem words_c6 : True := by
  k_with "#6" => (k_here; (with_reducible show wpAny _ _ (getMethod (Value.str _ _) ("encode" : Str) _) _ _ _); refine getM_encode ?_)
  k_with "#7" => (k_here; k_dflt (show wpAny _ _ (call (Value.builtin "str.encode") [Value.str _ _, Value.str _ _]) _ _ _); first | (with_reducible refine call_enc_i ?_) | (with_reducible refine call_enc_t ?_) | (with_reducible refine call_enc_l ?_) | (with_reducible refine call_enc_g ?_); intro ecTw9 ecKw9)
  k_with "#8" => (first | with_reducible refine PyProof.Rows.ite_tt ?_ | with_reducible refine PyProof.Rows.ite_ff ?_ | k_closed; k_dflt (first | refine ite_neg (by decide +kernel) ?_ | refine ite_pos (by decide +kernel) ?_))
  k_with "#9" => (k_here; refine KBy.add_bytes ?z ?_; (case z => (simp only [Array.size_append, List.size_toArray, List.length_cons, List.length_nil]; first | decide | omega)); intro adTw9 adKw9)
  trivial
section
theorem words_c7 : True := by
  k_with "execs cons" => (k_here; (with_reducible show wpAny _ _ (execs (Stmt.If (Expr.Call (Expr.Name (Str.ofString "isinstance") _) [Expr.Name _ _, Expr.Name _ _] [] _) _ [] _ :: _) _) _ _ _); k_dflt (refine' skip_runH ?X ?F ?T ?N ?hv ?m1 ?m2 ?hk ?hx ?hd ?hi ?hc ?_; (case X => k_asm); (case F => k_asm); (case T => k_asm); (case N => k_asm); (case hv => (first | ((repeat' first | with_reducible exact lk_hit | with_reducible assumption | with_reducible refine' lk_miss (by kernel_rfl) ?_); done) | exact rfl | with_reducible assumption)); (case m1 => k_mem); (case m2 => k_mem); (case hk => exact rfl); (case hx => exact rfl); (case hd => exact rfl); (case hi => exact rfl); (case hc => first | exact skn (n := 10) (by decide +kernel) | exact skn (n := 8) (by decide +kernel) | exact skn (n := 7) (by decide +kernel) | exact skn (n := 6) (by decide +kernel) | exact skn (n := 5) (by decide +kernel) | exact skn (n := 1) (by decide +kernel)); intro skTw9; (try dsimp only [List.drop_succ_cons, List.drop_zero])))
  trivial
section
section
variable {prog p : Program} {w : World} {loose : List Str} {mean : ExcName → Option Value} {mg mb : Str → Option Value} {dp un : Nat}
  {gd : Option (List Code)} {cn : Str} {cs : Scope} {a : Addr} {ccd : Value} {cl : List (Str × Addr)} {outer : List Env} {A₀ : Around} {base h₀ : Heap} {L : Addr} {m : Str → Option Value} {s : Shared} {Q E : Value → Shared → Prop}
  {news : List (Addr × Obj)}
  (B : Below A₀ base outer h₀) (F : Fr h₀ L s.heap m) (X : (K w.params).In h₀) (N : News h₀ L s.heap news)
  (T : Top p loose mean mg mb h₀) (hk : cs.kind = .function) (hd : dp + 60 < 1000) (hu : un + 400 < 9900)
include B F X N T hk hd hu
theorem words_7 : True := by
  k_with "execs cons" => (with_reducible rename Mk 7 => mk9); (k_here; (with_reducible show wpAny _ _ (execs (Stmt.If (Expr.Compare (Expr.Name _ _) [CmpOp.Eq] [Expr.Constant (Const.int _) _ _] _) _ [] _ :: _) _) _ _ _); k_dflt (refine' skip_eqsH ?X ?F ?hv ?hk ?hx ?hd ?hc ?_; (case X => k_asm); (case F => k_asm); (case hv => (first | ((repeat' first | with_reducible exact lk_hit | with_reducible assumption | with_reducible refine' lk_miss (by kernel_rfl) ?_); done) | exact rfl | with_reducible assumption)); (case hk => exact rfl); (case hx => exact rfl); (case hd => exact rfl); (case hc => first | exact skn (n := 12) (by decide +kernel) | exact skn (n := 8) (by decide +kernel) | exact skn (n := 4) (by decide +kernel) | exact skn (n := 3) (by decide +kernel) | exact skn (n := 2) (by decide +kernel) | exact skn (n := 1) (by decide +kernel)); intro skTw9; (try dsimp only [List.drop_succ_cons, List.drop_zero])))
  k_with "getMethod str" => (with_reducible rename Mk 7 => mk9); k_extra "#6"
  k_with "call builtin:str.encode" => (with_reducible rename Mk 7 => mk9); k_extra "#7"
  k_with "ite" => (with_reducible rename Mk 7 => mk9); k_extra "#8"
  k_with "binaryOp Add bytes bytes" => (with_reducible rename Mk 7 => mk9); k_extra "#9"
  trivial
theorem elem_l {t : Tok} {x dx : Addr}  (hx : (x, instObj 782 dx) ∈ news) (hdx : (dx, dictOf [] 0) ∈ news)
    (ret : ∀ t' h' tk', Fr h₀ L h' m → News h₀ L h' news → Q (.bytes #[255, 108, 0] t') { s with heap := h', toks := tk' }) :
    wpAny (model prog w) (ktrTop dp un gd cn cs L a ccd cl outer) (call (.ref 1438) [.str (S "l") t, .ref x, .bool false, .ref 262]) Q E s := by
  have mk9 : Mk 7 := .mk
  refine wpAny_call ?_
  k_extra "my en"
  k_steps
  all_goals first | exact ret _ _ _ (by k_asm) (by k_extra "my drop") | (exfalso; clear ret; omega)
end
end
section
section
variable {prog p : Program} {w : World} {loose : List Str} {mean : ExcName → Option Value} {mg mb : Str → Option Value} {dp un : Nat}
  {gd : Option (List Code)} {cn : Str} {cs : Scope} {a : Addr} {ccd : Value} {cl : List (Str × Addr)} {outer : List Env} {A₀ : Around} {base h₀ : Heap} {L : Addr} {m : Str → Option Value} {s : Shared} {Q E : Value → Shared → Prop}
  {news : List (Addr × Obj)}
  (B : Below A₀ base outer h₀) (F : Fr h₀ L s.heap m) (X : (K w.params).In h₀) (N : News h₀ L s.heap news)
  (T : Top p loose mean mg mb h₀) (hk : cs.kind = .function) (hd : dp + 60 < 1000) (hu : un + 400 < 9900)
include B F X N T hk hd hu
theorem elem_g {t : Tok} {x dx : Addr}  (hx : (x, instObj 719 dx) ∈ news) (hdx : (dx, dictOf [] 0) ∈ news)
    (ret : ∀ t' h' tk', Fr h₀ L h' m → News h₀ L h' news → Q (.bytes #[127, 103, 0] t') { s with heap := h', toks := tk' }) :
    wpAny (model prog w) (ktrTop dp un gd cn cs L a ccd cl outer) (call (.ref 1438) [.str (S "g") t, .ref x, .bool false, .ref 262]) Q E s := by
  have mk9 : Mk 7 := .mk
  refine wpAny_call ?_
  k_extra "my en"
  k_steps
  all_goals first | exact ret _ _ _ (by k_asm) (by k_extra "my drop") | (exfalso; clear ret; omega)
end
end
section
section
variable {prog p : Program} {w : World} {loose : List Str} {mean : ExcName → Option Value} {mg mb : Str → Option Value} {dp un : Nat}
  {gd : Option (List Code)} {cn : Str} {cs : Scope} {a : Addr} {ccd : Value} {cl : List (Str × Addr)} {outer : List Env} {A₀ : Around} {base h₀ : Heap} {L : Addr} {m : Str → Option Value} {s : Shared} {Q E : Value → Shared → Prop}
  {news : List (Addr × Obj)}
  (B : Below A₀ base outer h₀) (F : Fr h₀ L s.heap m) (X : (K w.params).In h₀) (N : News h₀ L s.heap news)
  (T : Top p loose mean mg mb h₀) (hk : cs.kind = .function) (hd : dp + 60 < 1000) (hu : un + 400 < 9900)
include B F X N T hk hd hu
theorem elem_i {t : Tok} {x dx : Addr} {b : Array UInt8} {u tb : Tok} (hb : b.size = 12)  (hx : (x, instObj 902 dx) ∈ news) (hdx : (dx, dictOf [dE w.params (S "_id") u (.bytes b tb)] 1) ∈ news)
    (ret : ∀ t' h' tk', Fr h₀ L h' m → News h₀ L h' news → Q (.bytes (#[7] ++ #[105, 0] ++ b) t') { s with heap := h', toks := tk' }) :
    wpAny (model prog w) (ktrTop dp un gd cn cs L a ccd cl outer) (call (.ref 1438) [.str (S "i") t, .ref x, .bool false, .ref 262]) Q E s := by
  have mk9 : Mk 7 := .mk
  refine wpAny_call ?_
  k_extra "my en"
  k_steps
  all_goals first | exact ret _ _ _ (by k_asm) (by k_extra "my drop") | (exfalso; clear ret; omega)
end
end
section
section
variable {prog p : Program} {w : World} {loose : List Str} {mean : ExcName → Option Value} {mg mb : Str → Option Value} {dp un : Nat}
  {gd : Option (List Code)} {cn : Str} {cs : Scope} {a : Addr} {ccd : Value} {cl : List (Str × Addr)} {outer : List Env} {A₀ : Around} {base h₀ : Heap} {L : Addr} {m : Str → Option Value} {s : Shared} {Q E : Value → Shared → Prop}
  {news : List (Addr × Obj)}
  (B : Below A₀ base outer h₀) (F : Fr h₀ L s.heap m) (X : (K w.params).In h₀) (N : News h₀ L s.heap news)
  (T : Top p loose mean mg mb h₀) (hk : cs.kind = .function) (hd : dp + 60 < 1000) (hu : un + 400 < 9900)
include B F X N T hk hd hu
theorem words_8 : True := by
  k_with "execs cons" => (with_reducible rename Mk 8 => mk9); (k_here; (with_reducible show wpAny _ _ (execs (Stmt.If (Expr.Compare (Expr.Name _ _) [CmpOp.Eq] [Expr.Constant (Const.int _) _ _] _) _ [] _ :: _) _) _ _ _); k_dflt (refine' skip_eqsH ?X ?F ?hv ?hk ?hx ?hd ?hc ?_; (case X => k_asm); (case F => k_asm); (case hv => (first | ((repeat' first | with_reducible exact lk_hit | with_reducible assumption | with_reducible refine' lk_miss (by kernel_rfl) ?_); done) | exact rfl | with_reducible assumption)); (case hk => exact rfl); (case hx => exact rfl); (case hd => exact rfl); (case hc => first | exact skn (n := 12) (by decide +kernel) | exact skn (n := 8) (by decide +kernel) | exact skn (n := 4) (by decide +kernel) | exact skn (n := 3) (by decide +kernel) | exact skn (n := 2) (by decide +kernel) | exact skn (n := 1) (by decide +kernel)); intro skTw9; (try dsimp only [List.drop_succ_cons, List.drop_zero])))
  k_with "getMethod str" => (with_reducible rename Mk 8 => mk9); k_extra "#6"
  k_with "call builtin:str.encode" => (with_reducible rename Mk 8 => mk9); k_extra "#7"
  k_with "ite" => (with_reducible rename Mk 8 => mk9); k_extra "#8"
  k_with "binaryOp Add bytes bytes" => (with_reducible rename Mk 8 => mk9); (k_here; refine KBy.add_bytes ?z ?_; (case z => (simp only [le4_size, Array.size_append, List.size_toArray, List.length_cons, List.length_nil]; first | decide | omega)); intro adTw9 adKw9)
  k_with "call builtin:int.to_bytes" => (with_reducible rename Mk 8 => mk9); (k_here; (with_reducible show wpAny _ _ (call (Value.builtin "int.to_bytes") [Value.int _ _, Value.int _ _, Value.str _ _]) _ _ _); (with_unfolding_all refine to_le4 (by with_reducible assumption) (by with_reducible assumption) ?_); intro tbTw9 tbKw9)
  trivial
theorem elem_t {t : Tok} {x dx : Addr} {i j : Int} {u1 u2 t1 t2 : Tok} (hi0 : 0 ≤ i) (hi1 : i < 4294967296) (hj0 : 0 ≤ j) (hj1 : j < 4294967296)  (hx : (x, instObj 1024 dx) ∈ news) (hdx : (dx, dictOf [dE w.params (S "_time") u1 (.int i t1), dE w.params (S "_inc") u2 (.int j t2)] 2) ∈ news)
    (ret : ∀ t' h' tk', Fr h₀ L h' m → News h₀ L h' news → Q (.bytes ((#[17] ++ (#[116] ++ #[0])) ++ (le4 j ++ le4 i)) t') { s with heap := h', toks := tk' }) :
    wpAny (model prog w) (ktrTop dp un gd cn cs L a ccd cl outer) (call (.ref 1438) [.str (S "t") t, .ref x, .bool false, .ref 262]) Q E s := by
  have mk9 : Mk 8 := .mk
  refine wpAny_call ?_
  k_extra "my en"
  k_steps
  all_goals first | exact ret _ _ _ (by k_asm) (by k_extra "my drop") | (exfalso; clear ret; omega)
end
end
section
section
variable {prog p : Program} {w : World} {loose : List Str} {mean : ExcName → Option Value} {mg mb : Str → Option Value} {dp un : Nat}
  {gd : Option (List Code)} {cn : Str} {cs : Scope} {a : Addr} {ccd : Value} {cl : List (Str × Addr)} {outer : List Env} {A₀ : Around} {base h₀ : Heap} {L : Addr} {m : Str → Option Value} {s : Shared} {Q E : Value → Shared → Prop}
  {news : List (Addr × Obj)}
  (B : Below A₀ base outer h₀) (F : Fr h₀ L s.heap m) (X : (K w.params).In h₀) (N : News h₀ L s.heap news)
  (T : Top p loose mean mg mb h₀) (hk : cs.kind = .function) (hd : dp + 120 < 1000) (hu : un + 900 < 9900)
include B F X N T hk hd hu
theorem words_9 : True := by
  k_with "execs cons" => (with_reducible rename Mk 9 => mk9); (k_here; (with_reducible show wpAny _ _ (execs (Stmt.If (Expr.Compare (Expr.Name _ _) [CmpOp.Eq] [Expr.Constant (Const.int _) _ _] _) _ [] _ :: _) _) _ _ _); k_dflt (refine' skip_eqsH ?X ?F ?hv ?hk ?hx ?hd ?hc ?_; (case X => k_asm); (case F => k_asm); (case hv => (first | ((repeat' first | with_reducible exact lk_hit | with_reducible assumption | with_reducible refine' lk_miss (by kernel_rfl) ?_); done) | exact rfl | with_reducible assumption)); (case hk => exact rfl); (case hx => exact rfl); (case hd => exact rfl); (case hc => first | exact skn (n := 12) (by decide +kernel) | exact skn (n := 8) (by decide +kernel) | exact skn (n := 4) (by decide +kernel) | exact skn (n := 3) (by decide +kernel) | exact skn (n := 2) (by decide +kernel) | exact skn (n := 1) (by decide +kernel)); intro skTw9; (try dsimp only [List.drop_succ_cons, List.drop_zero])))
  k_with "subscriptTail" => (with_reducible rename Mk 9 => mk9); k_extra "#4"
  k_with "subscriptTail" => (with_reducible rename Mk 9 => mk9); k_extra "#5"
  trivial
theorem gel_i {c0 c1 c2 c3 c4 c5 c6 c7 c8 c9 c10 c11 j0 j1 j2 j3 i0 i1 i2 i3 : Int} {R : Array UInt8} {tR tV : Tok} (hR : KBw.bInts R = [37, 0, 0, 0, 7, 105, 0, c0, c1, c2, c3, c4, c5, c6, c7, c8, c9, c10, c11, 17, 116, 0, j0, j1, j2, j3, i0, i1, i2, i3, 255, 108, 0, 127, 103, 0, 0]) (hz : R.size = 37) {B : Array UInt8} (hB : KBw.bInts B = [c0, c1, c2, c3, c4, c5, c6, c7, c8, c9, c10, c11]) (hB12 : B.size = 12) {te tp to tn : Tok} {nmv : Str}  
    (ret : ∀ D n x dx u t1 tq h' tk', Fr h₀ L h' m → News h₀ L h' ((D, { cls := .type "tuple", data := .seq #[.ref x, .int 19 tq] n }) :: (x, instObj 902 dx) :: (dx, dictOf [dE w.params (S "_id") u (.bytes B t1)] 1) :: news) → (∀ q ∈ news, q.1 < dx) → @LT.lt Nat _ dx x → @LT.lt Nat _ x D → Q (.ref D) { s with heap := h', toks := tk' }) :
    wpAny (model prog w) (ktrTop dp un gd cn cs L a ccd cl outer) (call (.ref 1224) [.int 7 te, .bytes R tR, .bytes R tV, .int 7 tp, .int 36 to, .ref 262, .str nmv tn]) Q E s := by
  have mk9 : Mk 9 := .mk
  refine wpAny_call ?_
  k_extra "my en"
  k_steps
  all_goals first | exact ret _ _ _ _ _ _ _ _ _ (by k_asm) (by first | exact News.d4 (by with_reducible assumption) | k_extra "my drop") (by first | assumption | exact allLt_all (And.right (by assumption))) (by assumption) (by first | assumption | exact And.left (by assumption)) | (exfalso; clear ret; omega)
end
end
section
section
variable {prog p : Program} {w : World} {loose : List Str} {mean : ExcName → Option Value} {mg mb : Str → Option Value} {dp un : Nat}
  {gd : Option (List Code)} {cn : Str} {cs : Scope} {a : Addr} {ccd : Value} {cl : List (Str × Addr)} {outer : List Env} {A₀ : Around} {base h₀ : Heap} {L : Addr} {m : Str → Option Value} {s : Shared} {Q E : Value → Shared → Prop}
  {news : List (Addr × Obj)}
  (B : Below A₀ base outer h₀) (F : Fr h₀ L s.heap m) (X : (K w.params).In h₀) (N : News h₀ L s.heap news)
  (T : Top p loose mean mg mb h₀) (hk : cs.kind = .function) (hd : dp + 150 < 1000) (hu : un + 1200 < 9900)
include B F X N T hk hd hu
theorem words_10 : True := by
  k_with "execs cons" => (with_reducible rename Mk 10 => mk9); (k_here; (with_reducible show wpAny _ _ (execs (Stmt.If (Expr.Compare (Expr.Name _ _) [CmpOp.Eq] [Expr.Constant (Const.int _) _ _] _) _ [] _ :: _) _) _ _ _); k_dflt (refine' skip_eqsH ?X ?F ?hv ?hk ?hx ?hd ?hc ?_; (case X => k_asm); (case F => k_asm); (case hv => (first | ((repeat' first | with_reducible exact lk_hit | with_reducible assumption | with_reducible refine' lk_miss (by kernel_rfl) ?_); done) | exact rfl | with_reducible assumption)); (case hk => exact rfl); (case hx => exact rfl); (case hd => exact rfl); (case hc => first | exact skn (n := 12) (by decide +kernel) | exact skn (n := 8) (by decide +kernel) | exact skn (n := 4) (by decide +kernel) | exact skn (n := 3) (by decide +kernel) | exact skn (n := 2) (by decide +kernel) | exact skn (n := 1) (by decide +kernel)); intro skTw9; (try dsimp only [List.drop_succ_cons, List.drop_zero])))
  k_with "subscriptTail" => (with_reducible rename Mk 10 => mk9); k_extra "#4"
  k_with "subscriptTail" => (with_reducible rename Mk 10 => mk9); k_extra "#5"
  k_with "call ref" => (with_reducible rename Mk 10 => mk9); (k_here; (with_reducible show wpAny _ _ (call (Value.ref 1035) _) _ _ _); k_dflt (refine' unpv ?hB ?hF ?hX ?hN ?hT ?hK ?hD ?hU ?h0 ?h1 ?h2 ?h3 ?h4 ?h5 ?h6 ?_; (case hB => k_asm); (case hF => k_asm); (case hX => k_asm); (case hN => k_asm); (case hT => k_asm); (case hK => first | exact rfl | assumption); (case hD => k_extra "my dp"); (case hU => k_extra "my dp"); (case h0 => decide); (case h1 => decide); (case h2 => with_reducible assumption); (case h3 => with_reducible assumption); (case h4 => exact rfl); (case h5 => (intro qw9; first | exact absurd qw9 (by decide) | decide)); (case h6 => first | with_reducible assumption | exact (show (37 : Int) + 256 * 0 + 65536 * 0 + 16777216 * 0 = 37 by decide)); k_whole; intro upTw9 upHw9 upKw9 kFw9 kNw9; (try k_sweep)))
  trivial
theorem gel_t {c0 c1 c2 c3 c4 c5 c6 c7 c8 c9 c10 c11 j0 j1 j2 j3 i0 i1 i2 i3 : Int} {R : Array UInt8} {tR tV : Tok} (hR : KBw.bInts R = [37, 0, 0, 0, 7, 105, 0, c0, c1, c2, c3, c4, c5, c6, c7, c8, c9, c10, c11, 17, 116, 0, j0, j1, j2, j3, i0, i1, i2, i3, 255, 108, 0, 127, 103, 0, 0]) (hz : R.size = 37) {i j : Int} (hj : j0 + 256 * j1 + 65536 * j2 + 16777216 * j3 = j) (hi : i0 + 256 * i1 + 65536 * i2 + 16777216 * i3 = i) (vi0 : 0 ≤ i) (vi1 : i < 4294967296) (vj0 : 0 ≤ j) (vj1 : j < 4294967296) {te tp to tn : Tok} {nmv : Str}  
    (ret : ∀ D n x dx u1 u2 t1 t2 tq h' tk', Fr h₀ L h' m → News h₀ L h' ((D, { cls := .type "tuple", data := .seq #[.ref x, .int 30 tq] n }) :: (x, instObj 1024 dx) :: (dx, dictOf [dE w.params (S "_time") u1 (.int i t1), dE w.params (S "_inc") u2 (.int j t2)] 2) :: news) → (∀ q ∈ news, q.1 < dx) → @LT.lt Nat _ dx x → @LT.lt Nat _ x D → Q (.ref D) { s with heap := h', toks := tk' }) :
    wpAny (model prog w) (ktrTop dp un gd cn cs L a ccd cl outer) (call (.ref 1224) [.int 17 te, .bytes R tR, .bytes R tV, .int 22 tp, .int 36 to, .ref 262, .str nmv tn]) Q E s := by
  have mk9 : Mk 10 := .mk
  refine wpAny_call ?_
  k_extra "my en"
  k_steps
  all_goals first | exact ret _ _ _ _ _ _ _ _ _ _ _ (by k_asm) (by first | exact News.d4 (by with_reducible assumption) | k_extra "my drop") (by first | assumption | exact allLt_all (And.right (by assumption))) (by assumption) (by first | assumption | exact And.left (by assumption)) | (exfalso; clear ret; omega)
end
end
section
section
variable {prog p : Program} {w : World} {loose : List Str} {mean : ExcName → Option Value} {mg mb : Str → Option Value} {dp un : Nat}
  {gd : Option (List Code)} {cn : Str} {cs : Scope} {a : Addr} {ccd : Value} {cl : List (Str × Addr)} {outer : List Env} {A₀ : Around} {base h₀ : Heap} {L : Addr} {m : Str → Option Value} {s : Shared} {Q E : Value → Shared → Prop}
  {news : List (Addr × Obj)}
  (B : Below A₀ base outer h₀) (F : Fr h₀ L s.heap m) (X : (K w.params).In h₀) (N : News h₀ L s.heap news)
  (T : Top p loose mean mg mb h₀) (hk : cs.kind = .function) (hd : dp + 120 < 1000) (hu : un + 900 < 9900)
include B F X N T hk hd hu
theorem words_11 : True := by
  k_with "execs cons" => (with_reducible rename Mk 11 => mk9); (k_here; (with_reducible show wpAny _ _ (execs (Stmt.If (Expr.Compare (Expr.Name _ _) [CmpOp.Eq] [Expr.Constant (Const.int _) _ _] _) _ [] _ :: _) _) _ _ _); k_dflt (refine' skip_eqsH ?X ?F ?hv ?hk ?hx ?hd ?hc ?_; (case X => k_asm); (case F => k_asm); (case hv => (first | ((repeat' first | with_reducible exact lk_hit | with_reducible assumption | with_reducible refine' lk_miss (by kernel_rfl) ?_); done) | exact rfl | with_reducible assumption)); (case hk => exact rfl); (case hx => exact rfl); (case hd => exact rfl); (case hc => first | exact skn (n := 12) (by decide +kernel) | exact skn (n := 8) (by decide +kernel) | exact skn (n := 4) (by decide +kernel) | exact skn (n := 3) (by decide +kernel) | exact skn (n := 2) (by decide +kernel) | exact skn (n := 1) (by decide +kernel)); intro skTw9; (try dsimp only [List.drop_succ_cons, List.drop_zero])))
  k_with "subscriptTail" => (with_reducible rename Mk 11 => mk9); k_extra "#4"
  k_with "subscriptTail" => (with_reducible rename Mk 11 => mk9); k_extra "#5"
  trivial
theorem gel_l {c0 c1 c2 c3 c4 c5 c6 c7 c8 c9 c10 c11 j0 j1 j2 j3 i0 i1 i2 i3 : Int} {R : Array UInt8} {tR tV : Tok} (hR : KBw.bInts R = [37, 0, 0, 0, 7, 105, 0, c0, c1, c2, c3, c4, c5, c6, c7, c8, c9, c10, c11, 17, 116, 0, j0, j1, j2, j3, i0, i1, i2, i3, 255, 108, 0, 127, 103, 0, 0]) (hz : R.size = 37) {te tp to tn : Tok} {nmv : Str}  
    (ret : ∀ D n x dx  tq h' tk', Fr h₀ L h' m → News h₀ L h' ((D, { cls := .type "tuple", data := .seq #[.ref x, .int 33 tq] n }) :: (x, instObj 782 dx) :: (dx, dictOf [] 0) :: news) → (∀ q ∈ news, q.1 < dx) → @LT.lt Nat _ dx x → @LT.lt Nat _ x D → Q (.ref D) { s with heap := h', toks := tk' }) :
    wpAny (model prog w) (ktrTop dp un gd cn cs L a ccd cl outer) (call (.ref 1224) [.int 255 te, .bytes R tR, .bytes R tV, .int 33 tp, .int 36 to, .ref 262, .str nmv tn]) Q E s := by
  have mk9 : Mk 11 := .mk
  refine wpAny_call ?_
  k_extra "my en"
  k_steps
  all_goals first | exact ret _ _ _ _ _ _ _ (by k_asm) (by first | exact News.d4 (by with_reducible assumption) | k_extra "my drop") (by first | assumption | exact allLt_all (And.right (by assumption))) (by assumption) (by first | assumption | exact And.left (by assumption)) | (exfalso; clear ret; omega)
theorem gel_g {c0 c1 c2 c3 c4 c5 c6 c7 c8 c9 c10 c11 j0 j1 j2 j3 i0 i1 i2 i3 : Int} {R : Array UInt8} {tR tV : Tok} (hR : KBw.bInts R = [37, 0, 0, 0, 7, 105, 0, c0, c1, c2, c3, c4, c5, c6, c7, c8, c9, c10, c11, 17, 116, 0, j0, j1, j2, j3, i0, i1, i2, i3, 255, 108, 0, 127, 103, 0, 0]) (hz : R.size = 37) {te tp to tn : Tok} {nmv : Str}  
    (ret : ∀ D n x dx  tq h' tk', Fr h₀ L h' m → News h₀ L h' ((D, { cls := .type "tuple", data := .seq #[.ref x, .int 36 tq] n }) :: (x, instObj 719 dx) :: (dx, dictOf [] 0) :: news) → (∀ q ∈ news, q.1 < dx) → @LT.lt Nat _ dx x → @LT.lt Nat _ x D → Q (.ref D) { s with heap := h', toks := tk' }) :
    wpAny (model prog w) (ktrTop dp un gd cn cs L a ccd cl outer) (call (.ref 1224) [.int 127 te, .bytes R tR, .bytes R tV, .int 36 tp, .int 36 to, .ref 262, .str nmv tn]) Q E s := by
  have mk9 : Mk 11 := .mk
  refine wpAny_call ?_
  k_extra "my en"
  k_steps
  all_goals first | exact ret _ _ _ _ _ _ _ (by k_asm) (by first | exact News.d4 (by with_reducible assumption) | k_extra "my drop") (by first | assumption | exact allLt_all (And.right (by assumption))) (by assumption) (by first | assumption | exact And.left (by assumption)) | (exfalso; clear ret; omega)
end
end
end
section
open PySem PySem.W PySem.Calls PyProof.Rows PySem.SeqAt
section
variable {prog : Program} {w : World} {A : Around} {E : Value → Shared → Prop} {s : Shared} {h₀ : Heap} {L : Addr} {m : Str → Option Value} {env : Env}
theorem comp_dict {elt iter : PySem.Expr} {x : Str} {px : Pos} {scope : Scope} {cl : List (Str × Addr)} {pos : Pos} {Q : Value → Shared → Prop}
    (_F₀ : Fr h₀ L s.heap m) (hclos : closureFor scope env = pure cl) (hcell : ∀ y ∈ scope.names, y.2 ≠ .cell) (hkind : scope.kind = .function)
    (hnames : ∀ y ∈ scope.names, y.2 = .local → scope.names.lookup y.1 = some .local) (hx : scope.names.lookup x = some .local)
    (h : wpAny (model prog w) A (eval iter env) (fun xv s₁ => ∃ d od kvs news, xv = .ref d ∧ A.handled = none ∧ (d == sysModules) = false ∧ Fr h₀ L s₁.heap m ∧ News h₀ L s₁.heap news ∧ (d, od) ∈ news ∧ Obj.IsDictOf (PySem.strKind prog w) od kvs ∧ kvs.length ≤ sizeLine ∧
      ∀ g, LCg.CompRest prog w A h₀ L m env elt x scope cl { s₁ with heap := g } (fun nw => (d, od) ∈ nw) (fun i v => ∃ k x, kvs[i]? = some (k, x) ∧ (PySem.strKind prog w).is k v = true) (LCg.FinE h₀ L m { s₁ with heap := g } Q) kvs.length 0 [] news) E s)
    (hs : ∀ x, foldedSetIterable iter env x = pure x := by intro _; rfl) :
    wpAny (model prog w) A (eval (.ListComp elt [⟨.Name x px, iter, [], 0⟩] scope pos) env) Q E s := by
  rw [eval_ListComp]
  refine wpAny_comprehension_free (use := none) rfl hs hclos hkind hnames (wpAny_mono h (fun xv s₁ h₁ => ?_) fun _ _ e => e)
  obtain ⟨d, od, kvs, news, rfl, hh, lo, F, N, hm, hdict, hsz, R⟩ := h₁
  have hax := N _ hm
  obtain ⟨es₀, ep, r₀⟩ := hdict
  have hat : s₁.heap.DictAt (PySem.strKind prog w) d kvs ep := ⟨od, es₀, hax.1, r₀⟩
  have hne : d ≠ s₁.heap.objs.size := Nat.ne_of_lt hat.lt_size
  refine wpAny_pyIter_dict lo hat ?_
  refine LCg.block_U (Walks.dictKeys (knd := PySem.strKind prog w) hh s₁.heap.objs.size d hne kvs ep) hsz (fun i h st => by obtain ⟨⟨o, e, _⟩, _⟩ := st; exact ⟨o, e⟩) ?_ hcell hkind hx ⟨⟨_, Heap.get?_push_size _ rfl, rfl, rfl⟩, hat.push _⟩ (fun b hb => ?_)
    (F.keeps fun _ _ e => Heap.get?_push_of_some _ e) (N.grown fun _ _ e => Heap.get?_push_of_some _ e) (Nat.ne_of_lt F.ns.lt) (next_is_new F) (fun p hp => Nat.ne_of_lt (Heap.lt_size (N p hp).1)) hm (R _) ?_
  · intro i h h' o nw st e e' hk Nw hS
    refine ⟨?_, ?_⟩
    · obtain ⟨⟨o', q, r⟩, _⟩ := st
      rw [e] at q; cases q
      exact ⟨o, e', r⟩
    · have h1 := (Nw _ hS).1
      obtain ⟨od', es, q, r⟩ := hat
      rw [hax.1] at q; cases q
      exact ⟨od, es, h1, r⟩
  · show b < (s₁.heap.push _).objs.size
    rw [Heap.size_push]
    rcases List.mem_cons.mp hb with rfl | hb
    · exact Nat.lt_succ_self _
    · rw [List.mem_singleton.mp hb]; exact Nat.lt_succ_of_lt hat.lt_size
  · intro D C h tk m' ys news' F' N' o1 hn hC₀ hD₀ hCL hDL hCD offC fin
    refine ⟨m', hn, fun h'' hs'' => fin D h'' tk (F'.change hs'' hCL hC₀) (fun p hp => ?_) o1⟩
    refine ⟨hs''.extBut _ _ ?_ (N' p hp).1, (N' p hp).2⟩
    rcases List.mem_cons.mp hp with rfl | hp
    · exact Ne.symm hCD
    · exact offC p hp
end
theorem dict_push {prog : Program} {w : World} {kvs : List (Str × Value)} {i : Nat} {v x : Value} {k : Str} {ys : List Value} (h : StrsAre ys ((kvs.map (·.1)).take i)) (e : kvs[i]? = some (k, x)) (hk : (PySem.strKind prog w).is k v = true) :
    StrsAre (ys ++ [v]) ((kvs.map (·.1)).take (i + 1)) := by
  have q : (kvs.map (·.1)).take (i + 1) = (kvs.map (·.1)).take i ++ [k] := by
    rw [List.take_add_one, List.getElem?_map, e]; rfl
  rw [q]
  cases v with
  | str y t =>
    have : y = k := by simpa [PySem.strKind, Value.isStrOf] using hk
    subst this
    exact strs_snoc h
  | _ => simp [PySem.strKind, Value.isStrOf] at hk
section
variable {prog : Program} {w : World} {A : Around} {E : Value → Shared → Prop} {s : Shared} {Q : Value → Shared → Prop} {a b : Addr} {vs ws : List Value}
theorem at_lists (ha : s.heap.IsList a vs.toArray) (hb : s.heap.IsList b ws.toArray) (hu : A.units < cLine) (he : AllSame A.in1 s vs ws) : EqAt A s (.ref a) (.ref b) true := fun prog w E Q h => by
  unfold eqBool
  refine wpAny_holding ?_
  refine wpAny_ite_split (fun _ => ?_) (fun _ => ?_)
  · exact wpAny_pure (M := model prog w) (A := A) (E := E) (Q := Q) (s := s) h
  refine wpAny_bind ?_
  have sz : vs.toArray.size = ws.toArray.size := by simpa using he.len
  have e : (List.range vs.toArray.size).all (fun _ => true) = true := by simp
  refine RcAt.lists (e := fun _ => true) ha hb sz hu (fun j h1 h2 => by simpa using he.at j (by simpa using h1) (by simpa using h2)) prog w E _ ?_
  rw [e]
  exact wpAny_truthy_bool h
end
theorem strs4 {vs : List Value} {a b c d : Str} (h : StrsAre vs [a, b, c, d]) : ∃ t1 t2 t3 t4, vs = [.str a t1, .str b t2, .str c t3, .str d t4] := by
  cases h with
  | cons _ t1 h => cases h with
    | cons _ t2 h => cases h with
      | cons _ t3 h => cases h with
        | cons _ t4 h => cases h; exact ⟨t1, t2, t3, t4, rfl⟩
theorem dict_push2 {prog : Program} {w : World} {kvs : List (Str × Value)} {ks : List Str} {i : Nat} {v x : Value} {k : Str} {ys : List Value} (e : kvs[i]? = some (k, x)) (hks : kvs.map (·.1) = ks) (h : StrsAre ys (ks.take i)) (hk : (PySem.strKind prog w).is k v = true) :
    StrsAre (ys ++ [v]) (ks.take (i + 1)) := by
  subst hks
  exact dict_push h e hk
end
section
section
variable {prog p : Program} {w : World} {loose : List Str} {mean : ExcName → Option Value} {mg mb : Str → Option Value} {dp un : Nat}
  {gd : Option (List Code)} {cn : Str} {cs : Scope} {a : Addr} {ccd : Value} {cl : List (Str × Addr)} {A₀ : Around} {base h₀ : Heap} {L : Addr} {m : Str → Option Value} {s : Shared} {Q E : Value → Shared → Prop}
  {news : List (Addr × Obj)}
  (B : Below A₀ base [] h₀) (F : Fr h₀ L s.heap m) (X : (K w.params).In h₀) (N : News h₀ L s.heap news)
  (T : Top p loose mean mg mb h₀) (hk : cs.kind = .function) (hd : dp + 30 < 1000) (hu : un + 200 < 9900) (XB : (K w.params).In base) (TB : Top p loose mean mg mb base)
include B F X N T hk hd hu XB TB
theorem words_12 : True := by
  k_with "ite" => (with_reducible rename Mk 12 => mk9); k_extra "#1"
  k_with "And" => (with_reducible rename Mk 12 => mk9); k_extra "#2"
  k_with "joinParts" => (with_reducible rename Mk 12 => mk9); k_extra "#3"
  trivial
theorem made_tx {x : Str} {t : Tok}  (hb : x.length ≠ 24) (hm : x.length ≤ 30) (hR : (reprText x).length ≤ 400)
    (ret : ∀ t' h' tk', Fr h₀ L h' m → News h₀ L h' news → Q (.str (S "id") t') { s with heap := h', toks := tk' }) :
    wpAny (model prog w) (ktrTop dp un gd cn cs L a ccd cl []) (call (.ref 1469) [.str x t]) Q E s := by
  have mk9 : Mk 12 := .mk
  refine wpAny_call ?_
  k_extra "my en1"
  k_steps
  all_goals first | exact ret _ _ _ (by k_asm) (by k_extra "my drop") | (exfalso; clear ret; omega)
end
end
section
section
variable {prog p : Program} {w : World} {loose : List Str} {mean : ExcName → Option Value} {mg mb : Str → Option Value} {dp un : Nat}
  {gd : Option (List Code)} {cn : Str} {cs : Scope} {a : Addr} {ccd : Value} {cl : List (Str × Addr)} {A₀ : Around} {base h₀ : Heap} {L : Addr} {m : Str → Option Value} {s : Shared} {Q E : Value → Shared → Prop}
  {news : List (Addr × Obj)}
  (B : Below A₀ base [] h₀) (F : Fr h₀ L s.heap m) (X : (K w.params).In h₀) (N : News h₀ L s.heap news)
  (T : Top p loose mean mg mb h₀) (hk : cs.kind = .function) (hd : dp + 30 < 1000) (hu : un + 200 < 9900) (XB : (K w.params).In base) (TB : Top p loose mean mg mb base)
include B F X N T hk hd hu XB TB
theorem valid_txC {R : Result → Shared → Prop} {x : Str} {t : Tok}  (hb : x.length ≠ 24) (hm : x.length ≤ 30) (hR : (reprText x).length ≤ 400) (hz : x.length ≠ 0)
    (ret : ∀ h' tk', Fr h₀ L h' m → News h₀ L h' news → R (.ok (.ret (.bool false))) { s with heap := h', toks := tk' }) :
    codeAny (model prog w) (ktrTop dp un gd cn cs L a ccd cl []) (.call (.ref 826) ⟨[.ref 902, .str x t], []⟩) R s := by
  have mk9 : Mk 12 := .mk
  k_extra "my en1"
  k_steps
  all_goals first | exact ret _ _ (by k_asm) (by k_extra "my drop") | (exfalso; clear ret; omega)
end
end
section
section
variable {prog p : Program} {w : World} {loose : List Str} {mean : ExcName → Option Value} {mg mb : Str → Option Value} {dp un : Nat}
  {gd : Option (List Code)} {cn : Str} {cs : Scope} {a : Addr} {ccd : Value} {cl : List (Str × Addr)} {A₀ : Around} {base h₀ : Heap} {L : Addr} {m : Str → Option Value} {s : Shared} {Q E : Value → Shared → Prop}
  {news : List (Addr × Obj)}
  (B : Below A₀ base [] h₀) (F : Fr h₀ L s.heap m) (X : (K w.params).In h₀) (N : News h₀ L s.heap news)
  (T : Top p loose mean mg mb h₀) (hk : cs.kind = .function) (hd : dp + 30 < 1000) (hu : un + 200 < 9900) (XB : (K w.params).In base) (TB : Top p loose mean mg mb base)
include B F X N T hk hd hu XB TB
theorem made_b12 {b : Array UInt8} {t : Tok}  (hb : b.size = 12)
    (ret : ∀ h' tk', Fr h₀ L h' m → News h₀ L h' news → Q (.bytes b t) { s with heap := h', toks := tk' }) :
    wpAny (model prog w) (ktrTop dp un gd cn cs L a ccd cl []) (call (.ref 1469) [.bytes b t]) Q E s := by
  refine wpAny_call ?_
  k_extra "my en1"
  k_steps
  all_goals first | exact ret _ _ (by k_asm) (by k_extra "my drop") | (exfalso; clear ret; omega)
theorem made_bx {b : Array UInt8} {t : Tok}  (hb : b.size ≠ 12) (hm : b.size ≤ 15)
    (ret : ∀ t' h' tk', Fr h₀ L h' m → News h₀ L h' news → Q (.str (S "kind") t') { s with heap := h', toks := tk' }) :
    wpAny (model prog w) (ktrTop dp un gd cn cs L a ccd cl []) (call (.ref 1469) [.bytes b t]) Q E s := by
  refine wpAny_call ?_
  k_extra "my en1"
  k_steps
  all_goals first | exact ret _ _ _ (by k_asm) (by k_extra "my drop") | (exfalso; clear ret; omega)
theorem made_int {t : Tok}  
    (ret : ∀ t' h' tk', Fr h₀ L h' m → News h₀ L h' news → Q (.str (S "kind") t') { s with heap := h', toks := tk' }) :
    wpAny (model prog w) (ktrTop dp un gd cn cs L a ccd cl []) (call (.ref 1469) [.int 5 t]) Q E s := by
  refine wpAny_call ?_
  k_extra "my en1"
  k_steps
  all_goals first | exact ret _ _ _ (by k_asm) (by k_extra "my drop") | (exfalso; clear ret; omega)
theorem made_id {b : Array UInt8} {t : Tok} {x dx : Addr} {u : Tok}  (hx : (x, instObj 902 dx) ∈ news) (hdx : (dx, dictOf [dE w.params (S "_id") u (.bytes b t)] 1) ∈ news)
    (ret : ∀ h' tk', Fr h₀ L h' m → News h₀ L h' news → Q (.bytes b t) { s with heap := h', toks := tk' }) :
    wpAny (model prog w) (ktrTop dp un gd cn cs L a ccd cl []) (call (.ref 1469) [.ref x]) Q E s := by
  refine wpAny_call ?_
  k_extra "my en1"
  k_steps
  all_goals first | exact ret _ _ (by k_asm) (by k_extra "my drop") | (exfalso; clear ret; omega)
end
end
section
section
variable {prog p : Program} {w : World} {loose : List Str} {mean : ExcName → Option Value} {mg mb : Str → Option Value} {dp un : Nat}
  {gd : Option (List Code)} {cn : Str} {cs : Scope} {a : Addr} {ccd : Value} {cl : List (Str × Addr)} {A₀ : Around} {base h₀ : Heap} {L : Addr} {m : Str → Option Value} {s : Shared} {Q E : Value → Shared → Prop}
  {news : List (Addr × Obj)}
  (B : Below A₀ base [] h₀) (F : Fr h₀ L s.heap m) (X : (K w.params).In h₀) (N : News h₀ L s.heap news)
  (T : Top p loose mean mg mb h₀) (hk : cs.kind = .function) (hd : dp + 30 < 1000) (hu : un + 200 < 9900) (XB : (K w.params).In base) (TB : Top p loose mean mg mb base)
include B F X N T hk hd hu XB TB
theorem valid_b12C {R : Result → Shared → Prop} {b : Array UInt8} {t : Tok}  (hb : b.size = 12)
    (ret : ∀ h' tk', Fr h₀ L h' m → News h₀ L h' news → R (.ok (.ret (.bool true))) { s with heap := h', toks := tk' }) :
    codeAny (model prog w) (ktrTop dp un gd cn cs L a ccd cl []) (.call (.ref 826) ⟨[.ref 902, .bytes b t], []⟩) R s := by
  k_extra "my en1"
  k_steps
  all_goals first | exact ret _ _ (by k_asm) (by k_extra "my drop") | (exfalso; clear ret; omega)
theorem valid_b0C {R : Result → Shared → Prop} {t : Tok}  
    (ret : ∀ h' tk', Fr h₀ L h' m → News h₀ L h' news → R (.ok (.ret (.bool false))) { s with heap := h', toks := tk' }) :
    codeAny (model prog w) (ktrTop dp un gd cn cs L a ccd cl []) (.call (.ref 826) ⟨[.ref 902, .bytes #[] t], []⟩) R s := by
  k_extra "my en1"
  k_steps
  all_goals first | exact ret _ _ (by k_asm) (by k_extra "my drop") | (exfalso; clear ret; omega)
theorem valid_bxC {R : Result → Shared → Prop} {b : Array UInt8} {t : Tok}  (hb : b.size ≠ 12) (hm : b.size ≤ 15) (hz : b.size ≠ 0)
    (ret : ∀ h' tk', Fr h₀ L h' m → News h₀ L h' news → R (.ok (.ret (.bool false))) { s with heap := h', toks := tk' }) :
    codeAny (model prog w) (ktrTop dp un gd cn cs L a ccd cl []) (.call (.ref 826) ⟨[.ref 902, .bytes b t], []⟩) R s := by
  k_extra "my en1"
  k_steps
  all_goals first | exact ret _ _ (by k_asm) (by k_extra "my drop") | (exfalso; clear ret; omega)
theorem valid_intC {R : Result → Shared → Prop} {t : Tok}  
    (ret : ∀ h' tk', Fr h₀ L h' m → News h₀ L h' news → R (.ok (.ret (.bool false))) { s with heap := h', toks := tk' }) :
    codeAny (model prog w) (ktrTop dp un gd cn cs L a ccd cl []) (.call (.ref 826) ⟨[.ref 902, .int 5 t], []⟩) R s := by
  k_extra "my en1"
  k_steps
  all_goals first | exact ret _ _ (by k_asm) (by k_extra "my drop") | (exfalso; clear ret; omega)
theorem valid_idC {R : Result → Shared → Prop} {b : Array UInt8} {t : Tok} {x dx : Addr} {u : Tok}  (hx : (x, instObj 902 dx) ∈ news) (hdx : (dx, dictOf [dE w.params (S "_id") u (.bytes b t)] 1) ∈ news)
    (ret : ∀ h' tk', Fr h₀ L h' m → News h₀ L h' news → R (.ok (.ret (.bool true))) { s with heap := h', toks := tk' }) :
    codeAny (model prog w) (ktrTop dp un gd cn cs L a ccd cl []) (.call (.ref 826) ⟨[.ref 902, .ref x], []⟩) R s := by
  k_extra "my en1"
  k_steps
  all_goals first | exact ret _ _ (by k_asm) (by k_extra "my drop") | (exfalso; clear ret; omega)
end
end
section
open PySem.SeqAt
def SameV (v w : Value) : Prop := ∀ A s, EqAt A s v w true
def DueIs (x : Str) (dv : Value) : Prop := (x.length = 24 ∧ hexOk x 12 ∧ ∃ t, dv = .bytes (byteArr (hexes x 12)) t) ∨ (¬ (x.length = 24 ∧ hexOk x 12) ∧ ∃ t, dv = .str (S "id") t)
theorem sameV_at {A : Around} {s : Shared} {v w : Value} (h : SameV v w) : EqAt A s v w true := h _ _
def RowIs (b : Array UInt8) (v : Value) : Prop := (b.size = 12 → ∀ A s t, EqAt A s v (.bytes b t) true) ∧ (b.size ≠ 12 → ∀ A s t, EqAt A s v (.str (S "kind") t) true)
theorem rowB {A : Around} {s : Shared} {v : Value} {b : Array UInt8} {t : Tok} (h : RowIs b v) (e : (b.size : Int) = 12) : EqAt A s v (.bytes b t) true := h.1 (by omega) _ _ _
theorem rowK {A : Around} {s : Shared} {v : Value} {b : Array UInt8} {t : Tok} (h : RowIs b v) (e : ¬ (b.size : Int) = 12) : EqAt A s v (.str (S "kind") t) true := h.2 (by omega) _ _ _
theorem dec12 {n : Nat} : decide (n = 12) = ((n : Int) == 12) := by
  by_cases h : n = 12
  · subst h; rfl
  · rw [decide_eq_false h]; symm; rw [beq_eq_false_iff_ne]; omega
section
variable {prog p : Program} {w : World} {loose : List Str} {mean : ExcName → Option Value} {mg mb : Str → Option Value} {dp un : Nat}
  {gd : Option (List Code)} {cn : Str} {cs : Scope} {a : Addr} {ccd : Value} {cl : List (Str × Addr)} {A₀ : Around} {base h₀ : Heap} {L : Addr} {m : Str → Option Value} {s : Shared} {Q E : Value → Shared → Prop}
  {news : List (Addr × Obj)}
  (B : Below A₀ base [] h₀) (F : Fr h₀ L s.heap m) (X : (K w.params).In h₀) (N : News h₀ L s.heap news)
  (T : Top p loose mean mg mb h₀) (hk : cs.kind = .function) (hd : dp + 60 < 1000) (hu : un + 400 < 9900) (XB : (K w.params).In base) (TB : Top p loose mean mg mb base)
include B F X N T hk hd hu XB TB
theorem made_hex {x : Str} {t : Tok} {O : Array UInt8} (h : HexOf O x) (ret : ∀ t' h' tk', Fr h₀ L h' m → News h₀ L h' news → Q (.bytes O t') { s with heap := h', toks := tk' }) : wpAny (model prog w) (ktrTop dp un gd cn cs L a ccd cl []) (call (.ref 1469) [.str x t]) Q E s :=
  made24 B F X N T hk hd hu XB TB h.len (repr_le (by have := h.len; omega) h.small) (fun _ t' h' tk' f n => h.is ▸ ret t' h' tk' f n) fun no => absurd h.ok no
theorem made_no24 {x : Str} {t : Tok} (hl : x.length = 24) (hr : (reprText x).length ≤ 400) (no : ¬ hexOk x 12) (ret : ∀ t' h' tk', Fr h₀ L h' m → News h₀ L h' news → Q (.str (S "id") t') { s with heap := h', toks := tk' }) : wpAny (model prog w) (ktrTop dp un gd cn cs L a ccd cl []) (call (.ref 1469) [.str x t]) Q E s :=
  made24 B F X N T hk hd hu XB TB hl hr (fun ok => absurd ok no) fun _ => ret
theorem made_sv {x : Str} {t : Tok} {dv : Value} (hl : x.length ≤ 30) (hr : (reprText x).length ≤ 400) (hd2 : DueIs x dv) (ret : ∀ v h' tk', SameV v dv → Fr h₀ L h' m → News h₀ L h' news → Q v { s with heap := h', toks := tk' }) :
    wpAny (model prog w) (ktrTop dp un gd cn cs L a ccd cl []) (call (.ref 1469) [.str x t]) Q E s := by
  rcases hd2 with ⟨h1, h2, td, rfl⟩ | ⟨h1, td, rfl⟩
  · exact made24 B F X N T hk hd hu XB TB h1 hr (fun _ t' h' tk' f n => ret _ _ _ (fun _ _ => at_bytes rfl) f n) fun no => absurd h2 no
  · by_cases h24 : x.length = 24
    · exact made24 B F X N T hk hd hu XB TB h24 hr (fun ok => absurd ⟨h24, ok⟩ h1) fun _ t' h' tk' f n => ret _ _ _ (fun _ _ => at_str rfl) f n
    · exact made_tx B F X N T hk (by omega) (by omega) XB TB h24 hl hr fun t' h' tk' f n => ret _ _ _ (fun _ _ => at_str rfl) f n
theorem valid_sv {R : Result → Shared → Prop} {x : Str} {t : Tok} {b : Bool} (hl : x.length ≤ 30) (hz : x.length ≠ 0) (hr : (reprText x).length ≤ 400) (hb : b = true ↔ (x.length = 24 ∧ hexOk x 12)) (ret : ∀ h' tk', Fr h₀ L h' m → News h₀ L h' news → R (.ok (.ret (.bool b))) { s with heap := h', toks := tk' }) :
    codeAny (model prog w) (ktrTop dp un gd cn cs L a ccd cl []) (.call (.ref 826) ⟨[.ref 902, .str x t], []⟩) R s := by
  by_cases h24 : x.length = 24
  · exact valid24C B F X N T hk hd hu XB TB h24 hr (fun ok => by rw [hb.mpr ⟨h24, ok⟩] at ret; exact ret) fun no => by
      have e : b = false := by
        cases b with
        | false => rfl
        | true => exact absurd (hb.mp rfl).2 no
      rw [e] at ret; exact ret
  · have e : b = false := by
      cases b with
      | false => rfl
      | true => exact absurd (hb.mp rfl).1 h24
    rw [e] at ret
    exact valid_txC B F X N T hk (by omega) (by omega) XB TB h24 hl hr hz ret
theorem made_row {b : Array UInt8} {t : Tok} (hm : b.size ≤ 15) (ret : ∀ v h' tk', RowIs b v → Fr h₀ L h' m → News h₀ L h' news → Q v { s with heap := h', toks := tk' }) :
    wpAny (model prog w) (ktrTop dp un gd cn cs L a ccd cl []) (call (.ref 1469) [.bytes b t]) Q E s := by
  by_cases h : b.size = 12
  · exact made_b12 B F X N T hk (by omega) (by omega) XB TB h fun h' tk' f n => ret _ _ _ ⟨fun _ _ _ _ => at_bytes rfl, fun q => absurd h q⟩ f n
  · exact made_bx B F X N T hk (by omega) (by omega) XB TB h hm fun t' h' tk' f n => ret _ _ _ ⟨fun q => absurd q h, fun _ _ _ _ => at_str rfl⟩ f n
theorem valid_row {R : Result → Shared → Prop} {b : Array UInt8} {t : Tok} (hm : b.size ≤ 15) (ret : ∀ h' tk', Fr h₀ L h' m → News h₀ L h' news → R (.ok (.ret (.bool (decide (b.size = 12))))) { s with heap := h', toks := tk' }) :
    codeAny (model prog w) (ktrTop dp un gd cn cs L a ccd cl []) (.call (.ref 826) ⟨[.ref 902, .bytes b t], []⟩) R s := by
  by_cases h : b.size = 12
  · rw [decide_eq_true h] at ret
    exact valid_b12C B F X N T hk (by omega) (by omega) XB TB h ret
  · rw [decide_eq_false h] at ret
    by_cases h0 : b.size = 0
    · obtain rfl := Array.size_eq_zero_iff.mp h0
      exact valid_b0C B F X N T hk (by omega) (by omega) XB TB ret
    · exact valid_bxC B F X N T hk (by omega) (by omega) XB TB h hm h0 ret
end
end
section
section
variable {prog p : Program} {w : World} {loose : List Str} {mean : ExcName → Option Value} {mg mb : Str → Option Value} {dp un : Nat}
  {gd : Option (List Code)} {cn : Str} {cs : Scope} {a : Addr} {ccd : Value} {cl : List (Str × Addr)} {outer : List Env} {A₀ : Around} {base h₀ : Heap} {L : Addr} {m : Str → Option Value} {s : Shared} {Q E : Value → Shared → Prop}
  {news : List (Addr × Obj)}
  (B : Below A₀ base outer h₀) (F : Fr h₀ L s.heap m) (X : (K w.params).In h₀) (N : News h₀ L s.heap news)
  (T : Top p loose mean mg mb h₀) (hk : cs.kind = .function) (hd : dp + 30 < 1000) (hu : un + 200 < 9900)
include B F X N T hk hd hu
theorem oidlt {b c : Array UInt8} {t1 t2 u1 u2 : Tok} {x dx y dy : Addr} (hx : (x, instObj 902 dx) ∈ news) (hdx : (dx, dictOf [dE w.params (S "_id") u1 (.bytes b t1)] 1) ∈ news) (hy : (y, instObj 902 dy) ∈ news) (hdy : (dy, dictOf [dE w.params (S "_id") u2 (.bytes c t2)] 1) ∈ news)
    (ret : ∀ h' tk', Fr h₀ L h' m → News h₀ L h' news → Q (.bool (bH "__lt__" b c)) { s with heap := h', toks := tk' }) :
    wpAny (model prog w) (ktrTop dp un gd cn cs L a ccd cl outer) (call (.ref 878) [.ref x, .ref y]) Q E s := by
  refine wpAny_call ?_
  k_extra "my en"
  k_steps
  all_goals first | exact ret _ _ (by k_asm) (by k_extra "my drop")
theorem oidle {b c : Array UInt8} {t1 t2 u1 u2 : Tok} {x dx y dy : Addr} (hx : (x, instObj 902 dx) ∈ news) (hdx : (dx, dictOf [dE w.params (S "_id") u1 (.bytes b t1)] 1) ∈ news) (hy : (y, instObj 902 dy) ∈ news) (hdy : (dy, dictOf [dE w.params (S "_id") u2 (.bytes c t2)] 1) ∈ news)
    (ret : ∀ h' tk', Fr h₀ L h' m → News h₀ L h' news → Q (.bool (bH "__le__" b c)) { s with heap := h', toks := tk' }) :
    wpAny (model prog w) (ktrTop dp un gd cn cs L a ccd cl outer) (call (.ref 885) [.ref x, .ref y]) Q E s := by
  refine wpAny_call ?_
  k_extra "my en"
  k_steps
  all_goals first | exact ret _ _ (by k_asm) (by k_extra "my drop")
theorem oidgt {b c : Array UInt8} {t1 t2 u1 u2 : Tok} {x dx y dy : Addr} (hx : (x, instObj 902 dx) ∈ news) (hdx : (dx, dictOf [dE w.params (S "_id") u1 (.bytes b t1)] 1) ∈ news) (hy : (y, instObj 902 dy) ∈ news) (hdy : (dy, dictOf [dE w.params (S "_id") u2 (.bytes c t2)] 1) ∈ news)
    (ret : ∀ h' tk', Fr h₀ L h' m → News h₀ L h' news → Q (.bool (bH "__gt__" b c)) { s with heap := h', toks := tk' }) :
    wpAny (model prog w) (ktrTop dp un gd cn cs L a ccd cl outer) (call (.ref 892) [.ref x, .ref y]) Q E s := by
  refine wpAny_call ?_
  k_extra "my en"
  k_steps
  all_goals first | exact ret _ _ (by k_asm) (by k_extra "my drop")
theorem oidge {b c : Array UInt8} {t1 t2 u1 u2 : Tok} {x dx y dy : Addr} (hx : (x, instObj 902 dx) ∈ news) (hdx : (dx, dictOf [dE w.params (S "_id") u1 (.bytes b t1)] 1) ∈ news) (hy : (y, instObj 902 dy) ∈ news) (hdy : (dy, dictOf [dE w.params (S "_id") u2 (.bytes c t2)] 1) ∈ news)
    (ret : ∀ h' tk', Fr h₀ L h' m → News h₀ L h' news → Q (.bool (bH "__ge__" b c)) { s with heap := h', toks := tk' }) :
    wpAny (model prog w) (ktrTop dp un gd cn cs L a ccd cl outer) (call (.ref 899) [.ref x, .ref y]) Q E s := by
  refine wpAny_call ?_
  k_extra "my en"
  k_steps
  all_goals first | exact ret _ _ (by k_asm) (by k_extra "my drop")
theorem oideq {b c : Array UInt8} {t1 t2 u1 u2 : Tok} {x dx y dy : Addr} (hx : (x, instObj 902 dx) ∈ news) (hdx : (dx, dictOf [dE w.params (S "_id") u1 (.bytes b t1)] 1) ∈ news) (hy : (y, instObj 902 dy) ∈ news) (hdy : (dy, dictOf [dE w.params (S "_id") u2 (.bytes c t2)] 1) ∈ news)
    (ret : ∀ h' tk', Fr h₀ L h' m → News h₀ L h' news → Q (.bool (b.toList == c.toList)) { s with heap := h', toks := tk' }) :
    wpAny (model prog w) (ktrTop dp un gd cn cs L a ccd cl outer) (call (.ref 864) [.ref x, .ref y]) Q E s := by
  refine wpAny_call ?_
  k_extra "my en"
  k_steps
  all_goals first | exact ret _ _ (by k_asm) (by k_extra "my drop")
theorem oidne {b c : Array UInt8} {t1 t2 u1 u2 : Tok} {x dx y dy : Addr} (hx : (x, instObj 902 dx) ∈ news) (hdx : (dx, dictOf [dE w.params (S "_id") u1 (.bytes b t1)] 1) ∈ news) (hy : (y, instObj 902 dy) ∈ news) (hdy : (dy, dictOf [dE w.params (S "_id") u2 (.bytes c t2)] 1) ∈ news)
    (ret : ∀ h' tk', Fr h₀ L h' m → News h₀ L h' news → Q (.bool (b.toList != c.toList)) { s with heap := h', toks := tk' }) :
    wpAny (model prog w) (ktrTop dp un gd cn cs L a ccd cl outer) (call (.ref 871) [.ref x, .ref y]) Q E s := by
  refine wpAny_call ?_
  k_extra "my en"
  k_steps
  all_goals first | exact ret _ _ (by k_asm) (by k_extra "my drop")
end
end
section
section
variable {prog p : Program} {w : World} {loose : List Str} {mean : ExcName → Option Value} {mg mb : Str → Option Value} {dp un : Nat}
  {gd : Option (List Code)} {cn : Str} {cs : Scope} {a : Addr} {ccd : Value} {cl : List (Str × Addr)} {outer : List Env} {A₀ : Around} {base h₀ : Heap} {L : Addr} {m : Str → Option Value} {s : Shared} {Q E : Value → Shared → Prop}
  {news : List (Addr × Obj)}
  (B : Below A₀ base outer h₀) (F : Fr h₀ L s.heap m) (X : (K w.params).In h₀) (N : News h₀ L s.heap news)
  (T : Top p loose mean mg mb h₀) (hk : cs.kind = .function) (hd : dp + 60 < 1000) (hu : un + 400 < 9900)
include B F X N T hk hd hu
theorem words_14 : True := by
  k_with "call ref" => (with_reducible rename Mk 14 => mk9); (k_here; k_dflt (refine' oidlt ?hB ?hF ?hX ?hN ?hT ?hK ?hD ?hU ?q1 ?q2 ?q3 ?q4 ?_; (case hB => k_asm); (case hF => k_asm); (case hX => k_asm); (case hN => k_asm); (case hT => k_asm); (case hK => first | exact rfl | assumption); (case hD => k_extra "my dp"); (case hU => k_extra "my dp"); (case q1 => k_mem); (case q2 => k_mem); (case q3 => k_mem); (case q4 => k_mem); k_whole; intro _ _ kFw9 kNw9; (try k_sweep)))
  k_with "call ref" => (with_reducible rename Mk 14 => mk9); (k_here; k_dflt (refine' oidle ?hB ?hF ?hX ?hN ?hT ?hK ?hD ?hU ?q1 ?q2 ?q3 ?q4 ?_; (case hB => k_asm); (case hF => k_asm); (case hX => k_asm); (case hN => k_asm); (case hT => k_asm); (case hK => first | exact rfl | assumption); (case hD => k_extra "my dp"); (case hU => k_extra "my dp"); (case q1 => k_mem); (case q2 => k_mem); (case q3 => k_mem); (case q4 => k_mem); k_whole; intro _ _ kFw9 kNw9; (try k_sweep)))
  k_with "call ref" => (with_reducible rename Mk 14 => mk9); (k_here; k_dflt (refine' oidgt ?hB ?hF ?hX ?hN ?hT ?hK ?hD ?hU ?q1 ?q2 ?q3 ?q4 ?_; (case hB => k_asm); (case hF => k_asm); (case hX => k_asm); (case hN => k_asm); (case hT => k_asm); (case hK => first | exact rfl | assumption); (case hD => k_extra "my dp"); (case hU => k_extra "my dp"); (case q1 => k_mem); (case q2 => k_mem); (case q3 => k_mem); (case q4 => k_mem); k_whole; intro _ _ kFw9 kNw9; (try k_sweep)))
  k_with "call ref" => (with_reducible rename Mk 14 => mk9); (k_here; k_dflt (refine' oidge ?hB ?hF ?hX ?hN ?hT ?hK ?hD ?hU ?q1 ?q2 ?q3 ?q4 ?_; (case hB => k_asm); (case hF => k_asm); (case hX => k_asm); (case hN => k_asm); (case hT => k_asm); (case hK => first | exact rfl | assumption); (case hD => k_extra "my dp"); (case hU => k_extra "my dp"); (case q1 => k_mem); (case q2 => k_mem); (case q3 => k_mem); (case q4 => k_mem); k_whole; intro _ _ kFw9 kNw9; (try k_sweep)))
  k_with "call ref" => (with_reducible rename Mk 14 => mk9); (k_here; k_dflt (refine' oideq ?hB ?hF ?hX ?hN ?hT ?hK ?hD ?hU ?q1 ?q2 ?q3 ?q4 ?_; (case hB => k_asm); (case hF => k_asm); (case hX => k_asm); (case hN => k_asm); (case hT => k_asm); (case hK => first | exact rfl | assumption); (case hD => k_extra "my dp"); (case hU => k_extra "my dp"); (case q1 => k_mem); (case q2 => k_mem); (case q3 => k_mem); (case q4 => k_mem); k_whole; intro _ _ kFw9 kNw9; (try k_sweep)))
  k_with "call ref" => (with_reducible rename Mk 14 => mk9); (k_here; k_dflt (refine' oidne ?hB ?hF ?hX ?hN ?hT ?hK ?hD ?hU ?q1 ?q2 ?q3 ?q4 ?_; (case hB => k_asm); (case hF => k_asm); (case hX => k_asm); (case hN => k_asm); (case hT => k_asm); (case hK => first | exact rfl | assumption); (case hD => k_extra "my dp"); (case hU => k_extra "my dp"); (case q1 => k_mem); (case q2 => k_mem); (case q3 => k_mem); (case q4 => k_mem); k_whole; intro _ _ kFw9 kNw9; (try k_sweep)))
  trivial
theorem orders_ids {b c : Array UInt8} {t1 t2 u1 u2 : Tok} {x dx y dy : Addr} (hx : (x, instObj 902 dx) ∈ news) (hdx : (dx, dictOf [dE w.params (S "_id") u1 (.bytes b t1)] 1) ∈ news) (hy : (y, instObj 902 dy) ∈ news) (hdy : (dy, dictOf [dE w.params (S "_id") u2 (.bytes c t2)] 1) ∈ news)
    (ret : ∀ r n h' tk', Fr h₀ L h' m → News h₀ L h' ((r, { cls := .type "list", data := .seq #[.bool (bH "__lt__" b c), .bool (bH "__le__" b c), .bool (b.toList == c.toList), .bool (b.toList != c.toList), .bool (bH "__ge__" b c), .bool (bH "__gt__" b c)] n}) :: news) → Q (.ref r) { s with heap := h', toks := tk' }) :
    wpAny (model prog w) (ktrTop dp un gd cn cs L a ccd cl outer) (call (.ref 1476) [.ref x, .ref y]) Q E s := by
  have mk9 : Mk 14 := .mk
  refine wpAny_call ?_
  k_extra "my en"
  k_steps
  all_goals first | exact ret _ _ _ _ (by k_asm) (by k_extra "my drop") | (exfalso; clear ret; omega)
end
end
section
section
variable {prog p : Program} {w : World} {loose : List Str} {mean : ExcName → Option Value} {mg mb : Str → Option Value} {dp un : Nat}
  {gd : Option (List Code)} {cn : Str} {cs : Scope} {a : Addr} {ccd : Value} {cl : List (Str × Addr)} {outer : List Env} {A₀ : Around} {base h₀ : Heap} {L : Addr} {m : Str → Option Value} {s : Shared} {Q E : Value → Shared → Prop}
  {news : List (Addr × Obj)}
  (B : Below A₀ base outer h₀) (F : Fr h₀ L s.heap m) (X : (K w.params).In h₀) (N : News h₀ L s.heap news)
  (T : Top p loose mean mg mb h₀) (hk : cs.kind = .function) (hd : dp + 30 < 1000) (hu : un + 200 < 9900)
include B F X N T hk hd hu
theorem orders_tup {i j k l : Int} {t1 t2 t3 t4 : Tok} {x y : Addr} {n1 n2 : Nat} (hx : (x, { cls := .type "tuple", data := .seq #[.int i t1, .int j t2] n1 }) ∈ news) (hy : (y, { cls := .type "tuple", data := .seq #[.int k t3, .int l t4] n2 }) ∈ news) 
    (ret : ∀ r n h' tk', Fr h₀ L h' m → News h₀ L h' ((r, { cls := .type "list", data := .seq #[.bool (lexB true false i j k l), .bool (lexB true true i j k l), .bool ((decide (i = k) && decide (j = l))), .bool (!(decide (i = k) && decide (j = l))), .bool (lexB false true i j k l), .bool (lexB false false i j k l)] n}) :: news) → Q (.ref r) { s with heap := h', toks := tk' }) :
    wpAny (model prog w) (ktrTop dp un gd cn cs L a ccd cl outer) (call (.ref 1476) [.ref x, .ref y]) Q E s := by
  refine wpAny_call ?_
  k_extra "my en"
  k_steps
  all_goals first | exact ret _ _ _ _ (by k_asm) (by k_extra "my drop")
theorem orders_bytes {b c : Array UInt8} {t t2 : Tok} 
    (ret : ∀ r n h' tk', Fr h₀ L h' m → News h₀ L h' ((r, { cls := .type "list", data := .seq #[.bool (bH "__lt__" b c), .bool (bH "__le__" b c), .bool (b.toList == c.toList), .bool (b.toList != c.toList), .bool (bH "__ge__" b c), .bool (bH "__gt__" b c)] n}) :: news) → Q (.ref r) { s with heap := h', toks := tk' }) :
    wpAny (model prog w) (ktrTop dp un gd cn cs L a ccd cl outer) (call (.ref 1476) [.bytes b t, .bytes c t2]) Q E s := by
  refine wpAny_call ?_
  k_extra "my en"
  k_steps
  all_goals first | exact ret _ _ _ _ (by k_asm) (by k_extra "my drop")
end
end
section
section
variable {prog p : Program} {w : World} {loose : List Str} {mean : ExcName → Option Value} {mg mb : Str → Option Value} {dp un : Nat}
  {gd : Option (List Code)} {cn : Str} {cs : Scope} {a : Addr} {ccd : Value} {cl : List (Str × Addr)} {A₀ : Around} {base h₀ : Heap} {L : Addr} {m : Str → Option Value} {s : Shared} {Q E : Value → Shared → Prop}
  {news : List (Addr × Obj)}
  (B : Below A₀ base [] h₀) (F : Fr h₀ L s.heap m) (X : (K w.params).In h₀) (N : News h₀ L s.heap news)
  (T : Top p loose mean mg mb h₀) (hk : cs.kind = .function) (hd : dp + 30 < 1000) (hu : un + 200 < 9900) (XB : (K w.params).In base) (TB : Top p loose mean mg mb base)
include B F X N T hk hd hu XB TB
theorem stamp_ok {i j : Int} {t t2 : Tok} (h1 : 0 ≤ i) (h2 : i < 4294967296) (h3 : 0 ≤ j) (h4 : j < 4294967296) 
    (ret : ∀ r n h' tk', Fr h₀ L h' m → News h₀ L h' ((r, { cls := .type "tuple", data := .seq #[.int i t, .int j t2] n}) :: news) → Q (.ref r) { s with heap := h', toks := tk' }) :
    wpAny (model prog w) (ktrTop dp un gd cn cs L a ccd cl []) (call (.ref 1483) [.int i t, .int j t2]) Q E s := by
  refine wpAny_call ?_
  k_extra "my en1"
  k_steps
  all_goals first | exact ret _ _ _ _ (by k_asm) (by k_extra "my drop") | (exfalso; clear ret; omega)
theorem stamp_bad {i j : Int} {t t2 : Tok} (h1 : ¬ (0 ≤ i ∧ i < 4294967296 ∧ 0 ≤ j ∧ j < 4294967296)) 
    (ret : ∀ t' h' tk', Fr h₀ L h' m → News h₀ L h' news → Q (.str (S "value") t') { s with heap := h', toks := tk' }) :
    wpAny (model prog w) (ktrTop dp un gd cn cs L a ccd cl []) (call (.ref 1483) [.int i t, .int j t2]) Q E s := by
  refine wpAny_call ?_
  k_extra "my en1"
  k_steps
  all_goals first | exact ret _ _ _ (by k_asm) (by k_extra "my drop") | (exfalso; clear ret; omega)
theorem stamp_kind_s {t t2 : Tok} 
    (ret : ∀ t' h' tk', Fr h₀ L h' m → News h₀ L h' news → Q (.str (S "kind") t') { s with heap := h', toks := tk' }) :
    wpAny (model prog w) (ktrTop dp un gd cn cs L a ccd cl []) (call (.ref 1483) [.str (S "1") t, .int 1 t2]) Q E s := by
  refine wpAny_call ?_
  k_extra "my en1"
  k_steps
  all_goals first | exact ret _ _ _ (by k_asm) (by k_extra "my drop") | (exfalso; clear ret; omega)
theorem stamp_kind_n {t t2 : Tok} 
    (ret : ∀ t' h' tk', Fr h₀ L h' m → News h₀ L h' news → Q (.str (S "kind") t') { s with heap := h', toks := tk' }) :
    wpAny (model prog w) (ktrTop dp un gd cn cs L a ccd cl []) (call (.ref 1483) [.int 1 t, .none]) Q E s := by
  refine wpAny_call ?_
  k_extra "my en1"
  k_steps
  all_goals first | exact ret _ _ _ (by k_asm) (by k_extra "my drop") | (exfalso; clear ret; omega)
theorem stamp_kind_b {t t2 : Tok} 
    (ret : ∀ t' h' tk', Fr h₀ L h' m → News h₀ L h' news → Q (.str (S "kind") t') { s with heap := h', toks := tk' }) :
    wpAny (model prog w) (ktrTop dp un gd cn cs L a ccd cl []) (call (.ref 1483) [.bytes #[49] t, .int 1 t2]) Q E s := by
  refine wpAny_call ?_
  k_extra "my en1"
  k_steps
  all_goals first | exact ret _ _ _ (by k_asm) (by k_extra "my drop") | (exfalso; clear ret; omega)
end
end
section
section
variable {prog p : Program} {w : World} {loose : List Str} {mean : ExcName → Option Value} {mg mb : Str → Option Value} {dp un : Nat}
  {gd : Option (List Code)} {cn : Str} {cs : Scope} {a : Addr} {ccd : Value} {cl : List (Str × Addr)} {outer : List Env} {A₀ : Around} {base h₀ : Heap} {L : Addr} {m : Str → Option Value} {s : Shared} {Q E : Value → Shared → Prop}
  {news : List (Addr × Obj)}
  (B : Below A₀ base outer h₀) (F : Fr h₀ L s.heap m) (X : (K w.params).In h₀) (N : News h₀ L s.heap news)
  (T : Top p loose mean mg mb h₀) (hk : cs.kind = .function) (hd : dp + 30 < 1000) (hu : un + 200 < 9900)
include B F X N T hk hd hu
omit B F X N T hk hd hu in
theorem eqj {i j k l : Int} (h : i = k) : (j == l) = (decide (i = k) && decide (j = l)) := by rw [decide_eq_true h, Bool.true_and]; rfl
omit B F X N T hk hd hu in
theorem eqi {i j k l : Int} (h : i ≠ k) : (i == k) = (decide (i = k) && decide (j = l)) := by rw [decide_eq_false h, Bool.false_and]; exact beq_false_of_ne h
theorem tslt {i j k l : Int} {t1 t2 t3 t4 u1 u2 u3 u4 : Tok} {x dx y dy : Addr} (hx : (x, instObj 1024 dx) ∈ news) (hdx : (dx, dictOf [dE w.params (S "_time") u1 (.int i t1), dE w.params (S "_inc") u2 (.int j t2)] 2) ∈ news) (hy : (y, instObj 1024 dy) ∈ news) (hdy : (dy, dictOf [dE w.params (S "_time") u3 (.int k t3), dE w.params (S "_inc") u4 (.int l t4)] 2) ∈ news)
    (ret : ∀ h' tk', Fr h₀ L h' m → News h₀ L h' news → Q (.bool (lexB true false i j k l)) { s with heap := h', toks := tk' }) :
    wpAny (model prog w) (ktrTop dp un gd cn cs L a ccd cl outer) (call (.ref 1000) [.ref x, .ref y]) Q E s := by
  refine wpAny_call ?_
  k_extra "my en"
  k_steps
  all_goals first | exact ret _ _ (by k_asm) (by k_extra "my drop")
theorem tsle {i j k l : Int} {t1 t2 t3 t4 u1 u2 u3 u4 : Tok} {x dx y dy : Addr} (hx : (x, instObj 1024 dx) ∈ news) (hdx : (dx, dictOf [dE w.params (S "_time") u1 (.int i t1), dE w.params (S "_inc") u2 (.int j t2)] 2) ∈ news) (hy : (y, instObj 1024 dy) ∈ news) (hdy : (dy, dictOf [dE w.params (S "_time") u3 (.int k t3), dE w.params (S "_inc") u4 (.int l t4)] 2) ∈ news)
    (ret : ∀ h' tk', Fr h₀ L h' m → News h₀ L h' news → Q (.bool (lexB true true i j k l)) { s with heap := h', toks := tk' }) :
    wpAny (model prog w) (ktrTop dp un gd cn cs L a ccd cl outer) (call (.ref 1007) [.ref x, .ref y]) Q E s := by
  refine wpAny_call ?_
  k_extra "my en"
  k_steps
  all_goals first | exact ret _ _ (by k_asm) (by k_extra "my drop")
theorem tsgt {i j k l : Int} {t1 t2 t3 t4 u1 u2 u3 u4 : Tok} {x dx y dy : Addr} (hx : (x, instObj 1024 dx) ∈ news) (hdx : (dx, dictOf [dE w.params (S "_time") u1 (.int i t1), dE w.params (S "_inc") u2 (.int j t2)] 2) ∈ news) (hy : (y, instObj 1024 dy) ∈ news) (hdy : (dy, dictOf [dE w.params (S "_time") u3 (.int k t3), dE w.params (S "_inc") u4 (.int l t4)] 2) ∈ news)
    (ret : ∀ h' tk', Fr h₀ L h' m → News h₀ L h' news → Q (.bool (lexB false false i j k l)) { s with heap := h', toks := tk' }) :
    wpAny (model prog w) (ktrTop dp un gd cn cs L a ccd cl outer) (call (.ref 1014) [.ref x, .ref y]) Q E s := by
  refine wpAny_call ?_
  k_extra "my en"
  k_steps
  all_goals first | exact ret _ _ (by k_asm) (by k_extra "my drop")
theorem tsge {i j k l : Int} {t1 t2 t3 t4 u1 u2 u3 u4 : Tok} {x dx y dy : Addr} (hx : (x, instObj 1024 dx) ∈ news) (hdx : (dx, dictOf [dE w.params (S "_time") u1 (.int i t1), dE w.params (S "_inc") u2 (.int j t2)] 2) ∈ news) (hy : (y, instObj 1024 dy) ∈ news) (hdy : (dy, dictOf [dE w.params (S "_time") u3 (.int k t3), dE w.params (S "_inc") u4 (.int l t4)] 2) ∈ news)
    (ret : ∀ h' tk', Fr h₀ L h' m → News h₀ L h' news → Q (.bool (lexB false true i j k l)) { s with heap := h', toks := tk' }) :
    wpAny (model prog w) (ktrTop dp un gd cn cs L a ccd cl outer) (call (.ref 1021) [.ref x, .ref y]) Q E s := by
  refine wpAny_call ?_
  k_extra "my en"
  k_steps
  all_goals first | exact ret _ _ (by k_asm) (by k_extra "my drop")
theorem tseq {i j k l : Int} {t1 t2 t3 t4 u1 u2 u3 u4 : Tok} {x dx y dy : Addr} (hx : (x, instObj 1024 dx) ∈ news) (hdx : (dx, dictOf [dE w.params (S "_time") u1 (.int i t1), dE w.params (S "_inc") u2 (.int j t2)] 2) ∈ news) (hy : (y, instObj 1024 dy) ∈ news) (hdy : (dy, dictOf [dE w.params (S "_time") u3 (.int k t3), dE w.params (S "_inc") u4 (.int l t4)] 2) ∈ news)
    (ret : ∀ h' tk', Fr h₀ L h' m → News h₀ L h' news → Q (.bool ((decide (i = k) && decide (j = l)))) { s with heap := h', toks := tk' }) :
    wpAny (model prog w) (ktrTop dp un gd cn cs L a ccd cl outer) (call (.ref 986) [.ref x, .ref y]) Q E s := by
  refine wpAny_call ?_
  k_extra "my en"
  k_steps
  all_goals first | exact ret _ _ (by k_asm) (by k_extra "my drop") | (rw [show (j == l) = (decide (i = k) && decide (j = l)) from eqj ‹_›]; exact ret _ _ (by k_asm) (by k_extra "my drop")) | (rw [show (i == k) = (decide (i = k) && decide (j = l)) from eqi ‹_›]; exact ret _ _ (by k_asm) (by k_extra "my drop"))
theorem tsne {i j k l : Int} {t1 t2 t3 t4 u1 u2 u3 u4 : Tok} {x dx y dy : Addr} (hx : (x, instObj 1024 dx) ∈ news) (hdx : (dx, dictOf [dE w.params (S "_time") u1 (.int i t1), dE w.params (S "_inc") u2 (.int j t2)] 2) ∈ news) (hy : (y, instObj 1024 dy) ∈ news) (hdy : (dy, dictOf [dE w.params (S "_time") u3 (.int k t3), dE w.params (S "_inc") u4 (.int l t4)] 2) ∈ news)
    (ret : ∀ h' tk', Fr h₀ L h' m → News h₀ L h' news → Q (.bool (!(decide (i = k) && decide (j = l)))) { s with heap := h', toks := tk' }) :
    wpAny (model prog w) (ktrTop dp un gd cn cs L a ccd cl outer) (call (.ref 993) [.ref x, .ref y]) Q E s := by
  refine wpAny_call ?_
  k_extra "my en"
  k_steps
  all_goals first | exact ret _ _ (by k_asm) (by k_extra "my drop") | (rw [show (j == l) = (decide (i = k) && decide (j = l)) from eqj ‹_›]; exact ret _ _ (by k_asm) (by k_extra "my drop")) | (rw [show (i == k) = (decide (i = k) && decide (j = l)) from eqi ‹_›]; exact ret _ _ (by k_asm) (by k_extra "my drop"))
end
end
section
section
variable {prog p : Program} {w : World} {loose : List Str} {mean : ExcName → Option Value} {mg mb : Str → Option Value} {dp un : Nat}
  {gd : Option (List Code)} {cn : Str} {cs : Scope} {a : Addr} {ccd : Value} {cl : List (Str × Addr)} {outer : List Env} {A₀ : Around} {base h₀ : Heap} {L : Addr} {m : Str → Option Value} {s : Shared} {Q E : Value → Shared → Prop}
  {news : List (Addr × Obj)}
  (B : Below A₀ base outer h₀) (F : Fr h₀ L s.heap m) (X : (K w.params).In h₀) (N : News h₀ L s.heap news)
  (T : Top p loose mean mg mb h₀) (hk : cs.kind = .function) (hd : dp + 60 < 1000) (hu : un + 400 < 9900)
include B F X N T hk hd hu
theorem words_16 : True := by
  k_with "call ref" => (with_reducible rename Mk 16 => mk9); (k_here; k_dflt (refine' tslt ?hB ?hF ?hX ?hN ?hT ?hK ?hD ?hU ?q1 ?q2 ?q3 ?q4 ?_; (case hB => k_asm); (case hF => k_asm); (case hX => k_asm); (case hN => k_asm); (case hT => k_asm); (case hK => first | exact rfl | assumption); (case hD => k_extra "my dp"); (case hU => k_extra "my dp"); (case q1 => k_mem); (case q2 => k_mem); (case q3 => k_mem); (case q4 => k_mem); k_whole; intro _ _ kFw9 kNw9; (try k_sweep)))
  k_with "call ref" => (with_reducible rename Mk 16 => mk9); (k_here; k_dflt (refine' tsle ?hB ?hF ?hX ?hN ?hT ?hK ?hD ?hU ?q1 ?q2 ?q3 ?q4 ?_; (case hB => k_asm); (case hF => k_asm); (case hX => k_asm); (case hN => k_asm); (case hT => k_asm); (case hK => first | exact rfl | assumption); (case hD => k_extra "my dp"); (case hU => k_extra "my dp"); (case q1 => k_mem); (case q2 => k_mem); (case q3 => k_mem); (case q4 => k_mem); k_whole; intro _ _ kFw9 kNw9; (try k_sweep)))
  k_with "call ref" => (with_reducible rename Mk 16 => mk9); (k_here; k_dflt (refine' tsgt ?hB ?hF ?hX ?hN ?hT ?hK ?hD ?hU ?q1 ?q2 ?q3 ?q4 ?_; (case hB => k_asm); (case hF => k_asm); (case hX => k_asm); (case hN => k_asm); (case hT => k_asm); (case hK => first | exact rfl | assumption); (case hD => k_extra "my dp"); (case hU => k_extra "my dp"); (case q1 => k_mem); (case q2 => k_mem); (case q3 => k_mem); (case q4 => k_mem); k_whole; intro _ _ kFw9 kNw9; (try k_sweep)))
  k_with "call ref" => (with_reducible rename Mk 16 => mk9); (k_here; k_dflt (refine' tsge ?hB ?hF ?hX ?hN ?hT ?hK ?hD ?hU ?q1 ?q2 ?q3 ?q4 ?_; (case hB => k_asm); (case hF => k_asm); (case hX => k_asm); (case hN => k_asm); (case hT => k_asm); (case hK => first | exact rfl | assumption); (case hD => k_extra "my dp"); (case hU => k_extra "my dp"); (case q1 => k_mem); (case q2 => k_mem); (case q3 => k_mem); (case q4 => k_mem); k_whole; intro _ _ kFw9 kNw9; (try k_sweep)))
  k_with "call ref" => (with_reducible rename Mk 16 => mk9); (k_here; k_dflt (refine' tseq ?hB ?hF ?hX ?hN ?hT ?hK ?hD ?hU ?q1 ?q2 ?q3 ?q4 ?_; (case hB => k_asm); (case hF => k_asm); (case hX => k_asm); (case hN => k_asm); (case hT => k_asm); (case hK => first | exact rfl | assumption); (case hD => k_extra "my dp"); (case hU => k_extra "my dp"); (case q1 => k_mem); (case q2 => k_mem); (case q3 => k_mem); (case q4 => k_mem); k_whole; intro _ _ kFw9 kNw9; (try k_sweep)))
  k_with "call ref" => (with_reducible rename Mk 16 => mk9); (k_here; k_dflt (refine' tsne ?hB ?hF ?hX ?hN ?hT ?hK ?hD ?hU ?q1 ?q2 ?q3 ?q4 ?_; (case hB => k_asm); (case hF => k_asm); (case hX => k_asm); (case hN => k_asm); (case hT => k_asm); (case hK => first | exact rfl | assumption); (case hD => k_extra "my dp"); (case hU => k_extra "my dp"); (case q1 => k_mem); (case q2 => k_mem); (case q3 => k_mem); (case q4 => k_mem); k_whole; intro _ _ kFw9 kNw9; (try k_sweep)))
  trivial
theorem orders_stamps {i j k l : Int} {t1 t2 t3 t4 u1 u2 u3 u4 : Tok} {x dx y dy : Addr} (hx : (x, instObj 1024 dx) ∈ news) (hdx : (dx, dictOf [dE w.params (S "_time") u1 (.int i t1), dE w.params (S "_inc") u2 (.int j t2)] 2) ∈ news) (hy : (y, instObj 1024 dy) ∈ news) (hdy : (dy, dictOf [dE w.params (S "_time") u3 (.int k t3), dE w.params (S "_inc") u4 (.int l t4)] 2) ∈ news)
    (ret : ∀ r n h' tk', Fr h₀ L h' m → News h₀ L h' ((r, { cls := .type "list", data := .seq #[.bool (lexB true false i j k l), .bool (lexB true true i j k l), .bool ((decide (i = k) && decide (j = l))), .bool (!(decide (i = k) && decide (j = l))), .bool (lexB false true i j k l), .bool (lexB false false i j k l)] n}) :: news) → Q (.ref r) { s with heap := h', toks := tk' }) :
    wpAny (model prog w) (ktrTop dp un gd cn cs L a ccd cl outer) (call (.ref 1476) [.ref x, .ref y]) Q E s := by
  have mk9 : Mk 16 := .mk
  refine wpAny_call ?_
  k_extra "my en"
  k_steps
  all_goals first | exact ret _ _ _ _ (by k_asm) (by k_extra "my drop") | (exfalso; clear ret; omega)
end
end
section
section
variable {prog p : Program} {w : World} {loose : List Str} {mean : ExcName → Option Value} {mg mb : Str → Option Value} {dp un : Nat}
  {gd : Option (List Code)} {cn : Str} {cs : Scope} {a : Addr} {ccd : Value} {cl : List (Str × Addr)} {A₀ : Around} {base h₀ : Heap} {L : Addr} {m : Str → Option Value} {s : Shared} {Q E : Value → Shared → Prop}
  {news : List (Addr × Obj)}
  (B : Below A₀ base [] h₀) (F : Fr h₀ L s.heap m) (X : (K w.params).In h₀) (N : News h₀ L s.heap news)
  (T : Top p loose mean mg mb h₀) (hk : cs.kind = .function) (hd : dp + 30 < 1000) (hu : un + 200 < 9900) (XB : (K w.params).In base) (TB : Top p loose mean mg mb base)
include B F X N T hk hd hu XB TB
theorem words_17 : True := by
  k_with "#cm" => (with_reducible rename Mk 17 => mk9); (k_dflt (refine' cmp_K ?k1 ?k2 ?k3 ?k4 ?k5 ?k6 ?k7 ?k8 ?_; (case k1 => k_units); (case k2 => k_asm); (case k3 => k_asm); (case k4 => k_inst); (case k5 => exact hT (by k_asm)); (case k6 => exact hN); (case k7 => k_is); (case k8 => k_is); k_whole))
  k_with "compareOp Lt ref" => (with_reducible rename Mk 17 => mk9); (k_here; (refine cmp_ofLt ?_); k_extra "#cm")
  k_with "compareOp LtE ref" => (with_reducible rename Mk 17 => mk9); (k_here; (refine cmp_ofLtE ?_); k_extra "#cm")
  k_with "compareOp Eq ref" => (with_reducible rename Mk 17 => mk9); (k_here; (refine cmp_ofEq ?_); k_extra "#cm")
  k_with "compareOp NotEq ref" => (with_reducible rename Mk 17 => mk9); (k_here; (refine cmp_ofNotEq ?_); k_extra "#cm")
  k_with "compareOp Gt ref" => (with_reducible rename Mk 17 => mk9); (k_here; (refine cmp_ofGt ?_); k_extra "#cm")
  k_with "compareOp GtE ref" => (with_reducible rename Mk 17 => mk9); (k_here; (refine cmp_ofGtE ?_); k_extra "#cm")
  k_with "call builtin:isinstance" => (with_reducible rename Mk 17 => mk9); (k_here; (with_reducible refine hI (by k_asm) (by k_asm) (by k_asm) ?_); intro isT)
  trivial
theorem ord_min {v tb : Value} {same : Bool} {x dx : Addr} (hx : (x, instObj 782 dx) ∈ news) (hdx : (dx, dictOf [] 0) ∈ news) (hV : IsV prog w news v 782 same tb)
    (ret : ∀ r n h' tk', Fr h₀ L h' m → News h₀ L h' ((r, { cls := .type "list", data := .seq #[.bool (!same), .bool true, .bool same, .bool (!same), .bool same, .bool false] n}) :: news) → Q (.ref r) { s with heap := h', toks := tk' }) :
    wpAny (model prog w) (ktrTop dp un gd cn cs L a ccd cl []) (call (.ref 1476) [.ref x, v]) Q E s := by
  have mk9 : Mk 17 := .mk
  obtain ⟨hI, hT, hN⟩ := hV
  refine wpAny_call ?_
  k_extra "my en1"
  k_steps
  all_goals first | exact ret _ _ _ _ (by k_asm) (by k_extra "my drop")
theorem ord_max {v tb : Value} {same : Bool} {x dx : Addr} (hx : (x, instObj 719 dx) ∈ news) (hdx : (dx, dictOf [] 0) ∈ news) (hV : IsV prog w news v 719 same tb)
    (ret : ∀ r n h' tk', Fr h₀ L h' m → News h₀ L h' ((r, { cls := .type "list", data := .seq #[.bool false, .bool same, .bool same, .bool (!same), .bool true, .bool (!same)] n}) :: news) → Q (.ref r) { s with heap := h', toks := tk' }) :
    wpAny (model prog w) (ktrTop dp un gd cn cs L a ccd cl []) (call (.ref 1476) [.ref x, v]) Q E s := by
  have mk9 : Mk 17 := .mk
  obtain ⟨hI, hT, hN⟩ := hV
  refine wpAny_call ?_
  k_extra "my en1"
  k_steps
  all_goals first | exact ret _ _ _ _ (by k_asm) (by k_extra "my drop")
theorem ord_minF {v tb : Value} {x dx : Addr} (hx : (x, instObj 782 dx) ∈ news) (hdx : (dx, dictOf [] 0) ∈ news) (hV : IsV prog w news v 782 false tb)
    (ret : ∀ r n h' tk', Fr h₀ L h' m → News h₀ L h' ((r, { cls := .type "list", data := .seq #[.bool true, .bool true, .bool false, .bool true, .bool false, .bool false] n}) :: news) → Q (.ref r) { s with heap := h', toks := tk' }) :
    wpAny (model prog w) (ktrTop dp un gd cn cs L a ccd cl []) (call (.ref 1476) [.ref x, v]) Q E s :=
  ord_min B F X N T hk hd hu XB TB hx hdx hV ret
theorem ord_maxF {v tb : Value} {x dx : Addr} (hx : (x, instObj 719 dx) ∈ news) (hdx : (dx, dictOf [] 0) ∈ news) (hV : IsV prog w news v 719 false tb)
    (ret : ∀ r n h' tk', Fr h₀ L h' m → News h₀ L h' ((r, { cls := .type "list", data := .seq #[.bool false, .bool false, .bool false, .bool true, .bool true, .bool true] n}) :: news) → Q (.ref r) { s with heap := h', toks := tk' }) :
    wpAny (model prog w) (ktrTop dp un gd cn cs L a ccd cl []) (call (.ref 1476) [.ref x, v]) Q E s :=
  ord_max B F X N T hk hd hu XB TB hx hdx hV ret
theorem ord_min_int {t : Tok} {x dx : Addr} (hx : (x, instObj 782 dx) ∈ news) (hdx : (dx, dictOf [] 0) ∈ news)
    (ret : ∀ r n h' tk', Fr h₀ L h' m → News h₀ L h' ((r, { cls := .type "list", data := .seq #[.bool true, .bool true, .bool false, .bool true, .bool false, .bool false] n}) :: news) → Q (.ref r) { s with heap := h', toks := tk' }) :
    wpAny (model prog w) (ktrTop dp un gd cn cs L a ccd cl []) (call (.ref 1476) [.ref x, .int 5 t]) Q E s :=
  ord_min B F X N T hk hd hu XB TB hx hdx ⟨fun F X _ q => isi_int F X (by decide +kernel) rfl q, fun _ => Looks.of_pure rfl, by k_is⟩ ret
theorem ord_min_str {t : Tok} {x dx : Addr} (hx : (x, instObj 782 dx) ∈ news) (hdx : (dx, dictOf [] 0) ∈ news)
    (ret : ∀ r n h' tk', Fr h₀ L h' m → News h₀ L h' ((r, { cls := .type "list", data := .seq #[.bool true, .bool true, .bool false, .bool true, .bool false, .bool false] n}) :: news) → Q (.ref r) { s with heap := h', toks := tk' }) :
    wpAny (model prog w) (ktrTop dp un gd cn cs L a ccd cl []) (call (.ref 1476) [.ref x, .str (S "a") t]) Q E s :=
  ord_min B F X N T hk hd hu XB TB hx hdx ⟨fun F X _ q => isi_str F X (by decide +kernel) rfl q, fun _ => Looks.of_pure rfl, by k_is⟩ ret
theorem ord_min_none {x dx : Addr} (hx : (x, instObj 782 dx) ∈ news) (hdx : (dx, dictOf [] 0) ∈ news)
    (ret : ∀ r n h' tk', Fr h₀ L h' m → News h₀ L h' ((r, { cls := .type "list", data := .seq #[.bool true, .bool true, .bool false, .bool true, .bool false, .bool false] n}) :: news) → Q (.ref r) { s with heap := h', toks := tk' }) :
    wpAny (model prog w) (ktrTop dp un gd cn cs L a ccd cl []) (call (.ref 1476) [.ref x, .none]) Q E s :=
  ord_min B F X N T hk hd hu XB TB hx hdx ⟨fun F X _ q => isi_none F X (by decide +kernel) rfl q, fun _ => Looks.of_pure rfl, by k_is⟩ ret
theorem ord_min_oid {b : Array UInt8} {t u : Tok} {y dy : Addr} {x dx : Addr} (hx : (x, instObj 782 dx) ∈ news) (hdx : (dx, dictOf [] 0) ∈ news) (hy : (y, instObj 902 dy) ∈ news) (hdy : (dy, dictOf [dE w.params (S "_id") u (.bytes b t)] 1) ∈ news)
    (ret : ∀ r n h' tk', Fr h₀ L h' m → News h₀ L h' ((r, { cls := .type "list", data := .seq #[.bool true, .bool true, .bool false, .bool true, .bool false, .bool false] n}) :: news) → Q (.ref r) { s with heap := h', toks := tk' }) :
    wpAny (model prog w) (ktrTop dp un gd cn cs L a ccd cl []) (call (.ref 1476) [.ref x, .ref y]) Q E s :=
  ord_min B F X N T hk hd hu XB TB hx hdx ⟨fun F X N q => isi_own F X N hy hdy (by decide +kernel) rfl q, fun N => InstAt.type (InstAt.of_news N hy hdy), by k_is⟩ ret
theorem ord_min_max {x dx y dy : Addr} (hx : (x, instObj 782 dx) ∈ news) (hdx : (dx, dictOf [] 0) ∈ news) (hy : (y, instObj 719 dy) ∈ news) (hdy : (dy, dictOf [] 0) ∈ news)
    (ret : ∀ r n h' tk', Fr h₀ L h' m → News h₀ L h' ((r, { cls := .type "list", data := .seq #[.bool true, .bool true, .bool false, .bool true, .bool false, .bool false] n}) :: news) → Q (.ref r) { s with heap := h', toks := tk' }) :
    wpAny (model prog w) (ktrTop dp un gd cn cs L a ccd cl []) (call (.ref 1476) [.ref x, .ref y]) Q E s :=
  ord_min B F X N T hk hd hu XB TB hx hdx ⟨fun F X N q => isi_own F X N hy hdy (by decide +kernel) rfl q, fun N => InstAt.type (InstAt.of_news N hy hdy), by k_is⟩ ret
theorem ord_min_min {x dx y dy : Addr} (hx : (x, instObj 782 dx) ∈ news) (hdx : (dx, dictOf [] 0) ∈ news) (hy : (y, instObj 782 dy) ∈ news) (hdy : (dy, dictOf [] 0) ∈ news)
    (ret : ∀ r n h' tk', Fr h₀ L h' m → News h₀ L h' ((r, { cls := .type "list", data := .seq #[.bool false, .bool true, .bool true, .bool false, .bool true, .bool false] n}) :: news) → Q (.ref r) { s with heap := h', toks := tk' }) :
    wpAny (model prog w) (ktrTop dp un gd cn cs L a ccd cl []) (call (.ref 1476) [.ref x, .ref y]) Q E s :=
  ord_min B F X N T hk hd hu XB TB hx hdx ⟨fun F X N q => isi_own F X N hy hdy (by decide +kernel) rfl q, fun N => InstAt.type (InstAt.of_news N hy hdy), by k_is⟩ ret
theorem ord_max_int {t : Tok} {x dx : Addr} (hx : (x, instObj 719 dx) ∈ news) (hdx : (dx, dictOf [] 0) ∈ news)
    (ret : ∀ r n h' tk', Fr h₀ L h' m → News h₀ L h' ((r, { cls := .type "list", data := .seq #[.bool false, .bool false, .bool false, .bool true, .bool true, .bool true] n}) :: news) → Q (.ref r) { s with heap := h', toks := tk' }) :
    wpAny (model prog w) (ktrTop dp un gd cn cs L a ccd cl []) (call (.ref 1476) [.ref x, .int 5 t]) Q E s :=
  ord_max B F X N T hk hd hu XB TB hx hdx ⟨fun F X _ q => isi_int F X (by decide +kernel) rfl q, fun _ => Looks.of_pure rfl, by k_is⟩ ret
theorem ord_max_str {t : Tok} {x dx : Addr} (hx : (x, instObj 719 dx) ∈ news) (hdx : (dx, dictOf [] 0) ∈ news)
    (ret : ∀ r n h' tk', Fr h₀ L h' m → News h₀ L h' ((r, { cls := .type "list", data := .seq #[.bool false, .bool false, .bool false, .bool true, .bool true, .bool true] n}) :: news) → Q (.ref r) { s with heap := h', toks := tk' }) :
    wpAny (model prog w) (ktrTop dp un gd cn cs L a ccd cl []) (call (.ref 1476) [.ref x, .str (S "a") t]) Q E s :=
  ord_max B F X N T hk hd hu XB TB hx hdx ⟨fun F X _ q => isi_str F X (by decide +kernel) rfl q, fun _ => Looks.of_pure rfl, by k_is⟩ ret
theorem ord_max_none {x dx : Addr} (hx : (x, instObj 719 dx) ∈ news) (hdx : (dx, dictOf [] 0) ∈ news)
    (ret : ∀ r n h' tk', Fr h₀ L h' m → News h₀ L h' ((r, { cls := .type "list", data := .seq #[.bool false, .bool false, .bool false, .bool true, .bool true, .bool true] n}) :: news) → Q (.ref r) { s with heap := h', toks := tk' }) :
    wpAny (model prog w) (ktrTop dp un gd cn cs L a ccd cl []) (call (.ref 1476) [.ref x, .none]) Q E s :=
  ord_max B F X N T hk hd hu XB TB hx hdx ⟨fun F X _ q => isi_none F X (by decide +kernel) rfl q, fun _ => Looks.of_pure rfl, by k_is⟩ ret
theorem ord_max_oid {b : Array UInt8} {t u : Tok} {y dy : Addr} {x dx : Addr} (hx : (x, instObj 719 dx) ∈ news) (hdx : (dx, dictOf [] 0) ∈ news) (hy : (y, instObj 902 dy) ∈ news) (hdy : (dy, dictOf [dE w.params (S "_id") u (.bytes b t)] 1) ∈ news)
    (ret : ∀ r n h' tk', Fr h₀ L h' m → News h₀ L h' ((r, { cls := .type "list", data := .seq #[.bool false, .bool false, .bool false, .bool true, .bool true, .bool true] n}) :: news) → Q (.ref r) { s with heap := h', toks := tk' }) :
    wpAny (model prog w) (ktrTop dp un gd cn cs L a ccd cl []) (call (.ref 1476) [.ref x, .ref y]) Q E s :=
  ord_max B F X N T hk hd hu XB TB hx hdx ⟨fun F X N q => isi_own F X N hy hdy (by decide +kernel) rfl q, fun N => InstAt.type (InstAt.of_news N hy hdy), by k_is⟩ ret
theorem ord_max_max {x dx y dy : Addr} (hx : (x, instObj 719 dx) ∈ news) (hdx : (dx, dictOf [] 0) ∈ news) (hy : (y, instObj 719 dy) ∈ news) (hdy : (dy, dictOf [] 0) ∈ news)
    (ret : ∀ r n h' tk', Fr h₀ L h' m → News h₀ L h' ((r, { cls := .type "list", data := .seq #[.bool false, .bool true, .bool true, .bool false, .bool true, .bool false] n}) :: news) → Q (.ref r) { s with heap := h', toks := tk' }) :
    wpAny (model prog w) (ktrTop dp un gd cn cs L a ccd cl []) (call (.ref 1476) [.ref x, .ref y]) Q E s :=
  ord_max B F X N T hk hd hu XB TB hx hdx ⟨fun F X N q => isi_own F X N hy hdy (by decide +kernel) rfl q, fun N => InstAt.type (InstAt.of_news N hy hdy), by k_is⟩ ret
theorem ord_max_min {x dx y dy : Addr} (hx : (x, instObj 719 dx) ∈ news) (hdx : (dx, dictOf [] 0) ∈ news) (hy : (y, instObj 782 dy) ∈ news) (hdy : (dy, dictOf [] 0) ∈ news)
    (ret : ∀ r n h' tk', Fr h₀ L h' m → News h₀ L h' ((r, { cls := .type "list", data := .seq #[.bool false, .bool false, .bool false, .bool true, .bool true, .bool true] n}) :: news) → Q (.ref r) { s with heap := h', toks := tk' }) :
    wpAny (model prog w) (ktrTop dp un gd cn cs L a ccd cl []) (call (.ref 1476) [.ref x, .ref y]) Q E s :=
  ord_max B F X N T hk hd hu XB TB hx hdx ⟨fun F X N q => isi_own F X N hy hdy (by decide +kernel) rfl q, fun N => InstAt.type (InstAt.of_news N hy hdy), by k_is⟩ ret
end
end
section
noncomputable def docB (B : Array UInt8) (i j : Int) : Array UInt8 := ((((#[37, 0, 0, 0, 7, 105, 0] ++ B) ++ #[17, 116, 0]) ++ le4 j) ++ le4 i) ++ #[255, 108, 0, 127, 103, 0, 0]
theorem doc_enc {B R : Array UInt8} {i j : Int} (h : R = #[7] ++ #[105, 0] ++ B ++ (#[17] ++ (#[116] ++ #[0]) ++ (le4 j ++ le4 i)) ++ #[255, 108, 0] ++ #[127, 103, 0]) : #[37, 0, 0, 0] ++ R ++ #[0] = docB B i j := by
  subst h
  unfold docB
  generalize le4 j = a
  generalize le4 i = b
  apply Array.toList_inj.mp
  simp
theorem bInts_app (a b : Array UInt8) : KBw.bInts (a ++ b) = KBw.bInts a ++ KBw.bInts b := by
  show ((a ++ b).toList.map fun c => ((c.toNat : Nat) : Int)) = _
  rw [Array.toList_append, List.map_append]
  rfl
theorem le4_list {j : Int} (h0 : 0 ≤ j) : KBw.bInts (le4 j) = [j % 256, j / 256 % 256, j / 256 / 256 % 256, j / 256 / 256 / 256 % 256] := (le4_ints h0).trans rfl
theorem le4_sum {j : Int} (h0 : 0 ≤ j) (h1 : j < 4294967296) : j % 256 + 256 * (j / 256 % 256) + 65536 * (j / 256 / 256 % 256) + 16777216 * (j / 256 / 256 / 256 % 256) = j := by omega
theorem doc_ints {B : Array UInt8} {i j c0 c1 c2 c3 c4 c5 c6 c7 c8 c9 c10 c11 : Int} (hB : KBw.bInts B = [c0, c1, c2, c3, c4, c5, c6, c7, c8, c9, c10, c11]) (hi : 0 ≤ i) (hj : 0 ≤ j) :
    KBw.bInts (docB B i j) = [37, 0, 0, 0, 7, 105, 0, c0, c1, c2, c3, c4, c5, c6, c7, c8, c9, c10, c11, 17, 116, 0, j % 256, j / 256 % 256, j / 256 / 256 % 256, j / 256 / 256 / 256 % 256, i % 256, i / 256 % 256, i / 256 / 256 % 256, i / 256 / 256 / 256 % 256, 255, 108, 0, 127, 103, 0, 0] := by
  unfold docB
  simp only [bInts_app, hB, le4_list hi, le4_list hj]
  rfl
theorem list_get9 {l : List Int} {n : Nat} (h : l.length = n) : l = (List.range n).map fun i => l.getD i 0 := by
  subst h
  refine List.ext_getElem (by simp) fun i h1 h2 => ?_
  simp [List.getD_eq_getElem?_getD, h1]
theorem list12 {l : List Int} (h : l.length = 12) : ∃ c0 c1 c2 c3 c4 c5 c6 c7 c8 c9 c10 c11, l = [c0, c1, c2, c3, c4, c5, c6, c7, c8, c9, c10, c11] :=
  ⟨l.getD 0 0, l.getD 1 0, l.getD 2 0, l.getD 3 0, l.getD 4 0, l.getD 5 0, l.getD 6 0, l.getD 7 0, l.getD 8 0, l.getD 9 0, l.getD 10 0, l.getD 11 0, list_get9 h⟩
theorem doc_size {B : Array UInt8} {i j : Int} (hB : B.size = 12) : (docB B i j).size = 37 := by
  unfold docB
  simp only [Array.size_append, hB, le4_size, List.size_toArray, List.length_cons, List.length_nil]
end
section
section
variable {prog p : Program} {w : World} {loose : List Str} {mean : ExcName → Option Value} {mg mb : Str → Option Value} {dp un : Nat}
  {gd : Option (List Code)} {cn : Str} {cs : Scope} {a : Addr} {ccd : Value} {cl : List (Str × Addr)} {outer : List Env} {A₀ : Around} {base h₀ : Heap} {L : Addr} {m : Str → Option Value} {s : Shared} {Q E : Value → Shared → Prop}
  {news : List (Addr × Obj)}
  (B : Below A₀ base outer h₀) (F : Fr h₀ L s.heap m) (X : (K w.params).In h₀) (N : News h₀ L s.heap news)
  (T : Top p loose mean mg mb h₀) (hk : cs.kind = .function) (hd : dp + 60 < 1000) (hu : un + 400 < 9900)
include B F X N T hk hd hu
theorem words_18 : True := by
  k_with "ite" => (with_reducible rename Mk 18 => mk9); k_extra "#8"
  k_with "binaryOp Add bytes bytes" => (with_reducible rename Mk 18 => mk9); k_extra "#9"
  k_with "callWith" => (with_reducible rename Mk 18 => mk9); (k_here; k_dflt (refine callWith_kwM ?_))
  k_with "evalAll" => (with_reducible rename Mk 18 => mk9); (k_here; k_dflt (first | refine kws_nil ?_ | refine kws_cons ?_))
  k_with "call builtin:int.to_bytes" => (with_reducible rename Mk 18 => mk9); (k_here; k_dflt (refine call37 ?_); intro tbTw9 tbKw9)
  trivial
theorem pack37 {t : Tok}  
    (ret : ∀ t' h' tk', Fr h₀ L h' m → News h₀ L h' news → Q (.bytes #[37, 0, 0, 0] t') { s with heap := h', toks := tk' }) :
    wpAny (model prog w) (ktrTop dp un gd cn cs L a ccd cl outer) (call (.ref 1252) [.int 37 t]) Q E s := by
  have mk9 : Mk 18 := .mk
  refine wpAny_call ?_
  k_extra "my en"
  k_steps
  all_goals first | exact ret _ _ _ (by k_asm) (by k_extra "my drop")
end
end
section
def Park (p : Prop) : Prop := p
theorem parkX {p : Prop} (h : Park p) : p := h
section
variable {prog p : Program} {w : World} {loose : List Str} {mean : ExcName → Option Value} {mg mb : Str → Option Value} {dp un : Nat}
  {gd : Option (List Code)} {cn : Str} {cs : Scope} {a : Addr} {ccd : Value} {cl : List (Str × Addr)} {outer : List Env} {A₀ : Around} {base h₀ : Heap} {L : Addr} {m : Str → Option Value} {s : Shared} {Q E : Value → Shared → Prop}
  {news : List (Addr × Obj)}
  (B : Below A₀ base outer h₀) (F : Fr h₀ L s.heap m) (X : (K w.params).In h₀) (N : News h₀ L s.heap news)
  (T : Top p loose mean mg mb h₀) (hk : cs.kind = .function) (hd : dp + 60 < 1000) (hu : un + 400 < 9900)
include B F X N T hk hd hu
local macro_rules | `(tactic| walk_at "pyIter ref") => `(tactic| k_extra "#pi19")
theorem words_19 : True := by
  k_with "eval Name" => (with_reducible rename Mk 19 => mk9); k_extra "#0"
  k_with "subscriptTail" => (with_reducible rename Mk 19 => mk9); (k_here; ((with_reducible show wpAny _ _ (subscriptTail _ _ (Value.bytes _ _) (Value.int _ _)) _ _ _)); (with_unfolding_all refine KBw.item_K rfl (by rw [KBw.ints_length]; clear mk9; omega) (by clear mk9; omega) (by rw [KBw.ints_length]; clear mk9; omega) ?_); intro ixTw9 ixKw9 ix0w9 ix1w9)
  k_with "#pi19" => (with_reducible refine parkX ?_)
  k_with "StepP" => (with_reducible rename Mk 19 => mk9); (k_here; (with_reducible show StepP _ _ _ _ _ _ _ _ (Flow.ret _) _); dsimp only [StepP])
  trivial
theorem index_nul {t tp : Tok} {b : Array UInt8} {p : Int} {n : Nat} (hp : 0 ≤ p) (hn : p + (n : Int) = b.size) (hbz : b.size ≤ 1000) (ex : ∃ k : Nat, k < n ∧ (KBw.bInts b).getD (p + (k : Int)).toNat 0 = 0)
    (ret : ∀ k : Nat, k < n → (KBw.bInts b).getD (p + (k : Int)).toNat 0 = 0 → (∀ j : Nat, j < k → (KBw.bInts b).getD (p + (j : Int)).toNat 0 ≠ 0) → ∀ t' h' tk', Fr h₀ L h' m → News h₀ L h' news → Q (.int (p + (k : Int) * 1) t') { s with heap := h', toks := tk' }) :
    wpAny (model prog w) (ktrTop dp un gd cn cs L a ccd cl outer) (call (.ref 1084) [.bytes b t, .int p tp]) Q E s := by
  have mk9 : Mk 19 := .mk
  refine wpAny_call ?_
  k_extra "my en"
  k_steps
  all_goals (try (unfold Park))
  all_goals (try (with_reducible rename IsRange _ _ _ _ _ _ _ _ => rgX))
  all_goals (try (with_reducible rename Fr _ _ _ _ => lF))
  all_goals (try (with_reducible rename News _ _ _ _ => lN))
  all_goals first
    | (have r1 := range_sz hp hn hbz
       with_unfolding_all refine' range_plain (n := n) (NulJ b p t) ?hh rgX ?hs ?hn lF lN ?j0 ?turn ?done
       case hh => with_unfolding_all rfl
       case hs => exact r1.1
       case hn => exact r1.2
       case j0 => exact ⟨by with_unfolding_all rfl, fun _ h => absurd h (Nat.not_lt_zero _)⟩
       case done =>
         intro m₁ h tk j F' N'
         obtain ⟨j1, j2⟩ := j
         obtain ⟨k, hk, hz⟩ := ex
         exact absurd hz (j2 k hk)
       case turn =>
         intro I i t h tk m₁ hi j F' N'
         obtain ⟨j1, j2⟩ := j
         clear lF lN
         k_steps
         all_goals first
           | ((with_reducible show StepP _ _ _ _ _ _ _ _ Flow.next _); exact ⟨_, _, _, rfl, by k_asm, by k_asm, nulJ_next j1 j2 (by assumption)⟩)
           | (exact ret _ hi (nul_zero (by assumption)) j2 _ _ _ (by k_asm) (by k_extra "my drop")))
end
end
section
section
variable {prog p : Program} {w : World} {loose : List Str} {mean : ExcName → Option Value} {mg mb : Str → Option Value} {dp un : Nat}
  {gd : Option (List Code)} {cn : Str} {cs : Scope} {a : Addr} {ccd : Value} {cl : List (Str × Addr)} {outer : List Env} {A₀ : Around} {base h₀ : Heap} {L : Addr} {m : Str → Option Value} {s : Shared} {Q E : Value → Shared → Prop}
  {news : List (Addr × Obj)}
  (B : Below A₀ base outer h₀) (F : Fr h₀ L s.heap m) (X : (K w.params).In h₀) (N : News h₀ L s.heap news)
  (T : Top p loose mean mg mb h₀) (hk : cs.kind = .function) (hd : dp + 60 < 1000) (hu : un + 400 < 9900)
include B F X N T hk hd hu
theorem nul1 {t tp : Tok} {b : Array UInt8} {p : Int} (hp : 0 ≤ p) (hp2 : p + 2 ≤ 37) (hz : b.size = 37) (h0 : (KBw.bInts b).getD p.toNat 0 ≠ 0) (h1 : (KBw.bInts b).getD (p + 1).toNat 0 = 0)
    (ret : ∀ t' h' tk', Fr h₀ L h' m → News h₀ L h'  news → Q (.int (p + 1) t') { s with heap := h', toks := tk' }) :
    wpAny (model prog w) (ktrTop dp un gd cn cs L a ccd cl outer) (call (.ref 1084) [.bytes b t, .int p tp]) Q E s := by
  refine index_nul B F X N T hk hd hu (n := (37 - p).toNat) hp (by omega) (by omega) ⟨1, by omega, h1⟩ fun k hk e ne t' h' tk' f n => ?_
  have e0 : (p + ((0 : Nat) : Int)).toNat = p.toNat := by congr 1; omega
  match k, hk, e, ne with
  | 0, _, e, _ => rw [e0] at e; exact absurd e h0
  | 1, _, _, _ => rw [show p + ((1 : Nat) : Int) * 1 = p + 1 by omega]; exact ret _ _ _ f n
  | k + 2, _, _, ne => exact absurd h1 (ne 1 (by omega))
end
section
variable {prog p : Program} {w : World} {loose : List Str} {mean : ExcName → Option Value} {mg mb : Str → Option Value} {dp un : Nat}
  {gd : Option (List Code)} {cn : Str} {cs : Scope} {a : Addr} {ccd : Value} {cl : List (Str × Addr)} {outer : List Env} {A₀ : Around} {base h₀ : Heap} {L : Addr} {m : Str → Option Value} {s : Shared} {Q E : Value → Shared → Prop}
  {news : List (Addr × Obj)}
  (B : Below A₀ base outer h₀) (F : Fr h₀ L s.heap m) (X : (K w.params).In h₀) (N : News h₀ L s.heap news)
  (T : Top p loose mean mg mb h₀) (hk : cs.kind = .function) (hd : dp + 90 < 1000) (hu : un + 600 < 9900)
include B F X N T hk hd hu
theorem words_20 : True := by
  k_with "subscriptTail" => (with_reducible rename Mk 20 => mk9); (k_here; ((with_reducible show wpAny _ _ (subscriptTail _ (Expr.Slice _ _ none _) (Value.bytes _ _) (Value.ref _)) _ _ _)); (with_reducible rename Fr _ _ _ _ => F'w9); (with_reducible rename News _ _ _ _ => N'w9); k_dflt (refine slice_eq (s := ⟨_, _, _, _, _⟩) (ks := KBw.bInts _) F'w9 N'w9 rfl (by constructor) (by constructor) (by (rw [KBw.ints_length]; omega)) (by assumption) ?_); intro slHw9 slTw9 slKw9 kFw9 kNw9; (try k_sweep))
  k_with "getMethod bytes" => (with_reducible rename Mk 20 => mk9); (k_here; (with_reducible show wpAny _ _ (getMethod (Value.bytes _ _) ("decode" : Str) _) _ _ _); refine KBd.method ?_)
  k_with "call builtin:bytes.decode" => (with_reducible rename Mk 20 => mk9); (k_here; (with_reducible show wpAny _ _ (call (Value.builtin "bytes.decode") [Value.bytes _ _, Value.str _ _]) _ _ _); k_dflt (refine dec_call (by assumption) (by omega) ?_); intro dcTw9 dcKw9)
  k_with "call ref" => (with_reducible rename Mk 20 => mk9); (k_here; (with_reducible show wpAny _ _ (call (Value.ref 1084) _) _ _ _); k_dflt (refine' nul1 ?hB ?hF ?hX ?hN ?hT ?hK ?hD ?hU ?h0 ?h1 ?h2 ?h3 ?h4 ?_; (case hB => k_asm); (case hF => k_asm); (case hX => k_asm); (case hN => k_asm); (case hT => k_asm); (case hK => first | exact rfl | assumption); (case hD => k_extra "my dp"); (case hU => k_extra "my dp"); (case h0 => with_reducible assumption); (case h1 => with_reducible assumption); (case h2 => with_reducible assumption); (case h3 => with_reducible assumption); (case h4 => with_reducible assumption); k_whole; intro nuTw9 nuHw9 nuKw9 kFw9 kNw9; (try k_sweep)))
  trivial
theorem cstr {R : Array UInt8} {tR tV tp : Tok} {p : Int} {c : UInt8} {nm : Str} (hp : 0 ≤ p) (hp2 : p + 2 ≤ 37) (hz : R.size = 37) (h0 : (KBw.bInts R).getD p.toNat 0 ≠ 0) (h1 : (KBw.bInts R).getD (p + 1).toNat 0 = 0) (hs : ((KBw.bInts R).drop ((some p).elim 0 (clipAt (KBw.bInts R).length))).take ((some (p + 1)).elim (KBw.bInts R).length (clipAt (KBw.bInts R).length) - (some p).elim 0 (clipAt (KBw.bInts R).length)) = KBw.bInts #[c]) (hdc : ∀ id, Builtin._codecs.runDecoder id Builtin._codecs.utf8Decoder none true #[c] 0 [] = pure (nm.cps, 1)) (hln : nm.length ≤ 10)  
    (ret : ∀ D n t1 t2 h' tk', Fr h₀ L h' m → News h₀ L h' ((D, { cls := .type "tuple", data := .seq #[.str nm t1, .int (p + 1 + 1) t2] n }) :: news) → (∀ q ∈ news, q.1 < D) → Q (.ref D) { s with heap := h', toks := tk' }) :
    wpAny (model prog w) (ktrTop dp un gd cn cs L a ccd cl outer) (call (.ref 1112) [.bytes R tR, .bytes R tV, .int p tp, .ref 262]) Q E s := by
  have mk9 : Mk 20 := .mk
  refine wpAny_call ?_
  k_extra "my en"
  k_steps
  all_goals first | exact ret _ _ _ _ _ _ (by k_asm) (by k_extra "my drop") (by first | assumption | exact allLt_all (And.right (by assumption))) | (exfalso; clear ret; omega)
end
end
section
section
variable {prog p : Program} {w : World} {loose : List Str} {mean : ExcName → Option Value} {mg mb : Str → Option Value} {dp un : Nat}
  {gd : Option (List Code)} {cn : Str} {cs : Scope} {a : Addr} {ccd : Value} {cl : List (Str × Addr)} {outer : List Env} {A₀ : Around} {base h₀ : Heap} {L : Addr} {m : Str → Option Value} {s : Shared} {Q E : Value → Shared → Prop}
  {news : List (Addr × Obj)}
  (B : Below A₀ base outer h₀) (F : Fr h₀ L s.heap m) (X : (K w.params).In h₀) (N : News h₀ L s.heap news)
  (T : Top p loose mean mg mb h₀) (hk : cs.kind = .function) (hd : dp + 90 < 1000) (hu : un + 600 < 9900)
include B F X N T hk hd hu
theorem cstrk {R : Array UInt8} {tR tV tp : Tok} {p : Int} {c : UInt8} {nm : Str} {ks rest : List Int} {v0 : Int} (hp : 0 ≤ p) (hp2 : p + 2 ≤ 37) (hz : R.size = 37) (hR : KBw.bInts R = ks) (hk0 : ks.drop p.toNat = v0 :: 0 :: rest) (hv0 : v0 ≠ 0)
    (hs : (ks.drop ((some p).elim 0 (clipAt ks.length))).take ((some (p + 1)).elim ks.length (clipAt ks.length) - (some p).elim 0 (clipAt ks.length)) = KBw.bInts #[c]) (hdc : ∀ id, Builtin._codecs.runDecoder id Builtin._codecs.utf8Decoder none true #[c] 0 [] = pure (nm.cps, 1)) (hln : nm.length ≤ 10)
    (ret : ∀ D n t1 t2 h' tk', Fr h₀ L h' m → News h₀ L h'  ((D, { cls := .type "tuple", data := .seq #[.str nm t1, .int (p + 1 + 1) t2] n }) :: news) → (∀ q ∈ news, q.1 < D) → Q (.ref D) { s with heap := h', toks := tk' }) :
    wpAny (model prog w) (ktrTop dp un gd cn cs L a ccd cl outer) (call (.ref 1112) [.bytes R tR, .bytes R tV, .int p tp, .ref 262]) Q E s := by
  subst hR
  have g : ∀ k : Nat, (KBw.bInts R).getD (p.toNat + k) 0 = (v0 :: 0 :: rest).getD k 0 := fun k => by
    rw [List.getD_eq_getElem?_getD, ← List.getElem?_drop, hk0, List.getD_eq_getElem?_getD]
  refine cstr B F X N T hk hd hu hp hp2 hz ?_ ?_ hs hdc hln ret
  · have := g 0
    rw [Nat.add_zero] at this
    rw [this]
    exact hv0
  · have := g 1
    rw [show (p + 1).toNat = p.toNat + 1 by omega, this]
    rfl
end
end
section
section
variable {prog p : Program} {w : World} {loose : List Str} {mean : ExcName → Option Value} {mg mb : Str → Option Value} {dp un : Nat}
  {gd : Option (List Code)} {cn : Str} {cs : Scope} {a : Addr} {ccd : Value} {cl : List (Str × Addr)} {outer : List Env} {A₀ : Around} {base h₀ : Heap} {L : Addr} {m : Str → Option Value} {s : Shared} {Q E : Value → Shared → Prop}
  {news : List (Addr × Obj)}
  (B : Below A₀ base outer h₀) (F : Fr h₀ L s.heap m) (X : (K w.params).In h₀) (N : News h₀ L s.heap news)
  (T : Top p loose mean mg mb h₀) (hk : cs.kind = .function) (hd : dp + 180 < 1000) (hu : un + 1600 < 9900)
include B F X N T hk hd hu
theorem words_21 : True := by
  k_with "subscriptTail" => (with_reducible rename Mk 21 => mk9); k_extra "#4"
  k_with "subscriptTail" => (with_reducible rename Mk 21 => mk9); k_extra "#5"
  k_with "call ref" => (with_reducible rename Mk 21 => mk9); (k_here; (with_reducible show wpAny _ _ (call (Value.ref 1112) _) _ _ _); k_dflt (refine' cstrk (nm := S "i") ?hB ?hF ?hX ?hN ?hT ?hK ?hD ?hU ?h0 ?h1 ?h2 ?h3 ?h4 ?h5 ?h6 ?h7 ?h8 ?_; (case hB => k_asm); (case hF => k_asm); (case hX => k_asm); (case hN => k_asm); (case hT => k_asm); (case hK => first | exact rfl | assumption); (case hD => k_extra "my dp"); (case hU => k_extra "my dp"); (case h0 => decide); (case h1 => decide); (case h2 => with_reducible assumption); (case h3 => with_reducible assumption); (case h4 => exact rfl); (case h5 => decide); (case h7 => exact run_i); (case h6 => exact rfl); (case h8 => decide); k_whole; intro csDw9 csNw9 csT1w9 csT2w9 csHw9 csKw9 kFw9 kNw9 csLw9; (try k_sweep)))
  k_with "call ref" => (with_reducible rename Mk 21 => mk9); (k_here; (with_reducible show wpAny _ _ (call (Value.ref 1224) (Value.int 7 _ :: _)) _ _ _); k_dflt (refine' gel_i ?hB ?hF ?hX ?hN ?hT ?hK ?hD ?hU ?h0 ?h1 ?h2 ?h3 ?_; (case hB => k_asm); (case hF => k_asm); (case hX => k_asm); (case hN => k_asm); (case hT => k_asm); (case hK => first | exact rfl | assumption); (case hD => k_extra "my dp"); (case hU => k_extra "my dp"); (case h0 => with_reducible assumption); (case h1 => with_reducible assumption); (case h2 => with_reducible assumption); (case h3 => with_reducible assumption); k_whole; intro geDw9 geNw9 geXw9 geDxw9 geUw9 geTw9 geTqw9 geHw9 geKw9 kFw9 kNw9 geL1w9 geL2w9 geL3w9; (try k_sweep)))
  trivial
theorem etd_i {c0 c1 c2 c3 c4 c5 c6 c7 c8 c9 c10 c11 j0 j1 j2 j3 i0 i1 i2 i3 : Int} {R : Array UInt8} {tR tV : Tok} (hR : KBw.bInts R = [37, 0, 0, 0, 7, 105, 0, c0, c1, c2, c3, c4, c5, c6, c7, c8, c9, c10, c11, 17, 116, 0, j0, j1, j2, j3, i0, i1, i2, i3, 255, 108, 0, 127, 103, 0, 0]) (hz : R.size = 37) {B : Array UInt8} (hB : KBw.bInts B = [c0, c1, c2, c3, c4, c5, c6, c7, c8, c9, c10, c11]) (hB12 : B.size = 12) {tp to : Tok}  
    (ret : ∀ D n x dx u t1 tn tq h' tk', Fr h₀ L h' m → News h₀ L h' ((D, { cls := .type "tuple", data := .seq #[.str (S "i") tn, .ref x, .int 19 tq] n }) :: (x, instObj 902 dx) :: (dx, dictOf [dE w.params (S "_id") u (.bytes B t1)] 1) :: news) → (∀ q ∈ news, q.1 < dx) → @LT.lt Nat _ dx x → @LT.lt Nat _ x D → Q (.ref D) { s with heap := h', toks := tk' }) :
    wpAny (model prog w) (ktrTop dp un gd cn cs L a ccd cl outer) (call (.ref 1231) [.bytes R tR, .bytes R tV, .int 4 tp, .int 36 to, .ref 262]) Q E s := by
  have mk9 : Mk 21 := .mk
  refine wpAny_call ?_
  k_extra "my en"
  k_steps
  all_goals first | exact ret _ _ _ _ _ _ _ _ _ _ (by k_asm) (by (refine' News.sub ?dn ?ds; (case dn => with_reducible assumption); (case ds => ((repeat' first | with_reducible exact List.Sublist.refl _ | with_reducible refine' List.Sublist.cons_cons _ ?_ | refine' List.Sublist.cons _ ?_); done)))) (by first | assumption | exact lt_tl (by assumption) | exact allLt_all (And.right (by assumption))) (by assumption) (by first | assumption | exact And.left (by assumption) | exact And.left (And.right (by assumption))) | (exfalso; clear ret; omega)
end
end
section
section
variable {prog p : Program} {w : World} {loose : List Str} {mean : ExcName → Option Value} {mg mb : Str → Option Value} {dp un : Nat}
  {gd : Option (List Code)} {cn : Str} {cs : Scope} {a : Addr} {ccd : Value} {cl : List (Str × Addr)} {outer : List Env} {A₀ : Around} {base h₀ : Heap} {L : Addr} {m : Str → Option Value} {s : Shared} {Q E : Value → Shared → Prop}
  {news : List (Addr × Obj)}
  (B : Below A₀ base outer h₀) (F : Fr h₀ L s.heap m) (X : (K w.params).In h₀) (N : News h₀ L s.heap news)
  (T : Top p loose mean mg mb h₀) (hk : cs.kind = .function) (hd : dp + 180 < 1000) (hu : un + 1600 < 9900)
include B F X N T hk hd hu
theorem words_22 : True := by
  k_with "subscriptTail" => (with_reducible rename Mk 22 => mk9); k_extra "#4"
  k_with "subscriptTail" => (with_reducible rename Mk 22 => mk9); k_extra "#5"
  k_with "call ref" => (with_reducible rename Mk 22 => mk9); (k_here; (with_reducible show wpAny _ _ (call (Value.ref 1112) _) _ _ _); k_dflt (refine' cstrk (nm := S "t") ?hB ?hF ?hX ?hN ?hT ?hK ?hD ?hU ?h0 ?h1 ?h2 ?h3 ?h4 ?h5 ?h6 ?h7 ?h8 ?_; (case hB => k_asm); (case hF => k_asm); (case hX => k_asm); (case hN => k_asm); (case hT => k_asm); (case hK => first | exact rfl | assumption); (case hD => k_extra "my dp"); (case hU => k_extra "my dp"); (case h0 => decide); (case h1 => decide); (case h2 => with_reducible assumption); (case h3 => with_reducible assumption); (case h4 => exact rfl); (case h5 => decide); (case h7 => exact run_t); (case h6 => exact rfl); (case h8 => decide); k_whole; intro csDw9 csNw9 csT1w9 csT2w9 csHw9 csKw9 kFw9 kNw9 csLw9; (try k_sweep)))
  k_with "call ref" => (with_reducible rename Mk 22 => mk9); (k_here; (with_reducible show wpAny _ _ (call (Value.ref 1224) (Value.int 17 _ :: _)) _ _ _); k_dflt (refine' gel_t ?hB ?hF ?hX ?hN ?hT ?hK ?hD ?hU ?h0 ?h1 ?h2 ?h3 ?h4 ?h5 ?h6 ?h7 ?_; (case hB => k_asm); (case hF => k_asm); (case hX => k_asm); (case hN => k_asm); (case hT => k_asm); (case hK => first | exact rfl | assumption); (case hD => k_extra "my dp"); (case hU => k_extra "my dp"); (case h0 => with_reducible assumption); (case h1 => with_reducible assumption); (case h2 => with_reducible assumption); (case h3 => with_reducible assumption); (case h4 => with_reducible assumption); (case h5 => with_reducible assumption); (case h6 => with_reducible assumption); (case h7 => with_reducible assumption); k_whole; intro geDw9 geNw9 geXw9 geDxw9 geU1w9 geU2w9 geT1w9 geT2w9 geTqw9 geHw9 geKw9 kFw9 kNw9 geL1w9 geL2w9 geL3w9; (try k_sweep)))
  trivial
theorem etd_t {c0 c1 c2 c3 c4 c5 c6 c7 c8 c9 c10 c11 j0 j1 j2 j3 i0 i1 i2 i3 : Int} {R : Array UInt8} {tR tV : Tok} (hR : KBw.bInts R = [37, 0, 0, 0, 7, 105, 0, c0, c1, c2, c3, c4, c5, c6, c7, c8, c9, c10, c11, 17, 116, 0, j0, j1, j2, j3, i0, i1, i2, i3, 255, 108, 0, 127, 103, 0, 0]) (hz : R.size = 37) {i j : Int} (hj : j0 + 256 * j1 + 65536 * j2 + 16777216 * j3 = j) (hi : i0 + 256 * i1 + 65536 * i2 + 16777216 * i3 = i) (vi0 : 0 ≤ i) (vi1 : i < 4294967296) (vj0 : 0 ≤ j) (vj1 : j < 4294967296) {tp to : Tok}  
    (ret : ∀ D n x dx u1 u2 t1 t2 tn tq h' tk', Fr h₀ L h' m → News h₀ L h' ((D, { cls := .type "tuple", data := .seq #[.str (S "t") tn, .ref x, .int 30 tq] n }) :: (x, instObj 1024 dx) :: (dx, dictOf [dE w.params (S "_time") u1 (.int i t1), dE w.params (S "_inc") u2 (.int j t2)] 2) :: news) → (∀ q ∈ news, q.1 < dx) → @LT.lt Nat _ dx x → @LT.lt Nat _ x D → Q (.ref D) { s with heap := h', toks := tk' }) :
    wpAny (model prog w) (ktrTop dp un gd cn cs L a ccd cl outer) (call (.ref 1231) [.bytes R tR, .bytes R tV, .int 19 tp, .int 36 to, .ref 262]) Q E s := by
  have mk9 : Mk 22 := .mk
  refine wpAny_call ?_
  k_extra "my en"
  k_steps
  all_goals first | exact ret _ _ _ _ _ _ _ _ _ _ _ _ (by k_asm) (by (refine' News.sub ?dn ?ds; (case dn => with_reducible assumption); (case ds => ((repeat' first | with_reducible exact List.Sublist.refl _ | with_reducible refine' List.Sublist.cons_cons _ ?_ | refine' List.Sublist.cons _ ?_); done)))) (by first | assumption | exact lt_tl (by assumption) | exact allLt_all (And.right (by assumption))) (by assumption) (by first | assumption | exact And.left (by assumption) | exact And.left (And.right (by assumption))) | (exfalso; clear ret; omega)
end
end
section
section
variable {prog p : Program} {w : World} {loose : List Str} {mean : ExcName → Option Value} {mg mb : Str → Option Value} {dp un : Nat}
  {gd : Option (List Code)} {cn : Str} {cs : Scope} {a : Addr} {ccd : Value} {cl : List (Str × Addr)} {outer : List Env} {A₀ : Around} {base h₀ : Heap} {L : Addr} {m : Str → Option Value} {s : Shared} {Q E : Value → Shared → Prop}
  {news : List (Addr × Obj)}
  (B : Below A₀ base outer h₀) (F : Fr h₀ L s.heap m) (X : (K w.params).In h₀) (N : News h₀ L s.heap news)
  (T : Top p loose mean mg mb h₀) (hk : cs.kind = .function) (hd : dp + 180 < 1000) (hu : un + 1600 < 9900)
include B F X N T hk hd hu
theorem words_23 : True := by
  k_with "subscriptTail" => (with_reducible rename Mk 23 => mk9); k_extra "#4"
  k_with "subscriptTail" => (with_reducible rename Mk 23 => mk9); k_extra "#5"
  k_with "call ref" => (with_reducible rename Mk 23 => mk9); (k_here; (with_reducible show wpAny _ _ (call (Value.ref 1112) _) _ _ _); k_dflt (refine' cstrk (nm := S "l") ?hB ?hF ?hX ?hN ?hT ?hK ?hD ?hU ?h0 ?h1 ?h2 ?h3 ?h4 ?h5 ?h6 ?h7 ?h8 ?_; (case hB => k_asm); (case hF => k_asm); (case hX => k_asm); (case hN => k_asm); (case hT => k_asm); (case hK => first | exact rfl | assumption); (case hD => k_extra "my dp"); (case hU => k_extra "my dp"); (case h0 => decide); (case h1 => decide); (case h2 => with_reducible assumption); (case h3 => with_reducible assumption); (case h4 => exact rfl); (case h5 => decide); (case h7 => exact run_l); (case h6 => exact rfl); (case h8 => decide); k_whole; intro csDw9 csNw9 csT1w9 csT2w9 csHw9 csKw9 kFw9 kNw9 csLw9; (try k_sweep)))
  k_with "call ref" => (with_reducible rename Mk 23 => mk9); (k_here; (with_reducible show wpAny _ _ (call (Value.ref 1224) (Value.int 255 _ :: _)) _ _ _); k_dflt (refine' gel_l ?hB ?hF ?hX ?hN ?hT ?hK ?hD ?hU ?h0 ?h1 ?_; (case hB => k_asm); (case hF => k_asm); (case hX => k_asm); (case hN => k_asm); (case hT => k_asm); (case hK => first | exact rfl | assumption); (case hD => k_extra "my dp"); (case hU => k_extra "my dp"); (case h0 => with_reducible assumption); (case h1 => with_reducible assumption); k_whole; intro geDw9 geNw9 geXw9 geDxw9 geTqw9 geHw9 geKw9 kFw9 kNw9 geL1w9 geL2w9 geL3w9; (try k_sweep)))
  trivial
theorem etd_l {c0 c1 c2 c3 c4 c5 c6 c7 c8 c9 c10 c11 j0 j1 j2 j3 i0 i1 i2 i3 : Int} {R : Array UInt8} {tR tV : Tok} (hR : KBw.bInts R = [37, 0, 0, 0, 7, 105, 0, c0, c1, c2, c3, c4, c5, c6, c7, c8, c9, c10, c11, 17, 116, 0, j0, j1, j2, j3, i0, i1, i2, i3, 255, 108, 0, 127, 103, 0, 0]) (hz : R.size = 37) {tp to : Tok}  
    (ret : ∀ D n x dx  tn tq h' tk', Fr h₀ L h' m → News h₀ L h' ((D, { cls := .type "tuple", data := .seq #[.str (S "l") tn, .ref x, .int 33 tq] n }) :: (x, instObj 782 dx) :: (dx, dictOf [] 0) :: news) → (∀ q ∈ news, q.1 < dx) → @LT.lt Nat _ dx x → @LT.lt Nat _ x D → Q (.ref D) { s with heap := h', toks := tk' }) :
    wpAny (model prog w) (ktrTop dp un gd cn cs L a ccd cl outer) (call (.ref 1231) [.bytes R tR, .bytes R tV, .int 30 tp, .int 36 to, .ref 262]) Q E s := by
  have mk9 : Mk 23 := .mk
  refine wpAny_call ?_
  k_extra "my en"
  k_steps
  all_goals first | exact ret _ _ _ _ _ _ _ _ (by k_asm) (by (refine' News.sub ?dn ?ds; (case dn => with_reducible assumption); (case ds => ((repeat' first | with_reducible exact List.Sublist.refl _ | with_reducible refine' List.Sublist.cons_cons _ ?_ | refine' List.Sublist.cons _ ?_); done)))) (by first | assumption | exact lt_tl (by assumption) | exact allLt_all (And.right (by assumption))) (by assumption) (by first | assumption | exact And.left (by assumption) | exact And.left (And.right (by assumption))) | (exfalso; clear ret; omega)
end
end
section
section
variable {prog p : Program} {w : World} {loose : List Str} {mean : ExcName → Option Value} {mg mb : Str → Option Value} {dp un : Nat}
  {gd : Option (List Code)} {cn : Str} {cs : Scope} {a : Addr} {ccd : Value} {cl : List (Str × Addr)} {outer : List Env} {A₀ : Around} {base h₀ : Heap} {L : Addr} {m : Str → Option Value} {s : Shared} {Q E : Value → Shared → Prop}
  {news : List (Addr × Obj)}
  (B : Below A₀ base outer h₀) (F : Fr h₀ L s.heap m) (X : (K w.params).In h₀) (N : News h₀ L s.heap news)
  (T : Top p loose mean mg mb h₀) (hk : cs.kind = .function) (hd : dp + 180 < 1000) (hu : un + 1600 < 9900)
include B F X N T hk hd hu
theorem words_24 : True := by
  k_with "subscriptTail" => (with_reducible rename Mk 24 => mk9); k_extra "#4"
  k_with "subscriptTail" => (with_reducible rename Mk 24 => mk9); k_extra "#5"
  k_with "call ref" => (with_reducible rename Mk 24 => mk9); (k_here; (with_reducible show wpAny _ _ (call (Value.ref 1112) _) _ _ _); k_dflt (refine' cstrk (nm := S "g") ?hB ?hF ?hX ?hN ?hT ?hK ?hD ?hU ?h0 ?h1 ?h2 ?h3 ?h4 ?h5 ?h6 ?h7 ?h8 ?_; (case hB => k_asm); (case hF => k_asm); (case hX => k_asm); (case hN => k_asm); (case hT => k_asm); (case hK => first | exact rfl | assumption); (case hD => k_extra "my dp"); (case hU => k_extra "my dp"); (case h0 => decide); (case h1 => decide); (case h2 => with_reducible assumption); (case h3 => with_reducible assumption); (case h4 => exact rfl); (case h5 => decide); (case h7 => exact run_g); (case h6 => exact rfl); (case h8 => decide); k_whole; intro csDw9 csNw9 csT1w9 csT2w9 csHw9 csKw9 kFw9 kNw9 csLw9; (try k_sweep)))
  k_with "call ref" => (with_reducible rename Mk 24 => mk9); (k_here; (with_reducible show wpAny _ _ (call (Value.ref 1224) (Value.int 127 _ :: _)) _ _ _); k_dflt (refine' gel_g ?hB ?hF ?hX ?hN ?hT ?hK ?hD ?hU ?h0 ?h1 ?_; (case hB => k_asm); (case hF => k_asm); (case hX => k_asm); (case hN => k_asm); (case hT => k_asm); (case hK => first | exact rfl | assumption); (case hD => k_extra "my dp"); (case hU => k_extra "my dp"); (case h0 => with_reducible assumption); (case h1 => with_reducible assumption); k_whole; intro geDw9 geNw9 geXw9 geDxw9 geTqw9 geHw9 geKw9 kFw9 kNw9 geL1w9 geL2w9 geL3w9; (try k_sweep)))
  trivial
theorem etd_g {c0 c1 c2 c3 c4 c5 c6 c7 c8 c9 c10 c11 j0 j1 j2 j3 i0 i1 i2 i3 : Int} {R : Array UInt8} {tR tV : Tok} (hR : KBw.bInts R = [37, 0, 0, 0, 7, 105, 0, c0, c1, c2, c3, c4, c5, c6, c7, c8, c9, c10, c11, 17, 116, 0, j0, j1, j2, j3, i0, i1, i2, i3, 255, 108, 0, 127, 103, 0, 0]) (hz : R.size = 37) {tp to : Tok}  
    (ret : ∀ D n x dx  tn tq h' tk', Fr h₀ L h' m → News h₀ L h' ((D, { cls := .type "tuple", data := .seq #[.str (S "g") tn, .ref x, .int 36 tq] n }) :: (x, instObj 719 dx) :: (dx, dictOf [] 0) :: news) → (∀ q ∈ news, q.1 < dx) → @LT.lt Nat _ dx x → @LT.lt Nat _ x D → Q (.ref D) { s with heap := h', toks := tk' }) :
    wpAny (model prog w) (ktrTop dp un gd cn cs L a ccd cl outer) (call (.ref 1231) [.bytes R tR, .bytes R tV, .int 33 tp, .int 36 to, .ref 262]) Q E s := by
  have mk9 : Mk 24 := .mk
  refine wpAny_call ?_
  k_extra "my en"
  k_steps
  all_goals first | exact ret _ _ _ _ _ _ _ _ (by k_asm) (by (refine' News.sub ?dn ?ds; (case dn => with_reducible assumption); (case ds => ((repeat' first | with_reducible exact List.Sublist.refl _ | with_reducible refine' List.Sublist.cons_cons _ ?_ | refine' List.Sublist.cons _ ?_); done)))) (by first | assumption | exact lt_tl (by assumption) | exact allLt_all (And.right (by assumption))) (by assumption) (by first | assumption | exact And.left (by assumption) | exact And.left (And.right (by assumption))) | (exfalso; clear ret; omega)
end
end
section
section
variable {prog p : Program} {w : World} {loose : List Str} {mean : ExcName → Option Value} {mg mb : Str → Option Value} {dp un : Nat}
  {gd : Option (List Code)} {cn : Str} {cs : Scope} {a : Addr} {ccd : Value} {cl : List (Str × Addr)} {outer : List Env} {A₀ : Around} {base h₀ : Heap} {L : Addr} {m : Str → Option Value} {s : Shared} {Q E : Value → Shared → Prop}
  {news : List (Addr × Obj)}
  (B : Below A₀ base outer h₀) (F : Fr h₀ L s.heap m) (X : (K w.params).In h₀) (N : News h₀ L s.heap news)
  (T : Top p loose mean mg mb h₀) (hk : cs.kind = .function) (hd : dp + 210 < 1000) (hu : un + 2000 < 9900)
include B F X N T hk hd hu
theorem words_25 : True := by
  k_with "subscriptTail" => (with_reducible rename Mk 25 => mk9); k_extra "#4"
  k_with "subscriptTail" => (with_reducible rename Mk 25 => mk9); k_extra "#5"
  k_with "call ref" => (with_reducible rename Mk 25 => mk9); (k_here; (with_reducible show wpAny _ _ (call (Value.ref 1231) _) _ _ _); k_dflt (show wpAny _ _ (call _ [_, _, Value.int 4 _, _, _]) _ _ _); k_dflt (refine' etd_i ?hB ?hF ?hX ?hN ?hT ?hK ?hD ?hU ?h0 ?h1 ?h2 ?h3 ?_; (case hB => k_asm); (case hF => k_asm); (case hX => k_asm); (case hN => k_asm); (case hT => k_asm); (case hK => first | exact rfl | assumption); (case hD => k_extra "my dp"); (case hU => k_extra "my dp"); (case h0 => with_reducible assumption); (case h1 => with_reducible assumption); (case h2 => with_reducible assumption); (case h3 => with_reducible assumption); k_whole; intro eDw9 eNw9 eXw9 eDxw9 euuw9 eut1w9 eTnw9 eTqw9 eHw9 eKw9 kFw9 kNw9 eL1w9 eL2w9 eL3w9; (try k_lt eL1w9); (try k_lt2 eL2w9); (try k_lt2 eL3w9); (try k_sweep)))
  k_with "call ref" => (with_reducible rename Mk 25 => mk9); (k_here; (with_reducible show wpAny _ _ (call (Value.ref 1231) _) _ _ _); k_dflt (show wpAny _ _ (call _ [_, _, Value.int 19 _, _, _]) _ _ _); k_dflt (refine' etd_t ?hB ?hF ?hX ?hN ?hT ?hK ?hD ?hU ?h0 ?h1 ?h2 ?h3 ?h4 ?h5 ?h6 ?h7 ?_; (case hB => k_asm); (case hF => k_asm); (case hX => k_asm); (case hN => k_asm); (case hT => k_asm); (case hK => first | exact rfl | assumption); (case hD => k_extra "my dp"); (case hU => k_extra "my dp"); (case h0 => with_reducible assumption); (case h1 => with_reducible assumption); (case h2 => with_reducible assumption); (case h3 => with_reducible assumption); (case h4 => with_reducible assumption); (case h5 => with_reducible assumption); (case h6 => with_reducible assumption); (case h7 => with_reducible assumption); k_whole; intro eDw9 eNw9 eXw9 eDxw9 euu1w9 euu2w9 eut1w9 eut2w9 eTnw9 eTqw9 eHw9 eKw9 kFw9 kNw9 eL1w9 eL2w9 eL3w9; (try k_lt eL1w9); (try k_lt2 eL2w9); (try k_lt2 eL3w9); (try k_sweep)))
  k_with "call ref" => (with_reducible rename Mk 25 => mk9); (k_here; (with_reducible show wpAny _ _ (call (Value.ref 1231) _) _ _ _); k_dflt (show wpAny _ _ (call _ [_, _, Value.int 30 _, _, _]) _ _ _); k_dflt (refine' etd_l ?hB ?hF ?hX ?hN ?hT ?hK ?hD ?hU ?h0 ?h1 ?_; (case hB => k_asm); (case hF => k_asm); (case hX => k_asm); (case hN => k_asm); (case hT => k_asm); (case hK => first | exact rfl | assumption); (case hD => k_extra "my dp"); (case hU => k_extra "my dp"); (case h0 => with_reducible assumption); (case h1 => with_reducible assumption); k_whole; intro eDw9 eNw9 eXw9 eDxw9  eTn eTq eH eK kF kN eL1 eL2 eL3; (try k_lt eL1); (try k_lt2 eL2); (try k_lt2 eL3); (try k_sweep)))
  k_with "call ref" => (with_reducible rename Mk 25 => mk9); (k_here; (with_reducible show wpAny _ _ (call (Value.ref 1231) _) _ _ _); k_dflt (show wpAny _ _ (call _ [_, _, Value.int 33 _, _, _]) _ _ _); k_dflt (refine' etd_g ?hB ?hF ?hX ?hN ?hT ?hK ?hD ?hU ?h0 ?h1 ?_; (case hB => k_asm); (case hF => k_asm); (case hX => k_asm); (case hN => k_asm); (case hT => k_asm); (case hK => first | exact rfl | assumption); (case hD => k_extra "my dp"); (case hU => k_extra "my dp"); (case h0 => with_reducible assumption); (case h1 => with_reducible assumption); k_whole; intro eDw9 eNw9 eXw9 eDxw9  eTn eTq eH eK kF kN eL1 eL2 eL3; (try k_lt eL1); (try k_lt2 eL2); (try k_lt2 eL3); (try k_sweep)))
  trivial
theorem elts {c0 c1 c2 c3 c4 c5 c6 c7 c8 c9 c10 c11 j0 j1 j2 j3 i0 i1 i2 i3 : Int} {R : Array UInt8} {tR tV : Tok} (hR : KBw.bInts R = [37, 0, 0, 0, 7, 105, 0, c0, c1, c2, c3, c4, c5, c6, c7, c8, c9, c10, c11, 17, 116, 0, j0, j1, j2, j3, i0, i1, i2, i3, 255, 108, 0, 127, 103, 0, 0]) (hz : R.size = 37) {B : Array UInt8} (hB : KBw.bInts B = [c0, c1, c2, c3, c4, c5, c6, c7, c8, c9, c10, c11]) (hB12 : B.size = 12) {i j : Int} (hj : j0 + 256 * j1 + 65536 * j2 + 16777216 * j3 = j) (hi : i0 + 256 * i1 + 65536 * i2 + 16777216 * i3 = i) (vi0 : 0 ≤ i) (vi1 : i < 4294967296) (vj0 : 0 ≤ j) (vj1 : j < 4294967296) {tp to : Tok}  
    (ret : ∀ D o xi di ui tb xt dt u1 u2 t1 t2 xl dl xg dg h' tk', Fr h₀ L h' m → News h₀ L h' ((xg, instObj 719 dg) :: (dg, dictOf [] 0) :: (xl, instObj 782 dl) :: (dl, dictOf [] 0) :: (xt, instObj 1024 dt) :: (dt, dictOf [dE w.params (S "_time") u1 (.int i t1), dE w.params (S "_inc") u2 (.int j t2)] 2) :: (xi, instObj 902 di) :: (di, dictOf [dE w.params (S "_id") ui (.bytes B tb)] 1) :: (D, o) :: news) → o.IsDictOf (PySem.strKind prog w) [(S "i", .ref xi), (S "t", .ref xt), (S "l", .ref xl), (S "g", .ref xg)] → (D == sysModules) = false → Q (.ref D) { s with heap := h', toks := tk' }) :
    wpAny (model prog w) (ktrTop dp un gd cn cs L a ccd cl outer) (call (.ref 1238) [.bytes R tR, .bytes R tV, .int 4 tp, .int 36 to, .ref 262]) Q E s := by
  have mk9 : Mk 25 := .mk
  refine wpAny_call ?_
  k_extra "my en"
  k_steps
  all_goals first | exact ret _ _ _ _ _ _ _ _ _ _ _ _ _ _ _ _ _ _ (by k_asm) (by (refine' News.sub ?dn ?ds; (case dn => with_reducible assumption); (case ds => ((repeat' first | with_reducible exact List.Sublist.refl _ | with_reducible refine' List.Sublist.cons_cons _ ?_ | refine' List.Sublist.cons _ ?_); done)))) (by first | with_reducible assumption | assumption) (by with_reducible assumption)
end
end
section
section
variable {prog p : Program} {w : World} {loose : List Str} {mean : ExcName → Option Value} {mg mb : Str → Option Value} {dp un : Nat}
  {gd : Option (List Code)} {cn : Str} {cs : Scope} {a : Addr} {ccd : Value} {cl : List (Str × Addr)} {outer : List Env} {A₀ : Around} {base h₀ : Heap} {L : Addr} {m : Str → Option Value} {s : Shared} {Q E : Value → Shared → Prop}
  {news : List (Addr × Obj)}
  (B : Below A₀ base outer h₀) (F : Fr h₀ L s.heap m) (X : (K w.params).In h₀) (N : News h₀ L s.heap news)
  (T : Top p loose mean mg mb h₀) (hk : cs.kind = .function) (hd : dp + 240 < 1000) (hu : un + 2400 < 9900)
include B F X N T hk hd hu
theorem words_26 : True := by
  k_with "call builtin:len" => (with_reducible rename Mk 26 => mk9); (k_here; (with_reducible show wpAny _ _ (call (Value.builtin "len") [Value.bytes _ _]) _ _ _); refine len_37 (by with_reducible assumption) ?_; intro lnTw9 lnKw9)
  k_with "call ref" => (with_reducible rename Mk 26 => mk9); (k_here; (with_reducible show wpAny _ _ (call (Value.ref 1126) _) _ _ _); k_dflt (refine' objsize (tV := (0 : Nat)) ?hB ?hF ?hX ?hN ?hT ?hK ?hD ?hU ?h0 ?h1 ?_; (case hB => k_asm); (case hF => k_asm); (case hX => k_asm); (case hN => k_asm); (case hT => k_asm); (case hK => first | exact rfl | assumption); (case hD => k_extra "my dp"); (case hU => k_extra "my dp"); (case h0 => with_reducible assumption); (case h1 => with_reducible assumption); k_whole; intro oDw9 oNw9 oT1w9 oT2w9 oHw9 oKw9 kFw9 kNw9; (try k_sweep)))
  k_with "call ref" => (with_reducible rename Mk 26 => mk9); (k_here; (with_reducible show wpAny _ _ (call (Value.ref 1238) _) _ _ _); k_dflt (refine' elts ?hB ?hF ?hX ?hN ?hT ?hK ?hD ?hU ?h0 ?h1 ?h2 ?h3 ?h4 ?h5 ?h6 ?h7 ?h8 ?h9 ?_; (case hB => k_asm); (case hF => k_asm); (case hX => k_asm); (case hN => k_asm); (case hT => k_asm); (case hK => first | exact rfl | assumption); (case hD => k_extra "my dp"); (case hU => k_extra "my dp"); (case h0 => with_reducible assumption); (case h1 => with_reducible assumption); (case h2 => with_reducible assumption); (case h3 => with_reducible assumption); (case h4 => with_reducible assumption); (case h5 => with_reducible assumption); (case h6 => with_reducible assumption); (case h7 => with_reducible assumption); (case h8 => with_reducible assumption); (case h9 => with_reducible assumption); k_whole; intro rDw9 rOw9 rXiw9 rDiw9 rUiw9 rTbw9 rXtw9 rDtw9 rU1w9 rU2w9 rT1w9 rT2w9 rXlw9 rDlw9 rXgw9 rDgw9 rHw9 rKw9 kFw9 kNw9 rIw9 rLow9; (try k_sweep)))
  trivial
theorem dec_doc {c0 c1 c2 c3 c4 c5 c6 c7 c8 c9 c10 c11 j0 j1 j2 j3 i0 i1 i2 i3 : Int} {R : Array UInt8} {tR : Tok} (hR : KBw.bInts R = [37, 0, 0, 0, 7, 105, 0, c0, c1, c2, c3, c4, c5, c6, c7, c8, c9, c10, c11, 17, 116, 0, j0, j1, j2, j3, i0, i1, i2, i3, 255, 108, 0, 127, 103, 0, 0]) (hz : R.size = 37) {B : Array UInt8} (hB : KBw.bInts B = [c0, c1, c2, c3, c4, c5, c6, c7, c8, c9, c10, c11]) (hB12 : B.size = 12) {i j : Int} (hj : j0 + 256 * j1 + 65536 * j2 + 16777216 * j3 = j) (hi : i0 + 256 * i1 + 65536 * i2 + 16777216 * i3 = i) (vi0 : 0 ≤ i) (vi1 : i < 4294967296) (vj0 : 0 ≤ j) (vj1 : j < 4294967296)  
    (ret : ∀ D o xi di ui tb xt dt u1 u2 t1 t2 xl dl xg dg h' tk', Fr h₀ L h' m → News h₀ L h' ((xg, instObj 719 dg) :: (dg, dictOf [] 0) :: (xl, instObj 782 dl) :: (dl, dictOf [] 0) :: (xt, instObj 1024 dt) :: (dt, dictOf [dE w.params (S "_time") u1 (.int i t1), dE w.params (S "_inc") u2 (.int j t2)] 2) :: (xi, instObj 902 di) :: (di, dictOf [dE w.params (S "_id") ui (.bytes B tb)] 1) :: (D, o) :: news) → o.IsDictOf (PySem.strKind prog w) [(S "i", .ref xi), (S "t", .ref xt), (S "l", .ref xl), (S "g", .ref xg)] → (D == sysModules) = false → Q (.ref D) { s with heap := h', toks := tk' }) :
    wpAny (model prog w) (ktrTop dp un gd cn cs L a ccd cl outer) (call (.ref 1462) [.bytes R tR]) Q E s := by
  have mk9 : Mk 26 := .mk
  refine wpAny_call ?_
  k_extra "my en"
  k_steps
  all_goals first | exact ret _ _ _ _ _ _ _ _ _ _ _ _ _ _ _ _ _ _ (by k_asm) (by (refine' News.sub ?dn ?ds; (case dn => with_reducible assumption); (case ds => ((repeat' first | with_reducible exact List.Sublist.refl _ | with_reducible refine' List.Sublist.cons_cons _ ?_ | refine' List.Sublist.cons _ ?_); done)))) (by first | with_reducible assumption | assumption) (by with_reducible assumption)
end
end
theorem words_c8 : True := by
  k_with "#10" => (k_here; refine Stop.go (by with_reducible assumption) ?_)
  trivial
local macro_rules | `(tactic| k_extra "#11") => `(tactic| (k_here; (with_reducible rename JIs _ _ => ji); k_dflt (refine' LCg.CompSrc.range ?hh ?F ?N ?hr ?hsm ?hn ?hsz ?h; (case hh => rfl); (case F => k_asm); (case N => k_asm); (case hr => assumption); (case' h => (intro g'; refine' comp_allJ ji ?hS ?j ?turn ?done; (case hS => trivial); (case j => exact .nil); (case' done => (clear ji; intro ys j)); (case' turn => (clear ji; intro i v I oI C oC D ys m₂ h tk E' hi j hP hC hx F' N' off ne; (obtain ⟨t, hvv⟩ := hP); subst hvv; (try simp only [LCg.Off3, and_true] at off))))); (case hsm => decide); (case hn => decide); (case hsz => decide))))
section
section
variable {w : World} {mean : ExcName → Option Value} {mg mb : Str → Option Value} {b : Heap} {m : Str → Option Value} {s : Shared} {qk : Flow → Shared → Prop} {ek : Value → Shared → Prop} {p : Program} {loose : List Str}
  {news : List (Addr × Obj)} {L : Addr} {ns : List Int} {vl : List Value} {nv : Nat} {o1 o2 o3 o4 : Obj} {ln : Addr}
theorem words_27 : True := by
  k_with "execs cons" => (with_reducible rename Mk 27 => mk9); k_extra "#10"
  k_with "call type:bytes" => (with_reducible rename Mk 27 => mk9); (k_here; refine' KBa.make_K ?F ?N ?hh ?hl ?hi ?hr ?hn ?h; (case F => k_asm); (case N => k_asm); (case hh => rfl); (case hi => assumption); (case hl => exact ⟨_, (by assumption : News _ _ _ _) _ (List.mem_cons_self ..) |>.1, rfl, _, rfl⟩); (case hr => exact octs_in _ _); (case hn => (rw [octs, List.length_map, List.length_range]; decide)); (case' h => intro h'w9 t'w9 k'w9 F'w9 N'w9 hinw9))
  k_with "CompSrc" => (with_reducible rename Mk 27 => mk9); k_extra "#11"
  k_with "subscriptTail" => (with_reducible rename Mk 27 => mk9); (k_here; ((with_reducible show wpAny _ _ (subscriptTail _ _ (Value.ref _) (Value.int (Int.fmod _ _) _)) _ _ _)); with_unfolding_all refine' item_anyK ?k1 ?k2 ?k3 ?k4 ?k5 ?k7 ?k6; (case k1 => exact news_list (by k_asm) (by k_mem)); (case k2 => assumption); (case k3 => exact Int.fmod_nonneg_of_pos _ (by clear mk9; omega)); (case k4 => exact Int.fmod_lt_of_pos _ (by clear mk9; omega)); (case k5 => exact Int.lt_trans (Int.fmod_lt_of_pos _ (by clear mk9; omega)) (by clear mk9; omega)); (case k6 => with_unfolding_all rfl); (case' k7 => intro ttw9))
  k_with "binaryOp Pow int int" => (with_reducible rename Mk 27 => mk9); (k_here; refine pow_seg (by assumption) (by assumption) ?_)
  k_with "binaryOp FloorDiv int int" => (with_reducible rename Mk 27 => mk9); (k_here; refine div_seg (by assumption) (by assumption) ?_)
  trivial
theorem seg1 (F : Fr b L s.heap m) (N : News b L s.heap [(L + 1 + 1 + 1 + 1, o4), (L + 1 + 1 + 1, o3), (L + 1 + 1, o2), (L + 1, o1), (ln, listO vl.toArray nv)]) (X : (K w.params).In b) (T : Top p loose mean mg mb b)
    (h1 : o1.data = .cell (some (.ref ln))) (h2 : o2.data = .cell none) (h3 : o3.data = .cell none) (h4 : o4.data = .cell none) (hv : IntsAre vl ns) (hn0 : 0 < ns.length) (hn1 : ns.length ≤ 20) (hj : JIs 12 fun i ys => IntsAre ys (octs ns i)) (hl : L + 1 + 1 + 1 + 1 < ln) 
    (next : ∀ t' h' tk' o2', o2'.data = .cell (some (.bytes (byteArr (octs ns 12)) t')) → Fr b L h' m → News b L h' [(L + 1 + 1 + 1 + 1, o4), (L + 1 + 1 + 1, o3), (L + 1 + 1, o2'), (L + 1, o1), (ln, listO vl.toArray nv)] → LawAt w L 2 qk ek { s with heap := h', toks := tk' }) : LawAt w L 1 qk ek s := by
  have mk9 : Mk 27 := .mk
  refine lawSeg 2 (by k_is) fun hstop => ?_
  dsimp only [List.drop] at hstop ⊢
  try k_extra "my fa"
  k_steps
  all_goals first
    | ((with_reducible show Fr _ _ _ _); assumption)
    | ((with_reducible show News _ _ _ _); assumption)
    | ((with_reducible show IntsAre _ _); exact octs_push (by assumption))
    | rfl
    | ((with_reducible show LawAt _ _ _ _ _ _); exact next _ _ _ _ (by assumption) (by k_asm) (by k_extra "my drop"))
end
end
section
section
variable {w : World} {news : List (Addr × Obj)} {mean : ExcName → Option Value} {mg mb : Str → Option Value} {b : Heap} {m : Str → Option Value} {s : Shared} {qk : Flow → Shared → Prop} {ek : Value → Shared → Prop} {p : Program} {loose : List Str}
  {L : Addr} {ns : List Int} {vl : List Value} {nv : Nat} {o1 o2 o3 o4 : Obj} {ln x1 x2 d1 d2 y1 y2 e1 e2 : Addr} {B C : Array UInt8} {t1 t2 t3 t4 t5 t6 t7 t8 u1 u2 u3 u4 u5 u6 : Tok} {dt : Addr} {ts : List Value} {is : List Int} {i0 i1 i2 i3 : Int} {k0 k1 k2 k3 q0 q1 q2 q3 : Tok} {ls : Addr}
  (X : (K w.params).In b) (T : Top p loose mean mg mb b)
include X T
theorem words_28 : True := by
  k_with "eval Name" => (with_reducible rename Mk 28 => mk9); (k_here; (with_reducible show wpAny _ _ (eval (Expr.Name _ _) _) _ _ _); name_kind "local"; refine' nL9 ?hk ?hv ?F ?_; (case F => k_asm); (case hv => (first | exact rfl | with_reducible assumption | (refine Eq.trans (if_neg (by decide)) ?_; first | exact rfl | with_reducible assumption))); (case hk => kernel_rfl); k_whole)
  k_with "call ref" => (with_reducible rename Mk 28 => mk9); (k_here; (with_reducible show wpAny _ _ (call (Value.ref 1483) _) _ _ _); (refine toKtr ?_); k_dflt (refine' stamp_bad ?hB ?hF ?hX ?hN ?hT ?hK ?hD ?hU ?hXB ?hTB ?h0 ?_; (case hB => k_asm); (case hF => k_asm); (case hX => k_asm); (case hN => k_asm); (case hT => k_asm); (case hXB => assumption); (case hTB => assumption); (case hK => first | exact rfl | assumption); (case hD => k_extra "my dp"); (case hU => k_extra "my dp"); (case h0 => omega); k_whole; intro t2w9 h2w9 tk2w9 kFw9 kNw9; (try k_sweep)))
  k_with "call ref" => (with_reducible rename Mk 28 => mk9); (k_here; (with_reducible show wpAny _ _ (call (Value.ref 1483) _) _ _ _); (refine toKtr ?_); k_dflt (refine' stamp_ok ?hB ?hF ?hX ?hN ?hT ?hK ?hD ?hU ?hXB ?hTB ?h0 ?h1 ?h2 ?h3 ?_; (case hB => k_asm); (case hF => k_asm); (case hX => k_asm); (case hN => k_asm); (case hT => k_asm); (case hXB => assumption); (case hTB => assumption); (case hK => first | exact rfl | assumption); (case hD => k_extra "my dp"); (case hU => k_extra "my dp"); (case h0 => assumption); (case h1 => assumption); (case h2 => assumption); (case h3 => assumption); k_whole; intro rw9 nw9 h2w9 tk2w9 kFw9 kNw9; (try k_sweep)))
  k_with "execs nil" => (with_reducible rename Mk 28 => mk9); (k_here; refine wpAny_execs_nil ?_)
  k_with "ite" => (with_reducible rename Mk 28 => mk9); (k_here; first | (refine ite_t ?h ?_; (case h => (simp only [beq_iff_eq, decide_eq_true_eq, show (2 : Int) ^ Int.toNat 32 = 4294967296 from by decide]; omega))) | (refine ite_f ?h ?_; (case h => (simp only [beq_iff_eq, decide_eq_true_eq, show (2 : Int) ^ Int.toNat 32 = 4294967296 from by decide]; omega))))
  trivial
theorem turn16 (F : Fr b L s.heap m) (N : News b L s.heap news) {i j : Int} (mi : m "time" = some (.int i t1)) (mj : m "inc" = some (.int j t2))
    (next : ∀ h' tk', Fr b L h' m → News b L h' news → qk .next { s with heap := h', toks := tk' }) : TurnAt w L 16 qk ek s := by
  have mk9 : Mk 28 := .mk
  refine turnSeg (by k_is) ?_
  dsimp only [forBody, List.drop]
  have B₀ := below_caller b
  have pw : (2 : Int) ^ Int.toNat 32 = 4294967296 := by decide
  by_cases g1 : 0 ≤ i
  · by_cases g2 : i < 4294967296
    · by_cases g3 : 0 ≤ j
      · by_cases g4 : j < 4294967296
        · (k_steps; all_goals first
    | exact S ""
    | exact (0 : Nat)
    | exact Value.none
    | ((with_reducible show Env); exact envOf "" default 0 0 .none)
    | (exact next _ _ (by k_asm) (by k_extra "my nx"))
    | (exfalso; omega))
        · (k_steps; all_goals first
    | exact S ""
    | exact (0 : Nat)
    | exact Value.none
    | ((with_reducible show Env); exact envOf "" default 0 0 .none)
    | (exact next _ _ (by k_asm) (by k_extra "my nx"))
    | (exfalso; omega))
      · (k_steps; all_goals first
    | exact S ""
    | exact (0 : Nat)
    | exact Value.none
    | ((with_reducible show Env); exact envOf "" default 0 0 .none)
    | (exact next _ _ (by k_asm) (by k_extra "my nx"))
    | (exfalso; omega))
    · (k_steps; all_goals first
    | exact S ""
    | exact (0 : Nat)
    | exact Value.none
    | ((with_reducible show Env); exact envOf "" default 0 0 .none)
    | (exact next _ _ (by k_asm) (by k_extra "my nx"))
    | (exfalso; omega))
  · (k_steps; all_goals first
    | exact S ""
    | exact (0 : Nat)
    | exact Value.none
    | ((with_reducible show Env); exact envOf "" default 0 0 .none)
    | (exact next _ _ (by k_asm) (by k_extra "my nx"))
    | (exfalso; omega))
end
end
section
section
variable {w : World} {news : List (Addr × Obj)} {mean : ExcName → Option Value} {mg mb : Str → Option Value} {b : Heap} {m : Str → Option Value} {s : Shared} {qk : Flow → Shared → Prop} {ek : Value → Shared → Prop} {p : Program} {loose : List Str}
  {L : Addr} {ns : List Int} {vl : List Value} {nv : Nat} {o1 o2 o3 o4 : Obj} {ln x1 x2 d1 d2 y1 y2 e1 e2 : Addr} {B C : Array UInt8} {t1 t2 t3 t4 t5 t6 t7 t8 u1 u2 u3 u4 u5 u6 : Tok} {dt : Addr} {ts : List Value} {is : List Int} {i0 i1 i2 i3 : Int} {k0 k1 k2 k3 q0 q1 q2 q3 : Tok} {ls : Addr}
  (X : (K w.params).In b) (T : Top p loose mean mg mb b)
include X T
theorem words_29 : True := by
  k_with "eval Name" => (with_reducible rename Mk 29 => mk9); (k_here; (with_reducible show wpAny _ _ (eval (Expr.Name _ _) _) _ _ _); name_kind "local"; refine' nL9 ?hk ?hv ?F ?_; (case F => k_asm); (case hv => (first | exact rfl | with_reducible assumption | (refine Eq.trans (if_neg (by decide)) ?_; first | exact rfl | with_reducible assumption))); (case hk => kernel_rfl); k_whole)
  k_with "call ref" => (with_reducible rename Mk 29 => mk9); (k_here; (with_reducible show wpAny _ _ (call (Value.ref 1476) [Value.ref _, _]) _ _ _); (refine toKtr ?_); k_dflt (refine' ord_minF ?hB ?hF ?hX ?hN ?hT ?hK ?hD ?hU ?hXB ?hTB ?h0 ?h1 ?hV ?_; (case hB => k_asm); (case hF => k_asm); (case hX => k_asm); (case hN => k_asm); (case hT => k_asm); (case hXB => assumption); (case hTB => assumption); (case hK => first | exact rfl | assumption); (case hD => k_extra "my dp"); (case hU => k_extra "my dp"); (case h0 => k_mem); (case h1 => k_mem); (case hV => first | exact hm | exact IsV.tl (hm) | exact IsV.tl (IsV.tl (hm)) | exact IsV.tl (IsV.tl (IsV.tl (hm))) | exact IsV.tl (IsV.tl (IsV.tl (IsV.tl (hm)))) | exact IsV.tl (IsV.tl (IsV.tl (IsV.tl (IsV.tl (hm))))) | exact IsV.tl (IsV.tl (IsV.tl (IsV.tl (IsV.tl (IsV.tl (hm)))))) | exact IsV.tl (IsV.tl (IsV.tl (IsV.tl (IsV.tl (IsV.tl (IsV.tl (hm))))))) | exact IsV.tl (IsV.tl (IsV.tl (IsV.tl (IsV.tl (IsV.tl (IsV.tl (IsV.tl (hm))))))))); k_whole; intro rw9 nw9 h2w9 tk2w9 kFw9 kNw9; (try k_sweep)))
  k_with "call ref" => (with_reducible rename Mk 29 => mk9); (k_here; (with_reducible show wpAny _ _ (call (Value.ref 1476) [Value.ref _, _]) _ _ _); (refine toKtr ?_); k_dflt (refine' ord_maxF ?hB ?hF ?hX ?hN ?hT ?hK ?hD ?hU ?hXB ?hTB ?h0 ?h1 ?hV ?_; (case hB => k_asm); (case hF => k_asm); (case hX => k_asm); (case hN => k_asm); (case hT => k_asm); (case hXB => assumption); (case hTB => assumption); (case hK => first | exact rfl | assumption); (case hD => k_extra "my dp"); (case hU => k_extra "my dp"); (case h0 => k_mem); (case h1 => k_mem); (case hV => first | exact hx | exact IsV.tl (hx) | exact IsV.tl (IsV.tl (hx)) | exact IsV.tl (IsV.tl (IsV.tl (hx))) | exact IsV.tl (IsV.tl (IsV.tl (IsV.tl (hx)))) | exact IsV.tl (IsV.tl (IsV.tl (IsV.tl (IsV.tl (hx))))) | exact IsV.tl (IsV.tl (IsV.tl (IsV.tl (IsV.tl (IsV.tl (hx)))))) | exact IsV.tl (IsV.tl (IsV.tl (IsV.tl (IsV.tl (IsV.tl (IsV.tl (hx))))))) | exact IsV.tl (IsV.tl (IsV.tl (IsV.tl (IsV.tl (IsV.tl (IsV.tl (IsV.tl (hx))))))))); k_whole; intro rw9 nw9 h2w9 tk2w9 kFw9 kNw9; (try k_sweep)))
  trivial
theorem turn21 (F : Fr b L s.heap m) (N : News b L s.heap news) {oc : Obj} {v tb1 tb2 : Value} (hmc : (L + 1 + 1 + 1 + 1, oc) ∈ news) (hcd : oc.data = .cell (some v)) (hm : IsV PySem.Challenge.rw_an0026_01.row.prog w news v 782 false tb1) (hx : IsV PySem.Challenge.rw_an0026_01.row.prog w news v 719 false tb2)
    (next : ∀ h' tk', Fr b L h' m → News b L h' news → qk .next { s with heap := h', toks := tk' }) : TurnAt w L 21 qk ek s := by
  have mk9 : Mk 29 := .mk
  refine turnSeg (by k_is) ?_
  dsimp only [forBody, List.drop]
  have B₀ := below_caller b
  (k_steps; all_goals first
    | exact S ""
    | exact (0 : Nat)
    | exact Value.none
    | ((with_reducible show Env); exact envOf "" default 0 0 .none)
    | (exact next _ _ (by k_asm) (by k_extra "my nx")))
theorem turn21_int (F : Fr b L s.heap m) (N : News b L s.heap news) {oc : Obj} (hmc : (L + 1 + 1 + 1 + 1, oc) ∈ news) (hcd : oc.data = .cell (some (.int 5 t1)))
    (next : ∀ h' tk', Fr b L h' m → News b L h' news → qk .next { s with heap := h', toks := tk' }) : TurnAt w L 21 qk ek s :=
  turn21 X T F N hmc hcd ⟨fun F X _ q => isi_int F X (by decide +kernel) rfl q, fun _ => Looks.of_pure rfl, by k_is⟩ ⟨fun F X _ q => isi_int F X (by decide +kernel) rfl q, fun _ => Looks.of_pure rfl, by k_is⟩ next
theorem turn21_str (F : Fr b L s.heap m) (N : News b L s.heap news) {oc : Obj} (hmc : (L + 1 + 1 + 1 + 1, oc) ∈ news) (hcd : oc.data = .cell (some (.str (S "a") t1)))
    (next : ∀ h' tk', Fr b L h' m → News b L h' news → qk .next { s with heap := h', toks := tk' }) : TurnAt w L 21 qk ek s :=
  turn21 X T F N hmc hcd ⟨fun F X _ q => isi_str F X (by decide +kernel) rfl q, fun _ => Looks.of_pure rfl, by k_is⟩ ⟨fun F X _ q => isi_str F X (by decide +kernel) rfl q, fun _ => Looks.of_pure rfl, by k_is⟩ next
theorem turn21_none (F : Fr b L s.heap m) (N : News b L s.heap news) {oc : Obj} (hmc : (L + 1 + 1 + 1 + 1, oc) ∈ news) (hcd : oc.data = .cell (some (.none)))
    (next : ∀ h' tk', Fr b L h' m → News b L h' news → qk .next { s with heap := h', toks := tk' }) : TurnAt w L 21 qk ek s :=
  turn21 X T F N hmc hcd ⟨fun F X _ q => isi_none F X (by decide +kernel) rfl q, fun _ => Looks.of_pure rfl, by k_is⟩ ⟨fun F X _ q => isi_none F X (by decide +kernel) rfl q, fun _ => Looks.of_pure rfl, by k_is⟩ next
theorem turn21_oid (F : Fr b L s.heap m) (N : News b L s.heap news) {oc : Obj} (hmc : (L + 1 + 1 + 1 + 1, oc) ∈ news) (hcd : oc.data = .cell (some (.ref x1))) (hmx : (x1, instObj 902 d1) ∈ news) (hmd : (d1, dictOf [dE w.params (S "_id") u1 (.bytes B t1)] 1) ∈ news)
    (next : ∀ h' tk', Fr b L h' m → News b L h' news → qk .next { s with heap := h', toks := tk' }) : TurnAt w L 21 qk ek s :=
  turn21 X T F N hmc hcd ⟨fun F X N q => isi_own F X N hmx hmd (by decide +kernel) rfl q, fun N => InstAt.type (InstAt.of_news N hmx hmd), by k_is⟩ ⟨fun F X N q => isi_own F X N hmx hmd (by decide +kernel) rfl q, fun N => InstAt.type (InstAt.of_news N hmx hmd), by k_is⟩ next
end
end
theorem words_c9 : True := by
  k_with "#12" => (k_here; refine' nL9 ?hk ?hv ?F ?_; (case F => k_asm); (case hv => (first | exact rfl | with_reducible assumption | (refine Eq.trans (if_neg (by decide)) ?_; first | exact rfl | with_reducible assumption))); (case hk => kernel_rfl); k_whole)
  trivial
section
variable {w : World} {mean : ExcName → Option Value} {mg mb m : Str → Option Value} {b : Heap} {s : Shared} {qk : Flow → Shared → Prop} {ek : Value → Shared → Prop} {p : Program} {loose : List Str} {L ln x1 x2 d1 d2 y1 y2 e1 e2 dt ls rd xi di xt dtt xl dl xg dg : Addr} {ns is : List Int} {vl ts : List Value} {nv : Nat} {o1 o2 o3 o4 ro : Obj} {B C R : Array UInt8} {t1 t2 t3 t4 t5 t6 t7 t8 u1 u2 u3 u4 u5 u6 k0 k1 k2 k3 q0 q1 q2 q3 ui v1 v2 tb w1 w2 : Tok} {i0 i1 i2 i3 c0 c1 c2 c3 c4 c5 c6 c7 c8 c9 c10 c11 j0 j1 j2 j3 n0 n1 n2 n3 : Int}
  (X : (K w.params).In b) (T : Top p loose mean mg mb b)
include X T
section
section
theorem words_30 : True := by
  k_with "eval Name" => (with_reducible rename Mk 30 => mk9); k_extra "#0"
  k_with "execs cons" => (with_reducible rename Mk 30 => mk9); k_extra "#10"
  trivial
theorem l0 (F : Fr b L s.heap m) (N : News b L s.heap [(L + 1 + 1 + 1 + 1, o4), (L + 1 + 1 + 1, o3), (L + 1 + 1, o2), (L + 1, o1)]) (c1 : o1.data = .cell none) (hl : b.IsList ln vl.toArray) (hi : IntsAre vl ns) (msc : m "script" = some (.ref ln)) (h63 : ns.length ≤ 63)
    (next : ∀ ln vl nv ns o1' h' tk', Fr b L h' m → o1'.data = .cell (some (.ref ln)) → News b L h' [(L + 1 + 1 + 1 + 1, o4), (L + 1 + 1 + 1, o3), (L + 1 + 1, o2), (L + 1, o1'), (ln, listO vl.toArray nv)] → IntsAre vl ns → 0 < ns.length → ns.length ≤ 20 → @LT.lt Nat _ (L + 1 + 1 + 1 + 1) ln → LawAt w L 1 qk ek { s with heap := h', toks := tk' }) : LawAt w L 0 qk ek s := by
  have mk9 : Mk 30 := .mk
  refine lawSeg 1 (by k_is) fun hstop => ?_
  dsimp only [List.drop] at hstop ⊢
  try k_extra "my fa"
  have B₀ := below_caller b
  k_steps
  all_goals first
    | exact S ""
    | exact (0 : Nat)
    | exact Value.none
    | ((with_reducible show LawAt _ _ _ _ _ _); exact next _ _ _ _ _ _ _ (by k_asm) (by assumption) (by k_extra "my drop") (by first | assumption | exact .cons _ _ (.cons _ _ .nil)) (by first | omega | decide) (by first | omega | decide) (by omega))
end
end
section
section
theorem words_31 : True := by
  k_with "eval Name" => (with_reducible rename Mk 31 => mk9); k_extra "#0"
  k_with "eval Name" => (with_reducible rename Mk 31 => mk9); (k_here; refine' nameX_L9 ?F ?hv ?h ?hk ?hx ?hd; (case F => k_asm); (case hv => (first | exact rfl | with_reducible assumption | (refine Eq.trans (if_neg (by decide)) ?_; first | exact rfl | with_reducible assumption))); (case hk => kernel_rfl); k_whole)
  k_with "execs cons" => (with_reducible rename Mk 31 => mk9); k_extra "#10"
  k_with "ite" => (with_reducible rename Mk 31 => mk9); (k_here; refine ite_i ?_ ?_ <;> intro hcw9)
  k_with "binaryOp Add bytes bytes" => (with_reducible rename Mk 31 => mk9); (k_here; refine KBy.add_bytes (by omega) ?_; intro adTw9 adKw9)
  k_with "subscriptTail" => (with_reducible rename Mk 31 => mk9); (k_here; ((with_reducible show wpAny _ _ (subscriptTail _ (Expr.Slice _ _ none _) (Value.bytes _ _) (Value.ref _)) _ _ _)); (with_reducible rename Fr _ _ _ _ => F'w9); (with_reducible rename News _ _ _ _ => N'w9); (refine KBc.slice_K (s := ⟨_, _, _, _, _⟩) F'w9 N'w9 rfl (by constructor) (by constructor) (bi_le (by omega)) ?_); intro _ _ _ _ _ kbcKw9; (replace kbcKw9 := slice_up (by first | exact Int.fmod_nonneg_of_pos _ (by decide) | exact Int.sub_nonneg_of_le (Int.le_of_lt (Int.fmod_lt_of_pos _ (by decide)))) kbcKw9))
  k_with "call type:bytes" => (with_reducible rename Mk 31 => mk9); (k_here; refine' KBa.make_K ?F ?N ?hh ?hl ?hi ?hr ?hn ?h; (case F => k_asm); (case N => k_asm); (case hh => rfl); (case hi => assumption); (case hl => exact ⟨_, (by assumption : News _ _ _ _) _ (List.mem_cons_self ..) |>.1, rfl, _, rfl⟩); (case hr => exact rep_in _); (case hn => exact rep_len _); (case' h => (intro h'w9 t'w9 k'w9 F'w9 N'w9 hinw9; have hszw9 := rep_size hinw9)))
  trivial
theorem l2 (F : Fr b L s.heap m) (N : News b L s.heap [(L + 1 + 1 + 1 + 1, o4), (L + 1 + 1 + 1, o3), (L + 1 + 1, o2), (L + 1, o1), (ln, listO vl.toArray nv)]) (hv : IntsAre vl ns) (hn0 : 0 < ns.length) (hn1 : ns.length ≤ 20) (c1 : o1.data = .cell (some (.ref ln))) (hl : @LT.lt Nat _ (L + 1 + 1 + 1 + 1) ln) (hB : B.size = 12) (c2 : o2.data = .cell (some (.bytes B t3)))
    (next : ∀ C t4 h' tk', Fr b L h' (fun y => if y = "two" then some (.bytes C t4) else m y) → News b L h' [(L + 1 + 1 + 1 + 1, o4), (L + 1 + 1 + 1, o3), (L + 1 + 1, o2), (L + 1, o1), (ln, listO vl.toArray nv)] → C.size = 12 → LawAt w L 3 qk ek { s with heap := h', toks := tk' }) : LawAt w L 2 qk ek s := by
  have mk9 : Mk 31 := .mk
  have M9 := allMN N
  dsimp only [AllM] at M9
  revert N next M9
  refine gen9L [(L + 1 + 1 + 1 + 1, o4), (L + 1 + 1 + 1, o3), (L + 1 + 1, o2), (L + 1, o1), (ln, listO vl.toArray nv)] fun news => ?_
  intro N next M9
  obtain ⟨q0, q1, q2, q3, q4⟩ := M9
  refine lawSeg 3 (by k_is) fun hstop => ?_
  dsimp only [List.drop] at hstop ⊢
  try k_extra "my fa"
  have B₀ := below_caller b
  k_steps
  all_goals first
    | exact S ""
    | exact (0 : Nat)
    | exact Value.none
    | ((with_reducible show LawAt _ _ _ _ _ _); exact next _ _ _ _ (by k_asm)  (by k_extra "my nx") (by first | assumption | exact two_size (by assumption) (by assumption) (by assumption) (by assumption)))
end
end
section
section
theorem words_32 : True := by
  k_with "eval Name" => (with_reducible rename Mk 32 => mk9); k_extra "#0"
  k_with "execs cons" => (with_reducible rename Mk 32 => mk9); k_extra "#10"
  k_with "ite" => (with_reducible rename Mk 32 => mk9); k_extra "#1"
  trivial
theorem l3 (F : Fr b L s.heap m) (N : News b L s.heap [(L + 1 + 1 + 1 + 1, o4), (L + 1 + 1 + 1, o3), (L + 1 + 1, o2), (L + 1, o1), (ln, listO vl.toArray nv)]) (hv : IntsAre vl ns) (hn0 : 0 < ns.length) (hn1 : ns.length ≤ 20) (c1 : o1.data = .cell (some (.ref ln))) (hl : @LT.lt Nat _ (L + 1 + 1 + 1 + 1) ln) (hB : B.size = 12) (c2 : o2.data = .cell (some (.bytes B t3))) (m3 : m "two" = some (.bytes C t4)) (hC : C.size = 12)
    (next : ∀ x1 d1 x2 d2 u1 u2 m' h' tk' t1 t2, Fr b L h' m' → m' "first" = some (.ref x1) → m' "second" = some (.ref x2) → m' "two" = some (.bytes C t4) →  News b L h' [(L + 1 + 1 + 1 + 1, o4), (L + 1 + 1 + 1, o3), (L + 1 + 1, o2), (L + 1, o1), (ln, listO vl.toArray nv), (x1, instObj 902 d1), (d1, dictOf [dE w.params (S "_id") u1 (.bytes B t1)] 1), (x2, instObj 902 d2), (d2, dictOf [dE w.params (S "_id") u2 (.bytes C t2)] 1)] → @LT.lt Nat _ ln d1 → @LT.lt Nat _ d1 x1 → @LT.lt Nat _ x1 d2 → @LT.lt Nat _ d2 x2 → LawAt w L 4 qk ek { s with heap := h', toks := tk' }) : LawAt w L 3 qk ek s := by
  have mk9 : Mk 32 := .mk
  refine lawSeg 4 (by k_is) fun hstop => ?_
  dsimp only [List.drop] at hstop ⊢
  try k_extra "my fa"
  have B₀ := below_caller b
  k_steps
  all_goals first
    | exact S ""
    | exact (0 : Nat)
    | exact Value.none
    | ((with_reducible show LawAt _ _ _ _ _ _); exact next _ _ _ _ _ _ _ _ _ _ _ (by k_asm) (by (first | exact rfl | assumption | (refine Eq.trans (if_neg (by decide)) ?_; first | exact rfl | assumption))) (by (first | exact rfl | assumption | (refine Eq.trans (if_neg (by decide)) ?_; first | exact rfl | assumption))) (by (first | exact rfl | assumption | (refine Eq.trans (if_neg (by decide)) ?_; first | exact rfl | assumption))) (by k_extra "my drop") (by omega) (by omega) (by omega) (by omega))
end
end
section
section
theorem words_33 : True := by
  k_with "eval Name" => (with_reducible rename Mk 33 => mk9); k_extra "#0"
  k_with "execs cons" => (with_reducible rename Mk 33 => mk9); k_extra "#10"
  k_with "eval ListComp" => (with_reducible rename Mk 33 => mk9); (k_here; (with_reducible rename JIs _ _ => jiw9); k_dflt (refine' comp_bytes ?c0 ?c1 ?c2 ?c3 ?c4 ?c5 ?_ ?c6; (case c0 => k_asm); (case c1 => with_unfolding_all rfl); (case c2 => decide); (case c3 => rfl); (case c4 => decide); (case c5 => rfl); (case c6 => (intro _; rfl))))
  k_with "Exists" => (with_reducible rename Mk 33 => mk9); (k_here; (with_reducible rename JIs _ _ => jiw9); refine' ⟨_, _, _, rfl, rfl, ?F, ?N, ?z, ?_⟩; (case F => k_asm); (case N => k_asm); (case z => (rw [sizeLine_eq]; omega)); intro g'w9; refine' comp_allJ jiw9 ?hS ?j ?turn ?done; (case hS => trivial); (case j => exact .nil); (case' done => (clear jiw9; intro ysw9 jw9)); (case' turn => (clear jiw9; intro iw9 vw9 Iw9 oIw9 Cw9 oCw9 Dw9 ysw9 m₂w9 hw9 tkw9 E'w9 hiw9 jw9 hPw9 hCw9 hxw9 F'w9 N'w9 offw9 new9; (obtain ⟨cw9, tw9, hccw9, hvvw9⟩ := hPw9); subst hvvw9; (try simp only [LCg.Off3, and_true] at offw9))))
  k_with "subscriptTail" => (with_reducible rename Mk 33 => mk9); (k_here; ((with_reducible show wpAny _ _ (subscriptTail _ _ (Value.str _ _) (Value.int (Int.fdiv _ _) _)) _ _ _)); (with_unfolding_all refine hex_div ?_); intro hlenw9)
  k_with "subscriptTail" => (with_reducible rename Mk 33 => mk9); (k_here; ((with_reducible show wpAny _ _ (subscriptTail _ _ (Value.str _ _) (Value.int (Int.fmod _ _) _)) _ _ _)); (with_unfolding_all refine hex_mod ?_); intro hlenw9)
  k_with "call builtin:str.join" => (with_reducible rename Mk 33 => mk9); (k_here; refine' join_list ?hl ?hi ?hok ?_; (case hl => exact news_list (by k_asm) (List.mem_cons_self ..)); (case hi => assumption); (case hok => exact hexl_ok (by omega)); intro jTw9 jKw9)
  trivial
theorem l4 (F : Fr b L s.heap m) (N : News b L s.heap [(L + 1 + 1 + 1 + 1, o4), (L + 1 + 1 + 1, o3), (L + 1 + 1, o2), (L + 1, o1), (ln, listO vl.toArray nv), (x1, instObj 902 d1), (d1, dictOf [dE w.params (S "_id") u1 (.bytes B t1)] 1), (x2, instObj 902 d2), (d2, dictOf [dE w.params (S "_id") u2 (.bytes C t2)] 1)]) (hv : IntsAre vl ns) (hn0 : 0 < ns.length) (hn1 : ns.length ≤ 20) (c1 : o1.data = .cell (some (.ref ln))) (hl : @LT.lt Nat _ (L + 1 + 1 + 1 + 1) ln) (hl1 : @LT.lt Nat _ ln d1) (hl2 : @LT.lt Nat _ d1 x1) (hl3 : @LT.lt Nat _ x1 d2) (hl4 : @LT.lt Nat _ d2 x2) (hB : B.size = 12) (c2 : o2.data = .cell (some (.bytes B t3))) (m1 : m "first" = some (.ref x1)) (m2 : m "second" = some (.ref x2)) (m3 : m "two" = some (.bytes C t4)) (hC : C.size = 12) (hj : JIs B.size fun i ys => StrsAre ys (hexl B i))
    (next : ∀ t' h' tk', Fr b L h' (fun y => if y = "text" then some (.str (Txt.join "" (hexl B B.size)) t') else m y) → News b L h' [(L + 1 + 1 + 1 + 1, o4), (L + 1 + 1 + 1, o3), (L + 1 + 1, o2), (L + 1, o1), (ln, listO vl.toArray nv), (x1, instObj 902 d1), (d1, dictOf [dE w.params (S "_id") u1 (.bytes B t1)] 1), (x2, instObj 902 d2), (d2, dictOf [dE w.params (S "_id") u2 (.bytes C t2)] 1)] → LawAt w L 5 qk ek { s with heap := h', toks := tk' }) : LawAt w L 4 qk ek s := by
  have mk9 : Mk 33 := .mk
  refine lawSeg 5 (by k_is) fun hstop => ?_
  dsimp only [List.drop] at hstop ⊢
  try k_extra "my fa"
  have B₀ := below_caller b
  k_steps
  all_goals first
    | exact S ""
    | exact (0 : Nat)
    | exact Value.none
    | ((with_reducible show Fr _ _ _ _); assumption)
    | ((with_reducible show News _ _ _ _); assumption)
    | ((with_reducible show StrsAre _ _); exact hexl_push (by assumption) (by assumption))
    | rfl
    | ((with_reducible show LawAt _ _ _ _ _ _); exact next _ _ _ (by k_asm)  (by k_extra "my nx") )
end
end
section
section
theorem words_34 : True := by
  k_with "eval Name" => (with_reducible rename Mk 34 => mk9); k_extra "#0"
  k_with "execs cons" => (with_reducible rename Mk 34 => mk9); k_extra "#10"
  k_with "eval ListComp" => (with_reducible rename Mk 34 => mk9); (k_here; (with_reducible rename JIs _ _ => jiw9); k_dflt (refine' comp_enum ?c0 ?c1 ?c2 ?c3 ?c4 ?c5 ?c6 ?c7 jiw9 ?_ ?c8; (case c0 => k_asm); (case c1 => with_unfolding_all rfl); (case c2 => decide); (case c3 => rfl); (case c4 => decide); (case c5 => rfl); (case c6 => rfl); (case c7 => decide); (case c8 => (intro _; rfl))))
  k_with "call type:enumerate" => (with_reducible rename Mk 34 => mk9); (k_here; k_dflt (refine' call_enumE ?F ?N ?_; (case F => k_asm); (case N => k_asm)); intro enEw9 enHw9 enCw9)
  k_with "Exists" => (with_reducible rename Mk 34 => mk9); (k_here; (with_reducible rename JIs _ _ => jiw9); (with_reducible rename ECond _ _ _ _ _ _ _ _ => ecw9); refine' ⟨_, _, _, _, rfl, rfl, ecw9, ?z, greatJ0, ?_⟩; (case z => exact le24 (by assumption)); intro g'w9; clear jiw9 ecw9; refine' ⟨?_, ?_⟩; focus (intro iw9 cw9 t₁w9 t₂w9 ew9 itw9 oew9 oiw9 Cw9 oCw9 Dw9 ysw9 m₂w9 hw9 tkw9 E'w9 hiw9 hjw9 hcw9 hCw9 haw9 hbw9 F'w9 N'w9 new9))
  k_with "forall" => (with_reducible rename Mk 34 => mk9); (k_here; intro ysw9 gjw9)
  k_with "call builtin:str.join" => (with_reducible rename Mk 34 => mk9); (k_here; (with_reducible rename GreatJ _ _ _ => gjw9); obtain ⟨glw9, g1w9, g2w9, g3w9⟩ := gjw9; refine' join_list ?hl ?hi ?hok ?_; (case hl => exact news_list (by k_asm) (List.mem_cons_self ..)); (case hi => exact g1w9); (case hok => exact great_ok (by assumption) g2w9 g3w9 (by assumption)); intro jTw9 jKw9)
  k_with "call builtin:str.upper" => (with_reducible rename Mk 34 => mk9); (k_here; k_dflt (show wpAny _ _ (call (Value.builtin "str.upper") [Value.str _ _]) _ _ _); refine SCL.upper ?z ?_; (case z => exact one_le); intro upTw9)
  trivial
theorem l5 (F : Fr b L s.heap m) (N : News b L s.heap [(L + 1 + 1 + 1 + 1, o4), (L + 1 + 1 + 1, o3), (L + 1 + 1, o2), (L + 1, o1), (ln, listO vl.toArray nv), (x1, instObj 902 d1), (d1, dictOf [dE w.params (S "_id") u1 (.bytes B t1)] 1), (x2, instObj 902 d2), (d2, dictOf [dE w.params (S "_id") u2 (.bytes C t2)] 1)]) (hv : IntsAre vl ns) (hn0 : 0 < ns.length) (hn1 : ns.length ≤ 20) (c1 : o1.data = .cell (some (.ref ln))) (hl : @LT.lt Nat _ (L + 1 + 1 + 1 + 1) ln) (hl1 : @LT.lt Nat _ ln d1) (hl2 : @LT.lt Nat _ d1 x1) (hl3 : @LT.lt Nat _ x1 d2) (hl4 : @LT.lt Nat _ d2 x2) (hB : B.size = 12) (c2 : o2.data = .cell (some (.bytes B t3))) (m1 : m "first" = some (.ref x1)) (m2 : m "second" = some (.ref x2)) (m3 : m "two" = some (.bytes C t4)) (hC : C.size = 12) {tx : Str} (mtx : m "text" = some (.str tx t5)) (hTx : HexOf B tx) (hLow : LowHex tx) (hj : JIs 24 (GreatJ tx)) (htl : tx.length = 24)
    (next : ∀ gr t' h' tk', Fr b L h' (fun y => if y = "great" then some (.str gr t') else m y) → News b L h' [(L + 1 + 1 + 1 + 1, o4), (L + 1 + 1 + 1, o3), (L + 1 + 1, o2), (L + 1, o1), (ln, listO vl.toArray nv), (x1, instObj 902 d1), (d1, dictOf [dE w.params (S "_id") u1 (.bytes B t1)] 1), (x2, instObj 902 d2), (d2, dictOf [dE w.params (S "_id") u2 (.bytes C t2)] 1)] → HexOf B gr → LawAt w L 6 qk ek { s with heap := h', toks := tk' }) : LawAt w L 5 qk ek s := by
  have mk9 : Mk 34 := .mk
  refine lawSeg 6 (by k_is) fun hstop => ?_
  dsimp only [List.drop] at hstop ⊢
  try k_extra "my fa"
  have B₀ := below_caller b
  k_steps
  all_goals first
    | exact S ""
    | exact (0 : Nat)
    | exact Value.none
    | ((with_reducible show Env); exact envOf "" default 0 0 .none)
    | ((with_reducible show Fr _ _ _ _); assumption)
    | ((with_reducible show News _ _ _ _); assumption)
    | ((with_reducible show GreatJ _ _ _); first | exact greatJ_push (by assumption) (great_low (by assumption) rfl) | exact greatJ_push (by assumption) (great_up (by assumption) rfl))
    | rfl
    | ((with_reducible show LawAt _ _ _ _ _ _); exact next _ _ _ _ (by k_asm)  (by k_extra "my nx") (by exact great_is (by assumption) (by assumption) (by omega) (by assumption)))
end
end
section
section
theorem words_35 : True := by
  k_with "eval Name" => (with_reducible rename Mk 35 => mk9); k_extra "#0"
  k_with "execs cons" => (with_reducible rename Mk 35 => mk9); k_extra "#10"
  k_with "eval ListComp" => (with_reducible rename Mk 35 => mk9); (k_here; (with_reducible rename JIs _ _ => jiw9); (with_reducible rename CMark => cmXw9); k_dflt (refine' comp_bytes ?c0 ?c1 ?c2 ?c3 ?c4 ?c5 ?_ ?c6; (case c0 => k_asm); (case c1 => with_unfolding_all rfl); (case c2 => decide); (case c3 => rfl); (case c4 => decide); (case c5 => rfl); (case c6 => (intro _; rfl))))
  k_with "Exists" => (with_reducible rename Mk 35 => mk9); (k_here; (with_reducible rename JIs _ _ => jiw9); (with_reducible rename CMark => cmXw9); clear cmXw9; refine' ⟨_, _, _, rfl, rfl, ?F, ?N, ?z, ?_⟩; (case F => k_asm); (case N => k_asm); (case z => (rw [sizeLine_eq]; omega)); intro g'w9; refine' comp_allJ jiw9 ?hS ?j ?turn ?done; (case hS => trivial); (case j => exact .nil); (case' done => (clear jiw9; intro ysw9 jw9)); (case' turn => (clear jiw9; intro iw9 vw9 Iw9 oIw9 Cw9 oCw9 Dw9 ysw9 m₂w9 hw9 tkw9 E'w9 hiw9 jw9 hPw9 hCw9 hxw9 F'w9 N'w9 offw9 new9; (obtain ⟨cw9, tw9, hccw9, hvvw9⟩ := hPw9); subst hvvw9; (try simp only [LCg.Off3, and_true] at offw9))))
  k_with "subscriptTail" => (with_reducible rename Mk 35 => mk9); (k_here; ((with_reducible show wpAny _ _ (subscriptTail _ _ (Value.str _ _) (Value.int (Int.fdiv _ _) _)) _ _ _)); (with_unfolding_all refine hex_div ?_); intro hlenw9)
  k_with "subscriptTail" => (with_reducible rename Mk 35 => mk9); (k_here; ((with_reducible show wpAny _ _ (subscriptTail _ _ (Value.str _ _) (Value.int (Int.fmod _ _) _)) _ _ _)); (with_unfolding_all refine hex_mod ?_); intro hlenw9)
  k_with "call builtin:str.join" => (with_reducible rename Mk 35 => mk9); (k_here; refine' join_list ?hl ?hi ?hok ?_; (case hl => exact news_list (by k_asm) (List.mem_cons_self ..)); (case hi => assumption); (case hok => exact hexl_ok (by omega)); intro jTw9 jKw9)
  k_with "CompSrc" => (with_reducible rename Mk 35 => mk9); k_extra "#11"
  k_with "subscriptTail" => (with_reducible rename Mk 35 => mk9); (k_here; ((with_reducible show wpAny _ _ (subscriptTail _ _ (Value.bytes _ _) (Value.int _ _)) _ _ _)); (with_unfolding_all refine KBw.item_K rfl (by rw [KBw.ints_length]; clear mk9; omega) (by clear mk9; omega) (by rw [KBw.ints_length]; clear mk9; omega) ?_); intro ixTw9 ixKw9 ix0w9 ix1w9)
  k_with "binaryOp LShift int int" => (with_reducible rename Mk 35 => mk9); (k_here; (with_unfolding_all refine lshift_int_small ?_ ?_ ?_ ?_); omega; omega; omega)
  k_with "subscriptTail" => (with_reducible rename Mk 35 => mk9); (k_here; ((with_reducible show wpAny _ _ (subscriptTail _ (Expr.Slice _ _ none _) (Value.bytes _ _) (Value.ref _)) _ _ _)); (with_reducible rename Fr _ _ _ _ => F'w9); (with_reducible rename News _ _ _ _ => N'w9); (refine KBc.slice_K (s := ⟨_, _, _, _, _⟩) F'w9 N'w9 rfl (by constructor) (by constructor) (bi_le (by omega)) ?_); intro _ _ _ _ _ kbcKw9)
  k_with "call ref" => (with_reducible rename Mk 35 => mk9); (k_here; (with_reducible show wpAny _ _ (call (Value.ref _) [Value.bytes _ _, Value.str _ _]) _ _ _); k_dflt (refine' KFB.call_big ?bN ?bM rfl ?bL ?_; (case bN => k_asm); (case bM => k_mem); (case bL => exact four_le (by assumption) (by assumption)); k_whole); intro fbTw9 fbKw9)
  k_with "binaryOp Mod str int" => (with_reducible rename Mk 35 => mk9); (k_here; refine' mod_hex ?hX ?h0 ?h1 ?_; (case hX => decide +kernel); (case h0 => exact Int.natCast_nonneg _); (case h1 => exact u8_lt _); intro hxTw9 hxKw9)
  k_with "compareOp NotEq ref ref" => (with_reducible rename Mk 35 => mk9); (k_here; k_dflt (refine' ne_same ?ha ?hb ?hu ?he ?_; (case ha => exact isl (by k_asm) (by k_mem) rfl rfl); (case hb => exact isl (by k_asm) (by k_mem) rfl rfl); (case hu => k_units); (case he => (repeat' first | exact AllSame.nil | refine' AllSame.cons ?_ ?_); all_goals first | (with_reducible exact PySem.SeqAt.EqAt.same _) | (with_reducible exact at_bytes rfl) | (with_reducible exact at_str rfl) | (with_reducible exact at_bool rfl) | (with_reducible exact at_int rfl) | (exact at_int (shs_sum (by assumption) (by assumption)))); k_whole))
  trivial
theorem l6 (F : Fr b L s.heap m) (N : News b L s.heap [(L + 1 + 1 + 1 + 1, o4), (L + 1 + 1 + 1, o3), (L + 1 + 1, o2), (L + 1, o1), (ln, listO vl.toArray nv), (x1, instObj 902 d1), (d1, dictOf [dE w.params (S "_id") u1 (.bytes B t1)] 1), (x2, instObj 902 d2), (d2, dictOf [dE w.params (S "_id") u2 (.bytes C t2)] 1)]) (hv : IntsAre vl ns) (hn0 : 0 < ns.length) (hn1 : ns.length ≤ 20) (c1 : o1.data = .cell (some (.ref ln))) (hl : @LT.lt Nat _ (L + 1 + 1 + 1 + 1) ln) (hl1 : @LT.lt Nat _ ln d1) (hl2 : @LT.lt Nat _ d1 x1) (hl3 : @LT.lt Nat _ x1 d2) (hl4 : @LT.lt Nat _ d2 x2) (hB : B.size = 12) (c2 : o2.data = .cell (some (.bytes B t3))) (m1 : m "first" = some (.ref x1)) (m2 : m "second" = some (.ref x2)) (m3 : m "two" = some (.bytes C t4)) (hC : C.size = 12) (mtx : m "text" = some (.str (Txt.join "" (hexl B B.size)) t5)) (hj2 : JIs 4 fun i ys => IntsAre ys (shs B i)) (hj : JIs B.size fun i ys => StrsAre ys (hexl B i)) (hcm : CMark)
    (next : ∀ h' tk', Fr b L h' m → News b L h' [(L + 1 + 1 + 1 + 1, o4), (L + 1 + 1 + 1, o3), (L + 1 + 1, o2), (L + 1, o1), (ln, listO vl.toArray nv), (x1, instObj 902 d1), (d1, dictOf [dE w.params (S "_id") u1 (.bytes B t1)] 1), (x2, instObj 902 d2), (d2, dictOf [dE w.params (S "_id") u2 (.bytes C t2)] 1)] → LawAt w L 7 qk ek { s with heap := h', toks := tk' }) : LawAt w L 6 qk ek s := by
  have mk9 : Mk 35 := .mk
  have M9 := allMN N
  dsimp only [AllM] at M9
  revert N next M9
  refine gen9L [(L + 1 + 1 + 1 + 1, o4), (L + 1 + 1 + 1, o3), (L + 1 + 1, o2), (L + 1, o1), (ln, listO vl.toArray nv), (x1, instObj 902 d1), (d1, dictOf [dE w.params (S "_id") u1 (.bytes B t1)] 1), (x2, instObj 902 d2), (d2, dictOf [dE w.params (S "_id") u2 (.bytes C t2)] 1)] fun news => ?_
  intro N next M9
  obtain ⟨q0, q1, q2, q3, q4, q5, q6, q7, q8⟩ := M9
  refine lawSeg 7 (by k_is) fun hstop => ?_
  dsimp only [List.drop] at hstop ⊢
  try k_extra "my fa"
  have B₀ := below_caller b
  k_steps
  all_goals first
    | exact S ""
    | exact (0 : Nat)
    | exact Value.none
    | ((with_reducible show Env); exact envOf "" default 0 0 .none)
    | ((with_reducible show Fr _ _ _ _); assumption)
    | ((with_reducible show News _ _ _ _); assumption)
    | ((with_reducible show StrsAre _ _); exact hexl_push (by assumption) (by assumption))
    | ((with_reducible show IntsAre _ _); exact shs_push (by assumption) rfl)
    | rfl
    | ((with_reducible show LawAt _ _ _ _ _ _); exact next _ _ (by k_asm)  (by first | assumption | exact (fun p hp => (by assumption : News _ _ _ _) p (List.mem_cons_of_mem _ (hp))) | exact (fun p hp => (by assumption : News _ _ _ _) p (List.mem_cons_of_mem _ (List.mem_cons_of_mem _ (hp)))) | exact (fun p hp => (by assumption : News _ _ _ _) p (List.mem_cons_of_mem _ (List.mem_cons_of_mem _ (List.mem_cons_of_mem _ (hp))))) | exact (fun p hp => (by assumption : News _ _ _ _) p (List.mem_cons_of_mem _ (List.mem_cons_of_mem _ (List.mem_cons_of_mem _ (List.mem_cons_of_mem _ (hp)))))) | exact (fun p hp => (by assumption : News _ _ _ _) p (List.mem_cons_of_mem _ (List.mem_cons_of_mem _ (List.mem_cons_of_mem _ (List.mem_cons_of_mem _ (List.mem_cons_of_mem _ (hp))))))) | exact (fun p hp => (by assumption : News _ _ _ _) p (List.mem_cons_of_mem _ (List.mem_cons_of_mem _ (List.mem_cons_of_mem _ (List.mem_cons_of_mem _ (List.mem_cons_of_mem _ (List.mem_cons_of_mem _ (hp)))))))) | exact (fun p hp => (by assumption : News _ _ _ _) p (List.mem_cons_of_mem _ (List.mem_cons_of_mem _ (List.mem_cons_of_mem _ (List.mem_cons_of_mem _ (List.mem_cons_of_mem _ (List.mem_cons_of_mem _ (List.mem_cons_of_mem _ (hp))))))))) | k_extra "my drop") )
end
end
section
section
theorem words_36 : True := by
  k_with "eval Name" => (with_reducible rename Mk 36 => mk9); k_extra "#0"
  k_with "execs cons" => (with_reducible rename Mk 36 => mk9); k_extra "#10"
  k_with "call ref" => (with_reducible rename Mk 36 => mk9); (k_here; (refine toKtr ?_); k_dflt (refine' made_tx ?hB ?hF ?hX ?hN ?hT ?hK ?hD ?hU ?hXB ?hTB ?h0 ?h1 ?h2 ?_; (case hB => k_asm); (case hF => k_asm); (case hX => k_asm); (case hN => k_asm); (case hT => k_asm); (case hXB => assumption); (case hTB => assumption); (case hK => first | exact rfl | assumption); (case hD => k_extra "my dp"); (case hU => k_extra "my dp"); (case h0 => first | (with_reducible_and_instances exact (cut_ok (by assumption)).1) | (with_reducible_and_instances exact (add_ok (by assumption)).1)); (case h1 => first | (with_reducible_and_instances exact (cut_ok (by assumption)).2.1) | (with_reducible_and_instances exact (add_ok (by assumption)).2.1)); (case h2 => first | (with_reducible_and_instances exact (cut_ok (by assumption)).2.2) | (with_reducible_and_instances exact (add_ok (by assumption)).2.2)); k_whole; intro t7w9 h2w9 tk2w9 kFw9 kNw9; (try k_sweep)))
  k_with "call ref" => (with_reducible rename Mk 36 => mk9); (k_here; (refine toKtr ?_); k_dflt (refine' made_hex ?hB ?hF ?hX ?hN ?hT ?hK ?hD ?hU ?hXB ?hTB ?h0 ?_; (case hB => k_asm); (case hF => k_asm); (case hX => k_asm); (case hN => k_asm); (case hT => k_asm); (case hXB => assumption); (case hTB => assumption); (case hK => first | exact rfl | assumption); (case hD => k_extra "my dp"); (case hU => k_extra "my dp"); (case h0 => assumption); k_whole; intro t7w9 h2w9 tk2w9 kFw9 kNw9; (try k_sweep)))
  k_with "call ref" => (with_reducible rename Mk 36 => mk9); (k_here; (refine toKtr ?_); k_dflt (refine' made_id ?hB ?hF ?hX ?hN ?hT ?hK ?hD ?hU ?hXB ?hTB ?h0 ?h1 ?_; (case hB => k_asm); (case hF => k_asm); (case hX => k_asm); (case hN => k_asm); (case hT => k_asm); (case hXB => assumption); (case hTB => assumption); (case hK => first | exact rfl | assumption); (case hD => k_extra "my dp"); (case hU => k_extra "my dp"); (case h0 => k_mem); (case h1 => k_mem); k_whole; intro h2w9 tk2w9 kFw9 kNw9; (try k_sweep)))
  k_with "call ref" => (with_reducible rename Mk 36 => mk9); (k_here; (refine toKtr ?_); k_dflt (refine' made_int ?hB ?hF ?hX ?hN ?hT ?hK ?hD ?hU ?hXB ?hTB  ?_; (case hB => k_asm); (case hF => k_asm); (case hX => k_asm); (case hN => k_asm); (case hT => k_asm); (case hXB => assumption); (case hTB => assumption); (case hK => first | exact rfl | assumption); (case hD => k_extra "my dp"); (case hU => k_extra "my dp"); k_whole; intro t7w9 h2w9 tk2w9 kFw9 kNw9; (try k_sweep)))
  k_with "compareOp NotEq ref ref" => (with_reducible rename Mk 36 => mk9); (k_here; k_dflt (refine' ne_same ?ha ?hb ?hu ?he ?_; (case ha => exact isl (by k_asm) (by k_mem) rfl rfl); (case hb => exact isl (by k_asm) (by k_mem) rfl rfl); (case hu => k_units); (case he => (repeat' first | exact AllSame.nil | refine' AllSame.cons ?_ ?_); all_goals first | (with_reducible exact PySem.SeqAt.EqAt.same _) | (with_reducible exact at_bytes rfl) | (with_reducible exact at_str rfl) | (with_reducible exact at_bool rfl) | (with_reducible exact at_int rfl) | fail); k_whole))
  trivial
theorem l7 (F : Fr b L s.heap m) (N : News b L s.heap [(L + 1 + 1 + 1 + 1, o4), (L + 1 + 1 + 1, o3), (L + 1 + 1, o2), (L + 1, o1), (ln, listO vl.toArray nv), (x1, instObj 902 d1), (d1, dictOf [dE w.params (S "_id") u1 (.bytes B t1)] 1), (x2, instObj 902 d2), (d2, dictOf [dE w.params (S "_id") u2 (.bytes C t2)] 1)]) (hv : IntsAre vl ns) (hn0 : 0 < ns.length) (hn1 : ns.length ≤ 20) (c1 : o1.data = .cell (some (.ref ln))) (hl : @LT.lt Nat _ (L + 1 + 1 + 1 + 1) ln) (hl1 : @LT.lt Nat _ ln d1) (hl2 : @LT.lt Nat _ d1 x1) (hl3 : @LT.lt Nat _ x1 d2) (hl4 : @LT.lt Nat _ d2 x2) (hB : B.size = 12) (c2 : o2.data = .cell (some (.bytes B t3))) (m1 : m "first" = some (.ref x1)) (m2 : m "second" = some (.ref x2)) (m3 : m "two" = some (.bytes C t4)) (hC : C.size = 12) {tx gr : Str} (mtx : m "text" = some (.str tx t5)) (mgr : m "great" = some (.str gr t6)) (hTx : HexOf B tx) (hGr : HexOf B gr)
    (next : ∀ h' tk', Fr b L h' m → News b L h' [(L + 1 + 1 + 1 + 1, o4), (L + 1 + 1 + 1, o3), (L + 1 + 1, o2), (L + 1, o1), (ln, listO vl.toArray nv), (x1, instObj 902 d1), (d1, dictOf [dE w.params (S "_id") u1 (.bytes B t1)] 1), (x2, instObj 902 d2), (d2, dictOf [dE w.params (S "_id") u2 (.bytes C t2)] 1)] → LawAt w L 8 qk ek { s with heap := h', toks := tk' }) : LawAt w L 7 qk ek s := by
  have mk9 : Mk 36 := .mk
  have M9 := allMN N
  dsimp only [AllM] at M9
  revert N next M9
  refine gen9L [(L + 1 + 1 + 1 + 1, o4), (L + 1 + 1 + 1, o3), (L + 1 + 1, o2), (L + 1, o1), (ln, listO vl.toArray nv), (x1, instObj 902 d1), (d1, dictOf [dE w.params (S "_id") u1 (.bytes B t1)] 1), (x2, instObj 902 d2), (d2, dictOf [dE w.params (S "_id") u2 (.bytes C t2)] 1)] fun news => ?_
  intro N next M9
  obtain ⟨q0, q1, q2, q3, q4, q5, q6, q7, q8⟩ := M9
  refine lawSeg 8 (by k_is) fun hstop => ?_
  dsimp only [List.drop] at hstop ⊢
  try k_extra "my fa"
  have B₀ := below_caller b
  have lTx := hTx.len
  k_steps
  all_goals first
    | exact S ""
    | exact (0 : Nat)
    | exact Value.none
    | ((with_reducible show LawAt _ _ _ _ _ _); exact next _ _ (by k_asm)  (by k_extra "my nx") )
end
end
section
section
theorem words_37 : True := by
  k_with "eval Name" => (with_reducible rename Mk 37 => mk9); k_extra "#0"
  k_with "execs cons" => (with_reducible rename Mk 37 => mk9); k_extra "#10"
  k_with "call ref" => (with_reducible rename Mk 37 => mk9); (k_here; (refine toKtr ?_); k_dflt (refine' orders_ids ?hB ?hF ?hX ?hN ?hT ?hK ?hD ?hU ?h0 ?h1 ?h2 ?h3 ?_; (case hB => k_asm); (case hF => k_asm); (case hX => k_asm); (case hN => k_asm); (case hT => k_asm); (case hK => first | exact rfl | assumption); (case hD => k_extra "my dp"); (case hU => k_extra "my dp"); (case h0 => k_mem); (case h1 => k_mem); (case h2 => k_mem); (case h3 => k_mem); k_whole; intro rw9 nw9 h2w9 tk2w9 kFw9 kNw9; (try k_sweep)))
  k_with "call ref" => (with_reducible rename Mk 37 => mk9); (k_here; (refine toKtr ?_); k_dflt (refine' orders_bytes ?hB ?hF ?hX ?hN ?hT ?hK ?hD ?hU  ?_; (case hB => k_asm); (case hF => k_asm); (case hX => k_asm); (case hN => k_asm); (case hT => k_asm); (case hK => first | exact rfl | assumption); (case hD => k_extra "my dp"); (case hU => k_extra "my dp"); k_whole; intro rw9 nw9 h2w9 tk2w9 kFw9 kNw9; (try k_sweep)))
  trivial
theorem l8 (F : Fr b L s.heap m) (N : News b L s.heap [(L + 1 + 1 + 1 + 1, o4), (L + 1 + 1 + 1, o3), (L + 1 + 1, o2), (L + 1, o1), (ln, listO vl.toArray nv), (x1, instObj 902 d1), (d1, dictOf [dE w.params (S "_id") u1 (.bytes B t1)] 1), (x2, instObj 902 d2), (d2, dictOf [dE w.params (S "_id") u2 (.bytes C t2)] 1)]) (hv : IntsAre vl ns) (hn0 : 0 < ns.length) (hn1 : ns.length ≤ 20) (c1 : o1.data = .cell (some (.ref ln))) (hl : L + 1 + 1 + 1 + 1 < ln) (hl1 : ln < d1) (hl2 : d1 < x1) (hl3 : x1 < d2) (hl4 : d2 < x2) (hB : B.size = 12) (c2 : o2.data = .cell (some (.bytes B t3))) (m1 : m "first" = some (.ref x1)) (m2 : m "second" = some (.ref x2)) (m3 : m "two" = some (.bytes C t4)) (hC : C.size = 12)
    (next : ∀ h' tk', Fr b L h' m → News b L h' [(L + 1 + 1 + 1 + 1, o4), (L + 1 + 1 + 1, o3), (L + 1 + 1, o2), (L + 1, o1), (ln, listO vl.toArray nv), (x1, instObj 902 d1), (d1, dictOf [dE w.params (S "_id") u1 (.bytes B t1)] 1), (x2, instObj 902 d2), (d2, dictOf [dE w.params (S "_id") u2 (.bytes C t2)] 1)] → LawAt w L 9 qk ek { s with heap := h', toks := tk' }) : LawAt w L 8 qk ek s := by
  have mk9 : Mk 37 := .mk
  refine lawSeg 9 (by k_is) fun hstop => ?_
  dsimp only [List.drop] at hstop ⊢
  try k_extra "my fa"
  have B₀ := below_caller b
  k_steps
  all_goals first
    | exact S ""
    | exact (0 : Nat)
    | exact Value.none
    | ((with_reducible show LawAt _ _ _ _ _ _); exact next _ _  (by k_asm) (by k_extra "my drop"))
end
end
section
section
theorem words_38 : True := by
  k_with "eval Name" => (with_reducible rename Mk 38 => mk9); k_extra "#0"
  k_with "eval Name" => (with_reducible rename Mk 38 => mk9); (k_here; k_dflt (refine' ld ?k1 ?k2 ?_; (case k1 => k_asm); (case k2 => (first | exact rfl | with_reducible assumption | (refine Eq.trans (if_neg (by decide)) ?_; first | exact rfl | with_reducible assumption))); k_whole))
  k_with "execs cons" => (with_reducible rename Mk 38 => mk9); k_extra "#10"
  trivial
theorem l9 (F : Fr b L s.heap m) (N : News b L s.heap [(L + 1 + 1 + 1 + 1, o4), (L + 1 + 1 + 1, o3), (L + 1 + 1, o2), (L + 1, o1), (ln, listO vl.toArray nv), (x1, instObj 902 d1), (d1, dictOf [dE w.params (S "_id") u1 (.bytes B t1)] 1), (x2, instObj 902 d2), (d2, dictOf [dE w.params (S "_id") u2 (.bytes C t2)] 1)]) (hv : IntsAre vl ns) (hn0 : 0 < ns.length) (hn1 : ns.length ≤ 20) (c1 : o1.data = .cell (some (.ref ln))) (hl : @LT.lt Nat _ (L + 1 + 1 + 1 + 1) ln) (hl1 : @LT.lt Nat _ ln d1) (hl2 : @LT.lt Nat _ d1 x1) (hl3 : @LT.lt Nat _ x1 d2) (hl4 : @LT.lt Nat _ d2 x2) (hB : B.size = 12) (c2 : o2.data = .cell (some (.bytes B t3))) (m1 : m "first" = some (.ref x1)) (m2 : m "second" = some (.ref x2)) (m3 : m "two" = some (.bytes C t4)) (hC : C.size = 12) (c3 : o3.data = .cell none) (c4 : o4.data = .cell none)
    (next : ∀ o3' h' tk' t', o3'.data = .cell (some (.str (S "0123456789abcdefABCDEF g-١") t')) → Fr b L h' m → News b L h' [(L + 1 + 1 + 1 + 1, o4), (L + 1 + 1 + 1, o3'), (L + 1 + 1, o2), (L + 1, o1), (ln, listO vl.toArray nv), (x1, instObj 902 d1), (d1, dictOf [dE w.params (S "_id") u1 (.bytes B t1)] 1), (x2, instObj 902 d2), (d2, dictOf [dE w.params (S "_id") u2 (.bytes C t2)] 1)] → LawAt w L 10 qk ek { s with heap := h', toks := tk' }) : LawAt w L 9 qk ek s := by
  have mk9 : Mk 38 := .mk
  refine lawSeg 10 (by k_is) fun hstop => ?_
  dsimp only [List.drop] at hstop ⊢
  try k_extra "my fa"
  have B₀ := below_caller b
  k_steps
  all_goals first
    | exact S ""
    | exact (0 : Nat)
    | exact Value.none
    | ((with_reducible show LawAt _ _ _ _ _ _); exact next _ _ _ _ (by assumption) (by k_asm) (by k_extra "my drop"))
end
end
section
section
theorem words_39 : True := by
  k_with "eval Name" => (with_reducible rename Mk 39 => mk9); k_extra "#0"
  k_with "execs cons" => (with_reducible rename Mk 39 => mk9); k_extra "#10"
  k_with "CompSrc" => (with_reducible rename Mk 39 => mk9); (k_here; (with_reducible rename JIs _ _ => jiw9); k_dflt (refine' LCg.CompSrc.range ?hh ?F ?N ?hr ?hsm ?hn ?hsz ?h; (case hh => rfl); (case F => k_asm); (case N => k_asm); (case hr => assumption); (case' h => (intro g'w9; refine' comp_allJ jiw9 ?hS ?j ?turn ?done; (case hS => trivial); (case j => exact othJ0); (case' done => (clear jiw9; intro ysw9 jw9)); (case' turn => (clear jiw9; intro iw9 vw9 Iw9 oIw9 Cw9 oCw9 Dw9 ysw9 m₂w9 hw9 tkw9 E'w9 hiw9 jw9 hPw9 hCw9 hxw9 F'w9 N'w9 offw9 new9; (obtain ⟨tw9, hvvw9⟩ := hPw9); subst hvvw9; (try simp only [LCg.Off3, and_true] at offw9))))); (case hsm => exact (rng5 (Int.fmod_nonneg_of_pos _ (by decide)) (Int.fmod_lt_of_pos _ (by decide))).1); (case hn => exact (rng5 (Int.fmod_nonneg_of_pos _ (by decide)) (Int.fmod_lt_of_pos _ (by decide))).2.1); (case hsz => exact (rng5 (Int.fmod_nonneg_of_pos _ (by decide)) (Int.fmod_lt_of_pos _ (by decide))).2.2)))
  k_with "call builtin:str.join" => (with_reducible rename Mk 39 => mk9); (k_here; (with_reducible rename OthJ _ _ => ojw9); obtain ⟨olw9, oj1w9, oj2w9, oj3w9⟩ := ojw9; refine' join_list ?hl ?hi ?hok ?_; (case hl => exact news_list (by k_asm) (List.mem_cons_self ..)); (case hi => exact oj1w9); (case hok => (rw [sum_one olw9 oj3w9, oj2w9, show ("" : Str).length = 0 from by decide]; have z0w9 := Int.fmod_nonneg_of_pos (ns.getD (Int.toNat 0) 0) (b := 5) (by decide); have z1w9 := Int.fmod_lt_of_pos (ns.getD (Int.toNat 0) 0) (b := 5) (by decide); omega)); intro jTw9 jKw9)
  k_with "ite" => (with_reducible rename Mk 39 => mk9); k_extra "#1"
  trivial
theorem l10 (F : Fr b L s.heap m) (N : News b L s.heap [(L + 1 + 1 + 1 + 1, o4), (L + 1 + 1 + 1, o3), (L + 1 + 1, o2), (L + 1, o1), (ln, listO vl.toArray nv), (x1, instObj 902 d1), (d1, dictOf [dE w.params (S "_id") u1 (.bytes B t1)] 1), (x2, instObj 902 d2), (d2, dictOf [dE w.params (S "_id") u2 (.bytes C t2)] 1)]) (hv : IntsAre vl ns) (hn0 : 0 < ns.length) (hn1 : ns.length ≤ 20) (c1 : o1.data = .cell (some (.ref ln))) (hl : @LT.lt Nat _ (L + 1 + 1 + 1 + 1) ln) (hl1 : @LT.lt Nat _ ln d1) (hl2 : @LT.lt Nat _ d1 x1) (hl3 : @LT.lt Nat _ x1 d2) (hl4 : @LT.lt Nat _ d2 x2) (hB : B.size = 12) (c2 : o2.data = .cell (some (.bytes B t3))) (m1 : m "first" = some (.ref x1)) (m2 : m "second" = some (.ref x2)) (m3 : m "two" = some (.bytes C t4)) (hC : C.size = 12) (c3 : o3.data = .cell (some (.str "0123456789abcdefABCDEF g-١" t5))) (c4 : o4.data = .cell none) (hj : JIs ((22 + (ns.getD (Int.toNat 0) 0).fmod 5).toNat) OthJ)
    (next : ∀ ot o4 t5 h' tk', Fr b L h' m → o4.data = .cell (some (.str ot t5)) → News b L h' [(L + 1 + 1 + 1 + 1, o4), (L + 1 + 1 + 1, o3), (L + 1 + 1, o2), (L + 1, o1), (ln, listO vl.toArray nv), (x1, instObj 902 d1), (d1, dictOf [dE w.params (S "_id") u1 (.bytes B t1)] 1), (x2, instObj 902 d2), (d2, dictOf [dE w.params (S "_id") u2 (.bytes C t2)] 1)] → OthOf ot → LawAt w L 11 qk ek { s with heap := h', toks := tk' }) : LawAt w L 10 qk ek s := by
  have mk9 : Mk 39 := .mk
  refine lawSeg 11 (by k_is) fun hstop => ?_
  dsimp only [List.drop] at hstop ⊢
  try k_extra "my fa"
  have B₀ := below_caller b
  k_steps
  all_goals first
    | exact S ""
    | exact (0 : Nat)
    | exact Value.none
    | ((with_reducible show Env); exact envOf "" default 0 0 .none)
    | ((with_reducible show Fr _ _ _ _); assumption)
    | ((with_reducible show News _ _ _ _); assumption)
    | ((with_reducible show OthJ _ _); exact othJ_push (by assumption) (by decide) (by decide))
    | rfl
    | ((with_reducible show LawAt _ _ _ _ _ _); exact next _ _ _ _ _ (by k_asm) (by assumption) (by k_extra "my nx") (by exact oth_of (by assumption) (by assumption)))
end
end
section
section
theorem words_40 : True := by
  k_with "eval Name" => (with_reducible rename Mk 40 => mk9); k_extra "#0"
  k_with "execs cons" => (with_reducible rename Mk 40 => mk9); k_extra "#10"
  k_with "compareOp Eq ref ref" => (with_reducible rename Mk 40 => mk9); (k_here; k_dflt (refine' eq_nil ?ha ?hb ?hu ?_; (case ha => exact isl (by k_asm) (by k_mem) rfl rfl); (case hb => exact isl (by k_asm) (by k_mem) rfl rfl); (case hu => k_units); k_whole))
  trivial
theorem l11 (F : Fr b L s.heap m) (N : News b L s.heap [(L + 1 + 1 + 1 + 1, o4), (L + 1 + 1 + 1, o3), (L + 1 + 1, o2), (L + 1, o1), (ln, listO vl.toArray nv), (x1, instObj 902 d1), (d1, dictOf [dE w.params (S "_id") u1 (.bytes B t1)] 1), (x2, instObj 902 d2), (d2, dictOf [dE w.params (S "_id") u2 (.bytes C t2)] 1)]) (hv : IntsAre vl ns) (hn0 : 0 < ns.length) (hn1 : ns.length ≤ 20) (c1 : o1.data = .cell (some (.ref ln))) (hl : @LT.lt Nat _ (L + 1 + 1 + 1 + 1) ln) (hl1 : @LT.lt Nat _ ln d1) (hl2 : @LT.lt Nat _ d1 x1) (hl3 : @LT.lt Nat _ x1 d2) (hl4 : @LT.lt Nat _ d2 x2) (hB : B.size = 12) (c2 : o2.data = .cell (some (.bytes B t3))) (m1 : m "first" = some (.ref x1)) (m2 : m "second" = some (.ref x2)) (m3 : m "two" = some (.bytes C t4)) (hC : C.size = 12) {ot : Str} (c4 : o4.data = .cell (some (.str ot t5))) (hol : ot.length ≤ 26) (hol2 : 22 ≤ ot.length)
    (next : ∀ hx h' tk', Fr b L h' (fun y => if y = "hexed" then some (.bool hx) else m y) → News b L h' [(L + 1 + 1 + 1 + 1, o4), (L + 1 + 1 + 1, o3), (L + 1 + 1, o2), (L + 1, o1), (ln, listO vl.toArray nv), (x1, instObj 902 d1), (d1, dictOf [dE w.params (S "_id") u1 (.bytes B t1)] 1), (x2, instObj 902 d2), (d2, dictOf [dE w.params (S "_id") u2 (.bytes C t2)] 1)] → (hx = true ↔ (ot.length = 24 ∧ hexOk ot 12)) → LawAt w L 12 qk ek { s with heap := h', toks := tk' }) : LawAt w L 11 qk ek s := by
  have mk9 : Mk 40 := .mk
  refine lawSeg 12 (by k_is) fun hstop => ?_
  dsimp only [List.drop] at hstop ⊢
  try k_extra "my fa"
  have B₀ := below_caller b
  k_steps
  all_goals first
    | exact S ""
    | exact (0 : Nat)
    | exact Value.none
    | ((with_reducible show Env); exact envOf "" default 0 0 .none)
    | ((with_reducible show LawAt _ _ _ _ _ _); exact next _ _ _ (by k_asm)  (by k_extra "my nx") (by first | exact hexed_iff (by assumption) (by assumption) | exact hexed_no2 (by assumption) | exact hexed_no (by assumption)))
end
end
section
section
theorem words_41 : True := by
  k_with "eval Name" => (with_reducible rename Mk 41 => mk9); k_extra "#0"
  k_with "execs cons" => (with_reducible rename Mk 41 => mk9); k_extra "#10"
  k_with "CompSrc" => (with_reducible rename Mk 41 => mk9); k_extra "#11"
  k_with "call type:int" => (with_reducible rename Mk 41 => mk9); (k_here; (with_reducible show wpAny _ _ (call (Value.type "int") [Value.str _ _, Value.int _ _]) _ _ _); refine int_two (by with_reducible assumption) (by with_reducible assumption) (by with_reducible assumption) (by with_reducible assumption) ?_; intro inTw9 inKw9)
  k_with "call type:bytes" => (with_reducible rename Mk 41 => mk9); (k_here; refine' KBa.make_K ?F ?N ?hh ?hl ?hi ?hr ?hn ?h; (case F => k_asm); (case N => k_asm); (case hh => rfl); (case hi => assumption); (case hl => exact ⟨_, (by assumption : News _ _ _ _) _ (List.mem_cons_self ..) |>.1, rfl, _, rfl⟩); (case hr => exact hexes_in (by assumption)); (case hn => exact hexes_le _); (case' h => (intro h'w9 t'w9 k'w9 F'w9 N'w9 hinw9)))
  trivial
theorem l12t (F : Fr b L s.heap m) (N : News b L s.heap [(L + 1 + 1 + 1 + 1, o4), (L + 1 + 1 + 1, o3), (L + 1 + 1, o2), (L + 1, o1), (ln, listO vl.toArray nv), (x1, instObj 902 d1), (d1, dictOf [dE w.params (S "_id") u1 (.bytes B t1)] 1), (x2, instObj 902 d2), (d2, dictOf [dE w.params (S "_id") u2 (.bytes C t2)] 1)]) (hv : IntsAre vl ns) (hn0 : 0 < ns.length) (hn1 : ns.length ≤ 20) (c1 : o1.data = .cell (some (.ref ln))) (hl : @LT.lt Nat _ (L + 1 + 1 + 1 + 1) ln) (hl1 : @LT.lt Nat _ ln d1) (hl2 : @LT.lt Nat _ d1 x1) (hl3 : @LT.lt Nat _ x1 d2) (hl4 : @LT.lt Nat _ d2 x2) (hB : B.size = 12) (c2 : o2.data = .cell (some (.bytes B t3))) (m1 : m "first" = some (.ref x1)) (m2 : m "second" = some (.ref x2)) (m3 : m "two" = some (.bytes C t4)) (hC : C.size = 12) {ot : Str} (c4 : o4.data = .cell (some (.str ot t5))) (hO : OthOf ot) (hol : ot.length ≤ 26) (m5 : m "hexed" = some (.bool true)) (h24 : ot.length = 24) (hok : hexOk ot 12) (hj : JIs 12 fun i ys => IntsAre ys (hexes ot i))
    (next : ∀ dv h' tk', Fr b L h' (fun y => if y = "due" then some dv else m y) → News b L h' [(L + 1 + 1 + 1 + 1, o4), (L + 1 + 1 + 1, o3), (L + 1 + 1, o2), (L + 1, o1), (ln, listO vl.toArray nv), (x1, instObj 902 d1), (d1, dictOf [dE w.params (S "_id") u1 (.bytes B t1)] 1), (x2, instObj 902 d2), (d2, dictOf [dE w.params (S "_id") u2 (.bytes C t2)] 1)] → DueIs ot dv → LawAt w L 13 qk ek { s with heap := h', toks := tk' }) : LawAt w L 12 qk ek s := by
  have mk9 : Mk 41 := .mk
  refine lawSeg 13 (by k_is) fun hstop => ?_
  dsimp only [List.drop] at hstop ⊢
  try k_extra "my fa"
  have B₀ := below_caller b
  k_steps
  all_goals first
    | exact S ""
    | exact (0 : Nat)
    | exact Value.none
    | ((with_reducible show Env); exact envOf "" default 0 0 .none)
    | ((with_reducible show Fr _ _ _ _); assumption)
    | ((with_reducible show News _ _ _ _); assumption)
    | ((with_reducible show IntsAre _ _); exact int_push (by assumption))
    | rfl
    | ((with_reducible show LawAt _ _ _ _ _ _); exact next _ _ _ (by k_asm)  (by k_extra "my nx") (by exact Or.inl ⟨by assumption, by assumption, _, rfl⟩))
theorem l12f (F : Fr b L s.heap m) (N : News b L s.heap [(L + 1 + 1 + 1 + 1, o4), (L + 1 + 1 + 1, o3), (L + 1 + 1, o2), (L + 1, o1), (ln, listO vl.toArray nv), (x1, instObj 902 d1), (d1, dictOf [dE w.params (S "_id") u1 (.bytes B t1)] 1), (x2, instObj 902 d2), (d2, dictOf [dE w.params (S "_id") u2 (.bytes C t2)] 1)]) (hv : IntsAre vl ns) (hn0 : 0 < ns.length) (hn1 : ns.length ≤ 20) (c1 : o1.data = .cell (some (.ref ln))) (hl : @LT.lt Nat _ (L + 1 + 1 + 1 + 1) ln) (hl1 : @LT.lt Nat _ ln d1) (hl2 : @LT.lt Nat _ d1 x1) (hl3 : @LT.lt Nat _ x1 d2) (hl4 : @LT.lt Nat _ d2 x2) (hB : B.size = 12) (c2 : o2.data = .cell (some (.bytes B t3))) (m1 : m "first" = some (.ref x1)) (m2 : m "second" = some (.ref x2)) (m3 : m "two" = some (.bytes C t4)) (hC : C.size = 12) {ot : Str} (c4 : o4.data = .cell (some (.str ot t5))) (hO : OthOf ot) (hol : ot.length ≤ 26) (m5 : m "hexed" = some (.bool false)) (hno : ¬ (ot.length = 24 ∧ hexOk ot 12))
    (next : ∀ dv h' tk', Fr b L h' (fun y => if y = "due" then some dv else m y) → News b L h' [(L + 1 + 1 + 1 + 1, o4), (L + 1 + 1 + 1, o3), (L + 1 + 1, o2), (L + 1, o1), (ln, listO vl.toArray nv), (x1, instObj 902 d1), (d1, dictOf [dE w.params (S "_id") u1 (.bytes B t1)] 1), (x2, instObj 902 d2), (d2, dictOf [dE w.params (S "_id") u2 (.bytes C t2)] 1)] → DueIs ot dv → LawAt w L 13 qk ek { s with heap := h', toks := tk' }) : LawAt w L 12 qk ek s := by
  have mk9 : Mk 41 := .mk
  refine lawSeg 13 (by k_is) fun hstop => ?_
  dsimp only [List.drop] at hstop ⊢
  try k_extra "my fa"
  have B₀ := below_caller b
  k_steps
  all_goals first
    | exact S ""
    | exact (0 : Nat)
    | exact Value.none
    | ((with_reducible show Env); exact envOf "" default 0 0 .none)
    | ((with_reducible show Fr _ _ _ _); assumption)
    | ((with_reducible show News _ _ _ _); assumption)
    | ((with_reducible show IntsAre _ _); exact int_push (by assumption))
    | rfl
    | ((with_reducible show LawAt _ _ _ _ _ _); exact next _ _ _ (by k_asm)  (by k_extra "my nx") (by exact Or.inr ⟨by assumption, _, rfl⟩))
end
end
section
section
theorem words_42 : True := by
  k_with "eval Name" => (with_reducible rename Mk 42 => mk9); k_extra "#0"
  k_with "eval Name" => (with_reducible rename Mk 42 => mk9); (k_here; refine' nameX_L9 ?F ?hv ?h ?hk ?hx ?hd; (case F => k_asm); (case hv => (first | exact rfl | with_reducible assumption | (refine Eq.trans (if_neg (by decide)) ?_; first | exact rfl | with_reducible assumption))); (case hk => kernel_rfl); k_whole)
  k_with "execs cons" => (with_reducible rename Mk 42 => mk9); k_extra "#10"
  k_with "binaryOp Add bytes bytes" => (with_reducible rename Mk 42 => mk9); (k_here; refine KBy.add_bytes (by omega) ?_; intro adTw9 adKw9)
  k_with "subscriptTail" => (with_reducible rename Mk 42 => mk9); (k_here; ((with_reducible show wpAny _ _ (subscriptTail _ (Expr.Slice _ _ none _) (Value.bytes _ _) (Value.ref _)) _ _ _)); (with_reducible rename Fr _ _ _ _ => F'w9); (with_reducible rename News _ _ _ _ => N'w9); (refine KBc.slice_K (s := ⟨_, _, _, _, _⟩) F'w9 N'w9 rfl (by constructor) (by constructor) (bi_le (by omega)) ?_); intro _ _ _ _ _ kbcKw9; (replace kbcKw9 := slice_up (by first | exact Int.fmod_nonneg_of_pos _ (by decide) | exact Int.sub_nonneg_of_le (Int.le_of_lt (Int.fmod_lt_of_pos _ (by decide)))) kbcKw9))
  trivial
theorem l13 (F : Fr b L s.heap m) (N : News b L s.heap [(L + 1 + 1 + 1 + 1, o4), (L + 1 + 1 + 1, o3), (L + 1 + 1, o2), (L + 1, o1), (ln, listO vl.toArray nv), (x1, instObj 902 d1), (d1, dictOf [dE w.params (S "_id") u1 (.bytes B t1)] 1), (x2, instObj 902 d2), (d2, dictOf [dE w.params (S "_id") u2 (.bytes C t2)] 1)]) (hv : IntsAre vl ns) (hn0 : 0 < ns.length) (hn1 : ns.length ≤ 20) (c1 : o1.data = .cell (some (.ref ln))) (hl : @LT.lt Nat _ (L + 1 + 1 + 1 + 1) ln) (hl1 : @LT.lt Nat _ ln d1) (hl2 : @LT.lt Nat _ d1 x1) (hl3 : @LT.lt Nat _ x1 d2) (hl4 : @LT.lt Nat _ d2 x2) (hB : B.size = 12) (c2 : o2.data = .cell (some (.bytes B t3))) (m1 : m "first" = some (.ref x1)) (m2 : m "second" = some (.ref x2)) (m3 : m "two" = some (.bytes C t4)) (hC : C.size = 12)
    (next : ∀ R t' h' tk', Fr b L h' (fun y => if y = "row" then some (.bytes R t') else m y) → News b L h' [(L + 1 + 1 + 1 + 1, o4), (L + 1 + 1 + 1, o3), (L + 1 + 1, o2), (L + 1, o1), (ln, listO vl.toArray nv), (x1, instObj 902 d1), (d1, dictOf [dE w.params (S "_id") u1 (.bytes B t1)] 1), (x2, instObj 902 d2), (d2, dictOf [dE w.params (S "_id") u2 (.bytes C t2)] 1)] → R.size ≤ 15 → LawAt w L 14 qk ek { s with heap := h', toks := tk' }) : LawAt w L 13 qk ek s := by
  have mk9 : Mk 42 := .mk
  refine lawSeg 14 (by k_is) fun hstop => ?_
  dsimp only [List.drop] at hstop ⊢
  try k_extra "my fa"
  have B₀ := below_caller b
  have hBC : (B ++ C).size = 24 := by rw [Array.size_append]; omega
  k_steps
  all_goals first
    | exact S ""
    | exact (0 : Nat)
    | exact Value.none
    | ((with_reducible show LawAt _ _ _ _ _ _); exact next _ _ _ _ (by k_asm)  (by k_extra "my nx") (by exact row_le (by assumption)))
end
end
section
section
theorem words_43 : True := by
  k_with "eval Name" => (with_reducible rename Mk 43 => mk9); k_extra "#0"
  k_with "execs cons" => (with_reducible rename Mk 43 => mk9); k_extra "#10"
  k_with "call ref" => (with_reducible rename Mk 43 => mk9); (k_here; (with_reducible show wpAny _ _ (call (Value.ref 1469) [Value.int _ _]) _ _ _); (refine toKtr ?_); k_dflt (refine' made_int ?hB ?hF ?hX ?hN ?hT ?hK ?hD ?hU ?hXB ?hTB  ?_; (case hB => k_asm); (case hF => k_asm); (case hX => k_asm); (case hN => k_asm); (case hT => k_asm); (case hXB => assumption); (case hTB => assumption); (case hK => first | exact rfl | assumption); (case hD => k_extra "my dp"); (case hU => k_extra "my dp"); k_whole; intro t7w9 h2w9 tk2w9 kFw9 kNw9; (try k_sweep)))
  k_with "call ref" => (with_reducible rename Mk 43 => mk9); (k_here; (with_reducible show wpAny _ _ (call (Value.ref 1469) [Value.bytes _ _]) _ _ _); (refine toKtr ?_); k_dflt (refine' made_row ?hB ?hF ?hX ?hN ?hT ?hK ?hD ?hU ?hXB ?hTB ?h0 ?_; (case hB => k_asm); (case hF => k_asm); (case hX => k_asm); (case hN => k_asm); (case hT => k_asm); (case hXB => assumption); (case hTB => assumption); (case hK => first | exact rfl | assumption); (case hD => k_extra "my dp"); (case hU => k_extra "my dp"); (case h0 => assumption); k_whole; intro vRw9 h2w9 tk2w9 hvRw9 kFw9 kNw9; (try k_sweep)))
  k_with "call ref" => (with_reducible rename Mk 43 => mk9); (k_here; (with_reducible show wpAny _ _ (call (Value.ref 1469) [Value.str _ _]) _ _ _); (refine toKtr ?_); k_dflt (refine' made_sv ?hB ?hF ?hX ?hN ?hT ?hK ?hD ?hU ?hXB ?hTB ?h0 ?h1 ?h2 ?_; (case hB => k_asm); (case hF => k_asm); (case hX => k_asm); (case hN => k_asm); (case hT => k_asm); (case hXB => assumption); (case hTB => assumption); (case hK => first | exact rfl | assumption); (case hD => k_extra "my dp"); (case hU => k_extra "my dp"); (case h0 => assumption); (case h1 => assumption); (case h2 => assumption); k_whole; intro vOw9 h2w9 tk2w9 hvOw9 kFw9 kNw9; (try k_sweep)))
  k_with "compareOp NotEq ref ref" => (with_reducible rename Mk 43 => mk9); (k_here; k_dflt (refine' ne_same ?ha ?hb ?hu ?he ?_; (case ha => exact isl (by k_asm) (by k_mem) rfl rfl); (case hb => exact isl (by k_asm) (by k_mem) rfl rfl); (case hu => k_units); (case he => (repeat' first | exact AllSame.nil | refine' AllSame.cons ?_ ?_); all_goals first | (with_reducible exact PySem.SeqAt.EqAt.same _) | (with_reducible exact at_bytes rfl) | (with_reducible exact at_str rfl) | (with_reducible exact at_bool rfl) | (with_reducible exact at_int rfl) | (exact sameV_at (by assumption)) | (exact at_bool dec12) | (refine rowB (by assumption) ?_; (first | assumption | omega)) | (refine rowK (by assumption) ?_; (first | assumption | omega))); k_whole))
  k_with "k_enter" => (with_reducible rename Mk 43 => mk9); ((with_reducible show codeAny _ _ (Code.call (Value.ref 826) _) _ _); (k_dflt (show codeAny _ _ (Code.call (Value.ref 826) ⟨[_, Value.int _ _], _⟩) _ _)); (refine toKtrC ?_); k_dflt (refine' valid_intC ?hB ?hF ?hX ?hN ?hT ?hK ?hD ?hU ?hXB ?hTB  ?_; (case hB => k_asm); (case hF => k_asm); (case hX => k_asm); (case hN => k_asm); (case hT => k_asm); (case hXB => assumption); (case hTB => assumption); (case hK => first | exact rfl | assumption); (case hD => k_extra "my dp"); (case hU => k_extra "my dp"); k_whole; intro h2w9 tk2w9 kFw9 kNw9; (try k_sweep)))
  k_with "k_enter" => (with_reducible rename Mk 43 => mk9); ((with_reducible show codeAny _ _ (Code.call (Value.ref 826) _) _ _); (k_dflt (show codeAny _ _ (Code.call (Value.ref 826) ⟨[_, Value.ref _], _⟩) _ _)); (refine toKtrC ?_); k_dflt (refine' valid_idC ?hB ?hF ?hX ?hN ?hT ?hK ?hD ?hU ?hXB ?hTB ?h0 ?h1 ?_; (case hB => k_asm); (case hF => k_asm); (case hX => k_asm); (case hN => k_asm); (case hT => k_asm); (case hXB => assumption); (case hTB => assumption); (case hK => first | exact rfl | assumption); (case hD => k_extra "my dp"); (case hU => k_extra "my dp"); (case h0 => k_mem); (case h1 => k_mem); k_whole; intro h2w9 tk2w9 kFw9 kNw9; (try k_sweep)))
  k_with "k_enter" => (with_reducible rename Mk 43 => mk9); ((with_reducible show codeAny _ _ (Code.call (Value.ref 826) _) _ _); (k_dflt (show codeAny _ _ (Code.call (Value.ref 826) ⟨[_, Value.bytes _ _], _⟩) _ _)); (refine toKtrC ?_); k_dflt (refine' valid_row ?hB ?hF ?hX ?hN ?hT ?hK ?hD ?hU ?hXB ?hTB ?h0 ?_; (case hB => k_asm); (case hF => k_asm); (case hX => k_asm); (case hN => k_asm); (case hT => k_asm); (case hXB => assumption); (case hTB => assumption); (case hK => first | exact rfl | assumption); (case hD => k_extra "my dp"); (case hU => k_extra "my dp"); (case h0 => assumption); k_whole; intro h2w9 tk2w9 kFw9 kNw9; (try k_sweep)))
  k_with "k_enter" => (with_reducible rename Mk 43 => mk9); ((with_reducible show codeAny _ _ (Code.call (Value.ref 826) _) _ _); (k_dflt (show codeAny _ _ (Code.call (Value.ref 826) ⟨[_, Value.str _ _], _⟩) _ _)); (refine toKtrC ?_); k_dflt (refine' valid_sv ?hB ?hF ?hX ?hN ?hT ?hK ?hD ?hU ?hXB ?hTB ?h0 ?h1 ?h2 ?h3 ?_; (case hB => k_asm); (case hF => k_asm); (case hX => k_asm); (case hN => k_asm); (case hT => k_asm); (case hXB => assumption); (case hTB => assumption); (case hK => first | exact rfl | assumption); (case hD => k_extra "my dp"); (case hU => k_extra "my dp"); (case h0 => assumption); (case h1 => assumption); (case h2 => assumption); (case h3 => assumption); k_whole; intro h2w9 tk2w9 kFw9 kNw9; (try k_sweep)))
  trivial
theorem l14 (F : Fr b L s.heap m) (N : News b L s.heap [(L + 1 + 1 + 1 + 1, o4), (L + 1 + 1 + 1, o3), (L + 1 + 1, o2), (L + 1, o1), (ln, listO vl.toArray nv), (x1, instObj 902 d1), (d1, dictOf [dE w.params (S "_id") u1 (.bytes B t1)] 1), (x2, instObj 902 d2), (d2, dictOf [dE w.params (S "_id") u2 (.bytes C t2)] 1)]) (hv : IntsAre vl ns) (hn0 : 0 < ns.length) (hn1 : ns.length ≤ 20) (c1 : o1.data = .cell (some (.ref ln))) (hl : @LT.lt Nat _ (L + 1 + 1 + 1 + 1) ln) (hl1 : @LT.lt Nat _ ln d1) (hl2 : @LT.lt Nat _ d1 x1) (hl3 : @LT.lt Nat _ x1 d2) (hl4 : @LT.lt Nat _ d2 x2) (hB : B.size = 12) (c2 : o2.data = .cell (some (.bytes B t3))) (m1 : m "first" = some (.ref x1)) (m2 : m "second" = some (.ref x2)) (m3 : m "two" = some (.bytes C t4)) (hC : C.size = 12) {ot : Str} {hx : Bool} {dv : Value} {R : Array UInt8} (c4 : o4.data = .cell (some (.str ot t5))) (m5 : m "hexed" = some (.bool hx)) (m6 : m "due" = some dv) (m7 : m "row" = some (.bytes R t6)) (hol : ot.length ≤ 30) (hoz : ot.length ≠ 0) (hor : (reprText ot).length ≤ 400) (hdu : DueIs ot dv) (hhx : hx = true ↔ (ot.length = 24 ∧ hexOk ot 12)) (hRs : R.size ≤ 15)
    (next : ∀ h' tk', Fr b L h' m → News b L h' [(L + 1 + 1 + 1 + 1, o4), (L + 1 + 1 + 1, o3), (L + 1 + 1, o2), (L + 1, o1), (ln, listO vl.toArray nv), (x1, instObj 902 d1), (d1, dictOf [dE w.params (S "_id") u1 (.bytes B t1)] 1), (x2, instObj 902 d2), (d2, dictOf [dE w.params (S "_id") u2 (.bytes C t2)] 1)] → LawAt w L 15 qk ek { s with heap := h', toks := tk' }) : LawAt w L 14 qk ek s := by
  have mk9 : Mk 43 := .mk
  have M9 := allMN N
  dsimp only [AllM] at M9
  revert N next M9
  refine gen9L [(L + 1 + 1 + 1 + 1, o4), (L + 1 + 1 + 1, o3), (L + 1 + 1, o2), (L + 1, o1), (ln, listO vl.toArray nv), (x1, instObj 902 d1), (d1, dictOf [dE w.params (S "_id") u1 (.bytes B t1)] 1), (x2, instObj 902 d2), (d2, dictOf [dE w.params (S "_id") u2 (.bytes C t2)] 1)] fun news => ?_
  intro N next M9
  obtain ⟨q0, q1, q2, q3, q4, q5, q6, q7, q8⟩ := M9
  refine lawSeg 15 (by k_is) fun hstop => ?_
  dsimp only [List.drop] at hstop ⊢
  try k_extra "my fa"
  have B₀ := below_caller b
  k_steps
  all_goals first
    | exact S ""
    | exact (0 : Nat)
    | exact Value.none
    | ((with_reducible show Env); exact envOf "" default 0 0 .none)
    | ((with_reducible show LawAt _ _ _ _ _ _); exact next _ _ (by k_asm)  (by k_extra "my nx") )
end
end
section
section
theorem words_44 : True := by
  k_with "eval Name" => (with_reducible rename Mk 44 => mk9); k_extra "#0"
  k_with "execs cons" => (with_reducible rename Mk 44 => mk9); k_extra "#10"
  trivial
theorem l15 (F : Fr b L s.heap m) (N : News b L s.heap [(L + 1 + 1 + 1 + 1, o4), (L + 1 + 1 + 1, o3), (L + 1 + 1, o2), (L + 1, o1), (ln, listO vl.toArray nv), (x1, instObj 902 d1), (d1, dictOf [dE w.params (S "_id") u1 (.bytes B t1)] 1), (x2, instObj 902 d2), (d2, dictOf [dE w.params (S "_id") u2 (.bytes C t2)] 1)]) (hv : IntsAre vl ns) (hn0 : 0 < ns.length) (hn1 : ns.length ≤ 20) (c1 : o1.data = .cell (some (.ref ln))) (hl : @LT.lt Nat _ (L + 1 + 1 + 1 + 1) ln) (hl1 : @LT.lt Nat _ ln d1) (hl2 : @LT.lt Nat _ d1 x1) (hl3 : @LT.lt Nat _ x1 d2) (hl4 : @LT.lt Nat _ d2 x2) (hB : B.size = 12) (c2 : o2.data = .cell (some (.bytes B t3))) (m1 : m "first" = some (.ref x1)) (m2 : m "second" = some (.ref x2)) (m3 : m "two" = some (.bytes C t4)) (hC : C.size = 12)
    (next : ∀ dt ts is m' h' tk', Fr b L h' m' → m' "times" = some (.ref dt) → m' "first" = some (.ref x1) → IntsAre ts is → News b L h' [(dt, LCg.lst ts), (L + 1 + 1 + 1 + 1, o4), (L + 1 + 1 + 1, o3), (L + 1 + 1, o2), (L + 1, o1), (ln, listO vl.toArray nv), (x1, instObj 902 d1), (d1, dictOf [dE w.params (S "_id") u1 (.bytes B t1)] 1), (x2, instObj 902 d2), (d2, dictOf [dE w.params (S "_id") u2 (.bytes C t2)] 1)] → is.length = 4 → LawAt w L 16 qk ek { s with heap := h', toks := tk' }) : LawAt w L 15 qk ek s := by
  have mk9 : Mk 44 := .mk
  have M9 := allMN N
  dsimp only [AllM] at M9
  revert N next M9
  refine gen9L [(L + 1 + 1 + 1 + 1, o4), (L + 1 + 1 + 1, o3), (L + 1 + 1, o2), (L + 1, o1), (ln, listO vl.toArray nv), (x1, instObj 902 d1), (d1, dictOf [dE w.params (S "_id") u1 (.bytes B t1)] 1), (x2, instObj 902 d2), (d2, dictOf [dE w.params (S "_id") u2 (.bytes C t2)] 1)] fun news => ?_
  intro N next M9
  obtain ⟨q0, q1, q2, q3, q4, q5, q6, q7, q8⟩ := M9
  refine lawSeg 16 (by k_is) fun hstop => ?_
  dsimp only [List.drop] at hstop ⊢
  try k_extra "my fa"
  have B₀ := below_caller b
  k_steps
  all_goals first
    | exact S ""
    | exact (0 : Nat)
    | exact Value.none
    | ((with_reducible show LawAt _ _ _ _ _ _); exact next _ _ _ _ _ _ (by k_asm) (by (first | exact rfl | assumption | (refine Eq.trans (if_neg (by decide)) ?_; first | exact rfl | assumption))) (by (first | exact rfl | assumption | (refine Eq.trans (if_neg (by decide)) ?_; first | exact rfl | assumption))) (by assumption) (by k_extra "my nx") (by (rw [List.length_map]; rfl)))
end
end
section
section
theorem words_45 : True := by
  k_with "eval Name" => (with_reducible rename Mk 45 => mk9); k_extra "#0"
  k_with "execs cons" => (with_reducible rename Mk 45 => mk9); k_extra "#10"
  k_with "execs cons" => (with_reducible rename Mk 45 => mk9); (k_here; k_dflt (refine' TurnAt.go (k := 16) ?ho ?hB (turn16 ?tX ?tT ?F ?N ?mi ?mj ?_); (case tX => assumption); (case tT => assumption); (case ho => k_is); (case hB => exact rfl); (case F => k_asm); (case N => k_asm); (case mi => (first | exact rfl | with_reducible assumption | (refine Eq.trans (if_neg (by decide)) ?_; first | exact rfl | with_reducible assumption))); (case mj => (first | exact rfl | with_reducible assumption | (refine Eq.trans (if_neg (by decide)) ?_; first | exact rfl | with_reducible assumption))); k_whole); intro tnHw9 tnKw9 tnFw9 tnNw9; (try k_sweep))
  trivial
theorem l16 (F : Fr b L s.heap m) (N : News b L s.heap [(dt, { cls := .type "list", data := .seq #[.int i0 k0, .int i1 k1, .int i2 k2, .int i3 k3] 4 }), (L + 1 + 1 + 1 + 1, o4), (L + 1 + 1 + 1, o3), (L + 1 + 1, o2), (L + 1, o1), (ln, listO vl.toArray nv), (x1, instObj 902 d1), (d1, dictOf [dE w.params (S "_id") u1 (.bytes B t1)] 1), (x2, instObj 902 d2), (d2, dictOf [dE w.params (S "_id") u2 (.bytes C t2)] 1)]) (hv : IntsAre vl ns) (hn0 : 0 < ns.length) (hn1 : ns.length ≤ 20) (c1 : o1.data = .cell (some (.ref ln))) (hl : @LT.lt Nat _ (L + 1 + 1 + 1 + 1) ln) (hl1 : @LT.lt Nat _ ln d1) (hl2 : @LT.lt Nat _ d1 x1) (hl3 : @LT.lt Nat _ x1 d2) (hl4 : @LT.lt Nat _ d2 x2) (mt : m "times" = some (.ref dt)) (m1 : m "first" = some (.ref x1))
    (hO : OwnAt w L ek) (next : ∀ m' h' tk', Fr b L h' m' → m' "times" = some (.ref dt) → m' "first" = some (.ref x1) → News b L h' [(dt, { cls := .type "list", data := .seq #[.int i0 k0, .int i1 k1, .int i2 k2, .int i3 k3] 4 }), (L + 1 + 1 + 1 + 1, o4), (L + 1 + 1 + 1, o3), (L + 1 + 1, o2), (L + 1, o1), (ln, listO vl.toArray nv), (x1, instObj 902 d1), (d1, dictOf [dE w.params (S "_id") u1 (.bytes B t1)] 1), (x2, instObj 902 d2), (d2, dictOf [dE w.params (S "_id") u2 (.bytes C t2)] 1)] → LawAt w L 17 qk ek { s with heap := h', toks := tk' }) : LawAt w L 16 qk ek s := by
  have mk9 : Mk 45 := .mk
  refine lawSegO 17 (by k_is) hO fun hown hstop => ?_
  dsimp only [List.drop] at hstop ⊢
  try k_extra "my fa"
  have B₀ := below_caller b
  k_steps
  all_goals first
    | exact S ""
    | exact (0 : Nat)
    | exact Value.none
    | ((with_reducible show Env); exact envOf "" default 0 0 .none)
    | (show PassesOwn _ _ _ _; assumption)
    | ((with_reducible show LawAt _ _ _ _ _ _); exact next _ _ _ (by k_asm) (by (first | exact rfl | with_reducible assumption | ((repeat (refine Eq.trans (if_neg (by decide)) ?_)); first | exact rfl | with_reducible assumption))) (by (first | exact rfl | with_reducible assumption | ((repeat (refine Eq.trans (if_neg (by decide)) ?_)); first | exact rfl | with_reducible assumption))) (by k_extra "my nx") )
end
end
section
section
theorem words_46 : True := by
  k_with "eval Name" => (with_reducible rename Mk 46 => mk9); k_extra "#0"
  k_with "eval Name" => (with_reducible rename Mk 46 => mk9); k_extra "#12"
  k_with "execs cons" => (with_reducible rename Mk 46 => mk9); k_extra "#10"
  k_with "call ref" => (with_reducible rename Mk 46 => mk9); (k_here; (refine toKtr ?_); k_dflt (refine' stamp_kind_s ?hB ?hF ?hX ?hN ?hT ?hK ?hD ?hU ?hXB ?hTB  ?_; (case hB => k_asm); (case hF => k_asm); (case hX => k_asm); (case hN => k_asm); (case hT => k_asm); (case hXB => assumption); (case hTB => assumption); (case hK => first | exact rfl | assumption); (case hD => k_extra "my dp"); (case hU => k_extra "my dp"); k_whole; intro t2w9 h2w9 tk2w9 kFw9 kNw9; (try k_sweep)))
  k_with "call ref" => (with_reducible rename Mk 46 => mk9); (k_here; (refine toKtr ?_); k_dflt (refine' stamp_kind_n (t2 := 0) ?hB ?hF ?hX ?hN ?hT ?hK ?hD ?hU ?hXB ?hTB  ?_; (case hB => k_asm); (case hF => k_asm); (case hX => k_asm); (case hN => k_asm); (case hT => k_asm); (case hXB => assumption); (case hTB => assumption); (case hK => first | exact rfl | assumption); (case hD => k_extra "my dp"); (case hU => k_extra "my dp"); k_whole; intro t2w9 h2w9 tk2w9 kFw9 kNw9; (try k_sweep)))
  k_with "call ref" => (with_reducible rename Mk 46 => mk9); (k_here; (refine toKtr ?_); k_dflt (refine' stamp_kind_b ?hB ?hF ?hX ?hN ?hT ?hK ?hD ?hU ?hXB ?hTB  ?_; (case hB => k_asm); (case hF => k_asm); (case hX => k_asm); (case hN => k_asm); (case hT => k_asm); (case hXB => assumption); (case hTB => assumption); (case hK => first | exact rfl | assumption); (case hD => k_extra "my dp"); (case hU => k_extra "my dp"); k_whole; intro t2w9 h2w9 tk2w9 kFw9 kNw9; (try k_sweep)))
  trivial
theorem l17 (F : Fr b L s.heap m) (N : News b L s.heap [(dt, { cls := .type "list", data := .seq #[.int i0 k0, .int i1 k1, .int i2 k2, .int i3 k3] 4 }), (L + 1 + 1 + 1 + 1, o4), (L + 1 + 1 + 1, o3), (L + 1 + 1, o2), (L + 1, o1), (ln, listO vl.toArray nv), (x1, instObj 902 d1), (d1, dictOf [dE w.params (S "_id") u1 (.bytes B t1)] 1), (x2, instObj 902 d2), (d2, dictOf [dE w.params (S "_id") u2 (.bytes C t2)] 1)]) (hv : IntsAre vl ns) (hn0 : 0 < ns.length) (hn1 : ns.length ≤ 20) (c1 : o1.data = .cell (some (.ref ln))) (hl : @LT.lt Nat _ (L + 1 + 1 + 1 + 1) ln) (hl1 : @LT.lt Nat _ ln d1) (hl2 : @LT.lt Nat _ d1 x1) (hl3 : @LT.lt Nat _ x1 d2) (hl4 : @LT.lt Nat _ d2 x2) (mt : m "times" = some (.ref dt)) (m1 : m "first" = some (.ref x1))
    (next : ∀ h' tk', Fr b L h' m → News b L h' [(dt, { cls := .type "list", data := .seq #[.int i0 k0, .int i1 k1, .int i2 k2, .int i3 k3] 4 }), (L + 1 + 1 + 1 + 1, o4), (L + 1 + 1 + 1, o3), (L + 1 + 1, o2), (L + 1, o1), (ln, listO vl.toArray nv), (x1, instObj 902 d1), (d1, dictOf [dE w.params (S "_id") u1 (.bytes B t1)] 1), (x2, instObj 902 d2), (d2, dictOf [dE w.params (S "_id") u2 (.bytes C t2)] 1)] → LawAt w L 18 qk ek { s with heap := h', toks := tk' }) : LawAt w L 17 qk ek s := by
  have mk9 : Mk 46 := .mk
  refine lawSeg 18 (by k_is) fun hstop => ?_
  dsimp only [List.drop] at hstop ⊢
  try k_extra "my fa"
  have B₀ := below_caller b
  k_steps
  all_goals first
    | exact S ""
    | exact (0 : Nat)
    | exact Value.none
    | ((with_reducible show Env); exact envOf "" default 0 0 .none)
    | ((with_reducible show LawAt _ _ _ _ _ _); exact next _ _ (by k_asm)  (by k_extra "my nx") )
end
end
section
section
theorem words_47 : True := by
  k_with "eval Name" => (with_reducible rename Mk 47 => mk9); k_extra "#0"
  k_with "eval Name" => (with_reducible rename Mk 47 => mk9); k_extra "#12"
  k_with "execs cons" => (with_reducible rename Mk 47 => mk9); k_extra "#10"
  trivial
theorem l18 (F : Fr b L s.heap m) (N : News b L s.heap [(dt, { cls := .type "list", data := .seq #[.int i0 k0, .int i1 k1, .int i2 k2, .int i3 k3] 4 }), (L + 1 + 1 + 1 + 1, o4), (L + 1 + 1 + 1, o3), (L + 1 + 1, o2), (L + 1, o1), (ln, listO vl.toArray nv), (x1, instObj 902 d1), (d1, dictOf [dE w.params (S "_id") u1 (.bytes B t1)] 1), (x2, instObj 902 d2), (d2, dictOf [dE w.params (S "_id") u2 (.bytes C t2)] 1)]) (hv : IntsAre vl ns) (hn0 : 0 < ns.length) (hn1 : ns.length ≤ 20) (c1 : o1.data = .cell (some (.ref ln))) (hl : @LT.lt Nat _ (L + 1 + 1 + 1 + 1) ln) (hl1 : @LT.lt Nat _ ln d1) (hl2 : @LT.lt Nat _ d1 x1) (hl3 : @LT.lt Nat _ x1 d2) (hl4 : @LT.lt Nat _ d2 x2) (mt : m "times" = some (.ref dt)) (m1 : m "first" = some (.ref x1))
    (next : ∀ dsm ts js m' h' tk', Fr b L h' m' → m' "small" = some (.ref dsm) → m' "first" = some (.ref x1) → IntsAre ts js → News b L h' [(dsm, LCg.lst ts), (L + 1 + 1 + 1 + 1, o4), (L + 1 + 1 + 1, o3), (L + 1 + 1, o2), (L + 1, o1), (ln, listO vl.toArray nv), (x1, instObj 902 d1), (d1, dictOf [dE w.params (S "_id") u1 (.bytes B t1)] 1), (x2, instObj 902 d2), (d2, dictOf [dE w.params (S "_id") u2 (.bytes C t2)] 1)] → js.length = 4 → (∀ j ∈ js, 0 ≤ j ∧ j < 4294967296) → LawAt w L 19 qk ek { s with heap := h', toks := tk' }) : LawAt w L 18 qk ek s := by
  have mk9 : Mk 47 := .mk
  refine lawSeg 19 (by k_is) fun hstop => ?_
  dsimp only [List.drop] at hstop ⊢
  try k_extra "my fa"
  have B₀ := below_caller b
  k_steps
  all_goals first
    | exact S ""
    | exact (0 : Nat)
    | exact Value.none
    | ((with_reducible show Env); exact envOf "" default 0 0 .none)
    | ((with_reducible show LawAt _ _ _ _ _ _); exact next _ _ _ _ _ _ (by k_asm) (by (first | exact rfl | with_reducible assumption | (refine Eq.trans (if_neg (by decide)) ?_; first | exact rfl | with_reducible assumption))) (by (first | exact rfl | with_reducible assumption | (refine Eq.trans (if_neg (by decide)) ?_; first | exact rfl | with_reducible assumption))) (by assumption) (by k_extra "my nx") (by (rw [List.length_map]; rfl)) (by intro j hj; obtain ⟨k, _, rfl⟩ := List.mem_map.mp hj; (try dsimp only); split <;> exact ⟨Int.fmod_nonneg_of_pos _ (by decide), Int.lt_of_lt_of_le (Int.fmod_lt_of_pos _ (by decide)) (by decide)⟩))
end
end
section
section
theorem words_48 : True := by
  k_with "eval Name" => (with_reducible rename Mk 48 => mk9); k_extra "#0"
  k_with "eval Name" => (with_reducible rename Mk 48 => mk9); k_extra "#12"
  k_with "execs cons" => (with_reducible rename Mk 48 => mk9); k_extra "#10"
  k_with "ite" => (with_reducible rename Mk 48 => mk9); k_extra "#1"
  trivial
theorem l19 (F : Fr b L s.heap m) (N : News b L s.heap [(dt, LCg.lst [.int i0 k0, .int i1 k1, .int i2 k2, .int i3 k3]), (L + 1 + 1 + 1 + 1, o4), (L + 1 + 1 + 1, o3), (L + 1 + 1, o2), (L + 1, o1), (ln, listO vl.toArray nv), (x1, instObj 902 d1), (d1, dictOf [dE w.params (S "_id") u1 (.bytes B t1)] 1), (x2, instObj 902 d2), (d2, dictOf [dE w.params (S "_id") u2 (.bytes C t2)] 1)]) (hv : IntsAre vl ns) (hn0 : 0 < ns.length) (hn1 : ns.length ≤ 20) (c1 : o1.data = .cell (some (.ref ln))) (hl : @LT.lt Nat _ (L + 1 + 1 + 1 + 1) ln) (hl1 : @LT.lt Nat _ ln d1) (hl2 : @LT.lt Nat _ d1 x1) (hl3 : @LT.lt Nat _ x1 d2) (hl4 : @LT.lt Nat _ d2 x2) (ms : m "small" = some (.ref dt)) (m1 : m "first" = some (.ref x1)) (b0 : 0 ≤ i0 ∧ i0 < 4294967296) (b1 : 0 ≤ i1 ∧ i1 < 4294967296) (b2 : 0 ≤ i2 ∧ i2 < 4294967296) (b3 : 0 ≤ i3 ∧ i3 < 4294967296)
    (next : ∀ ls y1 y2 e1 e2 u3 u4 u5 u6 q0 q1 q2 q3 m' h' tk', Fr b L h' m' → m' "stamps" = some (.ref ls) → m' "small" = some (.ref dt) → m' "first" = some (.ref x1) → News b L h' [(ls, W.listOf #[.ref y1, .ref y2] 0), (y1, instObj 1024 e1), (e1, dictOf [dE w.params (S "_time") u3 (.int i0 q0), dE w.params (S "_inc") u4 (.int i1 q1)] 2), (y2, instObj 1024 e2), (e2, dictOf [dE w.params (S "_time") u5 (.int i2 q2), dE w.params (S "_inc") u6 (.int i3 q3)] 2), (dt, LCg.lst [.int i0 k0, .int i1 k1, .int i2 k2, .int i3 k3]), (L + 1 + 1 + 1 + 1, o4), (L + 1 + 1 + 1, o3), (L + 1 + 1, o2), (L + 1, o1), (ln, listO vl.toArray nv), (x1, instObj 902 d1), (d1, dictOf [dE w.params (S "_id") u1 (.bytes B t1)] 1), (x2, instObj 902 d2), (d2, dictOf [dE w.params (S "_id") u2 (.bytes C t2)] 1)] → LawAt w L 20 qk ek { s with heap := h', toks := tk' }) : LawAt w L 19 qk ek s := by
  have mk9 : Mk 48 := .mk
  refine lawSeg 20 (by k_is) fun hstop => ?_
  dsimp only [List.drop] at hstop ⊢
  try k_extra "my fa"
  have B₀ := below_caller b
  have g0 : 0 ≤ [i0, i1, i2, i3].getD (Int.toNat 0) 0 ∧ [i0, i1, i2, i3].getD (Int.toNat 0) 0 < 4294967296 := b0
  have g1 : 0 ≤ [i0, i1, i2, i3].getD (Int.toNat 1) 0 ∧ [i0, i1, i2, i3].getD (Int.toNat 1) 0 < 4294967296 := b1
  have g2 : 0 ≤ [i0, i1, i2, i3].getD (Int.toNat 2) 0 ∧ [i0, i1, i2, i3].getD (Int.toNat 2) 0 < 4294967296 := b2
  have g3 : 0 ≤ [i0, i1, i2, i3].getD (Int.toNat 3) 0 ∧ [i0, i1, i2, i3].getD (Int.toNat 3) 0 < 4294967296 := b3
  k_steps
  all_goals first
    | exact S ""
    | exact (0 : Nat)
    | exact Value.none
    | ((with_reducible show Env); exact envOf "" default 0 0 .none)
    | ((with_reducible show LawAt _ _ _ _ _ _); exact next _ _ _ _ _ _ _ _ _ _ _ _ _ _ _ _ (by k_asm) (by (first | exact rfl | with_reducible assumption | (refine Eq.trans (if_neg (by decide)) ?_; first | exact rfl | with_reducible assumption))) (by (first | exact rfl | with_reducible assumption | (refine Eq.trans (if_neg (by decide)) ?_; first | exact rfl | with_reducible assumption))) (by (first | exact rfl | with_reducible assumption | (refine Eq.trans (if_neg (by decide)) ?_; first | exact rfl | with_reducible assumption))) (by k_extra "my nx") )
    | (exfalso; omega)
end
end
section
section
theorem words_49 : True := by
  k_with "eval Name" => (with_reducible rename Mk 49 => mk9); k_extra "#0"
  k_with "eval Name" => (with_reducible rename Mk 49 => mk9); k_extra "#12"
  k_with "execs cons" => (with_reducible rename Mk 49 => mk9); k_extra "#10"
  k_with "call ref" => (with_reducible rename Mk 49 => mk9); (k_here; (refine toKtr ?_); k_dflt (refine' orders_stamps ?hB ?hF ?hX ?hN ?hT ?hK ?hD ?hU ?h0 ?h1 ?h2 ?h3 ?_; (case hB => k_asm); (case hF => k_asm); (case hX => k_asm); (case hN => k_asm); (case hT => k_asm); (case hK => first | exact rfl | assumption); (case hD => k_extra "my dp"); (case hU => k_extra "my dp"); (case h0 => k_mem); (case h1 => k_mem); (case h2 => k_mem); (case h3 => k_mem); k_whole; intro rw9 nw9 h2w9 tk2w9 kFw9 kNw9; (try k_sweep)))
  k_with "call ref" => (with_reducible rename Mk 49 => mk9); (k_here; (refine toKtr ?_); k_dflt (refine' orders_tup ?hB ?hF ?hX ?hN ?hT ?hK ?hD ?hU ?h0 ?h1 ?_; (case hB => k_asm); (case hF => k_asm); (case hX => k_asm); (case hN => k_asm); (case hT => k_asm); (case hK => first | exact rfl | assumption); (case hD => k_extra "my dp"); (case hU => k_extra "my dp"); (case h0 => k_mem); (case h1 => k_mem); k_whole; intro rw9 nw9 h2w9 tk2w9 kFw9 kNw9; (try k_sweep)))
  trivial
theorem l20 (F : Fr b L s.heap m) (N : News b L s.heap [(ls, W.listOf #[.ref y1, .ref y2] 0), (y1, instObj 1024 e1), (e1, dictOf [dE w.params (S "_time") u3 (.int i0 q0), dE w.params (S "_inc") u4 (.int i1 q1)] 2), (y2, instObj 1024 e2), (e2, dictOf [dE w.params (S "_time") u5 (.int i2 q2), dE w.params (S "_inc") u6 (.int i3 q3)] 2), (dt, LCg.lst [.int i0 k0, .int i1 k1, .int i2 k2, .int i3 k3]), (L + 1 + 1 + 1 + 1, o4), (L + 1 + 1 + 1, o3), (L + 1 + 1, o2), (L + 1, o1), (ln, listO vl.toArray nv), (x1, instObj 902 d1), (d1, dictOf [dE w.params (S "_id") u1 (.bytes B t1)] 1), (x2, instObj 902 d2), (d2, dictOf [dE w.params (S "_id") u2 (.bytes C t2)] 1)]) (hv : IntsAre vl ns) (hn0 : 0 < ns.length) (hn1 : ns.length ≤ 20) (c1 : o1.data = .cell (some (.ref ln))) (hl : @LT.lt Nat _ (L + 1 + 1 + 1 + 1) ln) (hl1 : @LT.lt Nat _ ln d1) (hl2 : @LT.lt Nat _ d1 x1) (hl3 : @LT.lt Nat _ x1 d2) (hl4 : @LT.lt Nat _ d2 x2) (ms : m "small" = some (.ref dt)) (m1 : m "first" = some (.ref x1)) (b0 : 0 ≤ i0 ∧ i0 < 4294967296) (b1 : 0 ≤ i1 ∧ i1 < 4294967296) (b2 : 0 ≤ i2 ∧ i2 < 4294967296) (b3 : 0 ≤ i3 ∧ i3 < 4294967296) (mst : m "stamps" = some (.ref ls))
    (next : ∀ h' tk', Fr b L h' m → News b L h' [(ls, W.listOf #[.ref y1, .ref y2] 0), (y1, instObj 1024 e1), (e1, dictOf [dE w.params (S "_time") u3 (.int i0 q0), dE w.params (S "_inc") u4 (.int i1 q1)] 2), (y2, instObj 1024 e2), (e2, dictOf [dE w.params (S "_time") u5 (.int i2 q2), dE w.params (S "_inc") u6 (.int i3 q3)] 2), (dt, LCg.lst [.int i0 k0, .int i1 k1, .int i2 k2, .int i3 k3]), (L + 1 + 1 + 1 + 1, o4), (L + 1 + 1 + 1, o3), (L + 1 + 1, o2), (L + 1, o1), (ln, listO vl.toArray nv), (x1, instObj 902 d1), (d1, dictOf [dE w.params (S "_id") u1 (.bytes B t1)] 1), (x2, instObj 902 d2), (d2, dictOf [dE w.params (S "_id") u2 (.bytes C t2)] 1)] → LawAt w L 21 qk ek { s with heap := h', toks := tk' }) : LawAt w L 20 qk ek s := by
  have mk9 : Mk 49 := .mk
  refine lawSeg 21 (by k_is) fun hstop => ?_
  dsimp only [List.drop] at hstop ⊢
  try k_extra "my fa"
  have B₀ := below_caller b
  k_steps
  all_goals first
    | exact S ""
    | exact (0 : Nat)
    | exact Value.none
    | ((with_reducible show Env); exact envOf "" default 0 0 .none)
    | ((with_reducible show LawAt _ _ _ _ _ _); exact next _ _ (by k_asm)  (by k_extra "my nx") )
    | (exfalso; exact six6 (by assumption))
end
end
section
section
theorem words_50 : True := by
  k_with "eval Name" => (with_reducible rename Mk 50 => mk9); k_extra "#0"
  k_with "execs cons" => (with_reducible rename Mk 50 => mk9); k_extra "#10"
  k_with "execs cons" => (with_reducible rename Mk 50 => mk9); (k_here; k_dflt (refine' TurnAt.go (k := 21) ?ho ?hB (turn21_int ?tX ?tT ?F ?N ?hm ?hc ?_); (case tX => assumption); (case tT => assumption); (case ho => k_is); (case hB => exact rfl); (case F => k_asm); (case N => k_asm); (case hm => k_mem); (case hc => with_reducible assumption); k_whole); intro tnHw9 tnKw9 tnFw9 tnNw9; (try k_sweep))
  k_with "execs cons" => (with_reducible rename Mk 50 => mk9); (k_here; k_dflt (refine' TurnAt.go (k := 21) ?ho ?hB (turn21_str ?tX ?tT ?F ?N ?hm ?hc ?_); (case tX => assumption); (case tT => assumption); (case ho => k_is); (case hB => exact rfl); (case F => k_asm); (case N => k_asm); (case hm => k_mem); (case hc => with_reducible assumption); k_whole); intro tnHw9 tnKw9 tnFw9 tnNw9; (try k_sweep))
  k_with "execs cons" => (with_reducible rename Mk 50 => mk9); (k_here; k_dflt (refine' TurnAt.go (k := 21) ?ho ?hB (turn21_none ?tX ?tT ?F ?N ?hm ?hc ?_); (case tX => assumption); (case tT => assumption); (case ho => k_is); (case hB => exact rfl); (case F => k_asm); (case N => k_asm); (case hm => k_mem); (case hc => with_reducible assumption); k_whole); intro tnHw9 tnKw9 tnFw9 tnNw9; (try k_sweep))
  k_with "execs cons" => (with_reducible rename Mk 50 => mk9); (k_here; k_dflt (refine' TurnAt.go (k := 21) ?ho ?hB (turn21_oid ?tX ?tT ?F ?N ?hm ?hc ?hx ?hy ?_); (case tX => assumption); (case tT => assumption); (case ho => k_is); (case hB => exact rfl); (case F => k_asm); (case N => k_asm); (case hm => k_mem); (case hc => with_reducible assumption); (case hx => k_mem); (case hy => k_mem); k_whole); intro tnHw9 tnKw9 tnFw9 tnNw9; (try k_sweep))
  trivial
theorem l21 (F : Fr b L s.heap m) (N : News b L s.heap [(ls, W.listOf #[.ref y1, .ref y2] 0), (y1, instObj 1024 e1), (e1, dictOf [dE w.params (S "_time") u3 (.int i0 q0), dE w.params (S "_inc") u4 (.int i1 q1)] 2), (dt, LCg.lst [.int i0 k0, .int i1 k1, .int i2 k2, .int i3 k3]), (L + 1 + 1 + 1 + 1, o4), (L + 1 + 1, o2), (x1, instObj 902 d1), (d1, dictOf [dE w.params (S "_id") u1 (.bytes B t1)] 1)]) (m1 : m "first" = some (.ref x1)) {xx : Str} (c4 : o4.data = .cell (some (.str xx t5))) (ne_ls : @Ne Nat ls (L + 1 + 1 + 1 + 1)) (ne_y1 : @Ne Nat y1 (L + 1 + 1 + 1 + 1)) (ne_e1 : @Ne Nat e1 (L + 1 + 1 + 1 + 1)) (ne_dt : @Ne Nat dt (L + 1 + 1 + 1 + 1)) (ne_x1 : @Ne Nat x1 (L + 1 + 1 + 1 + 1)) (ne_d1 : @Ne Nat d1 (L + 1 + 1 + 1 + 1))
    (hO : OwnAt w L ek) (next : ∀ o4 h' tk', Fr b L h' m → News b L h' [(ls, W.listOf #[.ref y1, .ref y2] 0), (y1, instObj 1024 e1), (e1, dictOf [dE w.params (S "_time") u3 (.int i0 q0), dE w.params (S "_inc") u4 (.int i1 q1)] 2), (dt, LCg.lst [.int i0 k0, .int i1 k1, .int i2 k2, .int i3 k3]), (L + 1 + 1 + 1 + 1, o4), (L + 1 + 1, o2), (x1, instObj 902 d1), (d1, dictOf [dE w.params (S "_id") u1 (.bytes B t1)] 1)] → LawAt w L 22 qk ek { s with heap := h', toks := tk' }) : LawAt w L 21 qk ek s := by
  have mk9 : Mk 50 := .mk
  refine lawSegO 22 (by k_is) hO fun hown hstop => ?_
  dsimp only [List.drop] at hstop ⊢
  try k_extra "my fa"
  have B₀ := below_caller b
  k_steps
  all_goals first
    | exact S ""
    | exact (0 : Nat)
    | exact Value.none
    | ((with_reducible show Env); exact envOf "" default 0 0 .none)
    | (show PassesOwn _ _ _ _; assumption)
    | ((with_reducible show LawAt _ _ _ _ _ _); exact next _ _ _ (by k_asm)  (by k_extra "my nx") )
end
end
section
section
theorem words_51 : True := by
  k_with "eval Name" => (with_reducible rename Mk 51 => mk9); k_extra "#0"
  k_with "execs cons" => (with_reducible rename Mk 51 => mk9); k_extra "#10"
  k_with "call ref" => (with_reducible rename Mk 51 => mk9); (k_here; (refine toKtr ?_); k_dflt (refine' ord_min_max ?hB ?hF ?hX ?hN ?hT ?hK ?hD ?hU ?hXB ?hTB ?h0 ?h1 ?h2 ?h3 ?_; (case hB => k_asm); (case hF => k_asm); (case hX => k_asm); (case hN => k_asm); (case hT => k_asm); (case hXB => assumption); (case hTB => assumption); (case hK => first | exact rfl | assumption); (case hD => k_extra "my dp"); (case hU => k_extra "my dp"); (case h0 => k_mem); (case h1 => k_mem); (case h2 => k_mem); (case h3 => k_mem); k_whole; intro rw9 nw9 h2w9 tk2w9 kFw9 kNw9; (try k_sweep)))
  k_with "call ref" => (with_reducible rename Mk 51 => mk9); (k_here; (refine toKtr ?_); k_dflt (refine' ord_max_min ?hB ?hF ?hX ?hN ?hT ?hK ?hD ?hU ?hXB ?hTB ?h0 ?h1 ?h2 ?h3 ?_; (case hB => k_asm); (case hF => k_asm); (case hX => k_asm); (case hN => k_asm); (case hT => k_asm); (case hXB => assumption); (case hTB => assumption); (case hK => first | exact rfl | assumption); (case hD => k_extra "my dp"); (case hU => k_extra "my dp"); (case h0 => k_mem); (case h1 => k_mem); (case h2 => k_mem); (case h3 => k_mem); k_whole; intro rw9 nw9 h2w9 tk2w9 kFw9 kNw9; (try k_sweep)))
  k_with "call ref" => (with_reducible rename Mk 51 => mk9); (k_here; (refine toKtr ?_); k_dflt (refine' ord_min_min ?hB ?hF ?hX ?hN ?hT ?hK ?hD ?hU ?hXB ?hTB ?h0 ?h1 ?h2 ?h3 ?_; (case hB => k_asm); (case hF => k_asm); (case hX => k_asm); (case hN => k_asm); (case hT => k_asm); (case hXB => assumption); (case hTB => assumption); (case hK => first | exact rfl | assumption); (case hD => k_extra "my dp"); (case hU => k_extra "my dp"); (case h0 => k_mem); (case h1 => k_mem); (case h2 => k_mem); (case h3 => k_mem); k_whole; intro rw9 nw9 h2w9 tk2w9 kFw9 kNw9; (try k_sweep)))
  k_with "call ref" => (with_reducible rename Mk 51 => mk9); (k_here; (refine toKtr ?_); k_dflt (refine' ord_max_max ?hB ?hF ?hX ?hN ?hT ?hK ?hD ?hU ?hXB ?hTB ?h0 ?h1 ?h2 ?h3 ?_; (case hB => k_asm); (case hF => k_asm); (case hX => k_asm); (case hN => k_asm); (case hT => k_asm); (case hXB => assumption); (case hTB => assumption); (case hK => first | exact rfl | assumption); (case hD => k_extra "my dp"); (case hU => k_extra "my dp"); (case h0 => k_mem); (case h1 => k_mem); (case h2 => k_mem); (case h3 => k_mem); k_whole; intro rw9 nw9 h2w9 tk2w9 kFw9 kNw9; (try k_sweep)))
  trivial
theorem l22 (F : Fr b L s.heap m) (N : News b L s.heap [(ls, W.listOf #[.ref y1, .ref y2] 0), (y1, instObj 1024 e1), (e1, dictOf [dE w.params (S "_time") u3 (.int i0 q0), dE w.params (S "_inc") u4 (.int i1 q1)] 2), (dt, LCg.lst [.int i0 k0, .int i1 k1, .int i2 k2, .int i3 k3]), (L + 1 + 1 + 1 + 1, o4), (L + 1 + 1, o2), (x1, instObj 902 d1), (d1, dictOf [dE w.params (S "_id") u1 (.bytes B t1)] 1)]) (m1 : m "first" = some (.ref x1))
    (next : ∀ h' tk', Fr b L h' m → News b L h' [(ls, W.listOf #[.ref y1, .ref y2] 0), (y1, instObj 1024 e1), (e1, dictOf [dE w.params (S "_time") u3 (.int i0 q0), dE w.params (S "_inc") u4 (.int i1 q1)] 2), (dt, LCg.lst [.int i0 k0, .int i1 k1, .int i2 k2, .int i3 k3]), (L + 1 + 1 + 1 + 1, o4), (L + 1 + 1, o2), (x1, instObj 902 d1), (d1, dictOf [dE w.params (S "_id") u1 (.bytes B t1)] 1)] → LawAt w L 23 qk ek { s with heap := h', toks := tk' }) : LawAt w L 22 qk ek s := by
  have mk9 : Mk 51 := .mk
  have M9 := allMN N
  dsimp only [AllM] at M9
  revert N next M9
  refine gen9L [(ls, W.listOf #[.ref y1, .ref y2] 0), (y1, instObj 1024 e1), (e1, dictOf [dE w.params (S "_time") u3 (.int i0 q0), dE w.params (S "_inc") u4 (.int i1 q1)] 2), (dt, LCg.lst [.int i0 k0, .int i1 k1, .int i2 k2, .int i3 k3]), (L + 1 + 1 + 1 + 1, o4), (L + 1 + 1, o2), (x1, instObj 902 d1), (d1, dictOf [dE w.params (S "_id") u1 (.bytes B t1)] 1)] fun news => ?_
  intro N next M9
  obtain ⟨q0, q1, q2, q3, q4, q5, q6, q7⟩ := M9
  refine lawSeg 23 (by k_is) fun hstop => ?_
  dsimp only [List.drop] at hstop ⊢
  try k_extra "my fa"
  have B₀ := below_caller b
  k_steps
  all_goals first
    | exact S ""
    | exact (0 : Nat)
    | exact Value.none
    | ((with_reducible show Env); exact envOf "" default 0 0 .none)
    | ((with_reducible show LawAt _ _ _ _ _ _); exact next _ _ (by k_asm)  (by k_extra "my nx") )
end
end
section
section
theorem words_52 : True := by
  k_with "eval Name" => (with_reducible rename Mk 52 => mk9); k_extra "#0"
  k_with "execs cons" => (with_reducible rename Mk 52 => mk9); k_extra "#10"
  k_with "call builtin:isinstance" => (with_reducible rename Mk 52 => mk9); (k_here; ((with_reducible show wpAny _ _ (call _ [Value.ref _, Value.type "dict"]) _ _ _)); k_dflt (refine' isd2 ?N ?hm ?hc ?_; (case N => k_asm); (case hm => k_mem); (case hc => assumption)))
  k_with "getMethod str" => (with_reducible rename Mk 52 => mk9); k_extra "#6"
  k_with "call builtin:str.encode" => (with_reducible rename Mk 52 => mk9); k_extra "#7"
  k_with "ite" => (with_reducible rename Mk 52 => mk9); k_extra "#8"
  k_with "binaryOp Add bytes bytes" => (with_reducible rename Mk 52 => mk9); k_extra "#9"
  k_with "call ref" => (with_reducible rename Mk 52 => mk9); (k_here; (with_reducible show wpAny _ _ (call (Value.ref 1438) _) _ _ _); k_dflt (refine' elem_g ?hB ?hF ?hX ?hN ?hT ?hK ?hD ?hU ?h0 ?h1 ?_; (case hB => k_asm); (case hF => k_asm); (case hX => k_asm); (case hN => k_asm); (case hT => k_asm); (case hK => first | exact rfl | assumption); (case hD => k_extra "my dp"); (case hU => k_extra "my dp"); (case h0 => k_mem); (case h1 => k_mem); k_whole; intro elTw9 elHw9 elKw9 kFw9 kNw9; (try k_sweep)))
  k_with "call ref" => (with_reducible rename Mk 52 => mk9); (k_here; (with_reducible show wpAny _ _ (call (Value.ref 1438) _) _ _ _); k_dflt (refine' elem_l ?hB ?hF ?hX ?hN ?hT ?hK ?hD ?hU ?h0 ?h1 ?_; (case hB => k_asm); (case hF => k_asm); (case hX => k_asm); (case hN => k_asm); (case hT => k_asm); (case hK => first | exact rfl | assumption); (case hD => k_extra "my dp"); (case hU => k_extra "my dp"); (case h0 => k_mem); (case h1 => k_mem); k_whole; intro elTw9 elHw9 elKw9 kFw9 kNw9; (try k_sweep)))
  k_with "call ref" => (with_reducible rename Mk 52 => mk9); (k_here; (with_reducible show wpAny _ _ (call (Value.ref 1438) _) _ _ _); k_dflt (refine' elem_i ?hB ?hF ?hX ?hN ?hT ?hK ?hD ?hU ?h0 ?h1 ?h2 ?_; (case hB => k_asm); (case hF => k_asm); (case hX => k_asm); (case hN => k_asm); (case hT => k_asm); (case hK => first | exact rfl | assumption); (case hD => k_extra "my dp"); (case hU => k_extra "my dp"); (case h1 => k_mem); (case h2 => k_mem); (case h0 => with_reducible assumption); k_whole; intro elTw9 elHw9 elKw9 kFw9 kNw9; (try k_sweep)))
  k_with "call ref" => (with_reducible rename Mk 52 => mk9); (k_here; (with_reducible show wpAny _ _ (call (Value.ref 1438) _) _ _ _); k_dflt (refine' elem_t ?hB ?hF ?hX ?hN ?hT ?hK ?hD ?hU ?h0 ?h1 ?h2 ?h3 ?h4 ?h5 ?_; (case hB => k_asm); (case hF => k_asm); (case hX => k_asm); (case hN => k_asm); (case hT => k_asm); (case hK => first | exact rfl | assumption); (case hD => k_extra "my dp"); (case hU => k_extra "my dp"); (case h4 => k_mem); (case h5 => k_mem); (case h0 => with_reducible assumption); (case h1 => with_reducible assumption); (case h2 => with_reducible assumption); (case h3 => with_reducible assumption); k_whole; intro elTw9 elHw9 elKw9 kFw9 kNw9; (try k_sweep)))
  k_with "getMethod bytes" => (with_reducible rename Mk 52 => mk9); (k_here; (with_reducible show wpAny _ _ (getMethod (Value.bytes _ _) ("join" : Str) _) _ _ _); refine getM_bjoin ?_)
  k_with "call builtin:bytes.join" => (with_reducible rename Mk 52 => mk9); (k_here; k_dflt (refine' call_bjoin4R (k := 32) ?N ?m ?z (by decide) ?_; (case N => k_asm); (case m => k_mem); (case z => (simp only [le4_size, Array.size_append, List.size_toArray, List.length_cons, List.length_nil]; omega)); k_whole; intro bjRw9 bjTw9 bjKw9 bjEw9 bjSw9))
  k_with "call builtin:len" => (with_reducible rename Mk 52 => mk9); (k_here; (with_reducible show wpAny _ _ (call (Value.builtin "len") [Value.bytes _ _]) _ _ _); refine len_32 (by with_reducible assumption) ?_; intro lnTw9 lnKw9)
  k_with "call ref" => (with_reducible rename Mk 52 => mk9); (k_here; (with_reducible show wpAny _ _ (call (Value.ref 1252) _) _ _ _); k_dflt (show wpAny _ _ (call _ [Value.int 37 _]) _ _ _); k_dflt (refine' pack37 ?hB ?hF ?hX ?hN ?hT ?hK ?hD ?hU  ?_; (case hB => k_asm); (case hF => k_asm); (case hX => k_asm); (case hN => k_asm); (case hT => k_asm); (case hK => first | exact rfl | assumption); (case hD => k_extra "my dp"); (case hU => k_extra "my dp"); k_whole; intro pkTw9 pkHw9 pkKw9 kFw9 kNw9; (try k_sweep)))
  trivial
theorem l23 (F : Fr b L s.heap m) (N : News b L s.heap [(ls, W.listOf #[.ref y1, .ref y2] 0), (y1, instObj 1024 e1), (e1, dictOf [dE w.params (S "_time") u3 (.int i0 q0), dE w.params (S "_inc") u4 (.int i1 q1)] 2), (dt, LCg.lst [.int i0 k0, .int i1 k1, .int i2 k2, .int i3 k3]), (L + 1 + 1, o2), (x1, instObj 902 d1), (d1, dictOf [dE w.params (S "_id") u1 (.bytes B t1)] 1)]) (mst : m "stamps" = some (.ref ls)) (m1 : m "first" = some (.ref x1)) (hB : B.size = 12) (b00 : 0 ≤ i0) (b01 : i0 < 4294967296) (b10 : 0 ≤ i1) (b11 : i1 < 4294967296)
    (next : ∀ t' h' tk', Fr b L h' (fun y => if y = "laid" then some (.bytes (docB B i0 i1) t') else m y) → News b L h' [(ls, W.listOf #[.ref y1, .ref y2] 0), (y1, instObj 1024 e1), (e1, dictOf [dE w.params (S "_time") u3 (.int i0 q0), dE w.params (S "_inc") u4 (.int i1 q1)] 2), (dt, LCg.lst [.int i0 k0, .int i1 k1, .int i2 k2, .int i3 k3]), (L + 1 + 1, o2), (x1, instObj 902 d1), (d1, dictOf [dE w.params (S "_id") u1 (.bytes B t1)] 1)] → LawAt w L 24 qk ek { s with heap := h', toks := tk' }) : LawAt w L 23 qk ek s := by
  have mk9 : Mk 52 := .mk
  refine lawSeg 24 (by k_is) fun hstop => ?_
  dsimp only [List.drop] at hstop ⊢
  try k_extra "my fa"
  have B₀ := below_caller b
  k_steps
  all_goals first
    | exact S ""
    | exact (0 : Nat)
    | exact Value.none
    | ((with_reducible show Env); exact envOf "" default 0 0 .none)
    | ((with_reducible show LawAt _ _ _ _ _ _); (with_reducible rename Fr _ _ _ _ => F9); (rename _ = #[7] ++ _ ++ _ ++ _ ++ _ ++ _ => E9); have E8 := doc_enc E9; rw [E8] at F9; exact next _ _ _ F9 (by (refine' News.sub ?dn ?ds; (case dn => with_reducible assumption); (case ds => ((repeat' first | with_reducible exact List.Sublist.refl _ | with_reducible refine' List.Sublist.cons_cons _ ?_ | refine' List.Sublist.cons _ ?_); done)))))
end
end
section
section
theorem words_53 : True := by
  k_with "eval Name" => (with_reducible rename Mk 53 => mk9); k_extra "#0"
  k_with "execs cons" => (with_reducible rename Mk 53 => mk9); k_extra "#10"
  k_with "call ref" => (with_reducible rename Mk 53 => mk9); (k_here; (with_reducible show wpAny _ _ (call (Value.ref 1490) _) _ _ _); (refine toKtr ?_); k_dflt (refine' little ?hB ?hF ?hX ?hN ?hT ?hK ?hD ?hU ?h0 ?h1 ?_; (case hB => k_asm); (case hF => k_asm); (case hX => k_asm); (case hN => k_asm); (case hT => k_asm); (case hK => first | exact rfl | assumption); (case hD => k_extra "my dp"); (case hU => k_extra "my dp"); (case h0 => with_reducible assumption); (case h1 => with_reducible assumption); k_whole; intro lTw9 lHw9 lKw9 kFw9 kNw9; (try k_sweep)))
  k_with "compareOp NotEq bytes bytes" => (with_reducible rename Mk 53 => mk9); (k_here; k_dflt (refine ne_same_b (by assumption) ?_))
  k_with "binaryOp Add bytes bytes" => (with_reducible rename Mk 53 => mk9); (k_here; refine KBy.add_bytes ?z ?_; (case z => (simp only [le4_size, Array.size_append, List.size_toArray, List.length_cons, List.length_nil]; first | decide | omega)); intro adTw9 adKw9)
  trivial
theorem l24 (F : Fr b L s.heap m) (N : News b L s.heap [(ls, W.listOf #[.ref y1, .ref y2] 0), (y1, instObj 1024 e1), (e1, dictOf [dE w.params (S "_time") u3 (.int i0 q0), dE w.params (S "_inc") u4 (.int i1 q1)] 2), (dt, LCg.lst [.int i0 k0, .int i1 k1, .int i2 k2, .int i3 k3]), (L + 1 + 1, o2), (x1, instObj 902 d1), (d1, dictOf [dE w.params (S "_id") u1 (.bytes B t1)] 1)]) (ml : m "laid" = some (.bytes R t4)) (hRd : R = docB B i0 i1) (c2 : o2.data = .cell (some (.bytes B t3))) (hB : B.size = 12) (ms : m "small" = some (.ref dt)) (b00 : 0 ≤ i0) (b01 : i0 < 4294967296) (b10 : 0 ≤ i1) (b11 : i1 < 4294967296)
    (next : ∀ h' tk', Fr b L h' m → News b L h' [(ls, W.listOf #[.ref y1, .ref y2] 0), (y1, instObj 1024 e1), (e1, dictOf [dE w.params (S "_time") u3 (.int i0 q0), dE w.params (S "_inc") u4 (.int i1 q1)] 2), (dt, LCg.lst [.int i0 k0, .int i1 k1, .int i2 k2, .int i3 k3]), (L + 1 + 1, o2), (x1, instObj 902 d1), (d1, dictOf [dE w.params (S "_id") u1 (.bytes B t1)] 1)] → LawAt w L 25 qk ek { s with heap := h', toks := tk' }) : LawAt w L 24 qk ek s := by
  have mk9 : Mk 53 := .mk
  have M9 := allMN N
  dsimp only [AllM] at M9
  revert N next M9
  refine gen9L [(ls, W.listOf #[.ref y1, .ref y2] 0), (y1, instObj 1024 e1), (e1, dictOf [dE w.params (S "_time") u3 (.int i0 q0), dE w.params (S "_inc") u4 (.int i1 q1)] 2), (dt, LCg.lst [.int i0 k0, .int i1 k1, .int i2 k2, .int i3 k3]), (L + 1 + 1, o2), (x1, instObj 902 d1), (d1, dictOf [dE w.params (S "_id") u1 (.bytes B t1)] 1)] fun news => ?_
  intro N next M9
  obtain ⟨q0, q1, q2, q3, q4, q5, q6⟩ := M9
  refine lawSeg 25 (by k_is) fun hstop => ?_
  dsimp only [List.drop] at hstop ⊢
  try k_extra "my fa"
  have B₀ := below_caller b
  k_steps
  all_goals first
    | exact S ""
    | exact (0 : Nat)
    | exact Value.none
    | ((with_reducible show Env); exact envOf "" default 0 0 .none)
    | ((with_reducible show LawAt _ _ _ _ _ _); refine' next _ _ ?fF ?fN; (case fF => k_asm); (case fN => first | with_reducible assumption | (refine' News.sub ?dn ?ds; (case dn => with_reducible assumption); (case ds => ((repeat' first | with_reducible exact List.Sublist.refl _ | with_reducible refine' List.Sublist.cons_cons _ ?_ | refine' List.Sublist.cons _ ?_); done)))))
end
end
section
section
theorem words_54 : True := by
  k_with "eval Name" => (with_reducible rename Mk 54 => mk9); k_extra "#0"
  k_with "execs cons" => (with_reducible rename Mk 54 => mk9); k_extra "#10"
  k_with "call ref" => (with_reducible rename Mk 54 => mk9); (k_here; (with_reducible show wpAny _ _ (call (Value.ref 1462) _) _ _ _); (refine toKtr ?_); k_dflt (refine' dec_doc ?hB ?hF ?hX ?hN ?hT ?hK ?hD ?hU ?h0 ?h1 ?h2 ?h3 ?h4 ?h5 ?h6 ?h7 ?h8 ?h9 ?_; (case hB => k_asm); (case hF => k_asm); (case hX => k_asm); (case hN => k_asm); (case hT => k_asm); (case hK => first | exact rfl | assumption); (case hD => k_extra "my dp"); (case hU => k_extra "my dp"); (case h0 => with_reducible assumption); (case h1 => with_reducible assumption); (case h2 => with_reducible assumption); (case h3 => with_reducible assumption); (case h4 => with_reducible assumption); (case h5 => with_reducible assumption); (case h6 => with_reducible assumption); (case h7 => with_reducible assumption); (case h8 => with_reducible assumption); (case h9 => with_reducible assumption); k_whole; intro rDw9 rOw9 rXiw9 rDiw9 rUiw9 rTbw9 rXtw9 rDtw9 rU1w9 rU2w9 rT1w9 rT2w9 rXlw9 rDlw9 rXgw9 rDgw9 rHw9 rKw9 kFw9 kNw9 rIw9 rLow9; (try k_sweep)))
  trivial
theorem l25 (F : Fr b L s.heap m) (N : News b L s.heap [(ls, W.listOf #[.ref y1, .ref y2] 0), (y1, instObj 1024 e1), (e1, dictOf [dE w.params (S "_time") u3 (.int i0 q0), dE w.params (S "_inc") u4 (.int i1 q1)] 2), (dt, LCg.lst [.int i0 k0, .int i1 k1, .int i2 k2, .int i3 k3]), (L + 1 + 1, o2), (x1, instObj 902 d1), (d1, dictOf [dE w.params (S "_id") u1 (.bytes B t1)] 1)]) (ml : m "laid" = some (.bytes R t4)) (hR : KBw.bInts R = [37, 0, 0, 0, 7, 105, 0, c0, c1, c2, c3, c4, c5, c6, c7, c8, c9, c10, c11, 17, 116, 0, j0, j1, j2, j3, n0, n1, n2, n3, 255, 108, 0, 127, 103, 0, 0]) (hz : R.size = 37) (hBi : KBw.bInts B = [c0, c1, c2, c3, c4, c5, c6, c7, c8, c9, c10, c11]) (hB : B.size = 12) (hj : j0 + 256 * j1 + 65536 * j2 + 16777216 * j3 = i1) (hi : n0 + 256 * n1 + 65536 * n2 + 16777216 * n3 = i0) (b00 : 0 ≤ i0) (b01 : i0 < 4294967296) (b10 : 0 ≤ i1) (b11 : i1 < 4294967296)
    (next : ∀ xg dg xl dl xt dtt v1 v2 w1 w2 xi di ui tb rd ro h' tk', Fr b L h' (fun y => if y = "read" then some (.ref rd) else m y) → News b L h' [(xg, instObj 719 dg), (dg, dictOf [] 0), (xl, instObj 782 dl), (dl, dictOf [] 0), (xt, instObj 1024 dtt), (dtt, dictOf [dE w.params (S "_time") v1 (.int i0 w1), dE w.params (S "_inc") v2 (.int i1 w2)] 2), (xi, instObj 902 di), (di, dictOf [dE w.params (S "_id") ui (.bytes B tb)] 1), (rd, ro), (ls, W.listOf #[.ref y1, .ref y2] 0), (y1, instObj 1024 e1), (e1, dictOf [dE w.params (S "_time") u3 (.int i0 q0), dE w.params (S "_inc") u4 (.int i1 q1)] 2), (dt, LCg.lst [.int i0 k0, .int i1 k1, .int i2 k2, .int i3 k3]), (L + 1 + 1, o2), (x1, instObj 902 d1), (d1, dictOf [dE w.params (S "_id") u1 (.bytes B t1)] 1)] → ro.IsDictOf (PySem.strKind PySem.Challenge.rw_an0026_01.row.prog w) [(S "i", .ref xi), (S "t", .ref xt), (S "l", .ref xl), (S "g", .ref xg)] → (rd == sysModules) = false → LawAt w L 26 qk ek { s with heap := h', toks := tk' }) : LawAt w L 25 qk ek s := by
  have mk9 : Mk 54 := .mk
  refine lawSeg 26 (by k_is) fun hstop => ?_
  dsimp only [List.drop] at hstop ⊢
  try k_extra "my fa"
  have B₀ := below_caller b
  k_steps
  all_goals first
    | exact S ""
    | exact (0 : Nat)
    | exact Value.none
    | ((with_reducible show Env); exact envOf "" default 0 0 .none)
    | ((with_reducible show LawAt _ _ _ _ _ _); refine' next _ _ _ _ _ _ _ _ _ _ _ _ _ _ _ _ _ _ ?fF ?fN ?fI ?fL; (case fF => k_asm); (case fN => first | with_reducible assumption | (refine' News.sub ?dn ?ds; (case dn => with_reducible assumption); (case ds => ((repeat' first | with_reducible exact List.Sublist.refl _ | with_reducible refine' List.Sublist.cons_cons _ ?_ | refine' List.Sublist.cons _ ?_); done)))); (case fI => with_reducible assumption); (case fL => with_reducible assumption))
end
end
section
section
theorem words_55 : True := by
  k_with "eval Name" => (with_reducible rename Mk 55 => mk9); k_extra "#0"
  k_with "execs cons" => (with_reducible rename Mk 55 => mk9); k_extra "#10"
  k_with "eval ListComp" => (with_reducible rename Mk 55 => mk9); (k_here; k_dflt (refine' comp_dict ?c0 ?c1 ?c2 ?c3 ?c4 ?c5 ?_ ?c6; (case c0 => k_asm); (case c1 => with_unfolding_all rfl); (case c2 => decide); (case c3 => rfl); (case c4 => decide); (case c5 => rfl); (case c6 => (intro _; rfl))))
  k_with "Exists" => (with_reducible rename Mk 55 => mk9); (k_here; k_dflt (refine' ⟨_, _, _, _, rfl, rfl, ?lo, ?F, ?N, ?hm, ?hi, ?z, ?_⟩; (case lo => with_reducible assumption); (case F => k_asm); (case N => k_asm); (case hi => with_reducible assumption); (case hm => k_mem); (case z => (rw [sizeLine_eq]; exact (by decide : (4 : Nat) ≤ 16777216))); intro g'w9; refine' comp_all 4 (fun iw9 ysw9 => StrsAre ysw9 (([S "i", S "t", S "l", S "g"] : List Str).take iw9)) ?hS ?turn ?done _ 0 [] rfl ?j; (case j => exact .nil); (case hS => k_mem); (case' done => (intro ysw9 jw9)); (case' turn => (intro iw9 vw9 Iw9 oIw9 Cw9 oCw9 Dw9 ysw9 m₂w9 hw9 tkw9 E'w9 hiw9 jw9 hPw9 hCw9 hxw9 F'w9 N'w9 offw9 new9; (obtain ⟨kw9, xw9, hkxw9, hkkw9⟩ := hPw9)))))
  k_with "compareOp Eq ref ref" => (with_reducible rename Mk 55 => mk9); (k_here; (with_reducible rename StrsAre _ _ => ssXw9); (have ssYw9 := strs4 ssXw9); (obtain ⟨w1w9, w2w9, w3w9, w4w9, ssZw9⟩ := ssYw9); subst ssZw9; k_dflt (refine' eq_same ?ha ?hb ?hu ?he ?_; (case ha => exact isl (by k_asm) (by k_mem) rfl rfl); (case hb => exact isl (by k_asm) (by k_mem) rfl rfl); (case hu => k_units); (case he => (repeat' first | exact AllSame.nil | refine' AllSame.cons ?_ ?_); all_goals first | exact at_bool rfl | exact at_bool (beq_self_eq_true _) | exact at_lists (isl (by k_asm) (by k_mem) rfl rfl) (isl (by k_asm) (by k_mem) rfl rfl) (by k_units) (.cons (at_str rfl) (.cons (at_str rfl) (.cons (at_str rfl) (.cons (at_str rfl) .nil)))))); k_whole)
  k_with "ite" => (with_reducible rename Mk 55 => mk9); (k_here; (with_reducible refine ite_pos (beq_self_eq_true _) ?_))
  trivial
theorem l26 (F : Fr b L s.heap m) (N : News b L s.heap [(xg, instObj 719 dg), (dg, dictOf [] 0), (xl, instObj 782 dl), (dl, dictOf [] 0), (xt, instObj 1024 dtt), (dtt, dictOf [dE w.params (S "_time") v1 (.int i0 w1), dE w.params (S "_inc") v2 (.int i1 w2)] 2), (xi, instObj 902 di), (di, dictOf [dE w.params (S "_id") ui (.bytes B tb)] 1), (rd, ro), (ls, W.listOf #[.ref y1, .ref y2] 0), (y1, instObj 1024 e1), (e1, dictOf [dE w.params (S "_time") u3 (.int i0 q0), dE w.params (S "_inc") u4 (.int i1 q1)] 2), (dt, LCg.lst [.int i0 k0, .int i1 k1, .int i2 k2, .int i3 k3]), (L + 1 + 1, o2), (x1, instObj 902 d1), (d1, dictOf [dE w.params (S "_id") u1 (.bytes B t1)] 1)]) (mr : m "read" = some (.ref rd)) (mst : m "stamps" = some (.ref ls)) (m1 : m "first" = some (.ref x1)) (hro : ro.IsDictOf (PySem.strKind PySem.Challenge.rw_an0026_01.row.prog w) [(S "i", .ref xi), (S "t", .ref xt), (S "l", .ref xl), (S "g", .ref xg)]) (hlo : (rd == sysModules) = false)
    (next : ∀ h' tk', Fr b L h' m → qk (.ret (.bool true)) { s with heap := h', toks := tk' }) : LawAt w L 26 qk ek s := by
  have mk9 : Mk 55 := .mk
  refine lawSeg 27 (by k_is) fun hstop => ?_
  dsimp only [List.drop] at hstop ⊢
  try k_extra "my fa"
  have B₀ := below_caller b
  k_steps
  all_goals first
    | exact S ""
    | exact (0 : Nat)
    | exact Value.none
    | ((with_reducible show Env); exact envOf "" default 0 0 .none)
    | exact next _ _ (by k_asm)
    | ((with_reducible show StrsAre _ _); refine' dict_push2 ?de ?dk ?dh ?di; (case de => assumption); (case dk => rfl); (case dh => assumption); (case di => assumption))
    | k_asm
end
end
end
section
theorem ints4b {ts : List Value} {is : List Int} (h : IntsAre ts is) (e : is.length = 4) : ∃ i0 i1 i2 i3 k0 k1 k2 k3, ts = [.int i0 k0, .int i1 k1, .int i2 k2, .int i3 k3] ∧ is = [i0, i1, i2, i3] := by
  obtain ⟨i0, i1, i2, i3, k0, k1, k2, k3, rfl⟩ := ints4 h e
  refine ⟨i0, i1, i2, i3, k0, k1, k2, k3, rfl, ?_⟩
  cases h with
  | cons _ _ h => cases h with
    | cons _ _ h => cases h with
      | cons _ _ h => cases h with
        | cons _ _ h => cases h; rfl
theorem oth_len {x : Str} (h : OthOf x) : 22 ≤ x.length ∧ x.length ≤ 26 := by
  obtain ⟨l, rfl, hs, a, b⟩ := h
  have e : (Txt.join "" l).length = l.length := by
    show (Txt.join "" l).cps.size = _
    rw [← Array.length_toList, join_cps, List.length_flatten, List.map_map, ← sum_one l hs]
    rfl
  omega
theorem oth_smallJ {x : Str} (h : OthOf x) : ∀ c ∈ x.cps.toList, c < 16 ^ 8 := by
  obtain ⟨l, rfl, hs, a, b⟩ := h
  intro c hc
  rw [join_cps] at hc
  obtain ⟨cs, hcs, hc⟩ := List.mem_flatten.mp hc
  obtain ⟨y, hy, rfl⟩ := List.mem_map.mp hcs
  obtain ⟨k, hk, rfl⟩ := hs y hy
  exact of_decide_eq_true (List.all_eq_true.mp (sig_small k hk) c hc)
theorem upd_pack {b h : Heap} {L : Addr} {m : Str → Option Value} {x : Str} {v : Option Value} (F : Fr b L h (fun y => if y = x then v else m y)) : ∃ m', Fr b L h m' ∧ m' x = v ∧ ∀ z, (z == x) = false → m' z = m z :=
  ⟨_, F, if_pos rfl, fun _ h => if_neg (ne_of_beq_false h)⟩
theorem ne_at {b h : Heap} {L l c : Addr} {o o' : Obj} {x : Option Value} {news : List (Addr × Obj)} (N : News b L h news) (h1 : (l, o) ∈ news) (h2 : (c, o') ∈ news) (hc : o'.data = .cell x) (hn : ∀ x, o.data ≠ .cell x) : @Ne Nat l c := by
  intro e
  have e : l = c := e
  subst e
  have a := (N _ h1).1
  have d := (N _ h2).1
  rw [a] at d
  cases d
  exact hn _ hc
section
variable {w : World} {mean : ExcName → Option Value} {mg mb : Str → Option Value} {b : Heap} {m : Str → Option Value} {s : Shared} {qk : Flow → Shared → Prop} {ek : Value → Shared → Prop} {p : Program} {loose : List Str} {L ln : Addr} {o1 o2 o3 o4 : Obj} {vl : List Value} {ns : List Int}
theorem law_join (X : (K w.params).In b) (T : Top p loose mean mg mb b) (F : Fr b L s.heap m) (N : News b L s.heap [(L + 1 + 1 + 1 + 1, o4), (L + 1 + 1 + 1, o3), (L + 1 + 1, o2), (L + 1, o1)]) (c1 : o1.data = .cell none) (c2 : o2.data = .cell none) (c3 : o3.data = .cell none) (c4 : o4.data = .cell none)
    (hl : b.IsList ln vl.toArray) (hi : IntsAre vl ns) (msc : m "script" = some (.ref ln)) (h63 : ns.length ≤ 63) (hO : OwnAt w L ek)
    (fin : ∀ m' h' tk', Fr b L h' m' → qk (.ret (.bool true)) { s with heap := h', toks := tk' }) : LawAt w L 0 qk ek s := by
  refine l0 X T F N c1 hl hi msc h63 fun ln vl nv ns o1 h tk F c1 N hv hn0 hn1 hl => ?_
  refine seg1 F N X T c1 c2 c3 c4 hv hn0 hn1 trivial hl fun t3 h tk o2 c2 F N => ?_
  have hB : (byteArr (octs ns 12)).size = 12 := by rw [byteArr_size, octs, List.length_map, List.length_range]
  generalize byteArr (octs ns 12) = B at hB c2
  refine l2 X T F N hv hn0 hn1 c1 hl hB c2 fun C t4 h tk F N hC => ?_
  refine l3 X T F N hv hn0 hn1 c1 hl hB c2 (if_pos rfl) hC fun x1 d1 x2 d2 u1 u2 m h tk t1 t2 F m1 m2 m3 N hl1 hl2 hl3 hl4 => ?_
  refine l4 X T F N hv hn0 hn1 c1 hl hl1 hl2 hl3 hl4 hB c2 m1 m2 m3 hC trivial fun t5 h tk F N => ?_
  obtain ⟨m, F, mtx, keep⟩ := upd_pack F
  replace m1 := (keep "first" (by decide)).trans m1
  replace m2 := (keep "second" (by decide)).trans m2
  replace m3 := (keep "two" (by decide)).trans m3
  clear keep
  have hTx := text_is B hB
  have hLow := text_low B hB
  refine l5 X T F N hv hn0 hn1 c1 hl hl1 hl2 hl3 hl4 hB c2 m1 m2 m3 hC mtx hTx hLow trivial hTx.len fun gr t6 h tk F N hGr => ?_
  obtain ⟨m, F, mgr, keep⟩ := upd_pack F
  replace m1 := (keep "first" (by decide)).trans m1
  replace m2 := (keep "second" (by decide)).trans m2
  replace m3 := (keep "two" (by decide)).trans m3
  replace mtx := (keep "text" (by decide)).trans mtx
  clear keep
  refine l6 X T F N hv hn0 hn1 c1 hl hl1 hl2 hl3 hl4 hB c2 m1 m2 m3 hC mtx trivial trivial trivial fun h tk F N => ?_
  refine l7 X T F N hv hn0 hn1 c1 hl hl1 hl2 hl3 hl4 hB c2 m1 m2 m3 hC mtx mgr hTx hGr fun h tk F N => ?_
  refine l8 X T F N hv hn0 hn1 c1 hl hl1 hl2 hl3 hl4 hB c2 m1 m2 m3 hC fun h tk F N => ?_
  refine l9 X T F N hv hn0 hn1 c1 hl hl1 hl2 hl3 hl4 hB c2 m1 m2 m3 hC c3 c4 fun o3 h tk t5 c3 F N => ?_
  refine l10 X T F N hv hn0 hn1 c1 hl hl1 hl2 hl3 hl4 hB c2 m1 m2 m3 hC c3 c4 trivial fun ot o4 t5 h tk F c4 N hot => ?_
  have hol := oth_len hot
  refine l11 X T F N hv hn0 hn1 c1 hl hl1 hl2 hl3 hl4 hB c2 m1 m2 m3 hC c4 hol.2 hol.1 fun hx h tk F N hhx => ?_
  obtain ⟨m, F, m5, keep⟩ := upd_pack F
  replace m1 := (keep "first" (by decide)).trans m1
  replace m2 := (keep "second" (by decide)).trans m2
  replace m3 := (keep "two" (by decide)).trans m3
  clear keep
  have k13 : ∀ dv h' tk', Fr b L h' (fun y => if y = "due" then some dv else m y) → News b L h' [(L + 1 + 1 + 1 + 1, o4), (L + 1 + 1 + 1, o3), (L + 1 + 1, o2), (L + 1, o1), (ln, listO vl.toArray nv), (x1, instObj 902 d1), (d1, dictOf [dE w.params (S "_id") u1 (.bytes B t1)] 1), (x2, instObj 902 d2), (d2, dictOf [dE w.params (S "_id") u2 (.bytes C t2)] 1)] → DueIs ot dv → LawAt w L 13 qk ek { s with heap := h', toks := tk' } := fun dv h tk F N hdu => by
    obtain ⟨m, F, m6, keep⟩ := upd_pack F
    replace m1 := (keep "first" (by decide)).trans m1
    replace m2 := (keep "second" (by decide)).trans m2
    replace m3 := (keep "two" (by decide)).trans m3
    replace m5 := (keep "hexed" (by decide)).trans m5
    clear keep
    refine l13 X T F N hv hn0 hn1 c1 hl hl1 hl2 hl3 hl4 hB c2 m1 m2 m3 hC fun R t6 h tk F N hRs => ?_
    obtain ⟨m, F, m7, keep⟩ := upd_pack F
    replace m1 := (keep "first" (by decide)).trans m1
    replace m2 := (keep "second" (by decide)).trans m2
    replace m3 := (keep "two" (by decide)).trans m3
    replace m5 := (keep "hexed" (by decide)).trans m5
    replace m6 := (keep "due" (by decide)).trans m6
    clear keep
    refine l14 X T F N hv hn0 hn1 c1 hl hl1 hl2 hl3 hl4 hB c2 m1 m2 m3 hC c4 m5 m6 m7 (by omega) (by omega) (repr_le (by omega) (oth_smallJ hot)) hdu hhx hRs fun h tk F N => ?_
    refine l15 X T F N hv hn0 hn1 c1 hl hl1 hl2 hl3 hl4 hB c2 m1 m2 m3 hC fun dt ts is m h tk F mt m1 ht N h4 => ?_
    obtain ⟨i0, i1, i2, i3, k0, k1, k2, k3, rfl, -⟩ := ints4b ht h4
    refine l16 X T F N hv hn0 hn1 c1 hl hl1 hl2 hl3 hl4 mt m1 hO fun m h tk F mt m1 N => ?_
    refine l17 X T F N hv hn0 hn1 c1 hl hl1 hl2 hl3 hl4 mt m1 fun h tk F N => ?_
    refine l18 X T F N hv hn0 hn1 c1 hl hl1 hl2 hl3 hl4 mt m1 fun dt ts js m h tk F ms m1 ht N h4 hb => ?_
    obtain ⟨i0, i1, i2, i3, k0, k1, k2, k3, rfl, rfl⟩ := ints4b ht h4
    have b0 := hb i0 (by simp)
    have b1 := hb i1 (by simp)
    have b2 := hb i2 (by simp)
    have b3 := hb i3 (by simp)
    refine l19 X T F N hv hn0 hn1 c1 hl hl1 hl2 hl3 hl4 ms m1 b0 b1 b2 b3 fun ls y1 y2 e1 e2 u3 u4 u5 u6 q0 q1 q2 q3 m h tk F mst ms m1 N => ?_
    refine l20 X T F N hv hn0 hn1 c1 hl hl1 hl2 hl3 hl4 ms m1 b0 b1 b2 b3 mst fun h tk F N => ?_
    have N8 := News.sub (l' := [(ls, W.listOf #[.ref y1, .ref y2] 0), (y1, instObj 1024 e1), (e1, dictOf [dE w.params (S "_time") u3 (.int i0 q0), dE w.params (S "_inc") u4 (.int i1 q1)] 2), (dt, LCg.lst [.int i0 k0, .int i1 k1, .int i2 k2, .int i3 k3]), (L + 1 + 1 + 1 + 1, o4), (L + 1 + 1, o2), (x1, instObj 902 d1), (d1, dictOf [dE w.params (S "_id") u1 (.bytes B t1)] 1)]) N (by ((repeat' first | with_reducible exact List.Sublist.refl _ | with_reducible refine' List.Sublist.cons_cons _ ?_ | refine' List.Sublist.cons _ ?_); done))
    refine l21 X T F N8 m1 c4 (ne_at N8 (.head _) (.tail _ (.tail _ (.tail _ (.tail _ (.head _))))) c4 (fun _ q => by cases q)) (ne_at N8 (.tail _ (.head _)) (.tail _ (.tail _ (.tail _ (.tail _ (.head _))))) c4 (fun _ q => by cases q)) (ne_at N8 (.tail _ (.tail _ (.head _))) (.tail _ (.tail _ (.tail _ (.tail _ (.head _))))) c4 (fun _ q => by cases q)) (ne_at N8 (.tail _ (.tail _ (.tail _ (.head _)))) (.tail _ (.tail _ (.tail _ (.tail _ (.head _))))) c4 (fun _ q => by cases q)) (ne_at N8 (.tail _ (.tail _ (.tail _ (.tail _ (.tail _ (.tail _ (.head _))))))) (.tail _ (.tail _ (.tail _ (.tail _ (.head _))))) c4 (fun _ q => by cases q)) (ne_at N8 (.tail _ (.tail _ (.tail _ (.tail _ (.tail _ (.tail _ (.tail _ (.head _)))))))) (.tail _ (.tail _ (.tail _ (.tail _ (.head _))))) c4 (fun _ q => by cases q)) hO fun o4 h tk F N => ?_
    refine l22 X T F N m1 fun h tk F N => ?_
    have N7 := News.sub (l' := [(ls, W.listOf #[.ref y1, .ref y2] 0), (y1, instObj 1024 e1), (e1, dictOf [dE w.params (S "_time") u3 (.int i0 q0), dE w.params (S "_inc") u4 (.int i1 q1)] 2), (dt, LCg.lst [.int i0 k0, .int i1 k1, .int i2 k2, .int i3 k3]), (L + 1 + 1, o2), (x1, instObj 902 d1), (d1, dictOf [dE w.params (S "_id") u1 (.bytes B t1)] 1)]) N (by ((repeat' first | with_reducible exact List.Sublist.refl _ | with_reducible refine' List.Sublist.cons_cons _ ?_ | refine' List.Sublist.cons _ ?_); done))
    refine l23 X T F N7 mst m1 hB b0.1 b0.2 b1.1 b1.2 fun t9 h tk F N => ?_
    obtain ⟨m, F, ml, keep⟩ := upd_pack F
    replace m1 := (keep "first" (by decide)).trans m1
    replace ms := (keep "small" (by decide)).trans ms
    replace mst := (keep "stamps" (by decide)).trans mst
    clear keep
    refine l24 X T F N ml rfl c2 hB ms b0.1 b0.2 b1.1 b1.2 fun h tk F N => ?_
    obtain ⟨a0, a1, a2, a3, a4, a5, a6, a7, a8, a9, a10, a11, hBi⟩ := list12 ((KBw.ints_length B).trans hB)
    refine l25 X T F N ml (doc_ints hBi b0.1 b1.1) (doc_size hB) hBi hB (le4_sum b1.1 b1.2) (le4_sum b0.1 b0.2) b0.1 b0.2 b1.1 b1.2 fun xg dg xl dl xt dtt v1 v2 w1 w2 xi di ui tb rd ro h tk F N hro hlo => ?_
    obtain ⟨m, F, mr, keep⟩ := upd_pack F
    replace m1 := (keep "first" (by decide)).trans m1
    replace mst := (keep "stamps" (by decide)).trans mst
    clear keep
    exact l26 X T F N mr mst m1 hro hlo fun h tk F => fin _ _ _ F
  rcases Bool.eq_false_or_eq_true hx with e | e
  · exact l12t X T F N hv hn0 hn1 c1 hl hl1 hl2 hl3 hl4 hB c2 m1 m2 m3 hC c4 hot hol.2 (e ▸ m5) (hhx.mp e).1 (hhx.mp e).2 trivial k13
  · exact l12f X T F N hv hn0 hn1 c1 hl hl1 hl2 hl3 hl4 hB c2 m1 m2 m3 hC c4 hot hol.2 (e ▸ m5) (fun q => by rw [hhx.mpr q] at e; cases e) k13
end
theorem lawAt_go {w : World} {L : Addr} {qk : Flow → Shared → Prop} {ek : Value → Shared → Prop} {s : Shared} {name qual : Str} {params : Arguments} {body : List Stmt} {scope : Scope} {dV kV doc pm cdv ct oc : Value} {an od : Option Addr} {osl : Array (Option Value)}
    (ho : (K w.params).lookup 1495 = some ⟨oc, od, .func (fnOf name qual params body scope dV kV doc pm an cdv ct), osl⟩) (l : LawAt w L 0 qk ek s) :
    wpAny (model PySem.Challenge.rw_an0026_01.row.prog w) (callerA.deeper (envOfC qual scope L 1495 cdv)) (execs body (envOfC qual scope L 1495 cdv)) qk ek s := l _ _ _ _ _ _ _ _ _ _ _ _ _ _ _ ho
theorem ownAt_of {w : World} {L : Addr} {ek : Value → Shared → Prop} {name qual : Str} {params : Arguments} {body : List Stmt} {scope : Scope} {dV kV doc pm cdv ct oc : Value} {an od : Option Addr} {osl : Array (Option Value)}
    (ho : (K w.params).lookup 1495 = some ⟨oc, od, .func (fnOf name qual params body scope dV kV doc pm an cdv ct), osl⟩)
    (h : PassesOwn (model PySem.Challenge.rw_an0026_01.row.prog w) (callerA.deeper (envOfC qual scope L 1495 cdv)) (envOfC qual scope L 1495 cdv) ek) : OwnAt w L ek := by
  intro name' qual' params' body' scope' dV' kV' doc' pm' an' cdv' ct' oc' od' osl' ho'
  rw [ho] at ho'
  unfold fnOf at ho'
  cases ho'
  exact h
theorem law_go2 {w : World} {L : Addr} {qk : Flow → Shared → Prop} {ek : Value → Shared → Prop} {s : Shared} (l : LawAt w L 0 qk ek s) : ∀ {name qual : Str} {params : Arguments} {body : List Stmt} {scope : Scope} {dV kV doc pm cdv ct oc : Value} {an od : Option Addr} {osl : Array (Option Value)},
    some (⟨oc, od, .func (fnOf name qual params body scope dV kV doc pm an cdv ct), osl⟩ : Obj) = some (o1495 PySem.Challenge.pw_an0026_01) →
    wpAny (model PySem.Challenge.rw_an0026_01.row.prog w) (callerA.deeper (envOfC qual scope L 1495 cdv)) (execs body (envOfC qual scope L 1495 cdv)) qk ek s := fun e => lawAt_go (Eq.trans (by k_is) e.symm) l
theorem own_go2 {w : World} {L : Addr} {ek : Value → Shared → Prop} : ∀ {name qual : Str} {params : Arguments} {body : List Stmt} {scope : Scope} {dV kV doc pm cdv ct oc : Value} {an od : Option Addr} {osl : Array (Option Value)},
    some (⟨oc, od, .func (fnOf name qual params body scope dV kV doc pm an cdv ct), osl⟩ : Obj) = some (o1495 PySem.Challenge.pw_an0026_01) →
    PassesOwn (model PySem.Challenge.rw_an0026_01.row.prog w) (callerA.deeper (envOfC qual scope L 1495 cdv)) (envOfC qual scope L 1495 cdv) ek → OwnAt w L ek := fun e h => ownAt_of (Eq.trans (by k_is) e.symm) h
theorem law_fa {P : Params} {h : Heap} {mg : Str → Option Value} {fa : Addr} (X : (K P).In h) (G : h.Ns mainGlobals mg) (hm : mg (Str.ofString "law") = some (.ref fa)) : fa = 1495 := by
  have e1 := mg_of (v := .ref 1495) X G (by kernel_rfl : nsIn (K P) mainGlobals (Str.ofString "law") = some (some (.ref 1495)))
  rw [hm] at e1
  cases e1
  rfl
theorem law_cdv {P : Params} {h : Heap} {o : Obj} {fd : FuncData} (X : (K P).In h) (ho : h.get? 1495 = some o) (hd : o.data = .func fd) : fd.code = .ref 1494 := by
  have e2 := X 1495 (o1495 PySem.Challenge.pw_an0026_01) (by k_is)
  rw [ho] at e2
  cases e2
  have e := congrArg (fun d => match d with | Data.func f => f.code | _ => .none) hd
  exact e.symm
end
set_option maxHeartbeats 0 in
theorem lawHd : PySem.Challenge.rw_an0026_01.Holds := by
  w_on
  refine holds_law wsaid fun said => ?_
  refine holds_open (q := qv) (loose := lo) (Xt := fun s => xlAt qv [] s && recOk (RowW.records PySem.Challenge.rw_an0026_01.row.toRowW) s) (XP := XL qv []) (Yf := Hook.obs hookK) (Ya := Hook.val hookK) (YP := Hook.says hookK) (N := 12000) left (Hook.of hookK) (Hook.keeps hookK) (fun s e => xl_of s (Bool.and_eq_true_iff.mp e).1) XL.keeps (by rfl) (by rfl) (by rfl) (fun s e => recFacts_of (Bool.and_eq_true_iff.mp e).2) (by rfl) said (by decide +kernel) ⟨rfl, rfl, rfl, rfl, rfl, twhole⟩ ?hw ?hc
  case hw => w_witness2
  case hc =>
    intro w s₀ s₁ mg mb G Y fa o pm cd doc dV kV ho hd hcd hD hmg hg args vals as hpre hlay hrd hwl hlo
    have KX := kIn_of Y
    have X := (Ground.X G).1
    have V := (Ground.X G).2
    refine Ground.open G ?_
    intro T B D TE TW
    have hfa := law_fa KX (Top.g T) hmg
    subst hfa
    have hcc := law_cdv KX ho hd
    dsimp only at hcc
    subst hcc
    try (refine guard_noD D (by decide +kernel) ?_; clear D)
    obtain ⟨_, _, M⟩ := bmod_of_top T
    have TA := at_of_top T
    clear hmg
    wrow_args hpre hlay hrd hwl hlo
    all_goals (
      first | refine callC_kw (enter_call ?_) | refine enter_call ?_ | refine callC_kw (enter_callW ?_) | refine enter_callW ?_ | w_how
      w_top on
      try refine codeAny_mono ?_ (fun _ _ g => GoodW.toG g)
      have K0 := below_caller (Top.heap T)
      w_call any ho hd hcd hD T F
      clear hd TA
      k_drop
      skip)
    all_goals try k_fold
    refine law_go2 ?l rfl
    case l =>
      refine' law_join ?x1 ?x2 ?x3 ?N ?c1 ?c2 ?c3 ?c4 ?hl ?hi ?msc ?h63 ?hO ?fin
      case x1 => assumption
      case x2 => assumption
      case x3 => assumption
      case N => assumption
      case c1 => assumption
      case c2 => assumption
      case c3 => assumption
      case c4 => assumption
      case hl => assumption
      case hi => assumption
      case msc => kernel_rfl
      case h63 => omega
      case hO =>
        refine own_go2 rfl ?_
        passes_own
      case fin =>
        intro m' h' tk' F'
        kc_close
end Mine
theorem PySem.Challenge.cw_an0026_01_holds : PySem.Challenge.rw_an0026_01.Holds := by
  exact Mine.lawHd

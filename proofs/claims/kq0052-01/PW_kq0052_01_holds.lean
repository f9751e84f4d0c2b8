import PyProof.Rows.All
import PyProof.FactsTree
import PyProof.ListRange
import OpenK.KCall
import OpenK.KMake
import KE.KxBytes
import KE.KNest
import KE.KLam
import KE.KDictIter
import KE.KSortKey
import KE.KPairTest
import KE.KSortAsk
import KE.KStateBytes
import KE.KTryDeep
import Wide.FinOn
import OpenK.AllK
import Wide.All
import Lean
import PySem.Challenge.RW_kq0052_01
set_option Elab.async false
set_option linter.all false
set_option compiler.extract_closed false
set_option maxRecDepth 100000
namespace Mine
open PySem PySem.W PyProof.Rows
noncomputable section
section
noncomputable section
abbrev ofS (s : String) : PySem.Str := PySem.Str.ofString s
abbrev pw : Program := PySem.Challenge.pw_kq0052_01
def st (i : Nat) : Stmt := pw.main.body.getD i (.Pass default)
def fnP : Stmt → Arguments | .FunctionDef _ a .. => a | _ => ⟨[], [], none, [], [], none, []⟩
def fnB : Stmt → List Stmt | .FunctionDef _ _ b .. => b | _ => []
def fnS : Stmt → Scope | .FunctionDef _ _ _ _ _ _ s .. => s | _ => default
noncomputable def o11_a (P : Params) : Obj := ⟨(.type "tuple"), none, (.seq #[] 0), #[]⟩
noncomputable def o12_a (P : Params) : Obj := ⟨.none, none, (.fields #[]), #[]⟩
noncomputable def o13_a (P : Params) : Obj := ⟨(.type "code"), none, (.fields #[(.str (ofS "<module>") 182), (.str (ofS "<module>") 183), (.str (ofS "/claim/cut.py") 184), (.int (1) 0), (.int (0) 0), (.int (0) 0), (.int (0) 0), (.int (0) 0), (.ref 11), (.bool false), (.int (181) 0), (.ref 12), .none, .none, .none, .none, (.int (185) 0), (.int (1) 0), (.str (ofS "/claim/cut.py") 186)]), #[]⟩
noncomputable def o14_a (P : Params) : Obj := ⟨(.type "frame"), none, .plain, #[(some (.ref 13)), (some (.ref 3)), (some (.ref 3)), none, (some (.str (ofS "__main__") 164)), none, (some (.ref 0))]⟩
noncomputable def t_a (so : Obj) (P : Params) : BT := (.node (boot_o_0 P) (.node (boot_o_1 P) (.node (boot_o_3 P) (.node (boot_o_7 P) .nil .nil) (.node (o11_a P) .nil .nil)) (.node (boot_o_5 P) (.node (boot_o_9 P) .nil .nil) (.node (o13_a P) .nil .nil))) (.node (boot_o_2 P) (.node (boot_o_4 P) (.node (boot_o_8 P) .nil .nil) (.node (o12_a P) .nil .nil)) (.node (boot_o_6 P) (.node (boot_o_10 P) .nil .nil) (.node (o14_a P) .nil .nil))))
noncomputable def s_a (so : Obj) (w : World) (os : OsState) : SharedT := ⟨t_a so w.params, 15, {}, #[], {}, 187, os⟩
noncomputable def p_a : Pos := ⟨0, 0, 0, 0⟩
noncomputable def t_b (so : Obj) (P : Params) : BT := (.node (boot_o_0 P) (.node (boot_o_1 P) (.node (boot_o_3 P) (.node (boot_o_7 P) .nil .nil) (.node (o11_a P) .nil .nil)) (.node (boot_o_5 P) (.node (boot_o_9 P) .nil .nil) (.node (o13_a P) .nil .nil))) (.node (boot_o_2 P) (.node (boot_o_4 P) (.node (boot_o_8 P) .nil .nil) (.node (o12_a P) .nil .nil)) (.node (boot_o_6 P) (.node (boot_o_10 P) .nil .nil) (.node (o14_a P) .nil .nil))))
noncomputable def s_b (so : Obj) (w : World) (os : OsState) : SharedT := ⟨t_b so w.params, 15, {}, #[], {}, 187, os⟩
noncomputable def p_b : Pos := ⟨0, 0, 0, 0⟩
noncomputable def o3_4 (P : Params) : Obj := ⟨(.type "dict"), none, (.dict #[⟨PyData.keyHash P (ofS "__name__"), (.str (ofS "__name__") 165), (.str (ofS "cpy313.tomllib._parser") 201)⟩, ⟨PyData.keyHash P (ofS "__doc__"), (.str (ofS "__doc__") 166), .none⟩, ⟨PyData.keyHash P (ofS "__package__"), (.str (ofS "__package__") 167), .none⟩, ⟨PyData.keyHash P (ofS "__loader__"), (.str (ofS "__loader__") 168), (.builtin "__main__.__loader__#opaque")⟩, ⟨PyData.keyHash P (ofS "__spec__"), (.str (ofS "__spec__") 169), .none⟩, ⟨PyData.keyHash P (ofS "__annotations__"), (.str (ofS "__annotations__") 170), (.ref 6)⟩, ⟨PyData.keyHash P (ofS "__builtins__"), (.str (ofS "__builtins__") 171), (.ref 4)⟩, ⟨PyData.keyHash P (ofS "__file__"), (.str (ofS "__file__") 173), (.str (ofS "/claim/cut.py") 172)⟩, ⟨PyData.keyHash P (ofS "__cached__"), (.str (ofS "__cached__") 174), .none⟩, ⟨PyData.keyHash P (ofS "_wall"), (.str (ofS "_wall") 193), (.ref 21)⟩, ⟨PyData.keyHash P (ofS "digits"), (.str (ofS "digits") 195), (.str (ofS "0123456789") 194)⟩, ⟨PyData.keyHash P (ofS "hexdigits"), (.str (ofS "hexdigits") 200), (.str (ofS "0123456789abcdefABCDEF") 199)⟩] 12), #[]⟩
noncomputable def o12_4 (P : Params) : Obj := ⟨.none, none, (.fields #[(.int (1) 0), (.int (0) 0), (.ref 20)]), #[]⟩
noncomputable def o15_4 (P : Params) : Obj := ⟨(.type "tuple"), none, (.seq #[] 0), #[]⟩
noncomputable def o16_4 (P : Params) : Obj := ⟨.none, none, (.fields #[]), #[]⟩
noncomputable def o17_4 (P : Params) : Obj := ⟨(.type "tuple"), none, (.seq #[(.str (ofS "k") 190)] 0), #[]⟩
noncomputable def o18_4 (P : Params) : Obj := ⟨(.type "tuple"), none, (.seq #[] 0), #[]⟩
noncomputable def o19_4 (P : Params) : Obj := ⟨.none, none, (.func ⟨(ofS "_wall"), (ofS "_wall"), fnP (st 0), .stmts (fnB (st 0)), fnS (st 0), 0, [], .none, .none, .none, .none, none, .none, .none, 0⟩), #[]⟩
noncomputable def o20_4 (P : Params) : Obj := ⟨(.type "code"), none, (.fields #[(.str (ofS "_wall") 187), (.str (ofS "_wall") 188), (.str (ofS "/claim/cut.py") 189), (.int (1) 0), (.int (1) 0), (.int (0) 0), (.int (0) 0), (.int (3) 0), (.ref 15), (.bool true), (.int (181) 0), (.ref 16), .none, (.ref 17), (.ref 18), (.ref 19), (.int (191) 0), (.int (1) 0), (.str (ofS "/claim/cut.py") 192)]), #[]⟩
noncomputable def o21_4 (P : Params) : Obj := ⟨(.type "function"), none, (.func ⟨(ofS "_wall"), (ofS "_wall"), fnP (st 0), .stmts (fnB (st 0)), fnS (st 0), 3, [], .none, .none, .none, (.str (ofS "__main__") 164), none, (.ref 20), .none, 0⟩), #[]⟩
noncomputable def t_4 (so : Obj) (P : Params) : BT := (.node (boot_o_0 P) (.node (boot_o_1 P) (.node (o3_4 P) (.node (boot_o_7 P) (.node (o15_4 P) .nil .nil) .nil) (.node (o11_a P) (.node (o19_4 P) .nil .nil) .nil)) (.node (boot_o_5 P) (.node (boot_o_9 P) (.node (o17_4 P) .nil .nil) .nil) (.node (o13_a P) (.node (o21_4 P) .nil .nil) .nil))) (.node (boot_o_2 P) (.node (boot_o_4 P) (.node (boot_o_8 P) (.node (o16_4 P) .nil .nil) .nil) (.node (o12_4 P) (.node (o20_4 P) .nil .nil) .nil)) (.node (boot_o_6 P) (.node (boot_o_10 P) (.node (o18_4 P) .nil .nil) .nil) (.node (o14_a P) .nil .nil))))
noncomputable def s_4 (so : Obj) (w : World) (os : OsState) : SharedT := ⟨t_4 so w.params, 22, {}, #[], {}, 203, os⟩
noncomputable def p_4 : Pos := ⟨6, 0, 6, 8⟩
noncomputable def o3_5 (P : Params) : Obj := ⟨(.type "dict"), none, (.dict #[⟨PyData.keyHash P (ofS "__name__"), (.str (ofS "__name__") 165), (.str (ofS "cpy313.tomllib._parser") 201)⟩, ⟨PyData.keyHash P (ofS "__doc__"), (.str (ofS "__doc__") 166), .none⟩, ⟨PyData.keyHash P (ofS "__package__"), (.str (ofS "__package__") 167), .none⟩, ⟨PyData.keyHash P (ofS "__loader__"), (.str (ofS "__loader__") 168), (.builtin "__main__.__loader__#opaque")⟩, ⟨PyData.keyHash P (ofS "__spec__"), (.str (ofS "__spec__") 169), .none⟩, ⟨PyData.keyHash P (ofS "__annotations__"), (.str (ofS "__annotations__") 170), (.ref 6)⟩, ⟨PyData.keyHash P (ofS "__builtins__"), (.str (ofS "__builtins__") 171), (.ref 4)⟩, ⟨PyData.keyHash P (ofS "__file__"), (.str (ofS "__file__") 173), (.str (ofS "/claim/cut.py") 172)⟩, ⟨PyData.keyHash P (ofS "__cached__"), (.str (ofS "__cached__") 174), .none⟩, ⟨PyData.keyHash P (ofS "_wall"), (.str (ofS "_wall") 193), (.ref 21)⟩, ⟨PyData.keyHash P (ofS "digits"), (.str (ofS "digits") 195), (.str (ofS "0123456789") 194)⟩, ⟨PyData.keyHash P (ofS "hexdigits"), (.str (ofS "hexdigits") 200), (.str (ofS "0123456789abcdefABCDEF") 199)⟩, ⟨PyData.keyHash P (ofS "HEXDIGIT_CHARS"), (.str (ofS "HEXDIGIT_CHARS") 247), (.ref 22)⟩] 13), #[]⟩
noncomputable def o23_5 (P : Params) : Obj := ⟨(.type "str_ascii_iterator"), none, (.fields #[.none, (.int (22) 0)]), #[]⟩
noncomputable def o24_5 (P : Params) : Obj := ⟨(.type "tuple"), none, (.seq #[] 0), #[]⟩
noncomputable def o25_5 (P : Params) : Obj := ⟨(.type "StopIteration"), none, (.fields #[(.ref 24), .none, .none, .none, (.bool false), .none]), #[]⟩
noncomputable def t_5 (so : Obj) (P : Params) : BT := (.node (boot_o_0 P) (.node (boot_o_1 P) (.node (o3_5 P) (.node (boot_o_7 P) (.node (o15_4 P) .nil .nil) (.node (o23_5 P) .nil .nil)) (.node (o11_a P) (.node (o19_4 P) .nil .nil) .nil)) (.node (boot_o_5 P) (.node (boot_o_9 P) (.node (o17_4 P) .nil .nil) (.node (o25_5 P) .nil .nil)) (.node (o13_a P) (.node (o21_4 P) .nil .nil) .nil))) (.node (boot_o_2 P) (.node (boot_o_4 P) (.node (boot_o_8 P) (.node (o16_4 P) .nil .nil) (.node (o24_5 P) .nil .nil)) (.node (o12_4 P) (.node (o20_4 P) .nil .nil) .nil)) (.node (boot_o_6 P) (.node (boot_o_10 P) (.node (o18_4 P) .nil .nil) .nil) (.node (o14_a P) (.node so .nil .nil) .nil))))
noncomputable def s_5 (so : Obj) (w : World) (os : OsState) : SharedT := ⟨t_5 so w.params, 26, {}, #[], {}, 248, os⟩
noncomputable def p_5 : Pos := ⟨7, 0, 7, 14⟩
noncomputable def o3_6 (P : Params) : Obj := ⟨(.type "dict"), none, (.dict #[⟨PyData.keyHash P (ofS "__name__"), (.str (ofS "__name__") 165), (.str (ofS "cpy313.tomllib._parser") 201)⟩, ⟨PyData.keyHash P (ofS "__doc__"), (.str (ofS "__doc__") 166), .none⟩, ⟨PyData.keyHash P (ofS "__package__"), (.str (ofS "__package__") 167), .none⟩, ⟨PyData.keyHash P (ofS "__loader__"), (.str (ofS "__loader__") 168), (.builtin "__main__.__loader__#opaque")⟩, ⟨PyData.keyHash P (ofS "__spec__"), (.str (ofS "__spec__") 169), .none⟩, ⟨PyData.keyHash P (ofS "__annotations__"), (.str (ofS "__annotations__") 170), (.ref 6)⟩, ⟨PyData.keyHash P (ofS "__builtins__"), (.str (ofS "__builtins__") 171), (.ref 4)⟩, ⟨PyData.keyHash P (ofS "__file__"), (.str (ofS "__file__") 173), (.str (ofS "/claim/cut.py") 172)⟩, ⟨PyData.keyHash P (ofS "__cached__"), (.str (ofS "__cached__") 174), .none⟩, ⟨PyData.keyHash P (ofS "_wall"), (.str (ofS "_wall") 193), (.ref 21)⟩, ⟨PyData.keyHash P (ofS "digits"), (.str (ofS "digits") 195), (.str (ofS "0123456789") 194)⟩, ⟨PyData.keyHash P (ofS "hexdigits"), (.str (ofS "hexdigits") 200), (.str (ofS "0123456789abcdefABCDEF") 199)⟩, ⟨PyData.keyHash P (ofS "HEXDIGIT_CHARS"), (.str (ofS "HEXDIGIT_CHARS") 247), (.ref 22)⟩, ⟨PyData.keyHash P (ofS "TOMLDecodeError"), (.str (ofS "TOMLDecodeError") 265), (.ref 35)⟩] 14), #[]⟩
noncomputable def o12_6 (P : Params) : Obj := ⟨.none, none, (.fields #[(.int (1) 0), (.int (0) 0), (.ref 20), (.int (8) 0), (.int (0) 0), (.ref 31)]), #[]⟩
noncomputable def o26_6 (P : Params) : Obj := ⟨(.type "tuple"), none, (.seq #[(.type "ValueError")] 0), #[]⟩
noncomputable def o27_6 (P : Params) : Obj := ⟨(.type "builtin_function_or_method"), none, (.fields #[(.builtin "type.__prepare__"), (.type "type")]), #[]⟩
noncomputable def o28_6 (P : Params) : Obj := ⟨(.type "dict"), none, (.dict #[⟨PyData.keyHash P (ofS "__module__"), (.str (ofS "__module__") 255), (.str (ofS "cpy313.tomllib._parser") 201)⟩, ⟨PyData.keyHash P (ofS "__qualname__"), (.str (ofS "__qualname__") 257), (.str (ofS "TOMLDecodeError") 256)⟩, ⟨PyData.keyHash P (ofS "__firstlineno__"), (.str (ofS "__firstlineno__") 259), (.int (8) 258)⟩, ⟨PyData.keyHash P (ofS "__static_attributes__"), (.str (ofS "__static_attributes__") 260), (.ref 33)⟩] 4), #[]⟩
noncomputable def o29_6 (P : Params) : Obj := ⟨(.type "tuple"), none, (.seq #[] 0), #[]⟩
noncomputable def o30_6 (P : Params) : Obj := ⟨.none, none, (.fields #[]), #[]⟩
noncomputable def o31_6 (P : Params) : Obj := ⟨(.type "code"), none, (.fields #[(.str (ofS "TOMLDecodeError") 250), (.str (ofS "TOMLDecodeError") 251), (.str (ofS "/claim/cut.py") 252), (.int (8) 0), (.int (0) 0), (.int (0) 0), (.int (0) 0), (.int (0) 0), (.ref 29), (.bool false), (.int (181) 0), (.ref 30), .none, .none, .none, .none, (.int (253) 0), (.int (8) 0), (.str (ofS "/claim/cut.py") 254)]), #[]⟩
noncomputable def o32_6 (P : Params) : Obj := ⟨(.type "frame"), none, .plain, #[(some (.ref 31)), (some (.ref 3)), (some (.ref 28)), none, (some (.str (ofS "cpy313.tomllib._parser") 201)), none, (some (.ref 0))]⟩
noncomputable def o33_6 (P : Params) : Obj := ⟨(.type "tuple"), none, (.seq #[] 0), #[]⟩
noncomputable def o34_6 (P : Params) : Obj := ⟨(.type "dict"), none, (.dict #[⟨PyData.keyHash P (ofS "__module__"), (.str (ofS "__module__") 255), (.str (ofS "cpy313.tomllib._parser") 201)⟩, ⟨PyData.keyHash P (ofS "__firstlineno__"), (.str (ofS "__firstlineno__") 259), (.int (8) 258)⟩, ⟨PyData.keyHash P (ofS "__static_attributes__"), (.str (ofS "__static_attributes__") 260), (.ref 33)⟩, ⟨PyData.keyHash P (ofS "__weakref__"), (.str (ofS "__weakref__") 262), (.ref 36)⟩, ⟨PyData.keyHash P (ofS "__doc__"), (.str (ofS "__doc__") 263), .none⟩] 3), #[]⟩
noncomputable def o35_6 (P : Params) : Obj := ⟨(.type "type"), none, (.cls ⟨(ofS "TOMLDecodeError"), [(.type "ValueError")], [(.ref 35), (.type "ValueError"), (.type "Exception"), (.type "BaseException"), (.type "object")], 34, (ofS "TOMLDecodeError"), true, [], [], false, none, false⟩), #[(some (.ref 26)), none, (some (.str (ofS "TOMLDecodeError") 248)), (some (.str (ofS "TOMLDecodeError") 256)), (some (.builtin "ValueError.__new__")), (some (.bool true))]⟩
noncomputable def o36_6 (P : Params) : Obj := ⟨(.type "getset_descriptor"), none, (.fields #[(.str (ofS "__weakref__") 261), (.ref 35), (.builtin "ExceptionGroup.__weakref__"), .none]), #[]⟩
noncomputable def o37_6 (P : Params) : Obj := ⟨(.type "super"), none, (.fields #[(.ref 35), (.ref 35), (.ref 35)]), #[]⟩
noncomputable def o38_6 (P : Params) : Obj := ⟨(.type "builtin_function_or_method"), none, (.fields #[(.builtin "object.__init_subclass__"), (.ref 35)]), #[]⟩
noncomputable def t_6 (so : Obj) (P : Params) : BT := (.node (boot_o_0 P) (.node (boot_o_1 P) (.node (o3_6 P) (.node (boot_o_7 P) (.node (o15_4 P) (.node (o31_6 P) .nil .nil) .nil) (.node (o23_5 P) .nil .nil)) (.node (o11_a P) (.node (o19_4 P) (.node (o35_6 P) .nil .nil) .nil) (.node (o27_6 P) .nil .nil))) (.node (boot_o_5 P) (.node (boot_o_9 P) (.node (o17_4 P) (.node (o33_6 P) .nil .nil) .nil) (.node (o25_5 P) .nil .nil)) (.node (o13_a P) (.node (o21_4 P) (.node (o37_6 P) .nil .nil) .nil) (.node (o29_6 P) .nil .nil)))) (.node (boot_o_2 P) (.node (boot_o_4 P) (.node (boot_o_8 P) (.node (o16_4 P) (.node (o32_6 P) .nil .nil) .nil) (.node (o24_5 P) .nil .nil)) (.node (o12_6 P) (.node (o20_4 P) (.node (o36_6 P) .nil .nil) .nil) (.node (o28_6 P) .nil .nil))) (.node (boot_o_6 P) (.node (boot_o_10 P) (.node (o18_4 P) (.node (o34_6 P) .nil .nil) .nil) (.node (o26_6 P) .nil .nil)) (.node (o14_a P) (.node so (.node (o38_6 P) .nil .nil) .nil) (.node (o30_6 P) .nil .nil)))))
noncomputable def s_6 (so : Obj) (w : World) (os : OsState) : SharedT := ⟨t_6 so w.params, 39, {}, #[], {}, 266, os⟩
noncomputable def p_6 : Pos := ⟨8, 0, 9, 8⟩
noncomputable def o3_13 (P : Params) : Obj := ⟨(.type "dict"), none, (.dict #[⟨PyData.keyHash P (ofS "__name__"), (.str (ofS "__name__") 165), (.str (ofS "binascii") 304)⟩, ⟨PyData.keyHash P (ofS "__doc__"), (.str (ofS "__doc__") 166), .none⟩, ⟨PyData.keyHash P (ofS "__package__"), (.str (ofS "__package__") 167), .none⟩, ⟨PyData.keyHash P (ofS "__loader__"), (.str (ofS "__loader__") 168), (.builtin "__main__.__loader__#opaque")⟩, ⟨PyData.keyHash P (ofS "__spec__"), (.str (ofS "__spec__") 169), .none⟩, ⟨PyData.keyHash P (ofS "__annotations__"), (.str (ofS "__annotations__") 170), (.ref 6)⟩, ⟨PyData.keyHash P (ofS "__builtins__"), (.str (ofS "__builtins__") 171), (.ref 4)⟩, ⟨PyData.keyHash P (ofS "__file__"), (.str (ofS "__file__") 173), (.str (ofS "/claim/cut.py") 172)⟩, ⟨PyData.keyHash P (ofS "__cached__"), (.str (ofS "__cached__") 174), .none⟩, ⟨PyData.keyHash P (ofS "_wall"), (.str (ofS "_wall") 193), (.ref 21)⟩, ⟨PyData.keyHash P (ofS "digits"), (.str (ofS "digits") 195), (.str (ofS "0123456789") 194)⟩, ⟨PyData.keyHash P (ofS "hexdigits"), (.str (ofS "hexdigits") 200), (.str (ofS "0123456789abcdefABCDEF") 199)⟩, ⟨PyData.keyHash P (ofS "HEXDIGIT_CHARS"), (.str (ofS "HEXDIGIT_CHARS") 247), (.ref 22)⟩, ⟨PyData.keyHash P (ofS "TOMLDecodeError"), (.str (ofS "TOMLDecodeError") 265), (.ref 35)⟩, ⟨PyData.keyHash P (ofS "parse_hex_char"), (.str (ofS "parse_hex_char") 276), (.ref 45)⟩, ⟨PyData.keyHash P (ofS "suffixed_err"), (.str (ofS "suffixed_err") 286), (.ref 52)⟩, ⟨PyData.keyHash P (ofS "is_unicode_scalar_value"), (.str (ofS "is_unicode_scalar_value") 293), (.ref 59)⟩, ⟨PyData.keyHash P (ofS "bytes_types"), (.str (ofS "bytes_types") 296), (.ref 60)⟩, ⟨PyData.keyHash P (ofS "_bytes_from_decode_data"), (.str (ofS "_bytes_from_decode_data") 303), (.ref 67)⟩] 19), #[]⟩
noncomputable def o12_13 (P : Params) : Obj := ⟨.none, none, (.fields #[(.int (1) 0), (.int (0) 0), (.ref 20), (.int (8) 0), (.int (0) 0), (.ref 31), (.int (10) 0), (.int (0) 0), (.ref 44), (.int (19) 0), (.int (0) 0), (.ref 51), (.int (31) 0), (.int (0) 0), (.ref 58), (.int (35) 0), (.int (0) 0), (.ref 66)]), #[]⟩
noncomputable def o39_13 (P : Params) : Obj := ⟨(.type "tuple"), none, (.seq #[] 0), #[]⟩
noncomputable def o40_13 (P : Params) : Obj := ⟨.none, none, (.fields #[]), #[]⟩
noncomputable def o41_13 (P : Params) : Obj := ⟨(.type "tuple"), none, (.seq #[(.str (ofS "src") 269), (.str (ofS "pos") 270), (.str (ofS "hex_len") 271), (.str (ofS "hex_str") 272), (.str (ofS "hex_int") 273)] 0), #[]⟩
noncomputable def o42_13 (P : Params) : Obj := ⟨(.type "tuple"), none, (.seq #[] 0), #[]⟩
noncomputable def o43_13 (P : Params) : Obj := ⟨.none, none, (.func ⟨(ofS "parse_hex_char"), (ofS "parse_hex_char"), fnP (st 6), .stmts (fnB (st 6)), fnS (st 6), 0, [], .none, .none, .none, .none, none, .none, .none, 0⟩), #[]⟩
noncomputable def o44_13 (P : Params) : Obj := ⟨(.type "code"), none, (.fields #[(.str (ofS "parse_hex_char") 266), (.str (ofS "parse_hex_char") 267), (.str (ofS "/claim/cut.py") 268), (.int (10) 0), (.int (3) 0), (.int (0) 0), (.int (0) 0), (.int (3) 0), (.ref 39), (.bool true), (.int (181) 0), (.ref 40), .none, (.ref 41), (.ref 42), (.ref 43), (.int (274) 0), (.int (10) 0), (.str (ofS "/claim/cut.py") 275)]), #[]⟩
noncomputable def o45_13 (P : Params) : Obj := ⟨(.type "function"), none, (.func ⟨(ofS "parse_hex_char"), (ofS "parse_hex_char"), fnP (st 6), .stmts (fnB (st 6)), fnS (st 6), 3, [], .none, .none, .none, (.str (ofS "cpy313.tomllib._parser") 201), none, (.ref 44), .none, 0⟩), #[]⟩
noncomputable def o46_13 (P : Params) : Obj := ⟨(.type "tuple"), none, (.seq #[] 0), #[]⟩
noncomputable def o47_13 (P : Params) : Obj := ⟨.none, none, (.fields #[]), #[]⟩
noncomputable def o48_13 (P : Params) : Obj := ⟨(.type "tuple"), none, (.seq #[(.str (ofS "src") 280), (.str (ofS "pos") 281), (.str (ofS "msg") 282), (.str (ofS "coord_repr") 283)] 0), #[]⟩
noncomputable def o49_13 (P : Params) : Obj := ⟨(.type "tuple"), none, (.seq #[] 0), #[]⟩
noncomputable def o50_13 (P : Params) : Obj := ⟨.none, none, (.func ⟨(ofS "suffixed_err"), (ofS "suffixed_err"), fnP (st 7), .stmts (fnB (st 7)), fnS (st 7), 0, [], .none, .none, .none, .none, none, .none, .none, 0⟩), #[]⟩
noncomputable def o51_13 (P : Params) : Obj := ⟨(.type "code"), none, (.fields #[(.str (ofS "suffixed_err") 277), (.str (ofS "suffixed_err") 278), (.str (ofS "/claim/cut.py") 279), (.int (19) 0), (.int (3) 0), (.int (0) 0), (.int (0) 0), (.int (3) 0), (.ref 46), (.bool true), (.int (181) 0), (.ref 47), .none, (.ref 48), (.ref 49), (.ref 50), (.int (284) 0), (.int (19) 0), (.str (ofS "/claim/cut.py") 285)]), #[]⟩
noncomputable def o52_13 (P : Params) : Obj := ⟨(.type "function"), none, (.func ⟨(ofS "suffixed_err"), (ofS "suffixed_err"), fnP (st 7), .stmts (fnB (st 7)), fnS (st 7), 3, [], .none, .none, .none, (.str (ofS "cpy313.tomllib._parser") 201), none, (.ref 51), .none, 0⟩), #[]⟩
noncomputable def o53_13 (P : Params) : Obj := ⟨(.type "tuple"), none, (.seq #[] 0), #[]⟩
noncomputable def o54_13 (P : Params) : Obj := ⟨.none, none, (.fields #[]), #[]⟩
noncomputable def o55_13 (P : Params) : Obj := ⟨(.type "tuple"), none, (.seq #[(.str (ofS "codepoint") 290)] 0), #[]⟩
noncomputable def o56_13 (P : Params) : Obj := ⟨(.type "tuple"), none, (.seq #[] 0), #[]⟩
noncomputable def o57_13 (P : Params) : Obj := ⟨.none, none, (.func ⟨(ofS "is_unicode_scalar_value"), (ofS "is_unicode_scalar_value"), fnP (st 8), .stmts (fnB (st 8)), fnS (st 8), 0, [], .none, .none, .none, .none, none, .none, .none, 0⟩), #[]⟩
noncomputable def o58_13 (P : Params) : Obj := ⟨(.type "code"), none, (.fields #[(.str (ofS "is_unicode_scalar_value") 287), (.str (ofS "is_unicode_scalar_value") 288), (.str (ofS "/claim/cut.py") 289), (.int (31) 0), (.int (1) 0), (.int (0) 0), (.int (0) 0), (.int (3) 0), (.ref 53), (.bool true), (.int (181) 0), (.ref 54), .none, (.ref 55), (.ref 56), (.ref 57), (.int (291) 0), (.int (31) 0), (.str (ofS "/claim/cut.py") 292)]), #[]⟩
noncomputable def o59_13 (P : Params) : Obj := ⟨(.type "function"), none, (.func ⟨(ofS "is_unicode_scalar_value"), (ofS "is_unicode_scalar_value"), fnP (st 8), .stmts (fnB (st 8)), fnS (st 8), 3, [], .none, .none, .none, (.str (ofS "cpy313.tomllib._parser") 201), none, (.ref 58), .none, 0⟩), #[]⟩
noncomputable def o60_13 (P : Params) : Obj := ⟨(.type "tuple"), none, (.seq #[(.type "bytes"), (.type "bytearray")] 0), #[]⟩
noncomputable def o61_13 (P : Params) : Obj := ⟨(.type "tuple"), none, (.seq #[] 0), #[]⟩
noncomputable def o62_13 (P : Params) : Obj := ⟨.none, none, (.fields #[]), #[]⟩
noncomputable def o63_13 (P : Params) : Obj := ⟨(.type "tuple"), none, (.seq #[(.str (ofS "s") 300)] 0), #[]⟩
noncomputable def o64_13 (P : Params) : Obj := ⟨(.type "tuple"), none, (.seq #[] 0), #[]⟩
noncomputable def o65_13 (P : Params) : Obj := ⟨.none, none, (.func ⟨(ofS "_bytes_from_decode_data"), (ofS "_bytes_from_decode_data"), fnP (st 11), .stmts (fnB (st 11)), fnS (st 11), 0, [], .none, .none, .none, .none, none, .none, .none, 0⟩), #[]⟩
noncomputable def o66_13 (P : Params) : Obj := ⟨(.type "code"), none, (.fields #[(.str (ofS "_bytes_from_decode_data") 297), (.str (ofS "_bytes_from_decode_data") 298), (.str (ofS "/claim/cut.py") 299), (.int (35) 0), (.int (1) 0), (.int (0) 0), (.int (0) 0), (.int (3) 0), (.ref 61), (.bool true), (.int (181) 0), (.ref 62), .none, (.ref 63), (.ref 64), (.ref 65), (.int (301) 0), (.int (35) 0), (.str (ofS "/claim/cut.py") 302)]), #[]⟩
noncomputable def o67_13 (P : Params) : Obj := ⟨(.type "function"), none, (.func ⟨(ofS "_bytes_from_decode_data"), (ofS "_bytes_from_decode_data"), fnP (st 11), .stmts (fnB (st 11)), fnS (st 11), 3, [], .none, .none, .none, (.str (ofS "cpy313.base64") 294), none, (.ref 66), .none, 0⟩), #[]⟩
noncomputable def t_13 (so : Obj) (P : Params) : BT := (.node (boot_o_0 P) (.node (boot_o_1 P) (.node (o3_13 P) (.node (boot_o_7 P) (.node (o15_4 P) (.node (o31_6 P) (.node (o63_13 P) .nil .nil) .nil) (.node (o47_13 P) .nil .nil)) (.node (o23_5 P) (.node (o39_13 P) .nil .nil) (.node (o55_13 P) .nil .nil))) (.node (o11_a P) (.node (o19_4 P) (.node (o35_6 P) (.node (o67_13 P) .nil .nil) .nil) (.node (o51_13 P) .nil .nil)) (.node (o27_6 P) (.node (o43_13 P) .nil .nil) (.node (o59_13 P) .nil .nil)))) (.node (boot_o_5 P) (.node (boot_o_9 P) (.node (o17_4 P) (.node (o33_6 P) (.node (o65_13 P) .nil .nil) .nil) (.node (o49_13 P) .nil .nil)) (.node (o25_5 P) (.node (o41_13 P) .nil .nil) (.node (o57_13 P) .nil .nil))) (.node (o13_a P) (.node (o21_4 P) (.node (o37_6 P) .nil .nil) (.node (o53_13 P) .nil .nil)) (.node (o29_6 P) (.node (o45_13 P) .nil .nil) (.node (o61_13 P) .nil .nil))))) (.node (boot_o_2 P) (.node (boot_o_4 P) (.node (boot_o_8 P) (.node (o16_4 P) (.node (o32_6 P) (.node (o64_13 P) .nil .nil) .nil) (.node (o48_13 P) .nil .nil)) (.node (o24_5 P) (.node (o40_13 P) .nil .nil) (.node (o56_13 P) .nil .nil))) (.node (o12_13 P) (.node (o20_4 P) (.node (o36_6 P) .nil .nil) (.node (o52_13 P) .nil .nil)) (.node (o28_6 P) (.node (o44_13 P) .nil .nil) (.node (o60_13 P) .nil .nil)))) (.node (boot_o_6 P) (.node (boot_o_10 P) (.node (o18_4 P) (.node (o34_6 P) (.node (o66_13 P) .nil .nil) .nil) (.node (o50_13 P) .nil .nil)) (.node (o26_6 P) (.node (o42_13 P) .nil .nil) (.node (o58_13 P) .nil .nil))) (.node (o14_a P) (.node so (.node (o38_6 P) .nil .nil) (.node (o54_13 P) .nil .nil)) (.node (o30_6 P) (.node (o46_13 P) .nil .nil) (.node (o62_13 P) .nil .nil))))))
noncomputable def s_13 (so : Obj) (w : World) (os : OsState) : SharedT := ⟨t_13 so w.params, 68, {}, #[], {}, 306, os⟩
noncomputable def p_13 : Pos := ⟨47, 0, 47, 8⟩
noncomputable def o3_14 (P : Params) : Obj := ⟨(.type "dict"), none, (.dict #[⟨PyData.keyHash P (ofS "__name__"), (.str (ofS "__name__") 165), (.str (ofS "binascii") 304)⟩, ⟨PyData.keyHash P (ofS "__doc__"), (.str (ofS "__doc__") 166), .none⟩, ⟨PyData.keyHash P (ofS "__package__"), (.str (ofS "__package__") 167), .none⟩, ⟨PyData.keyHash P (ofS "__loader__"), (.str (ofS "__loader__") 168), (.builtin "__main__.__loader__#opaque")⟩, ⟨PyData.keyHash P (ofS "__spec__"), (.str (ofS "__spec__") 169), .none⟩, ⟨PyData.keyHash P (ofS "__annotations__"), (.str (ofS "__annotations__") 170), (.ref 6)⟩, ⟨PyData.keyHash P (ofS "__builtins__"), (.str (ofS "__builtins__") 171), (.ref 4)⟩, ⟨PyData.keyHash P (ofS "__file__"), (.str (ofS "__file__") 173), (.str (ofS "/claim/cut.py") 172)⟩, ⟨PyData.keyHash P (ofS "__cached__"), (.str (ofS "__cached__") 174), .none⟩, ⟨PyData.keyHash P (ofS "_wall"), (.str (ofS "_wall") 193), (.ref 21)⟩, ⟨PyData.keyHash P (ofS "digits"), (.str (ofS "digits") 195), (.str (ofS "0123456789") 194)⟩, ⟨PyData.keyHash P (ofS "hexdigits"), (.str (ofS "hexdigits") 200), (.str (ofS "0123456789abcdefABCDEF") 199)⟩, ⟨PyData.keyHash P (ofS "HEXDIGIT_CHARS"), (.str (ofS "HEXDIGIT_CHARS") 247), (.ref 22)⟩, ⟨PyData.keyHash P (ofS "TOMLDecodeError"), (.str (ofS "TOMLDecodeError") 265), (.ref 35)⟩, ⟨PyData.keyHash P (ofS "parse_hex_char"), (.str (ofS "parse_hex_char") 276), (.ref 45)⟩, ⟨PyData.keyHash P (ofS "suffixed_err"), (.str (ofS "suffixed_err") 286), (.ref 52)⟩, ⟨PyData.keyHash P (ofS "is_unicode_scalar_value"), (.str (ofS "is_unicode_scalar_value") 293), (.ref 59)⟩, ⟨PyData.keyHash P (ofS "bytes_types"), (.str (ofS "bytes_types") 296), (.ref 60)⟩, ⟨PyData.keyHash P (ofS "_bytes_from_decode_data"), (.str (ofS "_bytes_from_decode_data") 303), (.ref 67)⟩, ⟨PyData.keyHash P (ofS "Error"), (.str (ofS "Error") 323), (.ref 77)⟩] 20), #[]⟩
noncomputable def o12_14 (P : Params) : Obj := ⟨.none, none, (.fields #[(.int (1) 0), (.int (0) 0), (.ref 20), (.int (8) 0), (.int (0) 0), (.ref 31), (.int (10) 0), (.int (0) 0), (.ref 44), (.int (19) 0), (.int (0) 0), (.ref 51), (.int (31) 0), (.int (0) 0), (.ref 58), (.int (35) 0), (.int (0) 0), (.ref 66), (.int (48) 0), (.int (0) 0), (.ref 73)]), #[]⟩
noncomputable def o68_14 (P : Params) : Obj := ⟨(.type "tuple"), none, (.seq #[(.type "ValueError")] 0), #[]⟩
noncomputable def o69_14 (P : Params) : Obj := ⟨(.type "builtin_function_or_method"), none, (.fields #[(.builtin "type.__prepare__"), (.type "type")]), #[]⟩
noncomputable def o70_14 (P : Params) : Obj := ⟨(.type "dict"), none, (.dict #[⟨PyData.keyHash P (ofS "__module__"), (.str (ofS "__module__") 313), (.str (ofS "binascii") 304)⟩, ⟨PyData.keyHash P (ofS "__qualname__"), (.str (ofS "__qualname__") 315), (.str (ofS "Error") 314)⟩, ⟨PyData.keyHash P (ofS "__firstlineno__"), (.str (ofS "__firstlineno__") 317), (.int (48) 316)⟩, ⟨PyData.keyHash P (ofS "__static_attributes__"), (.str (ofS "__static_attributes__") 318), (.ref 75)⟩] 4), #[]⟩
noncomputable def o71_14 (P : Params) : Obj := ⟨(.type "tuple"), none, (.seq #[] 0), #[]⟩
noncomputable def o72_14 (P : Params) : Obj := ⟨.none, none, (.fields #[]), #[]⟩
noncomputable def o73_14 (P : Params) : Obj := ⟨(.type "code"), none, (.fields #[(.str (ofS "Error") 308), (.str (ofS "Error") 309), (.str (ofS "/claim/cut.py") 310), (.int (48) 0), (.int (0) 0), (.int (0) 0), (.int (0) 0), (.int (0) 0), (.ref 71), (.bool false), (.int (181) 0), (.ref 72), .none, .none, .none, .none, (.int (311) 0), (.int (48) 0), (.str (ofS "/claim/cut.py") 312)]), #[]⟩
noncomputable def o74_14 (P : Params) : Obj := ⟨(.type "frame"), none, .plain, #[(some (.ref 73)), (some (.ref 3)), (some (.ref 70)), none, (some (.str (ofS "binascii") 304)), none, (some (.ref 0))]⟩
noncomputable def o75_14 (P : Params) : Obj := ⟨(.type "tuple"), none, (.seq #[] 0), #[]⟩
noncomputable def o76_14 (P : Params) : Obj := ⟨(.type "dict"), none, (.dict #[⟨PyData.keyHash P (ofS "__module__"), (.str (ofS "__module__") 313), (.str (ofS "binascii") 304)⟩, ⟨PyData.keyHash P (ofS "__firstlineno__"), (.str (ofS "__firstlineno__") 317), (.int (48) 316)⟩, ⟨PyData.keyHash P (ofS "__static_attributes__"), (.str (ofS "__static_attributes__") 318), (.ref 75)⟩, ⟨PyData.keyHash P (ofS "__weakref__"), (.str (ofS "__weakref__") 320), (.ref 78)⟩, ⟨PyData.keyHash P (ofS "__doc__"), (.str (ofS "__doc__") 321), .none⟩] 3), #[]⟩
noncomputable def o77_14 (P : Params) : Obj := ⟨(.type "type"), none, (.cls ⟨(ofS "Error"), [(.type "ValueError")], [(.ref 77), (.type "ValueError"), (.type "Exception"), (.type "BaseException"), (.type "object")], 76, (ofS "Error"), true, [], [], false, none, false⟩), #[(some (.ref 68)), none, (some (.str (ofS "Error") 306)), (some (.str (ofS "Error") 314)), (some (.builtin "ValueError.__new__")), (some (.bool true))]⟩
noncomputable def o78_14 (P : Params) : Obj := ⟨(.type "getset_descriptor"), none, (.fields #[(.str (ofS "__weakref__") 319), (.ref 77), (.builtin "ExceptionGroup.__weakref__"), .none]), #[]⟩
noncomputable def o79_14 (P : Params) : Obj := ⟨(.type "super"), none, (.fields #[(.ref 77), (.ref 77), (.ref 77)]), #[]⟩
noncomputable def o80_14 (P : Params) : Obj := ⟨(.type "builtin_function_or_method"), none, (.fields #[(.builtin "object.__init_subclass__"), (.ref 77)]), #[]⟩
noncomputable def t_14 (so : Obj) (P : Params) : BT := (.node (boot_o_0 P) (.node (boot_o_1 P) (.node (o3_14 P) (.node (boot_o_7 P) (.node (o15_4 P) (.node (o31_6 P) (.node (o63_13 P) .nil .nil) .nil) (.node (o47_13 P) (.node (o79_14 P) .nil .nil) .nil)) (.node (o23_5 P) (.node (o39_13 P) (.node (o71_14 P) .nil .nil) .nil) (.node (o55_13 P) .nil .nil))) (.node (o11_a P) (.node (o19_4 P) (.node (o35_6 P) (.node (o67_13 P) .nil .nil) .nil) (.node (o51_13 P) .nil .nil)) (.node (o27_6 P) (.node (o43_13 P) (.node (o75_14 P) .nil .nil) .nil) (.node (o59_13 P) .nil .nil)))) (.node (boot_o_5 P) (.node (boot_o_9 P) (.node (o17_4 P) (.node (o33_6 P) (.node (o65_13 P) .nil .nil) .nil) (.node (o49_13 P) .nil .nil)) (.node (o25_5 P) (.node (o41_13 P) (.node (o73_14 P) .nil .nil) .nil) (.node (o57_13 P) .nil .nil))) (.node (o13_a P) (.node (o21_4 P) (.node (o37_6 P) (.node (o69_14 P) .nil .nil) .nil) (.node (o53_13 P) .nil .nil)) (.node (o29_6 P) (.node (o45_13 P) (.node (o77_14 P) .nil .nil) .nil) (.node (o61_13 P) .nil .nil))))) (.node (boot_o_2 P) (.node (boot_o_4 P) (.node (boot_o_8 P) (.node (o16_4 P) (.node (o32_6 P) (.node (o64_13 P) .nil .nil) .nil) (.node (o48_13 P) (.node (o80_14 P) .nil .nil) .nil)) (.node (o24_5 P) (.node (o40_13 P) (.node (o72_14 P) .nil .nil) .nil) (.node (o56_13 P) .nil .nil))) (.node (o12_14 P) (.node (o20_4 P) (.node (o36_6 P) (.node (o68_14 P) .nil .nil) .nil) (.node (o52_13 P) .nil .nil)) (.node (o28_6 P) (.node (o44_13 P) (.node (o76_14 P) .nil .nil) .nil) (.node (o60_13 P) .nil .nil)))) (.node (boot_o_6 P) (.node (boot_o_10 P) (.node (o18_4 P) (.node (o34_6 P) (.node (o66_13 P) .nil .nil) .nil) (.node (o50_13 P) .nil .nil)) (.node (o26_6 P) (.node (o42_13 P) (.node (o74_14 P) .nil .nil) .nil) (.node (o58_13 P) .nil .nil))) (.node (o14_a P) (.node so (.node (o38_6 P) (.node (o70_14 P) .nil .nil) .nil) (.node (o54_13 P) .nil .nil)) (.node (o30_6 P) (.node (o46_13 P) (.node (o78_14 P) .nil .nil) .nil) (.node (o62_13 P) .nil .nil))))))
noncomputable def s_14 (so : Obj) (w : World) (os : OsState) : SharedT := ⟨t_14 so w.params, 81, {}, #[], {}, 324, os⟩
noncomputable def p_14 : Pos := ⟨48, 0, 49, 8⟩
noncomputable def o3_21 (P : Params) : Obj := ⟨(.type "dict"), none, (.dict #[⟨PyData.keyHash P (ofS "__name__"), (.str (ofS "__name__") 165), (.str (ofS "binascii") 304)⟩, ⟨PyData.keyHash P (ofS "__doc__"), (.str (ofS "__doc__") 166), .none⟩, ⟨PyData.keyHash P (ofS "__package__"), (.str (ofS "__package__") 167), .none⟩, ⟨PyData.keyHash P (ofS "__loader__"), (.str (ofS "__loader__") 168), (.builtin "__main__.__loader__#opaque")⟩, ⟨PyData.keyHash P (ofS "__spec__"), (.str (ofS "__spec__") 169), .none⟩, ⟨PyData.keyHash P (ofS "__annotations__"), (.str (ofS "__annotations__") 170), (.ref 6)⟩, ⟨PyData.keyHash P (ofS "__builtins__"), (.str (ofS "__builtins__") 171), (.ref 4)⟩, ⟨PyData.keyHash P (ofS "__file__"), (.str (ofS "__file__") 173), (.str (ofS "/claim/cut.py") 172)⟩, ⟨PyData.keyHash P (ofS "__cached__"), (.str (ofS "__cached__") 174), .none⟩, ⟨PyData.keyHash P (ofS "_wall"), (.str (ofS "_wall") 193), (.ref 21)⟩, ⟨PyData.keyHash P (ofS "digits"), (.str (ofS "digits") 195), (.str (ofS "0123456789") 194)⟩, ⟨PyData.keyHash P (ofS "hexdigits"), (.str (ofS "hexdigits") 200), (.str (ofS "0123456789abcdefABCDEF") 199)⟩, ⟨PyData.keyHash P (ofS "HEXDIGIT_CHARS"), (.str (ofS "HEXDIGIT_CHARS") 247), (.ref 22)⟩, ⟨PyData.keyHash P (ofS "TOMLDecodeError"), (.str (ofS "TOMLDecodeError") 265), (.ref 35)⟩, ⟨PyData.keyHash P (ofS "parse_hex_char"), (.str (ofS "parse_hex_char") 276), (.ref 45)⟩, ⟨PyData.keyHash P (ofS "suffixed_err"), (.str (ofS "suffixed_err") 286), (.ref 52)⟩, ⟨PyData.keyHash P (ofS "is_unicode_scalar_value"), (.str (ofS "is_unicode_scalar_value") 293), (.ref 59)⟩, ⟨PyData.keyHash P (ofS "bytes_types"), (.str (ofS "bytes_types") 296), (.ref 60)⟩, ⟨PyData.keyHash P (ofS "_bytes_from_decode_data"), (.str (ofS "_bytes_from_decode_data") 303), (.ref 67)⟩, ⟨PyData.keyHash P (ofS "Error"), (.str (ofS "Error") 323), (.ref 77)⟩, ⟨PyData.keyHash P (ofS "_ascii_buffer"), (.str (ofS "_ascii_buffer") 331), (.ref 87)⟩, ⟨PyData.keyHash P (ofS "_buffer"), (.str (ofS "_buffer") 339), (.ref 94)⟩, ⟨PyData.keyHash P (ofS "_truth"), (.str (ofS "_truth") 347), (.ref 101)⟩, ⟨PyData.keyHash P (ofS "_B64"), (.str (ofS "_B64") 349), (.bytes #[65, 66, 67, 68, 69, 70, 71, 72, 73, 74, 75, 76, 77, 78, 79, 80, 81, 82, 83, 84, 85, 86, 87, 88, 89, 90, 97, 98, 99, 100, 101, 102, 103, 104, 105, 106, 107, 108, 109, 110, 111, 112, 113, 114, 115, 116, 117, 118, 119, 120, 121, 122, 48, 49, 50, 51, 52, 53, 54, 55, 56, 57, 43, 47] 348)⟩, ⟨PyData.keyHash P (ofS "_b64_value"), (.str (ofS "_b64_value") 356), (.ref 108)⟩, ⟨PyData.keyHash P (ofS "a2b_base64"), (.str (ofS "a2b_base64") 372), (.ref 116)⟩, ⟨PyData.keyHash P (ofS "b2a_base64"), (.str (ofS "b2a_base64") 386), (.ref 124)⟩] 27), #[]⟩
noncomputable def o12_21 (P : Params) : Obj := ⟨.none, none, (.fields #[(.int (1) 0), (.int (0) 0), (.ref 20), (.int (8) 0), (.int (0) 0), (.ref 31), (.int (10) 0), (.int (0) 0), (.ref 44), (.int (19) 0), (.int (0) 0), (.ref 51), (.int (31) 0), (.int (0) 0), (.ref 58), (.int (35) 0), (.int (0) 0), (.ref 66), (.int (48) 0), (.int (0) 0), (.ref 73), (.int (50) 0), (.int (0) 0), (.ref 86), (.int (61) 0), (.int (0) 0), (.ref 93), (.int (68) 0), (.int (0) 0), (.ref 100), (.int (74) 0), (.int (0) 0), (.ref 107), (.int (86) 0), (.int (0) 0), (.ref 115), (.int (140) 0), (.int (0) 0), (.ref 123)]), #[]⟩
noncomputable def o81_21 (P : Params) : Obj := ⟨(.type "tuple"), none, (.seq #[] 0), #[]⟩
noncomputable def o82_21 (P : Params) : Obj := ⟨.none, none, (.fields #[]), #[]⟩
noncomputable def o83_21 (P : Params) : Obj := ⟨(.type "tuple"), none, (.seq #[(.str (ofS "data") 327), (.str (ofS "t") 328)] 0), #[]⟩
noncomputable def o84_21 (P : Params) : Obj := ⟨(.type "tuple"), none, (.seq #[] 0), #[]⟩
noncomputable def o85_21 (P : Params) : Obj := ⟨.none, none, (.func ⟨(ofS "_ascii_buffer"), (ofS "_ascii_buffer"), fnP (st 14), .stmts (fnB (st 14)), fnS (st 14), 0, [], .none, .none, .none, .none, none, .none, .none, 0⟩), #[]⟩
noncomputable def o86_21 (P : Params) : Obj := ⟨(.type "code"), none, (.fields #[(.str (ofS "_ascii_buffer") 324), (.str (ofS "_ascii_buffer") 325), (.str (ofS "/claim/cut.py") 326), (.int (50) 0), (.int (1) 0), (.int (0) 0), (.int (0) 0), (.int (3) 0), (.ref 81), (.bool true), (.int (181) 0), (.ref 82), .none, (.ref 83), (.ref 84), (.ref 85), (.int (329) 0), (.int (50) 0), (.str (ofS "/claim/cut.py") 330)]), #[]⟩
noncomputable def o87_21 (P : Params) : Obj := ⟨(.type "function"), none, (.func ⟨(ofS "_ascii_buffer"), (ofS "_ascii_buffer"), fnP (st 14), .stmts (fnB (st 14)), fnS (st 14), 3, [], .none, .none, .none, (.str (ofS "binascii") 304), none, (.ref 86), .none, 0⟩), #[]⟩
noncomputable def o88_21 (P : Params) : Obj := ⟨(.type "tuple"), none, (.seq #[] 0), #[]⟩
noncomputable def o89_21 (P : Params) : Obj := ⟨.none, none, (.fields #[]), #[]⟩
noncomputable def o90_21 (P : Params) : Obj := ⟨(.type "tuple"), none, (.seq #[(.str (ofS "data") 335), (.str (ofS "t") 336)] 0), #[]⟩
noncomputable def o91_21 (P : Params) : Obj := ⟨(.type "tuple"), none, (.seq #[] 0), #[]⟩
noncomputable def o92_21 (P : Params) : Obj := ⟨.none, none, (.func ⟨(ofS "_buffer"), (ofS "_buffer"), fnP (st 15), .stmts (fnB (st 15)), fnS (st 15), 0, [], .none, .none, .none, .none, none, .none, .none, 0⟩), #[]⟩
noncomputable def o93_21 (P : Params) : Obj := ⟨(.type "code"), none, (.fields #[(.str (ofS "_buffer") 332), (.str (ofS "_buffer") 333), (.str (ofS "/claim/cut.py") 334), (.int (61) 0), (.int (1) 0), (.int (0) 0), (.int (0) 0), (.int (3) 0), (.ref 88), (.bool true), (.int (181) 0), (.ref 89), .none, (.ref 90), (.ref 91), (.ref 92), (.int (337) 0), (.int (61) 0), (.str (ofS "/claim/cut.py") 338)]), #[]⟩
noncomputable def o94_21 (P : Params) : Obj := ⟨(.type "function"), none, (.func ⟨(ofS "_buffer"), (ofS "_buffer"), fnP (st 15), .stmts (fnB (st 15)), fnS (st 15), 3, [], .none, .none, .none, (.str (ofS "binascii") 304), none, (.ref 93), .none, 0⟩), #[]⟩
noncomputable def o95_21 (P : Params) : Obj := ⟨(.type "tuple"), none, (.seq #[] 0), #[]⟩
noncomputable def o96_21 (P : Params) : Obj := ⟨.none, none, (.fields #[]), #[]⟩
noncomputable def o97_21 (P : Params) : Obj := ⟨(.type "tuple"), none, (.seq #[(.str (ofS "x") 343), (.str (ofS "t") 344)] 0), #[]⟩
noncomputable def o98_21 (P : Params) : Obj := ⟨(.type "tuple"), none, (.seq #[] 0), #[]⟩
noncomputable def o99_21 (P : Params) : Obj := ⟨.none, none, (.func ⟨(ofS "_truth"), (ofS "_truth"), fnP (st 16), .stmts (fnB (st 16)), fnS (st 16), 0, [], .none, .none, .none, .none, none, .none, .none, 0⟩), #[]⟩
noncomputable def o100_21 (P : Params) : Obj := ⟨(.type "code"), none, (.fields #[(.str (ofS "_truth") 340), (.str (ofS "_truth") 341), (.str (ofS "/claim/cut.py") 342), (.int (68) 0), (.int (1) 0), (.int (0) 0), (.int (0) 0), (.int (3) 0), (.ref 95), (.bool true), (.int (181) 0), (.ref 96), .none, (.ref 97), (.ref 98), (.ref 99), (.int (345) 0), (.int (68) 0), (.str (ofS "/claim/cut.py") 346)]), #[]⟩
noncomputable def o101_21 (P : Params) : Obj := ⟨(.type "function"), none, (.func ⟨(ofS "_truth"), (ofS "_truth"), fnP (st 16), .stmts (fnB (st 16)), fnS (st 16), 3, [], .none, .none, .none, (.str (ofS "binascii") 304), none, (.ref 100), .none, 0⟩), #[]⟩
noncomputable def o102_21 (P : Params) : Obj := ⟨(.type "tuple"), none, (.seq #[] 0), #[]⟩
noncomputable def o103_21 (P : Params) : Obj := ⟨.none, none, (.fields #[]), #[]⟩
noncomputable def o104_21 (P : Params) : Obj := ⟨(.type "tuple"), none, (.seq #[(.str (ofS "c") 353)] 0), #[]⟩
noncomputable def o105_21 (P : Params) : Obj := ⟨(.type "tuple"), none, (.seq #[] 0), #[]⟩
noncomputable def o106_21 (P : Params) : Obj := ⟨.none, none, (.func ⟨(ofS "_b64_value"), (ofS "_b64_value"), fnP (st 18), .stmts (fnB (st 18)), fnS (st 18), 0, [], .none, .none, .none, .none, none, .none, .none, 0⟩), #[]⟩
noncomputable def o107_21 (P : Params) : Obj := ⟨(.type "code"), none, (.fields #[(.str (ofS "_b64_value") 350), (.str (ofS "_b64_value") 351), (.str (ofS "/claim/cut.py") 352), (.int (74) 0), (.int (1) 0), (.int (0) 0), (.int (0) 0), (.int (3) 0), (.ref 102), (.bool true), (.int (181) 0), (.ref 103), .none, (.ref 104), (.ref 105), (.ref 106), (.int (354) 0), (.int (74) 0), (.str (ofS "/claim/cut.py") 355)]), #[]⟩
noncomputable def o108_21 (P : Params) : Obj := ⟨(.type "function"), none, (.func ⟨(ofS "_b64_value"), (ofS "_b64_value"), fnP (st 18), .stmts (fnB (st 18)), fnS (st 18), 3, [], .none, .none, .none, (.str (ofS "binascii") 304), none, (.ref 107), .none, 0⟩), #[]⟩
noncomputable def o109_21 (P : Params) : Obj := ⟨(.type "dict"), none, (.dict #[⟨PyData.keyHash P (ofS "strict_mode"), (.str (ofS "strict_mode") 357), (.bool false)⟩] 1), #[]⟩
noncomputable def o110_21 (P : Params) : Obj := ⟨(.type "tuple"), none, (.seq #[] 0), #[]⟩
noncomputable def o111_21 (P : Params) : Obj := ⟨.none, none, (.fields #[]), #[]⟩
noncomputable def o112_21 (P : Params) : Obj := ⟨(.type "tuple"), none, (.seq #[(.str (ofS "data") 361), (.str (ofS "strict_mode") 362), (.str (ofS "ascii_data") 363), (.str (ofS "out") 364), (.str (ofS "quad_pos") 365), (.str (ofS "leftchar") 366), (.str (ofS "pads") 367), (.str (ofS "i") 368), (.str (ofS "this_ch") 369)] 0), #[]⟩
noncomputable def o113_21 (P : Params) : Obj := ⟨(.type "tuple"), none, (.seq #[] 0), #[]⟩
noncomputable def o114_21 (P : Params) : Obj := ⟨.none, none, (.func ⟨(ofS "a2b_base64"), (ofS "a2b_base64"), fnP (st 19), .stmts (fnB (st 19)), fnS (st 19), 0, [], .none, .none, .none, .none, none, .none, .none, 0⟩), #[]⟩
noncomputable def o115_21 (P : Params) : Obj := ⟨(.type "code"), none, (.fields #[(.str (ofS "a2b_base64") 358), (.str (ofS "a2b_base64") 359), (.str (ofS "/claim/cut.py") 360), (.int (86) 0), (.int (1) 0), (.int (1) 0), (.int (1) 0), (.int (3) 0), (.ref 110), (.bool true), (.int (181) 0), (.ref 111), .none, (.ref 112), (.ref 113), (.ref 114), (.int (370) 0), (.int (86) 0), (.str (ofS "/claim/cut.py") 371)]), #[]⟩
noncomputable def o116_21 (P : Params) : Obj := ⟨(.type "function"), none, (.func ⟨(ofS "a2b_base64"), (ofS "a2b_base64"), fnP (st 19), .stmts (fnB (st 19)), fnS (st 19), 3, [], .none, (.ref 109), .none, (.str (ofS "binascii") 304), none, (.ref 115), .none, 0⟩), #[]⟩
noncomputable def o117_21 (P : Params) : Obj := ⟨(.type "dict"), none, (.dict #[⟨PyData.keyHash P (ofS "newline"), (.str (ofS "newline") 373), (.bool true)⟩] 1), #[]⟩
noncomputable def o118_21 (P : Params) : Obj := ⟨(.type "tuple"), none, (.seq #[] 0), #[]⟩
noncomputable def o119_21 (P : Params) : Obj := ⟨.none, none, (.fields #[]), #[]⟩
noncomputable def o120_21 (P : Params) : Obj := ⟨(.type "tuple"), none, (.seq #[(.str (ofS "data") 377), (.str (ofS "newline") 378), (.str (ofS "bin_data") 379), (.str (ofS "out") 380), (.str (ofS "leftbits") 381), (.str (ofS "leftchar") 382), (.str (ofS "b") 383)] 0), #[]⟩
noncomputable def o121_21 (P : Params) : Obj := ⟨(.type "tuple"), none, (.seq #[] 0), #[]⟩
noncomputable def o122_21 (P : Params) : Obj := ⟨.none, none, (.func ⟨(ofS "b2a_base64"), (ofS "b2a_base64"), fnP (st 20), .stmts (fnB (st 20)), fnS (st 20), 0, [], .none, .none, .none, .none, none, .none, .none, 0⟩), #[]⟩
noncomputable def o123_21 (P : Params) : Obj := ⟨(.type "code"), none, (.fields #[(.str (ofS "b2a_base64") 374), (.str (ofS "b2a_base64") 375), (.str (ofS "/claim/cut.py") 376), (.int (140) 0), (.int (1) 0), (.int (1) 0), (.int (1) 0), (.int (3) 0), (.ref 118), (.bool true), (.int (181) 0), (.ref 119), .none, (.ref 120), (.ref 121), (.ref 122), (.int (384) 0), (.int (140) 0), (.str (ofS "/claim/cut.py") 385)]), #[]⟩
noncomputable def o124_21 (P : Params) : Obj := ⟨(.type "function"), none, (.func ⟨(ofS "b2a_base64"), (ofS "b2a_base64"), fnP (st 20), .stmts (fnB (st 20)), fnS (st 20), 3, [], .none, (.ref 117), .none, (.str (ofS "binascii") 304), none, (.ref 123), .none, 0⟩), #[]⟩
noncomputable def t_21 (so : Obj) (P : Params) : BT := (.node (boot_o_0 P) (.node (boot_o_1 P) (.node (o3_21 P) (.node (boot_o_7 P) (.node (o15_4 P) (.node (o31_6 P) (.node (o63_13 P) .nil .nil) (.node (o95_21 P) .nil .nil)) (.node (o47_13 P) (.node (o79_14 P) .nil .nil) (.node (o111_21 P) .nil .nil))) (.node (o23_5 P) (.node (o39_13 P) (.node (o71_14 P) .nil .nil) (.node (o103_21 P) .nil .nil)) (.node (o55_13 P) (.node (o87_21 P) .nil .nil) (.node (o119_21 P) .nil .nil)))) (.node (o11_a P) (.node (o19_4 P) (.node (o35_6 P) (.node (o67_13 P) .nil .nil) (.node (o99_21 P) .nil .nil)) (.node (o51_13 P) (.node (o83_21 P) .nil .nil) (.node (o115_21 P) .nil .nil))) (.node (o27_6 P) (.node (o43_13 P) (.node (o75_14 P) .nil .nil) (.node (o107_21 P) .nil .nil)) (.node (o59_13 P) (.node (o91_21 P) .nil .nil) (.node (o123_21 P) .nil .nil))))) (.node (boot_o_5 P) (.node (boot_o_9 P) (.node (o17_4 P) (.node (o33_6 P) (.node (o65_13 P) .nil .nil) (.node (o97_21 P) .nil .nil)) (.node (o49_13 P) (.node (o81_21 P) .nil .nil) (.node (o113_21 P) .nil .nil))) (.node (o25_5 P) (.node (o41_13 P) (.node (o73_14 P) .nil .nil) (.node (o105_21 P) .nil .nil)) (.node (o57_13 P) (.node (o89_21 P) .nil .nil) (.node (o121_21 P) .nil .nil)))) (.node (o13_a P) (.node (o21_4 P) (.node (o37_6 P) (.node (o69_14 P) .nil .nil) (.node (o101_21 P) .nil .nil)) (.node (o53_13 P) (.node (o85_21 P) .nil .nil) (.node (o117_21 P) .nil .nil))) (.node (o29_6 P) (.node (o45_13 P) (.node (o77_14 P) .nil .nil) (.node (o109_21 P) .nil .nil)) (.node (o61_13 P) (.node (o93_21 P) .nil .nil) .nil))))) (.node (boot_o_2 P) (.node (boot_o_4 P) (.node (boot_o_8 P) (.node (o16_4 P) (.node (o32_6 P) (.node (o64_13 P) .nil .nil) (.node (o96_21 P) .nil .nil)) (.node (o48_13 P) (.node (o80_14 P) .nil .nil) (.node (o112_21 P) .nil .nil))) (.node (o24_5 P) (.node (o40_13 P) (.node (o72_14 P) .nil .nil) (.node (o104_21 P) .nil .nil)) (.node (o56_13 P) (.node (o88_21 P) .nil .nil) (.node (o120_21 P) .nil .nil)))) (.node (o12_21 P) (.node (o20_4 P) (.node (o36_6 P) (.node (o68_14 P) .nil .nil) (.node (o100_21 P) .nil .nil)) (.node (o52_13 P) (.node (o84_21 P) .nil .nil) (.node (o116_21 P) .nil .nil))) (.node (o28_6 P) (.node (o44_13 P) (.node (o76_14 P) .nil .nil) (.node (o108_21 P) .nil .nil)) (.node (o60_13 P) (.node (o92_21 P) .nil .nil) (.node (o124_21 P) .nil .nil))))) (.node (boot_o_6 P) (.node (boot_o_10 P) (.node (o18_4 P) (.node (o34_6 P) (.node (o66_13 P) .nil .nil) (.node (o98_21 P) .nil .nil)) (.node (o50_13 P) (.node (o82_21 P) .nil .nil) (.node (o114_21 P) .nil .nil))) (.node (o26_6 P) (.node (o42_13 P) (.node (o74_14 P) .nil .nil) (.node (o106_21 P) .nil .nil)) (.node (o58_13 P) (.node (o90_21 P) .nil .nil) (.node (o122_21 P) .nil .nil)))) (.node (o14_a P) (.node so (.node (o38_6 P) (.node (o70_14 P) .nil .nil) (.node (o102_21 P) .nil .nil)) (.node (o54_13 P) (.node (o86_21 P) .nil .nil) (.node (o118_21 P) .nil .nil))) (.node (o30_6 P) (.node (o46_13 P) (.node (o78_14 P) .nil .nil) (.node (o110_21 P) .nil .nil)) (.node (o62_13 P) (.node (o94_21 P) .nil .nil) .nil))))))
noncomputable def s_21 (so : Obj) (w : World) (os : OsState) : SharedT := ⟨t_21 so w.params, 125, {}, #[], {}, 387, os⟩
noncomputable def p_21 : Pos := ⟨140, 0, 161, 21⟩
noncomputable def o3_28 (P : Params) : Obj := ⟨(.type "dict"), none, (.dict #[⟨PyData.keyHash P (ofS "__name__"), (.str (ofS "__name__") 165), (.str (ofS "cpy313.base64") 400)⟩, ⟨PyData.keyHash P (ofS "__doc__"), (.str (ofS "__doc__") 166), .none⟩, ⟨PyData.keyHash P (ofS "__package__"), (.str (ofS "__package__") 167), .none⟩, ⟨PyData.keyHash P (ofS "__loader__"), (.str (ofS "__loader__") 168), (.builtin "__main__.__loader__#opaque")⟩, ⟨PyData.keyHash P (ofS "__spec__"), (.str (ofS "__spec__") 169), .none⟩, ⟨PyData.keyHash P (ofS "__annotations__"), (.str (ofS "__annotations__") 170), (.ref 6)⟩, ⟨PyData.keyHash P (ofS "__builtins__"), (.str (ofS "__builtins__") 171), (.ref 4)⟩, ⟨PyData.keyHash P (ofS "__file__"), (.str (ofS "__file__") 173), (.str (ofS "/claim/cut.py") 172)⟩, ⟨PyData.keyHash P (ofS "__cached__"), (.str (ofS "__cached__") 174), .none⟩, ⟨PyData.keyHash P (ofS "_wall"), (.str (ofS "_wall") 193), (.ref 21)⟩, ⟨PyData.keyHash P (ofS "digits"), (.str (ofS "digits") 195), (.str (ofS "0123456789") 194)⟩, ⟨PyData.keyHash P (ofS "hexdigits"), (.str (ofS "hexdigits") 200), (.str (ofS "0123456789abcdefABCDEF") 199)⟩, ⟨PyData.keyHash P (ofS "HEXDIGIT_CHARS"), (.str (ofS "HEXDIGIT_CHARS") 247), (.ref 22)⟩, ⟨PyData.keyHash P (ofS "TOMLDecodeError"), (.str (ofS "TOMLDecodeError") 265), (.ref 35)⟩, ⟨PyData.keyHash P (ofS "parse_hex_char"), (.str (ofS "parse_hex_char") 276), (.ref 45)⟩, ⟨PyData.keyHash P (ofS "suffixed_err"), (.str (ofS "suffixed_err") 286), (.ref 52)⟩, ⟨PyData.keyHash P (ofS "is_unicode_scalar_value"), (.str (ofS "is_unicode_scalar_value") 293), (.ref 59)⟩, ⟨PyData.keyHash P (ofS "bytes_types"), (.str (ofS "bytes_types") 296), (.ref 60)⟩, ⟨PyData.keyHash P (ofS "_bytes_from_decode_data"), (.str (ofS "_bytes_from_decode_data") 303), (.ref 67)⟩, ⟨PyData.keyHash P (ofS "Error"), (.str (ofS "Error") 323), (.ref 77)⟩, ⟨PyData.keyHash P (ofS "_ascii_buffer"), (.str (ofS "_ascii_buffer") 331), (.ref 87)⟩, ⟨PyData.keyHash P (ofS "_buffer"), (.str (ofS "_buffer") 339), (.ref 94)⟩, ⟨PyData.keyHash P (ofS "_truth"), (.str (ofS "_truth") 347), (.ref 101)⟩, ⟨PyData.keyHash P (ofS "_B64"), (.str (ofS "_B64") 349), (.bytes #[65, 66, 67, 68, 69, 70, 71, 72, 73, 74, 75, 76, 77, 78, 79, 80, 81, 82, 83, 84, 85, 86, 87, 88, 89, 90, 97, 98, 99, 100, 101, 102, 103, 104, 105, 106, 107, 108, 109, 110, 111, 112, 113, 114, 115, 116, 117, 118, 119, 120, 121, 122, 48, 49, 50, 51, 52, 53, 54, 55, 56, 57, 43, 47] 348)⟩, ⟨PyData.keyHash P (ofS "_b64_value"), (.str (ofS "_b64_value") 356), (.ref 108)⟩, ⟨PyData.keyHash P (ofS "a2b_base64"), (.str (ofS "a2b_base64") 372), (.ref 116)⟩, ⟨PyData.keyHash P (ofS "b2a_base64"), (.str (ofS "b2a_base64") 386), (.ref 124)⟩, ⟨PyData.keyHash P (ofS "_NO_SEP"), (.str (ofS "_NO_SEP") 387), (.ref 125)⟩, ⟨PyData.keyHash P (ofS "b2a_hex"), (.str (ofS "b2a_hex") 398), (.ref 133)⟩, ⟨PyData.keyHash P (ofS "hexlify"), (.str (ofS "hexlify") 399), (.ref 133)⟩, ⟨PyData.keyHash P (ofS "b64encode"), (.str (ofS "b64encode") 410), (.ref 141)⟩, ⟨PyData.keyHash P (ofS "b64decode"), (.str (ofS "b64decode") 419), (.ref 149)⟩, ⟨PyData.keyHash P (ofS "b16encode"), (.str (ofS "b16encode") 426), (.ref 156)⟩] 33), #[]⟩
noncomputable def o12_28 (P : Params) : Obj := ⟨.none, none, (.fields #[(.int (1) 0), (.int (0) 0), (.ref 20), (.int (8) 0), (.int (0) 0), (.ref 31), (.int (10) 0), (.int (0) 0), (.ref 44), (.int (19) 0), (.int (0) 0), (.ref 51), (.int (31) 0), (.int (0) 0), (.ref 58), (.int (35) 0), (.int (0) 0), (.ref 66), (.int (48) 0), (.int (0) 0), (.ref 73), (.int (50) 0), (.int (0) 0), (.ref 86), (.int (61) 0), (.int (0) 0), (.ref 93), (.int (68) 0), (.int (0) 0), (.ref 100), (.int (74) 0), (.int (0) 0), (.ref 107), (.int (86) 0), (.int (0) 0), (.ref 115), (.int (140) 0), (.int (0) 0), (.ref 123), (.int (163) 0), (.int (0) 0), (.ref 132), (.int (181) 0), (.int (0) 0), (.ref 140), (.int (187) 0), (.int (0) 0), (.ref 148), (.int (194) 0), (.int (0) 0), (.ref 155)]), #[]⟩
noncomputable def o125_28 (P : Params) : Obj := ⟨(.type "object"), none, .plain, #[]⟩
noncomputable def o126_28 (P : Params) : Obj := ⟨(.type "tuple"), none, (.seq #[(.ref 125), (.int (1) 388)] 0), #[]⟩
noncomputable def o127_28 (P : Params) : Obj := ⟨(.type "tuple"), none, (.seq #[] 0), #[]⟩
noncomputable def o128_28 (P : Params) : Obj := ⟨.none, none, (.fields #[]), #[]⟩
noncomputable def o129_28 (P : Params) : Obj := ⟨(.type "tuple"), none, (.seq #[(.str (ofS "data") 392), (.str (ofS "sep") 393), (.str (ofS "bytes_per_sep") 394), (.str (ofS "t") 395)] 0), #[]⟩
noncomputable def o130_28 (P : Params) : Obj := ⟨(.type "tuple"), none, (.seq #[] 0), #[]⟩
noncomputable def o131_28 (P : Params) : Obj := ⟨.none, none, (.func ⟨(ofS "b2a_hex"), (ofS "b2a_hex"), fnP (st 22), .stmts (fnB (st 22)), fnS (st 22), 0, [], .none, .none, .none, .none, none, .none, .none, 0⟩), #[]⟩
noncomputable def o132_28 (P : Params) : Obj := ⟨(.type "code"), none, (.fields #[(.str (ofS "b2a_hex") 389), (.str (ofS "b2a_hex") 390), (.str (ofS "/claim/cut.py") 391), (.int (163) 0), (.int (3) 0), (.int (0) 0), (.int (0) 0), (.int (3) 0), (.ref 127), (.bool true), (.int (181) 0), (.ref 128), .none, (.ref 129), (.ref 130), (.ref 131), (.int (396) 0), (.int (163) 0), (.str (ofS "/claim/cut.py") 397)]), #[]⟩
noncomputable def o133_28 (P : Params) : Obj := ⟨(.type "function"), none, (.func ⟨(ofS "b2a_hex"), (ofS "b2a_hex"), fnP (st 22), .stmts (fnB (st 22)), fnS (st 22), 3, [], (.ref 126), .none, .none, (.str (ofS "binascii") 304), none, (.ref 132), .none, 0⟩), #[]⟩
noncomputable def o134_28 (P : Params) : Obj := ⟨(.type "tuple"), none, (.seq #[.none] 0), #[]⟩
noncomputable def o135_28 (P : Params) : Obj := ⟨(.type "tuple"), none, (.seq #[] 0), #[]⟩
noncomputable def o136_28 (P : Params) : Obj := ⟨.none, none, (.fields #[]), #[]⟩
noncomputable def o137_28 (P : Params) : Obj := ⟨(.type "tuple"), none, (.seq #[(.str (ofS "s") 405), (.str (ofS "altchars") 406), (.str (ofS "encoded") 407)] 0), #[]⟩
noncomputable def o138_28 (P : Params) : Obj := ⟨(.type "tuple"), none, (.seq #[] 0), #[]⟩
noncomputable def o139_28 (P : Params) : Obj := ⟨.none, none, (.func ⟨(ofS "b64encode"), (ofS "b64encode"), fnP (st 25), .stmts (fnB (st 25)), fnS (st 25), 0, [], .none, .none, .none, .none, none, .none, .none, 0⟩), #[]⟩
noncomputable def o140_28 (P : Params) : Obj := ⟨(.type "code"), none, (.fields #[(.str (ofS "b64encode") 402), (.str (ofS "b64encode") 403), (.str (ofS "/claim/cut.py") 404), (.int (181) 0), (.int (2) 0), (.int (0) 0), (.int (0) 0), (.int (3) 0), (.ref 135), (.bool true), (.int (181) 0), (.ref 136), .none, (.ref 137), (.ref 138), (.ref 139), (.int (408) 0), (.int (181) 0), (.str (ofS "/claim/cut.py") 409)]), #[]⟩
noncomputable def o141_28 (P : Params) : Obj := ⟨(.type "function"), none, (.func ⟨(ofS "b64encode"), (ofS "b64encode"), fnP (st 25), .stmts (fnB (st 25)), fnS (st 25), 3, [], (.ref 134), .none, .none, (.str (ofS "cpy313.base64") 400), none, (.ref 140), .none, 0⟩), #[]⟩
noncomputable def o142_28 (P : Params) : Obj := ⟨(.type "tuple"), none, (.seq #[.none, (.bool false)] 0), #[]⟩
noncomputable def o143_28 (P : Params) : Obj := ⟨(.type "tuple"), none, (.seq #[] 0), #[]⟩
noncomputable def o144_28 (P : Params) : Obj := ⟨.none, none, (.fields #[]), #[]⟩
noncomputable def o145_28 (P : Params) : Obj := ⟨(.type "tuple"), none, (.seq #[(.str (ofS "s") 414), (.str (ofS "altchars") 415), (.str (ofS "validate") 416)] 0), #[]⟩
noncomputable def o146_28 (P : Params) : Obj := ⟨(.type "tuple"), none, (.seq #[] 0), #[]⟩
noncomputable def o147_28 (P : Params) : Obj := ⟨.none, none, (.func ⟨(ofS "b64decode"), (ofS "b64decode"), fnP (st 26), .stmts (fnB (st 26)), fnS (st 26), 0, [], .none, .none, .none, .none, none, .none, .none, 0⟩), #[]⟩
noncomputable def o148_28 (P : Params) : Obj := ⟨(.type "code"), none, (.fields #[(.str (ofS "b64decode") 411), (.str (ofS "b64decode") 412), (.str (ofS "/claim/cut.py") 413), (.int (187) 0), (.int (3) 0), (.int (0) 0), (.int (0) 0), (.int (3) 0), (.ref 143), (.bool true), (.int (181) 0), (.ref 144), .none, (.ref 145), (.ref 146), (.ref 147), (.int (417) 0), (.int (187) 0), (.str (ofS "/claim/cut.py") 418)]), #[]⟩
noncomputable def o149_28 (P : Params) : Obj := ⟨(.type "function"), none, (.func ⟨(ofS "b64decode"), (ofS "b64decode"), fnP (st 26), .stmts (fnB (st 26)), fnS (st 26), 3, [], (.ref 142), .none, .none, (.str (ofS "cpy313.base64") 400), none, (.ref 148), .none, 0⟩), #[]⟩
noncomputable def o150_28 (P : Params) : Obj := ⟨(.type "tuple"), none, (.seq #[] 0), #[]⟩
noncomputable def o151_28 (P : Params) : Obj := ⟨.none, none, (.fields #[]), #[]⟩
noncomputable def o152_28 (P : Params) : Obj := ⟨(.type "tuple"), none, (.seq #[(.str (ofS "s") 423)] 0), #[]⟩
noncomputable def o153_28 (P : Params) : Obj := ⟨(.type "tuple"), none, (.seq #[] 0), #[]⟩
noncomputable def o154_28 (P : Params) : Obj := ⟨.none, none, (.func ⟨(ofS "b16encode"), (ofS "b16encode"), fnP (st 27), .stmts (fnB (st 27)), fnS (st 27), 0, [], .none, .none, .none, .none, none, .none, .none, 0⟩), #[]⟩
noncomputable def o155_28 (P : Params) : Obj := ⟨(.type "code"), none, (.fields #[(.str (ofS "b16encode") 420), (.str (ofS "b16encode") 421), (.str (ofS "/claim/cut.py") 422), (.int (194) 0), (.int (1) 0), (.int (0) 0), (.int (0) 0), (.int (3) 0), (.ref 150), (.bool true), (.int (181) 0), (.ref 151), .none, (.ref 152), (.ref 153), (.ref 154), (.int (424) 0), (.int (194) 0), (.str (ofS "/claim/cut.py") 425)]), #[]⟩
noncomputable def o156_28 (P : Params) : Obj := ⟨(.type "function"), none, (.func ⟨(ofS "b16encode"), (ofS "b16encode"), fnP (st 27), .stmts (fnB (st 27)), fnS (st 27), 3, [], .none, .none, .none, (.str (ofS "cpy313.base64") 400), none, (.ref 155), .none, 0⟩), #[]⟩
noncomputable def t_28 (so : Obj) (P : Params) : BT := (.node (boot_o_0 P) (.node (boot_o_1 P) (.node (o3_28 P) (.node (boot_o_7 P) (.node (o15_4 P) (.node (o31_6 P) (.node (o63_13 P) (.node (o127_28 P) .nil .nil) .nil) (.node (o95_21 P) .nil .nil)) (.node (o47_13 P) (.node (o79_14 P) (.node (o143_28 P) .nil .nil) .nil) (.node (o111_21 P) .nil .nil))) (.node (o23_5 P) (.node (o39_13 P) (.node (o71_14 P) (.node (o135_28 P) .nil .nil) .nil) (.node (o103_21 P) .nil .nil)) (.node (o55_13 P) (.node (o87_21 P) (.node (o151_28 P) .nil .nil) .nil) (.node (o119_21 P) .nil .nil)))) (.node (o11_a P) (.node (o19_4 P) (.node (o35_6 P) (.node (o67_13 P) (.node (o131_28 P) .nil .nil) .nil) (.node (o99_21 P) .nil .nil)) (.node (o51_13 P) (.node (o83_21 P) (.node (o147_28 P) .nil .nil) .nil) (.node (o115_21 P) .nil .nil))) (.node (o27_6 P) (.node (o43_13 P) (.node (o75_14 P) (.node (o139_28 P) .nil .nil) .nil) (.node (o107_21 P) .nil .nil)) (.node (o59_13 P) (.node (o91_21 P) (.node (o155_28 P) .nil .nil) .nil) (.node (o123_21 P) .nil .nil))))) (.node (boot_o_5 P) (.node (boot_o_9 P) (.node (o17_4 P) (.node (o33_6 P) (.node (o65_13 P) (.node (o129_28 P) .nil .nil) .nil) (.node (o97_21 P) .nil .nil)) (.node (o49_13 P) (.node (o81_21 P) (.node (o145_28 P) .nil .nil) .nil) (.node (o113_21 P) .nil .nil))) (.node (o25_5 P) (.node (o41_13 P) (.node (o73_14 P) (.node (o137_28 P) .nil .nil) .nil) (.node (o105_21 P) .nil .nil)) (.node (o57_13 P) (.node (o89_21 P) (.node (o153_28 P) .nil .nil) .nil) (.node (o121_21 P) .nil .nil)))) (.node (o13_a P) (.node (o21_4 P) (.node (o37_6 P) (.node (o69_14 P) (.node (o133_28 P) .nil .nil) .nil) (.node (o101_21 P) .nil .nil)) (.node (o53_13 P) (.node (o85_21 P) (.node (o149_28 P) .nil .nil) .nil) (.node (o117_21 P) .nil .nil))) (.node (o29_6 P) (.node (o45_13 P) (.node (o77_14 P) (.node (o141_28 P) .nil .nil) .nil) (.node (o109_21 P) .nil .nil)) (.node (o61_13 P) (.node (o93_21 P) .nil .nil) (.node (o125_28 P) .nil .nil)))))) (.node (boot_o_2 P) (.node (boot_o_4 P) (.node (boot_o_8 P) (.node (o16_4 P) (.node (o32_6 P) (.node (o64_13 P) (.node (o128_28 P) .nil .nil) .nil) (.node (o96_21 P) .nil .nil)) (.node (o48_13 P) (.node (o80_14 P) (.node (o144_28 P) .nil .nil) .nil) (.node (o112_21 P) .nil .nil))) (.node (o24_5 P) (.node (o40_13 P) (.node (o72_14 P) (.node (o136_28 P) .nil .nil) .nil) (.node (o104_21 P) .nil .nil)) (.node (o56_13 P) (.node (o88_21 P) (.node (o152_28 P) .nil .nil) .nil) (.node (o120_21 P) .nil .nil)))) (.node (o12_28 P) (.node (o20_4 P) (.node (o36_6 P) (.node (o68_14 P) (.node (o132_28 P) .nil .nil) .nil) (.node (o100_21 P) .nil .nil)) (.node (o52_13 P) (.node (o84_21 P) (.node (o148_28 P) .nil .nil) .nil) (.node (o116_21 P) .nil .nil))) (.node (o28_6 P) (.node (o44_13 P) (.node (o76_14 P) (.node (o140_28 P) .nil .nil) .nil) (.node (o108_21 P) .nil .nil)) (.node (o60_13 P) (.node (o92_21 P) (.node (o156_28 P) .nil .nil) .nil) (.node (o124_21 P) .nil .nil))))) (.node (boot_o_6 P) (.node (boot_o_10 P) (.node (o18_4 P) (.node (o34_6 P) (.node (o66_13 P) (.node (o130_28 P) .nil .nil) .nil) (.node (o98_21 P) .nil .nil)) (.node (o50_13 P) (.node (o82_21 P) (.node (o146_28 P) .nil .nil) .nil) (.node (o114_21 P) .nil .nil))) (.node (o26_6 P) (.node (o42_13 P) (.node (o74_14 P) (.node (o138_28 P) .nil .nil) .nil) (.node (o106_21 P) .nil .nil)) (.node (o58_13 P) (.node (o90_21 P) (.node (o154_28 P) .nil .nil) .nil) (.node (o122_21 P) .nil .nil)))) (.node (o14_a P) (.node so (.node (o38_6 P) (.node (o70_14 P) (.node (o134_28 P) .nil .nil) .nil) (.node (o102_21 P) .nil .nil)) (.node (o54_13 P) (.node (o86_21 P) (.node (o150_28 P) .nil .nil) .nil) (.node (o118_21 P) .nil .nil))) (.node (o30_6 P) (.node (o46_13 P) (.node (o78_14 P) (.node (o142_28 P) .nil .nil) .nil) (.node (o110_21 P) .nil .nil)) (.node (o62_13 P) (.node (o94_21 P) .nil .nil) (.node (o126_28 P) .nil .nil)))))))
noncomputable def s_28 (so : Obj) (w : World) (os : OsState) : SharedT := ⟨t_28 so w.params, 157, {}, #[], {}, 427, os⟩
noncomputable def p_28 : Pos := ⟨194, 0, 195, 29⟩
noncomputable def o3_34 (P : Params) : Obj := ⟨(.type "dict"), none, (.dict #[⟨PyData.keyHash P (ofS "__name__"), (.str (ofS "__name__") 165), (.str (ofS "law_kq0052_01") 451)⟩, ⟨PyData.keyHash P (ofS "__doc__"), (.str (ofS "__doc__") 166), .none⟩, ⟨PyData.keyHash P (ofS "__package__"), (.str (ofS "__package__") 167), .none⟩, ⟨PyData.keyHash P (ofS "__loader__"), (.str (ofS "__loader__") 168), (.builtin "__main__.__loader__#opaque")⟩, ⟨PyData.keyHash P (ofS "__spec__"), (.str (ofS "__spec__") 169), .none⟩, ⟨PyData.keyHash P (ofS "__annotations__"), (.str (ofS "__annotations__") 170), (.ref 6)⟩, ⟨PyData.keyHash P (ofS "__builtins__"), (.str (ofS "__builtins__") 171), (.ref 4)⟩, ⟨PyData.keyHash P (ofS "__file__"), (.str (ofS "__file__") 173), (.str (ofS "/claim/cut.py") 172)⟩, ⟨PyData.keyHash P (ofS "__cached__"), (.str (ofS "__cached__") 174), .none⟩, ⟨PyData.keyHash P (ofS "_wall"), (.str (ofS "_wall") 193), (.ref 21)⟩, ⟨PyData.keyHash P (ofS "digits"), (.str (ofS "digits") 195), (.str (ofS "0123456789") 194)⟩, ⟨PyData.keyHash P (ofS "hexdigits"), (.str (ofS "hexdigits") 200), (.str (ofS "0123456789abcdefABCDEF") 199)⟩, ⟨PyData.keyHash P (ofS "HEXDIGIT_CHARS"), (.str (ofS "HEXDIGIT_CHARS") 247), (.ref 22)⟩, ⟨PyData.keyHash P (ofS "TOMLDecodeError"), (.str (ofS "TOMLDecodeError") 265), (.ref 35)⟩, ⟨PyData.keyHash P (ofS "parse_hex_char"), (.str (ofS "parse_hex_char") 276), (.ref 45)⟩, ⟨PyData.keyHash P (ofS "suffixed_err"), (.str (ofS "suffixed_err") 286), (.ref 52)⟩, ⟨PyData.keyHash P (ofS "is_unicode_scalar_value"), (.str (ofS "is_unicode_scalar_value") 293), (.ref 59)⟩, ⟨PyData.keyHash P (ofS "bytes_types"), (.str (ofS "bytes_types") 296), (.ref 60)⟩, ⟨PyData.keyHash P (ofS "_bytes_from_decode_data"), (.str (ofS "_bytes_from_decode_data") 303), (.ref 67)⟩, ⟨PyData.keyHash P (ofS "Error"), (.str (ofS "Error") 323), (.ref 77)⟩, ⟨PyData.keyHash P (ofS "_ascii_buffer"), (.str (ofS "_ascii_buffer") 331), (.ref 87)⟩, ⟨PyData.keyHash P (ofS "_buffer"), (.str (ofS "_buffer") 339), (.ref 94)⟩, ⟨PyData.keyHash P (ofS "_truth"), (.str (ofS "_truth") 347), (.ref 101)⟩, ⟨PyData.keyHash P (ofS "_B64"), (.str (ofS "_B64") 349), (.bytes #[65, 66, 67, 68, 69, 70, 71, 72, 73, 74, 75, 76, 77, 78, 79, 80, 81, 82, 83, 84, 85, 86, 87, 88, 89, 90, 97, 98, 99, 100, 101, 102, 103, 104, 105, 106, 107, 108, 109, 110, 111, 112, 113, 114, 115, 116, 117, 118, 119, 120, 121, 122, 48, 49, 50, 51, 52, 53, 54, 55, 56, 57, 43, 47] 348)⟩, ⟨PyData.keyHash P (ofS "_b64_value"), (.str (ofS "_b64_value") 356), (.ref 108)⟩, ⟨PyData.keyHash P (ofS "a2b_base64"), (.str (ofS "a2b_base64") 372), (.ref 116)⟩, ⟨PyData.keyHash P (ofS "b2a_base64"), (.str (ofS "b2a_base64") 386), (.ref 124)⟩, ⟨PyData.keyHash P (ofS "_NO_SEP"), (.str (ofS "_NO_SEP") 387), (.ref 125)⟩, ⟨PyData.keyHash P (ofS "b2a_hex"), (.str (ofS "b2a_hex") 398), (.ref 133)⟩, ⟨PyData.keyHash P (ofS "hexlify"), (.str (ofS "hexlify") 399), (.ref 133)⟩, ⟨PyData.keyHash P (ofS "b64encode"), (.str (ofS "b64encode") 410), (.ref 141)⟩, ⟨PyData.keyHash P (ofS "b64decode"), (.str (ofS "b64decode") 419), (.ref 149)⟩, ⟨PyData.keyHash P (ofS "b16encode"), (.str (ofS "b16encode") 426), (.ref 156)⟩, ⟨PyData.keyHash P (ofS "cmp_to_key"), (.str (ofS "cmp_to_key") 437), (.ref 163)⟩, ⟨PyData.keyHash P (ofS "_initial_missing"), (.str (ofS "_initial_missing") 438), (.ref 164)⟩, ⟨PyData.keyHash P (ofS "reduce"), (.str (ofS "reduce") 450), (.ref 172)⟩, ⟨PyData.keyHash P (ofS "_law_told"), (.str (ofS "_law_told") 462), (.ref 179)⟩] 37), #[]⟩
noncomputable def o12_34 (P : Params) : Obj := ⟨.none, none, (.fields #[(.int (1) 0), (.int (0) 0), (.ref 20), (.int (8) 0), (.int (0) 0), (.ref 31), (.int (10) 0), (.int (0) 0), (.ref 44), (.int (19) 0), (.int (0) 0), (.ref 51), (.int (31) 0), (.int (0) 0), (.ref 58), (.int (35) 0), (.int (0) 0), (.ref 66), (.int (48) 0), (.int (0) 0), (.ref 73), (.int (50) 0), (.int (0) 0), (.ref 86), (.int (61) 0), (.int (0) 0), (.ref 93), (.int (68) 0), (.int (0) 0), (.ref 100), (.int (74) 0), (.int (0) 0), (.ref 107), (.int (86) 0), (.int (0) 0), (.ref 115), (.int (140) 0), (.int (0) 0), (.ref 123), (.int (163) 0), (.int (0) 0), (.ref 132), (.int (181) 0), (.int (0) 0), (.ref 140), (.int (187) 0), (.int (0) 0), (.ref 148), (.int (194) 0), (.int (0) 0), (.ref 155), (.int (197) 0), (.int (0) 0), (.ref 162), (.int (223) 0), (.int (0) 0), (.ref 171), (.int (236) 0), (.int (0) 0), (.ref 178)]), #[]⟩
noncomputable def o157_34 (P : Params) : Obj := ⟨(.type "tuple"), none, (.seq #[] 0), #[]⟩
noncomputable def o158_34 (P : Params) : Obj := ⟨.none, none, (.fields #[]), #[]⟩
noncomputable def o159_34 (P : Params) : Obj := ⟨(.type "tuple"), none, (.seq #[(.str (ofS "mycmp") 432), (.str (ofS "K") 433)] 0), #[]⟩
noncomputable def o160_34 (P : Params) : Obj := ⟨(.type "tuple"), none, (.seq #[(.str (ofS "mycmp") 434)] 0), #[]⟩
noncomputable def o161_34 (P : Params) : Obj := ⟨.none, none, (.func ⟨(ofS "cmp_to_key"), (ofS "cmp_to_key"), fnP (st 29), .stmts (fnB (st 29)), fnS (st 29), 0, [], .none, .none, .none, .none, none, .none, .none, 0⟩), #[]⟩
noncomputable def o162_34 (P : Params) : Obj := ⟨(.type "code"), none, (.fields #[(.str (ofS "cmp_to_key") 429), (.str (ofS "cmp_to_key") 430), (.str (ofS "/claim/cut.py") 431), (.int (197) 0), (.int (1) 0), (.int (0) 0), (.int (0) 0), (.int (3) 0), (.ref 157), (.bool true), (.int (181) 0), (.ref 158), .none, (.ref 159), (.ref 160), (.ref 161), (.int (435) 0), (.int (197) 0), (.str (ofS "/claim/cut.py") 436)]), #[]⟩
noncomputable def o163_34 (P : Params) : Obj := ⟨(.type "function"), none, (.func ⟨(ofS "cmp_to_key"), (ofS "cmp_to_key"), fnP (st 29), .stmts (fnB (st 29)), fnS (st 29), 3, [], .none, .none, .none, (.str (ofS "cpy313.functools") 427), none, (.ref 162), .none, 0⟩), #[]⟩
noncomputable def o164_34 (P : Params) : Obj := ⟨(.type "object"), none, .plain, #[]⟩
noncomputable def o165_34 (P : Params) : Obj := ⟨(.type "tuple"), none, (.seq #[(.ref 164)] 0), #[]⟩
noncomputable def o166_34 (P : Params) : Obj := ⟨(.type "tuple"), none, (.seq #[] 0), #[]⟩
noncomputable def o167_34 (P : Params) : Obj := ⟨.none, none, (.fields #[]), #[]⟩
noncomputable def o168_34 (P : Params) : Obj := ⟨(.type "tuple"), none, (.seq #[(.str (ofS "function") 442), (.str (ofS "sequence") 443), (.str (ofS "initial") 444), (.str (ofS "it") 445), (.str (ofS "value") 446), (.str (ofS "element") 447)] 0), #[]⟩
noncomputable def o169_34 (P : Params) : Obj := ⟨(.type "tuple"), none, (.seq #[] 0), #[]⟩
noncomputable def o170_34 (P : Params) : Obj := ⟨.none, none, (.func ⟨(ofS "reduce"), (ofS "reduce"), fnP (st 31), .stmts (fnB (st 31)), fnS (st 31), 0, [], .none, .none, .none, .none, none, .none, .none, 0⟩), #[]⟩
noncomputable def o171_34 (P : Params) : Obj := ⟨(.type "code"), none, (.fields #[(.str (ofS "reduce") 439), (.str (ofS "reduce") 440), (.str (ofS "/claim/cut.py") 441), (.int (223) 0), (.int (3) 0), (.int (0) 0), (.int (0) 0), (.int (3) 0), (.ref 166), (.bool true), (.int (181) 0), (.ref 167), .none, (.ref 168), (.ref 169), (.ref 170), (.int (448) 0), (.int (223) 0), (.str (ofS "/claim/cut.py") 449)]), #[]⟩
noncomputable def o172_34 (P : Params) : Obj := ⟨(.type "function"), none, (.func ⟨(ofS "reduce"), (ofS "reduce"), fnP (st 31), .stmts (fnB (st 31)), fnS (st 31), 3, [], (.ref 165), .none, .none, (.str (ofS "cpy313.functools") 427), none, (.ref 171), .none, 0⟩), #[]⟩
noncomputable def o173_34 (P : Params) : Obj := ⟨(.type "tuple"), none, (.seq #[] 0), #[]⟩
noncomputable def o174_34 (P : Params) : Obj := ⟨.none, none, (.fields #[]), #[]⟩
noncomputable def o175_34 (P : Params) : Obj := ⟨(.type "tuple"), none, (.seq #[(.str (ofS "src") 456), (.str (ofS "place") 457), (.str (ofS "many") 458), (.str (ofS "error") 459)] 0), #[]⟩
noncomputable def o176_34 (P : Params) : Obj := ⟨(.type "tuple"), none, (.seq #[] 0), #[]⟩
noncomputable def o177_34 (P : Params) : Obj := ⟨.none, none, (.func ⟨(ofS "_law_told"), (ofS "_law_told"), fnP (st 33), .stmts (fnB (st 33)), fnS (st 33), 0, [], .none, .none, .none, .none, none, .none, .none, 0⟩), #[]⟩
noncomputable def o178_34 (P : Params) : Obj := ⟨(.type "code"), none, (.fields #[(.str (ofS "_law_told") 453), (.str (ofS "_law_told") 454), (.str (ofS "/claim/cut.py") 455), (.int (236) 0), (.int (3) 0), (.int (0) 0), (.int (0) 0), (.int (3) 0), (.ref 173), (.bool true), (.int (181) 0), (.ref 174), .none, (.ref 175), (.ref 176), (.ref 177), (.int (460) 0), (.int (236) 0), (.str (ofS "/claim/cut.py") 461)]), #[]⟩
noncomputable def o179_34 (P : Params) : Obj := ⟨(.type "function"), none, (.func ⟨(ofS "_law_told"), (ofS "_law_told"), fnP (st 33), .stmts (fnB (st 33)), fnS (st 33), 3, [], .none, .none, .none, (.str (ofS "law_kq0052_01") 451), none, (.ref 178), .none, 0⟩), #[]⟩
noncomputable def t_34 (so : Obj) (P : Params) : BT := (.node (boot_o_0 P) (.node (boot_o_1 P) (.node (o3_34 P) (.node (boot_o_7 P) (.node (o15_4 P) (.node (o31_6 P) (.node (o63_13 P) (.node (o127_28 P) .nil .nil) .nil) (.node (o95_21 P) (.node (o159_34 P) .nil .nil) .nil)) (.node (o47_13 P) (.node (o79_14 P) (.node (o143_28 P) .nil .nil) .nil) (.node (o111_21 P) (.node (o175_34 P) .nil .nil) .nil))) (.node (o23_5 P) (.node (o39_13 P) (.node (o71_14 P) (.node (o135_28 P) .nil .nil) .nil) (.node (o103_21 P) (.node (o167_34 P) .nil .nil) .nil)) (.node (o55_13 P) (.node (o87_21 P) (.node (o151_28 P) .nil .nil) .nil) (.node (o119_21 P) .nil .nil)))) (.node (o11_a P) (.node (o19_4 P) (.node (o35_6 P) (.node (o67_13 P) (.node (o131_28 P) .nil .nil) .nil) (.node (o99_21 P) (.node (o163_34 P) .nil .nil) .nil)) (.node (o51_13 P) (.node (o83_21 P) (.node (o147_28 P) .nil .nil) .nil) (.node (o115_21 P) (.node (o179_34 P) .nil .nil) .nil))) (.node (o27_6 P) (.node (o43_13 P) (.node (o75_14 P) (.node (o139_28 P) .nil .nil) .nil) (.node (o107_21 P) (.node (o171_34 P) .nil .nil) .nil)) (.node (o59_13 P) (.node (o91_21 P) (.node (o155_28 P) .nil .nil) .nil) (.node (o123_21 P) .nil .nil))))) (.node (boot_o_5 P) (.node (boot_o_9 P) (.node (o17_4 P) (.node (o33_6 P) (.node (o65_13 P) (.node (o129_28 P) .nil .nil) .nil) (.node (o97_21 P) (.node (o161_34 P) .nil .nil) .nil)) (.node (o49_13 P) (.node (o81_21 P) (.node (o145_28 P) .nil .nil) .nil) (.node (o113_21 P) (.node (o177_34 P) .nil .nil) .nil))) (.node (o25_5 P) (.node (o41_13 P) (.node (o73_14 P) (.node (o137_28 P) .nil .nil) .nil) (.node (o105_21 P) (.node (o169_34 P) .nil .nil) .nil)) (.node (o57_13 P) (.node (o89_21 P) (.node (o153_28 P) .nil .nil) .nil) (.node (o121_21 P) .nil .nil)))) (.node (o13_a P) (.node (o21_4 P) (.node (o37_6 P) (.node (o69_14 P) (.node (o133_28 P) .nil .nil) .nil) (.node (o101_21 P) (.node (o165_34 P) .nil .nil) .nil)) (.node (o53_13 P) (.node (o85_21 P) (.node (o149_28 P) .nil .nil) .nil) (.node (o117_21 P) .nil .nil))) (.node (o29_6 P) (.node (o45_13 P) (.node (o77_14 P) (.node (o141_28 P) .nil .nil) .nil) (.node (o109_21 P) (.node (o173_34 P) .nil .nil) .nil)) (.node (o61_13 P) (.node (o93_21 P) (.node (o157_34 P) .nil .nil) .nil) (.node (o125_28 P) .nil .nil)))))) (.node (boot_o_2 P) (.node (boot_o_4 P) (.node (boot_o_8 P) (.node (o16_4 P) (.node (o32_6 P) (.node (o64_13 P) (.node (o128_28 P) .nil .nil) .nil) (.node (o96_21 P) (.node (o160_34 P) .nil .nil) .nil)) (.node (o48_13 P) (.node (o80_14 P) (.node (o144_28 P) .nil .nil) .nil) (.node (o112_21 P) (.node (o176_34 P) .nil .nil) .nil))) (.node (o24_5 P) (.node (o40_13 P) (.node (o72_14 P) (.node (o136_28 P) .nil .nil) .nil) (.node (o104_21 P) (.node (o168_34 P) .nil .nil) .nil)) (.node (o56_13 P) (.node (o88_21 P) (.node (o152_28 P) .nil .nil) .nil) (.node (o120_21 P) .nil .nil)))) (.node (o12_34 P) (.node (o20_4 P) (.node (o36_6 P) (.node (o68_14 P) (.node (o132_28 P) .nil .nil) .nil) (.node (o100_21 P) (.node (o164_34 P) .nil .nil) .nil)) (.node (o52_13 P) (.node (o84_21 P) (.node (o148_28 P) .nil .nil) .nil) (.node (o116_21 P) .nil .nil))) (.node (o28_6 P) (.node (o44_13 P) (.node (o76_14 P) (.node (o140_28 P) .nil .nil) .nil) (.node (o108_21 P) (.node (o172_34 P) .nil .nil) .nil)) (.node (o60_13 P) (.node (o92_21 P) (.node (o156_28 P) .nil .nil) .nil) (.node (o124_21 P) .nil .nil))))) (.node (boot_o_6 P) (.node (boot_o_10 P) (.node (o18_4 P) (.node (o34_6 P) (.node (o66_13 P) (.node (o130_28 P) .nil .nil) .nil) (.node (o98_21 P) (.node (o162_34 P) .nil .nil) .nil)) (.node (o50_13 P) (.node (o82_21 P) (.node (o146_28 P) .nil .nil) .nil) (.node (o114_21 P) (.node (o178_34 P) .nil .nil) .nil))) (.node (o26_6 P) (.node (o42_13 P) (.node (o74_14 P) (.node (o138_28 P) .nil .nil) .nil) (.node (o106_21 P) (.node (o170_34 P) .nil .nil) .nil)) (.node (o58_13 P) (.node (o90_21 P) (.node (o154_28 P) .nil .nil) .nil) (.node (o122_21 P) .nil .nil)))) (.node (o14_a P) (.node so (.node (o38_6 P) (.node (o70_14 P) (.node (o134_28 P) .nil .nil) .nil) (.node (o102_21 P) (.node (o166_34 P) .nil .nil) .nil)) (.node (o54_13 P) (.node (o86_21 P) (.node (o150_28 P) .nil .nil) .nil) (.node (o118_21 P) .nil .nil))) (.node (o30_6 P) (.node (o46_13 P) (.node (o78_14 P) (.node (o142_28 P) .nil .nil) .nil) (.node (o110_21 P) (.node (o174_34 P) .nil .nil) .nil)) (.node (o62_13 P) (.node (o94_21 P) (.node (o158_34 P) .nil .nil) .nil) (.node (o126_28 P) .nil .nil)))))))
noncomputable def s_34 (so : Obj) (w : World) (os : OsState) : SharedT := ⟨t_34 so w.params, 180, {}, #[], {}, 463, os⟩
noncomputable def p_34 : Pos := ⟨236, 0, 240, 25⟩
noncomputable def o3_40 (P : Params) : Obj := ⟨(.type "dict"), none, (.dict #[⟨PyData.keyHash P (ofS "__name__"), (.str (ofS "__name__") 165), (.str (ofS "law_kq0052_01") 451)⟩, ⟨PyData.keyHash P (ofS "__doc__"), (.str (ofS "__doc__") 166), .none⟩, ⟨PyData.keyHash P (ofS "__package__"), (.str (ofS "__package__") 167), .none⟩, ⟨PyData.keyHash P (ofS "__loader__"), (.str (ofS "__loader__") 168), (.builtin "__main__.__loader__#opaque")⟩, ⟨PyData.keyHash P (ofS "__spec__"), (.str (ofS "__spec__") 169), .none⟩, ⟨PyData.keyHash P (ofS "__annotations__"), (.str (ofS "__annotations__") 170), (.ref 6)⟩, ⟨PyData.keyHash P (ofS "__builtins__"), (.str (ofS "__builtins__") 171), (.ref 4)⟩, ⟨PyData.keyHash P (ofS "__file__"), (.str (ofS "__file__") 173), (.str (ofS "/claim/cut.py") 172)⟩, ⟨PyData.keyHash P (ofS "__cached__"), (.str (ofS "__cached__") 174), .none⟩, ⟨PyData.keyHash P (ofS "_wall"), (.str (ofS "_wall") 193), (.ref 21)⟩, ⟨PyData.keyHash P (ofS "digits"), (.str (ofS "digits") 195), (.str (ofS "0123456789") 194)⟩, ⟨PyData.keyHash P (ofS "hexdigits"), (.str (ofS "hexdigits") 200), (.str (ofS "0123456789abcdefABCDEF") 199)⟩, ⟨PyData.keyHash P (ofS "HEXDIGIT_CHARS"), (.str (ofS "HEXDIGIT_CHARS") 247), (.ref 22)⟩, ⟨PyData.keyHash P (ofS "TOMLDecodeError"), (.str (ofS "TOMLDecodeError") 265), (.ref 35)⟩, ⟨PyData.keyHash P (ofS "parse_hex_char"), (.str (ofS "parse_hex_char") 276), (.ref 45)⟩, ⟨PyData.keyHash P (ofS "suffixed_err"), (.str (ofS "suffixed_err") 286), (.ref 52)⟩, ⟨PyData.keyHash P (ofS "is_unicode_scalar_value"), (.str (ofS "is_unicode_scalar_value") 293), (.ref 59)⟩, ⟨PyData.keyHash P (ofS "bytes_types"), (.str (ofS "bytes_types") 296), (.ref 60)⟩, ⟨PyData.keyHash P (ofS "_bytes_from_decode_data"), (.str (ofS "_bytes_from_decode_data") 303), (.ref 67)⟩, ⟨PyData.keyHash P (ofS "Error"), (.str (ofS "Error") 323), (.ref 77)⟩, ⟨PyData.keyHash P (ofS "_ascii_buffer"), (.str (ofS "_ascii_buffer") 331), (.ref 87)⟩, ⟨PyData.keyHash P (ofS "_buffer"), (.str (ofS "_buffer") 339), (.ref 94)⟩, ⟨PyData.keyHash P (ofS "_truth"), (.str (ofS "_truth") 347), (.ref 101)⟩, ⟨PyData.keyHash P (ofS "_B64"), (.str (ofS "_B64") 349), (.bytes #[65, 66, 67, 68, 69, 70, 71, 72, 73, 74, 75, 76, 77, 78, 79, 80, 81, 82, 83, 84, 85, 86, 87, 88, 89, 90, 97, 98, 99, 100, 101, 102, 103, 104, 105, 106, 107, 108, 109, 110, 111, 112, 113, 114, 115, 116, 117, 118, 119, 120, 121, 122, 48, 49, 50, 51, 52, 53, 54, 55, 56, 57, 43, 47] 348)⟩, ⟨PyData.keyHash P (ofS "_b64_value"), (.str (ofS "_b64_value") 356), (.ref 108)⟩, ⟨PyData.keyHash P (ofS "a2b_base64"), (.str (ofS "a2b_base64") 372), (.ref 116)⟩, ⟨PyData.keyHash P (ofS "b2a_base64"), (.str (ofS "b2a_base64") 386), (.ref 124)⟩, ⟨PyData.keyHash P (ofS "_NO_SEP"), (.str (ofS "_NO_SEP") 387), (.ref 125)⟩, ⟨PyData.keyHash P (ofS "b2a_hex"), (.str (ofS "b2a_hex") 398), (.ref 133)⟩, ⟨PyData.keyHash P (ofS "hexlify"), (.str (ofS "hexlify") 399), (.ref 133)⟩, ⟨PyData.keyHash P (ofS "b64encode"), (.str (ofS "b64encode") 410), (.ref 141)⟩, ⟨PyData.keyHash P (ofS "b64decode"), (.str (ofS "b64decode") 419), (.ref 149)⟩, ⟨PyData.keyHash P (ofS "b16encode"), (.str (ofS "b16encode") 426), (.ref 156)⟩, ⟨PyData.keyHash P (ofS "cmp_to_key"), (.str (ofS "cmp_to_key") 437), (.ref 163)⟩, ⟨PyData.keyHash P (ofS "_initial_missing"), (.str (ofS "_initial_missing") 438), (.ref 164)⟩, ⟨PyData.keyHash P (ofS "reduce"), (.str (ofS "reduce") 450), (.ref 172)⟩, ⟨PyData.keyHash P (ofS "_law_told"), (.str (ofS "_law_told") 462), (.ref 179)⟩, ⟨PyData.keyHash P (ofS "_law_source"), (.str (ofS "_law_source") 468), (.ref 184)⟩, ⟨PyData.keyHash P (ofS "_law_sixes"), (.str (ofS "_law_sixes") 474), (.ref 189)⟩, ⟨PyData.keyHash P (ofS "_law_figures"), (.str (ofS "_law_figures") 480), (.ref 194)⟩, ⟨PyData.keyHash P (ofS "_law_octets"), (.str (ofS "_law_octets") 487), (.ref 201)⟩, ⟨PyData.keyHash P (ofS "_law_rising"), (.str (ofS "_law_rising") 493), (.ref 206)⟩, ⟨PyData.keyHash P (ofS "law"), (.str (ofS "law") 499), (.ref 211)⟩] 43), #[]⟩
noncomputable def o12_40 (P : Params) : Obj := ⟨.none, none, (.fields #[(.int (1) 0), (.int (0) 0), (.ref 20), (.int (8) 0), (.int (0) 0), (.ref 31), (.int (10) 0), (.int (0) 0), (.ref 44), (.int (19) 0), (.int (0) 0), (.ref 51), (.int (31) 0), (.int (0) 0), (.ref 58), (.int (35) 0), (.int (0) 0), (.ref 66), (.int (48) 0), (.int (0) 0), (.ref 73), (.int (50) 0), (.int (0) 0), (.ref 86), (.int (61) 0), (.int (0) 0), (.ref 93), (.int (68) 0), (.int (0) 0), (.ref 100), (.int (74) 0), (.int (0) 0), (.ref 107), (.int (86) 0), (.int (0) 0), (.ref 115), (.int (140) 0), (.int (0) 0), (.ref 123), (.int (163) 0), (.int (0) 0), (.ref 132), (.int (181) 0), (.int (0) 0), (.ref 140), (.int (187) 0), (.int (0) 0), (.ref 148), (.int (194) 0), (.int (0) 0), (.ref 155), (.int (197) 0), (.int (0) 0), (.ref 162), (.int (223) 0), (.int (0) 0), (.ref 171), (.int (236) 0), (.int (0) 0), (.ref 178), (.int (241) 0), (.int (0) 0), (.ref 183), (.int (244) 0), (.int (0) 0), (.ref 188), (.int (251) 0), (.int (0) 0), (.ref 193), (.int (253) 0), (.int (0) 0), (.ref 200), (.int (261) 0), (.int (0) 0), (.ref 205), (.int (267) 0), (.int (0) 0), (.ref 210)]), #[]⟩
noncomputable def o180_40 (P : Params) : Obj := ⟨(.type "tuple"), none, (.seq #[] 0), #[]⟩
noncomputable def o181_40 (P : Params) : Obj := ⟨.none, none, (.fields #[]), #[]⟩
noncomputable def o182_40 (P : Params) : Obj := ⟨.none, none, (.func ⟨(ofS "_law_source"), (ofS "_law_source"), fnP (st 34), .stmts (fnB (st 34)), fnS (st 34), 0, [], .none, .none, .none, .none, none, .none, .none, 0⟩), #[]⟩
noncomputable def o183_40 (P : Params) : Obj := ⟨(.type "code"), none, (.fields #[(.str (ofS "_law_source") 463), (.str (ofS "_law_source") 464), (.str (ofS "/claim/cut.py") 465), (.int (241) 0), (.int (1) 0), (.int (0) 0), (.int (0) 0), (.int (3) 0), (.ref 180), (.bool true), (.int (181) 0), (.ref 181), .none, .none, .none, (.ref 182), (.int (466) 0), (.int (241) 0), (.str (ofS "/claim/cut.py") 467)]), #[]⟩
noncomputable def o184_40 (P : Params) : Obj := ⟨(.type "function"), none, (.func ⟨(ofS "_law_source"), (ofS "_law_source"), fnP (st 34), .stmts (fnB (st 34)), fnS (st 34), 3, [], .none, .none, .none, (.str (ofS "law_kq0052_01") 451), none, (.ref 183), .none, 0⟩), #[]⟩
noncomputable def o185_40 (P : Params) : Obj := ⟨(.type "tuple"), none, (.seq #[] 0), #[]⟩
noncomputable def o186_40 (P : Params) : Obj := ⟨.none, none, (.fields #[]), #[]⟩
noncomputable def o187_40 (P : Params) : Obj := ⟨.none, none, (.func ⟨(ofS "_law_sixes"), (ofS "_law_sixes"), fnP (st 35), .stmts (fnB (st 35)), fnS (st 35), 0, [], .none, .none, .none, .none, none, .none, .none, 0⟩), #[]⟩
noncomputable def o188_40 (P : Params) : Obj := ⟨(.type "code"), none, (.fields #[(.str (ofS "_law_sixes") 469), (.str (ofS "_law_sixes") 470), (.str (ofS "/claim/cut.py") 471), (.int (244) 0), (.int (2) 0), (.int (0) 0), (.int (0) 0), (.int (3) 0), (.ref 185), (.bool true), (.int (181) 0), (.ref 186), .none, .none, .none, (.ref 187), (.int (472) 0), (.int (244) 0), (.str (ofS "/claim/cut.py") 473)]), #[]⟩
noncomputable def o189_40 (P : Params) : Obj := ⟨(.type "function"), none, (.func ⟨(ofS "_law_sixes"), (ofS "_law_sixes"), fnP (st 35), .stmts (fnB (st 35)), fnS (st 35), 3, [], .none, .none, .none, (.str (ofS "law_kq0052_01") 451), none, (.ref 188), .none, 0⟩), #[]⟩
noncomputable def o190_40 (P : Params) : Obj := ⟨(.type "tuple"), none, (.seq #[] 0), #[]⟩
noncomputable def o191_40 (P : Params) : Obj := ⟨.none, none, (.fields #[]), #[]⟩
noncomputable def o192_40 (P : Params) : Obj := ⟨.none, none, (.func ⟨(ofS "_law_figures"), (ofS "_law_figures"), fnP (st 36), .stmts (fnB (st 36)), fnS (st 36), 0, [], .none, .none, .none, .none, none, .none, .none, 0⟩), #[]⟩
noncomputable def o193_40 (P : Params) : Obj := ⟨(.type "code"), none, (.fields #[(.str (ofS "_law_figures") 475), (.str (ofS "_law_figures") 476), (.str (ofS "/claim/cut.py") 477), (.int (251) 0), (.int (1) 0), (.int (0) 0), (.int (0) 0), (.int (3) 0), (.ref 190), (.bool true), (.int (181) 0), (.ref 191), .none, .none, .none, (.ref 192), (.int (478) 0), (.int (251) 0), (.str (ofS "/claim/cut.py") 479)]), #[]⟩
noncomputable def o194_40 (P : Params) : Obj := ⟨(.type "function"), none, (.func ⟨(ofS "_law_figures"), (ofS "_law_figures"), fnP (st 36), .stmts (fnB (st 36)), fnS (st 36), 3, [], .none, .none, .none, (.str (ofS "law_kq0052_01") 451), none, (.ref 193), .none, 0⟩), #[]⟩
noncomputable def o195_40 (P : Params) : Obj := ⟨(.type "tuple"), none, (.seq #[] 0), #[]⟩
noncomputable def o196_40 (P : Params) : Obj := ⟨.none, none, (.fields #[]), #[]⟩
noncomputable def o197_40 (P : Params) : Obj := ⟨(.type "tuple"), none, (.seq #[(.str (ofS "number") 484)] 0), #[]⟩
noncomputable def o198_40 (P : Params) : Obj := ⟨(.type "tuple"), none, (.seq #[] 0), #[]⟩
noncomputable def o199_40 (P : Params) : Obj := ⟨.none, none, (.func ⟨(ofS "_law_octets"), (ofS "_law_octets"), fnP (st 37), .stmts (fnB (st 37)), fnS (st 37), 0, [], .none, .none, .none, .none, none, .none, .none, 0⟩), #[]⟩
noncomputable def o200_40 (P : Params) : Obj := ⟨(.type "code"), none, (.fields #[(.str (ofS "_law_octets") 481), (.str (ofS "_law_octets") 482), (.str (ofS "/claim/cut.py") 483), (.int (253) 0), (.int (1) 0), (.int (0) 0), (.int (0) 0), (.int (3) 0), (.ref 195), (.bool true), (.int (181) 0), (.ref 196), .none, (.ref 197), (.ref 198), (.ref 199), (.int (485) 0), (.int (253) 0), (.str (ofS "/claim/cut.py") 486)]), #[]⟩
noncomputable def o201_40 (P : Params) : Obj := ⟨(.type "function"), none, (.func ⟨(ofS "_law_octets"), (ofS "_law_octets"), fnP (st 37), .stmts (fnB (st 37)), fnS (st 37), 3, [], .none, .none, .none, (.str (ofS "law_kq0052_01") 451), none, (.ref 200), .none, 0⟩), #[]⟩
noncomputable def o202_40 (P : Params) : Obj := ⟨(.type "tuple"), none, (.seq #[] 0), #[]⟩
noncomputable def o203_40 (P : Params) : Obj := ⟨.none, none, (.fields #[]), #[]⟩
noncomputable def o204_40 (P : Params) : Obj := ⟨.none, none, (.func ⟨(ofS "_law_rising"), (ofS "_law_rising"), fnP (st 38), .stmts (fnB (st 38)), fnS (st 38), 0, [], .none, .none, .none, .none, none, .none, .none, 0⟩), #[]⟩
noncomputable def o205_40 (P : Params) : Obj := ⟨(.type "code"), none, (.fields #[(.str (ofS "_law_rising") 488), (.str (ofS "_law_rising") 489), (.str (ofS "/claim/cut.py") 490), (.int (261) 0), (.int (1) 0), (.int (0) 0), (.int (0) 0), (.int (3) 0), (.ref 202), (.bool true), (.int (181) 0), (.ref 203), .none, .none, .none, (.ref 204), (.int (491) 0), (.int (261) 0), (.str (ofS "/claim/cut.py") 492)]), #[]⟩
noncomputable def o206_40 (P : Params) : Obj := ⟨(.type "function"), none, (.func ⟨(ofS "_law_rising"), (ofS "_law_rising"), fnP (st 38), .stmts (fnB (st 38)), fnS (st 38), 3, [], .none, .none, .none, (.str (ofS "law_kq0052_01") 451), none, (.ref 205), .none, 0⟩), #[]⟩
noncomputable def o207_40 (P : Params) : Obj := ⟨(.type "tuple"), none, (.seq #[] 0), #[]⟩
noncomputable def o208_40 (P : Params) : Obj := ⟨.none, none, (.fields #[]), #[]⟩
noncomputable def o209_40 (P : Params) : Obj := ⟨.none, none, (.func ⟨(ofS "law"), (ofS "law"), fnP (st 39), .stmts (fnB (st 39)), fnS (st 39), 0, [], .none, .none, .none, .none, none, .none, .none, 0⟩), #[]⟩
noncomputable def o210_40 (P : Params) : Obj := ⟨(.type "code"), none, (.fields #[(.str (ofS "law") 494), (.str (ofS "law") 495), (.str (ofS "/claim/cut.py") 496), (.int (267) 0), (.int (1) 0), (.int (0) 0), (.int (0) 0), (.int (3) 0), (.ref 207), (.bool true), (.int (181) 0), (.ref 208), .none, .none, .none, (.ref 209), (.int (497) 0), (.int (267) 0), (.str (ofS "/claim/cut.py") 498)]), #[]⟩
noncomputable def o211_40 (P : Params) : Obj := ⟨(.type "function"), none, (.func ⟨(ofS "law"), (ofS "law"), fnP (st 39), .stmts (fnB (st 39)), fnS (st 39), 3, [], .none, .none, .none, (.str (ofS "law_kq0052_01") 451), none, (.ref 210), .none, 0⟩), #[]⟩
noncomputable def t_40 (so : Obj) (P : Params) : BT := (.node (boot_o_0 P) (.node (boot_o_1 P) (.node (o3_40 P) (.node (boot_o_7 P) (.node (o15_4 P) (.node (o31_6 P) (.node (o63_13 P) (.node (o127_28 P) .nil .nil) (.node (o191_40 P) .nil .nil)) (.node (o95_21 P) (.node (o159_34 P) .nil .nil) .nil)) (.node (o47_13 P) (.node (o79_14 P) (.node (o143_28 P) .nil .nil) (.node (o207_40 P) .nil .nil)) (.node (o111_21 P) (.node (o175_34 P) .nil .nil) .nil))) (.node (o23_5 P) (.node (o39_13 P) (.node (o71_14 P) (.node (o135_28 P) .nil .nil) (.node (o199_40 P) .nil .nil)) (.node (o103_21 P) (.node (o167_34 P) .nil .nil) .nil)) (.node (o55_13 P) (.node (o87_21 P) (.node (o151_28 P) .nil .nil) .nil) (.node (o119_21 P) (.node (o183_40 P) .nil .nil) .nil)))) (.node (o11_a P) (.node (o19_4 P) (.node (o35_6 P) (.node (o67_13 P) (.node (o131_28 P) .nil .nil) (.node (o195_40 P) .nil .nil)) (.node (o99_21 P) (.node (o163_34 P) .nil .nil) .nil)) (.node (o51_13 P) (.node (o83_21 P) (.node (o147_28 P) .nil .nil) (.node (o211_40 P) .nil .nil)) (.node (o115_21 P) (.node (o179_34 P) .nil .nil) .nil))) (.node (o27_6 P) (.node (o43_13 P) (.node (o75_14 P) (.node (o139_28 P) .nil .nil) (.node (o203_40 P) .nil .nil)) (.node (o107_21 P) (.node (o171_34 P) .nil .nil) .nil)) (.node (o59_13 P) (.node (o91_21 P) (.node (o155_28 P) .nil .nil) .nil) (.node (o123_21 P) (.node (o187_40 P) .nil .nil) .nil))))) (.node (boot_o_5 P) (.node (boot_o_9 P) (.node (o17_4 P) (.node (o33_6 P) (.node (o65_13 P) (.node (o129_28 P) .nil .nil) (.node (o193_40 P) .nil .nil)) (.node (o97_21 P) (.node (o161_34 P) .nil .nil) .nil)) (.node (o49_13 P) (.node (o81_21 P) (.node (o145_28 P) .nil .nil) (.node (o209_40 P) .nil .nil)) (.node (o113_21 P) (.node (o177_34 P) .nil .nil) .nil))) (.node (o25_5 P) (.node (o41_13 P) (.node (o73_14 P) (.node (o137_28 P) .nil .nil) (.node (o201_40 P) .nil .nil)) (.node (o105_21 P) (.node (o169_34 P) .nil .nil) .nil)) (.node (o57_13 P) (.node (o89_21 P) (.node (o153_28 P) .nil .nil) .nil) (.node (o121_21 P) (.node (o185_40 P) .nil .nil) .nil)))) (.node (o13_a P) (.node (o21_4 P) (.node (o37_6 P) (.node (o69_14 P) (.node (o133_28 P) .nil .nil) (.node (o197_40 P) .nil .nil)) (.node (o101_21 P) (.node (o165_34 P) .nil .nil) .nil)) (.node (o53_13 P) (.node (o85_21 P) (.node (o149_28 P) .nil .nil) .nil) (.node (o117_21 P) (.node (o181_40 P) .nil .nil) .nil))) (.node (o29_6 P) (.node (o45_13 P) (.node (o77_14 P) (.node (o141_28 P) .nil .nil) (.node (o205_40 P) .nil .nil)) (.node (o109_21 P) (.node (o173_34 P) .nil .nil) .nil)) (.node (o61_13 P) (.node (o93_21 P) (.node (o157_34 P) .nil .nil) .nil) (.node (o125_28 P) (.node (o189_40 P) .nil .nil) .nil)))))) (.node (boot_o_2 P) (.node (boot_o_4 P) (.node (boot_o_8 P) (.node (o16_4 P) (.node (o32_6 P) (.node (o64_13 P) (.node (o128_28 P) .nil .nil) (.node (o192_40 P) .nil .nil)) (.node (o96_21 P) (.node (o160_34 P) .nil .nil) .nil)) (.node (o48_13 P) (.node (o80_14 P) (.node (o144_28 P) .nil .nil) (.node (o208_40 P) .nil .nil)) (.node (o112_21 P) (.node (o176_34 P) .nil .nil) .nil))) (.node (o24_5 P) (.node (o40_13 P) (.node (o72_14 P) (.node (o136_28 P) .nil .nil) (.node (o200_40 P) .nil .nil)) (.node (o104_21 P) (.node (o168_34 P) .nil .nil) .nil)) (.node (o56_13 P) (.node (o88_21 P) (.node (o152_28 P) .nil .nil) .nil) (.node (o120_21 P) (.node (o184_40 P) .nil .nil) .nil)))) (.node (o12_40 P) (.node (o20_4 P) (.node (o36_6 P) (.node (o68_14 P) (.node (o132_28 P) .nil .nil) (.node (o196_40 P) .nil .nil)) (.node (o100_21 P) (.node (o164_34 P) .nil .nil) .nil)) (.node (o52_13 P) (.node (o84_21 P) (.node (o148_28 P) .nil .nil) .nil) (.node (o116_21 P) (.node (o180_40 P) .nil .nil) .nil))) (.node (o28_6 P) (.node (o44_13 P) (.node (o76_14 P) (.node (o140_28 P) .nil .nil) (.node (o204_40 P) .nil .nil)) (.node (o108_21 P) (.node (o172_34 P) .nil .nil) .nil)) (.node (o60_13 P) (.node (o92_21 P) (.node (o156_28 P) .nil .nil) .nil) (.node (o124_21 P) (.node (o188_40 P) .nil .nil) .nil))))) (.node (boot_o_6 P) (.node (boot_o_10 P) (.node (o18_4 P) (.node (o34_6 P) (.node (o66_13 P) (.node (o130_28 P) .nil .nil) (.node (o194_40 P) .nil .nil)) (.node (o98_21 P) (.node (o162_34 P) .nil .nil) .nil)) (.node (o50_13 P) (.node (o82_21 P) (.node (o146_28 P) .nil .nil) (.node (o210_40 P) .nil .nil)) (.node (o114_21 P) (.node (o178_34 P) .nil .nil) .nil))) (.node (o26_6 P) (.node (o42_13 P) (.node (o74_14 P) (.node (o138_28 P) .nil .nil) (.node (o202_40 P) .nil .nil)) (.node (o106_21 P) (.node (o170_34 P) .nil .nil) .nil)) (.node (o58_13 P) (.node (o90_21 P) (.node (o154_28 P) .nil .nil) .nil) (.node (o122_21 P) (.node (o186_40 P) .nil .nil) .nil)))) (.node (o14_a P) (.node so (.node (o38_6 P) (.node (o70_14 P) (.node (o134_28 P) .nil .nil) (.node (o198_40 P) .nil .nil)) (.node (o102_21 P) (.node (o166_34 P) .nil .nil) .nil)) (.node (o54_13 P) (.node (o86_21 P) (.node (o150_28 P) .nil .nil) .nil) (.node (o118_21 P) (.node (o182_40 P) .nil .nil) .nil))) (.node (o30_6 P) (.node (o46_13 P) (.node (o78_14 P) (.node (o142_28 P) .nil .nil) (.node (o206_40 P) .nil .nil)) (.node (o110_21 P) (.node (o174_34 P) .nil .nil) .nil)) (.node (o62_13 P) (.node (o94_21 P) (.node (o158_34 P) .nil .nil) .nil) (.node (o126_28 P) (.node (o190_40 P) .nil .nil) .nil)))))))
noncomputable def s_40 (so : Obj) (w : World) (os : OsState) : SharedT := ⟨t_40 so w.params, 212, {}, #[], {}, 500, os⟩
noncomputable def p_40 : Pos := ⟨267, 0, 287, 143⟩
noncomputable def env0 : Env := { scope := pw.main.scope, locals := mainNs, globals := mainNs, cells := [], code := .ref 13, frame := some 14 }
noncomputable def cE : Code := .body (behindTheImports pw) env0
abbrev B0 : List Frame := [topFrame ⟨0, 0, 0, 0⟩]
noncomputable def sts (a n : Nat) : List Stmt := (pw.main.body.drop a).take n
end
end
section
set_option maxHeartbeats 0
noncomputable section
noncomputable def itK (k : Nat) : Obj := ⟨.type "str_ascii_iterator", none, .fields #[.str (ofS "0123456789abcdefABCDEF") 199, .int k 0], #[]⟩
noncomputable def t_L (so it : Obj) (P : Params) : BT := (.node (boot_o_0 P) (.node (boot_o_1 P) (.node (o3_4 P) (.node (boot_o_7 P) (.node (o15_4 P) .nil .nil) (.node it .nil .nil)) (.node (o11_a P) (.node (o19_4 P) .nil .nil) .nil)) (.node (boot_o_5 P) (.node (boot_o_9 P) (.node (o17_4 P) .nil .nil) .nil) (.node (o13_a P) (.node (o21_4 P) .nil .nil) .nil))) (.node (boot_o_2 P) (.node (boot_o_4 P) (.node (boot_o_8 P) (.node (o16_4 P) .nil .nil) .nil) (.node (o12_4 P) (.node (o20_4 P) .nil .nil) .nil)) (.node (boot_o_6 P) (.node (boot_o_10 P) (.node (o18_4 P) .nil .nil) .nil) (.node (o14_a P) (.node so .nil .nil) .nil))))
noncomputable def s_L (k : Nat) (so : Obj) (w : World) (os : OsState) : SharedT := ⟨t_L so (itK k) w.params, 24, {}, #[], {}, 203 + 2 * k, os⟩
noncomputable def so0 (P : Params) : Obj := ⟨.type "frozenset", none, .set #[] 0 (SetTable.fresh 0 0 (!P.followText "set-order")), #[]⟩
noncomputable def loopC : Code := .builtin "set.update.loop" ⟨[.ref 22, .ref 23], []⟩
noncomputable def stkE (w : World) : List Frame := match segGoT treeTable pw w 11 (some (.ref 6)) 1 20 (s_4 (so0 w.params) w default) (piecesOf (sts 4 1) env0 cE p_4 B0) with
  | some (_, t) => t.stack
  | none => []
noncomputable def posE : Pos := ⟨7, 17, 7, 37⟩
theorem setA0 (w : World) : (fun os => segGoT treeTable pw (w.withFollow "special-get-raises" false) 11 (some (.ref 6)) 1 20 (s_4 (so0 w.params) w os) (piecesOf (sts 4 1) env0 cE p_4 B0)) = fun os => some (s_L 0 (so0 w.params) w os, ⟨denote treeTable loopC, loopC, posE, stkE (w.withFollow "special-get-raises" false)⟩) := by kernel_rfl
end
end
section
set_option maxHeartbeats 0
noncomputable section
noncomputable def thrN (w : World) (f1 f2 : Frame) (stk : List Frame) : List Frame := match segGoT treeTable pw w 11 (some (.ref 6)) 1 4 (s_L 0 default w default) ⟨denote treeTable loopC, loopC, posE, f1 :: f2 :: stk⟩ with
  | some (_, t) => t.stack
  | none => []
noncomputable def nextC : Code := .builtin "str_ascii_iterator.__next__" ⟨[.ref 23], []⟩
theorem B1_0 (w : World) (so : Obj) (f1 f2 : Frame) (stk : List Frame) : (fun os => segGoT treeTable pw w 11 (some (.ref 6)) 1 9 (s_L 0 so w os) ⟨denote treeTable loopC, loopC, posE, f1 :: f2 :: stk⟩) = fun os => some (⟨t_L so (itK 1) w.params, 24, {}, #[], {}, 204, os⟩, ⟨.pure (.done (.ret (.str (ofS "0") 203))), nextC, posE, thrN w f1 f2 stk⟩) := by kernel_rfl
theorem B1_1 (w : World) (so : Obj) (f1 f2 : Frame) (stk : List Frame) : (fun os => segGoT treeTable pw w 11 (some (.ref 6)) 1 9 (s_L 1 so w os) ⟨denote treeTable loopC, loopC, posE, f1 :: f2 :: stk⟩) = fun os => some (⟨t_L so (itK 2) w.params, 24, {}, #[], {}, 206, os⟩, ⟨.pure (.done (.ret (.str (ofS "1") 205))), nextC, posE, thrN w f1 f2 stk⟩) := by kernel_rfl
theorem B1_2 (w : World) (so : Obj) (f1 f2 : Frame) (stk : List Frame) : (fun os => segGoT treeTable pw w 11 (some (.ref 6)) 1 9 (s_L 2 so w os) ⟨denote treeTable loopC, loopC, posE, f1 :: f2 :: stk⟩) = fun os => some (⟨t_L so (itK 3) w.params, 24, {}, #[], {}, 208, os⟩, ⟨.pure (.done (.ret (.str (ofS "2") 207))), nextC, posE, thrN w f1 f2 stk⟩) := by kernel_rfl
theorem B1_3 (w : World) (so : Obj) (f1 f2 : Frame) (stk : List Frame) : (fun os => segGoT treeTable pw w 11 (some (.ref 6)) 1 9 (s_L 3 so w os) ⟨denote treeTable loopC, loopC, posE, f1 :: f2 :: stk⟩) = fun os => some (⟨t_L so (itK 4) w.params, 24, {}, #[], {}, 210, os⟩, ⟨.pure (.done (.ret (.str (ofS "3") 209))), nextC, posE, thrN w f1 f2 stk⟩) := by kernel_rfl
theorem B1_4 (w : World) (so : Obj) (f1 f2 : Frame) (stk : List Frame) : (fun os => segGoT treeTable pw w 11 (some (.ref 6)) 1 9 (s_L 4 so w os) ⟨denote treeTable loopC, loopC, posE, f1 :: f2 :: stk⟩) = fun os => some (⟨t_L so (itK 5) w.params, 24, {}, #[], {}, 212, os⟩, ⟨.pure (.done (.ret (.str (ofS "4") 211))), nextC, posE, thrN w f1 f2 stk⟩) := by kernel_rfl
theorem B1_5 (w : World) (so : Obj) (f1 f2 : Frame) (stk : List Frame) : (fun os => segGoT treeTable pw w 11 (some (.ref 6)) 1 9 (s_L 5 so w os) ⟨denote treeTable loopC, loopC, posE, f1 :: f2 :: stk⟩) = fun os => some (⟨t_L so (itK 6) w.params, 24, {}, #[], {}, 214, os⟩, ⟨.pure (.done (.ret (.str (ofS "5") 213))), nextC, posE, thrN w f1 f2 stk⟩) := by kernel_rfl
theorem B1_6 (w : World) (so : Obj) (f1 f2 : Frame) (stk : List Frame) : (fun os => segGoT treeTable pw w 11 (some (.ref 6)) 1 9 (s_L 6 so w os) ⟨denote treeTable loopC, loopC, posE, f1 :: f2 :: stk⟩) = fun os => some (⟨t_L so (itK 7) w.params, 24, {}, #[], {}, 216, os⟩, ⟨.pure (.done (.ret (.str (ofS "6") 215))), nextC, posE, thrN w f1 f2 stk⟩) := by kernel_rfl
theorem B1_7 (w : World) (so : Obj) (f1 f2 : Frame) (stk : List Frame) : (fun os => segGoT treeTable pw w 11 (some (.ref 6)) 1 9 (s_L 7 so w os) ⟨denote treeTable loopC, loopC, posE, f1 :: f2 :: stk⟩) = fun os => some (⟨t_L so (itK 8) w.params, 24, {}, #[], {}, 218, os⟩, ⟨.pure (.done (.ret (.str (ofS "7") 217))), nextC, posE, thrN w f1 f2 stk⟩) := by kernel_rfl
theorem B1_8 (w : World) (so : Obj) (f1 f2 : Frame) (stk : List Frame) : (fun os => segGoT treeTable pw w 11 (some (.ref 6)) 1 9 (s_L 8 so w os) ⟨denote treeTable loopC, loopC, posE, f1 :: f2 :: stk⟩) = fun os => some (⟨t_L so (itK 9) w.params, 24, {}, #[], {}, 220, os⟩, ⟨.pure (.done (.ret (.str (ofS "8") 219))), nextC, posE, thrN w f1 f2 stk⟩) := by kernel_rfl
theorem B1_9 (w : World) (so : Obj) (f1 f2 : Frame) (stk : List Frame) : (fun os => segGoT treeTable pw w 11 (some (.ref 6)) 1 9 (s_L 9 so w os) ⟨denote treeTable loopC, loopC, posE, f1 :: f2 :: stk⟩) = fun os => some (⟨t_L so (itK 10) w.params, 24, {}, #[], {}, 222, os⟩, ⟨.pure (.done (.ret (.str (ofS "9") 221))), nextC, posE, thrN w f1 f2 stk⟩) := by kernel_rfl
theorem B1_10 (w : World) (so : Obj) (f1 f2 : Frame) (stk : List Frame) : (fun os => segGoT treeTable pw w 11 (some (.ref 6)) 1 9 (s_L 10 so w os) ⟨denote treeTable loopC, loopC, posE, f1 :: f2 :: stk⟩) = fun os => some (⟨t_L so (itK 11) w.params, 24, {}, #[], {}, 224, os⟩, ⟨.pure (.done (.ret (.str (ofS "a") 223))), nextC, posE, thrN w f1 f2 stk⟩) := by kernel_rfl
theorem B1_11 (w : World) (so : Obj) (f1 f2 : Frame) (stk : List Frame) : (fun os => segGoT treeTable pw w 11 (some (.ref 6)) 1 9 (s_L 11 so w os) ⟨denote treeTable loopC, loopC, posE, f1 :: f2 :: stk⟩) = fun os => some (⟨t_L so (itK 12) w.params, 24, {}, #[], {}, 226, os⟩, ⟨.pure (.done (.ret (.str (ofS "b") 225))), nextC, posE, thrN w f1 f2 stk⟩) := by kernel_rfl
theorem B1_12 (w : World) (so : Obj) (f1 f2 : Frame) (stk : List Frame) : (fun os => segGoT treeTable pw w 11 (some (.ref 6)) 1 9 (s_L 12 so w os) ⟨denote treeTable loopC, loopC, posE, f1 :: f2 :: stk⟩) = fun os => some (⟨t_L so (itK 13) w.params, 24, {}, #[], {}, 228, os⟩, ⟨.pure (.done (.ret (.str (ofS "c") 227))), nextC, posE, thrN w f1 f2 stk⟩) := by kernel_rfl
theorem B1_13 (w : World) (so : Obj) (f1 f2 : Frame) (stk : List Frame) : (fun os => segGoT treeTable pw w 11 (some (.ref 6)) 1 9 (s_L 13 so w os) ⟨denote treeTable loopC, loopC, posE, f1 :: f2 :: stk⟩) = fun os => some (⟨t_L so (itK 14) w.params, 24, {}, #[], {}, 230, os⟩, ⟨.pure (.done (.ret (.str (ofS "d") 229))), nextC, posE, thrN w f1 f2 stk⟩) := by kernel_rfl
theorem B1_14 (w : World) (so : Obj) (f1 f2 : Frame) (stk : List Frame) : (fun os => segGoT treeTable pw w 11 (some (.ref 6)) 1 9 (s_L 14 so w os) ⟨denote treeTable loopC, loopC, posE, f1 :: f2 :: stk⟩) = fun os => some (⟨t_L so (itK 15) w.params, 24, {}, #[], {}, 232, os⟩, ⟨.pure (.done (.ret (.str (ofS "e") 231))), nextC, posE, thrN w f1 f2 stk⟩) := by kernel_rfl
theorem B1_15 (w : World) (so : Obj) (f1 f2 : Frame) (stk : List Frame) : (fun os => segGoT treeTable pw w 11 (some (.ref 6)) 1 9 (s_L 15 so w os) ⟨denote treeTable loopC, loopC, posE, f1 :: f2 :: stk⟩) = fun os => some (⟨t_L so (itK 16) w.params, 24, {}, #[], {}, 234, os⟩, ⟨.pure (.done (.ret (.str (ofS "f") 233))), nextC, posE, thrN w f1 f2 stk⟩) := by kernel_rfl
theorem B1_16 (w : World) (so : Obj) (f1 f2 : Frame) (stk : List Frame) : (fun os => segGoT treeTable pw w 11 (some (.ref 6)) 1 9 (s_L 16 so w os) ⟨denote treeTable loopC, loopC, posE, f1 :: f2 :: stk⟩) = fun os => some (⟨t_L so (itK 17) w.params, 24, {}, #[], {}, 236, os⟩, ⟨.pure (.done (.ret (.str (ofS "A") 235))), nextC, posE, thrN w f1 f2 stk⟩) := by kernel_rfl
theorem B1_17 (w : World) (so : Obj) (f1 f2 : Frame) (stk : List Frame) : (fun os => segGoT treeTable pw w 11 (some (.ref 6)) 1 9 (s_L 17 so w os) ⟨denote treeTable loopC, loopC, posE, f1 :: f2 :: stk⟩) = fun os => some (⟨t_L so (itK 18) w.params, 24, {}, #[], {}, 238, os⟩, ⟨.pure (.done (.ret (.str (ofS "B") 237))), nextC, posE, thrN w f1 f2 stk⟩) := by kernel_rfl
theorem B1_18 (w : World) (so : Obj) (f1 f2 : Frame) (stk : List Frame) : (fun os => segGoT treeTable pw w 11 (some (.ref 6)) 1 9 (s_L 18 so w os) ⟨denote treeTable loopC, loopC, posE, f1 :: f2 :: stk⟩) = fun os => some (⟨t_L so (itK 19) w.params, 24, {}, #[], {}, 240, os⟩, ⟨.pure (.done (.ret (.str (ofS "C") 239))), nextC, posE, thrN w f1 f2 stk⟩) := by kernel_rfl
theorem B1_19 (w : World) (so : Obj) (f1 f2 : Frame) (stk : List Frame) : (fun os => segGoT treeTable pw w 11 (some (.ref 6)) 1 9 (s_L 19 so w os) ⟨denote treeTable loopC, loopC, posE, f1 :: f2 :: stk⟩) = fun os => some (⟨t_L so (itK 20) w.params, 24, {}, #[], {}, 242, os⟩, ⟨.pure (.done (.ret (.str (ofS "D") 241))), nextC, posE, thrN w f1 f2 stk⟩) := by kernel_rfl
theorem B1_20 (w : World) (so : Obj) (f1 f2 : Frame) (stk : List Frame) : (fun os => segGoT treeTable pw w 11 (some (.ref 6)) 1 9 (s_L 20 so w os) ⟨denote treeTable loopC, loopC, posE, f1 :: f2 :: stk⟩) = fun os => some (⟨t_L so (itK 21) w.params, 24, {}, #[], {}, 244, os⟩, ⟨.pure (.done (.ret (.str (ofS "E") 243))), nextC, posE, thrN w f1 f2 stk⟩) := by kernel_rfl
theorem B1_21 (w : World) (so : Obj) (f1 f2 : Frame) (stk : List Frame) : (fun os => segGoT treeTable pw w 11 (some (.ref 6)) 1 9 (s_L 21 so w os) ⟨denote treeTable loopC, loopC, posE, f1 :: f2 :: stk⟩) = fun os => some (⟨t_L so (itK 22) w.params, 24, {}, #[], {}, 246, os⟩, ⟨.pure (.done (.ret (.str (ofS "F") 245))), nextC, posE, thrN w f1 f2 stk⟩) := by kernel_rfl
end
end
section
noncomputable def flat (P : Setting) {α : Type} : Sem α → Shared → Option (α × Shared × Nat)
  | .pure a, s => some (a, s, 0)
  | .rule _ k, s => (flat P (k ()) s).map fun r => (r.1, r.2.1, r.2.2 + 1)
  | .load a _ k, s => (s.heap.get? a).elim none fun o => (flat P (k o) s).map fun r => (r.1, r.2.1, r.2.2 + 1)
  | .update a _ f k, s => if 11 ≤ a ∧ (s.heap.get? a).isSome = true then (flat P (k ()) { s with heap := s.heap.update a f }).map fun r => (r.1, r.2.1, r.2.2 + 1) else none
  | .ask k, s => (flat P (k P) s).map fun r => (r.1, r.2.1, r.2.2 + 1)
  | _, _ => none

section
variable {P : Setting} {α : Type}
theorem flat_e1 (a : α) (s : Shared) : flat P (.pure a) s = some (a, s, 0) := rfl
theorem flat_e2 (t : String) (k : Unit → Sem α) (s : Shared) : flat P (.rule t k) s = (flat P (k ()) s).map fun r => (r.1, r.2.1, r.2.2 + 1) := rfl
theorem flat_e3 (a : Addr) (p : Option Value) (k : Obj → Sem α) (s : Shared) : flat P (.load a p k) s = (s.heap.get? a).elim none fun o => (flat P (k o) s).map fun r => (r.1, r.2.1, r.2.2 + 1) := rfl
theorem flat_e4 (a : Addr) (p : Option Value) (f : Obj → Obj) (k : Unit → Sem α) (s : Shared) : flat P (.update a p f k) s = if 11 ≤ a ∧ (s.heap.get? a).isSome = true then (flat P (k ()) { s with heap := s.heap.update a f }).map fun r => (r.1, r.2.1, r.2.2 + 1) else none := rfl
theorem flat_e5 (k : Setting → Sem α) (s : Shared) : flat P (.ask k) s = (flat P (k P) s).map fun r => (r.1, r.2.1, r.2.2 + 1) := rfl
end
theorem flat_bind {P : Setting} {α β : Type} (f : α → Sem β) : ∀ (m : Sem α) (s : Shared), flat P (m.bind f) s = (flat P m s).bind fun r => (flat P (f r.1) r.2.1).map fun q => (q.1, q.2.1, q.2.2 + r.2.2) := by
  intro m
  induction m with
  | pure a => intro s; simp [Sem.bind, flat_e1]
  | rule t k ih => intro s; simp only [Sem.bind, flat_e2, ih]; cases flat P (k ()) s with | none => rfl | some r => simp only [Option.bind_some, Option.map_map, Option.map_some]; congr 1
  | load a p k ih =>
    intro s; simp only [Sem.bind, flat_e3]
    cases s.heap.get? a with
    | none => rfl
    | some o => simp only [Option.elim_some, ih]; cases flat P (k o) s with | none => rfl | some r => simp only [Option.bind_some, Option.map_map, Option.map_some]; congr 1
  | update a p g k ih =>
    intro s; simp only [Sem.bind, flat_e4]
    split
    · simp only [ih]; cases flat P (k ()) { s with heap := s.heap.update a g } with | none => rfl | some r => simp only [Option.bind_some, Option.map_map, Option.map_some]; congr 1
    · rfl
  | ask k ih => intro s; simp only [Sem.bind, flat_e5, ih]; cases flat P (k P) s with | none => rfl | some r => simp only [Option.bind_some, Option.map_map, Option.map_some]; congr 1
  | _ => intro s; rfl

abbrev G1 (w : World) (n : Nat) (s : Shared) (t : Thread) (s' : Shared) (t' : Thread) : Prop := segGo treeTable pw w 11 (some (.ref 6)) 1 n s t = some (s', t')

theorem G1.trans {w : World} : ∀ {n m : Nat} {s s' s'' : Shared} {t t' t'' : Thread}, G1 w n s t s' t' → G1 w m s' t' s'' t'' → G1 w (n + m) s t s'' t''
  | 0, m, s, s', s'', t, t', t'', h, k => by
    obtain ⟨rfl, rfl⟩ : s = s' ∧ t = t' := by simpa [G1, segGo] using h
    rw [Nat.zero_add]; exact k
  | n + 1, m, s, s', s'', t, t', t'', h, k => by
    rw [show n + 1 + m = n + m + 1 by omega]
    unfold G1 segGo at h
    unfold G1 segGo
    cases he : endAt 1 t with
    | some f => rw [he] at h; cases h
    | none =>
      rw [he] at h
      cases hk : stepOk 11 (some (.ref 6)) t with
      | false => rw [hk] at h; cases h
      | true =>
        rw [hk] at h
        cases hs : step (denote treeTable) pw w s t with
        | halt o s' => rw [hs] at h; cases h
        | go s₂ t₂ => rw [hs] at h; exact G1.trans (n := n) h k

theorem G1.one {w : World} {s s' : Shared} {cur : Sem Fin} {f1 f2 : Frame} {stk : List Frame} {t' : Thread} (hk : stepOk 11 (some (.ref 6)) ⟨cur, loopC, posE, f1 :: f2 :: stk⟩ = true)
    (hs : step (denote treeTable) pw w s ⟨cur, loopC, posE, f1 :: f2 :: stk⟩ = .go s' t') : G1 w 1 s ⟨cur, loopC, posE, f1 :: f2 :: stk⟩ s' t' := by
  unfold G1 segGo
  have he : endAt 1 ⟨cur, loopC, posE, f1 :: f2 :: stk⟩ = none := by
    unfold endAt
    have : ((f1 :: f2 :: stk).length == 1) = false := by simp
    rw [this]
  rw [he, hk]
  simp only [hs]
  rfl

theorem flat_go {w : World} {f1 f2 : Frame} {stk : List Frame} {α : Type} (k : α → Sem Fin) : ∀ (m : Sem α) (s : Shared) (a : α) (s' : Shared) (n : Nat), flat ⟨pw, w.params⟩ m s = some (a, s', n) →
    G1 w n s ⟨m.bind k, loopC, posE, f1 :: f2 :: stk⟩ s' ⟨k a, loopC, posE, f1 :: f2 :: stk⟩ := by
  intro m
  induction m with
  | pure a => intro s a' s' n h; simp only [flat_e1, Option.some.injEq, Prod.mk.injEq] at h; obtain ⟨rfl, rfl, rfl⟩ := h; rfl
  | rule t j ih =>
    intro s a' s' n h
    simp only [flat_e2, Option.map_eq_some_iff, Prod.mk.injEq] at h
    obtain ⟨⟨a2, s2, n2⟩, h1, rfl, rfl, rfl⟩ := h
    have := G1.trans (G1.one (w := w) (f1 := f1) (f2 := f2) (stk := stk) (s := s) (cur := (Sem.rule t j).bind k) rfl rfl) (ih () s _ _ _ h1)
    rw [Nat.add_comm]; exact this
  | load a p j ih =>
    intro s a' s' n h
    simp only [flat_e3] at h
    cases ho : s.heap.get? a with
    | none => rw [ho] at h; cases h
    | some o =>
      rw [ho] at h
      simp only [Option.elim_some, Option.map_eq_some_iff, Prod.mk.injEq] at h
      obtain ⟨⟨a2, s2, n2⟩, h1, rfl, rfl, rfl⟩ := h
      have := G1.trans (G1.one (w := w) (f1 := f1) (f2 := f2) (stk := stk) (s := s) (s' := s) (cur := (Sem.load a p j).bind k) (t' := ⟨(j o).bind k, loopC, posE, f1 :: f2 :: stk⟩) rfl (by
        obtain ⟨hp, gn, dr, tk, os⟩ := s
        simp only [Sem.bind, step]
        dsimp only at ho
        rw [ho])) (ih o s _ _ _ h1)
      rw [Nat.add_comm]; exact this
  | update a p g j ih =>
    intro s a' s' n h
    simp only [flat_e4] at h
    split at h
    · rename_i hc
      simp only [Option.map_eq_some_iff, Prod.mk.injEq] at h
      obtain ⟨⟨a2, s2, n2⟩, h1, rfl, rfl, rfl⟩ := h
      have := G1.trans (G1.one (w := w) (f1 := f1) (f2 := f2) (stk := stk) (s := s) (s' := { s with heap := s.heap.update a g }) (cur := (Sem.update a p g j).bind k) (t' := ⟨(j ()).bind k, loopC, posE, f1 :: f2 :: stk⟩) (by
          have : Nat.ble 11 a = true := Nat.ble_eq.mpr hc.1
          show (Thread.calm ⟨_, loopC, posE, _⟩ && (Nat.ble 11 a || a == mainNs || a == cStatics || some (Value.ref 6) == some (.ref a))) = true
          rw [this]; rfl) (by
        obtain ⟨hp, gn, dr, tk, os⟩ := s
        simp only [Sem.bind, step]
        have h2 := hc.2
        dsimp only at h2
        rw [if_pos h2])) (ih () _ _ _ _ h1)
      rw [Nat.add_comm]; exact this
    · cases h
  | ask j ih =>
    intro s a' s' n h
    simp only [flat_e5, Option.map_eq_some_iff, Prod.mk.injEq] at h
    obtain ⟨⟨a2, s2, n2⟩, h1, rfl, rfl, rfl⟩ := h
    have := G1.trans (G1.one (w := w) (f1 := f1) (f2 := f2) (stk := stk) (s := s) (cur := (Sem.ask j).bind k) rfl rfl) (ih _ s _ _ _ h1)
    rw [Nat.add_comm]; exact this
  | _ => intro s a' s' n h; cases h
end
section
structure SS where
  es : Array (Int × Value)
  n : Nat
  t : SetTable
noncomputable def SS.obj (x : SS) : Obj := ⟨.type "frozenset", none, .set x.es x.n x.t, #[]⟩
noncomputable def SS.put1 (x : SS) (h : Int) (v : Value) : SS :=
  let r := layNew x.t x.es h v
  ⟨r.1, x.n + 1, if r.2.1.plain then { r.2.1 with plain := false } else r.2.1⟩
noncomputable def SS.add (x : SS) (h : Int) (v : Value) : SS :=
  let y := x.put1 h v
  if (!(layNew x.t x.es h v).2.2.1 && y.t.tooFull) = true then
    let q := relayAll y.t y.es (SetTable.grown y.es.size)
    ⟨q.1, y.n + 1, q.2.1⟩
  else y

noncomputable def gv : Bool → Sem Unit
  | true => rule "set.scan.the-table-gave-way"
  | false => pure ()

theorem flat_bind' {P : Setting} {α β : Type} (f : α → Sem β) (m : Sem α) (s : Shared) : flat P (m >>= f) s = (flat P m s).bind fun r => (flat P (f r.1) r.2.1).map fun q => (q.1, q.2.1, q.2.2 + r.2.2) := flat_bind f m s
theorem flat_pure {P : Setting} {α : Type} (a : α) (s : Shared) : flat P (pure a) s = some (a, s, 0) := rfl
theorem flat_pure' {P : Setting} {α : Type} (a : α) (s : Shared) : flat P (.pure a) s = some (a, s, 0) := rfl
theorem flat_rule {P : Setting} (t : String) (s : Shared) : flat P (rule t) s = some ((), s, 1) := rfl
theorem flat_load {P : Setting} {a : Addr} {o : Obj} {s : Shared} (h : s.heap.get? a = some o) : flat P (load a) s = some (o, s, 1) := by
  unfold load
  rw [flat_e3, h]; rfl
theorem flat_update {P : Setting} {a : Addr} {o : Obj} {s : Shared} {f : Obj → Obj} (ha : 11 ≤ a) (h : s.heap.get? a = some o) : flat P (update a f) s = some ((), { s with heap := s.heap.update a f }, 1) := by
  show (if 11 ≤ a ∧ (s.heap.get? a).isSome = true then _ else none) = _
  rw [if_pos ⟨ha, by rw [h]; rfl⟩]; rfl
theorem flat_gv {P : Setting} (b : Bool) (s : Shared) : ∃ n, n ≤ 1 ∧ flat P (gv b) s = some ((), s, n) := by
  cases b
  · exact ⟨0, by lia, rfl⟩
  · exact ⟨1, by lia, rfl⟩

noncomputable def SS.fit (x : SS) : Prop := x.t.fits x.es.size = true
theorem flat_setState {P : Setting} {a : Addr} {x : SS} {s : Shared} (h : s.heap.get? a = some x.obj) (hf : x.fit) : flat P (setState a) s = some ((x.es, x.n, x.t), s, 1) := by
  unfold setState
  rw [flat_bind', flat_load h]
  unfold SS.fit SetTable.fits at hf
  simp only [Bool.and_eq_true, beq_iff_eq, decide_eq_true_eq] at hf
  simp only [SS.obj, Option.bind_some]
  have : (x.t.place.size != x.es.size || decide (x.t.fill > x.t.mask)) = false := by
    simp only [Bool.or_eq_false_iff, bne_eq_false_iff_eq, decide_eq_false_iff_not]
    lia
  simp [this, flat_bind', flat_pure]
theorem flat_storeSet {P : Setting} {a : Addr} {x : SS} {s : Shared} (es : Array (Int × Value)) (t : SetTable) (ha : 11 ≤ a) (h : s.heap.get? a = some x.obj) (hz : es.size ≤ 1000) :
    flat P (storeSet a es t) s = some ((), { s with heap := s.heap.update a (Obj.putSet es t) }, 2) := by
  unfold storeSet
  rw [flat_bind', flat_load h]
  have : ¬ es.size > sizeLine := by unfold sizeLine; lia
  simp [SS.obj, this, flat_bind', flat_pure, flat_update ha h]

noncomputable def SS.holds (x : SS) (l : List (Int × Value)) : Prop := x.es.toList.Perm l
theorem scan_none {a : Addr} {x : SS} {l : List (Int × Value)} {c : Str} {tok : Tok} {h : Int} (hl : x.holds l) (hs : ∀ e ∈ l, ∃ y u, e.2 = .str y u ∧ y ≠ c) : setScan a (.str c tok) h true x.es = pure .absent := by
  have all : ∀ e ∈ x.es.toList, ∃ y u, e.2 = .str y u ∧ y ≠ c := fun e he => hs e (hl.mem_iff.mp he)
  unfold setScan
  have h1 : (x.es.all fun e => isExactStrKey e.2) = true := by
    rw [← Array.all_toList, List.all_eq_true]
    intro e he
    obtain ⟨y, u, e1, _⟩ := all e he
    rw [e1]; rfl
  simp only [h1, if_true]
  unfold setScanStrs
  have h2 : x.es.findIdx? (fun e => e.2.isStr c) = none := by
    rw [Array.findIdx?_eq_none_iff]
    intro e he
    obtain ⟨y, u, e1, e2⟩ := all e (Array.mem_toList_iff.mpr he)
    rw [e1]
    simp [Value.isStr, e2]
  rw [h2]
theorem byScan_ok {x : SS} {l : List (Int × Value)} {c : Str} {tok : Tok} (hl : x.holds l) (hs : ∀ e ∈ l, ∃ y u, e.2 = .str y u ∧ y ≠ c) (hz : l.length ≤ 100) : byScan (.str c tok) x.es = true := by
  unfold byScan
  simp only [Bool.and_eq_true, decide_eq_true_eq]
  refine ⟨⟨rfl, ?_⟩, ?_⟩
  · have := hl.length_eq
    simp only [Array.length_toList] at this
    unfold scanBound; lia
  · rw [← Array.all_toList, List.all_eq_true]
    intro e he
    obtain ⟨y, u, e1, _⟩ := hs e (hl.mem_iff.mp he)
    rw [e1]; rfl

theorem insertAt_perm {α : Type} (xs : Array α) (p : Nat) (x : α) : (SetTable.insertAt xs p x).toList.Perm (x :: xs.toList) := by
  unfold SetTable.insertAt
  simp only [Array.toList_append, Array.toList_push, Array.toList_extract, List.append_assoc, List.singleton_append, List.extract_eq_take_drop, List.drop_zero, Nat.sub_zero]
  refine List.perm_middle.trans (List.Perm.cons _ ?_)
  rw [List.take_of_length_le (l := xs.toList.drop p) (by simp)]
  rw [List.take_append_drop]
theorem layNew_perm (t : SetTable) (es : Array (Int × Value)) (h : Int) (v : Value) : (layNew t es h v).1.toList.Perm ((h, v) :: es.toList) := by
  unfold layNew
  cases t.freeSlot h with
  | none => simp only [Array.toList_push]; exact List.perm_append_singleton _ _
  | some r => exact insertAt_perm _ _ _
theorem standIn_fits (t : SetTable) (n : Nat) : (t.standIn n).fits n = true := by
  unfold SetTable.standIn SetTable.fits SetTable.fill
  simp; lia
theorem orStandIn_fits (t : SetTable) (n : Nat) : (t.orStandIn n).fits n = true := by
  unfold SetTable.orStandIn
  split
  · assumption
  · exact standIn_fits _ _
theorem layNew_fits (t : SetTable) (es : Array (Int × Value)) (h : Int) (v : Value) : (layNew t es h v).2.1.fits (layNew t es h v).1.size = true := by
  unfold layNew
  cases t.freeSlot h with
  | none => simp only [Array.size_push]; exact standIn_fits _ _
  | some r => exact orStandIn_fits _ _
theorem fits_plain (t : SetTable) (b : Bool) (n : Nat) : ({ t with plain := b } : SetTable).fits n = t.fits n := rfl
theorem SS.put1_holds {x : SS} {l : List (Int × Value)} (hl : x.holds l) (h : Int) (v : Value) : (x.put1 h v).holds ((h, v) :: l) := (layNew_perm _ _ _ _).trans (hl.cons _)
theorem SS.put1_fit (x : SS) (h : Int) (v : Value) : (x.put1 h v).fit := by
  unfold SS.fit SS.put1
  dsimp only
  split
  · rw [fits_plain]; exact layNew_fits _ _ _ _
  · exact layNew_fits _ _ _ _
theorem pick_perm {α : Type} (es : Array α) (order : Array Nat) (h : coversAll order es.size = true) : (order.filterMap (es[·]?)).toList.Perm es.toList := by
  unfold coversAll at h
  rw [List.isPerm_iff] at h
  rw [Array.toList_filterMap]
  refine (h.filterMap _).trans (List.Perm.of_eq ?_)
  apply List.ext_getElem?
  intro i
  have : ((List.range es.size).filterMap (es[·]?)) = (List.range es.size).filterMap (fun i => es.toList[i]?) := by
    congr 1
    funext j
    simp
  rw [this]
  congr 1
  clear this h order
  have key : ∀ l : List α, (List.range l.length).filterMap (fun i => l[i]?) = l := by
    intro l
    induction l with
    | nil => rfl
    | cons a r ih =>
      rw [List.length_cons, List.range_succ_eq_map, List.filterMap_cons]
      simp only [List.getElem?_cons_zero, List.filterMap_map, Function.comp_def, List.getElem?_cons_succ]
      rw [ih]
  have := key es.toList
  rw [Array.length_toList] at this
  exact this
theorem relayAll_perm (t : SetTable) (es : Array (Int × Value)) (n : Nat) : (relayAll t es n).1.toList.Perm es.toList := by
  unfold relayAll
  split
  · dsimp only
    split
    · rename_i hc
      exact pick_perm _ _ (Bool.and_eq_true_iff.mp hc).1
    · exact List.Perm.refl _
  · exact List.Perm.refl _
theorem relayAll_fits (t : SetTable) (es : Array (Int × Value)) (n : Nat) : (relayAll t es n).2.1.fits (relayAll t es n).1.size = true := by
  unfold relayAll
  split
  · dsimp only
    split
    · rename_i hc
      exact (Bool.and_eq_true_iff.mp hc).2
    · exact standIn_fits _ _
  · exact standIn_fits _ _
theorem SS.add_holds {x : SS} {l : List (Int × Value)} (hl : x.holds l) (h : Int) (v : Value) : (x.add h v).holds ((h, v) :: l) := by
  unfold SS.add
  dsimp only
  split
  · exact (relayAll_perm _ _ _).trans (SS.put1_holds hl h v)
  · exact SS.put1_holds hl h v
theorem SS.add_fit (x : SS) (h : Int) (v : Value) : (x.add h v).fit := by
  unfold SS.add
  dsimp only
  split
  · exact relayAll_fits _ _ _
  · exact SS.put1_fit _ _ _

theorem heap_upd {h : Heap} {a : Addr} {o : Obj} (f : Obj → Obj) (ho : h.get? a = some o) (hf : (f o).isFreed = false) : (h.update a f).get? a = some (f o) := Heap.get?_update_self _ ho hf
theorem add_tree {a : Addr} {x : SS} {l : List (Int × Value)} {c : Str} {tok : Tok} (h : Int) (hl : x.holds l) (hs : ∀ e ∈ l, ∃ y u, e.2 = .str y u ∧ y ≠ c) :
    setAddByScan a (.str c tok) h x.es x.t = (rule "set.add.by-scan" >>= fun _ => gv (layNew x.t x.es h (.str c tok)).2.2.2 >>= fun _ => storeSet a (x.put1 h (.str c tok)).es (x.put1 h (.str c tok)).t >>= fun _ =>
      if (!(layNew x.t x.es h (.str c tok)).2.2.1 && (x.put1 h (.str c tok)).t.tooFull) = true then
        (gv (relayAll (x.put1 h (.str c tok)).t (x.put1 h (.str c tok)).es (SetTable.grown (x.put1 h (.str c tok)).es.size)).2.2 >>= fun _ => storeSet a (x.add h (.str c tok)).es (x.add h (.str c tok)).t >>= fun _ => pure (some true))
      else pure (some true)) := by
  have hadd : ∀ b : Bool, (!(layNew x.t x.es h (.str c tok)).2.2.1 && (x.put1 h (.str c tok)).t.tooFull) = true → x.add h (.str c tok) = ⟨(relayAll (x.put1 h (.str c tok)).t (x.put1 h (.str c tok)).es (SetTable.grown (x.put1 h (.str c tok)).es.size)).1, (x.put1 h (.str c tok)).n + 1, (relayAll (x.put1 h (.str c tok)).t (x.put1 h (.str c tok)).es (SetTable.grown (x.put1 h (.str c tok)).es.size)).2.1⟩ := by
    intro _ hb
    unfold SS.add
    dsimp only
    rw [if_pos hb]
  unfold setAddByScan
  rw [scan_none hl hs]
  by_cases hb : (!(layNew x.t x.es h (.str c tok)).2.2.1 && (x.put1 h (.str c tok)).t.tooFull) = true
  · rw [if_pos hb, hadd true hb]
    cases hp : (layNew x.t x.es h (.str c tok)).2.1.plain with
    | true =>
      have e : x.put1 h (.str c tok) = ⟨(layNew x.t x.es h (.str c tok)).1, x.n + 1, { (layNew x.t x.es h (.str c tok)).2.1 with plain := false }⟩ := by
        unfold SS.put1; dsimp only; rw [if_pos hp]
      rw [e] at hb ⊢
      dsimp only at hb ⊢
      show (rule _ >>= fun _ => gv _ >>= fun _ => (if (layNew x.t x.es h (.str c tok)).2.1.plain = true then _ else _)) = _
      rw [if_pos hp]
      show (rule _ >>= fun _ => gv _ >>= fun _ => storeSet a (layNew x.t x.es h (.str c tok)).1 { (layNew x.t x.es h (.str c tok)).2.1 with plain := false } >>= fun _ => if (!(layNew x.t x.es h (.str c tok)).2.2.1 && ({ (layNew x.t x.es h (.str c tok)).2.1 with plain := false } : SetTable).tooFull) = true then _ else _) = _
      rw [if_pos hb]
      rfl
    | false =>
      have e : x.put1 h (.str c tok) = ⟨(layNew x.t x.es h (.str c tok)).1, x.n + 1, (layNew x.t x.es h (.str c tok)).2.1⟩ := by
        unfold SS.put1; dsimp only; rw [if_neg (by rw [hp]; decide)]
      rw [e] at hb ⊢
      dsimp only at hb ⊢
      show (rule _ >>= fun _ => gv _ >>= fun _ => (if (layNew x.t x.es h (.str c tok)).2.1.plain = true then _ else _)) = _
      rw [if_neg (by rw [hp]; decide)]
      show (rule _ >>= fun _ => gv _ >>= fun _ => storeSet a (layNew x.t x.es h (.str c tok)).1 (layNew x.t x.es h (.str c tok)).2.1 >>= fun _ => if (!(layNew x.t x.es h (.str c tok)).2.2.1 && (layNew x.t x.es h (.str c tok)).2.1.tooFull) = true then _ else _) = _
      rw [if_pos hb]
      rfl
  · rw [if_neg hb]
    cases hp : (layNew x.t x.es h (.str c tok)).2.1.plain with
    | true =>
      have e : x.put1 h (.str c tok) = ⟨(layNew x.t x.es h (.str c tok)).1, x.n + 1, { (layNew x.t x.es h (.str c tok)).2.1 with plain := false }⟩ := by
        unfold SS.put1; dsimp only; rw [if_pos hp]
      rw [e] at hb ⊢
      dsimp only at hb ⊢
      show (rule _ >>= fun _ => gv _ >>= fun _ => (if (layNew x.t x.es h (.str c tok)).2.1.plain = true then _ else _)) = _
      rw [if_pos hp]
      show (rule _ >>= fun _ => gv _ >>= fun _ => storeSet a (layNew x.t x.es h (.str c tok)).1 { (layNew x.t x.es h (.str c tok)).2.1 with plain := false } >>= fun _ => if (!(layNew x.t x.es h (.str c tok)).2.2.1 && ({ (layNew x.t x.es h (.str c tok)).2.1 with plain := false } : SetTable).tooFull) = true then _ else _) = _
      rw [if_neg hb]
    | false =>
      have e : x.put1 h (.str c tok) = ⟨(layNew x.t x.es h (.str c tok)).1, x.n + 1, (layNew x.t x.es h (.str c tok)).2.1⟩ := by
        unfold SS.put1; dsimp only; rw [if_neg (by rw [hp]; decide)]
      rw [e] at hb ⊢
      dsimp only at hb ⊢
      show (rule _ >>= fun _ => gv _ >>= fun _ => (if (layNew x.t x.es h (.str c tok)).2.1.plain = true then _ else _)) = _
      rw [if_neg (by rw [hp]; decide)]
      show (rule _ >>= fun _ => gv _ >>= fun _ => storeSet a (layNew x.t x.es h (.str c tok)).1 (layNew x.t x.es h (.str c tok)).2.1 >>= fun _ => if (!(layNew x.t x.es h (.str c tok)).2.2.1 && (layNew x.t x.es h (.str c tok)).2.1.tooFull) = true then _ else _) = _
      rw [if_neg hb]

theorem flat_addByScan {P : Setting} {a : Addr} {x : SS} {s : Shared} {l : List (Int × Value)} {c : Str} {tok : Tok} (h : Int) (ha : 11 ≤ a) (ho : s.heap.get? a = some x.obj) (hl : x.holds l) (hs : ∀ e ∈ l, ∃ y u, e.2 = .str y u ∧ y ≠ c) (hz : l.length ≤ 100) :
    ∃ n h', n ≤ 8 ∧ ((h' = s.heap.update a (Obj.putSet (x.add h (.str c tok)).es (x.add h (.str c tok)).t) ∧ (x.add h (.str c tok)).n = x.n + 1) ∨
        (h' = (s.heap.update a (Obj.putSet (x.put1 h (.str c tok)).es (x.put1 h (.str c tok)).t)).update a (Obj.putSet (x.add h (.str c tok)).es (x.add h (.str c tok)).t) ∧ (x.add h (.str c tok)).n = x.n + 2)) ∧
      flat P (setAddByScan a (.str c tok) h x.es x.t) s = some (some true, { s with heap := h' }, n) := by
  have hz1 : (x.put1 h (.str c tok)).es.size ≤ 1000 := by
    have := (SS.put1_holds hl h (.str c tok)).length_eq
    simp only [Array.length_toList, List.length_cons] at this; lia
  have hz2 : (x.add h (.str c tok)).es.size ≤ 1000 := by
    have := (SS.add_holds hl h (.str c tok)).length_eq
    simp only [Array.length_toList, List.length_cons] at this; lia
  rw [add_tree h hl hs]
  obtain ⟨n1, l1, g1⟩ := flat_gv (P := P) (layNew x.t x.es h (.str c tok)).2.2.2 s
  rw [flat_bind', flat_rule]
  simp only [Option.bind_some]
  rw [flat_bind', g1]
  simp only [Option.bind_some]
  rw [flat_bind', flat_storeSet _ _ ha ho hz1]
  simp only [Option.bind_some]
  by_cases hb : (!(layNew x.t x.es h (.str c tok)).2.2.1 && (x.put1 h (.str c tok)).t.tooFull) = true
  · rw [if_pos hb]
    have ho' : ({ s with heap := s.heap.update a (Obj.putSet (x.put1 h (.str c tok)).es (x.put1 h (.str c tok)).t) } : Shared).heap.get? a = some (x.put1 h (.str c tok)).obj := heap_upd _ ho rfl
    obtain ⟨n2, l2, g2⟩ := flat_gv (P := P) (relayAll (x.put1 h (.str c tok)).t (x.put1 h (.str c tok)).es (SetTable.grown (x.put1 h (.str c tok)).es.size)).2.2 { s with heap := s.heap.update a (Obj.putSet (x.put1 h (.str c tok)).es (x.put1 h (.str c tok)).t) }
    rw [flat_bind', g2]
    simp only [Option.bind_some]
    rw [flat_bind', flat_storeSet _ _ ha ho' hz2]
    simp only [Option.bind_some, flat_pure, Option.map_some]
    refine ⟨_, _, ?_, .inr ⟨rfl, ?_⟩, rfl⟩
    · lia
    · unfold SS.add; dsimp only; rw [if_pos hb]; unfold SS.put1; rfl
  · rw [if_neg hb]
    have e : x.add h (.str c tok) = x.put1 h (.str c tok) := by unfold SS.add; dsimp only; rw [if_neg hb]
    rw [e]
    simp only [flat_pure, Option.map_some]
    refine ⟨_, _, ?_, .inl ⟨rfl, ?_⟩, rfl⟩
    · lia
    · unfold SS.put1; rfl

theorem flat_add {P : Setting} {a : Addr} {x : SS} {s : Shared} {l : List (Int × Value)} {c : Str} {tok : Tok} (h : Int) (ha : 11 ≤ a) (ho : s.heap.get? a = some x.obj) (hf : x.fit) (hl : x.holds l) (hs : ∀ e ∈ l, ∃ y u, e.2 = .str y u ∧ y ≠ c) (hz : l.length ≤ 100) :
    ∃ n h', n ≤ 9 ∧ ((h' = s.heap.update a (Obj.putSet (x.add h (.str c tok)).es (x.add h (.str c tok)).t) ∧ (x.add h (.str c tok)).n = x.n + 1) ∨
        (h' = (s.heap.update a (Obj.putSet (x.put1 h (.str c tok)).es (x.put1 h (.str c tok)).t)).update a (Obj.putSet (x.add h (.str c tok)).es (x.add h (.str c tok)).t) ∧ (x.add h (.str c tok)).n = x.n + 2)) ∧
      flat P (setAddHashed a (.str c tok) h) s = some (true, { s with heap := h' }, n) := by
  obtain ⟨n, h', l1, l2, e⟩ := flat_addByScan (P := P) h ha ho hl hs hz
  refine ⟨n + 1, h', by lia, l2, ?_⟩
  show flat P (setAddHashedIn a (.str c tok) h (99999 + 1)) s = _
  rw [setAddHashedIn, flat_bind', flat_setState ho hf]
  simp only [Option.bind_some, byScan_ok hl hs hz, if_true]
  rw [flat_bind', e]
  simp only [Option.bind_some, flat_pure, Option.map_some, Nat.zero_add]
end
section
noncomputable section
noncomputable def chrs : List Str := [ofS "0", ofS "1", ofS "2", ofS "3", ofS "4", ofS "5", ofS "6", ofS "7", ofS "8", ofS "9", ofS "a", ofS "b", ofS "c", ofS "d", ofS "e", ofS "f", ofS "A", ofS "B", ofS "C", ofS "D", ofS "E", ofS "F"]
noncomputable def chr (k : Nat) : Str := chrs.getD k (ofS "")
theorem B1_all (w : World) (so : Obj) (f1 f2 : Frame) (stk : List Frame) (os : OsState) : ∀ k, k < 22 → segGoT treeTable pw w 11 (some (.ref 6)) 1 9 (s_L k so w os) ⟨denote treeTable loopC, loopC, posE, f1 :: f2 :: stk⟩ = some (⟨t_L so (itK (k + 1)) w.params, 24, {}, #[], {}, 204 + 2 * k, os⟩, ⟨.pure (.done (.ret (.str (chr k) (203 + 2 * k)))), nextC, posE, thrN w f1 f2 stk⟩)
  | 0, _ => congrFun (B1_0 w so f1 f2 stk) os
  | 1, _ => congrFun (B1_1 w so f1 f2 stk) os
  | 2, _ => congrFun (B1_2 w so f1 f2 stk) os
  | 3, _ => congrFun (B1_3 w so f1 f2 stk) os
  | 4, _ => congrFun (B1_4 w so f1 f2 stk) os
  | 5, _ => congrFun (B1_5 w so f1 f2 stk) os
  | 6, _ => congrFun (B1_6 w so f1 f2 stk) os
  | 7, _ => congrFun (B1_7 w so f1 f2 stk) os
  | 8, _ => congrFun (B1_8 w so f1 f2 stk) os
  | 9, _ => congrFun (B1_9 w so f1 f2 stk) os
  | 10, _ => congrFun (B1_10 w so f1 f2 stk) os
  | 11, _ => congrFun (B1_11 w so f1 f2 stk) os
  | 12, _ => congrFun (B1_12 w so f1 f2 stk) os
  | 13, _ => congrFun (B1_13 w so f1 f2 stk) os
  | 14, _ => congrFun (B1_14 w so f1 f2 stk) os
  | 15, _ => congrFun (B1_15 w so f1 f2 stk) os
  | 16, _ => congrFun (B1_16 w so f1 f2 stk) os
  | 17, _ => congrFun (B1_17 w so f1 f2 stk) os
  | 18, _ => congrFun (B1_18 w so f1 f2 stk) os
  | 19, _ => congrFun (B1_19 w so f1 f2 stk) os
  | 20, _ => congrFun (B1_20 w so f1 f2 stk) os
  | 21, _ => congrFun (B1_21 w so f1 f2 stk) os
  | n + 22, h => absurd h (by lia)
theorem chr_inj : ∀ j < 22, ∀ k < 22, j ≠ k → chr j ≠ chr k := by decide +kernel
noncomputable def ents (P : Params) : Nat → List (Int × Value)
  | 0 => []
  | k + 1 => (PyData.keyHash P (chr k), .str (chr k) (203 + 2 * k)) :: ents P k
noncomputable def stK (P : Params) : Nat → SS
  | 0 => ⟨#[], 0, SetTable.fresh 0 0 (!P.followText "set-order")⟩
  | k + 1 => (stK P k).add (PyData.keyHash P (chr k)) (.str (chr k) (203 + 2 * k))
theorem ents_length (P : Params) : ∀ k, (ents P k).length = k
  | 0 => rfl
  | k + 1 => by simp [ents, ents_length P k]
theorem stK_holds (P : Params) : ∀ k, (stK P k).holds (ents P k)
  | 0 => List.Perm.refl _
  | k + 1 => SS.add_holds (stK_holds P k) _ _
theorem stK_fit (P : Params) : ∀ k, (stK P k).fit
  | 0 => by show (SetTable.fresh 0 0 (!P.followText "set-order")).fits 0 = true; rfl
  | k + 1 => SS.add_fit _ _ _
theorem ents_ne (P : Params) : ∀ k, ∀ i, k ≤ i → i < 22 → ∀ e ∈ ents P k, ∃ y u, e.2 = .str y u ∧ y ≠ chr i
  | 0, _, _, _, e, he => by cases he
  | k + 1, i, hk, hi, e, he => by
    rcases List.mem_cons.mp he with rfl | he
    · exact ⟨_, _, rfl, chr_inj k (by lia) i hi (by lia)⟩
    · exact ents_ne P k i (by lia) hi e he
theorem put_obj (x : SS) (es : Array (Int × Value)) (t : SetTable) : Obj.putSet es t x.obj = (SS.mk es (x.n + 1) t).obj := rfl
theorem upd_L (so it : Obj) (P : Params) (f : Obj → Obj) : (absHeap (t_L so it P) 24 {}).update 22 f = absHeap (t_L (f so) it P) 24 {} := (absHeap_set (t := t_L so it P) (n := 24) (life := {}) (a := 22) (f := f) (o := so) rfl).symm
theorem get_L (so it : Obj) (P : Params) (hf : so.isFreed = false) : (absHeap (t_L so it P) 24 {}).get? 22 = some so := by
  have h : (absHeap (t_L so it P) 24 {}).objs[22]? = some so := by
    rw [absHeap_at]; rfl
  unfold Heap.get?
  rw [h]
  obtain ⟨c, d, dt, sl⟩ := so
  cases dt <;> first | rfl | cases hf

abbrev BhSays (W : World) : Prop := ∀ (f1 f2 : Frame) (stk : List Frame) (s : Str) (tok : Nat) (T : BT) (n : Nat) (life : Life) (gens : Array GenState) (d : Drawn) (toks : Nat) (os : OsState),
  segGoT treeTable pw W 11 (some (.ref 6)) 1 8 ⟨T, n, life, gens, d, toks, os⟩ ⟨.pure (.done (.ret (.str s tok))), nextC, posE, thrN W f1 f2 stk⟩ = some (⟨T, n, life, gens, d, toks + 1, os⟩, ⟨(setAddHashed 22 (.str s tok) (PyData.keyHash W.params s)).bind fun _ => again loopC, loopC, posE, f1 :: f2 :: stk⟩)

theorem turn {W : World} (H : BhSays W) (f1 f2 : Frame) (stk : List Frame) (os : OsState) (k : Nat) (hk : k < 22) :
    ∃ n, n ≤ 30 ∧ G1 W n (s_L k (stK W.params k).obj W os).abs ⟨denote treeTable loopC, loopC, posE, f1 :: f2 :: stk⟩ (s_L (k + 1) (stK W.params (k + 1)).obj W os).abs ⟨denote treeTable loopC, loopC, posE, f1 :: f2 :: stk⟩ := by
  have a := segGo_of (B1_all W (stK W.params k).obj f1 f2 stk os k hk)
  have b := segGo_of (H f1 f2 stk (chr k) (203 + 2 * k) (t_L (stK W.params k).obj (itK (k + 1)) W.params) 24 {} #[] {} (204 + 2 * k) os)
  have ho := get_L (stK W.params k).obj (itK (k + 1)) W.params rfl
  obtain ⟨n, h', ln, hh, c⟩ := flat_add (P := ⟨pw, W.params⟩) (a := 22) (x := stK W.params k) (s := (SharedT.mk (t_L (stK W.params k).obj (itK (k + 1)) W.params) 24 {} #[] {} (204 + 2 * k + 1) os).abs) (l := ents W.params k) (c := chr k) (tok := 203 + 2 * k) (PyData.keyHash W.params (chr k)) (by decide) ho (stK_fit _ _) (stK_holds _ _) (ents_ne _ k k (Nat.le_refl _) hk) (by rw [ents_length]; lia)
  have d := flat_go (w := W) (f1 := f1) (f2 := f2) (stk := stk) (fun _ => again loopC) _ _ _ _ _ c
  have e : h' = absHeap (t_L (stK W.params (k + 1)).obj (itK (k + 1)) W.params) 24 {} := by
    rcases hh with ⟨rfl, q⟩ | ⟨rfl, q⟩
    · show (absHeap (t_L (stK W.params k).obj (itK (k + 1)) W.params) 24 {}).update 22 _ = _
      rw [upd_L, put_obj]
      have : SS.mk ((stK W.params k).add (PyData.keyHash W.params (chr k)) (.str (chr k) (203 + 2 * k))).es ((stK W.params k).n + 1) ((stK W.params k).add (PyData.keyHash W.params (chr k)) (.str (chr k) (203 + 2 * k))).t = stK W.params (k + 1) := by rw [← q]; rfl
      rw [this]
    · show ((absHeap (t_L (stK W.params k).obj (itK (k + 1)) W.params) 24 {}).update 22 _).update 22 _ = _
      rw [upd_L, upd_L, put_obj, put_obj]
      have : SS.mk ((stK W.params k).add (PyData.keyHash W.params (chr k)) (.str (chr k) (203 + 2 * k))).es ((stK W.params k).n + 1 + 1) ((stK W.params k).add (PyData.keyHash W.params (chr k)) (.str (chr k) (203 + 2 * k))).t = stK W.params (k + 1) := by rw [Nat.add_assoc, ← q]; rfl
      rw [this]
  subst e
  have g : G1 W 1 (SharedT.mk (t_L (stK W.params (k + 1)).obj (itK (k + 1)) W.params) 24 {} #[] {} (204 + 2 * k + 1) os).abs ⟨again loopC, loopC, posE, f1 :: f2 :: stk⟩ (SharedT.mk (t_L (stK W.params (k + 1)).obj (itK (k + 1)) W.params) 24 {} #[] {} (204 + 2 * k + 1) os).abs ⟨denote treeTable loopC, loopC, posE, f1 :: f2 :: stk⟩ := G1.one (by kernel_rfl) (by kernel_rfl)
  refine ⟨9 + (8 + (n + 1)), by lia, G1.trans a (G1.trans b (G1.trans d ?_))⟩
  have e2 : 204 + 2 * k + 1 = 203 + 2 * (k + 1) := by lia
  rw [e2] at g ⊢
  exact g
end
end
section
set_option maxHeartbeats 0
theorem Bh_false (w : World) : BhSays (w.withFollow "special-get-raises" false) := fun f1 f2 stk s tok T n life gens d toks os => by kernel_rfl
theorem stkE_false (w : World) : (stkE (w.withFollow "special-get-raises" false)).length = 4 := by kernel_rfl
theorem Bh_true (w : World) : BhSays (w.withFollow "special-get-raises" true) := fun f1 f2 stk s tok T n life gens d toks os => by kernel_rfl
theorem stkE_true (w : World) : (stkE (w.withFollow "special-get-raises" true)).length = 4 := by kernel_rfl
end
section
set_option maxHeartbeats 0
theorem C_false (w : World) (es : Array (Int × Value)) (n : Nat) (t : SetTable) : (fun os => segRunT treeTable pw (w.withFollow "special-get-raises" false) 11 (some (.ref 6)) 1 40 (s_L 22 ⟨.type "frozenset", none, .set es n t, #[]⟩ (w.withFollow "special-get-raises" false) os) ⟨denote treeTable loopC, loopC, posE, stkE (w.withFollow "special-get-raises" false)⟩) = fun os => some (.next, s_5 ⟨.type "frozenset", none, .set es n t, #[]⟩ (w.withFollow "special-get-raises" false) os, cE, p_5) := by kernel_rfl
theorem A_false (w : World) : (fun os => segGoT treeTable pw (w.withFollow "special-get-raises" false) 11 (some (.ref 6)) 1 20 (s_4 (so0 (w.withFollow "special-get-raises" false).params) (w.withFollow "special-get-raises" false) os) (piecesOf (sts 4 1) env0 cE p_4 B0)) = fun os => some (s_L 0 (so0 (w.withFollow "special-get-raises" false).params) (w.withFollow "special-get-raises" false) os, ⟨denote treeTable loopC, loopC, posE, stkE (w.withFollow "special-get-raises" false)⟩) := by kernel_rfl
theorem C_true (w : World) (es : Array (Int × Value)) (n : Nat) (t : SetTable) : (fun os => segRunT treeTable pw (w.withFollow "special-get-raises" true) 11 (some (.ref 6)) 1 40 (s_L 22 ⟨.type "frozenset", none, .set es n t, #[]⟩ (w.withFollow "special-get-raises" true) os) ⟨denote treeTable loopC, loopC, posE, stkE (w.withFollow "special-get-raises" true)⟩) = fun os => some (.next, s_5 ⟨.type "frozenset", none, .set es n t, #[]⟩ (w.withFollow "special-get-raises" true) os, cE, p_5) := by kernel_rfl
theorem A_true (w : World) : (fun os => segGoT treeTable pw (w.withFollow "special-get-raises" true) 11 (some (.ref 6)) 1 20 (s_4 (so0 (w.withFollow "special-get-raises" true).params) (w.withFollow "special-get-raises" true) os) (piecesOf (sts 4 1) env0 cE p_4 B0)) = fun os => some (s_L 0 (so0 (w.withFollow "special-get-raises" true).params) (w.withFollow "special-get-raises" true) os, ⟨denote treeTable loopC, loopC, posE, stkE (w.withFollow "special-get-raises" true)⟩) := by kernel_rfl
end
section
set_option maxHeartbeats 0
theorem pre_ok (so : Params → Obj) (w : World) : (fun os => topGo treeTable pw w 11 (some (.ref 6)) 12 ⟨boot_heap w.params, #[], boot_drawn, boot_toks, os⟩ (topStub pw)) = fun os => some ((s_a (so w.params) w os).abs, ⟨denote treeTable cE, cE, p_a, B0⟩) := by kernel_rfl
theorem block_ok (so : Params → Obj) (w : World) : (fun os => segRun treeTable pw w 11 (some (.ref 6)) 1 1 (s_a (so w.params) w os).abs (blockOf (behindTheImports pw) env0 cE p_a B0)) = fun os => some (.next, (s_b (so w.params) w os).abs, cE, p_b) := by kernel_rfl
theorem fin_ok (so : Params → Obj) (w : World) : (fun os => topRun treeTable pw w 11 (some (.ref 6)) 2 (s_40 (so w.params) w os).abs ⟨doneF .next, cE, p_40, B0⟩) = fun os => some (s_40 (so w.params) w os).abs := by kernel_rfl
theorem size_ok (w : World) : ((boot_heap w.params).isNs mainGlobals && (#[] : Array GenState).size == 0, (boot_heap w.params).objs.size, (boot_heap w.params).nsMap mainGlobals "__annotations__") = (true, 11, some (.ref 6)) := by kernel_rfl
theorem open_ok : ∀ w : World, (fencedOpening treeTable pw w 5000).map (fun s => (s.heap, s.gens, s.drawn, s.toks)) = some (boot_heap w.params, #[], boot_drawn, boot_toks) := boot_open (by kernel_rfl) (by kernel_rfl) (fun s => by kernel_rfl)
end
section
set_option maxHeartbeats 0
noncomputable def qv : Program := view pw [0, 1, 2, 4, 5, 6, 7, 8, 10, 11, 13, 14, 15, 16, 17, 18, 21, 23, 27, 29, 30, 33, 34, 35, 36, 37, 38, 39]
noncomputable def lo : List Str := ["hexdigits", "HEXDIGIT_CHARS", "bytes_types", "a2b_base64", "b2a_base64", "_NO_SEP", "b2a_hex", "hexlify", "b64encode", "b64decode", "_initial_missing", "reduce"]
noncomputable def fs (so : Params → Obj) (w : World) (os : OsState) : Shared := (s_40 (so w.params) w os).abs
theorem look1 (so : Params → Obj) (w : World) : (fun os => (staticsOk (importedModules pw.main.body) (boot_heap w.params) (fs so w os).heap)) = fun _ => true := by kernel_rfl
theorem look2 (so : Params → Obj) (w : World) : (fun os => (namesBound pw (fs so w os).heap)) = fun _ => true := by kernel_rfl
theorem look3 (so : Params → Obj) (w : World) : (fun os => (gensDone (fs so w os))) = fun _ => true := by kernel_rfl
theorem look4 (so : Params → Obj) (w : World) : (fun os => (laidKept (boot_heap w.params) (fs so w os).heap)) = fun _ => true := by kernel_rfl
theorem seen1 (so : Params → Obj) (w : World) : (fun os => seen ((recsOf qv).map (·.name)) (ownsOf qv) [] { (fs so w os) with gens := #[] }) = fun _ => expectedOf qv := by kernel_rfl
theorem seenB (so : Params → Obj) (w : World) : (fun os => (fs so w os).heap.bltView) = fun _ => bltViewBooted := by kernel_rfl
theorem seenK (so : Params → Obj) (w : World) : (fun os => (fs so w os).heap.keysOk (looseW qv lo) ((recsOf qv).map (·.name)) ((litsOf qv).map (·.1)) ((clssOf qv (looseW qv lo)).map (·.name)) && (fs so w os).heap.accountedOkI (importedModules pw.main.body) && (fs so w os).heap.isNs mainGlobals && (fs so w os).heap.isNs builtinsNs && tablesOk qv (fs so w os).heap && (fun s => xlAt qv [("hexdigits", .str "0123456789abcdefABCDEF")] s && recOk (RowW.records PySem.Challenge.rw_kq0052_01.row.toRowW) s) (fs so w os) && (if true then (fs so w os).gens.size == 0 else !leftWithCleanup (fs so w os).gens)) = fun _ => true := by kernel_rfl
theorem seenT (so : Params → Obj) (w : World) : (fun os => tabsOk qv (fs so w os)) = fun _ => true := by kernel_rfl
theorem seenP (so : Params → Obj) (w : World) : (fun os => pinSeenD qv (drecsOf qv) (fs so w os)) = fun _ => pinGoodD (drecsOf qv) := by kernel_rfl
theorem seenE (so : Params → Obj) (w : World) : (fun os => plainSeenE qv (looseW qv lo) (fs so w os)) = fun _ => plainGoodE qv (looseW qv lo) := by kernel_rfl
theorem seenD (so : Params → Obj) (w : World) : (fun os => plainSeenD qv lo (fs so w os)) = fun _ => plainGoodD qv lo := by kernel_rfl
theorem seenW (so : Params → Obj) (w : World) : (fun os => wideSeen qv (fs so w os)) = fun _ => wideGood qv := by kernel_rfl
theorem seenC (so : Params → Obj) (w : World) : (fun os => clsSeenW qv lo (fs so w os)) = fun _ => clsGoodW qv lo := by kernel_rfl
end
section
set_option maxHeartbeats 0
theorem piece_0 (so : Params → Obj) (w : World) : (fun os => segRunT treeTable pw w 11 (some (.ref 6)) 1 72 (s_b (so w.params) w os) (piecesOf (sts 0 4) env0 cE p_b B0)) = fun os => some (.next, s_4 (so w.params) w os, cE, p_4) := by kernel_rfl
end
section
set_option maxHeartbeats 0
theorem piece_5 (so : Params → Obj) (w : World) : (fun os => segRunT treeTable pw w 11 (some (.ref 6)) 1 187 (s_5 (so w.params) w os) (piecesOf (sts 5 1) env0 cE p_5 B0)) = fun os => some (.next, s_6 (so w.params) w os, cE, p_6) := by kernel_rfl
end
section
set_option maxHeartbeats 0
theorem piece_6 (so : Params → Obj) (w : World) : (fun os => segRunT treeTable pw w 11 (some (.ref 6)) 1 158 (s_6 (so w.params) w os) (piecesOf (sts 6 7) env0 cE p_6 B0)) = fun os => some (.next, s_13 (so w.params) w os, cE, p_13) := by kernel_rfl
end
section
set_option maxHeartbeats 0
theorem piece_13 (so : Params → Obj) (w : World) : (fun os => segRunT treeTable pw w 11 (some (.ref 6)) 1 187 (s_13 (so w.params) w os) (piecesOf (sts 13 1) env0 cE p_13 B0)) = fun os => some (.next, s_14 (so w.params) w os, cE, p_14) := by kernel_rfl
end
section
set_option maxHeartbeats 0
theorem piece_14 (so : Params → Obj) (w : World) : (fun os => segRunT treeTable pw w 11 (some (.ref 6)) 1 211 (s_14 (so w.params) w os) (piecesOf (sts 14 7) env0 cE p_14 B0)) = fun os => some (.next, s_21 (so w.params) w os, cE, p_21) := by kernel_rfl
end
section
set_option maxHeartbeats 0
theorem piece_21 (so : Params → Obj) (w : World) : (fun os => segRunT treeTable pw w 11 (some (.ref 6)) 1 175 (s_21 (so w.params) w os) (piecesOf (sts 21 7) env0 cE p_21 B0)) = fun os => some (.next, s_28 (so w.params) w os, cE, p_28) := by kernel_rfl
end
section
set_option maxHeartbeats 0
theorem piece_28 (so : Params → Obj) (w : World) : (fun os => segRunT treeTable pw w 11 (some (.ref 6)) 1 145 (s_28 (so w.params) w os) (piecesOf (sts 28 6) env0 cE p_28 B0)) = fun os => some (.next, s_34 (so w.params) w os, cE, p_34) := by kernel_rfl
end
section
set_option maxHeartbeats 0
theorem piece_34 (so : Params → Obj) (w : World) : (fun os => segRunT treeTable pw w 11 (some (.ref 6)) 1 160 (s_34 (so w.params) w os) (piecesOf (sts 34 6) env0 cE p_34 B0)) = fun os => some (.next, s_40 (so w.params) w os, cE, p_40) := by kernel_rfl
end
section
noncomputable section
def soF (P : Params) : Obj := (stK P 22).obj
theorem turns {W : World} (H : BhSays W) (f1 f2 : Frame) (stk : List Frame) (os : OsState) : ∀ k, k ≤ 22 → ∃ n, n ≤ 30 * k ∧ G1 W n (s_L 0 (stK W.params 0).obj W os).abs ⟨denote treeTable loopC, loopC, posE, f1 :: f2 :: stk⟩ (s_L k (stK W.params k).obj W os).abs ⟨denote treeTable loopC, loopC, posE, f1 :: f2 :: stk⟩
  | 0, _ => ⟨0, Nat.le_refl _, rfl⟩
  | k + 1, hk => by
    obtain ⟨n, h1, g1⟩ := turns H f1 f2 stk os k (by omega)
    obtain ⟨m, h2, g2⟩ := turn H f1 f2 stk os k (by omega)
    exact ⟨n + m, by omega, G1.trans g1 g2⟩
theorem s4_any (so so' : Obj) (w : World) (os : OsState) : s_4 so w os = s_4 so' w os := rfl
theorem stmt4_at {W : World} (H : BhSays W) (hs : (stkE W).length = 4)
    (A : (fun os => segGoT treeTable pw W 11 (some (.ref 6)) 1 20 (s_4 (so0 W.params) W os) (piecesOf (sts 4 1) env0 cE p_4 B0)) = fun os => some (s_L 0 (so0 W.params) W os, ⟨denote treeTable loopC, loopC, posE, stkE W⟩))
    (C : ∀ x : SS, (fun os => segRunT treeTable pw W 11 (some (.ref 6)) 1 40 (s_L 22 x.obj W os) ⟨denote treeTable loopC, loopC, posE, stkE W⟩) = fun os => some (.next, s_5 x.obj W os, cE, p_5)) (os : OsState) :
    ∃ n, n ≤ 720 ∧ segRun treeTable pw W 11 (some (.ref 6)) 1 n (s_4 (soF W.params) W os).abs (piecesOf (sts 4 1) env0 cE p_4 B0) = some (.next, (s_5 (soF W.params) W os).abs, cE, p_5) := by
  have a := segGo_of (congrFun A os)
  have e0 : so0 W.params = (stK W.params 0).obj := rfl
  rw [e0, s4_any _ (soF W.params)] at a
  have c := segRun_of (congrFun (C (stK W.params 22)) os)
  match e : stkE W, hs with
  | f1 :: f2 :: stk, _ =>
    rw [e] at a c
    obtain ⟨n, h1, g1⟩ := turns H f1 f2 stk os 22 (Nat.le_refl _)
    exact ⟨20 + (n + 40), by omega, seg_go a (seg_go g1 c)⟩
theorem stmt4 (w : World) (os : OsState) : ∃ n, n ≤ 720 ∧ segRun treeTable pw w 11 (some (.ref 6)) 1 n (s_4 (soF w.params) w os).abs (piecesOf (sts 4 1) env0 cE p_4 B0) = some (.next, (s_5 (soF w.params) w os).abs, cE, p_5) := by
  have e := World.withFollow_self w "special-get-raises"
  cases hb : w.params.followText "special-get-raises" with
  | false =>
    have := stmt4_at (W := w.withFollow "special-get-raises" false) (Bh_false w) (stkE_false w) (A_false w) (fun x => C_false w x.es x.n x.t) os
    rw [hb] at e; rw [e] at this; exact this
  | true =>
    have := stmt4_at (W := w.withFollow "special-get-raises" true) (Bh_true w) (stkE_true w) (A_true w) (fun x => C_true w x.es x.n x.t) os
    rw [hb] at e; rw [e] at this; exact this
theorem body_is : behindTheImports pw = sts 0 4 ++ (sts 4 1 ++ (sts 5 1 ++ (sts 6 7 ++ (sts 13 1 ++ (sts 14 7 ++ (sts 21 7 ++ (sts 28 6 ++ (sts 34 6 ++ ([] : List Stmt))))))))) := by kernel_rfl
theorem run_more {w : World} {M : Nat} {s r : Shared} {t : Thread} (h : M ≤ 5000) (k : topRun treeTable pw w 11 (some (.ref 6)) M s t = some r) : topRun treeTable pw w 11 (some (.ref 6)) 5000 s t = some r := by
  have m := topRun_mono (5000 - M) _ _ _ _ k
  rw [Nat.add_sub_cancel' h] at m
  exact m
theorem run_ok (w : World) (os : OsState) : topRun treeTable pw w 11 (some (.ref 6)) 5000 ⟨boot_heap w.params, #[], boot_drawn, boot_toks, os⟩ (topStub pw) = some (s_40 (soF w.params) w os).abs := by
  have k := piece_nil (env := env0) (congrFun (fin_ok soF w) os)
  replace k := piece_app (env := env0) (segRun_of (congrFun (piece_34 soF w) os)) k
  replace k := piece_app (env := env0) (segRun_of (congrFun (piece_28 soF w) os)) k
  replace k := piece_app (env := env0) (segRun_of (congrFun (piece_21 soF w) os)) k
  replace k := piece_app (env := env0) (segRun_of (congrFun (piece_14 soF w) os)) k
  replace k := piece_app (env := env0) (segRun_of (congrFun (piece_13 soF w) os)) k
  replace k := piece_app (env := env0) (segRun_of (congrFun (piece_6 soF w) os)) k
  replace k := piece_app (env := env0) (segRun_of (congrFun (piece_5 soF w) os)) k
  obtain ⟨n4, l4, h4⟩ := stmt4 w os
  replace k := piece_app (env := env0) h4 k
  replace k := piece_app (env := env0) (segRun_of (congrFun (piece_0 soF w) os)) k
  rw [← body_is] at k
  replace k := piece_block (env := env0) (congrFun (block_ok soF w) os) k
  replace k := go_top (congrFun (pre_ok soF w) os) k
  exact run_more (by omega) k
end
end
section
set_option maxHeartbeats 4000000
noncomputable section
noncomputable def kk (P : Params) : Frag :=
  (nat_lit 2, ⟨.none, none, (.dict #[] 0), #[]⟩) ::
  (nat_lit 3, ⟨(.type "dict"), none, (.dict #[⟨PyData.keyHash P (ofS "__name__"), (.str (ofS "__name__") 165), (.str (ofS "law_kq0052_01") 451)⟩, ⟨PyData.keyHash P (ofS "__doc__"), (.str (ofS "__doc__") 166), .none⟩, ⟨PyData.keyHash P (ofS "__package__"), (.str (ofS "__package__") 167), .none⟩, ⟨PyData.keyHash P (ofS "__loader__"), (.str (ofS "__loader__") 168), (.builtin "__main__.__loader__#opaque")⟩, ⟨PyData.keyHash P (ofS "__spec__"), (.str (ofS "__spec__") 169), .none⟩, ⟨PyData.keyHash P (ofS "__annotations__"), (.str (ofS "__annotations__") 170), (.ref 6)⟩, ⟨PyData.keyHash P (ofS "__builtins__"), (.str (ofS "__builtins__") 171), (.ref 4)⟩, ⟨PyData.keyHash P (ofS "__file__"), (.str (ofS "__file__") 173), (.str (ofS "/claim/cut.py") 172)⟩, ⟨PyData.keyHash P (ofS "__cached__"), (.str (ofS "__cached__") 174), .none⟩, ⟨PyData.keyHash P (ofS "_wall"), (.str (ofS "_wall") 193), (.ref 21)⟩, ⟨PyData.keyHash P (ofS "digits"), (.str (ofS "digits") 195), (.str (ofS "0123456789") 194)⟩, ⟨PyData.keyHash P (ofS "hexdigits"), (.str (ofS "hexdigits") 200), (.str (ofS "0123456789abcdefABCDEF") 199)⟩, ⟨PyData.keyHash P (ofS "HEXDIGIT_CHARS"), (.str (ofS "HEXDIGIT_CHARS") 247), (.ref 22)⟩, ⟨PyData.keyHash P (ofS "TOMLDecodeError"), (.str (ofS "TOMLDecodeError") 265), (.ref 35)⟩, ⟨PyData.keyHash P (ofS "parse_hex_char"), (.str (ofS "parse_hex_char") 276), (.ref 45)⟩, ⟨PyData.keyHash P (ofS "suffixed_err"), (.str (ofS "suffixed_err") 286), (.ref 52)⟩, ⟨PyData.keyHash P (ofS "is_unicode_scalar_value"), (.str (ofS "is_unicode_scalar_value") 293), (.ref 59)⟩, ⟨PyData.keyHash P (ofS "bytes_types"), (.str (ofS "bytes_types") 296), (.ref 60)⟩, ⟨PyData.keyHash P (ofS "_bytes_from_decode_data"), (.str (ofS "_bytes_from_decode_data") 303), (.ref 67)⟩, ⟨PyData.keyHash P (ofS "Error"), (.str (ofS "Error") 323), (.ref 77)⟩, ⟨PyData.keyHash P (ofS "_ascii_buffer"), (.str (ofS "_ascii_buffer") 331), (.ref 87)⟩, ⟨PyData.keyHash P (ofS "_buffer"), (.str (ofS "_buffer") 339), (.ref 94)⟩, ⟨PyData.keyHash P (ofS "_truth"), (.str (ofS "_truth") 347), (.ref 101)⟩, ⟨PyData.keyHash P (ofS "_B64"), (.str (ofS "_B64") 349), (.bytes #[65, 66, 67, 68, 69, 70, 71, 72, 73, 74, 75, 76, 77, 78, 79, 80, 81, 82, 83, 84, 85, 86, 87, 88, 89, 90, 97, 98, 99, 100, 101, 102, 103, 104, 105, 106, 107, 108, 109, 110, 111, 112, 113, 114, 115, 116, 117, 118, 119, 120, 121, 122, 48, 49, 50, 51, 52, 53, 54, 55, 56, 57, 43, 47] 348)⟩, ⟨PyData.keyHash P (ofS "_b64_value"), (.str (ofS "_b64_value") 356), (.ref 108)⟩, ⟨PyData.keyHash P (ofS "a2b_base64"), (.str (ofS "a2b_base64") 372), (.ref 116)⟩, ⟨PyData.keyHash P (ofS "b2a_base64"), (.str (ofS "b2a_base64") 386), (.ref 124)⟩, ⟨PyData.keyHash P (ofS "_NO_SEP"), (.str (ofS "_NO_SEP") 387), (.ref 125)⟩, ⟨PyData.keyHash P (ofS "b2a_hex"), (.str (ofS "b2a_hex") 398), (.ref 133)⟩, ⟨PyData.keyHash P (ofS "hexlify"), (.str (ofS "hexlify") 399), (.ref 133)⟩, ⟨PyData.keyHash P (ofS "b64encode"), (.str (ofS "b64encode") 410), (.ref 141)⟩, ⟨PyData.keyHash P (ofS "b64decode"), (.str (ofS "b64decode") 419), (.ref 149)⟩, ⟨PyData.keyHash P (ofS "b16encode"), (.str (ofS "b16encode") 426), (.ref 156)⟩, ⟨PyData.keyHash P (ofS "cmp_to_key"), (.str (ofS "cmp_to_key") 437), (.ref 163)⟩, ⟨PyData.keyHash P (ofS "_initial_missing"), (.str (ofS "_initial_missing") 438), (.ref 164)⟩, ⟨PyData.keyHash P (ofS "reduce"), (.str (ofS "reduce") 450), (.ref 172)⟩, ⟨PyData.keyHash P (ofS "_law_told"), (.str (ofS "_law_told") 462), (.ref 179)⟩, ⟨PyData.keyHash P (ofS "_law_source"), (.str (ofS "_law_source") 468), (.ref 184)⟩, ⟨PyData.keyHash P (ofS "_law_sixes"), (.str (ofS "_law_sixes") 474), (.ref 189)⟩, ⟨PyData.keyHash P (ofS "_law_figures"), (.str (ofS "_law_figures") 480), (.ref 194)⟩, ⟨PyData.keyHash P (ofS "_law_octets"), (.str (ofS "_law_octets") 487), (.ref 201)⟩, ⟨PyData.keyHash P (ofS "_law_rising"), (.str (ofS "_law_rising") 493), (.ref 206)⟩, ⟨PyData.keyHash P (ofS "law"), (.str (ofS "law") 499), (.ref 211)⟩] 43), #[]⟩) ::
  (nat_lit 15, ⟨(.type "tuple"), none, (.seq #[] 0), #[]⟩) ::
  (nat_lit 17, ⟨(.type "tuple"), none, (.seq #[(.str (ofS "k") 190)] 0), #[]⟩) ::
  (nat_lit 18, ⟨(.type "tuple"), none, (.seq #[] 0), #[]⟩) ::
  (nat_lit 20, ⟨(.type "code"), none, (.fields #[(.str (ofS "_wall") 187), (.str (ofS "_wall") 188), (.str (ofS "/claim/cut.py") 189), (.int (1) 0), (.int (1) 0), (.int (0) 0), (.int (0) 0), (.int (3) 0), (.ref 15), (.bool true), (.int (181) 0), (.ref 16), .none, (.ref 17), (.ref 18), (.ref 19), (.int (191) 0), (.int (1) 0), (.str (ofS "/claim/cut.py") 192)]), #[]⟩) ::
  (nat_lit 21, ⟨(.type "function"), none, (.func ⟨(ofS "_wall"), (ofS "_wall"), fnP (st 0), .stmts (fnB (st 0)), fnS (st 0), 3, [], .none, .none, .none, (.str (ofS "__main__") 164), none, (.ref 20), .none, 0⟩), #[]⟩) ::
  (nat_lit 22, (soF P)) ::
  (nat_lit 26, ⟨(.type "tuple"), none, (.seq #[(.type "ValueError")] 0), #[]⟩) ::
  (nat_lit 33, ⟨(.type "tuple"), none, (.seq #[] 0), #[]⟩) ::
  (nat_lit 34, ⟨(.type "dict"), none, (.dict #[⟨PyData.keyHash P (ofS "__module__"), (.str (ofS "__module__") 255), (.str (ofS "cpy313.tomllib._parser") 201)⟩, ⟨PyData.keyHash P (ofS "__firstlineno__"), (.str (ofS "__firstlineno__") 259), (.int (8) 258)⟩, ⟨PyData.keyHash P (ofS "__static_attributes__"), (.str (ofS "__static_attributes__") 260), (.ref 33)⟩, ⟨PyData.keyHash P (ofS "__weakref__"), (.str (ofS "__weakref__") 262), (.ref 36)⟩, ⟨PyData.keyHash P (ofS "__doc__"), (.str (ofS "__doc__") 263), .none⟩] 3), #[]⟩) ::
  (nat_lit 35, ⟨(.type "type"), none, (.cls ⟨(ofS "TOMLDecodeError"), [(.type "ValueError")], [(.ref 35), (.type "ValueError"), (.type "Exception"), (.type "BaseException"), (.type "object")], 34, (ofS "TOMLDecodeError"), true, [], [], false, none, false⟩), #[(some (.ref 26)), none, (some (.str (ofS "TOMLDecodeError") 248)), (some (.str (ofS "TOMLDecodeError") 256)), (some (.builtin "ValueError.__new__")), (some (.bool true))]⟩) ::
  (nat_lit 36, ⟨(.type "getset_descriptor"), none, (.fields #[(.str (ofS "__weakref__") 261), (.ref 35), (.builtin "ExceptionGroup.__weakref__"), .none]), #[]⟩) ::
  (nat_lit 39, ⟨(.type "tuple"), none, (.seq #[] 0), #[]⟩) ::
  (nat_lit 41, ⟨(.type "tuple"), none, (.seq #[(.str (ofS "src") 269), (.str (ofS "pos") 270), (.str (ofS "hex_len") 271), (.str (ofS "hex_str") 272), (.str (ofS "hex_int") 273)] 0), #[]⟩) ::
  (nat_lit 42, ⟨(.type "tuple"), none, (.seq #[] 0), #[]⟩) ::
  (nat_lit 44, ⟨(.type "code"), none, (.fields #[(.str (ofS "parse_hex_char") 266), (.str (ofS "parse_hex_char") 267), (.str (ofS "/claim/cut.py") 268), (.int (10) 0), (.int (3) 0), (.int (0) 0), (.int (0) 0), (.int (3) 0), (.ref 39), (.bool true), (.int (181) 0), (.ref 40), .none, (.ref 41), (.ref 42), (.ref 43), (.int (274) 0), (.int (10) 0), (.str (ofS "/claim/cut.py") 275)]), #[]⟩) ::
  (nat_lit 45, ⟨(.type "function"), none, (.func ⟨(ofS "parse_hex_char"), (ofS "parse_hex_char"), fnP (st 6), .stmts (fnB (st 6)), fnS (st 6), 3, [], .none, .none, .none, (.str (ofS "cpy313.tomllib._parser") 201), none, (.ref 44), .none, 0⟩), #[]⟩) ::
  (nat_lit 46, ⟨(.type "tuple"), none, (.seq #[] 0), #[]⟩) ::
  (nat_lit 48, ⟨(.type "tuple"), none, (.seq #[(.str (ofS "src") 280), (.str (ofS "pos") 281), (.str (ofS "msg") 282), (.str (ofS "coord_repr") 283)] 0), #[]⟩) ::
  (nat_lit 49, ⟨(.type "tuple"), none, (.seq #[] 0), #[]⟩) ::
  (nat_lit 51, ⟨(.type "code"), none, (.fields #[(.str (ofS "suffixed_err") 277), (.str (ofS "suffixed_err") 278), (.str (ofS "/claim/cut.py") 279), (.int (19) 0), (.int (3) 0), (.int (0) 0), (.int (0) 0), (.int (3) 0), (.ref 46), (.bool true), (.int (181) 0), (.ref 47), .none, (.ref 48), (.ref 49), (.ref 50), (.int (284) 0), (.int (19) 0), (.str (ofS "/claim/cut.py") 285)]), #[]⟩) ::
  (nat_lit 52, ⟨(.type "function"), none, (.func ⟨(ofS "suffixed_err"), (ofS "suffixed_err"), fnP (st 7), .stmts (fnB (st 7)), fnS (st 7), 3, [], .none, .none, .none, (.str (ofS "cpy313.tomllib._parser") 201), none, (.ref 51), .none, 0⟩), #[]⟩) ::
  (nat_lit 53, ⟨(.type "tuple"), none, (.seq #[] 0), #[]⟩) ::
  (nat_lit 55, ⟨(.type "tuple"), none, (.seq #[(.str (ofS "codepoint") 290)] 0), #[]⟩) ::
  (nat_lit 56, ⟨(.type "tuple"), none, (.seq #[] 0), #[]⟩) ::
  (nat_lit 58, ⟨(.type "code"), none, (.fields #[(.str (ofS "is_unicode_scalar_value") 287), (.str (ofS "is_unicode_scalar_value") 288), (.str (ofS "/claim/cut.py") 289), (.int (31) 0), (.int (1) 0), (.int (0) 0), (.int (0) 0), (.int (3) 0), (.ref 53), (.bool true), (.int (181) 0), (.ref 54), .none, (.ref 55), (.ref 56), (.ref 57), (.int (291) 0), (.int (31) 0), (.str (ofS "/claim/cut.py") 292)]), #[]⟩) ::
  (nat_lit 59, ⟨(.type "function"), none, (.func ⟨(ofS "is_unicode_scalar_value"), (ofS "is_unicode_scalar_value"), fnP (st 8), .stmts (fnB (st 8)), fnS (st 8), 3, [], .none, .none, .none, (.str (ofS "cpy313.tomllib._parser") 201), none, (.ref 58), .none, 0⟩), #[]⟩) ::
  (nat_lit 60, ⟨(.type "tuple"), none, (.seq #[(.type "bytes"), (.type "bytearray")] 0), #[]⟩) ::
  (nat_lit 61, ⟨(.type "tuple"), none, (.seq #[] 0), #[]⟩) ::
  (nat_lit 63, ⟨(.type "tuple"), none, (.seq #[(.str (ofS "s") 300)] 0), #[]⟩) ::
  (nat_lit 64, ⟨(.type "tuple"), none, (.seq #[] 0), #[]⟩) ::
  (nat_lit 66, ⟨(.type "code"), none, (.fields #[(.str (ofS "_bytes_from_decode_data") 297), (.str (ofS "_bytes_from_decode_data") 298), (.str (ofS "/claim/cut.py") 299), (.int (35) 0), (.int (1) 0), (.int (0) 0), (.int (0) 0), (.int (3) 0), (.ref 61), (.bool true), (.int (181) 0), (.ref 62), .none, (.ref 63), (.ref 64), (.ref 65), (.int (301) 0), (.int (35) 0), (.str (ofS "/claim/cut.py") 302)]), #[]⟩) ::
  (nat_lit 67, ⟨(.type "function"), none, (.func ⟨(ofS "_bytes_from_decode_data"), (ofS "_bytes_from_decode_data"), fnP (st 11), .stmts (fnB (st 11)), fnS (st 11), 3, [], .none, .none, .none, (.str (ofS "cpy313.base64") 294), none, (.ref 66), .none, 0⟩), #[]⟩) ::
  (nat_lit 68, ⟨(.type "tuple"), none, (.seq #[(.type "ValueError")] 0), #[]⟩) ::
  (nat_lit 75, ⟨(.type "tuple"), none, (.seq #[] 0), #[]⟩) ::
  (nat_lit 76, ⟨(.type "dict"), none, (.dict #[⟨PyData.keyHash P (ofS "__module__"), (.str (ofS "__module__") 313), (.str (ofS "binascii") 304)⟩, ⟨PyData.keyHash P (ofS "__firstlineno__"), (.str (ofS "__firstlineno__") 317), (.int (48) 316)⟩, ⟨PyData.keyHash P (ofS "__static_attributes__"), (.str (ofS "__static_attributes__") 318), (.ref 75)⟩, ⟨PyData.keyHash P (ofS "__weakref__"), (.str (ofS "__weakref__") 320), (.ref 78)⟩, ⟨PyData.keyHash P (ofS "__doc__"), (.str (ofS "__doc__") 321), .none⟩] 3), #[]⟩) ::
  (nat_lit 77, ⟨(.type "type"), none, (.cls ⟨(ofS "Error"), [(.type "ValueError")], [(.ref 77), (.type "ValueError"), (.type "Exception"), (.type "BaseException"), (.type "object")], 76, (ofS "Error"), true, [], [], false, none, false⟩), #[(some (.ref 68)), none, (some (.str (ofS "Error") 306)), (some (.str (ofS "Error") 314)), (some (.builtin "ValueError.__new__")), (some (.bool true))]⟩) ::
  (nat_lit 78, ⟨(.type "getset_descriptor"), none, (.fields #[(.str (ofS "__weakref__") 319), (.ref 77), (.builtin "ExceptionGroup.__weakref__"), .none]), #[]⟩) ::
  (nat_lit 81, ⟨(.type "tuple"), none, (.seq #[] 0), #[]⟩) ::
  (nat_lit 83, ⟨(.type "tuple"), none, (.seq #[(.str (ofS "data") 327), (.str (ofS "t") 328)] 0), #[]⟩) ::
  (nat_lit 84, ⟨(.type "tuple"), none, (.seq #[] 0), #[]⟩) ::
  (nat_lit 86, ⟨(.type "code"), none, (.fields #[(.str (ofS "_ascii_buffer") 324), (.str (ofS "_ascii_buffer") 325), (.str (ofS "/claim/cut.py") 326), (.int (50) 0), (.int (1) 0), (.int (0) 0), (.int (0) 0), (.int (3) 0), (.ref 81), (.bool true), (.int (181) 0), (.ref 82), .none, (.ref 83), (.ref 84), (.ref 85), (.int (329) 0), (.int (50) 0), (.str (ofS "/claim/cut.py") 330)]), #[]⟩) ::
  (nat_lit 87, ⟨(.type "function"), none, (.func ⟨(ofS "_ascii_buffer"), (ofS "_ascii_buffer"), fnP (st 14), .stmts (fnB (st 14)), fnS (st 14), 3, [], .none, .none, .none, (.str (ofS "binascii") 304), none, (.ref 86), .none, 0⟩), #[]⟩) ::
  (nat_lit 88, ⟨(.type "tuple"), none, (.seq #[] 0), #[]⟩) ::
  (nat_lit 90, ⟨(.type "tuple"), none, (.seq #[(.str (ofS "data") 335), (.str (ofS "t") 336)] 0), #[]⟩) ::
  (nat_lit 91, ⟨(.type "tuple"), none, (.seq #[] 0), #[]⟩) ::
  (nat_lit 93, ⟨(.type "code"), none, (.fields #[(.str (ofS "_buffer") 332), (.str (ofS "_buffer") 333), (.str (ofS "/claim/cut.py") 334), (.int (61) 0), (.int (1) 0), (.int (0) 0), (.int (0) 0), (.int (3) 0), (.ref 88), (.bool true), (.int (181) 0), (.ref 89), .none, (.ref 90), (.ref 91), (.ref 92), (.int (337) 0), (.int (61) 0), (.str (ofS "/claim/cut.py") 338)]), #[]⟩) ::
  (nat_lit 94, ⟨(.type "function"), none, (.func ⟨(ofS "_buffer"), (ofS "_buffer"), fnP (st 15), .stmts (fnB (st 15)), fnS (st 15), 3, [], .none, .none, .none, (.str (ofS "binascii") 304), none, (.ref 93), .none, 0⟩), #[]⟩) ::
  (nat_lit 95, ⟨(.type "tuple"), none, (.seq #[] 0), #[]⟩) ::
  (nat_lit 97, ⟨(.type "tuple"), none, (.seq #[(.str (ofS "x") 343), (.str (ofS "t") 344)] 0), #[]⟩) ::
  (nat_lit 98, ⟨(.type "tuple"), none, (.seq #[] 0), #[]⟩) ::
  (nat_lit 100, ⟨(.type "code"), none, (.fields #[(.str (ofS "_truth") 340), (.str (ofS "_truth") 341), (.str (ofS "/claim/cut.py") 342), (.int (68) 0), (.int (1) 0), (.int (0) 0), (.int (0) 0), (.int (3) 0), (.ref 95), (.bool true), (.int (181) 0), (.ref 96), .none, (.ref 97), (.ref 98), (.ref 99), (.int (345) 0), (.int (68) 0), (.str (ofS "/claim/cut.py") 346)]), #[]⟩) ::
  (nat_lit 101, ⟨(.type "function"), none, (.func ⟨(ofS "_truth"), (ofS "_truth"), fnP (st 16), .stmts (fnB (st 16)), fnS (st 16), 3, [], .none, .none, .none, (.str (ofS "binascii") 304), none, (.ref 100), .none, 0⟩), #[]⟩) ::
  (nat_lit 102, ⟨(.type "tuple"), none, (.seq #[] 0), #[]⟩) ::
  (nat_lit 104, ⟨(.type "tuple"), none, (.seq #[(.str (ofS "c") 353)] 0), #[]⟩) ::
  (nat_lit 105, ⟨(.type "tuple"), none, (.seq #[] 0), #[]⟩) ::
  (nat_lit 107, ⟨(.type "code"), none, (.fields #[(.str (ofS "_b64_value") 350), (.str (ofS "_b64_value") 351), (.str (ofS "/claim/cut.py") 352), (.int (74) 0), (.int (1) 0), (.int (0) 0), (.int (0) 0), (.int (3) 0), (.ref 102), (.bool true), (.int (181) 0), (.ref 103), .none, (.ref 104), (.ref 105), (.ref 106), (.int (354) 0), (.int (74) 0), (.str (ofS "/claim/cut.py") 355)]), #[]⟩) ::
  (nat_lit 108, ⟨(.type "function"), none, (.func ⟨(ofS "_b64_value"), (ofS "_b64_value"), fnP (st 18), .stmts (fnB (st 18)), fnS (st 18), 3, [], .none, .none, .none, (.str (ofS "binascii") 304), none, (.ref 107), .none, 0⟩), #[]⟩) ::
  (nat_lit 109, ⟨(.type "dict"), none, (.dict #[⟨PyData.keyHash P (ofS "strict_mode"), (.str (ofS "strict_mode") 357), (.bool false)⟩] 1), #[]⟩) ::
  (nat_lit 110, ⟨(.type "tuple"), none, (.seq #[] 0), #[]⟩) ::
  (nat_lit 112, ⟨(.type "tuple"), none, (.seq #[(.str (ofS "data") 361), (.str (ofS "strict_mode") 362), (.str (ofS "ascii_data") 363), (.str (ofS "out") 364), (.str (ofS "quad_pos") 365), (.str (ofS "leftchar") 366), (.str (ofS "pads") 367), (.str (ofS "i") 368), (.str (ofS "this_ch") 369)] 0), #[]⟩) ::
  (nat_lit 113, ⟨(.type "tuple"), none, (.seq #[] 0), #[]⟩) ::
  (nat_lit 115, ⟨(.type "code"), none, (.fields #[(.str (ofS "a2b_base64") 358), (.str (ofS "a2b_base64") 359), (.str (ofS "/claim/cut.py") 360), (.int (86) 0), (.int (1) 0), (.int (1) 0), (.int (1) 0), (.int (3) 0), (.ref 110), (.bool true), (.int (181) 0), (.ref 111), .none, (.ref 112), (.ref 113), (.ref 114), (.int (370) 0), (.int (86) 0), (.str (ofS "/claim/cut.py") 371)]), #[]⟩) ::
  (nat_lit 116, ⟨(.type "function"), none, (.func ⟨(ofS "a2b_base64"), (ofS "a2b_base64"), fnP (st 19), .stmts (fnB (st 19)), fnS (st 19), 3, [], .none, (.ref 109), .none, (.str (ofS "binascii") 304), none, (.ref 115), .none, 0⟩), #[]⟩) ::
  (nat_lit 117, ⟨(.type "dict"), none, (.dict #[⟨PyData.keyHash P (ofS "newline"), (.str (ofS "newline") 373), (.bool true)⟩] 1), #[]⟩) ::
  (nat_lit 118, ⟨(.type "tuple"), none, (.seq #[] 0), #[]⟩) ::
  (nat_lit 120, ⟨(.type "tuple"), none, (.seq #[(.str (ofS "data") 377), (.str (ofS "newline") 378), (.str (ofS "bin_data") 379), (.str (ofS "out") 380), (.str (ofS "leftbits") 381), (.str (ofS "leftchar") 382), (.str (ofS "b") 383)] 0), #[]⟩) ::
  (nat_lit 121, ⟨(.type "tuple"), none, (.seq #[] 0), #[]⟩) ::
  (nat_lit 123, ⟨(.type "code"), none, (.fields #[(.str (ofS "b2a_base64") 374), (.str (ofS "b2a_base64") 375), (.str (ofS "/claim/cut.py") 376), (.int (140) 0), (.int (1) 0), (.int (1) 0), (.int (1) 0), (.int (3) 0), (.ref 118), (.bool true), (.int (181) 0), (.ref 119), .none, (.ref 120), (.ref 121), (.ref 122), (.int (384) 0), (.int (140) 0), (.str (ofS "/claim/cut.py") 385)]), #[]⟩) ::
  (nat_lit 124, ⟨(.type "function"), none, (.func ⟨(ofS "b2a_base64"), (ofS "b2a_base64"), fnP (st 20), .stmts (fnB (st 20)), fnS (st 20), 3, [], .none, (.ref 117), .none, (.str (ofS "binascii") 304), none, (.ref 123), .none, 0⟩), #[]⟩) ::
  (nat_lit 125, ⟨(.type "object"), none, .plain, #[]⟩) ::
  (nat_lit 126, ⟨(.type "tuple"), none, (.seq #[(.ref 125), (.int (1) 388)] 0), #[]⟩) ::
  (nat_lit 127, ⟨(.type "tuple"), none, (.seq #[] 0), #[]⟩) ::
  (nat_lit 129, ⟨(.type "tuple"), none, (.seq #[(.str (ofS "data") 392), (.str (ofS "sep") 393), (.str (ofS "bytes_per_sep") 394), (.str (ofS "t") 395)] 0), #[]⟩) ::
  (nat_lit 130, ⟨(.type "tuple"), none, (.seq #[] 0), #[]⟩) ::
  (nat_lit 132, ⟨(.type "code"), none, (.fields #[(.str (ofS "b2a_hex") 389), (.str (ofS "b2a_hex") 390), (.str (ofS "/claim/cut.py") 391), (.int (163) 0), (.int (3) 0), (.int (0) 0), (.int (0) 0), (.int (3) 0), (.ref 127), (.bool true), (.int (181) 0), (.ref 128), .none, (.ref 129), (.ref 130), (.ref 131), (.int (396) 0), (.int (163) 0), (.str (ofS "/claim/cut.py") 397)]), #[]⟩) ::
  (nat_lit 133, ⟨(.type "function"), none, (.func ⟨(ofS "b2a_hex"), (ofS "b2a_hex"), fnP (st 22), .stmts (fnB (st 22)), fnS (st 22), 3, [], (.ref 126), .none, .none, (.str (ofS "binascii") 304), none, (.ref 132), .none, 0⟩), #[]⟩) ::
  (nat_lit 134, ⟨(.type "tuple"), none, (.seq #[.none] 0), #[]⟩) ::
  (nat_lit 135, ⟨(.type "tuple"), none, (.seq #[] 0), #[]⟩) ::
  (nat_lit 137, ⟨(.type "tuple"), none, (.seq #[(.str (ofS "s") 405), (.str (ofS "altchars") 406), (.str (ofS "encoded") 407)] 0), #[]⟩) ::
  (nat_lit 138, ⟨(.type "tuple"), none, (.seq #[] 0), #[]⟩) ::
  (nat_lit 140, ⟨(.type "code"), none, (.fields #[(.str (ofS "b64encode") 402), (.str (ofS "b64encode") 403), (.str (ofS "/claim/cut.py") 404), (.int (181) 0), (.int (2) 0), (.int (0) 0), (.int (0) 0), (.int (3) 0), (.ref 135), (.bool true), (.int (181) 0), (.ref 136), .none, (.ref 137), (.ref 138), (.ref 139), (.int (408) 0), (.int (181) 0), (.str (ofS "/claim/cut.py") 409)]), #[]⟩) ::
  (nat_lit 141, ⟨(.type "function"), none, (.func ⟨(ofS "b64encode"), (ofS "b64encode"), fnP (st 25), .stmts (fnB (st 25)), fnS (st 25), 3, [], (.ref 134), .none, .none, (.str (ofS "cpy313.base64") 400), none, (.ref 140), .none, 0⟩), #[]⟩) ::
  (nat_lit 142, ⟨(.type "tuple"), none, (.seq #[.none, (.bool false)] 0), #[]⟩) ::
  (nat_lit 143, ⟨(.type "tuple"), none, (.seq #[] 0), #[]⟩) ::
  (nat_lit 145, ⟨(.type "tuple"), none, (.seq #[(.str (ofS "s") 414), (.str (ofS "altchars") 415), (.str (ofS "validate") 416)] 0), #[]⟩) ::
  (nat_lit 146, ⟨(.type "tuple"), none, (.seq #[] 0), #[]⟩) ::
  (nat_lit 148, ⟨(.type "code"), none, (.fields #[(.str (ofS "b64decode") 411), (.str (ofS "b64decode") 412), (.str (ofS "/claim/cut.py") 413), (.int (187) 0), (.int (3) 0), (.int (0) 0), (.int (0) 0), (.int (3) 0), (.ref 143), (.bool true), (.int (181) 0), (.ref 144), .none, (.ref 145), (.ref 146), (.ref 147), (.int (417) 0), (.int (187) 0), (.str (ofS "/claim/cut.py") 418)]), #[]⟩) ::
  (nat_lit 149, ⟨(.type "function"), none, (.func ⟨(ofS "b64decode"), (ofS "b64decode"), fnP (st 26), .stmts (fnB (st 26)), fnS (st 26), 3, [], (.ref 142), .none, .none, (.str (ofS "cpy313.base64") 400), none, (.ref 148), .none, 0⟩), #[]⟩) ::
  (nat_lit 150, ⟨(.type "tuple"), none, (.seq #[] 0), #[]⟩) ::
  (nat_lit 152, ⟨(.type "tuple"), none, (.seq #[(.str (ofS "s") 423)] 0), #[]⟩) ::
  (nat_lit 153, ⟨(.type "tuple"), none, (.seq #[] 0), #[]⟩) ::
  (nat_lit 155, ⟨(.type "code"), none, (.fields #[(.str (ofS "b16encode") 420), (.str (ofS "b16encode") 421), (.str (ofS "/claim/cut.py") 422), (.int (194) 0), (.int (1) 0), (.int (0) 0), (.int (0) 0), (.int (3) 0), (.ref 150), (.bool true), (.int (181) 0), (.ref 151), .none, (.ref 152), (.ref 153), (.ref 154), (.int (424) 0), (.int (194) 0), (.str (ofS "/claim/cut.py") 425)]), #[]⟩) ::
  (nat_lit 156, ⟨(.type "function"), none, (.func ⟨(ofS "b16encode"), (ofS "b16encode"), fnP (st 27), .stmts (fnB (st 27)), fnS (st 27), 3, [], .none, .none, .none, (.str (ofS "cpy313.base64") 400), none, (.ref 155), .none, 0⟩), #[]⟩) ::
  (nat_lit 157, ⟨(.type "tuple"), none, (.seq #[] 0), #[]⟩) ::
  (nat_lit 159, ⟨(.type "tuple"), none, (.seq #[(.str (ofS "mycmp") 432), (.str (ofS "K") 433)] 0), #[]⟩) ::
  (nat_lit 160, ⟨(.type "tuple"), none, (.seq #[(.str (ofS "mycmp") 434)] 0), #[]⟩) ::
  (nat_lit 162, ⟨(.type "code"), none, (.fields #[(.str (ofS "cmp_to_key") 429), (.str (ofS "cmp_to_key") 430), (.str (ofS "/claim/cut.py") 431), (.int (197) 0), (.int (1) 0), (.int (0) 0), (.int (0) 0), (.int (3) 0), (.ref 157), (.bool true), (.int (181) 0), (.ref 158), .none, (.ref 159), (.ref 160), (.ref 161), (.int (435) 0), (.int (197) 0), (.str (ofS "/claim/cut.py") 436)]), #[]⟩) ::
  (nat_lit 163, ⟨(.type "function"), none, (.func ⟨(ofS "cmp_to_key"), (ofS "cmp_to_key"), fnP (st 29), .stmts (fnB (st 29)), fnS (st 29), 3, [], .none, .none, .none, (.str (ofS "cpy313.functools") 427), none, (.ref 162), .none, 0⟩), #[]⟩) ::
  (nat_lit 164, ⟨(.type "object"), none, .plain, #[]⟩) ::
  (nat_lit 165, ⟨(.type "tuple"), none, (.seq #[(.ref 164)] 0), #[]⟩) ::
  (nat_lit 166, ⟨(.type "tuple"), none, (.seq #[] 0), #[]⟩) ::
  (nat_lit 168, ⟨(.type "tuple"), none, (.seq #[(.str (ofS "function") 442), (.str (ofS "sequence") 443), (.str (ofS "initial") 444), (.str (ofS "it") 445), (.str (ofS "value") 446), (.str (ofS "element") 447)] 0), #[]⟩) ::
  (nat_lit 169, ⟨(.type "tuple"), none, (.seq #[] 0), #[]⟩) ::
  (nat_lit 171, ⟨(.type "code"), none, (.fields #[(.str (ofS "reduce") 439), (.str (ofS "reduce") 440), (.str (ofS "/claim/cut.py") 441), (.int (223) 0), (.int (3) 0), (.int (0) 0), (.int (0) 0), (.int (3) 0), (.ref 166), (.bool true), (.int (181) 0), (.ref 167), .none, (.ref 168), (.ref 169), (.ref 170), (.int (448) 0), (.int (223) 0), (.str (ofS "/claim/cut.py") 449)]), #[]⟩) ::
  (nat_lit 172, ⟨(.type "function"), none, (.func ⟨(ofS "reduce"), (ofS "reduce"), fnP (st 31), .stmts (fnB (st 31)), fnS (st 31), 3, [], (.ref 165), .none, .none, (.str (ofS "cpy313.functools") 427), none, (.ref 171), .none, 0⟩), #[]⟩) ::
  (nat_lit 173, ⟨(.type "tuple"), none, (.seq #[] 0), #[]⟩) ::
  (nat_lit 175, ⟨(.type "tuple"), none, (.seq #[(.str (ofS "src") 456), (.str (ofS "place") 457), (.str (ofS "many") 458), (.str (ofS "error") 459)] 0), #[]⟩) ::
  (nat_lit 176, ⟨(.type "tuple"), none, (.seq #[] 0), #[]⟩) ::
  (nat_lit 178, ⟨(.type "code"), none, (.fields #[(.str (ofS "_law_told") 453), (.str (ofS "_law_told") 454), (.str (ofS "/claim/cut.py") 455), (.int (236) 0), (.int (3) 0), (.int (0) 0), (.int (0) 0), (.int (3) 0), (.ref 173), (.bool true), (.int (181) 0), (.ref 174), .none, (.ref 175), (.ref 176), (.ref 177), (.int (460) 0), (.int (236) 0), (.str (ofS "/claim/cut.py") 461)]), #[]⟩) ::
  (nat_lit 179, ⟨(.type "function"), none, (.func ⟨(ofS "_law_told"), (ofS "_law_told"), fnP (st 33), .stmts (fnB (st 33)), fnS (st 33), 3, [], .none, .none, .none, (.str (ofS "law_kq0052_01") 451), none, (.ref 178), .none, 0⟩), #[]⟩) ::
  (nat_lit 180, ⟨(.type "tuple"), none, (.seq #[] 0), #[]⟩) ::
  (nat_lit 183, ⟨(.type "code"), none, (.fields #[(.str (ofS "_law_source") 463), (.str (ofS "_law_source") 464), (.str (ofS "/claim/cut.py") 465), (.int (241) 0), (.int (1) 0), (.int (0) 0), (.int (0) 0), (.int (3) 0), (.ref 180), (.bool true), (.int (181) 0), (.ref 181), .none, .none, .none, (.ref 182), (.int (466) 0), (.int (241) 0), (.str (ofS "/claim/cut.py") 467)]), #[]⟩) ::
  (nat_lit 184, ⟨(.type "function"), none, (.func ⟨(ofS "_law_source"), (ofS "_law_source"), fnP (st 34), .stmts (fnB (st 34)), fnS (st 34), 3, [], .none, .none, .none, (.str (ofS "law_kq0052_01") 451), none, (.ref 183), .none, 0⟩), #[]⟩) ::
  (nat_lit 185, ⟨(.type "tuple"), none, (.seq #[] 0), #[]⟩) ::
  (nat_lit 188, ⟨(.type "code"), none, (.fields #[(.str (ofS "_law_sixes") 469), (.str (ofS "_law_sixes") 470), (.str (ofS "/claim/cut.py") 471), (.int (244) 0), (.int (2) 0), (.int (0) 0), (.int (0) 0), (.int (3) 0), (.ref 185), (.bool true), (.int (181) 0), (.ref 186), .none, .none, .none, (.ref 187), (.int (472) 0), (.int (244) 0), (.str (ofS "/claim/cut.py") 473)]), #[]⟩) ::
  (nat_lit 189, ⟨(.type "function"), none, (.func ⟨(ofS "_law_sixes"), (ofS "_law_sixes"), fnP (st 35), .stmts (fnB (st 35)), fnS (st 35), 3, [], .none, .none, .none, (.str (ofS "law_kq0052_01") 451), none, (.ref 188), .none, 0⟩), #[]⟩) ::
  (nat_lit 190, ⟨(.type "tuple"), none, (.seq #[] 0), #[]⟩) ::
  (nat_lit 193, ⟨(.type "code"), none, (.fields #[(.str (ofS "_law_figures") 475), (.str (ofS "_law_figures") 476), (.str (ofS "/claim/cut.py") 477), (.int (251) 0), (.int (1) 0), (.int (0) 0), (.int (0) 0), (.int (3) 0), (.ref 190), (.bool true), (.int (181) 0), (.ref 191), .none, .none, .none, (.ref 192), (.int (478) 0), (.int (251) 0), (.str (ofS "/claim/cut.py") 479)]), #[]⟩) ::
  (nat_lit 194, ⟨(.type "function"), none, (.func ⟨(ofS "_law_figures"), (ofS "_law_figures"), fnP (st 36), .stmts (fnB (st 36)), fnS (st 36), 3, [], .none, .none, .none, (.str (ofS "law_kq0052_01") 451), none, (.ref 193), .none, 0⟩), #[]⟩) ::
  (nat_lit 195, ⟨(.type "tuple"), none, (.seq #[] 0), #[]⟩) ::
  (nat_lit 197, ⟨(.type "tuple"), none, (.seq #[(.str (ofS "number") 484)] 0), #[]⟩) ::
  (nat_lit 198, ⟨(.type "tuple"), none, (.seq #[] 0), #[]⟩) ::
  (nat_lit 200, ⟨(.type "code"), none, (.fields #[(.str (ofS "_law_octets") 481), (.str (ofS "_law_octets") 482), (.str (ofS "/claim/cut.py") 483), (.int (253) 0), (.int (1) 0), (.int (0) 0), (.int (0) 0), (.int (3) 0), (.ref 195), (.bool true), (.int (181) 0), (.ref 196), .none, (.ref 197), (.ref 198), (.ref 199), (.int (485) 0), (.int (253) 0), (.str (ofS "/claim/cut.py") 486)]), #[]⟩) ::
  (nat_lit 201, ⟨(.type "function"), none, (.func ⟨(ofS "_law_octets"), (ofS "_law_octets"), fnP (st 37), .stmts (fnB (st 37)), fnS (st 37), 3, [], .none, .none, .none, (.str (ofS "law_kq0052_01") 451), none, (.ref 200), .none, 0⟩), #[]⟩) ::
  (nat_lit 202, ⟨(.type "tuple"), none, (.seq #[] 0), #[]⟩) ::
  (nat_lit 205, ⟨(.type "code"), none, (.fields #[(.str (ofS "_law_rising") 488), (.str (ofS "_law_rising") 489), (.str (ofS "/claim/cut.py") 490), (.int (261) 0), (.int (1) 0), (.int (0) 0), (.int (0) 0), (.int (3) 0), (.ref 202), (.bool true), (.int (181) 0), (.ref 203), .none, .none, .none, (.ref 204), (.int (491) 0), (.int (261) 0), (.str (ofS "/claim/cut.py") 492)]), #[]⟩) ::
  (nat_lit 206, ⟨(.type "function"), none, (.func ⟨(ofS "_law_rising"), (ofS "_law_rising"), fnP (st 38), .stmts (fnB (st 38)), fnS (st 38), 3, [], .none, .none, .none, (.str (ofS "law_kq0052_01") 451), none, (.ref 205), .none, 0⟩), #[]⟩) ::
  (nat_lit 207, ⟨(.type "tuple"), none, (.seq #[] 0), #[]⟩) ::
  (nat_lit 210, ⟨(.type "code"), none, (.fields #[(.str (ofS "law") 494), (.str (ofS "law") 495), (.str (ofS "/claim/cut.py") 496), (.int (267) 0), (.int (1) 0), (.int (0) 0), (.int (0) 0), (.int (3) 0), (.ref 207), (.bool true), (.int (181) 0), (.ref 208), .none, .none, .none, (.ref 209), (.int (497) 0), (.int (267) 0), (.str (ofS "/claim/cut.py") 498)]), #[]⟩) ::
  (nat_lit 211, ⟨(.type "function"), none, (.func ⟨(ofS "law"), (ofS "law"), fnP (st 39), .stmts (fnB (st 39)), fnS (st 39), 3, [], .none, .none, .none, (.str (ofS "law_kq0052_01") 451), none, (.ref 210), .none, 0⟩), #[]⟩) ::
  (nat_lit 0, boot_o_0 P) ::
  (nat_lit 1, boot_o_1 P) ::
  (nat_lit 4, boot_o_4 P) ::
  (nat_lit 5, boot_o_5 P) ::
  (nat_lit 6, boot_o_6 P) ::
  (nat_lit 7, boot_o_7 P) ::
  (nat_lit 8, boot_o_8 P) ::
  (nat_lit 9, boot_o_9 P) ::
  (nat_lit 10, boot_o_10 P) :: []
noncomputable def kas : List Addr := nat_lit 2 :: nat_lit 3 :: nat_lit 15 :: nat_lit 17 :: nat_lit 18 :: nat_lit 20 :: nat_lit 21 :: nat_lit 22 :: nat_lit 26 :: nat_lit 33 :: nat_lit 34 :: nat_lit 35 :: nat_lit 36 :: nat_lit 39 :: nat_lit 41 :: nat_lit 42 :: nat_lit 44 :: nat_lit 45 :: nat_lit 46 :: nat_lit 48 :: nat_lit 49 :: nat_lit 51 :: nat_lit 52 :: nat_lit 53 :: nat_lit 55 :: nat_lit 56 :: nat_lit 58 :: nat_lit 59 :: nat_lit 60 :: nat_lit 61 :: nat_lit 63 :: nat_lit 64 :: nat_lit 66 :: nat_lit 67 :: nat_lit 68 :: nat_lit 75 :: nat_lit 76 :: nat_lit 77 :: nat_lit 78 :: nat_lit 81 :: nat_lit 83 :: nat_lit 84 :: nat_lit 86 :: nat_lit 87 :: nat_lit 88 :: nat_lit 90 :: nat_lit 91 :: nat_lit 93 :: nat_lit 94 :: nat_lit 95 :: nat_lit 97 :: nat_lit 98 :: nat_lit 100 :: nat_lit 101 :: nat_lit 102 :: nat_lit 104 :: nat_lit 105 :: nat_lit 107 :: nat_lit 108 :: nat_lit 109 :: nat_lit 110 :: nat_lit 112 :: nat_lit 113 :: nat_lit 115 :: nat_lit 116 :: nat_lit 117 :: nat_lit 118 :: nat_lit 120 :: nat_lit 121 :: nat_lit 123 :: nat_lit 124 :: nat_lit 125 :: nat_lit 126 :: nat_lit 127 :: nat_lit 129 :: nat_lit 130 :: nat_lit 132 :: nat_lit 133 :: nat_lit 134 :: nat_lit 135 :: nat_lit 137 :: nat_lit 138 :: nat_lit 140 :: nat_lit 141 :: nat_lit 142 :: nat_lit 143 :: nat_lit 145 :: nat_lit 146 :: nat_lit 148 :: nat_lit 149 :: nat_lit 150 :: nat_lit 152 :: nat_lit 153 :: nat_lit 155 :: nat_lit 156 :: nat_lit 157 :: nat_lit 159 :: nat_lit 160 :: nat_lit 162 :: nat_lit 163 :: nat_lit 164 :: nat_lit 165 :: nat_lit 166 :: nat_lit 168 :: nat_lit 169 :: nat_lit 171 :: nat_lit 172 :: nat_lit 173 :: nat_lit 175 :: nat_lit 176 :: nat_lit 178 :: nat_lit 179 :: nat_lit 180 :: nat_lit 183 :: nat_lit 184 :: nat_lit 185 :: nat_lit 188 :: nat_lit 189 :: nat_lit 190 :: nat_lit 193 :: nat_lit 194 :: nat_lit 195 :: nat_lit 197 :: nat_lit 198 :: nat_lit 200 :: nat_lit 201 :: nat_lit 202 :: nat_lit 205 :: nat_lit 206 :: nat_lit 207 :: nat_lit 210 :: nat_lit 211 :: nat_lit 0 :: nat_lit 1 :: nat_lit 4 :: nat_lit 5 :: nat_lit 6 :: nat_lit 7 :: nat_lit 8 :: nat_lit 9 :: nat_lit 10 :: []
noncomputable def lv : List (Str × WData) := [("hexdigits", .str "0123456789abcdefABCDEF")]
noncomputable def XT : Shared → Bool := fun s => xlAt qv lv s && recOk (RowW.records PySem.Challenge.rw_kq0052_01.row.toRowW) s
theorem kas_ok (P : Params) : kas = (kk P).map (·.1) := by kernel_rfl
noncomputable def HH : Hook := kHook kk kas kas_ok
theorem look_frag (w : World) : (fun os => Hook.obs HH (fs soF w os)) = fun _ => Hook.val HH w := by kernel_rfl
theorem left_ok : LeftO pw qv lo XT (Hook.obs HH) (Hook.val HH) 5000 := by
  refine LeftO.of_pieces (H₀ := boot_heap) (H₁ := fun P => absHeap (t_40 (soF P) P) 212 {}) (gs₀ := #[]) (gs₁ := #[]) (d₀ := boot_drawn) (d₁ := {}) (k₀ := boot_toks) (k₁ := 500) (m₀ := 11) (ann := some (.ref 6)) (M := 5000) open_ok size_ok run_ok rfl fun w => ?_
  funext os
  have e1 := congrFun (look1 soF w) os
  have e2 := congrFun (look2 soF w) os
  have e3 := congrFun (look3 soF w) os
  have e4 := congrFun (look4 soF w) os
  have e5 := congrFun (seen1 soF w) os
  have e6 := congrFun (seenB soF w) os
  have e7 := congrFun (seenK soF w) os
  have e8 := congrFun (seenT soF w) os
  have e9 := congrFun (seenP soF w) os
  have e10 := congrFun (seenE soF w) os
  have e11 := congrFun (seenD soF w) os
  have e12 := congrFun (seenW soF w) os
  have e13 := congrFun (seenC soF w) os
  have e14 := congrFun (look_frag w) os
  refine looks_pair ?_ (looks_pair ?_ e14)
  · show (staticsOk (importedModules pw.main.body) (boot_heap w.params) (fs soF w os).heap && namesBound pw (fs soF w os).heap && gensDone (fs soF w os) && laidKept (boot_heap w.params) (fs soF w os).heap) = true
    rw [e1, e2, e3, e4]; rfl
  · exact looks_pair e5 (looks_pair e6 (looks_pair e7 (looks_pair e8 (looks_pair e9 (looks_pair e10 (looks_pair e11 (looks_pair e12 e13)))))))
end
end
section
def noTabs8 (K : Frag) (ps : List Addr) : Bool := K.all fun p => match p.2.cls, p.2.data with
  | .none, .fields _ => !ps.contains p.1
  | _, _ => true
theorem ghost_K8 {K : Frag} {h₁ : Heap} {tabs : List (Addr × Addr)} (hT : TabsAt tabs h₁) (X : K.In h₁) (hK : noTabs8 K (tabs.map (·.2)) = true) : K.In (ghostOf h₁ tabs) := fun a o e => by
  by_cases hm : a ∈ tabs.map (·.2)
  · refine ghost_get hT (X a o e) fun q => ?_
    have h2 := List.all_eq_true.mp hK (a, o) (mem_of_lookupK e)
    subst q
    have h3 : (!(tabs.map (·.2)).contains a) = true := h2
    rw [List.contains_iff_mem.mpr hm] at h3
    exact absurd h3 (by decide)
  · exact ghost_ne (X a o e) hm
end
section
set_option maxHeartbeats 4000000
abbrev LL : OpenLaw := PySem.Challenge.rw_kq0052_01
abbrev RR : OpenRow := LL.row
theorem sd1 : (RR.prog.boundNames.all (fun n => !worldNames.contains n)) = true := by kernel_rfl
theorem sd2 : namesResolve RR.prog = true := by kernel_rfl
theorem sd3 : noRoadLSs { strict := !(importedModules RR.prog.main.body).all cThrough.contains, foot := none, bare := (["vars", "dir", "locals"] : List Str).filter (readsOut RR.prog RR.prog.main.body) } RR.prog.main.body = true := by kernel_rfl
theorem sd4 : (namesMeet RR.prog RR.prog.main.body fun _ n => attrL n) = true := by kernel_rfl
theorem sd5 : RR.partSaid = true := by
  unfold OpenRow.partSaid looksOpen
  iterate 30 (all_goals (try with_reducible refine look_both ?_ ?_))
  all_goals (first | with_reducible exact sd1 | with_reducible exact sd2 | with_reducible exact sd3 | with_reducible exact sd4 | kernel_rfl)
theorem sd6 : RR.wellSaid = true := by
  unfold OpenRow.wellSaid
  refine look_both (look_both sd5 ?_) ?_
  all_goals kernel_rfl
theorem sd7 : (LL.bound'.all (fun n => !builtinNamed n || LL.about == [n] || !LL.reads n)) = true := by kernel_rfl
theorem sd8 : (namesMeet LL.prog LL.footing (fun sc n => (!(["type", "isinstance", "issubclass", "getattr", "hasattr"] : List Str).contains n || sc.names.lookup n == some .globalImplicit) &&
    (LL.may != some n || sc.kind == .module || sc.names.lookup n == some .globalImplicit))) = true := by kernel_rfl
theorem sd9 : namesMeet LL.prog LL.above (fun _ n => !LL.own.contains n) = true := by kernel_rfl
theorem sd10 : (namesMeet LL.prog LL.footing fun sc n => sc.kind == .module || sc.names.lookup n != some .globalExplicit) = true := by kernel_rfl
theorem said_ok : LL.wellSaid = true := by
  unfold OpenLaw.wellSaid
  iterate 20 (all_goals (try with_reducible refine look_both ?_ ?_))
  all_goals (first | with_reducible exact sd6 | with_reducible exact sd7 | with_reducible exact sd8 | with_reducible exact sd9 | with_reducible exact sd10 | kernel_rfl)
end
section
open PySem.Calls

abbrev LO : List Str := looseW qv lo ++ (recsOf qv).map (·.name) ++ (litsOf qv).map (·.1) ++ (clssOf qv (looseW qv lo)).map (·.name)
def Grow (h h' : Heap) : Prop := ∀ b o, h.get? b = some o → h'.get? b = some o
theorem Grow.refl (h : Heap) : Grow h h := fun _ _ e => e
theorem Grow.trans {a b c : Heap} (x : Grow a b) (y : Grow b c) : Grow a c := fun p o e => y p o (x p o e)

abbrev AA (dp un : Nat) (fr : Option (List Env)) (gd : Option (List Code)) : Around := { handled := none, depth := dp, frames := fr, guards := gd, units := un }
def Spec (w : World) (f : Addr) (vs : List Value) (D U : Nat) (P : Heap → Prop) (R : Heap → Value → Heap → Prop) : Prop :=
  ∀ (mean : ExcName → Option Value) (mg mb : Str → Option Value) (dp un : Nat) (fr : Option (List Env)) (gd : Option (List Code)) (s : Shared) (Q E : Value → Shared → Prop),
    (kk w.params).In s.heap → Top topProg LO mean mg mb s.heap → dp + D < recursionLimit → un + U < cLine → P s.heap →
    (∀ v h' tk', Grow s.heap h' → R s.heap v h' → Q v { s with heap := h', toks := tk' }) →
    wpAny (model pw w) (AA dp un fr gd) (call (.ref f) vs) Q E s

theorem enter0 {w : World} {mean : ExcName → Option Value} {mg mb : Str → Option Value} {A : Around} {s : Shared} {Q E : Value → Shared → Prop} {f : Addr} {vs : List Value}
    {name qual : Str} {params : Arguments} {body : List Stmt} {scope : Scope} {cl : List (Str × Addr)} {dV kV doc pm cdv ct oc : Value} {an od : Option Addr} {osl : Array (Option Value)} {binds : List (Str × Value)}
    (X : (kk w.params).In s.heap) (T : Top topProg LO mean mg mb s.heap)
    (ho : (kk w.params).lookup f = some ⟨oc, od, .func (fnX name qual params body scope cl dV kV doc pm an cdv ct), osl⟩) (hcd : codeIn (kk w.params) cdv qual = true) (hroom : A.depth < recursionLimit)
    (hbind : BindsTo s (fnX name qual params body scope cl dV kV doc pm an cdv ct) ⟨vs, []⟩ binds) (hloc : ∀ y ∈ binds, scope.names.lookup y.1 = some .local)
    (hcell : ∀ x ∈ scope.names, x.2 ≠ .cell) (hco : scope.isCoroutine = false) (hgen : scope.isGenerator = false) (hk : scope.kind = .function)
    (h : ∀ L' h₁, Fr s.heap L' h₁ (fun y => binds.reverse.lookup y) → News s.heap L' h₁ [] →
      wpAny (model pw w) (A.deeper (envX qual scope L' f cdv cl)) (execs body (envX qual scope L' f cdv cl))
        (fun fl s' => Q (match fl with | .ret v => v | _ => .none) s')
        (fun e s' => wpAny (model pw w) (A.deeper (envX qual scope L' f cdv cl)) (leaving (envX qual scope L' f cdv cl) e) (fun _ s'' => E e s'') (fun e' s'' => E e' s'') s')
        { s with heap := h₁, toks := s.toks + binds.length }) :
    wpAny (model pw w) A (call (.ref f) vs) Q E s :=
  wpAny_call (codeAny_call_def (fd := fnX name qual params body scope cl dV kV doc pm an cdv ct) (body := body) (binds := binds) hroom (X _ _ ho) rfl T.nolimit (codeRec_of X hcd) rfl hbind hcell hloc
    (fun h₁ hns hk₁ => h s.heap.objs.size h₁ ⟨hns, hk₁, Nat.le_refl _⟩ fun _ hp => nomatch hp) hco hgen hk)

theorem enter0C {w : World} {mean : ExcName → Option Value} {mg mb : Str → Option Value} {A : Around} {s : Shared} {Q E : Value → Shared → Prop} {f : Addr} {vs : List Value}
    {name qual : Str} {params : Arguments} {body : List Stmt} {scope : Scope} {dV kV doc pm cdv ct oc : Value} {an od : Option Addr} {osl : Array (Option Value)} {binds : List (Str × Value)}
    (X : (kk w.params).In s.heap) (T : Top topProg LO mean mg mb s.heap)
    (ho : (kk w.params).lookup f = some ⟨oc, od, .func (fnX name qual params body scope [] dV kV doc pm an cdv ct), osl⟩) (hcd : codeIn (kk w.params) cdv qual = true) (hroom : A.depth < recursionLimit)
    (hbind : bindArgs (fnX name qual params body scope [] dV kV doc pm an cdv ct) ⟨vs, []⟩ = pure binds)
    (hkind : (binds.all fun y => scope.names.lookup y.1 == some .local || scope.names.lookup y.1 == some .cell) = true)
    (hnd : ((cellsFrom 0 scope.names []).map (·.1)).Nodup) (hco : scope.isCoroutine = false) (hgen : scope.isGenerator = false) (hk : scope.kind = .function)
    (h : ∀ L' h₁ tk cells, Fr s.heap L' h₁ (bindL (envX qual scope L' f cdv (cellsFrom (L' + 1) scope.names [])).kindOf binds fun _ => none) → News s.heap L' h₁ cells →
      CellsAre (bindC (envX qual scope L' f cdv (cellsFrom (L' + 1) scope.names [])).kindOf binds fun _ => none) (cellsFrom (L' + 1) scope.names []) cells →
      wpAny (model pw w) (A.deeper (envX qual scope L' f cdv (cellsFrom (L' + 1) scope.names []))) (execs body (envX qual scope L' f cdv (cellsFrom (L' + 1) scope.names [])))
        (fun fl s' => Q (match fl with | .ret v => v | _ => .none) s')
        (fun e s' => wpAny (model pw w) (A.deeper (envX qual scope L' f cdv (cellsFrom (L' + 1) scope.names []))) (leaving (envX qual scope L' f cdv (cellsFrom (L' + 1) scope.names [])) e) (fun _ s'' => E e s'') (fun e' s'' => E e' s'') s')
        { s with heap := h₁, toks := tk }) :
    wpAny (model pw w) A (call (.ref f) vs) Q E s := by
  refine wpAny_call (codeAny_call_cells (fd := fnX name qual params body scope [] dV kV doc pm an cdv ct) (body := body) (binds := binds) hroom (X _ _ ho) rfl T.nolimit (codeRec_of X hcd) rfl hbind rfl (kindsX hkind _) (fun s₁ x => ?_) hco hgen hk)
  obtain ⟨h₁, tk, rfl, hk₁⟩ := x.done
  obtain ⟨cells, NC, Y⟩ := Cl.news (h₀ := s.heap) (L := s.heap.objs.size) (cm := bindC (envX qual scope s.heap.objs.size f cdv (cellsFrom (s.heap.objs.size + 1) scope.names [])).kindOf binds fun _ => none) (cs := cellsFrom (s.heap.objs.size + 1) scope.names []) (Nat.le_refl _)
    fun n c hm => ⟨x.cell n c (lookup_of_mem_nodup (cellsFrom_names scope.names 0 (s.heap.objs.size + 1) [] [] rfl ▸ hnd) hm), x.above n c hm⟩
  exact h s.heap.objs.size h₁ tk cells ⟨x.toInCall.ns, hk₁, Nat.le_refl _⟩ NC Y

theorem fill_it : kk = kk ∧ PySem.Challenge.rw_kq0052_01 = PySem.Challenge.rw_kq0052_01 := by
  k_fill
  exact ⟨rfl, rfl⟩
abbrev listOf' (vs : List Value) (n : Nat) : Obj := { cls := .type "list", data := .seq vs.toArray n }

def NewList (h : Heap) (v : Value) (h' : Heap) (G : List Value → Prop) : Prop := ∃ l vs n, v = .ref l ∧ h.get? l = none ∧ h'.get? l = some (W.listOf vs.toArray n) ∧ G vs
theorem end_list {h : Heap} {L' l : Addr} {h' : Heap} {xs : Array Value} {n : Nat} {rest : List (Addr × Obj)} {G : List Value → Prop} (N : News h L' h' ((l, W.listOf xs n) :: rest)) (hG : G xs.toList) :
    NewList h (.ref l) h' G := ⟨l, xs.toList, n, rfl, (N _ (.head _)).2.2, (N _ (.head _)).1, hG⟩
noncomputable def octs (x : Int) : List Int :=
  if x < 128 then [x] else if x < 2048 then [192 + x.fdiv 64, 128 + x.fmod 64] else if x < 65536 then [224 + x.fdiv 4096, 128 + (x.fdiv 64).fmod 64, 128 + x.fmod 64]
  else [240 + x.fdiv 262144, 128 + (x.fdiv 4096).fmod 64, 128 + (x.fdiv 64).fmod 64, 128 + x.fmod 64]
theorem hide_ret {α : Type} {M : Model} {A : Around} {m : Sem α} {Q : α → Shared → Prop} {E : Value → Shared → Prop} {s : Shared}
    (h : ∀ Q' : α → Shared → Prop, (∀ f s', Q f s' → Q' f s') → wpAny M A m Q' (fun _ _ => False) s) : wpAny M A m Q E s :=
  wpAny_mono (h Q fun _ _ q => q) (fun _ _ q => q) fun _ _ f => f.elim
end
section
theorem eps_all {α : Type} {i : Nonempty α} {P : α → Prop} {v : α} (e : v = @Classical.epsilon α i fun x => ¬ P x) (h : P v) (x : α) : P x :=
  Classical.byContradiction fun n => by
    have := Classical.epsilon_spec (p := fun x => ¬ P x) ⟨x, n⟩
    rw [e] at h
    exact this h
noncomputable def W0 : World := ⟨fun _ _ => 0, { strHash := fun _ => 0, shareClass := fun _ => 0, mergeTok := id, idOf := fun _ => 0, idOfShared := fun _ _ => 0, followText := fun _ => false, idOfImm := fun _ => 0 }⟩
@[irreducible] noncomputable def pick {α : Type} (i : Nonempty α) (P : α → Prop) : α := @Classical.epsilon α i fun x => ¬ P x
theorem pick_all {α : Type} {i : Nonempty α} {P : α → Prop} (h : P (pick i P)) (x : α) : P x := eps_all (by with_unfolding_all rfl) h x
noncomputable def t1 {a1 : Type} {i1 : Nonempty a1} (P : a1 → Prop) : a1 := pick ⟨(Classical.choice i1)⟩ (fun x => P x)
@[irreducible] noncomputable def p1_1 {a1 : Type} {i1 : Nonempty a1} (P : a1 → Prop) : a1 := (t1 (i1 := i1) P)
theorem pk1 {a1 : Type} [i1 : Nonempty a1] {P : a1 → Prop} (h : P (p1_1 (i1 := i1) P)) : ∀ x1, P x1 := fun x1 => pick_all (P := fun x => P x) (by with_unfolding_all exact h) (x1)
noncomputable def t2 {a1 a2 : Type} {i1 : Nonempty a1} {i2 : Nonempty a2} (P : a1 → a2 → Prop) : a1 × a2 := pick ⟨(Classical.choice i1, Classical.choice i2)⟩ (fun x => P x.1 x.2)
@[irreducible] noncomputable def p2_1 {a1 a2 : Type} {i1 : Nonempty a1} {i2 : Nonempty a2} (P : a1 → a2 → Prop) : a1 := (t2 (i1 := i1) (i2 := i2) P).1
@[irreducible] noncomputable def p2_2 {a1 a2 : Type} {i1 : Nonempty a1} {i2 : Nonempty a2} (P : a1 → a2 → Prop) : a2 := (t2 (i1 := i1) (i2 := i2) P).2
theorem pk2 {a1 a2 : Type} [i1 : Nonempty a1] [i2 : Nonempty a2] {P : a1 → a2 → Prop} (h : P (p2_1 (i1 := i1) (i2 := i2) P) (p2_2 (i1 := i1) (i2 := i2) P)) : ∀ x1 x2, P x1 x2 := fun x1 x2 => pick_all (P := fun x => P x.1 x.2) (by with_unfolding_all exact h) (x1, x2)
noncomputable def t3 {a1 a2 a3 : Type} {i1 : Nonempty a1} {i2 : Nonempty a2} {i3 : Nonempty a3} (P : a1 → a2 → a3 → Prop) : a1 × a2 × a3 := pick ⟨(Classical.choice i1, Classical.choice i2, Classical.choice i3)⟩ (fun x => P x.1 x.2.1 x.2.2)
@[irreducible] noncomputable def p3_1 {a1 a2 a3 : Type} {i1 : Nonempty a1} {i2 : Nonempty a2} {i3 : Nonempty a3} (P : a1 → a2 → a3 → Prop) : a1 := (t3 (i1 := i1) (i2 := i2) (i3 := i3) P).1
@[irreducible] noncomputable def p3_2 {a1 a2 a3 : Type} {i1 : Nonempty a1} {i2 : Nonempty a2} {i3 : Nonempty a3} (P : a1 → a2 → a3 → Prop) : a2 := (t3 (i1 := i1) (i2 := i2) (i3 := i3) P).2.1
@[irreducible] noncomputable def p3_3 {a1 a2 a3 : Type} {i1 : Nonempty a1} {i2 : Nonempty a2} {i3 : Nonempty a3} (P : a1 → a2 → a3 → Prop) : a3 := (t3 (i1 := i1) (i2 := i2) (i3 := i3) P).2.2
theorem pk3 {a1 a2 a3 : Type} [i1 : Nonempty a1] [i2 : Nonempty a2] [i3 : Nonempty a3] {P : a1 → a2 → a3 → Prop} (h : P (p3_1 (i1 := i1) (i2 := i2) (i3 := i3) P) (p3_2 (i1 := i1) (i2 := i2) (i3 := i3) P) (p3_3 (i1 := i1) (i2 := i2) (i3 := i3) P)) : ∀ x1 x2 x3, P x1 x2 x3 := fun x1 x2 x3 => pick_all (P := fun x => P x.1 x.2.1 x.2.2) (by with_unfolding_all exact h) (x1, x2, x3)
noncomputable def t4 {a1 a2 a3 a4 : Type} {i1 : Nonempty a1} {i2 : Nonempty a2} {i3 : Nonempty a3} {i4 : Nonempty a4} (P : a1 → a2 → a3 → a4 → Prop) : a1 × a2 × a3 × a4 := pick ⟨(Classical.choice i1, Classical.choice i2, Classical.choice i3, Classical.choice i4)⟩ (fun x => P x.1 x.2.1 x.2.2.1 x.2.2.2)
@[irreducible] noncomputable def p4_1 {a1 a2 a3 a4 : Type} {i1 : Nonempty a1} {i2 : Nonempty a2} {i3 : Nonempty a3} {i4 : Nonempty a4} (P : a1 → a2 → a3 → a4 → Prop) : a1 := (t4 (i1 := i1) (i2 := i2) (i3 := i3) (i4 := i4) P).1
@[irreducible] noncomputable def p4_2 {a1 a2 a3 a4 : Type} {i1 : Nonempty a1} {i2 : Nonempty a2} {i3 : Nonempty a3} {i4 : Nonempty a4} (P : a1 → a2 → a3 → a4 → Prop) : a2 := (t4 (i1 := i1) (i2 := i2) (i3 := i3) (i4 := i4) P).2.1
@[irreducible] noncomputable def p4_3 {a1 a2 a3 a4 : Type} {i1 : Nonempty a1} {i2 : Nonempty a2} {i3 : Nonempty a3} {i4 : Nonempty a4} (P : a1 → a2 → a3 → a4 → Prop) : a3 := (t4 (i1 := i1) (i2 := i2) (i3 := i3) (i4 := i4) P).2.2.1
@[irreducible] noncomputable def p4_4 {a1 a2 a3 a4 : Type} {i1 : Nonempty a1} {i2 : Nonempty a2} {i3 : Nonempty a3} {i4 : Nonempty a4} (P : a1 → a2 → a3 → a4 → Prop) : a4 := (t4 (i1 := i1) (i2 := i2) (i3 := i3) (i4 := i4) P).2.2.2
theorem pk4 {a1 a2 a3 a4 : Type} [i1 : Nonempty a1] [i2 : Nonempty a2] [i3 : Nonempty a3] [i4 : Nonempty a4] {P : a1 → a2 → a3 → a4 → Prop} (h : P (p4_1 (i1 := i1) (i2 := i2) (i3 := i3) (i4 := i4) P) (p4_2 (i1 := i1) (i2 := i2) (i3 := i3) (i4 := i4) P) (p4_3 (i1 := i1) (i2 := i2) (i3 := i3) (i4 := i4) P) (p4_4 (i1 := i1) (i2 := i2) (i3 := i3) (i4 := i4) P)) : ∀ x1 x2 x3 x4, P x1 x2 x3 x4 := fun x1 x2 x3 x4 => pick_all (P := fun x => P x.1 x.2.1 x.2.2.1 x.2.2.2) (by with_unfolding_all exact h) (x1, x2, x3, x4)
noncomputable def t5 {a1 a2 a3 a4 a5 : Type} {i1 : Nonempty a1} {i2 : Nonempty a2} {i3 : Nonempty a3} {i4 : Nonempty a4} {i5 : Nonempty a5} (P : a1 → a2 → a3 → a4 → a5 → Prop) : a1 × a2 × a3 × a4 × a5 := pick ⟨(Classical.choice i1, Classical.choice i2, Classical.choice i3, Classical.choice i4, Classical.choice i5)⟩ (fun x => P x.1 x.2.1 x.2.2.1 x.2.2.2.1 x.2.2.2.2)
@[irreducible] noncomputable def p5_1 {a1 a2 a3 a4 a5 : Type} {i1 : Nonempty a1} {i2 : Nonempty a2} {i3 : Nonempty a3} {i4 : Nonempty a4} {i5 : Nonempty a5} (P : a1 → a2 → a3 → a4 → a5 → Prop) : a1 := (t5 (i1 := i1) (i2 := i2) (i3 := i3) (i4 := i4) (i5 := i5) P).1
@[irreducible] noncomputable def p5_2 {a1 a2 a3 a4 a5 : Type} {i1 : Nonempty a1} {i2 : Nonempty a2} {i3 : Nonempty a3} {i4 : Nonempty a4} {i5 : Nonempty a5} (P : a1 → a2 → a3 → a4 → a5 → Prop) : a2 := (t5 (i1 := i1) (i2 := i2) (i3 := i3) (i4 := i4) (i5 := i5) P).2.1
@[irreducible] noncomputable def p5_3 {a1 a2 a3 a4 a5 : Type} {i1 : Nonempty a1} {i2 : Nonempty a2} {i3 : Nonempty a3} {i4 : Nonempty a4} {i5 : Nonempty a5} (P : a1 → a2 → a3 → a4 → a5 → Prop) : a3 := (t5 (i1 := i1) (i2 := i2) (i3 := i3) (i4 := i4) (i5 := i5) P).2.2.1
@[irreducible] noncomputable def p5_4 {a1 a2 a3 a4 a5 : Type} {i1 : Nonempty a1} {i2 : Nonempty a2} {i3 : Nonempty a3} {i4 : Nonempty a4} {i5 : Nonempty a5} (P : a1 → a2 → a3 → a4 → a5 → Prop) : a4 := (t5 (i1 := i1) (i2 := i2) (i3 := i3) (i4 := i4) (i5 := i5) P).2.2.2.1
@[irreducible] noncomputable def p5_5 {a1 a2 a3 a4 a5 : Type} {i1 : Nonempty a1} {i2 : Nonempty a2} {i3 : Nonempty a3} {i4 : Nonempty a4} {i5 : Nonempty a5} (P : a1 → a2 → a3 → a4 → a5 → Prop) : a5 := (t5 (i1 := i1) (i2 := i2) (i3 := i3) (i4 := i4) (i5 := i5) P).2.2.2.2
theorem pk5 {a1 a2 a3 a4 a5 : Type} [i1 : Nonempty a1] [i2 : Nonempty a2] [i3 : Nonempty a3] [i4 : Nonempty a4] [i5 : Nonempty a5] {P : a1 → a2 → a3 → a4 → a5 → Prop} (h : P (p5_1 (i1 := i1) (i2 := i2) (i3 := i3) (i4 := i4) (i5 := i5) P) (p5_2 (i1 := i1) (i2 := i2) (i3 := i3) (i4 := i4) (i5 := i5) P) (p5_3 (i1 := i1) (i2 := i2) (i3 := i3) (i4 := i4) (i5 := i5) P) (p5_4 (i1 := i1) (i2 := i2) (i3 := i3) (i4 := i4) (i5 := i5) P) (p5_5 (i1 := i1) (i2 := i2) (i3 := i3) (i4 := i4) (i5 := i5) P)) : ∀ x1 x2 x3 x4 x5, P x1 x2 x3 x4 x5 := fun x1 x2 x3 x4 x5 => pick_all (P := fun x => P x.1 x.2.1 x.2.2.1 x.2.2.2.1 x.2.2.2.2) (by with_unfolding_all exact h) (x1, x2, x3, x4, x5)
noncomputable def t6 {a1 a2 a3 a4 a5 a6 : Type} {i1 : Nonempty a1} {i2 : Nonempty a2} {i3 : Nonempty a3} {i4 : Nonempty a4} {i5 : Nonempty a5} {i6 : Nonempty a6} (P : a1 → a2 → a3 → a4 → a5 → a6 → Prop) : a1 × a2 × a3 × a4 × a5 × a6 := pick ⟨(Classical.choice i1, Classical.choice i2, Classical.choice i3, Classical.choice i4, Classical.choice i5, Classical.choice i6)⟩ (fun x => P x.1 x.2.1 x.2.2.1 x.2.2.2.1 x.2.2.2.2.1 x.2.2.2.2.2)
@[irreducible] noncomputable def p6_1 {a1 a2 a3 a4 a5 a6 : Type} {i1 : Nonempty a1} {i2 : Nonempty a2} {i3 : Nonempty a3} {i4 : Nonempty a4} {i5 : Nonempty a5} {i6 : Nonempty a6} (P : a1 → a2 → a3 → a4 → a5 → a6 → Prop) : a1 := (t6 (i1 := i1) (i2 := i2) (i3 := i3) (i4 := i4) (i5 := i5) (i6 := i6) P).1
@[irreducible] noncomputable def p6_2 {a1 a2 a3 a4 a5 a6 : Type} {i1 : Nonempty a1} {i2 : Nonempty a2} {i3 : Nonempty a3} {i4 : Nonempty a4} {i5 : Nonempty a5} {i6 : Nonempty a6} (P : a1 → a2 → a3 → a4 → a5 → a6 → Prop) : a2 := (t6 (i1 := i1) (i2 := i2) (i3 := i3) (i4 := i4) (i5 := i5) (i6 := i6) P).2.1
@[irreducible] noncomputable def p6_3 {a1 a2 a3 a4 a5 a6 : Type} {i1 : Nonempty a1} {i2 : Nonempty a2} {i3 : Nonempty a3} {i4 : Nonempty a4} {i5 : Nonempty a5} {i6 : Nonempty a6} (P : a1 → a2 → a3 → a4 → a5 → a6 → Prop) : a3 := (t6 (i1 := i1) (i2 := i2) (i3 := i3) (i4 := i4) (i5 := i5) (i6 := i6) P).2.2.1
@[irreducible] noncomputable def p6_4 {a1 a2 a3 a4 a5 a6 : Type} {i1 : Nonempty a1} {i2 : Nonempty a2} {i3 : Nonempty a3} {i4 : Nonempty a4} {i5 : Nonempty a5} {i6 : Nonempty a6} (P : a1 → a2 → a3 → a4 → a5 → a6 → Prop) : a4 := (t6 (i1 := i1) (i2 := i2) (i3 := i3) (i4 := i4) (i5 := i5) (i6 := i6) P).2.2.2.1
@[irreducible] noncomputable def p6_5 {a1 a2 a3 a4 a5 a6 : Type} {i1 : Nonempty a1} {i2 : Nonempty a2} {i3 : Nonempty a3} {i4 : Nonempty a4} {i5 : Nonempty a5} {i6 : Nonempty a6} (P : a1 → a2 → a3 → a4 → a5 → a6 → Prop) : a5 := (t6 (i1 := i1) (i2 := i2) (i3 := i3) (i4 := i4) (i5 := i5) (i6 := i6) P).2.2.2.2.1
@[irreducible] noncomputable def p6_6 {a1 a2 a3 a4 a5 a6 : Type} {i1 : Nonempty a1} {i2 : Nonempty a2} {i3 : Nonempty a3} {i4 : Nonempty a4} {i5 : Nonempty a5} {i6 : Nonempty a6} (P : a1 → a2 → a3 → a4 → a5 → a6 → Prop) : a6 := (t6 (i1 := i1) (i2 := i2) (i3 := i3) (i4 := i4) (i5 := i5) (i6 := i6) P).2.2.2.2.2
theorem pk6 {a1 a2 a3 a4 a5 a6 : Type} [i1 : Nonempty a1] [i2 : Nonempty a2] [i3 : Nonempty a3] [i4 : Nonempty a4] [i5 : Nonempty a5] [i6 : Nonempty a6] {P : a1 → a2 → a3 → a4 → a5 → a6 → Prop} (h : P (p6_1 (i1 := i1) (i2 := i2) (i3 := i3) (i4 := i4) (i5 := i5) (i6 := i6) P) (p6_2 (i1 := i1) (i2 := i2) (i3 := i3) (i4 := i4) (i5 := i5) (i6 := i6) P) (p6_3 (i1 := i1) (i2 := i2) (i3 := i3) (i4 := i4) (i5 := i5) (i6 := i6) P) (p6_4 (i1 := i1) (i2 := i2) (i3 := i3) (i4 := i4) (i5 := i5) (i6 := i6) P) (p6_5 (i1 := i1) (i2 := i2) (i3 := i3) (i4 := i4) (i5 := i5) (i6 := i6) P) (p6_6 (i1 := i1) (i2 := i2) (i3 := i3) (i4 := i4) (i5 := i5) (i6 := i6) P)) : ∀ x1 x2 x3 x4 x5 x6, P x1 x2 x3 x4 x5 x6 := fun x1 x2 x3 x4 x5 x6 => pick_all (P := fun x => P x.1 x.2.1 x.2.2.1 x.2.2.2.1 x.2.2.2.2.1 x.2.2.2.2.2) (by with_unfolding_all exact h) (x1, x2, x3, x4, x5, x6)
theorem ex1 {a1 : Type} [i1 : Nonempty a1] {P : a1 → Prop} {G : Prop} (h : ∃ x1, P x1) (g : P (p1_1 (i1 := i1) fun x1 => P x1 → G) → G) : G := let ⟨x1, hx⟩ := h; pk1 (P := fun x1 => P x1 → G) g x1 hx
theorem ex2 {a1 a2 : Type} [i1 : Nonempty a1] [i2 : Nonempty a2] {P : a1 → a2 → Prop} {G : Prop} (h : ∃ x1 x2, P x1 x2) (g : P (p2_1 (i1 := i1) (i2 := i2) fun x1 x2 => P x1 x2 → G) (p2_2 (i1 := i1) (i2 := i2) fun x1 x2 => P x1 x2 → G) → G) : G := let ⟨x1, x2, hx⟩ := h; pk2 (P := fun x1 x2 => P x1 x2 → G) g x1 x2 hx
theorem ex3 {a1 a2 a3 : Type} [i1 : Nonempty a1] [i2 : Nonempty a2] [i3 : Nonempty a3] {P : a1 → a2 → a3 → Prop} {G : Prop} (h : ∃ x1 x2 x3, P x1 x2 x3) (g : P (p3_1 (i1 := i1) (i2 := i2) (i3 := i3) fun x1 x2 x3 => P x1 x2 x3 → G) (p3_2 (i1 := i1) (i2 := i2) (i3 := i3) fun x1 x2 x3 => P x1 x2 x3 → G) (p3_3 (i1 := i1) (i2 := i2) (i3 := i3) fun x1 x2 x3 => P x1 x2 x3 → G) → G) : G := let ⟨x1, x2, x3, hx⟩ := h; pk3 (P := fun x1 x2 x3 => P x1 x2 x3 → G) g x1 x2 x3 hx
theorem pickI {α : Type} [i : Nonempty α] {P : α → Prop} (h : P (pick i P)) (x : α) : P x := pick_all h x
theorem gen_fn {α : Type} (a : α) {G : Prop} (h : ∀ f, f = a → G) : G := h a rfl
theorem exPk {α : Type} [i : Nonempty α] {P : α → Prop} {G : Prop} (h : ∃ x, P x) (g : P (pick i fun x => P x → G) → G) : G := h.elim (pick_all (P := fun x => P x → G) g)
theorem nW : Nonempty World := ⟨W0⟩
theorem sh5 {P : Shared → Prop} (h : ∀ a b c d e, P ⟨a, b, c, d, e⟩) : ∀ s, P s := fun ⟨a, b, c, d, e⟩ => h a b c d e
theorem nD : Nonempty Drawn := ⟨{}⟩
theorem nA : Nonempty Around := ⟨{}⟩
theorem nP : Nonempty PyData := ⟨.none⟩
theorem nS : Nonempty Shared := ⟨{}⟩
end
section
open PySem.Calls
@[irreducible] noncomputable def sto (w : World) (L : Addr) (x : Str) (v : Value) (t : Nat) (hp : Heap) : Heap := hp.update L (Obj.putName x (if x.cps.isEmpty then 0 else reduceHash (w.params.strHash x.cps)) (.str x t) v)
@[irreducible] noncomputable def cob (v : Value) (o : Obj) : Obj := { o with data := .cell (some v) }
@[irreducible] noncomputable def cst (c : Addr) (v : Value) (hp : Heap) : Heap := hp.update c fun o => { o with data := .cell (some v) }
@[irreducible] noncomputable def nad (hp : Heap) : Addr := hp.objs.size
@[irreducible] noncomputable def nls (vs : List Value) (hp : Heap) : Heap := hp.push { cls := .type "list", data := .seq vs.toArray }
@[irreducible] noncomputable def apd (D : Addr) (x : Value) (hp : Heap) : Heap := hp.update D (Obj.mapSeq (·.push x))
section
variable {prog : Program} {w : World} {A : Around} {E : Value → Shared → Prop} {g : Array GenState} {d : Drawn} {os : OsState} {h₀ : Heap} {L : Addr} {cn : Str} {cs : Scope} {a : Addr} {ccd : Value} {cl : List (Str × Addr)} {x : Str}
  {hp : Heap} {t : Nat} {m : Str → Option Value} {v : Value} {news : List (Addr × Obj)}
theorem ns_wp {Γ : Ctx} {p : Pos} {a : Addr} {o : Obj} {es : Array DictEntry} {ep : Nat} {Q : Unit → Pos → Shared → Prop} {E' : Value → Pos → Shared → Prop} (ho : hp.get? a = some o) (hd : o.data = .dict es ep) (hk : StrKeys es) :
    Sem.wp (model prog w) Γ (nsSet a x v) Q E' p ⟨hp, g, d, t, os⟩ = ((hp.get? a).isSome ∧ Q () p ⟨sto w a x v t hp, g, d, t + 1, os⟩) := by
  have hany : es.any (·.refKey) = false := by
    rw [Array.any_eq_false']; intro e he; obtain ⟨n, t, h⟩ := hk e he; simp [DictEntry.refKey, h]
  simp only [nsSet, strHash, Sem.wp_bind', Sem.wp_cmd_ask, Sem.wp_pure', Sem.wp_cmd_mkText]
  rw [Sem.wp_loadPart_of _ Γ _ p _ (o := o) _ ho]
  rw [hd]
  simp only [aRefKeyMayBeTheName_eq, aRefKeyMayBeTheNameByArray, hany, Bool.and_false, Bool.false_eq_true, if_false, Sem.wp_cmd_updatePart]
  unfold sto; rfl
theorem sto_ns {a : Addr} (hn : hp.Ns a m) : (sto w a x v t hp).Ns a (fun y => if y = x then some v else m y) := by
  have key := Sem.wp_nsSet (model pw w) { code := .builtin "" ⟨[], []⟩, handled := none, own := none, below := [], past := none } (fun _ _ _ => False) ⟨0, 0, 0, 0⟩ ⟨hp, #[], {}, t, {}⟩ hn x v (fun _ _ s' => s'.heap.Ns a (fun y => if y = x then some v else m y)) (fun h' a b => a)
  obtain ⟨o, es, ep, ho, hd, hk, hm⟩ := hn
  rw [ns_wp ho hd hk] at key
  exact key.2
theorem sto_but {a : Addr} : Heap.SameBut a hp (sto w a x v t hp) := by unfold sto; exact Heap.SameBut.update ..
theorem wp_sto {a : Addr} {Q : Unit → Shared → Prop} (hn : hp.Ns a m)
    (h : (sto w a x v t hp).Ns a (fun y => if y = x then some v else m y) → Heap.SameBut a hp (sto w a x v t hp) → Q () ⟨sto w a x v t hp, g, d, t + 1, os⟩) : wpAny (model prog w) A (nsSet a x v) Q E ⟨hp, g, d, t, os⟩ := by
  intro Γ p _
  obtain ⟨o, es, ep, ho, hd, hk, hm⟩ := id hn
  rw [ns_wp ho hd hk]
  exact ⟨by rw [ho]; rfl, h (sto_ns hn) sto_but⟩
theorem storeX_D {Q : Unit → Shared → Prop} (hk : cs.kind = .function) (hx : (envX cn cs L a ccd cl).kindOf x = some .local) (F : Fr h₀ L hp m) (N : News h₀ L hp news)
    (h : Fr h₀ L (sto w L x v t hp) (fun y => if y = x then some v else m y) → News h₀ L (sto w L x v t hp) news → Q () ⟨sto w L x v t hp, g, d, t + 1, os⟩) :
    wpAny (model prog w) A (storeName (envX cn cs L a ccd cl) x v) Q E ⟨hp, g, d, t, os⟩ := by
  rw [storeName_local hx (by show (cs.kind == .class || (cs.kind == .module && L != mainGlobals)) = false; rw [hk]; rfl)]
  exact wp_sto F.ns fun hn hs => h (F.set hn hs) (N.set hs)
theorem wp_cst {env : Env} {Q : Unit → Shared → Prop} {c : Addr} {o : Obj} {v₀ : Option Value} (hk : env.scope.kind = .function) (hx : env.kindOf x = some .cell) (hc : env.cells.lookup x = some c) (ho : hp.get? c = some o) (hd : o.data = .cell v₀)
    (h : Q () ⟨cst c v hp, g, d, t, os⟩) : wpAny (model prog w) A (storeName env x v) Q E ⟨hp, g, d, t, os⟩ := by
  unfold storeName
  rw [show (if (env.kindOf x == some .globalImplicit && env.blockKind != .function) = true then none else env.kindOf x) = some .cell from by rw [hx]; rfl]
  show wpAny _ _ (if (env.scope.kind == .class && env.kindOf x == some .cell) = true then localSet env x v else _) _ _ _
  rw [hk, if_neg (fun e => Bool.noConfusion e)]
  refine wpAny_bind (wpAny_cellOf hc ?_)
  unfold cellSet
  refine wpAny_bind (wpAny_load ho ?_)
  rw [hd]
  refine wpAny_update ho ?_
  have e : cst c v hp = hp.update c fun o => { o with data := .cell (some v) } := by unfold cst; rfl
  rw [e] at h
  exact h
theorem storeX_CD {Q : Unit → Shared → Prop} {c : Addr} {o : Obj} {v₀ : Option Value} {gf : Obj → List (Addr × Obj)} (hk : cs.kind = .function) (hx : (envX cn cs L a ccd cl).kindOf x = some .cell) (hc : cl.lookup x = some c)
    (F : Fr h₀ L hp m) (N : News h₀ L hp news) (U : UpdF c o news gf) (hd : o.data = .cell v₀)
    (h : Fr h₀ L (cst c v hp) m → News h₀ L (cst c v hp) (gf (cob v o)) → (cob v o).data = .cell (some v) → Q () ⟨cst c v hp, g, d, t, os⟩) :
    wpAny (model prog w) A (storeName (envX cn cs L a ccd cl) x v) Q E ⟨hp, g, d, t, os⟩ := by
  obtain ⟨own, rest, rfl, hg, h1, h2⟩ := U.split
  have hmem := N (c, o) (List.mem_append_right _ (.head _))
  have hs : Heap.SameBut c hp (cst c v hp) := by unfold cst; exact Heap.SameBut.update ..
  have ho : (cst c v hp).get? c = some (cob v o) := by unfold cst cob; exact Heap.get?_update_self _ hmem.1 rfl
  have q := h ⟨F.ns.sameBut hs (Ne.symm hmem.2.1), fun b ob e => (hs.2 b (fun q => by rw [q, hmem.2.2] at e; cases e)).trans (F.keep b ob e), F.above⟩ (hg _ ▸ N.setAt h1 h2 hs ho) (by unfold cob; rfl)
  exact wp_cst hk hx hc hmem.1 hd q
theorem newList_D {vs : List Value} {Q : Value → Shared → Prop} (F : Fr h₀ L hp m) (N : News h₀ L hp news)
    (h : Fr h₀ L (nls vs hp) m → News h₀ L (nls vs hp) ((nad hp, listOf vs.toArray 0) :: news) → (∀ p ∈ news, p.1 < nad hp) → Q (.ref (nad hp)) ⟨nls vs hp, g, d, t, os⟩) (hsz : vs.length ≤ sizeLine := by size_fits) : wpAny (model prog w) A (newList vs) Q E ⟨hp, g, d, t, os⟩ := by
  unfold nls nad at h
  exact wpAny_newObj_type (h (F.push _) (N.push F _) fun p hp => Heap.lt_size (N p hp).1) (by show vs.toArray.size ≤ sizeLine; rw [List.size_toArray]; exact hsz)
theorem append_D {D : Addr} {its : Array Value} {n : Nat} {y : Value} {news' : List (Addr × Obj)} {Q : Value → Shared → Prop} (F : Fr h₀ L hp m) (N : News h₀ L hp news) (U : Upd D (listOf its n) (listOf (its.push y) (n + 1)) news news')
    (h : Fr h₀ L (apd D y hp) m → News h₀ L (apd D y hp) news' → Q .none ⟨apd D y hp, g, d, t, os⟩) (hsz : its.size ≤ sizeLine := by size_fits) : wpAny (model prog w) A (call (.builtin "list.append") [.ref D, y]) Q E ⟨hp, g, d, t, os⟩ := by
  obtain ⟨pre, post, rfl, rfl, a, b⟩ := U.split
  have z := N (D, listOf its n) (List.mem_append.mpr (.inr (.head _)))
  refine wpAny_call_entry slot_list_append ⟨_, z.1, rfl⟩ entry_list_append ?_ (args_list_append _ _)
  show wpAny _ _ (updateSeq D (·.push y) >>= fun _ => ret .none) _ _ _
  refine wpAny_bind ?_
  have hs : Heap.SameBut D hp (hp.update D (Obj.mapSeq (·.push y))) := Heap.SameBut.update ..
  have ho : (hp.update D (Obj.mapSeq (·.push y))).get? D = some (listOf (its.push y) (n + 1)) := by
    have z1 : hp.get? D = some (listOf its n) := z.1
    rw [Heap.get?_update_self _ z1 (by unfold W.listOf; rw [mapSeq_push]; rfl)]
    unfold W.listOf; rw [mapSeq_push]
  unfold apd at h
  exact wpAny_updateSeq z.1 rfl (wpAny_pure ⟨.none, rfl, h (F.change hs z.2.1 z.2.2) (news_set N a b hs ho)⟩)
def Hold {P P' P'' : Prop} (_ : P) (_ : P') (_ : P'') (G : Prop) : Prop := G
theorem unhold {P P' P'' : Prop} {p : P} {p' : P'} {p'' : P''} {G : Prop} (h : G) : Hold p p' p'' G := h
theorem fSto (F : Fr h₀ L hp m) : Fr h₀ L (sto w L x v t hp) (fun y => if y = x then some v else m y) := F.set (sto_ns F.ns) sto_but
theorem nSto (N : News h₀ L hp news) : News h₀ L (sto w L x v t hp) news := N.set sto_but
theorem storeX_T {Q : Unit → Shared → Prop} (hk : cs.kind = .function) (hx : (envX cn cs L a ccd cl).kindOf x = some .local) (F : Fr h₀ L hp m) (N : News h₀ L hp news)
    (h : Hold (fSto (w := w) (x := x) (v := v) (t := t) F) (nSto (w := w) (x := x) (v := v) (t := t) N) True.intro (Q () ⟨sto w L x v t hp, g, d, t + 1, os⟩)) :
    wpAny (model prog w) A (storeName (envX cn cs L a ccd cl) x v) Q E ⟨hp, g, d, t, os⟩ := storeX_D hk hx F N fun _ _ => h
theorem updF_mem {c : Addr} {o : Obj} {gf : Obj → List (Addr × Obj)} (U : UpdF c o news gf) : (c, o) ∈ news := by
  obtain ⟨own, rest, rfl, hg, h1, h2⟩ := U.split
  exact List.mem_append_right _ (.head _)
theorem cst_but {c : Addr} : Heap.SameBut c hp (cst c v hp) := by unfold cst; exact Heap.SameBut.update ..
theorem fCst {c : Addr} {o : Obj} {gf : Obj → List (Addr × Obj)} (F : Fr h₀ L hp m) (U : UpdF c o news gf) (N : News h₀ L hp news) : Fr h₀ L (cst c v hp) m :=
  have hmem := N (c, o) (updF_mem U)
  ⟨F.ns.sameBut cst_but (Ne.symm hmem.2.1), fun b ob e => (cst_but.2 b (fun q => by rw [q, hmem.2.2] at e; cases e)).trans (F.keep b ob e), F.above⟩
theorem nCst {c : Addr} {o : Obj} {gf : Obj → List (Addr × Obj)} (N : News h₀ L hp news) (U : UpdF c o news gf) : News h₀ L (cst c v hp) (gf (cob v o)) := by
  obtain ⟨own, rest, rfl, hg, h1, h2⟩ := U.split
  have hmem := N (c, o) (List.mem_append_right _ (.head _))
  have ho : (cst c v hp).get? c = some (cob v o) := by unfold cst cob; exact Heap.get?_update_self _ hmem.1 rfl
  exact hg _ ▸ N.setAt h1 h2 cst_but ho
theorem dCob {o : Obj} : (cob v o).data = .cell (some v) := by unfold cob; rfl
theorem storeX_CT {Q : Unit → Shared → Prop} {c : Addr} {o : Obj} {v₀ : Option Value} {gf : Obj → List (Addr × Obj)} (hk : cs.kind = .function) (hx : (envX cn cs L a ccd cl).kindOf x = some .cell) (hc : cl.lookup x = some c)
    (F : Fr h₀ L hp m) (N : News h₀ L hp news) (U : UpdF c o news gf) (hd : o.data = .cell v₀) (h : Hold (fCst (v := v) F U N) (nCst (v := v) N U) (dCob (v := v) (o := o)) (Q () ⟨cst c v hp, g, d, t, os⟩)) :
    wpAny (model prog w) A (storeName (envX cn cs L a ccd cl) x v) Q E ⟨hp, g, d, t, os⟩ := storeX_CD hk hx hc F N U hd fun _ _ _ => h
theorem fNls {vs : List Value} (F : Fr h₀ L hp m) : Fr h₀ L (nls vs hp) m := by unfold nls; exact F.push _
theorem nNls {vs : List Value} (F : Fr h₀ L hp m) (N : News h₀ L hp news) : News h₀ L (nls vs hp) ((nad hp, listOf vs.toArray 0) :: news) := by unfold nls nad; exact N.push F _
theorem lNls (N : News h₀ L hp news) : ∀ p ∈ news, p.1 < nad hp := by unfold nad; exact fun p hp => Heap.lt_size (N p hp).1
theorem newList_T {vs : List Value} {Q : Value → Shared → Prop} (F : Fr h₀ L hp m) (N : News h₀ L hp news) (h : Hold (fNls (vs := vs) F) (nNls (vs := vs) F N) (lNls N) (Q (.ref (nad hp)) ⟨nls vs hp, g, d, t, os⟩))
    (hsz : vs.length ≤ sizeLine := by size_fits) : wpAny (model prog w) A (newList vs) Q E ⟨hp, g, d, t, os⟩ := newList_D F N (fun _ _ _ => h) hsz
@[irreducible] noncomputable def ntp (vs : List Value) (hp : Heap) : Heap := hp.push { cls := .type "tuple", data := .seq vs.toArray }
theorem fNtp {vs : List Value} (F : Fr h₀ L hp m) : Fr h₀ L (ntp vs hp) m := by unfold ntp; exact F.push _
theorem nNtp {vs : List Value} (F : Fr h₀ L hp m) (N : News h₀ L hp news) : News h₀ L (ntp vs hp) ((nad hp, { cls := .type "tuple", data := .seq vs.toArray }) :: news) := by unfold ntp nad; exact N.push F _
theorem newTuple_T {vs : List Value} {Q : Value → Shared → Prop} (F : Fr h₀ L hp m) (N : News h₀ L hp news) (h : Hold (fNtp (vs := vs) F) (nNtp (vs := vs) F N) (lNls N) (Q (.ref (nad hp)) ⟨ntp vs hp, g, d, t, os⟩))
    (hsz : vs.length ≤ sizeLine := by size_fits) : wpAny (model prog w) A (newTuple vs) Q E ⟨hp, g, d, t, os⟩ := by
  have h' : Q (.ref (nad hp)) ⟨ntp vs hp, g, d, t, os⟩ := h
  unfold ntp nad at h'
  exact wpAny_newObj_type h' (by show vs.toArray.size ≤ sizeLine; rw [List.size_toArray]; exact hsz)
theorem nApd {D : Addr} {its : Array Value} {n : Nat} {y : Value} {news' : List (Addr × Obj)} (N : News h₀ L hp news) (U : Upd D (listOf its n) (listOf (its.push y) (n + 1)) news news') : News h₀ L (apd D y hp) news' := by
  obtain ⟨pre, post, rfl, rfl, a, b⟩ := U.split
  have z := N (D, listOf its n) (List.mem_append.mpr (.inr (.head _)))
  have z1 : hp.get? D = some (listOf its n) := z.1
  refine news_set N a b (by unfold apd; exact Heap.SameBut.update ..) ?_
  unfold apd
  rw [Heap.get?_update_self _ z1 (by unfold W.listOf; rw [mapSeq_push]; rfl)]
  unfold W.listOf; rw [mapSeq_push]
theorem fApd {D : Addr} {its : Array Value} {n : Nat} {y : Value} {news' : List (Addr × Obj)} (F : Fr h₀ L hp m) (N : News h₀ L hp news) (U : Upd D (listOf its n) (listOf (its.push y) (n + 1)) news news') : Fr h₀ L (apd D y hp) m := by
  obtain ⟨pre, post, rfl, rfl, a, b⟩ := U.split
  have z := N (D, listOf its n) (List.mem_append.mpr (.inr (.head _)))
  exact F.change (by unfold apd; exact Heap.SameBut.update ..) z.2.1 z.2.2
theorem append_T {D : Addr} {its : Array Value} {n : Nat} {y : Value} {news' : List (Addr × Obj)} {Q : Value → Shared → Prop} (F : Fr h₀ L hp m) (N : News h₀ L hp news) (U : Upd D (listOf its n) (listOf (its.push y) (n + 1)) news news')
    (h : Hold (fApd F N U) (nApd N U) True.intro (Q .none ⟨apd D y hp, g, d, t, os⟩)) (hsz : its.size ≤ sizeLine := by size_fits) : wpAny (model prog w) A (call (.builtin "list.append") [.ref D, y]) Q E ⟨hp, g, d, t, os⟩ := append_D F N U (fun _ _ => h) hsz
@[irreducible] noncomputable def psh (o : Obj) (hp : Heap) : Heap := hp.push o
theorem allocD {chg : List (Addr × Obj)} {o : Obj} {Q : Addr → Shared → Prop} (D : X.Mem h₀ hp chg news) (hf : o.isFreed = false) (k : X.Mem h₀ (psh o hp) chg ((nad hp, o) :: news) → Q (nad hp) ⟨psh o hp, g, d, t, os⟩) :
    wpAny (model prog w) A (alloc o) Q E ⟨hp, g, d, t, os⟩ := by
  unfold psh nad at k
  exact wpAny_alloc (k (D.alloc hf))
end
end
section
open PySem.W.X PySem.Calls
local macro_rules | `(tactic| walk_at "storeName") => `(tactic| (k_here; k_dflt (first
  | ((with_reducible rename Fr _ _ _ _ => kF); (with_reducible rename News _ _ _ _ => kN); refine' storeX_T ?a ?b kF kN ?_; (case a => exact rfl); (case b => exact Eq.refl (some NameKind.local)); k_whole; generalize fSto kF = F'; generalize nSto kN = N'; refine unhold ?_; generalize sto _ _ _ _ _ _ = h' at F' N' ⊢; (try k_sweep))
  | (refine' storeX_CD ?a ?b ?c ?F ?N ?U ?d ?_; (case a => exact rfl); (case b => exact Eq.refl (some NameKind.cell)); (case F => k_asm); (case N => k_asm); (case c => rfl); (case U => k_updF); (case d => k_asm); k_whole; generalize cst _ _ _ = h'; generalize cob _ _ = o'; intro F' N' d'; (try dsimp only at N'); (try k_sweep)))))
local macro_rules | `(tactic| walk_at "newList") => `(tactic| (k_here; k_dflt ((with_reducible rename Fr _ _ _ _ => kF); (with_reducible rename News _ _ _ _ => kN); refine' newList_T kF kN ?_; k_whole); generalize fNls kF = F'; generalize nNls kF kN = N'; generalize lNls kN = l1; refine unhold ?_; generalize nad _ = l', nls _ _ = h' at F' N' l1 ⊢; (try k_lt l1); (try k_sweep)))
local macro_rules | `(tactic| walk_at "call builtin:list.append") => `(tactic| (k_here; (with_reducible show wpAny _ _ (call (Value.builtin _) [Value.ref _, _]) _ _ _); k_dflt (refine' append_D ?k1 ?k2 ?k3 ?_ ?z; (case k1 => k_asm); (case k2 => k_asm); (case k3 => k_upd); (case z => size_fits); k_whole); generalize apd _ _ _ = h'; intro F' N'; (try k_sweep)))
local macro_rules | `(tactic| walk_at "newTuple") => `(tactic| (k_here; kup_bare; k_dflt (first | ((with_reducible rename Fr _ _ _ _ => kF); (with_reducible rename News _ _ _ _ => kN); refine' newTuple_T kF kN ?_ ?z; (case z => kmk_size); k_whole) | fail); generalize fNtp kF = F'; generalize nNtp kF kN = N'; generalize lNls kN = l1; refine unhold ?_; generalize nad _ = l', ntp _ _ = h' at F' N' l1 ⊢; (try k_lt l1); (try k_sweep)))
local macro_rules | `(tactic| walk_at "eval Name") => `(tactic| (k_here; k_dflt (first | (refine' nameX_L ?F ?v ?_ ?a ?b; (case F => k_asm); (case a => exact rfl); (case b => exact Eq.refl (some NameKind.local)); (case v => exact Eq.refl (some _)); k_whole) | fail)))
section
set_option maxHeartbeats 8000000
open PySem.Calls
theorem fill_wf1 : kk = kk ∧ PySem.Challenge.rw_kq0052_01 = PySem.Challenge.rw_kq0052_01 := by
  k_fill
  exact ⟨rfl, rfl⟩
theorem octets_spec (w : World) (x : Int) (tx : Tok) (h0 : 0 ≤ x) (h1 : x < 1114112) : Spec w 201 [.int x tx] 2 20 (fun h => True) (fun h v h' => NewList h v h' (fun vs => IntsAre vs (octs x))) := by
  revert w x tx
  (refine pk3 (i1 := nW) ?_; generalize p3_1 _ = w; generalize p3_2 _ = x; generalize p3_3 _ = tx)
  intro h0 h1
  (refine pk6 ?_; generalize p6_1 _ = mean; generalize p6_2 _ = mg; generalize p6_3 _ = mb; generalize p6_4 _ = dp; generalize p6_5 _ = un; generalize p6_6 _ = fr); (refine pk4 (i2 := nS) ?_; generalize p4_1 _ = gd; generalize p4_2 _ = s; generalize p4_3 _ = Q; generalize p4_4 _ = E)
  intro X T hd hu hP hret
  k_dflt (refine' enter0 (binds := [(ofS "number", .int x tx)]) X T ?k6 ?k7 ?k8 ?kB ?k9 ?c5 ?c2 ?c3 ?c4 ?_; (case k6 => k_is); (case k7 => k_is); (case k8 => (show dp < _; lia)); (case kB => exact BindsTo.of_eq (by kernel_rfl)); (case c5 => decide +kernel); (case k9 => exact locs (by kernel_rfl)); (case c2 => kernel_rfl); (case c3 => kernel_rfl); (case c4 => kernel_rfl))
  (refine pk2 ?_; generalize p2_1 _ = L'; generalize p2_2 _ = h₁)
  intro F N
  replace F : Fr s.heap L' h₁ (fun y => List.lookup y [(ofS "number", .int x tx)]) := F
  k_steps
  all_goals (refine hret _ _ _ (Fr.keep (by assumption)) (end_list (by assumption) ?_))
  all_goals (unfold octs; simp only [*, if_true, if_false]; repeat constructor)
theorem isu_spec (w : World) (x : Int) (tx : Tok) : Spec w 59 [.int x tx] 2 20 (fun h => True) (fun h v h' => v = .bool (decide ((0 ≤ x ∧ x ≤ 55295) ∨ (57344 ≤ x ∧ x ≤ 1114111)))) := by
  revert w x tx
  (refine pk3 (i1 := nW) ?_; generalize p3_1 _ = w; generalize p3_2 _ = x; generalize p3_3 _ = tx)
  (refine pk6 ?_; generalize p6_1 _ = mean; generalize p6_2 _ = mg; generalize p6_3 _ = mb; generalize p6_4 _ = dp; generalize p6_5 _ = un; generalize p6_6 _ = fr); (refine pk4 (i2 := nS) ?_; generalize p4_1 _ = gd; generalize p4_2 _ = s; generalize p4_3 _ = Q; generalize p4_4 _ = E)
  intro X T hd hu hP hret
  k_dflt (refine' enter0 (binds := [(ofS "codepoint", .int x tx)]) X T ?k6 ?k7 ?k8 ?kB ?k9 ?c5 ?c2 ?c3 ?c4 ?_; (case k6 => k_is); (case k7 => k_is); (case k8 => (show dp < _; lia)); (case kB => exact BindsTo.of_eq (by kernel_rfl)); (case c5 => decide +kernel); (case k9 => exact locs (by kernel_rfl)); (case c2 => kernel_rfl); (case c3 => kernel_rfl); (case c4 => kernel_rfl))
  (refine pk2 ?_; generalize p2_1 _ = L'; generalize p2_2 _ = h₁)
  intro F N
  replace F : Fr s.heap L' h₁ (fun y => List.lookup y [(ofS "codepoint", .int x tx)]) := F
  k_steps
  all_goals (try dsimp only)
  all_goals (refine hret _ _ _ (Fr.keep (by assumption)) ?_; congr 1; simp only [decide_eq_decide]; first
    | exact ⟨fun h => .inl ⟨‹_›, h⟩, fun _ => ‹_›⟩
    | exact ⟨fun h => .inr ⟨‹_›, h⟩, fun h => h.elim (fun h => absurd h.2 ‹_›) (·.2)⟩
    | exact ⟨fun h => absurd (Int.le_trans (by decide) h) ‹¬ 0 ≤ x›, fun h => h.elim (fun h => absurd h.1 ‹_›) (·.1)⟩
    | exact ⟨fun h => absurd h ‹_›, fun h => h.elim (fun h => absurd h.2 ‹_›) (·.1)⟩
    | lia)
noncomputable def b64v (x : Int) : Int := if 65 ≤ x ∧ x ≤ 90 then x - 65 else if 97 ≤ x ∧ x ≤ 122 then x - 71 else if 48 ≤ x ∧ x ≤ 57 then x + 4 else if x = 43 then 62 else if x = 47 then 63 else 64
theorem bv1 {x : Int} (a : 65 ≤ x) (b : x ≤ 90) : x - 65 = b64v x := (if_pos ⟨a, b⟩).symm
theorem bv2 {x : Int} (a : 97 ≤ x) (b : x ≤ 122) : x - 71 = b64v x := ((if_neg fun h => absurd (Int.le_trans a h.2) (by decide)).trans (if_pos ⟨a, b⟩)).symm
theorem bv3 {x : Int} (a : 48 ≤ x) (b : x ≤ 57) : x + 4 = b64v x := ((if_neg fun h => absurd (Int.le_trans h.1 b) (by decide)).trans ((if_neg fun h => absurd (Int.le_trans h.1 b) (by decide)).trans (if_pos ⟨a, b⟩))).symm
theorem bv6 {x : Int} (a : ¬ (65 ≤ x ∧ x ≤ 90)) (b : ¬ (97 ≤ x ∧ x ≤ 122)) (c : ¬ (48 ≤ x ∧ x ≤ 57)) (d : x ≠ 43) (e : x ≠ 47) : 64 = b64v x := ((if_neg a).trans ((if_neg b).trans ((if_neg c).trans ((if_neg d).trans (if_neg e))))).symm
theorem b64v_spec (w : World) (x : Int) (tx : Tok) (h0 : 0 ≤ x) (h1 : x < 256) : Spec w 108 [.int x tx] 2 20 (fun h => True) (fun h v h' => ∃ t, v = .int (b64v x) t) := by
  revert w x tx
  (refine pk3 (i1 := nW) ?_; generalize p3_1 _ = w; generalize p3_2 _ = x; generalize p3_3 _ = tx)
  intro h0 h1
  (refine pk6 ?_; generalize p6_1 _ = mean; generalize p6_2 _ = mg; generalize p6_3 _ = mb; generalize p6_4 _ = dp; generalize p6_5 _ = un; generalize p6_6 _ = fr); (refine pk4 (i2 := nS) ?_; generalize p4_1 _ = gd; generalize p4_2 _ = s; generalize p4_3 _ = Q; generalize p4_4 _ = E)
  intro X T hd hu hP hret
  k_dflt (refine' enter0 (binds := [(ofS "c", .int x tx)]) X T ?k6 ?k7 ?k8 ?kB ?k9 ?c5 ?c2 ?c3 ?c4 ?_; (case k6 => k_is); (case k7 => k_is); (case k8 => (show dp < _; lia)); (case kB => exact BindsTo.of_eq (by kernel_rfl)); (case c5 => decide +kernel); (case k9 => exact locs (by kernel_rfl)); (case c2 => kernel_rfl); (case c3 => kernel_rfl); (case c4 => kernel_rfl))
  (refine pk2 ?_; generalize p2_1 _ = L'; generalize p2_2 _ = h₁)
  intro F N
  replace F : Fr s.heap L' h₁ (fun y => List.lookup y [(ofS "c", .int x tx)]) := F
  k_steps
  all_goals (try dsimp only)
  all_goals (refine hret _ _ _ (Fr.keep (by assumption)) ⟨_, congrArg (Value.int · _) ?_⟩; first
    | exact bv1 ‹_› ‹_›
    | exact bv2 ‹_› ‹_›
    | exact bv3 ‹_› ‹_›
    | (refine bv6 ?_ ?_ ?_ ‹_› ‹_› <;> first | exact fun h => absurd h.1 ‹_› | exact fun h => absurd h.2 ‹_›)
    | (subst_vars; decide)
    | (unfold b64v; (repeat' split) <;> lia))
end
section
open PySem.Calls

def Stop (P : Prop) : Prop := P
theorem stop_here {P : Prop} (h : Stop P) : P := h
theorem st0 {M A Q E s y1 y2 y3 y4 y5} (h : Stop (wpAny M A (eval (Expr.ListComp y1 y2 y3 y4) y5) Q E s)) : wpAny M A (eval (Expr.ListComp y1 y2 y3 y4) y5) Q E s := h
theorem st1 {M A Q E s y1} (h : Stop (wpAny M A (pyIter y1) Q E s)) : wpAny M A (pyIter y1) Q E s := h
theorem st2 {M A Q E s y1 y2 y3} (h : Stop (wpAny M A (call (Value.ref y1) y2 y3) Q E s)) : wpAny M A (call (Value.ref y1) y2 y3) Q E s := h
theorem st3 {M A Q E s y1 y2 y3} (h : Stop (wpAny M A (call y1 y2 y3) Q E s)) : wpAny M A (call y1 y2 y3) Q E s := h
theorem st4 {M A Q E s y1 y2} (h : Stop (wpAny M A (call (Value.ref 59) y1 y2) Q E s)) : wpAny M A (call (Value.ref 59) y1 y2) Q E s := h
theorem st5 {M A Q E s y1 y2} (h : Stop (wpAny M A (call (Value.ref 35) y1 y2) Q E s)) : wpAny M A (call (Value.ref 35) y1 y2) Q E s := h
theorem st6 {M A Q E s y1 y2} (h : Stop (wpAny M A (call (Value.ref 52) y1 y2) Q E s)) : wpAny M A (call (Value.ref 52) y1 y2) Q E s := h
theorem st7 {M A Q E s y1 y2 y3 y4 y5 y6} (h : Stop (wpAny M A (exec (Stmt.For y1 y2 y3 y4 y5) y6) Q E s)) : wpAny M A (exec (Stmt.For y1 y2 y3 y4 y5) y6) Q E s := h
theorem st8 {M A Q E s y1 y2 y3 y4 y5 y6 y7} (h : Stop (wpAny M A (execs (Stmt.For y1 y2 y3 y4 y5 :: y6) y7) Q E s)) : wpAny M A (execs (Stmt.For y1 y2 y3 y4 y5 :: y6) y7) Q E s := h
theorem st9 {M A Q E s y1 y2 y3 y4 y5 y6} (h : Stop (wpAny M A (execs (Stmt.If y1 y2 y3 y4 :: y5) y6) Q E s)) : wpAny M A (execs (Stmt.If y1 y2 y3 y4 :: y5) y6) Q E s := h
theorem st10 {M A Q E s y1 y2} (h : Stop (wpAny M A (pyIter (Value.bytes y1 y2)) Q E s)) : wpAny M A (pyIter (Value.bytes y1 y2)) Q E s := h
theorem st11 {M A Q E s y1 y2 y3 y4 y5 y6} (h : Stop (wpAny M A (subscriptTail y1 y2 (Value.bytes y3 y4) (Value.int y5 y6)) Q E s)) : wpAny M A (subscriptTail y1 y2 (Value.bytes y3 y4) (Value.int y5 y6)) Q E s := h
theorem st12 {M A Q E s y1 y2 y3} (h : Stop (wpAny M A (call (Value.type y1) [Value.ref y2] y3) Q E s)) : wpAny M A (call (Value.type y1) [Value.ref y2] y3) Q E s := h
theorem st13 {M A Q E s y1 y2} (h : Stop (wpAny M A (call (Value.type "list") y1 y2) Q E s)) : wpAny M A (call (Value.type "list") y1 y2) Q E s := h
theorem st14 {M A Q E s y1 y2} (h : Stop (wpAny M A (call (Value.type "str") y1 y2) Q E s)) : wpAny M A (call (Value.type "str") y1 y2) Q E s := h
theorem st15 {M A Q E s y1 y2 y3 y4 y5} (h : Stop (wpAny M A (execs (Stmt.Assign y1 y2 y3 :: y4) y5) Q E s)) : wpAny M A (execs (Stmt.Assign y1 y2 y3 :: y4) y5) Q E s := h
theorem st16 {M A Q E s y1 y2} (h : Stop (wpAny M A (call (Value.type "range") y1 y2) Q E s)) : wpAny M A (call (Value.type "range") y1 y2) Q E s := h
theorem st17 {M A Q E s y1 y2} (h : Stop (wpAny M A (call (Value.type "super") y1 y2) Q E s)) : wpAny M A (call (Value.type "super") y1 y2) Q E s := h
theorem st18 {M A Q E s y1 y2} (h : Stop (wpAny M A (getAttr y1 y2) Q E s)) : wpAny M A (getAttr y1 y2) Q E s := h
theorem st19 {M A Q E s y1 y2} {y3 : List Value} (h : Stop (wpAny M A (List.anyM y1 (List.filter y2 y3)) Q E s)) : wpAny M A (List.anyM y1 (List.filter y2 y3)) Q E s := h
theorem st20 {M A Q E s y1 y2 y3} (h : Stop (wpAny M A (Builtin.Slots.read y1 y2 y3) Q E s)) : wpAny M A (Builtin.Slots.read y1 y2 y3) Q E s := h
theorem st21 {M A Q E s y1 y2 y3} (h : Stop (wpAny M A (eval (Expr.Name y1 y2) y3) Q E s)) : wpAny M A (eval (Expr.Name y1 y2) y3) Q E s := h
theorem st22 {M A Q E s y1 y2} (h : Stop (wpAny M A (getAttr? y1 y2) Q E s)) : wpAny M A (getAttr? y1 y2) Q E s := h
theorem st23 {M A Q E s } (h : Stop (wpAny M A enterFrame Q E s)) : wpAny M A enterFrame Q E s := h
theorem st24 {M A Q E s y1} (h : Stop (wpAny M A (call (Value.type "type") y1) Q E s)) : wpAny M A (call (Value.type "type") y1) Q E s := h
theorem st25 {M A Q E s y1 y2 y3 y4 y5 y6 y7 y8 y9 y10 y11} (h : Stop (wpAny M A (exec (Stmt.FunctionDef y1 y2 y3 y4 y5 y6 y7 y8 y9 y10) y11) Q E s)) : wpAny M A (exec (Stmt.FunctionDef y1 y2 y3 y4 y5 y6 y7 y8 y9 y10) y11) Q E s := h
theorem st26 {M A Q E s y1 y2} (h : Stop (wpAny M A (call (Value.ref y1) y2) Q E s)) : wpAny M A (call (Value.ref y1) y2) Q E s := h
theorem st27 {M A Q E s y1 y2 y3} (h : Stop (wpAny M A (getAttr y1 y2 y3) Q E s)) : wpAny M A (getAttr y1 y2 y3) Q E s := h
theorem st28 {M A Q E s y1 y2 y3 y4} (h : Stop (wpAny M A (callMarked y1 y2 y3 y4) Q E s)) : wpAny M A (callMarked y1 y2 y3 y4) Q E s := h
theorem st29 {M A Q E s y1 y2 y3 y4 y5} (h : Stop (wpAny M A (subscriptTail y1 y2 (Value.ref y3) (Value.int y4 y5)) Q E s)) : wpAny M A (subscriptTail y1 y2 (Value.ref y3) (Value.int y4 y5)) Q E s := h
theorem st30 {M A Q E s y1 y2 y3} (h : Stop (wpAny M A (compareOp y1 y2 y3) Q E s)) : wpAny M A (compareOp y1 y2 y3) Q E s := h
theorem st31 {M A Q E s y1 y2} (h : Stop (wpAny M A (call (Value.builtin "sorted") y1 y2) Q E s)) : wpAny M A (call (Value.builtin "sorted") y1 y2) Q E s := h
theorem st32 {M A Q E s y1 y2 y3 y4} (h : Stop (wpAny M A (execs (Stmt.Return y1 y2 :: y3) y4) Q E s)) : wpAny M A (execs (Stmt.Return y1 y2 :: y3) y4) Q E s := h
theorem st33 {M A Q E s y1 y2} (h : Stop (wpAny M A (call (Value.type "zip") y1 y2) Q E s)) : wpAny M A (call (Value.type "zip") y1 y2) Q E s := h
theorem st36 {M A Q E s y1 y2 y3} (h : Stop (wpAny M A (getMethod (Value.ref y1) y2 y3) Q E s)) : wpAny M A (getMethod (Value.ref y1) y2 y3) Q E s := h
theorem st34 {M A Q E s y1 y2 y3 y4} (h : Stop (wpAny M A (subscriptTail y1 y2 y3 y4) Q E s)) : wpAny M A (subscriptTail y1 y2 y3 y4) Q E s := h

abbrev Made := List (Addr × Obj)
def Has (h : Heap) (os : Made) : Prop := ∀ p ∈ os, h.get? p.1 = some p.2
def Fresh (h : Heap) (os : Made) : Prop := ∀ p ∈ os, h.get? p.1 = none
abbrev Zs := List (Value × Value × Made)
def ZsOk (Good : Value → Value → Made → Prop) (h₀ h : Heap) (zs : Zs) : Prop := ∀ z ∈ zs, Good z.1 z.2.1 z.2.2 ∧ Has h z.2.2 ∧ Fresh h₀ z.2.2

section
variable {w : World} {A : Around} {E : Value → Shared → Prop} {env : Env}

theorem comp_loop {R : Result → Shared → Prop} {s : Shared} {elt iter : Expr} {x : Str} {px : Pos} {ifs : List Expr} {scope : Scope} {pos : Pos} {I D : Addr} {fp wr : List Addr} {n : Nat} {P : Nat → Value → Prop} {St : Nat → Heap → Prop}
    {cenv : Env} {m : Str → Option Value} (W : Walks pw w A I fp wr n P St) (p : Value → Bool) (Good : Value → Value → Made → Prop) (h₀ : Heap) (hh₀ : ∀ b o, h₀.get? b = some o → s.heap.get? b = some o) (hC0 : h₀.get? cenv.locals = none) (hD0 : h₀.get? D = none) (hwr : ∀ i h, St i h → ∀ b ∈ wr, (h.get? b).isSome = true)
    (hx : cenv.kindOf x = some .local) (hp : (cenv.scope.kind == .class || (cenv.scope.kind == .module && cenv.locals != cenv.globals)) = false)
    (hDC : D ≠ cenv.locals) (hDf : D ∉ fp) (hCf : cenv.locals ∉ fp)
    (hst : St 0 s.heap) (hacc : s.heap.PlainList D #[]) (hn : s.heap.Ns cenv.locals m)
    (htests : ∀ i v s₂ m₂, P i v → s₂.heap.Ns cenv.locals m₂ → m₂ x = some v → (∀ b o, b ≠ cenv.locals → b ∉ wr → b ≠ D → s.heap.get? b = some o → s₂.heap.get? b = some o) →
      wpAny (model pw w) A (forIn ifs true fun c r => if r = true then do let ok ← isTrue c cenv (eval c cenv); pure (ForInStep.yield ok) else pure (ForInStep.yield r))
        (fun ok s₃ => ok = p v ∧ Keeps s₂ s₃) (notedBy (model pw w) A cenv fun e s' => R (.error e) s') s₂)
    (helt : ∀ i v s₂ m₂, P i v → p v = true → s₂.heap.Ns cenv.locals m₂ → m₂ x = some v → (∀ b o, b ≠ cenv.locals → b ∉ wr → b ≠ D → s.heap.get? b = some o → s₂.heap.get? b = some o) →
      wpAny (model pw w) A (eval elt cenv) (fun y s₃ => (∃ os, Good v y os ∧ Has s₃.heap os ∧ Fresh s₂.heap os) ∧ Keeps s₂ s₃) (notedBy (model pw w) A cenv fun e s' => R (.error e) s') s₂)
    (hR : ∀ h' tk m' (vs : List Value) (zs : Zs), h'.Ns cenv.locals m' → h'.PlainList D (zs.map (·.2.1)).toArray → vs.length = n → (∀ j v, vs[j]? = some v → P j v) → zs.map (·.1) = vs.filter p → ZsOk Good h₀ h' zs →
      (∀ z ∈ zs, ∀ q ∈ z.2.2, q.1 ≠ cenv.locals ∧ q.1 ≠ D) → (∀ b o, b ≠ cenv.locals → b ∉ wr → b ≠ D → s.heap.get? b = some o → h'.get? b = some o) → R (.ok .next) { s with heap := h', toks := tk })
    (hsz : n ≤ sizeLine) :
    codeAny (model pw w) A (.compLoop (.ListComp elt [⟨.Name x px, iter, ifs, 0⟩] scope pos) 0 (.ref I) (.ref D) cenv) R s := by
  revert w A R s elt iter x px ifs scope pos I D fp wr n P St cenv m W p Good h₀ hh₀ hC0 hD0 hwr hx hp hDC hDf hCf hst hacc hn htests helt hR hsz
  (refine no_implicit_lambda% (pk6 (i1 := nW) (i2 := nA) (i4 := nS) ?_); generalize p6_1 _ = w; generalize p6_2 _ = A; generalize p6_3 _ = R; generalize p6_4 _ = s; generalize p6_5 _ = elt; generalize p6_6 _ = iter); (refine no_implicit_lambda% (pk6 ?_); generalize p6_1 _ = x; generalize p6_2 _ = px; generalize p6_3 _ = ifs; generalize p6_4 _ = scope; generalize p6_5 _ = pos; generalize p6_6 _ = I); (refine no_implicit_lambda% (pk6 ?_); generalize p6_1 _ = D; generalize p6_2 _ = fp; generalize p6_3 _ = wr; generalize p6_4 _ = n; generalize p6_5 _ = P; generalize p6_6 _ = St); (refine no_implicit_lambda% (pk2 ?_); generalize p2_1 _ = cenv; generalize p2_2 _ = m)
  intro W
  (refine no_implicit_lambda% (pk3 ?_); generalize p3_1 _ = p; generalize p3_2 _ = Good; generalize p3_3 _ = h₀)
  intro hh₀ hC0 hD0 hwr hx hp hDC hDf hCf hst hacc hn htests helt hR hsz
  obtain ⟨Iv, hIv⟩ : ∃ Iv : Nat → Shared → Prop, ∀ k s', Iv k s' ↔ ∃ h' tk m', ∃ vs : List Value, ∃ zs : Zs, s' = { s with heap := h', toks := tk } ∧ St vs.length h' ∧ h'.PlainList D (zs.map (·.2.1)).toArray ∧ h'.Ns cenv.locals m' ∧ (∀ j v, vs[j]? = some v → P j v) ∧
      zs.map (·.1) = vs.filter p ∧ vs.length ≤ n ∧ k = n + 1 - vs.length ∧ ZsOk Good h₀ h' zs ∧ (∀ z ∈ zs, ∀ q ∈ z.2.2, q.1 ≠ cenv.locals ∧ q.1 ≠ D ∧ q.1 ∉ wr) ∧
      (∀ b o, b ≠ cenv.locals → b ∉ wr → b ≠ D → s.heap.get? b = some o → h'.get? b = some o) := ⟨_, fun _ _ => Iff.rfl⟩
  refine codeAny_compLoop_tests Iv ?_ (n + 1) ((hIv _ _).mpr ⟨s.heap, s.toks, m, [], [], rfl, hst, hacc, hn, by simp, by simp, Nat.zero_le _, rfl, fun _ hz => (nomatch hz), fun _ hz => (nomatch hz), fun _ _ _ _ _ e => e⟩)
  intro k s' hI
  obtain ⟨H, tk, m', vs, zs, rfl, hst', hacc', hn', hP, hz, hi, rfl, hok, hoff, hk⟩ := (hIv k s').mp hI
  have hCw : cenv.locals ∉ wr := fun h => hCf (W.sub _ h)
  have hDw : D ∉ wr := fun h => hDf (W.sub _ h)
  by_cases hlt : vs.length < n
  · refine W.item vs.length _ _ _ hlt hst' fun v h₁ tk₁ hPv hst₁ hk₁ => ?_
    refine wpAny_assign_Name (wpAny_storeName_local hx (hn'.at' fun o e => hk₁ _ o hCw e) (fun h₂ hn₂ hs₂ => ?_) hp)
    have up₂ : ∀ b o, b ≠ cenv.locals → b ∉ wr → H.get? b = some o → h₂.get? b = some o := fun b o hbC hbf e => hs₂.extBut b o hbC (hk₁ b o hbf e)
    have hst₂ : St (vs.length + 1) h₂ := W.frame _ _ _ hst₁ fun b hb o e => hs₂.extBut b o (fun h => hCf (h ▸ hb)) e
    refine wpAny_mono (htests vs.length v _ _ hPv hn₂ (by simp) (fun b o hbC hbf hbD e => up₂ b o hbC hbf (hk b o hbC hbf hbD e))) (fun ok s₃ h₃ => ?_) fun _ _ e => e
    obtain ⟨rfl, h₃, tk₃, rfl, hk₃⟩ := h₃
    have hst₃ : St (vs.length + 1) h₃ := W.frame _ _ _ hst₂ fun b _ o e => hk₃ b o e
    have hacc₃ : h₃.PlainList D (zs.map (·.2.1)).toArray := hacc'.at fun o e => hk₃ _ o (up₂ D o hDC hDw e)
    have hn₃ := hn₂.keeps hk₃
    have hP' : ∀ j u, (vs ++ [v])[j]? = some u → P j u := fun j u hj => by
      rcases Nat.lt_trichotomy j vs.length with h | h | h
      · exact hP j u (by rwa [List.getElem?_append_left h] at hj)
      · subst h; simp at hj; subst hj; exact hPv
      · have hnone : (vs ++ [v])[j]? = none := List.getElem?_eq_none (by rw [List.length_append, List.length_singleton]; lia)
        rw [hnone] at hj; cases hj
    have hok₃ : ZsOk Good h₀ h₃ zs := fun z hzm => ⟨(hok z hzm).1, fun q hq => hk₃ _ _ (up₂ _ _ (hoff z hzm q hq).1 (hoff z hzm q hq).2.2 ((hok z hzm).2.1 q hq)), (hok z hzm).2.2⟩
    cases hpv : p v with
    | false =>
      simp only [Bool.false_eq_true, if_false]
      exact ⟨n + 1 - (vs.length + 1), by lia, (hIv _ _).mpr ⟨h₃, tk₃, _, vs ++ [v], zs, rfl, by simpa using hst₃, hacc₃, hn₃, hP', by rw [hz, List.filter_append]; simp [hpv], (by rw [List.length_append, List.length_singleton]; exact hlt), (by rw [List.length_append, List.length_singleton]), hok₃, hoff, fun b o hbC hbf hbD e => hk₃ b o (up₂ b o hbC hbf (hk b o hbC hbf hbD e))⟩⟩
    | true =>
      simp only [if_true]
      refine wpAny_mono (helt vs.length v _ _ hPv hpv hn₃ (by simp) (fun b o hbC hbf hbD e => hk₃ b o (up₂ b o hbC hbf (hk b o hbC hbf hbD e)))) (fun y s₄ h₄ => ?_) fun _ _ e => e
      obtain ⟨⟨os, hg, hos, hfr⟩, h₄, tk₄, rfl, hk₄⟩ := h₄
      have hys : ((zs.map (·.2.1)).toArray : Array Value).size ≤ sizeLine := by
        have e1 : (zs.map (·.1)).length = (vs.filter p).length := by rw [hz]
        have e2 : (vs.filter p).length ≤ vs.length := List.length_filter_le _ _
        simp only [List.length_map] at e1
        simp only [List.size_toArray, List.length_map]
        lia
      refine wpAny_list_append_plain (hsz := hys) (hacc₃.at fun o e => hk₄ _ o e) fun h₅ hl₅ hs₅ => ?_
      have off : ∀ q ∈ os, q.1 ≠ cenv.locals ∧ q.1 ≠ D ∧ q.1 ∉ wr := fun q hq => by
        have hn0 := hfr q hq
        refine ⟨fun e => ?_, fun e => ?_, fun hm => ?_⟩
        · obtain ⟨o, _, _, e2, _⟩ := hn₃; rw [← e] at e2; rw [e2] at hn0; cases hn0
        · obtain ⟨_, e2⟩ := hacc₃; rw [← e] at e2; rw [e2] at hn0; cases hn0
        · have := hwr _ _ hst₃ _ hm; rw [hn0] at this; cases this
      refine ⟨n + 1 - (vs.length + 1), by lia, (hIv _ _).mpr ⟨h₅, tk₄, _, vs ++ [v], zs ++ [(v, y, os)], rfl, ?_, by simpa using hl₅, (hn₃.keeps hk₄).sameBut hs₅ (Ne.symm hDC), hP', by rw [List.map_append, hz, List.filter_append]; simp [hpv], (by rw [List.length_append, List.length_singleton]; exact hlt), (by rw [List.length_append, List.length_singleton]), ?_, ?_,
        fun b o hbC hbf hbD e => hs₅.extBut b o hbD (hk₄ b o (hk₃ b o (up₂ b o hbC hbf (hk b o hbC hbf hbD e))))⟩⟩
      · have := W.frame _ _ h₅ hst₃ fun b hb o e => hs₅.extBut b o (fun h => hDf (h ▸ hb)) (hk₄ b o e)
        simpa using this
      · intro z hzm
        rcases List.mem_append.mp hzm with hzm | hzm
        · exact ⟨(hok₃ z hzm).1, fun q hq => hs₅.extBut _ _ (hoff z hzm q hq).2.1 (hk₄ _ _ ((hok₃ z hzm).2.1 q hq)), (hok₃ z hzm).2.2⟩
        · rw [List.mem_singleton.mp hzm]
          refine ⟨hg, fun q hq => hs₅.extBut _ _ (off q hq).2.1 (hos q hq), fun q hq => ?_⟩
          cases e : h₀.get? q.1 with
          | none => rfl
          | some o =>
            exfalso
            have e1 := hh₀ _ _ e
            have hne : q.1 ≠ cenv.locals := (off q hq).1
            have e2 := hk₃ _ _ (up₂ _ _ hne (off q hq).2.2 (hk _ _ hne (off q hq).2.2 (off q hq).2.1 e1))
            rw [hfr q hq] at e2; cases e2
      · intro z hzm
        rcases List.mem_append.mp hzm with hzm | hzm
        · exact hoff z hzm
        · rw [List.mem_singleton.mp hzm]; exact off
  · have hin : vs.length = n := by lia
    refine W.done _ _ _ (hin ▸ hst') fun h₁ tk₁ hk₁ => ?_
    exact hR h₁ tk₁ m' vs zs (hn'.at' fun o e => hk₁ _ o hCw e) (hacc'.at fun o e => hk₁ _ o hDw e) hin hP hz (fun z hzm => ⟨(hok z hzm).1, fun q hq => hk₁ _ _ (hoff z hzm q hq).2.2 ((hok z hzm).2.1 q hq), (hok z hzm).2.2⟩)
      (fun z hzm q hq => ⟨(hoff z hzm q hq).1, (hoff z hzm q hq).2.1⟩) fun b o hbC hbf hbD e => hk₁ b o hbf (hk b o hbC hbf hbD e)

theorem comp_block {elt iter : Expr} {x : Str} {px : Pos} {ifs : List Expr} {scope : Scope} {cl : List (Str × Addr)} {pos : Pos} {s₁ s₂ : Shared} {I : Addr} {fp wr : List Addr} {n : Nat} {P : Nat → Value → Prop}
    {St : Nat → Heap → Prop} (W : Walks pw w A I fp wr n P St) (hsz : n ≤ sizeLine) (hwr : ∀ i h, St i h → ∀ b ∈ wr, (h.get? b).isSome = true) (p : Value → Bool) (Good : Value → Value → Made → Prop) {RR : Value → Addr → Result → Shared → Prop}
    (hcell : ∀ y ∈ scope.names, y.2 ≠ .cell) (hkind : scope.kind = .function) (hx : scope.names.lookup x = some .local) (hst : St 0 s₂.heap) (hfp : ∀ b ∈ fp, b < s₂.heap.objs.size)
    (h12 : ∀ b o, s₁.heap.get? b = some o → s₂.heap.get? b = some o) (hsz12 : s₁.heap.objs.size ≤ s₂.heap.objs.size) (hw1 : ∀ b ∈ wr, s₁.heap.get? b = none)
    (tests : ∀ C i v s₃ m₃ E', P i v → Fr s₁.heap C s₃.heap m₃ → m₃ x = some v →
      wpAny (model pw w) A (forIn ifs true fun c r => if r = true then do let ok ← isTrue c (compEnvC scope cl C env) (eval c (compEnvC scope cl C env)); pure (ForInStep.yield ok) else pure (ForInStep.yield r))
        (fun ok s₄ => ok = p v ∧ Keeps s₃ s₄) E' s₃)
    (helt : ∀ C i v s₃ m₃ E', P i v → p v = true → Fr s₁.heap C s₃.heap m₃ → m₃ x = some v →
      wpAny (model pw w) A (eval elt (compEnvC scope cl C env)) (fun y s₄ => (∃ os, Good v y os ∧ Has s₄.heap os ∧ Fresh s₃.heap os) ∧ Keeps s₃ s₄) E' s₃)
    (hRR : ∀ D C h' tk m' (vs : List Value) (zs : Zs), s₂.heap.get? D = none → s₂.heap.get? C = none → D ≠ C → h'.Ns C m' → h'.PlainList D (zs.map (·.2.1)).toArray → vs.length = n → (∀ j v, vs[j]? = some v → P j v) →
      zs.map (·.1) = vs.filter p → ZsOk Good s₁.heap h' zs → (∀ z ∈ zs, ∀ q ∈ z.2.2, q.1 ≠ C ∧ q.1 ≠ D) →
      (∀ b o, s₁.heap.get? b = some o → h'.get? b = some o) → RR (.ref D) C (.ok .next) { s₂ with heap := h', toks := tk }) :
    wpAny (model pw w) A (newList []) (fun acc s₃ => wpAny (model pw w) A (newFunctionEnv scope env.globals cl [] env.qual none .none (some env)) (fun cenv s₄ =>
      codeAny (model pw w) A (.compStart (.ListComp elt [⟨.Name x px, iter, ifs, 0⟩] scope pos) 0 (.ref I) acc { cenv with scope := relabel scope env }) (RR acc cenv.locals) s₄) E s₃) E s₂ := by
  refine wpAny_newObj_type (wpAny_newFunctionEnv hcell (by intro y hy; simp at hy) (fun h₁ hns₁ hsb₁ => ?_) hkind)
  dsimp only at hns₁ hsb₁ ⊢
  generalize hH2 : s₂.heap.push { cls := .type "list", dict := none, data := .seq ([] : List Value).toArray } = H2 at hns₁ hsb₁ ⊢
  have hC : H2.objs.size = s₂.heap.objs.size + 1 := by rw [← hH2, Heap.size_push]
  have hDC : s₂.heap.objs.size ≠ H2.objs.size := by rw [hC]; exact Nat.ne_of_lt (Nat.lt_succ_self _)
  have below : ∀ b, b < s₂.heap.objs.size → b ≠ H2.objs.size ∧ b ≠ s₂.heap.objs.size := fun b hb => ⟨by rw [hC]; exact Nat.ne_of_lt (Nat.lt_succ_of_lt hb), Nat.ne_of_lt hb⟩
  have hDf : s₂.heap.objs.size ∉ fp := fun hm => Nat.lt_irrefl _ (hfp _ hm)
  have hCf : H2.objs.size ∉ fp := fun hm => by have := hfp _ hm; rw [hC] at this; exact Nat.lt_irrefl _ (Nat.lt_of_succ_lt this)
  have old : ∀ b o, s₂.heap.get? b = some o → h₁.get? b = some o := fun b o e => hsb₁.extBut b o (below b (Heap.lt_size e)).1 (Heap.get?_push_of_some _ (hH2 ▸ Heap.get?_push_of_some _ e))
  have hacc : h₁.PlainList s₂.heap.objs.size #[] := ⟨_, hsb₁.extBut _ _ hDC (Heap.get?_push_of_some _ (hH2 ▸ Heap.get?_push_size _ rfl))⟩
  have hst₁ : St 0 h₁ := W.frame _ _ _ hst fun b _ o e => old b o e
  have fresh : ∀ (h : Heap) a, h.objs.size ≤ a → h.get? a = none := fun h a ha => by
    cases e : h.get? a with
    | none => rfl
    | some o' => exact absurd (Heap.lt_size e) (Nat.not_lt.mpr ha)
  have hCs : s₁.heap.objs.size ≤ H2.objs.size := by rw [hC]; lia
  have up : ∀ (h : Heap) b o, (∀ b o, b ≠ H2.objs.size → b ∉ wr → b ≠ s₂.heap.objs.size → h₁.get? b = some o → h.get? b = some o) → s₁.heap.get? b = some o → h.get? b = some o := fun h b o hk e => by
    have e2 := h12 _ _ e
    refine hk b o (below b (Heap.lt_size e2)).1 (fun hm => ?_) (below b (Heap.lt_size e2)).2 (old b o e2)
    rw [hw1 b hm] at e; cases e
  have loop : ∀ s₃ : Shared, s₃ = { s₂ with heap := h₁, toks := s₂.toks + ([] : List (Str × Value)).length } →
      codeAny (model pw w) A (.compLoop (.ListComp elt [⟨.Name x px, iter, ifs, 0⟩] scope pos) 0 (.ref I) (.ref s₂.heap.objs.size) (compEnvC scope cl H2.objs.size env))
        (RR (.ref s₂.heap.objs.size) H2.objs.size) s₃ := by
    rintro s₃ rfl
    refine comp_loop (cenv := compEnvC scope cl H2.objs.size env) W p Good s₁.heap (fun b o e => old b o (h12 b o e)) (fresh _ _ hCs) (fresh _ _ hsz12) hwr (lookup_relabel_local hx) (by simp [compEnvC, relabel, hkind]) hDC hDf hCf hst₁ hacc hns₁
      (fun i v s₃ m₃ hv hn hm hk => tests _ i v s₃ m₃ _ hv ⟨hn, fun b o e => up _ b o hk e, hCs⟩ hm)
      (fun i v s₃ m₃ hv hpv hn hm hk => helt _ i v s₃ m₃ _ hv hpv ⟨hn, fun b o e => up _ b o hk e, hCs⟩ hm) (fun h' tk m' vs zs hn ha hlen hP hz hok hoff hk => ?_) hsz
    exact hRR _ _ h' tk m' vs zs (fresh _ _ (Nat.le_refl _)) (fresh _ _ (by rw [hC]; exact Nat.le_succ _)) hDC hn ha hlen hP hz hok hoff fun b o e => up _ b o hk e
  exact codeAny_compStart_list (loop _ rfl) (W.self 0 _ _ _ hst₁ (loop _ rfl))

def EltEnd (Good : Value → Value → Made → Prop) (v : Value) (s₃ : Shared) (y : Value) (s₄ : Shared) : Prop := (∃ os, Good v y os ∧ Has s₄.heap os ∧ Fresh s₃.heap os) ∧ Keeps s₃ s₄
def TestEnd (p : Value → Bool) (v : Value) (s₃ : Shared) (ok : Bool) (s₄ : Shared) : Prop := ok = p v ∧ Keeps s₃ s₄
def CompAt (w : World) (A : Around) (env : Env) (scope : Scope) (cl : List (Str × Addr)) (x : Str) (ifs : List Expr) (elt : Expr) (p : Value → Bool) (Good : Value → Value → Made → Prop) (Q : Value → Shared → Prop) (s₁ : Shared) (it : Value) (s₂ : Shared) : Prop :=
  ∃ (I : Addr) (fp wr : List Addr) (n : Nat) (P : Nat → Value → Prop) (St : Nat → Heap → Prop), it = .ref I ∧ Walks pw w A I fp wr n P St ∧ n ≤ sizeLine ∧ (∀ i h, St i h → ∀ b ∈ wr, (h.get? b).isSome = true) ∧ St 0 s₂.heap ∧ (∀ b ∈ fp, b < s₂.heap.objs.size) ∧
    (∃ h tk, s₂ = { s₁ with heap := h, toks := tk }) ∧ (∀ b o, s₁.heap.get? b = some o → s₂.heap.get? b = some o) ∧ s₁.heap.objs.size ≤ s₂.heap.objs.size ∧ (∀ b ∈ wr, s₁.heap.get? b = none) ∧
    (∀ C i v s₃ m₃ E', P i v → Fr s₁.heap C s₃.heap m₃ → m₃ x = some v →
      wpAny (model pw w) A (forIn ifs true fun c r => if r = true then do let ok ← isTrue c (compEnvC scope cl C env) (eval c (compEnvC scope cl C env)); pure (ForInStep.yield ok) else pure (ForInStep.yield r))
        (TestEnd p v s₃) E' s₃) ∧
    (∀ C i v s₃ m₃ E', P i v → p v = true → Fr s₁.heap C s₃.heap m₃ → m₃ x = some v →
      wpAny (model pw w) A (eval elt (compEnvC scope cl C env)) (EltEnd Good v s₃) E' s₃) ∧
    (∀ D n' h' tk (vs : List Value) (zs : Zs), s₁.heap.get? D = none → h'.get? D = some (W.listOf (zs.map (·.2.1)).toArray n') → vs.length = n → (∀ j v, vs[j]? = some v → P j v) →
      zs.map (·.1) = vs.filter p → ZsOk Good s₁.heap h' zs → (∀ z ∈ zs, ∀ q ∈ z.2.2, q.1 ≠ D) → Grow s₁.heap h' → Q (.ref D) { s₁ with heap := h', toks := tk })

theorem comp_rule {s : Shared} {elt iter : Expr} {x : Str} {px : Pos} {ifs : List Expr} {scope : Scope} {cl : List (Str × Addr)} {pos : Pos} {Q : Value → Shared → Prop} (p : Value → Bool) (Good : Value → Value → Made → Prop)
    (hclos : closureFor scope env = pure cl) (hcell : ∀ y ∈ scope.names, y.2 ≠ .cell) (hkind : scope.kind = .function)
    (hnames : ∀ y ∈ scope.names, y.2 = .local → scope.names.lookup y.1 = some .local) (hx : scope.names.lookup x = some .local)
    (h : wpAny (model pw w) A (eval iter env) (fun xv s₁ => wpAny (model pw w) A (pyIter xv) (fun it s₂ => Stop (CompAt w A env scope cl x ifs elt p Good Q s₁ it s₂)) E s₁) E s)
    (hs : ∀ x, foldedSetIterable iter env x = pure x) :
    wpAny (model pw w) A (eval (.ListComp elt [⟨.Name x px, iter, ifs, 0⟩] scope pos) env) Q E s := by
  revert w A E env s elt iter x px ifs scope cl pos Q p Good hclos hcell hkind hnames hx h hs
  (refine no_implicit_lambda% (pk6 (i1 := nW) (i2 := nA) (i5 := nS) ?_); generalize p6_1 _ = w; generalize p6_2 _ = A; generalize p6_3 _ = E; generalize p6_4 _ = env; generalize p6_5 _ = s; generalize p6_6 _ = elt); (refine no_implicit_lambda% (pk6 ?_); generalize p6_1 _ = iter; generalize p6_2 _ = x; generalize p6_3 _ = px; generalize p6_4 _ = ifs; generalize p6_5 _ = scope; generalize p6_6 _ = cl); (refine no_implicit_lambda% (pk4 ?_); generalize p4_1 _ = pos; generalize p4_2 _ = Q; generalize p4_3 _ = p; generalize p4_4 _ = Good)
  intro hclos hcell hkind hnames hx h hs
  rw [eval_ListComp]
  refine wpAny_comprehension_free (use := none) rfl hs hclos hkind hnames (wpAny_mono h (fun xv s₁ h₁ => wpAny_mono h₁ (fun it s₂ h₂ => ?_) fun _ _ e => e) fun _ _ e => e)
  obtain ⟨I, fp, wr, n, P, St, rfl, W, hsz, hwr, hst, hfp, ⟨hh, tkk, rfl⟩, h12, hsz12, hw1, ht, he, hQ⟩ := h₂
  refine comp_block (s₁ := s₁) (RR := fun acc C => compPost (model pw w) A E none Q acc C) W hsz hwr p Good hcell hkind hx hst hfp h12 hsz12 hw1 ht he ?_
  intro D C h' tk m' vs zs hD hC hDC hn hl hlen hP hz hok hoff hk
  have none1 : ∀ b, hh.get? b = none → s₁.heap.get? b = none := fun b e => by
    cases q : s₁.heap.get? b with
    | none => rfl
    | some o => have := h12 b o q; dsimp only at this; rw [e] at this; cases this
  refine ⟨m', hn, fun h'' hs'' => ?_⟩
  obtain ⟨n', hl'⟩ := hl
  exact hQ D n' h'' tk vs zs (none1 D hD) (hs''.extBut _ _ hDC hl') hlen hP hz (fun z hzm => ⟨(hok z hzm).1, fun q hq => hs''.extBut _ _ (hoff z hzm q hq).1 ((hok z hzm).2.1 q hq), (hok z hzm).2.2⟩)
    (fun z hzm q hq => (hoff z hzm q hq).2) fun b o e => hs''.extBut b o (by rintro rfl; rw [none1 _ hC] at e; cases e) (hk b o e)

theorem comp_list {s₁ : Shared} {scope : Scope} {cl : List (Str × Addr)} {x : Str} {ifs : List Expr} {elt : Expr} {p : Value → Bool} {Good : Value → Value → Made → Prop} {Q : Value → Shared → Prop} {ax : Addr} {items : List Value}
    (hh : A.handled = none) (hl : s₁.heap.IsList ax items.toArray) (hsz : items.length ≤ sizeLine)
    (ht : ∀ C v s₃ m₃ E', v ∈ items → Fr s₁.heap C s₃.heap m₃ → m₃ x = some v →
      wpAny (model pw w) A (forIn ifs true fun c r => if r = true then do let ok ← isTrue c (compEnvC scope cl C env) (eval c (compEnvC scope cl C env)); pure (ForInStep.yield ok) else pure (ForInStep.yield r))
        (TestEnd p v s₃) E' s₃)
    (he : ∀ C v s₃ m₃ E', v ∈ items → p v = true → Fr s₁.heap C s₃.heap m₃ → m₃ x = some v →
      wpAny (model pw w) A (eval elt (compEnvC scope cl C env)) (EltEnd Good v s₃) E' s₃)
    (hQ : ∀ D n' h' tk (zs : Zs), s₁.heap.get? D = none → h'.get? D = some (W.listOf (zs.map (·.2.1)).toArray n') → zs.map (·.1) = items.filter p → ZsOk Good s₁.heap h' zs → (∀ z ∈ zs, ∀ q ∈ z.2.2, q.1 ≠ D) → Grow s₁.heap h' → Q (.ref D) { s₁ with heap := h', toks := tk }) :
    wpAny (model pw w) A (pyIter (.ref ax)) (fun it s₂ => Stop (CompAt w A env scope cl x ifs elt p Good Q s₁ it s₂)) E s₁ := by
  revert w A E env s₁ scope cl x ifs elt p Good Q ax items hh hl hsz ht he hQ
  (refine no_implicit_lambda% (pk6 (i1 := nW) (i2 := nA) (i5 := nS) ?_); generalize p6_1 _ = w; generalize p6_2 _ = A; generalize p6_3 _ = E; generalize p6_4 _ = env; generalize p6_5 _ = s₁; generalize p6_6 _ = scope); (refine no_implicit_lambda% (pk6 ?_); generalize p6_1 _ = cl; generalize p6_2 _ = x; generalize p6_3 _ = ifs; generalize p6_4 _ = elt; generalize p6_5 _ = p; generalize p6_6 _ = Good); (refine no_implicit_lambda% (pk3 ?_); generalize p3_1 _ = Q; generalize p3_2 _ = ax; generalize p3_3 _ = items)
  intro hh hl hsz ht he hQ
  obtain ⟨ol, hol, _⟩ := id hl
  have hlt := Heap.lt_size hol
  have hne : ax ≠ s₁.heap.objs.size := Nat.ne_of_lt hlt
  refine wpAny_pyIter_list hl ?_
  refine ⟨_, _, _, items.toArray.size, _, _, rfl, Walks.list hh s₁.heap.objs.size ax hne items.toArray, by simpa using hsz, ?_, ⟨⟨_, Heap.get?_push_size _ rfl, rfl, rfl⟩, hl.at fun o e => Heap.get?_push_of_some _ e⟩, ?_, ⟨_, _, rfl⟩, fun b o e => Heap.get?_push_of_some _ e, by rw [Heap.size_push]; lia, ?_, ?_, ?_, ?_⟩
  · rintro i h ⟨⟨o, e, _⟩, _⟩ b hb
    rw [List.mem_singleton.mp hb, e]; rfl
  · intro b hb
    rw [Heap.size_push]
    rcases List.mem_cons.mp hb with rfl | hb
    · exact Nat.lt_succ_self _
    · rw [List.mem_singleton.mp hb]; exact Nat.lt_succ_of_lt hlt
  · intro b hb
    rw [List.mem_singleton.mp hb]
    cases e : s₁.heap.get? s₁.heap.objs.size with
    | none => rfl
    | some o => exact absurd (Heap.lt_size e) (Nat.lt_irrefl _)
  · exact fun C i v s₃ m₃ E' hv F hm => ht C v s₃ m₃ E' (List.mem_of_getElem? (by simpa using hv)) F hm
  · exact fun C i v s₃ m₃ E' hv hp F hm => he C v s₃ m₃ E' (List.mem_of_getElem? (by simpa using hv)) hp F hm
  · intro D n' h' tk vs zs hD hl' hlen hP hz hok hoff hg
    have e : vs = items := by
      apply List.ext_getElem?
      intro j
      by_cases hj : j < vs.length
      · have := hP j vs[j] (by simp [hj])
        simp only [List.getElem?_toArray] at this
        rw [this]; simp [hj]
      · have h2 : items.length = vs.length := by rw [hlen]; simp
        rw [List.getElem?_eq_none (by lia), List.getElem?_eq_none (by lia)]
    subst e
    exact hQ D n' h' tk zs hD hl' hz hok hoff hg

theorem walks_in {I : Addr} {fp wr : List Addr} {n : Nat} {P : Nat → Value → Prop} {St : Nat → Heap → Prop} (W : Walks pw w A I fp wr n P St) : Walks pw w A I fp wr n (fun i v => i < n ∧ P i v) St where
  sub := W.sub
  frame := W.frame
  item := fun i s Q E hi st hQ => W.item i s Q E hi st fun v h' tk hP => hQ v h' tk ⟨hi, hP⟩
  done := W.done
  self := W.self
theorem comp_range {s₁ : Shared} {scope : Scope} {cl : List (PySem.Str × Addr)} {x : PySem.Str} {ifs : List Expr} {elt : Expr} {p : Value → Bool} {Good : Value → Value → Made → Prop} {Q : Value → Shared → Prop} {r : Addr} {a b c : Int} {t u v : Tok}
    (hh : A.handled = none) (n : Nat) (hr : IsRange s₁.heap r a b c t u v) (hsmall : PySem.Builtin.Range.small a b c = true) (hn : PySem.Builtin.Range.rangeSize a b c = n) (hsz : n ≤ sizeLine)
    (ht : ∀ C i v t s₃ m₃ E', i < n → v = .int (a + i * c) t → Fr s₁.heap C s₃.heap m₃ → m₃ x = some v →
      wpAny (model pw w) A (forIn ifs true fun c r => if r = true then do let ok ← isTrue c (compEnvC scope cl C env) (eval c (compEnvC scope cl C env)); pure (ForInStep.yield ok) else pure (ForInStep.yield r))
        (TestEnd p v s₃) E' s₃)
    (he : ∀ C i v t s₃ m₃ E', i < n → v = .int (a + i * c) t → p v = true → Fr s₁.heap C s₃.heap m₃ → m₃ x = some v →
      wpAny (model pw w) A (eval elt (compEnvC scope cl C env)) (EltEnd Good v s₃) E' s₃)
    (hQ : ∀ D n' h' tk (vs : List Value) (zs : Zs), s₁.heap.get? D = none → h'.get? D = some (W.listOf (zs.map (·.2.1)).toArray n') → IntsAre vs ((List.range n).map fun (i : Nat) => a + (i : Int) * c) → zs.map (·.1) = vs.filter p → ZsOk Good s₁.heap h' zs → (∀ z ∈ zs, ∀ q ∈ z.2.2, q.1 ≠ D) → Grow s₁.heap h' → Q (.ref D) { s₁ with heap := h', toks := tk }) :
    wpAny (model pw w) A (pyIter (.ref r)) (fun it s₂ => Stop (CompAt w A env scope cl x ifs elt p Good Q s₁ it s₂)) E s₁ := by
  revert w A E env s₁ scope cl x ifs elt p Good Q r a b c t u v hh n hr hsmall hn hsz ht he hQ
  (refine no_implicit_lambda% (pk6 (i1 := nW) (i2 := nA) (i5 := nS) ?_); generalize p6_1 _ = w; generalize p6_2 _ = A; generalize p6_3 _ = E; generalize p6_4 _ = env; generalize p6_5 _ = s₁; generalize p6_6 _ = scope); (refine no_implicit_lambda% (pk6 ?_); generalize p6_1 _ = cl; generalize p6_2 _ = x; generalize p6_3 _ = ifs; generalize p6_4 _ = elt; generalize p6_5 _ = p; generalize p6_6 _ = Good); (refine no_implicit_lambda% (pk6 ?_); generalize p6_1 _ = Q; generalize p6_2 _ = r; generalize p6_3 _ = a; generalize p6_4 _ = b; generalize p6_5 _ = c; generalize p6_6 _ = t); (refine no_implicit_lambda% (pk2 ?_); generalize p2_1 _ = u; generalize p2_2 _ = v)
  intro hh
  (refine no_implicit_lambda% (pk1 ?_); generalize p1_1 _ = n)
  intro hr hsmall hn hsz ht he hQ
  refine wpAny_pyIter_range hr hsmall ?_
  rw [hn]
  refine ⟨_, _, _, n, _, _, rfl, walks_in (Walks.range hh s₁.heap.objs.size a c n), hsz, ?_, ?_, ?_, ⟨_, _, rfl⟩, fun b o e => Heap.get?_push_of_some _ e, by rw [Heap.size_push]; lia, ?_, ?_, ?_, ?_⟩
  · intro i h e b hb
    rw [List.mem_singleton.mp hb, e]; rfl
  · have e1 : a + ((0 : Nat) : Int) * c = a := by simp
    have e2 : (n : Int) - ((0 : Nat) : Int) = n := by simp
    show IsRangeIter _ _ (a + ((0 : Nat) : Int) * c) ((n : Int) - ((0 : Nat) : Int)) c
    rw [e1, e2]
    exact Heap.get?_push_size _ rfl
  · intro b hb
    rw [Heap.size_push, List.mem_singleton.mp hb]; exact Nat.lt_succ_self _
  · intro b hb
    rw [List.mem_singleton.mp hb]
    cases e : s₁.heap.get? s₁.heap.objs.size with
    | none => rfl
    | some o => exact absurd (Heap.lt_size e) (Nat.lt_irrefl _)
  · rintro C i v s₃ m₃ E' ⟨hi, t, e⟩ F hm
    exact ht C i v t s₃ m₃ E' hi e F hm
  · rintro C i v s₃ m₃ E' ⟨hi, t, e⟩ hp F hm
    exact he C i v t s₃ m₃ E' hi e hp F hm
  · intro D n' h' tk vs zs hD hl' hlen hP hz hok hoff hg
    refine hQ D n' h' tk vs zs hD hl' ?_ hz hok hoff hg
    have key : ∀ (vs : List Value) (k : Nat), (∀ j v, vs[j]? = some v → ∃ t, v = Value.int (a + ((k + j : Nat) : Int) * c) t) → IntsAre vs ((List.range' k vs.length).map fun (i : Nat) => a + (i : Int) * c) := by
      intro vs
      induction vs with
      | nil => intro k _; exact .nil
      | cons v vs ih =>
        intro k h
        obtain ⟨t, e⟩ := h 0 v rfl
        rw [e, List.length_cons, List.range'_succ, List.map_cons, Nat.add_zero]
        refine .cons _ _ (ih (k + 1) fun j u hj => ?_)
        have := h (j + 1) u (by simpa using hj)
        rwa [show k + (j + 1) = k + 1 + j by lia] at this
    have := key vs 0 (fun j v hj => by obtain ⟨_, t, e⟩ := hP j v hj; exact ⟨t, by rw [e, Nat.zero_add]⟩)
    rw [hlen, ← List.range_eq_range'] at this
    exact this
end
end
section
open PySem.Calls
def tx (l : List Nat) : PySem.Str := ⟨l.toArray⟩
theorem tx_len (l : List Nat) : (tx l).length = l.length := rfl
theorem tx_app (a b : List Nat) : tx a ++ tx b = tx (a ++ b) := by
  show PySem.Str.mk _ = _
  unfold tx; simp
theorem tx_inj {a b : List Nat} : tx a = tx b ↔ a = b := by
  constructor
  · intro h
    have := congrArg (fun s => s.cps.toList) h
    simpa [tx] using this
  · rintro rfl; rfl
theorem allN {N : Nat} {P : Int → Prop} (h : ∀ i : Fin N, P ((i : Nat) : Int)) {i : Int} (h0 : 0 ≤ i) (h1 : i < N) : P i := by
  obtain ⟨n, rfl⟩ := Int.eq_ofNat_of_zero_le h0
  exact h ⟨n, Int.ofNat_lt.mp h1⟩
def hx (k : Int) : Nat := if k < 10 then 48 + k.toNat else 55 + k.toNat
theorem item_tx (l : List Nat) (i : Int) (h0 : 0 ≤ i) (h1 : i < l.length) : Txt.item (tx l) i = tx [l.getD i.toNat 0] := by
  have hlt : i.toNat < l.length := (Int.toNat_lt h0).mpr h1
  rw [item_meets (n := l.getD i.toNat 0) h0 (by unfold tx; simp [hlt])]
  rfl
theorem hexU_tx : ofS "0123456789ABCDEF" = tx [48, 49, 50, 51, 52, 53, 54, 55, 56, 57, 65, 66, 67, 68, 69, 70] := by decide +kernel
theorem item_hex (i : Int) (h0 : 0 ≤ i) (h1 : i < 16) : Txt.item (ofS "0123456789ABCDEF") i = tx [hx i] := by
  rw [hexU_tx, item_tx _ i h0 (by simpa using h1)]
  have key : ∀ k : Nat, k < 16 → [48, 49, 50, 51, 52, 53, 54, 55, 56, 57, 65, 66, 67, 68, 69, 70].getD k 0 = if (k : Int) < 10 then 48 + k else 55 + k := by decide
  rw [key i.toNat ((Int.toNat_lt h0).mpr h1)]
  unfold hx
  rw [Int.toNat_of_nonneg h0]
theorem join_tx (ls : List (List Nat)) : Txt.join (tx []) (ls.map tx) = tx ls.flatten := by
  unfold Txt.join
  cases ls with
  | nil => rfl
  | cons a r =>
    have key : ∀ (r : List (List Nat)) (acc : Array Nat), (r.map tx).foldl (fun acc p => acc ++ (tx []).cps ++ p.cps) acc = acc ++ r.flatten.toArray := by
      intro r
      induction r with
      | nil => intro acc; simp
      | cons b r ih => intro acc; rw [List.map_cons, List.foldl_cons, ih]; simp [tx]
    show PySem.Str.mk ((r.map tx).foldl (fun acc p => acc ++ (tx []).cps ++ p.cps) (tx a).cps) = _
    rw [key]
    unfold tx; simp
theorem nil_tx : ofS "" = tx [] := by decide +kernel

section
variable {prog : Program} {w : World} {A : Around} {E : Value → Shared → Prop} {s : Shared} {Q : Value → Shared → Prop}
theorem sub_hex {value slice : Expr} {t u : Tok} {i : Int} (h0 : 0 ≤ i) (h1 : i < 16) (h : Q (.str (tx [hx i]) s.toks) { s with toks := s.toks + 1 })
    (hs : subscripted slice false (.str (ofS "0123456789ABCDEF") t) (.int i u) = operate [.str (ofS "0123456789ABCDEF") t, .int i u] (getItem (.str (ofS "0123456789ABCDEF") t) (.int i u)))
    (ht : ∀ r, letTemporaryGo value (.str (ofS "0123456789ABCDEF") t) r = pure ()) :
    wpAny (model prog w) A (subscriptTail value slice (.str (ofS "0123456789ABCDEF") t) (.int i u)) Q E s := by
  have hl : (ofS "0123456789ABCDEF").length = 16 := by decide +kernel
  refine item_str (fitsSsize_of (N := 9223372036854775808) (Int.lt_of_lt_of_le (by decide) h0) (Int.lt_trans h1 (by decide)) (Int.le_refl _)) (by rw [hl]; exact Int.le_trans (by decide) h0) (by rw [hl]; exact h1) (fun _ => ?_) hs ht
  rw [item_hex i h0 h1]; exact h
end
theorem ints_mem {vs : List Value} {ns : List Int} (hi : IntsAre vs ns) : ∀ {v : Value}, v ∈ vs → ∃ n t, n ∈ ns ∧ v = .int n t := by
  induction hi with
  | nil => intro v hv; cases hv
  | cons n t h ih =>
    intro v hv
    rcases List.mem_cons.mp hv with rfl | hv
    · exact ⟨n, t, .head _, rfl⟩
    · obtain ⟨k, u, hk, e⟩ := ih hv
      exact ⟨k, u, .tail _ hk, e⟩

section
variable {M : Model} {A : Around} {E : Value → Shared → Prop} {s : Shared} {Q : Value → Shared → Prop}
theorem name_C {x : PySem.Str} {pos : Pos} {sc : Scope} {cl : List (PySem.Str × Addr)} {C : Addr} {env : Env} {g : Heap} {m : PySem.Str → Option Value} {v : Value} (F : Fr g C s.heap m) (hk : sc.kind = .function)
    (hx : (compEnvC sc cl C env).kindOf x = some .local) (hv : m x = some v) (hd : (x == ("__debug__" : PySem.Str)) = false) (h : Q v s) : wpAny M A (eval (.Name x pos) (compEnvC sc cl C env)) Q E s :=
  wpAny_Name (wpAny_loadName_local (by simp [compEnvC, relabel, hk]) hx F.ns hv h) hd
end
theorem zs_texts {f : Int → List Nat} {h₀ h : Heap} : ∀ {zs : Zs} {vs : List Value} {ns : List Int}, ZsOk (fun v y os => os = [] ∧ ∃ n t t', v = .int n t ∧ y = .str (tx (f n)) t') h₀ h zs → zs.map (·.1) = vs → IntsAre vs ns →
    StrsAre (zs.map (·.2.1)) (ns.map fun n => tx (f n)) := by
  intro zs
  induction zs with
  | nil => intro vs ns _ e hi; subst e; cases hi; exact .nil
  | cons z zs ih =>
    intro vs ns hok e hi
    subst e
    obtain ⟨⟨_, k, u, u', e1, e2⟩, _⟩ := hok z (.head _)
    rw [List.map_cons, e1] at hi
    cases hi with
    | cons n t hi' =>
      rw [List.map_cons, List.map_cons, e2]
      exact .cons _ _ (ih (fun z hz => hok z (.tail _ hz)) rfl hi')
theorem zs_ints {f : Int → Int} {h₀ h : Heap} : ∀ {zs : Zs} {vs : List Value} {ns : List Int}, ZsOk (fun v y os => os = [] ∧ ∃ n t t', v = .int n t ∧ y = .int (f n) t') h₀ h zs → zs.map (·.1) = vs → IntsAre vs ns →
    IntsAre (zs.map (·.2.1)) (ns.map f) := by
  intro zs
  induction zs with
  | nil => intro vs ns _ e hi; subst e; cases hi; exact .nil
  | cons z zs ih =>
    intro vs ns hok e hi
    subst e
    obtain ⟨⟨_, k, u, u', e1, e2⟩, _⟩ := hok z (.head _)
    rw [List.map_cons, e1] at hi
    cases hi with
    | cons n t hi' =>
      rw [List.map_cons, List.map_cons, e2]
      exact .cons _ _ (ih (fun z hz => hok z (.tail _ hz)) rfl hi')
theorem filter_all (vs : List Value) : vs.filter (fun _ => true) = vs := by simp

section
variable {M : Model} {A : Around} {E : Value → Shared → Prop} {s : Shared} {Q : Value → Shared → Prop}
theorem name_CC {x : PySem.Str} {pos : Pos} {sc : Scope} {cl : List (PySem.Str × Addr)} {C c : Addr} {env : Env} {v : Value} (hc : cl.lookup x = some c) (hv : s.heap.IsCell c (some v)) (hk : sc.kind = .function)
    (hx : (compEnvC sc cl C env).kindOf x = some .cell) (hd : (x == ("__debug__" : PySem.Str)) = false) (h : Q v s) : wpAny M A (eval (.Name x pos) (compEnvC sc cl C env)) Q E s :=
  wpAny_Name (wpAny_loadName_cell (by simp [compEnvC, relabel, hk]) hx hc hv h) hd
theorem name_cellX {x : PySem.Str} {pos : Pos} {n : PySem.Str} {sc : Scope} {L a : Addr} {cd : Value} {cl : List (PySem.Str × Addr)} {c : Addr} {v : Value} (hc : cl.lookup x = some c) (hv : s.heap.IsCell c (some v)) (hk : sc.kind = .function)
    (hx : (envX n sc L a cd cl).kindOf x = some .cell) (hd : (x == ("__debug__" : PySem.Str)) = false) (h : Q v s) : wpAny M A (eval (.Name x pos) (envX n sc L a cd cl)) Q E s :=
  wpAny_Name (wpAny_loadName_cell hk hx hc hv h) hd
end
theorem lower_tx {l : List Nat} (h : ∀ c ∈ l, c < 128) : Txt.lower (tx l) = tx (l.map lo1) := by
  rw [lower_ascii (x := tx l) (by simpa [tx] using h)]
  unfold tx; simp
def figs (ns : List Int) : List Nat := ns.flatMap fun n => [hx (n.fdiv 16), hx (n.fmod 16)]
theorem hx_lt {k : Int} (h0 : 0 ≤ k) (h : k < 16) : hx k < 128 := allN (N := 16) (P := fun k => hx k < 128) (by decide) h0 h
theorem figs_lt {ns : List Int} (hb : ∀ n ∈ ns, 0 ≤ n ∧ n < 256) : ∀ c ∈ figs ns, c < 128 := by
  intro c hc
  unfold figs at hc
  obtain ⟨n, hn, hc⟩ := List.mem_flatMap.mp hc
  have := hb n hn
  simp only [List.mem_cons, List.not_mem_nil, or_false] at hc
  rcases hc with rfl | rfl
  · rw [Int.fdiv_eq_ediv_of_nonneg _ (by decide)]
    exact hx_lt (Int.ediv_nonneg this.1 (by decide)) (Int.ediv_lt_of_lt_mul (by decide) this.2)
  · exact hx_lt (Int.fmod_nonneg_of_pos _ (by decide)) (Int.fmod_lt_of_pos _ (by decide))
theorem figs_length (ns : List Int) : (figs ns).length = 2 * ns.length := by
  unfold figs
  induction ns with
  | nil => rfl
  | cons n r ih => simp only [List.flatMap_cons, List.length_append, ih, List.length_cons, List.length_nil]; rw [Nat.mul_add, Nat.add_comm]
def four (x : Int) : List Int := [(x.fdiv (256 ^ Int.toNat 3)).fmod 256, (x.fdiv (256 ^ Int.toNat 2)).fmod 256, (x.fdiv (256 ^ Int.toNat 1)).fmod 256, (x.fdiv (256 ^ Int.toNat 0)).fmod 256]
theorem four_lt (x : Int) : ∀ n ∈ four x, 0 ≤ n ∧ n < 256 := by
  intro n hn
  simp only [four, List.mem_cons, List.not_mem_nil, or_false] at hn
  rcases hn with rfl | rfl | rfl | rfl <;> exact ⟨Int.fmod_nonneg_of_pos _ (by decide), Int.fmod_lt_of_pos _ (by decide)⟩
def srcOf (x : Int) : List Nat := if x.fmod 2 = 1 then (figs (four x)).map lo1 else figs (four x)
end
section
set_option maxHeartbeats 8000000
open PySem.Calls
theorem fill_wf2 : kk = kk ∧ PySem.Challenge.rw_kq0052_01 = PySem.Challenge.rw_kq0052_01 := by
  k_fill
  exact ⟨rfl, rfl⟩

local macro_rules | `(tactic| walk_at "eval Name") => `(tactic| ((with_reducible show wpAny _ _ (eval (Expr.Name _ _) (compEnvC _ _ _ _)) _ _ _); refine name_C (by assumption) (by rfl) (by with_unfolding_all rfl) (by assumption) (by decide +kernel) ?_))
local macro_rules | `(tactic| walk_at "subscriptTail") => `(tactic| ((with_reducible show wpAny _ _ (subscriptTail _ _ (Value.str _ _) (Value.int _ _)) _ _ _); refine sub_hex (by first | lia | (simp (disch := lia) only [Int.fdiv_eq_ediv_of_nonneg, Int.fmod_eq_emod_of_nonneg]; lia)) (by first | lia | (simp (disch := lia) only [Int.fdiv_eq_ediv_of_nonneg, Int.fmod_eq_emod_of_nonneg]; lia)) ?_ (by with_unfolding_all rfl) (by intro _; with_unfolding_all rfl)))

local macro_rules | `(tactic| walk_at "eval ListComp") => `(tactic| (with_reducible refine st0 ?_))
local macro_rules | `(tactic| walk_at "pyIter ref") => `(tactic| (with_reducible refine st1 ?_))
theorem figures_spec (w : World) (l : Addr) (vs : List Value) (ns : List Int) (hi : IntsAre vs ns) (hb : ∀ n ∈ ns, 0 ≤ n ∧ n < 256) (hlen : ns.length ≤ 100) : Spec w 194 [.ref l] 2 20 (fun h => h.IsList l vs.toArray) (fun h v h' => ∃ t, v = .str (tx (figs ns)) t) := by
  revert w l vs ns
  (refine pk4 (i1 := nW) ?_; generalize p4_1 _ = w; generalize p4_2 _ = l; generalize p4_3 _ = vs; generalize p4_4 _ = ns)
  intro hi hb hlen
  (refine pk6 ?_; generalize p6_1 _ = mean; generalize p6_2 _ = mg; generalize p6_3 _ = mb; generalize p6_4 _ = dp; generalize p6_5 _ = un; generalize p6_6 _ = fr); (refine pk4 (i2 := nS) ?_; generalize p4_1 _ = gd; generalize p4_2 _ = s; generalize p4_3 _ = Q; generalize p4_4 _ = E)
  intro X T hd hu hP hret
  k_dflt (refine' enter0 (binds := [(ofS "row", .ref l)]) X T ?k6 ?k7 ?k8 ?kB ?k9 ?c5 ?c2 ?c3 ?c4 ?_; (case k6 => k_is); (case k7 => k_is); (case k8 => (show dp < _; lia)); (case kB => exact BindsTo.of_eq (by kernel_rfl)); (case c5 => decide +kernel); (case k9 => exact locs (by kernel_rfl)); (case c2 => kernel_rfl); (case c3 => kernel_rfl); (case c4 => kernel_rfl))
  (refine pk2 ?_; generalize p2_1 _ = L'; generalize p2_2 _ = h₁)
  intro F N
  replace F : Fr s.heap L' h₁ (fun y => List.lookup y [(ofS "row", .ref l)]) := F
  k_steps
  refine comp_rule (fun _ => true) (fun v y os => os = [] ∧ ∃ n t t', v = .int n t ∧ y = .str (tx [hx (n.fdiv 16), hx (n.fmod 16)]) t') (cl := []) (by kernel_rfl) (by decide +kernel) rfl (by decide +kernel) (by decide +kernel) ?_ (fun _ => by kernel_rfl)
  k_steps
  show wpAny _ _ (pyIter _) _ _ _
  refine comp_list (items := vs) rfl (F.lst hP) (by have := hi.length; unfold sizeLine; lia) ?ht ?he ?hq
  case ht => exact fun C v s₃ m₃ E' hv Fc hm => wpAny_pure ⟨rfl, _, _, rfl, fun _ _ e => e⟩
  case he =>
    intro C v s₃ m₃ E' hv _ Fc hm
    obtain ⟨n, t, hn, rfl⟩ := ints_mem hi hv
    have hb' := hb n hn
    clear F N hP hret
    k_steps
    exact ⟨⟨[], ⟨rfl, n, t, _, rfl, congrArg (Value.str · _) (tx_app _ _)⟩, fun _ h => (nomatch h), fun _ h => (nomatch h)⟩, _, _, rfl, fun _ _ e => e⟩
  case hq =>
    intro D n' h' tk zs hD hl hz hok hoff hg
    replace hg : Grow h₁ h' := hg
    rw [filter_all] at hz
    have F' := F.after hg
    k_steps
    show wpAny _ _ (call (.builtin "str.join") [.str (ofS "") _, .ref D]) _ _ _
    refine join_listC (ys := ns.map fun n => tx [hx (n.fdiv 16), hx (n.fmod 16)]) ⟨_, hl, rfl, n', rfl⟩ (zs_texts hok hz hi) (by decide +kernel) ?_ ?_
    · simp only [List.map_map, Function.comp_def, tx_len, List.length_cons, List.length_nil, List.map_const', List.length_map, List.sum_replicate_nat]; lia
    · intro t' k
      rw [nil_tx, show (ns.map fun n => tx [hx (n.fdiv 16), hx (n.fmod 16)]) = (ns.map fun n => [hx (n.fdiv 16), hx (n.fmod 16)]).map tx from by rw [List.map_map]; rfl, join_tx]
      exact hret _ _ _ F'.keep ⟨_, rfl⟩
end
local macro_rules | `(tactic| walk_at "eval Name") => `(tactic| ((with_reducible show wpAny _ _ (eval (Expr.Name _ _) (compEnvC _ _ _ _)) _ _ _); first | refine name_C (by assumption) (by rfl) (by with_unfolding_all rfl) (by assumption) (by decide +kernel) ?_ | refine name_CC (by with_unfolding_all rfl) (by assumption) (by rfl) (by with_unfolding_all rfl) (by decide +kernel) ?_))
section
set_option maxHeartbeats 8000000
open PySem.Calls
theorem fill_wf3 : kk = kk ∧ PySem.Challenge.rw_kq0052_01 = PySem.Challenge.rw_kq0052_01 := by
  k_fill
  exact ⟨rfl, rfl⟩

local macro_rules | `(tactic| walk_at "call ref") => `(tactic| (with_reducible refine st2 ?_))
local macro_rules | `(tactic| walk_at "eval Name") => `(tactic| ((with_reducible show wpAny _ _ (eval (Expr.Name _ _) (envX _ _ _ _ _ _)) _ _ _); refine name_cellX (by with_unfolding_all rfl) (by assumption) (by with_unfolding_all rfl) (by with_unfolding_all rfl) (by decide +kernel) ?_))

local macro_rules | `(tactic| walk_at "eval ListComp") => `(tactic| (with_reducible refine st0 ?_))
local macro_rules | `(tactic| walk_at "pyIter ref") => `(tactic| (with_reducible refine st1 ?_))
theorem source_spec (w : World) (x : Int) (tx : Tok) (h0 : 0 ≤ x) (h1 : x < 1114112) : Spec w 184 [.int x tx] 4 40 (fun h => True) (fun h v h' => ∃ t, v = .str (Mine.tx (srcOf x)) t) := by
  revert w x tx h0 h1
  (refine no_implicit_lambda% (pk3 (i1 := nW) ?_); generalize p3_1 _ = w; generalize p3_2 _ = x; generalize p3_3 _ = tx)
  intro h0 h1
  (refine pk6 ?_; generalize p6_1 _ = mean; generalize p6_2 _ = mg; generalize p6_3 _ = mb; generalize p6_4 _ = dp; generalize p6_5 _ = un; generalize p6_6 _ = fr); (refine pk4 (i2 := nS) ?_; generalize p4_1 _ = gd; generalize p4_2 _ = s; generalize p4_3 _ = Q; generalize p4_4 _ = E)
  intro X T hd hu hP hret
  k_dflt (refine' enter0C (binds := [(ofS "number", .int x tx)]) X T ?k6 ?k7 ?k8 ?kB ?k9 ?c5 ?c2 ?c3 ?c4 ?_; (case k6 => k_is); (case k7 => k_is); (case k8 => (show dp < _; lia)); (case kB => kernel_rfl); (case k9 => kernel_rfl); (case c5 => decide +kernel); (case c2 => kernel_rfl); (case c3 => kernel_rfl); (case c4 => kernel_rfl))
  (refine pk4 ?_; generalize p4_1 _ = L'; generalize p4_2 _ = h₁; generalize p4_3 _ = tk; generalize p4_4 _ = cells)
  intro F N Y
  replace Y : CellsAre _ [(ofS "number", L' + 1)] cells := Y
  obtain ⟨oc, rfl, hc⟩ := Y.one
  replace hc : oc.data = .cell (some (.int x tx)) := hc
  have hcell : h₁.IsCell (L' + 1) (some (.int x tx)) := ⟨oc, N.get (.head _), hc⟩
  k_steps
  refine comp_rule (fun _ => true) (fun v y os => os = [] ∧ ∃ n t t', v = .int n t ∧ y = .int ((x.fdiv (256 ^ n.toNat)).fmod 256) t') (cl := [(ofS "number", L' + 1)]) (by kernel_rfl) (by decide +kernel) rfl (by decide +kernel) (by decide +kernel) ?_ (fun _ => by kernel_rfl)
  k_steps
  rename_i h2 tk2 t1 u1 v1 hr F2 N2 hk2
  show wpAny _ _ (pyIter _) _ _ _
  refine comp_range rfl 4 hr (by decide +kernel) (by decide +kernel) (by decide) ?ht ?he ?hq
  case ht => exact fun C i v t s₃ m₃ E' hi e Fc hm => wpAny_pure ⟨rfl, _, _, rfl, fun _ _ e => e⟩
  case he =>
    intro C i v t s₃ m₃ E' hi e _ Fc hm
    have hcell' : s₃.heap.IsCell (L' + 1) (some (.int x tx)) := (hcell.keeps hk2).keeps Fc.keep
    clear hret hcell N2 F2 hr
    subst e
    have hi4 : i = 0 ∨ i = 1 ∨ i = 2 ∨ i = 3 := by lia
    rcases hi4 with rfl | rfl | rfl | rfl
    · replace hm : m₃ (PySem.Str.ofString "k") = some (.int 3 t) := hm
      k_steps
      exact ⟨⟨[], ⟨rfl, 3, t, _, rfl, rfl⟩, fun _ h => (nomatch h), fun _ h => (nomatch h)⟩, _, _, rfl, fun _ _ e => e⟩
    · replace hm : m₃ (PySem.Str.ofString "k") = some (.int 2 t) := hm
      k_steps
      exact ⟨⟨[], ⟨rfl, 2, t, _, rfl, rfl⟩, fun _ h => (nomatch h), fun _ h => (nomatch h)⟩, _, _, rfl, fun _ _ e => e⟩
    · replace hm : m₃ (PySem.Str.ofString "k") = some (.int 1 t) := hm
      k_steps
      exact ⟨⟨[], ⟨rfl, 1, t, _, rfl, rfl⟩, fun _ h => (nomatch h), fun _ h => (nomatch h)⟩, _, _, rfl, fun _ _ e => e⟩
    · replace hm : m₃ (PySem.Str.ofString "k") = some (.int 0 t) := hm
      k_steps
      exact ⟨⟨[], ⟨rfl, 0, t, _, rfl, rfl⟩, fun _ h => (nomatch h), fun _ h => (nomatch h)⟩, _, _, rfl, fun _ _ e => e⟩
  case hq =>
    intro D n' h' tk vs zs hD hl hv hz hok hoff hg
    replace hg : Grow h2 h' := hg
    rw [filter_all] at hz
    have hI : IntsAre (zs.map (·.2.1)) (four x) := by
      have := zs_ints (f := fun n => (x.fdiv (256 ^ n.toNat)).fmod 256) hok hz hv
      exact this
    have F' := F2.after hg
    have N' := News.grown N2 hg
    have hcell' : h'.IsCell (L' + 1) (some (.int x tx)) := (hcell.keeps hk2).keeps hg
    clear F2 N2 hcell hr
    k_steps
    have X' := X.keeps F'.keep
    have T' := T.keeps F'.keep
    show wpAny _ _ (call (.ref 194) [.ref D]) _ _ _
    refine (figures_spec w D _ (four x) hI (four_lt x) (by simp [four])) _ _ _ _ _ _ _ _ _ _ X' T' ?_ ?_ ⟨_, hl, rfl, n', rfl⟩ ?_
    · show dp + 1 + 2 < _; lia
    · show un + 3 + 20 < _; lia
    rintro v h3 tk3 hg3 ⟨t3, rfl⟩
    replace hg3 : Grow h' h3 := hg3
    have F3 := F'.after hg3
    have N3 := News.grown N' hg3
    have hcell3 := hcell'.keeps hg3
    clear F' N' hcell'
    k_steps
    · show wpAny _ _ (call (.builtin "str.lower") [.str (Mine.tx (figs (four x))) _]) _ _ _
      have hlow := lower_tx (figs_lt (four_lt x))
      refine SC.lower ?_ ?_
      · rw [hlow]; rfl
      · rw [hlow]
        refine hret _ _ _ (Fr.keep (by assumption)) ⟨_, congrArg (Value.str · _) (congrArg Mine.tx ?_)⟩
        unfold srcOf; rw [if_pos (by assumption)]
    · refine hret _ _ _ (Fr.keep (by assumption)) ⟨_, congrArg (Value.str · _) (congrArg Mine.tx ?_)⟩
      unfold srcOf; rw [if_neg (by assumption)]
end
section
open PySem.Calls
namespace FI
theorem plainAttrs_frozenset : PlainAttrs "frozenset" :=
  ⟨⟨"object.__getattribute__", by rw [typeLookup_type, builtinLookup_eq_fast]; kernel_rfl, by decide +kernel⟩, by rw [typeLookup_type, builtinLookup_eq_fast]; kernel_rfl⟩
theorem slot : Slot "frozenset" "issuperset" "frozenset.issuperset" :=
  .of (owner := "frozenset") (n := "issuperset") (by rw [typeLookup_type, builtinLookup_eq_fast]; kernel_rfl) (by decide +kernel) (by decide +kernel) (by decide +kernel)
    (by first | exact .inl (by decide +kernel) | exact .inr (by decide +kernel)) (by rw [isSubtype_type]; kernel_rfl)
theorem ty : typeOf (.builtin "frozenset.issuperset") = pure (.type "method_descriptor") := by show builtinType _ = _; rw [builtinType_eq_fast]; kernel_rfl
theorem entry : entryFor table "frozenset.issuperset" = some Builtin.«frozenset.issuperset» := entryFor_of_tree (by kernel_rfl)
theorem entry_loop : entryFor table "frozenset.issuperset.loop" = some Builtin.«frozenset.issuperset.loop» := entryFor_of_tree (by kernel_rfl)
theorem plain_loop : plainId "frozenset.issuperset.loop" = true := by decide +kernel
theorem args (a b : Value) : argsOk "frozenset.issuperset" ⟨[a, b], []⟩ := by
  unfold argsOk; kernel_rfl
theorem sub_set : isSubtype (.type "str") (.type "set") = pure false := by rw [isSubtype_type]; kernel_rfl
theorem sub_frozenset : isSubtype (.type "str") (.type "frozenset") = pure false := by rw [isSubtype_type]; kernel_rfl
end FI

theorem ents_at (P : Params) : ∀ k, ∀ e ∈ ents P k, ∃ j, j < k ∧ e = (PyData.keyHash P (chr j), .str (chr j) (203 + 2 * j))
  | 0, e, he => by cases he
  | k + 1, e, he => by
    rcases List.mem_cons.mp he with rfl | he
    · exact ⟨k, Nat.lt_succ_self _, rfl⟩
    · obtain ⟨j, hj, e'⟩ := ents_at P k e he; exact ⟨j, Nat.lt_succ_of_lt hj, e'⟩
theorem mem_ents (P : Params) : ∀ k j, j < k → (PyData.keyHash P (chr j), Value.str (chr j) (203 + 2 * j)) ∈ ents P k
  | 0, _, h => absurd h (Nat.not_lt_zero _)
  | k + 1, j, h => by
    rcases Nat.lt_succ_iff_lt_or_eq.mp h with h | rfl
    · exact .tail _ (mem_ents P k j h)
    · exact .head _
theorem elems (w : World) {x : SS} (hx : x.holds (ents w.params 22)) : ElemsOf (strKind pw w) x.es.toList := by
  intro e he
  obtain ⟨j, hj, rfl⟩ := ents_at w.params 22 e (hx.mem_iff.mp he)
  exact ⟨⟨chr j, strKind_is _ _ _ _, rfl⟩, rfl⟩
theorem find_hex {w : World} {A : Around} {E : Value → Shared → Prop} {s : Shared} {y : Str} {u : Tok} {Q : Option Nat → Shared → Prop} {x : SS} (hx : x.holds (ents w.params 22)) (hf : x.fit)
    (hs : s.heap.get? 22 = some x.obj) (hc : ∃ k, k < 22 ∧ chr k = y) (h : ∀ j, Q (some j) s) :
    wpAny (model pw w) A (setFind 22 (.str y u) (hashStr w y)) Q E s := by
  obtain ⟨k, hk, rfl⟩ := hc
  unfold setFind setFindIn
  refine wpAny_bind (wpAny_setState_of (es := x.es) (ep := x.n) (t := x.t) hs rfl hf ?_)
  dsimp only
  have hel := elems w hx
  have hsz : x.es.size < scanBound := by
    have := hx.length_eq
    rw [ents_length, Array.length_toList] at this
    rw [this]; decide
  rw [byScan_of rfl hsz hel]
  simp only [↓reduceIte]
  refine wpAny_bind (wpAny_rule ?_)
  refine wpAny_bind (wpAny_setScan_of (knd := strKind pw w) (k := chr k) (strKind_is _ _ _ _) hs rfl hf hel ?_)
  cases hr : List.findIdx? (fun e => (strKind pw w).is (chr k) e.2) x.es.toList with
  | none =>
    exfalso
    have := List.findIdx?_eq_none_iff.mp hr _ (hx.mem_iff.mpr (mem_ents w.params 22 k hk))
    rw [strKind_is] at this; exact Bool.noConfusion this
  | some j => exact wpAny_pure (h _)
def Hexes (x : Str) : Prop := ∀ (i c : Nat), x.cps[i]? = some c → ∃ k, k < 22 ∧ chr k = ⟨#[c]⟩
theorem loop_hex {w : World} {A : Around} {R : Result → Shared → Prop} {I : Addr} {x : Str} {St : Nat → Heap → Prop} {y : SS} (hy : y.holds (ents w.params 22)) (hf : y.fit) (hI : I ≠ 22)
    (W : Walks pw w A.in1 I [I] [I] x.cps.size (SignAt x) St) (hx : Hexes x) : ∀ (k i : Nat) (s : Shared), i + k = x.cps.size → St i s.heap → s.heap.get? 22 = some y.obj →
      (∀ h' tk', (∀ b o, b ≠ I → s.heap.get? b = some o → h'.get? b = some o) → R (.ok (.ret (.bool true))) { s with heap := h', toks := tk' }) →
      codeAny (model pw w) A (.builtin "frozenset.issuperset.loop" ⟨[.ref 22, .ref I], []⟩) R s := by
  intro k
  induction k with
  | zero =>
    intro i s hk hst hS hR
    obtain rfl : i = x.cps.size := hk
    refine codeAny_builtin FI.entry_loop ?_
    rw [Around.under_plainId FI.plain_loop _]
    show wpAny _ A.in1 (pyNext (.ref I) >>= _) _ _ s
    refine wpAny_bind (W.done s _ _ hst fun h' tk' hm => ?_)
    exact wpAny_pure (hR h' tk' fun b o hb e => hm b o (fun h => hb (List.mem_singleton.mp h)) e)
  | succ k ih =>
    intro i s hk hst hS hR
    have hlt : i < x.cps.size := hk ▸ Nat.lt_add_of_pos_right (Nat.succ_pos k)
    refine codeAny_builtin FI.entry_loop ?_
    rw [Around.under_plainId FI.plain_loop _]
    show wpAny _ A.in1 (pyNext (.ref I) >>= _) _ _ s
    refine wpAny_bind (W.item i s _ _ hlt hst fun v h' tk hP hst' hm => ?_)
    obtain ⟨c, u, hc, rfl⟩ := hP
    have hk' : ∀ b o, b ≠ I → s.heap.get? b = some o → h'.get? b = some o := fun b o hb e => hm b o (fun h => hb (List.mem_singleton.mp h)) e
    show wpAny _ A.in1 (holding [Value.str ⟨#[c]⟩ u] (setContains 22 (.str ⟨#[c]⟩ u)) >>= _) _ _ _
    refine wpAny_bind (wpAny_holding ?_)
    unfold setContains
    refine wpAny_holding ?_
    refine wpAny_bind (wpAny_pyHash_str ?_)
    refine wpAny_bind (find_hex hy hf (hk' 22 _ (Ne.symm hI) hS) (hx i c hc) fun j => ?_)
    refine wpAny_pure ?_
    simp only [Option.isSome_some, if_true]
    refine wpAny_pure ⟨plainId_quiet FI.plain_loop _, ih (i + 1) _ ((Nat.add_right_comm i 1 k).trans hk) hst' (hk' 22 _ (Ne.symm hI) hS) fun h'' tk'' hm'' => ?_⟩
    exact hR h'' tk'' fun b o hb e => hm'' b o hb (hk' b o hb e)
theorem call_issuperset {w : World} {A : Around} {Q E : Value → Shared → Prop} {s : Shared} {x : Str} {t : Tok} {y : SS} (hh : A.handled = none) (hy : y.holds (ents w.params 22)) (hf : y.fit)
    (hS : s.heap.get? 22 = some y.obj) (hx : Hexes x)
    (hR : ∀ h' tk', Grow s.heap h' → (∀ b o, b < s.heap.objs.size → s.heap.get? b = some o → h'.get? b = some o) → Q (.bool true) { s with heap := h', toks := tk' }) :
    wpAny (model pw w) A (call (.builtin "frozenset.issuperset") [.ref 22, .str x t]) Q E s := by
  have hT : s.TypeIs (.ref 22) "frozenset" := ⟨_, hS, rfl⟩
  have hlt := Heap.lt_size hS
  refine wpAny_call (codeAny_call_builtin FI.slot.plain FI.entry (FI.slot.check _ _ _ _ _ _ _ _ hT (FI.args _ _) ?_))
  unfold Builtin.«frozenset.issuperset» Builtin.Frozenset.oneOther
  refine wpAny_bind (wpAny_pure ?_)
  unfold Builtin.Frozenset.isAnySet
  refine wpAny_bind (wpAny_bind (wpAny_isInstance (T := "str") (b := false) rfl FI.sub_set ?_))
  simp only [Bool.false_eq_true, if_false]
  refine wpAny_isInstance (T := "str") (b := false) rfl FI.sub_frozenset ?_
  rw [if_neg Bool.false_ne_true]
  refine wpAny_bind (wpAny_pyIter_str fun o St W hst => ?_)
  refine wpAny_pure ⟨plainId_quiet FI.plain_loop _, ?_⟩
  refine loop_hex hy hf (Nat.ne_of_gt hlt) (W _ hh) hx _ 0 _ (Nat.zero_add _) hst (Heap.get?_push_of_some _ hS) fun h' tk' hm => ?_
  have hk : ∀ b o, b < s.heap.objs.size → s.heap.get? b = some o → h'.get? b = some o := fun b o hb e => hm b o (Nat.ne_of_lt hb) (Heap.get?_push_of_some _ e)
  exact hR h' tk' (fun b o e => hk b o (Heap.lt_size e) e) hk
end
section
open PySem.Calls PySem.NumText
def IsHex (c : Nat) : Prop := (48 ≤ c ∧ c ≤ 57) ∨ (65 ≤ c ∧ c ≤ 70) ∨ (97 ≤ c ∧ c ≤ 102)
def hexD (c : Nat) : Nat := if c ≤ 57 then c - 48 else if c ≤ 70 then c - 55 else c - 87
def AllHex (cs : List Nat) : Prop := ∀ c ∈ cs, IsHex c
def hexVal (cs : List Nat) : Nat := cs.foldl (fun acc c => acc * 16 + hexD c) 0
theorem AllHex.tail {c : Nat} {cs : List Nat} (h : AllHex (c :: cs)) : AllHex cs := fun d hd => h d (List.mem_cons_of_mem _ hd)
theorem AllHex.head {c : Nat} {cs : List Nat} (h : AllHex (c :: cs)) : IsHex c := h c (List.mem_cons_self ..)
theorem hexAll {P : Nat → Prop} (h : ∀ c : Fin 103, (48 ≤ c.1 ∧ c.1 ≤ 57) ∨ (65 ≤ c.1 ∧ c.1 ≤ 70) ∨ (97 ≤ c.1 ∧ c.1 ≤ 102) → P c.1) {c : Nat} (hc : IsHex c) : P c :=
  h ⟨c, Nat.lt_succ_of_le (hc.elim (fun h => Nat.le_trans h.2 (by decide)) fun h => h.elim (fun h => Nat.le_trans h.2 (by decide)) (·.2))⟩ hc
theorem hexD_lt {c : Nat} (h : IsHex c) : hexD c < 16 := hexAll (P := fun c => hexD c < 16) (by decide +kernel) h
theorem digit_hex {c : Nat} (h : IsHex c) : digit? c = some (hexD c) := hexAll (P := fun c => digit? c = some (hexD c)) (by decide +kernel) h
theorem hex_in {c : Nat} (h : IsHex c) : 47 < c ∧ c < 128 ∧ (c == 95) = false := hexAll (P := fun c => 47 < c ∧ c < 128 ∧ (c == 95) = false) (by decide +kernel) h
theorem step_hex {ds : Array Nat} {b : Bool} {c : Nat} (h : IsHex c) : NumText.step 16 (ds, b) c = some (ds.push (hexD c), true) := by
  unfold NumText.step
  rw [(hex_in h).2.2, if_neg Bool.false_ne_true, digit_hex h]
  exact if_pos (hexD_lt h)
theorem foldl_hex : ∀ (cs : List Nat) (ds : Array Nat), AllHex cs → cs.foldlM (NumText.step 16) (ds, true) = some (cs.foldl (fun acc c => acc.push (hexD c)) ds, true)
  | [], _, _ => rfl
  | c :: cs, ds, h => by
    rw [List.foldlM_cons, step_hex h.head]
    show cs.foldlM (NumText.step 16) (ds.push (hexD c), true) = _
    exact foldl_hex cs (ds.push (hexD c)) h.tail
theorem digits_hex {cs : List Nat} (h : AllHex cs) (hne : cs ≠ []) : digits? 16 cs = some (cs.foldl (fun acc c => acc.push (hexD c)) #[]) := by
  cases cs with
  | nil => exact absurd rfl hne
  | cons c cs =>
    unfold digits?
    rw [List.foldlM_cons, step_hex h.head]
    show (cs.foldlM (NumText.step 16) ((#[] : Array Nat).push (hexD c), true)).bind _ = _
    rw [foldl_hex cs _ h.tail]
    rfl
theorem push_hex : ∀ (cs : List Nat) (ds : Array Nat), (cs.foldl (fun acc c => acc.push (hexD c)) ds).foldl (fun acc d => acc * 16 + d) 0 = cs.foldl (fun acc c => acc * 16 + hexD c) (ds.foldl (fun acc d => acc * 16 + d) 0)
  | [], _ => rfl
  | c :: cs, ds => by
    rw [List.foldl_cons, push_hex cs (ds.push (hexD c)), List.foldl_cons]
    congr 1
    simp
theorem blank_hex {c : Nat} (h : IsHex c) : 33 ≤ c := Nat.le_trans (by decide) (hex_in h).1
theorem drop_hex {cs : List Nat} (h : AllHex cs) : cs.dropWhile blank = cs := by
  cases cs with
  | nil => rfl
  | cons c cs => exact dropWhile_of (blank_hex h.head)
theorem prefix_hex {cs : List Nat} (h : AllHex cs) : prefix? cs = none ∨ prefix? cs = some 2 := by
  unfold prefix?
  split
  · rename_i c r
    have hc : IsHex c := h c (.tail _ (.head _))
    have k := hexAll (P := fun c => (c == 120 || c == 88) = false ∧ (c == 111 || c == 79) = false) (by decide +kernel) hc
    rw [k.1, k.2, if_neg Bool.false_ne_true, if_neg Bool.false_ne_true]
    split
    · exact .inr rfl
    · exact .inl rfl
  · exact .inl rfl
theorem based_hex {cs : List Nat} (h : AllHex cs) : based 16 cs = (16, false, cs) := by
  unfold based
  rcases prefix_hex h with e | e <;> rw [e] <;> rfl
theorem read_hex {cs : List Nat} (h : AllHex cs) (hne : cs ≠ []) : (int_private% "readNumeral") 0 16 cs = (int_private% "Numeral.value") ((hexVal cs : Nat) : Int) := by
  have hs : sign cs = (false, cs) := by
    cases cs with
    | nil => exact absurd rfl hne
    | cons c cs => have hc := (hex_in h.head).1; exact sign_of (Nat.ne_of_gt (Nat.lt_trans (by decide) hc)) (Nat.ne_of_gt (Nat.lt_trans (by decide) hc))
  have hr : AllHex cs.reverse := fun d hd => h d (List.mem_reverse.mp hd)
  rw [readNumeral_eq, drop_hex h, hs]
  dsimp only
  rw [based_hex h]
  dsimp only
  rw [drop_hex hr, List.reverse_reverse, digits_hex h hne]
  unfold judge
  dsimp only
  rw [push_hex]
  rfl
theorem wp_text16 {M : Model} {A : Around} {E : Value → Shared → Prop} {s : Shared} {Q : Value → Shared → Prop} {v : Value} {text : List Nat} {n : Int}
    (hs : (text.takeWhile (· != 0)).length ≤ 640) (hr : (int_private% "readNumeral") 0 16 (text.takeWhile (· != 0)) = (int_private% "Numeral.value") n)
    (ha : ((text.takeWhile (· != 0)).length == text.length) = true) (h : Q (.int n s.toks) { s with toks := s.toks + 1 }) :
    wpAny M A ((int_private% "intFromText") v text 16) Q E s := by
  obtain ⟨hp, g, d, tk, os⟩ := s
  repeat (any_goals (first
    | assumption
    | (with_reducible refine wpAny_ite_true (decide_eq_true hs) ?_)
    | (with_reducible refine wpAny_ite_true (decide_eq_true ha) ?_)
    | wp_step))
  all_goals (try rw [hr])
  all_goals (try dsimp only)
  repeat (any_goals (first
    | assumption
    | (with_reducible refine wpAny_ite_true (decide_eq_true hs) ?_)
    | (with_reducible refine wpAny_ite_true (decide_eq_true ha) ?_)
    | wp_step))
set_option maxHeartbeats 4000000 in
theorem gives_16 {x : PySem.Str} {u t : Tok} {n : Int} (hl : x.cps.toList.length ≤ 640) (hh : AllHex x.cps.toList) (hne : x.cps.toList ≠ []) (hn : ((hexVal x.cps.toList : Nat) : Int) = n) :
    Gives (Builtin.«int.__new__» ⟨[.type "int", .str x u, .int 16 t], []⟩) (.int n) :=
  .of_wp fun M A E s Q h => by
    obtain ⟨hp, g, d, tk, os⟩ := s
    have f1 := F.conv_sub_int
    have f2 := F.madeHere_int
    have f6 : typeOf (.str x u) = pure (.type "str") := rfl
    have ht : x.cps.toList.takeWhile (· != 0) = x.cps.toList := takeWhile_all fun c hc => bne_iff_ne.mpr (Nat.ne_of_gt (Nat.zero_lt_of_lt (hex_in (hh c hc)).1))
    have hr := read_hex hh hne
    rw [hn] at hr
    have hasc : x.cps.all (· < 128) = true := by
      rw [← Array.all_toList, List.all_eq_true]
      exact fun c hc => decide_eq_true (hex_in (hh c hc)).2.1
    have hk := KIN.Hid.mk (And.intro hl (And.intro ht hr))
    clear hl ht hr
    repeat (any_goals (first
      | assumption
      | ((with_reducible show wpAny _ _ ((int_private% "intFromText") _ _ _) _ _ _); refine stop_here ?_)
      | wp_step))
    obtain ⟨hl, ht, hr⟩ := hk.out
    rw [if_pos hasc]
    refine wp_text16 (by rw [ht]; exact hl) (by rw [ht]; exact hr) (by rw [ht]; exact beq_self_eq_true _) ?_
    exact wpAny_pure ⟨_, rfl, h⟩
theorem typeCall_16 (a b : Value) : checkTypeCall "int" ⟨[a, b], []⟩ = pure () := by kernel_rfl
theorem newCall_16 (a b : Value) : checkBuiltinCall "int.__new__" ⟨[.type "int", a, b], []⟩ = pure () := by kernel_rfl
theorem args_16 (o a b : Value) : argsOk "object.__init__" ⟨[o, a, b], []⟩ := by unfold argsOk; kernel_rfl
theorem call_int_16 {w : World} {A : Around} {E : Value → Shared → Prop} {s : Shared} {Q : Value → Shared → Prop} {x : PySem.Str} {u t : Tok} (hl : x.cps.toList.length ≤ 640) (hh : AllHex x.cps.toList) (hne : x.cps.toList ≠ [])
    (h : Q (.int ((hexVal x.cps.toList : Nat) : Int) s.toks) { s with toks := s.toks + 1 }) : wpAny (model pw w) A (call (.type "int") [.str x u, .int 16 t]) Q E s :=
  callType_new F.called_int F.newNe_int (typeCall_16 _ _) (newCall_16 _ _) (fun obj => args_16 obj _ _) F.entry_int_new (gives_16 hl hh hne rfl).meets (show (Made.int _).post _ s from ⟨rfl, h⟩)
theorem chr_hex : ∀ c : Fin 128, (∃ k, k < 22 ∧ chr k = ⟨#[c.val]⟩) ∨ ¬ ((48 ≤ c.val ∧ c.val ≤ 57) ∨ (65 ≤ c.val ∧ c.val ≤ 70) ∨ (97 ≤ c.val ∧ c.val ≤ 102)) := by decide +kernel
theorem hexes_of {x : Str} (h : AllHex x.cps.toList) : Hexes x := by
  intro i c hc
  have hm : c ∈ x.cps.toList := by rw [Array.mem_toList_iff]; exact Array.mem_of_getElem? hc
  have hx := h c hm
  rcases chr_hex ⟨c, (hex_in hx).2.1⟩ with h | h
  · exact h
  · exact absurd hx h
end
section
set_option maxHeartbeats 8000000
open PySem.Calls
theorem fill_wf4 : kk = kk ∧ PySem.Challenge.rw_kq0052_01 = PySem.Challenge.rw_kq0052_01 := by
  k_fill
  exact ⟨rfl, rfl⟩

local macro_rules | `(tactic| walk_at "call ref") => `(tactic| (with_reducible refine st2 ?_))
local macro_rules | `(tactic| walk_at "getMethod ref") => `(tactic| (with_reducible refine st36 ?_))
local macro_rules | `(tactic| walk_at "call builtin:frozenset.issuperset") => `(tactic| (with_reducible refine st3 ?_))
local macro_rules | `(tactic| walk_at "call type:int") => `(tactic| (with_reducible refine st3 ?_))
theorem so_at {w : World} {h : Heap} (X : (kk w.params).In h) : h.get? 22 = some (stK w.params 22).obj := X 22 _ (by rfl)

def NewTup (h : Heap) (v : Value) (h' : Heap) (vs : List Value) : Prop := ∃ l, v = .ref l ∧ h.get? l = none ∧ h'.get? l = some { cls := .type "tuple", data := .seq vs.toArray 0 }
theorem end_tup {h : Heap} {L' l : Addr} {h' : Heap} {vs : List Value} {rest : List (Addr × Obj)} (N : News h L' h' ((l, { cls := .type "tuple", data := .seq vs.toArray 0 }) :: rest)) :
    NewTup h (.ref l) h' vs := ⟨l, rfl, (N _ (.head _)).2.2, (N _ (.head _)).1⟩
theorem phc_ok (w : World) (src sl : PySem.Str) (tx tp th : Tok) (pos n : Int) (hsl : Txt.slice src (some pos) (some (pos + n)) = sl) (hlen : (sl.length : Int) = n) (h0 : 0 ≤ pos) (h1 : 1 ≤ n) (h2 : pos + n ≤ src.length) (h3 : src.length ≤ 200) (hh : AllHex sl.cps.toList) (hv0 : hexVal sl.cps.toList < 1114112) (hv1 : ¬ (55296 ≤ hexVal sl.cps.toList ∧ hexVal sl.cps.toList < 57344)) : Spec w 45 [.str src tx, .int pos tp, .int n th] 4 60 (fun h => True) (fun h v h' => ∃ t1 t2, NewTup h v h' [.int (pos + n) t1, .str ⟨#[hexVal sl.cps.toList]⟩ t2]) := by
  revert w src sl tx tp th pos n
  (refine pk6 (i1 := nW) ?_; generalize p6_1 _ = w; generalize p6_2 _ = src; generalize p6_3 _ = sl; generalize p6_4 _ = tx; generalize p6_5 _ = tp; generalize p6_6 _ = th); (refine pk2 ?_; generalize p2_1 _ = pos; generalize p2_2 _ = n)
  intro hsl hlen h0 h1 h2 h3 hh hv0 hv1
  (refine pk6 ?_; generalize p6_1 _ = mean; generalize p6_2 _ = mg; generalize p6_3 _ = mb; generalize p6_4 _ = dp; generalize p6_5 _ = un; generalize p6_6 _ = fr); (refine pk4 (i2 := nS) ?_; generalize p4_1 _ = gd; generalize p4_2 _ = s; generalize p4_3 _ = Q; generalize p4_4 _ = E)
  intro X T hd hu hP hret
  k_dflt (refine' enter0 (binds := [(ofS "src", .str src tx), (ofS "pos", .int pos tp), (ofS "hex_len", .int n th)]) X T ?k6 ?k7 ?k8 ?kB ?k9 ?c5 ?c2 ?c3 ?c4 ?_; (case k6 => k_is); (case k7 => k_is); (case k8 => (show dp < _; lia)); (case kB => exact BindsTo.of_eq (by kernel_rfl)); (case c5 => decide +kernel); (case k9 => exact locs (by kernel_rfl)); (case c2 => kernel_rfl); (case c3 => kernel_rfl); (case c4 => kernel_rfl))
  (refine pk2 ?_; generalize p2_1 _ = L'; generalize p2_2 _ = h₁)
  intro F N
  replace F : Fr s.heap L' h₁ (fun y => List.lookup y [(ofS "hex_len", .int n th), (ofS "pos", .int pos tp), (ofS "src", .str src tx)]) := F
  have hlen' : ((Txt.slice src (some pos) (some (pos + n))).length : Int) = n := by rw [hsl]; exact hlen
  k_steps
  · exact absurd hlen' ‹_›
  rename_i F1 N1 _
  have X1 := X.keeps F1.keep
  show wpAny _ _ (getMethod (Value.ref _) _ _) _ _ _
  (with_reducible refine' getMethod_builtin (T := "frozenset") (id := "frozenset.issuperset") ?g1 FI.plainAttrs_frozenset FI.slot FI.ty ?g2 ?_)
  case g1 => exact ⟨_, so_at X1, rfl⟩
  case g2 => exact fun a e => by injection e with e; subst e; exact ⟨_, so_at X1, rfl⟩
  k_steps
  show wpAny _ _ (call (.builtin "frozenset.issuperset") [.ref 22, .str (Txt.slice src (some pos) (some (pos + n))) _]) _ _ _
  refine call_issuperset rfl (stK_holds w.params 22) (stK_fit w.params 22) (so_at X1) (by rw [hsl]; exact hexes_of hh) fun h2 tk2 hg2 _ => ?_
  replace hg2 : Grow _ h2 := hg2
  have F2 := F1.after hg2
  have N2 := News.grown N1 hg2
  have X2 := X1.keeps hg2
  clear F1 N1 X1
  have hh' : AllHex (Txt.slice src (some pos) (some (pos + n))).cps.toList := by rw [hsl]; exact hh
  k_steps
  show wpAny _ _ (call (.type "int") [.str (Txt.slice src (some pos) (some (pos + n))) _, .int 16 _]) _ _ _
  refine call_int_16 ?_ hh' ?_ ?_
  · rw [Array.length_toList]; have : (Txt.slice src (some pos) (some (pos + n))).cps.size = (Txt.slice src (some pos) (some (pos + n))).length := rfl
    lia
  · intro e
    have : (Txt.slice src (some pos) (some (pos + n))).cps.toList.length = (Txt.slice src (some pos) (some (pos + n))).length := Array.length_toList
    rw [e] at this; simp at this; lia
  k_steps
  rename_i F3 N3
  have X3 := X.keeps F3.keep
  have T3 := T.keeps F3.keep
  show wpAny _ _ (call (.ref 59) [.int _ _]) _ _ _
  refine (isu_spec w _ _) _ _ _ _ _ _ _ _ _ _ X3 T3 ?_ ?_ trivial ?_
  · show dp + 1 + 2 < _; lia
  · show un + 3 + 20 < _; lia
  rintro v h4 tk4 hg4 rfl
  replace hg4 : Grow _ h4 := hg4
  have F4 := F3.after hg4
  have N4 := News.grown N3 hg4
  clear F3 N3 X3 T3
  rw [hsl] at F4 ⊢
  have hd5 : decide ((0 : Int) ≤ ((hexVal sl.cps.toList : Nat) : Int)) = true := by simp
  k_steps
  rename_i F5 N5 _
  refine hret _ _ _ F5.keep (⟨_, _, end_tup N5⟩)
end
section
set_option maxHeartbeats 1000000
open PySem.Calls
section
variable {prog : Program} {w : World} {A₀ A : Around} {s : Shared} {base h₀ : Heap} {L : Addr} {m : PySem.Str → Option Value} {news : List (Addr × Obj)} {K : Frag} {p : Program} {loose : List PySem.Str} {mean : ExcName → Option Value} {mg mb : PySem.Str → Option Value}
    {R : Result → Shared → Prop} {name qual : PySem.Str} {params : Arguments} {body : List Stmt} {scope : Scope} {dV kV doc pm cdv ct oc : Value} {an od : Option Addr} {osl : Array (Option Value)} {f : Addr} {args : Args} {binds : List (PySem.Str × Value)} {env : Env}
theorem code_defSX (B : Below A₀ base [] h₀) (F : Fr h₀ L s.heap m) (X₀ : K.In h₀) (N : News h₀ L s.heap news) (T : Top p loose mean mg mb h₀) (hA : A.frames = some [env]) (hf : env.frame = some L) (hke : env.scope.kind = .function)
    (ho : K.lookup f = some ⟨oc, od, .func (fnOf name qual params body scope dV kV doc pm an cdv ct), osl⟩) (hcd : codeIn K cdv qual = true) (hroom : A.depth < recursionLimit)
    (hbind : BindsTo s (fnOf name qual params body scope dV kV doc pm an cdv ct) args binds) (hloc : ∀ y ∈ binds, scope.names.lookup y.1 = some .local)
    (h : ∀ g L' h₁, Fr h₀ L g m → Fr g L' h₁ (fun y => binds.reverse.lookup y) → News g L' h₁ news → Below A base [env] g → K.In g → Top p loose mean mg mb g → KtsDicts ([env].filterMap (·.frame)) g →
      wpAny (model prog w) (A.deeper (envOf qual scope L' f cdv)) (execs body (envOf qual scope L' f cdv))
        (fun fl s' => LeaveS0 ([env].filterMap (·.frame)) h₀ L m g R (match fl with | .ret v => v | _ => .none) s')
        (fun e s' => wpAny (model prog w) (A.deeper (envOf qual scope L' f cdv)) (leaving (envOf qual scope L' f cdv) e) (fun _ s'' => R (.error e) s'') (fun e' s'' => R (.error e') s'') s')
        { s with heap := h₁, toks := s.toks + binds.length })
    (hco : scope.isCoroutine = false) (hgen : scope.isGenerator = false) (hk : scope.kind = .function)
    (hcell : ∀ x ∈ scope.names, x.2 ≠ .cell) : codeAny (model prog w) A (.call (.ref f) args) R s := by
  have X := X₀.keeps F.keep
  have hfm : ∀ b ∈ [env].filterMap (·.frame), b = L := fun b hb => by
    obtain ⟨e, he, hfe⟩ := List.mem_filterMap.mp hb
    rw [List.mem_singleton.mp he, hf] at hfe
    exact (Option.some.inj hfe).symm
  refine codeAny_call_def (fd := fnOf name qual params body scope dV kV doc pm an cdv ct) (body := body) (binds := binds) hroom (X _ _ ho) rfl (T.nolimit.keeps F.keep) (codeRec_of X hcd) rfl hbind hcell hloc (fun h₁ hns hk₁ => ?_) hco hgen hk
  obtain ⟨FG, BG, st, _⟩ := groundX (R := R) B F N hA hf hke
  obtain ⟨oL, es, ep, hLg, hLd, hLk, hLf⟩ := id FG.ns
  have hNs : ∀ (sl : Array (Option Value)) h', h'.get? L = some { oL with slots := sl } → Heap.Ns h' L m := fun sl h' e => ⟨_, es, ep, e, hLd, hLk, hLf⟩
  refine wpAny_mono (h _ s.heap.objs.size h₁ FG ⟨hns, fun b o e => hk₁ b o (of_hideAll _ e), Nat.le_of_eq (hideAll_size _ _)⟩
    (fun p hp => ⟨hk₁ _ _ (N p hp).1, Nat.ne_of_lt (Heap.lt_size (N p hp).1), hideAll_none _ (List.mem_map_of_mem hp)⟩) BG (X₀.keeps st) (T.keeps st) (fun b hb => by
      rw [hfm b hb]; exact ⟨oL, es, ep, hLg, hLd⟩)) (fun fl s' hl => ?_) fun _ _ y => y
  obtain ⟨g', L', m', news', T', F', N', k⟩ := hl
  have nL₀ : h₀.get? L = none := kts_self F
  obtain ⟨sl, hs⟩ := T'.up hLg
  refine k ⟨hNs sl _ (F'.keep _ _ hs), fun b o e => F'.keep b o (T'.other b o (st b o e) (fun q => by
    rw [hfm b q, nL₀] at e; cases e)), F.above⟩ fun p hp => ⟨(N' p hp).1, fun q => ?_, ?_⟩
  · have := (N' p hp).2.2; rw [q, hs] at this; cases this
  · cases q : h₀.get? p.1 with
    | none => rfl
    | some o =>
      obtain ⟨sl', hs'⟩ := T'.up (st _ _ q)
      have := (N' p hp).2.2
      rw [hs'] at this
      cases this
end
abbrev clsT : Obj := excClassObj (ofS "TOMLDecodeError") (ofS "TOMLDecodeError") 35 34 [.type "ValueError"] [.type "ValueError", .type "Exception", .type "BaseException", .type "object"] true [] [] false none none (some (.ref 26)) none (some (.str (ofS "TOMLDecodeError") 248)) (some (.str (ofS "TOMLDecodeError") 256)) (some (.bool true)) "ValueError.__new__"
theorem clsT_at {P : Params} {h : Heap} (X : (kk P).In h) : h.get? 35 = some clsT := X 35 _ (by kernel_rfl)
section
variable {w : World} {A : Around} {s : Shared} {E : Value → Shared → Prop}
def RaisableT (E : Value → Shared → Prop) (v : Value) (s₁ : Shared) : Prop :=
  ∃ e t, v = .ref e ∧ s₁.heap.get? 35 = some clsT ∧ s₁.heap.get? e = some { cls := .ref 35, data := .fields #[.ref t, .none, .none, .none, .bool false, .none] } ∧ E (.ref e) s₁
theorem Raise_T {e : Expr} {pos : Pos} {env : Env} {Q : Flow → Shared → Prop} (hh : A.handled = none) (h : wpAny (model pw w) A (eval e env) (RaisableT E) E s) : wpAny (model pw w) A (exec (.Raise (some e) none pos) env) Q E s := by
  show wpAny (model pw w) A (do standAt pos; raiseStmt env (some (do let v ← eval e env; standAt pos; pure v)) none) Q E s
  refine wpAny_bind (wpAny_standAt ?_)
  refine wpAny_raiseStmt_made_sub (nm := ofS "TOMLDecodeError") (q := ofS "TOMLDecodeError") (C := 35) (N := 34) (bs := [.type "ValueError"]) (bm := [.type "ValueError", .type "Exception", .type "BaseException", .type "object"]) (hdct := true) (sn := []) (sub := []) (ab := false) (col := none) (dd := none) (k0 := some (.ref 26)) (k1 := none) (k2 := some (.str (ofS "TOMLDecodeError") 248)) (k3 := some (.str (ofS "TOMLDecodeError") 256)) (k5 := some (.bool true)) (newId := "ValueError.__new__") (by decide +kernel) hh (wpAny_bind (wpAny_mono h (fun v s₁ h₁ => wpAny_bind (wpAny_standAt (wpAny_pure ?_))) fun _ _ x => x))
  exact h₁
noncomputable def es34 (P : Params) : Array DictEntry := #[⟨PyData.keyHash P (ofS "__module__"), (.str (ofS "__module__") 255), (.str (ofS "cpy313.tomllib._parser") 201)⟩, ⟨PyData.keyHash P (ofS "__firstlineno__"), (.str (ofS "__firstlineno__") 259), (.int (8) 258)⟩, ⟨PyData.keyHash P (ofS "__static_attributes__"), (.str (ofS "__static_attributes__") 260), (.ref 33)⟩, ⟨PyData.keyHash P (ofS "__weakref__"), (.str (ofS "__weakref__") 262), (.ref 36)⟩, ⟨PyData.keyHash P (ofS "__doc__"), (.str (ofS "__doc__") 263), .none⟩]
noncomputable def obj34 (P : Params) : Obj := ⟨.type "dict", none, .dict (es34 P) 3, #[]⟩
theorem ns34 {P : Params} {h : Heap} (X : (kk P).In h) : ∃ mN, h.Ns 34 mN ∧ mN "__init__" = none := by
  refine ⟨_, ⟨obj34 P, es34 P, 3, X 34 _ (by kernel_rfl), rfl, ?_, fun _ => rfl⟩, ?_⟩
  · intro e he
    unfold es34 at he
    simp only [List.mem_toArray, List.mem_cons, List.not_mem_nil, or_false] at he
    rcases he with rfl | rfl | rfl | rfl | rfl <;> exact ⟨_, _, rfl⟩
  · kernel_rfl
theorem new_T {x : PySem.Str} {t : Tok} {Q : Value → Shared → Prop} (X : (kk w.params).In s.heap) (hq : ∀ h' e, Heap.MadeExcOf s.heap h' e (.ref 35) [.str x t] → Q (.ref e) { s with heap := h' }) :
    wpAny (model pw w) A (call (.ref 35) [.str x t]) Q E s := by
  obtain ⟨mN, hN, hni⟩ := ns34 X
  obtain ⟨h, g, d, tk, os⟩ := s
  exact wpAny_call_exc_sub PySem.F.excBase_ValueError (clsT_at X) hN hni hq
end
theorem news_ne {g h : Heap} {L e t : Addr} {news : List (Addr × Obj)} (N : News g L h news) (he : h.get? e = none) (ht : h.get? t = none) : ∀ q ∈ news, q.1 ≠ e ∧ q.1 ≠ t := fun q hq =>
  ⟨fun z => (by have := (N q hq).1; rw [z, he] at this; cases this), fun z => (by have := (N q hq).1; rw [z, ht] at this; cases this)⟩
theorem made_hide {g h : Heap} {L e t : Addr} {m : PySem.Str → Option Value} {vs : List Value} {news : List (Addr × Obj)} {C : Value} (F : Fr g L h m)
    (N : News g L h ((e, { cls := C, data := .fields #[.ref t, .none, .none, .none, .bool false, .none] }) :: (t, { cls := .type "tuple", data := .seq vs.toArray }) :: news)) (he : ∀ q ∈ news, q.1 ≠ e ∧ q.1 ≠ t) :
    ∃ h₁, Heap.MadeExcOf h₁ h e C vs ∧ Fr g L h₁ m ∧ News g L h₁ news := by
  have n1 := N _ (.head _)
  have n2 := N _ (.tail _ (.head _))
  refine ⟨hideAll h [e, t], ⟨fun b o q => of_hideAll _ q, hideAll_none _ (.head _), t, n1.1, hideAll_none _ (.tail _ (.head _)), n2.1⟩, ⟨?_, fun b o q => hideAll_get _ (F.keep b o q) ?_, F.above⟩, fun q hq => ?_⟩
  · obtain ⟨o, es, ep, ho, r⟩ := F.ns
    refine ⟨o, es, ep, hideAll_get _ ho ?_, r⟩
    intro hm
    rcases List.mem_cons.mp hm with q | hm
    · exact n1.2.1 q.symm
    · exact n2.2.1 (List.mem_singleton.mp hm).symm
  · intro hm
    rcases List.mem_cons.mp hm with q' | hm
    · rw [q', n1.2.2] at q; cases q
    · rw [List.mem_singleton.mp hm, n2.2.2] at q; cases q
  · have n := N q (.tail _ (.tail _ hq))
    refine ⟨hideAll_get _ n.1 ?_, n.2⟩
    intro hm
    rcases List.mem_cons.mp hm with q' | hm
    · exact (he q hq).1 q'
    · exact (he q hq).2 (List.mem_singleton.mp hm)
section
variable {prog : Program} {w : World} {A : Around} {E : Value → Shared → Prop} {h : Heap} {g : Array GenState} {d : Drawn} {tk : Nat} {os : OsState} {e t0 : Addr} {oe : Obj} {ws : Array Value} {x : PySem.Str} {u : Tok}
open PySem.Builtin.BaseException in
theorem bexcArgs_T {M : Model} {Q : Value × List Value → Shared → Prop} (he : h.get? e = some oe) (hd : oe.data = .fields ws) (h0 : ws[0]? = some (.ref t0)) (ht : h.TupAt t0 [.str x u]) (hq : Q (.ref t0, [.str x u]) ⟨h, g, d, tk, os⟩) :
    wpAny M A (PySem.Builtin.BaseException.bexcArgs (.ref e)) Q E ⟨h, g, d, tk, os⟩ := by
  obtain ⟨ot, k, hto, _, htd⟩ := ht
  unfold PySem.Builtin.BaseException.bexcArgs
  refine wpAny_bind (wpAny_field he hd h0 (wpAny_bind (wpAny_seqItems hto htd ?_)))
  exact wpAny_pure hq
theorem entry_T {Q : PySem.Fin → Shared → Prop} (he : h.get? e = some oe) (hd : oe.data = .fields ws) (h0 : ws[0]? = some (.ref t0)) (ht : h.TupAt t0 [.str x u]) (hq : Q (.done (.ret (.str x u))) ⟨h, g, d, tk, os⟩) :
    wpAny (model prog w) A (PySem.Builtin.«BaseException.__str__» ⟨[.ref e], []⟩) Q E ⟨h, g, d, tk, os⟩ := by
  unfold PySem.Builtin.«BaseException.__str__»
  repeat (first | with_reducible refine bexcArgs_T he hd h0 ht ?_ | wp_step)
  exact hq
theorem check_T {M : Model} {Q : Unit → Shared → Prop} {P : Params} (X : (kk P).In h) (he : h.get? e = some oe) (hcls : oe.cls = .ref 35) (hq : Q () ⟨h, g, d, tk, os⟩) :
    wpAny M A (checkBuiltinCall "BaseException.__str__" ⟨[.ref e], []⟩) Q E ⟨h, g, d, tk, os⟩ := by
  have hC := clsT_at X
  have hcB : (Value.ref 35 :: [Value.type "ValueError", .type "Exception", .type "BaseException", .type "object"]).contains (.type "BaseException") = true := by decide +kernel
  have e1 : builtinKind "BaseException.__str__" = some .slot := by decide +kernel
  have e2 : splitId "BaseException.__str__" = some ("BaseException", "__str__") := by decide +kernel
  simp only [checkBuiltinCall, e1, e2]
  repeat (first | (with_reducible refine wpAny_loadPart_at he ?_; rw [hcls]) | with_reducible refine wpAny_loadPart_at hC ?_ | (with_reducible refine wpAny_isSubtype_exc hC ?_; rw [hcB]) | wp_step)
  exact hq
theorem strOf_T {P : Params} (X : (kk P).In h) (hu : A.units < cLine) (he : h.get? e = some oe) (hcls : oe.cls = .ref 35) (hd : oe.data = .fields ws) (h0 : ws[0]? = some (.ref t0)) (ht : h.TupAt t0 [.str x u]) {Q : Value → Shared → Prop}
    (hq : Q (.str x u) ⟨h, g, d, tk, os⟩) : wpAny (model prog w) A (PySem.Builtin.Str.strOf (.ref e)) Q E ⟨h, g, d, tk, os⟩ := by
  have hcall : ∀ {Q : Value → Shared → Prop}, Q (.str x u) ⟨h, g, d, tk, os⟩ → wpAny (model prog w) A (call (.builtin "BaseException.__str__") [.ref e]) Q E ⟨h, g, d, tk, os⟩ := fun hq =>
    wpAny_call (codeAny_call_builtin PySem.F.excStr_ValueError.str.plain PySem.F.entry_bexc_str (check_T X he hcls (entry_T he hd h0 ht hq)))
  have hN : ∃ mN, h.Ns 34 mN ∧ mN "__str__" = none := by
    refine ⟨_, ⟨obj34 P, es34 P, 3, X 34 _ (by kernel_rfl), rfl, ?_, fun _ => rfl⟩, ?_⟩
    · intro e he
      unfold es34 at he
      simp only [List.mem_toArray, List.mem_cons, List.not_mem_nil, or_false] at he
      rcases he with rfl | rfl | rfl | rfl | rfl <;> exact ⟨_, _, rfl⟩
    · kernel_rfl
  obtain ⟨mN, hN, hno⟩ := hN
  have hsp : ∀ {Q : Option Value → Shared → Prop}, Q (some (.str x u)) ⟨h, g, d, tk, os⟩ → wpAny (model prog w) A (callSpecial? (.ref e) "__str__") Q E ⟨h, g, d, tk, os⟩ := fun {Q} hq => by
    simp only [callSpecial?]
    refine wpAny_bind (wpAny_specialOf_inst he hcls (clsT_at X) hN hno PySem.F.excBase_ValueError.mroIs PySem.F.excStr_ValueError.str.lookup ?_)
    dsimp only
    simp only [PySem.F.excStr_ValueError.str.bind]
    exact wpAny_holding (wpAny_bind (wpAny_pure (wpAny_bind (hcall (wpAny_pure hq)))))
  unfold PySem.Builtin.Str.strOf
  repeat (first | with_reducible refine wpAny_cRoomFor hu ?_ | with_reducible refine hsp ?_ | wp_step)
  exact hq
theorem str_T {P : Params} (X : (kk P).In h) (hu : A.units + 2 < cLine) (he : h.get? e = some oe) (hcls : oe.cls = .ref 35) (hd : oe.data = .fields ws) (h0 : ws[0]? = some (.ref t0)) (ht : h.TupAt t0 [.str x u]) {Q : Value → Shared → Prop}
    (hq : Q (.str x u) ⟨h, g, d, tk, os⟩) : wpAny (model prog w) A (call (.type "str") [.ref e]) Q E ⟨h, g, d, tk, os⟩ :=
  callType_new F.called_str (by decide) (F.typeCall_str_1 _) (F.newCall_str_1 _) (fun obj => F.args_object_init_2 obj _) F.entry_str_new
    (meets_str_new (S := fun A' R s' => A'.units + 1 < cLine ∧ (kk P).In s'.heap ∧ s'.heap.get? e = some oe ∧ s'.heap.TupAt t0 [.str x u] ∧ R (.ok (.ret (.str x u))) s')
      fun _ _ A' _ s' hq => by
        obtain ⟨h', g', d', tk', os'⟩ := s'
        exact strOf_T (A := A'.in1) hq.2.1 hq.1 hq.2.2.1 hcls hd h0 hq.2.2.2.1 hq.2.2.2.2)
    ⟨(show A.units + 1 + 1 < cLine from hu), X, he, ht, typeIs_str _ _ _, hq⟩
end
end
section
set_option maxHeartbeats 8000000
open PySem.Calls
theorem fill_td : kk = kk ∧ PySem.Challenge.rw_kq0052_01 = PySem.Challenge.rw_kq0052_01 := by
  k_fill
  exact ⟨rfl, rfl⟩
local macro_rules | `(tactic| walk_at "getMethod ref") => `(tactic| (with_reducible refine st36 ?_))
local macro_rules | `(tactic| walk_at "call builtin:frozenset.issuperset") => `(tactic| (with_reducible refine st3 ?_))
local macro_rules | `(tactic| walk_at "call type:int") => `(tactic| (with_reducible refine st3 ?_))
local macro_rules | `(tactic| walk_at "exec FunctionDef") => `(tactic| (with_reducible refine st25 ?_))
local macro_rules | `(tactic| walk_at "call ref") => `(tactic| (with_reducible refine st4 ?_))
local macro_rules | `(tactic| walk_at "call ref") => `(tactic| (with_reducible refine st5 ?_))
local macro_rules | `(tactic| walk_at "exec Raise some none") => `(tactic| ((with_reducible show wpAny _ _ (exec (Stmt.Raise _ _ _) _) _ _ _); refine Raise_T rfl ?_))
local macro_rules | `(tactic| k_updF) => `(tactic| exact UpdF.head (by assumption))
def qCR : PySem.Str := ofS "suffixed_err.<locals>.coord_repr"
noncomputable def TabOk (ps : Array Value) (extra : List (Addr × Obj)) : Prop := (ps = #[] ∧ extra = []) ∨ ∃ c' oc' vs' t', ps = #[rawInt 21, rawInt 4, .ref c'] ∧ extra = [(c', oc')] ∧ oc'.data = .fields vs' ∧ vs'[1]? = some (.str qCR t')
noncomputable def SepOk (extra rest : List (Addr × Obj)) : Prop := (∀ q ∈ rest, q.1 ≠ 47) ∧ ∀ p ∈ extra, p.1 ≠ 47 ∧ ∀ q ∈ rest, q.1 ≠ p.1
theorem nest_both {M : Model} {A : Around} {E Q : Value → Shared → Prop} {s : Shared} {h₀ : Heap} {L a : Addr} {m mg mb : PySem.Str → Option Value} {cn : PySem.Str} {cs : Scope} {cl : List (PySem.Str × Addr)}
    {p : Program} {loose : List PySem.Str} {mean : ExcName → Option Value} {name qual : PySem.Str} {params : Arguments} {body : List Stmt} {scope : Scope} {pos : Pos} {firstLine : Nat} {clos : List (PySem.Str × Addr)} {ps : Array Value} {extra rest : List (Addr × Obj)}
    (F : Fr h₀ L s.heap m) (N : News h₀ L s.heap ((47, tabObj ps) :: (extra ++ rest))) (T : Top p loose mean mg mb h₀) (C : CodeHd h₀ 51 47) (hT : TabOk ps extra) (S : SepOk extra rest) (hq : qual = qCR)
    (hl : rawInt pos.line = rawInt 21) (hc : rawInt pos.col = rawInt 4) (h1 : codeAmong pos [] = none) (h2 : ∀ c', codeAmong pos [rawInt 21, rawInt 4, .ref c'] = some (.ref c'))
    (hcl : closureFor scope (envX cn cs L a (.ref 51) cl) = pure clos)
    (h : ∀ f c' oc vs t ctv doc h' tk, Fr h₀ L h' m → News h₀ L h' ((f, fnMade name qual params body scope clos doc ((mg "__name__").getD .none) c' ctv) :: (c', oc) :: (47, tabObj #[rawInt 21, rawInt 4, .ref c']) :: rest) →
      oc.data = .fields vs → vs[1]? = some (.str qual t) → SepOk [(c', oc)] rest → Q (.ref f) { s with heap := h', toks := tk }) :
    wpAny M A (makeFunction name qual params (.stmts body) scope (envX cn cs L a (.ref 51) cl) [] [] [] pos firstLine) Q E s := by
  rcases hT with ⟨rfl, rfl⟩ | ⟨c', oc, vs, t, rfl, rfl, hd, hv⟩
  · refine nest_K F N T C rfl (UpdF.head S.1) trivial h1 hcl fun f c' oc vs t ctv doc h' tk F' N' hd hv l1 _ => ?_
    rw [hl, hc] at N'
    refine h f c' oc vs t ctv doc h' tk F' N' hd hv ⟨S.1, fun q hq => ?_⟩
    rw [List.mem_singleton.mp hq]
    exact ⟨Nat.ne_of_gt (l1 _ (.head _)), fun q hq => Nat.ne_of_lt (l1 _ (.tail _ hq))⟩
  · refine nestHit_K F N T C rfl (.head _) True.intro (h2 c') hcl fun f ctv doc h' tk F' N' _ => ?_
    refine h f c' oc vs t ctv doc h' tk F' (fun x hx => N' x ?_) hd (hq ▸ hv) S
    rcases List.mem_cons.mp hx with rfl | hx
    · exact .head _
    · rcases List.mem_cons.mp hx with rfl | hx
      · exact .tail _ (.tail _ (.head _))
      · rcases List.mem_cons.mp hx with rfl | hx
        · exact .tail _ (.head _)
        · exact .tail _ (.tail _ (.tail _ hx))
theorem q_to {vs : Array Value} {q q' : PySem.Str} {t : Tok} (h : vs[1]? = some (.str q t)) (e : q = q') : vs[1]? = some (.str q' t) := e ▸ h
theorem news3 {p q x : Addr × Obj} {rest : List (Addr × Obj)} (h : x ∈ q :: p :: rest) : x ∈ p :: q :: rest := by
  rcases List.mem_cons.mp h with rfl | h
  · exact .tail _ (.head _)
  · rcases List.mem_cons.mp h with rfl | h
    · exact .head _
    · exact .tail _ (.tail _ h)
theorem told_unfit (w : World) (h₀ : Heap) (mg mb : PySem.Str → Option Value) (mean : ExcName → Option Value) (L fa : Addr) (m : PySem.Str → Option Value) (s : Shared) (Q E : Value → Shared → Prop)
   (X : (kk w.params).In h₀) (T : Top topProg LO mean mg mb h₀) (C47 : CodeHd h₀ 51 47) (K : Below callerA h₀ [] h₀) (F : Fr h₀ L s.heap m) (ps : Array Value) (extra rest : List (Addr × Obj)) (hT : TabOk ps extra) (N : News h₀ L s.heap ((47, tabObj ps) :: (extra ++ rest))) (hS : SepOk extra rest)
   (src sl : PySem.Str) (tx tp th : Tok) (pos n : Int) (hsl : Txt.slice src (some pos) (some (pos + n)) = sl) (hlen : (sl.length : Int) = n) (h0 : 0 ≤ pos) (h1 : 1 ≤ n) (h2 : pos + n = src.length) (h3 : src.length ≤ 200) (hh : AllHex sl.cps.toList) (hv1 : (55296 ≤ hexVal sl.cps.toList ∧ hexVal sl.cps.toList < 57344))
   (hret : ∀ h' tk u ps' extra', Fr h₀ L h' m → News h₀ L h' ((47, tabObj ps') :: (extra' ++ rest)) → SepOk extra' rest → TabOk ps' extra' →
     Q (.str (Str.empty ++ Str.ofString "Escaped character is not a Unicode scalar value" ++ Str.ofString " (at " ++ Str.ofString "end of document" ++ Str.ofString ")") u) { s with heap := h', toks := tk }) :
   wpAny (model pw w) (callerA.deeper (envX (ofS "law") (fnS (st 39)) L fa (.ref 210) (cellsFrom (L + 1) (fnS (st 39)).names []))) (call (.ref 179) [.str src tx, .int pos tp, .int n th]) Q E s := by
  revert w h₀ mg mb mean L fa m s Q E ps extra rest src sl tx tp th pos n
  (refine pk6 (i1 := nW) ?_; generalize p6_1 _ = w; generalize p6_2 _ = h₀; generalize p6_3 _ = mg; generalize p6_4 _ = mb; generalize p6_5 _ = mean; generalize p6_6 _ = L); (refine pk5 (i3 := nS) ?_; generalize p5_1 _ = fa; generalize p5_2 _ = m; generalize p5_3 _ = s; generalize p5_4 _ = Q; generalize p5_5 _ = E)
  intro X T C47 K F
  (refine pk3 ?_; generalize p3_1 _ = ps; generalize p3_2 _ = extra; generalize p3_3 _ = rest)
  intro hT1 N hS
  (refine pk6 ?_; generalize p6_1 _ = src; generalize p6_2 _ = sl; generalize p6_3 _ = tx; generalize p6_4 _ = tp; generalize p6_5 _ = th; generalize p6_6 _ = pos); (refine pk1 ?_; generalize p1_1 _ = n)
  intro hsl hlen h0 h1 h2 h3 hh hv1 hret
  have hlen' : ((Txt.slice src (some pos) (some (pos + n))).length : Int) = n := by rw [hsl]; exact hlen
  refine wpAny_call ?_
  refine' code_defSX (binds := [(ofS "src", .str src tx), (ofS "place", .int pos tp), (ofS "many", .int n th)]) K F X N T ?kA ?kF ?kK ?k6 ?k7 ?k8 ?k9 ?kB ?_ ?c2 ?c3 ?c4 ?c5
  case kA => exact rfl
  case kF => exact rfl
  case kK => exact rfl
  case k6 => k_is
  case k7 => k_is
  case k8 => k_room
  case k9 => exact BindsTo.of_eq (by kernel_rfl)
  case kB => exact locs (by kernel_rfl)
  case c2 => kernel_rfl
  case c3 => kernel_rfl
  case c4 => kernel_rfl
  case c5 => decide +kernel
  (refine pk3 ?_; generalize p3_1 _ = gT; generalize p3_2 _ = LT; generalize p3_3 _ = hT)
  intro FGT FT NT BT XT TT DT
  k_steps
  · exact absurd hlen' ‹_›
  rename Fr _ _ _ _ => F1
  rename News _ _ _ _ => N1
  rename Top _ _ _ _ _ _ => Tg
  rename Frag.In _ _ => Xg
  have X1 := Xg.keeps F1.keep
  show wpAny _ _ (getMethod (Value.ref _) _ _) _ _ _
  (with_reducible refine' getMethod_builtin (T := "frozenset") (id := "frozenset.issuperset") ?g1 FI.plainAttrs_frozenset FI.slot FI.ty ?g2 ?_)
  case g1 => exact ⟨_, so_at X1, rfl⟩
  case g2 => exact fun a e => by injection e with e; subst e; exact ⟨_, so_at X1, rfl⟩
  k_steps
  show wpAny _ _ (call (.builtin "frozenset.issuperset") [.ref 22, .str (Txt.slice src (some pos) (some (pos + n))) _]) _ _ _
  refine call_issuperset rfl (stK_holds w.params 22) (stK_fit w.params 22) (so_at X1) (by rw [hsl]; exact hexes_of hh) fun h2 tk2 hg2 _ => ?_
  replace hg2 : Grow _ h2 := hg2
  have F2 := F1.after hg2
  have N2 := News.grown N1 hg2
  have X2 := X1.keeps hg2
  clear F1 N1 X1
  have hh' : AllHex (Txt.slice src (some pos) (some (pos + n))).cps.toList := by rw [hsl]; exact hh
  k_steps
  show wpAny _ _ (call (.type "int") [.str (Txt.slice src (some pos) (some (pos + n))) _, .int 16 _]) _ _ _
  refine call_int_16 ?_ hh' ?_ ?_
  · rw [Array.length_toList]; have : (Txt.slice src (some pos) (some (pos + n))).cps.size = (Txt.slice src (some pos) (some (pos + n))).length := rfl
    omega
  · intro e
    have : (Txt.slice src (some pos) (some (pos + n))).cps.toList.length = (Txt.slice src (some pos) (some (pos + n))).length := Array.length_toList
    rw [e] at this; simp at this; omega
  k_steps
  rename Fr _ _ _ _ => F3
  rename News _ _ _ _ => N3
  have X3 := Xg.keeps F3.keep
  have T3 := Tg.keeps F3.keep
  show wpAny _ _ (call (.ref 59) [.int _ _]) _ _ _
  refine (isu_spec w _ _) _ _ _ _ _ _ _ _ _ _ X3 T3 ?_ ?_ trivial ?_
  · exact Nat.le_of_ble_eq_true (by kernel_rfl!)
  · exact Nat.le_of_ble_eq_true (by kernel_rfl!)
  rintro v h4 tk4 hg4 rfl
  replace hg4 : Grow _ h4 := hg4
  have F4 := F3.after hg4
  have N4 := News.grown N3 hg4
  clear F3 N3 X3 T3
  rw [hsl] at F4 ⊢
  have hd5 : decide (((0 : Int) ≤ ((hexVal sl.cps.toList : Nat) : Int) ∧ ((hexVal sl.cps.toList : Nat) : Int) ≤ 55295) ∨ 57344 ≤ ((hexVal sl.cps.toList : Nat) : Int) ∧ ((hexVal sl.cps.toList : Nat) : Int) ≤ 1114111) = false := by
    rw [decide_eq_false_iff_not]; omega
  rw [hd5]
  k_steps
  rename Fr _ _ _ _ => Fs
  rename News _ _ _ _ => Ns
  rename Top _ _ _ _ _ _ => Ts
  refine nestDef_K (Eq.refl []) (Eq.refl []) (Eq.refl []) ?_
  refine nest_both Fs Ns Ts (C47.keeps (Below.stays (by assumption))) hT1 hS (by kernel_rfl) (Eq.refl _) (Eq.refl _) (Eq.refl none) (fun _ => Eq.refl _) (Eq.refl _) ?_
  clear Fs Ns
  intro f c' oc vs t ctv doc hf tkf Ff Nf hdf hvf hSf
  k_steps
  rename Fr _ _ _ _ => Fs
  rename News _ _ _ _ => Ns
  rename Frag.In _ _ => Xs
  show wpAny _ _ (call (.ref 35) [.str _ _]) _ _ _
  refine new_T (Xs.keeps Fs.keep) fun h9 e9 hm9 => ?_
  have hk9 : Grow _ h9 := hm9.keeps
  have F9 := Fs.after hk9
  obtain ⟨t9, he9, ht9n, ht9⟩ := id hm9.there
  have fr9 : ∀ b, Heap.get? _ b = none → Heap.get? _ b = none := fun b e => kts_none Fs.keep (b := b) e
  have N9 := News.more F9 (News.more F9 (News.grown Ns hk9) ht9 (fun es n q => by cases q) (fr9 _ ht9n)) he9 (fun es n q => by cases q) (fr9 _ hm9.new)
  have hlt := news_ne Ns hm9.new ht9n
  clear Fs Ns fr9
  k_steps
  rename Fr _ _ _ _ => Fp
  rename News _ _ _ _ => Np
  rename Frag.In _ _ => Xp
  refine ⟨e9, t9, rfl, clsT_at (Xp.keeps Fp.keep), he9, ?_⟩
  obtain ⟨hz, hmz, Fz, Nz⟩ := made_hide Fp Np hlt
  show wpAny _ _ (leaving _ (.ref e9)) _ _ _
  refine leave_raiseS (by assumption) hmz Fz Nz ?_
  intro hR tR RS RK US
  k_steps
  rename_i hC gC nC tkC TC FC N2 gotX Nc KC XC PC DC
  have gotC := gotX
  obtain ⟨oc9, ot9, ws9, nt9, q1, q2, q3, q4, q5, q6, q7⟩ := gotX
  show wpAny _ _ (call (.type "str") [.ref e9]) _ _ _
  refine str_T (XC.keeps FC.keep) (Nat.le_of_ble_eq_true (by kernel_rfl!)) (N2 _ q1).1 q3 q4 q5 ⟨ot9, nt9, (N2 _ q2).1, q6, q7⟩ ?_
  clear N2 q1 q2 q3 q4 q5 q6 q7
  k_steps
  rename Fr _ _ _ _ => Fq
  rename News _ _ _ _ => Nq
  exact hret _ _ _ _ [(c', oc)] Fq (fun x hx => Nq x (.tail _ (news3 hx))) hSf (.inr ⟨c', oc, vs, t, rfl, rfl, hdf, q_to hvf (by kernel_rfl)⟩)
end
section
open PySem.W.X PySem.Calls
local macro_rules | `(tactic| walk_at "call ref") => `(tactic| (with_reducible refine st2 ?_))
local macro_rules | `(tactic| walk_at "pyIter ref") => `(tactic| (with_reducible refine st1 ?_))
local macro_rules | `(tactic| walk_at "eval ListComp") => `(tactic| (with_reducible refine st0 ?_))
section
set_option maxHeartbeats 2000000
open PySem.Calls
theorem range_list {β : Type} {n : Nat} {b : β} {f : Nat → β → Sem (ForInStep β)} : forIn [0:n] b f = forIn (List.range' 0 n) b f := by
  rw [Std.Legacy.Range.forIn_eq_forIn_range']
  have : ([0:n] : Std.Legacy.Range).size = n := by simp [Std.Legacy.Range.size]
  rw [this]
theorem two_turns {β : Type} {n : Nat} {b0 b1 : β} {f : Nat → β → Sem (ForInStep β)} (h0 : n = 0 → b0 = b1) (h1 : 0 < n → ∀ x, f x b0 = pure (.yield b1)) (h2 : ∀ x, f x b1 = pure (.done b1)) : forIn [0:n] b0 f = pure b1 := by
  rw [range_list]
  match n with
  | 0 => rw [h0 rfl]; rfl
  | 1 =>
    rw [List.range'_succ, List.forIn_cons, h1 (by lia), pure_bind]
    rfl
  | n + 2 =>
    rw [List.range'_succ, List.forIn_cons, h1 (by lia), pure_bind]
    rw [List.range'_succ]
    show forIn (_ :: _) b1 f = pure b1
    rw [List.forIn_cons, h2, pure_bind]
def bytesOut (f : Nat → List UInt8) (l : List Nat) : Array UInt8 := l.foldl (fun acc y => acc ++ (f y).toArray) #[]
theorem enc_eq (id : String) (c : Builtin._codecs.TextCodec) (self : Value) (s : PySem.Str) (hb : ∀ x ∈ s.cps.toList, c.bad x = false) (hz : (bytesOut c.bytesOf s.cps.toList).size ≤ sizeLine) :
    Builtin._codecs.encodeNarrow id c none self s = pure (bytesOut c.bytesOf s.cps.toList) := by
  have hbad : ∀ x ∈ s.cps, c.bad x = false := fun x hx => hb x (Array.mem_toList_iff.mpr hx)
  have hfind : Array.findIdx? c.bad s.cps = none := by
    rw [Array.findIdx?_eq_none_iff]; exact hbad
  have hz' : ¬ (bytesOut c.bytesOf s.cps.toList).size > sizeLine := by lia
  unfold Builtin._codecs.encodeNarrow
  refine (congrArg (fun m => m >>= _) (two_turns (b1 := (s.cps.size, bytesOut c.bytesOf s.cps.toList, {})) (fun h => ?_) (fun hn x => ?_) (fun x => ?_))).trans ?_
  · have : s.cps.size = 0 := h
    have e : s.cps = #[] := Array.eq_empty_of_size_eq_zero this
    rw [e]; rfl
  · have hn' : 0 < s.cps.size := hn
    have e0 : s.cps[0]? = some s.cps[0] := Array.getElem?_eq_getElem hn'
    have e1 : c.bad s.cps[0] = false := hbad _ (Array.getElem_mem _)
    have e2 : s.cps.extract 0 = s.cps := by simp
    dsimp only
    rw [if_neg (by simp)]
    rw [e0]
    dsimp only
    rw [e1]
    simp only [Bool.not_false, if_true]
    rw [e2, hfind]
    simp only [Option.getD_none, Nat.zero_add]
    rw [e2]
    unfold bytesOut
    rw [← Array.foldl_toList]
  · have e0 : s.cps[s.cps.size]? = none := by simp
    dsimp only
    rw [if_neg hz', e0]
  · rw [pure_bind]
theorem turns_eq {β : Type} {n : Nat} {f : Nat → β → Sem (ForInStep β)} (g : Nat → β) (h : ∀ i, i < n → ∀ x, f x (g i) = pure (.yield (g (i + 1)))) : forIn [0:n] (g 0) f = pure (g n) := by
  rw [range_list]
  have key : ∀ (k i a : Nat), i + k = n → forIn (List.range' a k) (g i) f = pure (g n) := by
    intro k
    induction k with
    | zero => intro i a hi; obtain rfl : i = n := by lia
              rfl
    | succ k ih =>
      intro i a hi
      rw [List.range'_succ, List.forIn_cons, h i (by lia), pure_bind]
      exact ih (i + 1) (a + 1) (by lia)
  exact key n 0 0 (by lia)
def natsOf (b : Array UInt8) : List Nat := b.toList.map UInt8.toNat
theorem dec_eq (id : String) (b : Array UInt8) (hb : ∀ x ∈ b.toList, x.toNat < 128) (hz : b.size ≤ sizeLine) (held : List Value) :
    Builtin._codecs.runDecoder id Builtin._codecs.asciiDecoder none true b 0 held = pure ((natsOf b).toArray, b.size) := by
  unfold Builtin._codecs.runDecoder
  refine (congrArg (fun m => m >>= _) (turns_eq (fun i => (i, ((natsOf b).take i).toArray, ({ held := held } : Builtin._codecs.Faults))) (fun i hi x => ?_))).trans ?_
  · have hl : (natsOf b).length = b.size := by simp [natsOf]
    have e0 : b[i]? = some b[i] := Array.getElem?_eq_getElem hi
    have e1 : b[i].toNat < 128 := hb _ (by simp)
    have e2 : b.getD i 0 = b[i] := by simp [Array.getD, hi]
    have e3 : (natsOf b).take (i + 1) = (natsOf b).take i ++ [b[i].toNat] := by
      rw [List.take_add_one]
      simp [natsOf, hi]
    dsimp only
    rw [if_neg (by rw [List.size_toArray, List.length_take]; lia), if_neg (by lia)]
    unfold Builtin._codecs.asciiDecoder
    dsimp only
    rw [e2, if_pos e1]
    unfold Builtin._codecs.Found.char
    dsimp only
    rw [e3]
    simp
  · rw [pure_bind]
    have hl : (natsOf b).length = b.size := by simp [natsOf]
    dsimp only
    rw [List.take_of_length_le (by lia)]
end
section
open PySem.W.X PySem.Calls
section
variable {prog : Program} {w : World} {A : Around} {E : Value → Shared → Prop} {h₀ : Heap} {chg : List (Addr × Obj)} {g : Array GenState} {d : Drawn} {os : OsState}
theorem allocM {news : List (Addr × Obj)} {h : Heap} {t : Nat} {o : Obj} {Q : Addr → Shared → Prop} (D : Mem h₀ h chg news) (hf : o.isFreed = false) (k : ∀ a h', Mem h₀ h' chg ((a, o) :: news) → Q a ⟨h', g, d, t, os⟩) :
    wpAny (model prog w) A (alloc o) Q E ⟨h, g, d, t, os⟩ := wpAny_alloc (k _ _ (D.alloc hf))
end
end
section
set_option maxHeartbeats 1000000
open PySem.Calls
theorem e_collect : entryFor table "proto.collect" = some Builtin.«proto.collect» := entryFor_of_tree (by kernel_rfl)
theorem e_iadd : entryFor table "list.__iadd__" = some Builtin.«list.__iadd__» := entryFor_of_tree (by kernel_rfl)
theorem p_collect : plainId "proto.collect" = true := by decide +kernel
theorem p_iadd : plainId "list.__iadd__" = true := by decide +kernel
theorem collect_list {w : World} {A : Around} {E Q : Value → Shared → Prop} {hp : Heap} {g : Array GenState} {d : Drawn} {tk : Nat} {os : OsState} {sl : Addr} {x : Value} {n : Nat}
    (ho : hp.get? sl = some { cls := .type "list", data := .seq #[x] n })
    (k : Q (.ref hp.objs.size) ⟨(hp.push { cls := .type "list", data := .seq #[] }).update hp.objs.size (Obj.mapSeq (· ++ #[x])), g, d, tk, os⟩) :
    wpAny (model pw w) A (runValue (.builtin "proto.collect" ⟨[.ref sl], []⟩)) Q E ⟨hp, g, d, tk, os⟩ := by
  refine wpAny_runValue (codeAny_builtin e_collect ?_)
  rw [Around.under_plainId p_collect _]
  show wpAny _ _ (newList [] >>= fun v => again (.builtin "list.__iadd__" ⟨[v, .ref sl], []⟩)) _ _ _
  refine wpAny_bind (wpAny_newList (wpAny_pure ⟨plainId_quiet p_iadd _, codeAny_builtin e_iadd ?_⟩))
  rw [Around.under_plainId p_iadd _]
  have ho' : (hp.push { cls := .type "list", data := .seq #[] }).get? sl = some { cls := .type "list", data := .seq #[x] n } := Heap.get?_push_of_some _ ho
  have hn : (hp.push { cls := .type "list", data := .seq #[] }).get? hp.objs.size = some { cls := .type "list", data := .seq #[] } := Heap.get?_push_size _ rfl
  show wpAny _ _ (Builtin.List.listExtendWith (.ref hp.objs.size) (.ref sl) (.ref hp.objs.size)) _ _ _
  unfold Builtin.List.listExtendWith
  refine wpAny_bind (wpAny_typeOf (T := "list") ⟨_, ho', rfl⟩ ?_)
  rw [if_pos (by simp)]
  refine wpAny_bind (wpAny_listItems ho' rfl (wpAny_bind (wpAny_listItems hn rfl ?_)))
  rw [if_neg (by simp)]
  show wpAny _ _ (updateSeq hp.objs.size (· ++ #[x]) >>= _) _ _ _
  unfold updateSeq
  repeat (first | assumption | wp_step)
end
section
open PySem.W.X PySem.Calls
@[irreducible] noncomputable def hup (a : Addr) (f : Obj → Obj) (h : Heap) : Heap := h.update a f
def UpdA (l : List (Addr × Obj)) (a : Addr) (f : Obj → Obj) (l' : List (Addr × Obj)) : Prop := ∃ i o, l[i]? = some (a, o) ∧ (f o).isFreed = false ∧ l' = l.set i (a, f o)
theorem updH {a : Addr} {f : Obj → Obj} {o : Obj} {l : List (Addr × Obj)} (hf : (f o).isFreed = false) : UpdA ((a, o) :: l) a f ((a, f o) :: l) := ⟨0, o, rfl, hf, rfl⟩
theorem updT {a : Addr} {f : Obj → Obj} {p : Addr × Obj} {l l' : List (Addr × Obj)} (u : UpdA l a f l') : UpdA (p :: l) a f (p :: l') := by
  obtain ⟨i, o, h1, h2, rfl⟩ := u
  exact ⟨i + 1, o, h1, h2, rfl⟩
section
variable {prog : Program} {w : World} {A : Around} {E : Value → Shared → Prop} {h₀ h : Heap} {chg l l' : List (Addr × Obj)} {g : Array GenState} {d : Drawn} {t : Nat} {os : OsState} {a : Addr} {o : Obj} {Q : Unit → Shared → Prop} {f : Obj → Obj} {q : Option Value}
theorem mem0 (D : Mem h₀ h chg ((a, o) :: l)) : h.get? a = some o := D.at 0 a o rfl
theorem memR (D : Mem h₀ h chg l) (m : (a, o) ∈ l) : h.get? a = some o := (D.nw _ m).1
theorem updpR (D : Mem h₀ h chg l) (u : UpdA l a f l') (k : Mem h₀ (hup a f h) chg l' → Q () ⟨hup a f h, g, d, t, os⟩) : wpAny (model prog w) A (updatePart a q f) Q E ⟨h, g, d, t, os⟩ := by
  obtain ⟨i, o, h1, h2, rfl⟩ := u
  unfold hup at k
  exact wpAny_updatePart (D.at i a o h1) (k (D.update (i := i) (o := o) h1 h2))
theorem updR (D : Mem h₀ h chg l) (u : UpdA l a f l') (k : Mem h₀ (hup a f h) chg l' → Q () ⟨hup a f h, g, d, t, os⟩) : wpAny (model prog w) A (update a f) Q E ⟨h, g, d, t, os⟩ := by
  obtain ⟨i, o, h1, h2, rfl⟩ := u
  unfold hup at k
  exact wpAny_update (D.at i a o h1) (k (D.update (i := i) (o := o) h1 h2))
end
end
section
set_option maxHeartbeats 4000000
open PySem.W.X PySem.Calls
abbrev RA : Around := { handled := none, depth := 500, frames := none, guards := none, units := 5000 }
theorem roomy {α : Type} {M : Model} {A : Around} {t : Sem α} {Q : α → Shared → Prop} {E : Value → Shared → Prop} {s : Shared} (hh : A.handled = none) (hd : A.depth ≤ 500) (hu : A.units ≤ 5000)
    (h : wpAny M RA t Q E s) : wpAny M A t Q E s :=
  fun Γ p hΓ => h Γ p ⟨hΓ.1.trans hh, Nat.le_trans hΓ.2.1 hd, fun l hl => (nomatch hl), fun g hg => (nomatch hg), Nat.le_trans hΓ.2.2.2.2 hu⟩
theorem collectM {w : World} {A : Around} {E Q : Value → Shared → Prop} {h₀ hp : Heap} {chg news : List (Addr × Obj)} {g : Array GenState} {d : Drawn} {tk : Nat} {os : OsState} {sl : Addr} {x : Value} {n : Nat}
    (D : Mem h₀ hp chg news) (ho : hp.get? sl = some { cls := .type "list", data := .seq #[x] n })
    (k : ∀ a h', Mem h₀ h' chg ((a, Obj.mapSeq (· ++ #[x]) { cls := .type "list", data := .seq #[] }) :: news) → Q (.ref a) ⟨h', g, d, tk, os⟩) :
    wpAny (model pw w) A (runValue (.builtin "proto.collect" ⟨[.ref sl], []⟩)) Q E ⟨hp, g, d, tk, os⟩ :=
  collect_list ho (k _ _ ((D.alloc rfl).update (i := 0) (o := { cls := .type "list", data := .seq #[] }) rfl rfl))
theorem tree_eq {α : Type} {M : Model} {A : Around} {t t' : Sem α} {Q : α → Shared → Prop} {E : Value → Shared → Prop} {s : Shared} (h : t = t') (x : wpAny M A t' Q E s) : wpAny M A t Q E s := h ▸ x
def tl_eq := @typeLookup.eq_1
theorem tc_never {α : Type} {M : Model} {A : Around} {m : Sem α} {k : Value → Sem α} {Q : α → Shared → Prop} {E : Value → Shared → Prop} {s : Shared} (h : wpAny M A m Q (fun _ _ => False) s) : wpAny M A (m.tryCatch k) Q E s :=
  wpAny_tryCatch (wpAny_mono h (fun _ _ q => q) fun _ _ f => f.elim)
theorem or_never {α : Type} {M : Model} {A : Around} {m : Sem α} {k : Value → Sem Unit} {Q : α → Shared → Prop} {E : Value → Shared → Prop} {s : Shared} (h : wpAny M A m Q (fun _ _ => False) s) : wpAny M A (m.onRaise k) Q E s :=
  wpAny_onRaise (wpAny_mono h (fun _ _ q => q) fun _ _ f => f.elim)
theorem att_never {α : Type} {M : Model} {A : Around} {m : Sem α} {Q : Except Value α → Shared → Prop} {E : Value → Shared → Prop} {s : Shared} (h : wpAny M A m (fun a => Q (.ok a)) (fun _ _ => False) s) : wpAny M A m.attempt Q E s :=
  wpAny_attempt (wpAny_mono h (fun _ _ q => q) fun _ _ f => f.elim)
theorem isid_obj : Builtin.Slots.isIdentifier (ofS "obj") = some true := by kernel_rfl

def Ends (Q : Value → Shared → Prop) (s : Shared) (R : Value → Heap → Prop) : Prop := ∀ v h' tk, R v h' → Q v { s with heap := h', toks := tk }
theorem Ends.use {Q : Value → Shared → Prop} {s : Shared} {R : Value → Heap → Prop} (h : Ends Q s R) {v : Value} {h' : Heap} {tk : Nat} (r : R v h') : Q v { s with heap := h', toks := tk } := h v h' tk r
theorem free_one {sc : Scope} (x : PySem.Str) (h : (sc.names.filter (·.2 == .free)).map (·.1) = [x]) : sc.freeNames = [x] := by
  unfold Scope.freeNames; rw [h]; exact List.mergeSort_singleton _
theorem free_nil {sc : Scope} (h : (sc.names.filter (·.2 == .free)).map (·.1) = []) : sc.freeNames = [] := by
  unfold Scope.freeNames; rw [h]; exact List.mergeSort_nil
theorem free_map {M : Model} {A : Around} {Q : List Value → Shared → Prop} {E : Value → Shared → Prop} {s : Shared} {sc : Scope} {l : List PySem.Str} (h : sc.freeNames = l) (x : wpAny M A (l.mapM mkText) Q E s) : wpAny M A (sc.freeNames.mapM mkText) Q E s := by rw [h]; exact x
theorem memC {h₀ h : Heap} {chg l : List (Addr × Obj)} {a : Addr} {o : Obj} (D : Mem h₀ h ((a, o) :: chg) l) : h.get? a = some o := D.atC 0 a o rfl
end
local macro_rules | `(tactic| walk_at "c2") => `(tactic| first
  | with_reducible (first
      | refine wpAny_bind ?_ | refine wpAny_pure ?_ | refine wpAny_holding ?_ | refine wpAny_standAt ?_ | refine wpAny_point ?_ | refine wpAny_rule ?_
      | refine tc_never ?_ | refine or_never ?_ | refine att_never ?_ | refine wpAny_askSetting ?_ | refine wpAny_mkInt' ?_ | refine wpAny_fresh' ?_
      | refine wpAny_of_eq (by assumption) ?_)
  | ((with_reducible show wpAny _ _ (alloc _) _ _ _); (with_reducible rename Mem _ _ _ _ => kD); (with_reducible refine allocD kD rfl ?_); generalize nad _ = a; generalize psh _ _ = h; (intro _); clear kD)
  | ((with_reducible first | refine' wpAny_load' ?cho ?_ | refine' wpAny_loadPart' ?cho ?_); (case cho => ((with_reducible rename Mem _ _ _ _ => kD); first | exact Mem.old kD _ _ (by with_reducible assumption) rfl | with_reducible exact memC kD | exact memR kD (by repeat (first | exact List.Mem.head _ | refine List.Mem.tail _ ?_)))))
  | ((with_reducible rename Mem _ _ _ _ => kD); (with_reducible first | refine' updpR kD ?u ?_ | refine' updR kD ?u ?_); (case u => (repeat (first | exact updH (by rfl) | apply updT))); generalize hup _ _ _ = h; (intro _); clear kD)
  | ((with_reducible show wpAny _ _ (List.mapM mkText (Scope.freeNames _)) _ _ _); first | refine free_map (l := []) (free_nil (by kernel_rfl!)) ?_ | refine free_map (l := [ofS "mycmp"]) (free_one (ofS "mycmp") (by kernel_rfl!)) ?_)
  | (with_reducible refine wpAny_of_eq (t := isSubtype (.type _) (.type _)) (a := true) (by rw [isSubtype_type]; kernel_rfl!) ?_)
  | (with_reducible refine wpAny_of_eq (t := isSubtype (.type _) (.type _)) (a := false) (by rw [isSubtype_type]; kernel_rfl!) ?_)
  | (with_reducible refine wpAny_of_eq (t := typeLookup (.type _) _) (a := none) (by rw [typeLookup_type, builtinLookup_eq_fast]; kernel_rfl!) ?_)
  | (with_reducible refine tree_eq (tl_eq (.ref _) _) ?_)
  | ((with_reducible refine wpAny_ite_false ?_ ?_); focus (kernel_rfl!; done))
  | ((with_reducible refine wpAny_ite_true ?_ ?_); focus (kernel_rfl!; done))
  | wp_delta
  | ((with_reducible refine wpAny_ite_false ?_ ?_); focus (simp [*]; done))
  | ((with_reducible refine wpAny_ite_true ?_ ?_); focus (simp [*]; done))
  | walk_at "c1z")
section
set_option maxHeartbeats 0
open PySem.W.X PySem.Calls
local macro_rules | `(tactic| x_close) => `(tactic| (refine' Ends.use ?h ?k; (case h => assumption); (case k => exact ⟨_, rfl, by assumption⟩)))
theorem super_call (w : World) (s : Shared) (Q E : Value → Shared → Prop) (a b ns : Addr) (t1 t2 : Tok) (ho : s.heap.get? a = some ⟨.type "type", none, .cls { name := ofS "K", bases := [.type "object"], mro := [.ref a, .type "object"], ns := ns, qualname := ofS "cmp_to_key.<locals>.K", hasDict := false, slotNames := [ofS "obj"], subclasses := [], abstract := false, collection := none, hasDel := false }, #[some (.ref b), none, some (.str (ofS "K") t1), some (.str (ofS "cmp_to_key.<locals>.K") t2), some (.builtin "object.__new__"), some (.bool false)]⟩)
  (hret : Ends Q s fun v h' => ∃ r, v = .ref r ∧ Mem s.heap h' [] [(r, ⟨.type "super", none, .fields #[.ref a, .ref a, .ref a], #[]⟩)]) :
  wpAny (model pw w) RA (call (.type "super") [.ref a, .ref a]) Q E s := by
  revert w s Q E a b ns t1 t2 ho hret
  (refine no_implicit_lambda% (pk6 (i1 := nW) (i2 := nS) ?_); generalize p6_1 _ = w; generalize p6_2 _ = s; generalize p6_3 _ = Q; generalize p6_4 _ = E; generalize p6_5 _ = a; generalize p6_6 _ = b); (refine no_implicit_lambda% (pk3 ?_); generalize p3_1 _ = ns; generalize p3_2 _ = t1; generalize p3_3 _ = t2)
  intro ho hret
  x_run
local macro_rules | `(tactic| walk_at "c1z") => `(tactic| (dsimp only))

theorem get_call (w : World) (s : Shared) (Q E : Value → Shared → Prop) (a b ns : Addr) (t1 t2 : Tok) (ho : s.heap.get? a = some ⟨.type "type", none, .cls { name := ofS "K", bases := [.type "object"], mro := [.ref a, .type "object"], ns := ns, qualname := ofS "cmp_to_key.<locals>.K", hasDict := false, slotNames := [ofS "obj"], subclasses := [], abstract := false, collection := none, hasDel := false }, #[some (.ref b), none, some (.str (ofS "K") t1), some (.str (ofS "cmp_to_key.<locals>.K") t2), some (.builtin "object.__new__"), some (.bool false)]⟩)
  (hret : Ends Q s fun v h' => ∃ r, v = .ref r ∧ Mem s.heap h' [] [(r, ⟨.type "builtin_function_or_method", none, .fields #[.builtin "object.__init_subclass__", .ref a], #[]⟩)]) :
  wpAny (model pw w) RA (call (.builtin "classmethod_descriptor.__get__") [.builtin "object.__init_subclass__", .none, .ref a]) Q E s := by
  x_run
local macro_rules | `(tactic| x_close) => `(tactic| (refine' Ends.use ?h ?k; (case h => assumption); (case k => exact ⟨rfl, rfl⟩)))
theorem isc_call (w : World) (s : Shared) (Q E : Value → Shared → Prop) (a b ns f : Addr) (t1 t2 : Tok) (ho : s.heap.get? a = some ⟨.type "type", none, .cls { name := ofS "K", bases := [.type "object"], mro := [.ref a, .type "object"], ns := ns, qualname := ofS "cmp_to_key.<locals>.K", hasDict := false, slotNames := [ofS "obj"], subclasses := [], abstract := false, collection := none, hasDel := false }, #[some (.ref b), none, some (.str (ofS "K") t1), some (.str (ofS "cmp_to_key.<locals>.K") t2), some (.builtin "object.__new__"), some (.bool false)]⟩) (hf : s.heap.get? f = some ⟨.type "builtin_function_or_method", none, .fields #[.builtin "object.__init_subclass__", .ref a], #[]⟩)
  (hret : Ends Q s fun v h' => v = .none ∧ h' = s.heap) :
  wpAny (model pw w) RA (call (.ref f) []) Q E s := by
  x_run
theorem for_drop {β : Type} {M : Model} {A : Around} {Q : β → Shared → Prop} {E : Value → Shared → Prop} {s : Shared} {a : Addr} {t : Value} {i : β} {f : Value → β → Sem (ForInStep β)} (x : wpAny M A (forIn [t] i f) Q E s) :
    wpAny M A (forIn (List.drop 1 (List.dropWhile (fun x => x != Value.ref a) [Value.ref a, t])) i f) Q E s := by simpa using x
local macro_rules | `(tactic| walk_at "c2") => `(tactic| ((with_reducible show wpAny _ _ (forIn (List.drop _ _) _ _) _ _ _); refine for_drop ?_))
theorem tls1 : typeLookup (.type "super") "__getattribute__" = pure (some (.builtin "super.__getattribute__")) := by rw [typeLookup_type, builtinLookup_eq_fast]; kernel_rfl
theorem e_sga : entryFor table "super.__getattribute__" = some Builtin.«super.__getattribute__» := entryFor_of_tree (by kernel_rfl)
theorem p_sga : plainId "super.__getattribute__" = true := by decide +kernel
theorem slot_sga : Slot "super" "__getattribute__" "super.__getattribute__" :=
  .of (owner := "super") (n := "__getattribute__") tls1 (by decide +kernel) (by decide +kernel) (by decide +kernel)
    (by first | exact .inl (by decide +kernel) | exact .inr (by decide +kernel)) (by rw [isSubtype_type]; kernel_rfl)
theorem a_sga (a b : Value) : argsOk "super.__getattribute__" ⟨[a, b], []⟩ := by
  unfold argsOk; kernel_rfl
theorem self_none (a : Addr) : (if (Value.ref a == Value.ref a) = true then Value.none else Value.ref a) = Value.none := by simp
theorem grow_of {h₀ h : Heap} {news : Made} (D : Mem h₀ h [] news) : Grow h₀ h := fun b o e => D.old b o e (by rw [Bool.or_eq_true]; exact .inr rfl)
theorem init_sub (w : World) (A : Around) (hh : A.handled = none) (hd : A.depth ≤ 400) (hu : A.units ≤ 4000) (h₀ : Heap) (hst : h₀.get? cStatics = some ⟨.none, none, .dict #[] 0, #[]⟩) (g : Array GenState) (dr : Drawn) (tk : Nat) (os : OsState) (Q E : Value → Shared → Prop) (a b ns r : Addr) (t1 t2 : Tok) (ho : h₀.get? a = some ⟨.type "type", none, .cls { name := ofS "K", bases := [.type "object"], mro := [.ref a, .type "object"], ns := ns, qualname := ofS "cmp_to_key.<locals>.K", hasDict := false, slotNames := [ofS "obj"], subclasses := [], abstract := false, collection := none, hasDel := false }, #[some (.ref b), none, some (.str (ofS "K") t1), some (.str (ofS "cmp_to_key.<locals>.K") t2), some (.builtin "object.__new__"), some (.bool false)]⟩)
  (hr : h₀.get? r = some ⟨.type "super", none, .fields #[.ref a, .ref a, .ref a], #[]⟩)
  (hret : Ends Q ⟨h₀, g, dr, tk, os⟩ fun v h' => ∃ f, v = .ref f ∧ Grow h₀ h' ∧ h'.get? f = some ⟨.type "builtin_function_or_method", none, .fields #[.builtin "object.__init_subclass__", .ref a], #[]⟩) :
  wpAny (model pw w) A (getAttr (.ref r) (ofS "__init_subclass__")) Q E ⟨h₀, g, dr, tk, os⟩ := by
  revert w A hh hd hu h₀ hst g dr tk os Q E a b ns r t1 t2 ho hr hret
  (refine no_implicit_lambda% (pk2 (i1 := nW) (i2 := nA) ?_); generalize p2_1 _ = w; generalize p2_2 _ = A)
  intro hh hd hu
  (refine no_implicit_lambda% (pk1 ?_); generalize p1_1 _ = h₀)
  intro hst
  (refine no_implicit_lambda% (pk6 (i2 := nD) ?_); generalize p6_1 _ = g; generalize p6_2 _ = dr; generalize p6_3 _ = tk; generalize p6_4 _ = os; generalize p6_5 _ = Q; generalize p6_6 _ = E); (refine no_implicit_lambda% (pk6 ?_); generalize p6_1 _ = a; generalize p6_2 _ = b; generalize p6_3 _ = ns; generalize p6_4 _ = r; generalize p6_5 _ = t1; generalize p6_6 _ = t2)
  intro ho hr hret
  have D := Mem.start h₀
  have q1 := tls1
  have q2 := slot_sga.bind (.ref r)
  repeat walk_at "c2"
  refine wpAny_call_entry slot_sga ⟨_, hr, rfl⟩ e_sga ?_ (a_sga _ _)
  unfold Builtin.«super.__getattribute__»
  repeat walk_at "c2"
  refine wpAny_of_eq (a := some (.builtin "classmethod_descriptor.__get__")) (by rw [typeLookup_type, builtinLookup_eq_fast]; kernel_rfl!) ?_
  repeat walk_at "c2"
  refine tree_eq (congrArg (fun x => call (.builtin "classmethod_descriptor.__get__") [.builtin "object.__init_subclass__", x, .ref a]) (self_none a)) ?_
  refine roomy hh (by show A.depth ≤ 500; omega) (by show A.units + 1 ≤ 5000; omega) (get_call w _ _ _ a b ns t1 t2 ho ?_)
  rintro v h' tk' ⟨f, rfl, D'⟩
  repeat walk_at "c2"
  refine ⟨_, rfl, ?_⟩
  repeat walk_at "c2"
  exact hret.use ⟨f, rfl, grow_of D', D'.at 0 _ _ rfl⟩
end
section
set_option maxHeartbeats 0
open PySem.W.X PySem.Calls
local macro_rules | `(tactic| walk_at "c1z") => `(tactic| (dsimp only))

local macro_rules | `(tactic| x_close) => `(tactic| (refine' Ends.use ?h ?k; (case h => assumption); (case k => exact ⟨_, rfl, by assumption⟩)))
theorem prep_call (w : World) (s : Shared) (Q E : Value → Shared → Prop) (f b : Addr) (t : Tok) (hf : s.heap.get? f = some ⟨.type "builtin_function_or_method", none, .fields #[.builtin "type.__prepare__", .type "type"], #[]⟩) (hb : s.heap.get? b = some ⟨.type "tuple", none, .seq #[.type "object"] 0, #[]⟩)
  (hret : Ends Q s fun v h' => ∃ r, v = .ref r ∧ Mem s.heap h' [] [(r, ⟨.type "dict", none, .dict #[] 0, #[]⟩)]) :
  wpAny (model pw w) RA (call (.ref f) [.str (ofS "K") t, .ref b]) Q E s := by
  x_run
theorem prep_call' (w : World) (s : Shared) (Q E : Value → Shared → Prop) (f b : Addr) (t : Tok) (hf : s.heap.get? f = some ⟨.type "builtin_function_or_method", none, .fields #[.builtin "type.__prepare__", .type "type"], #[]⟩) (hb : s.heap.get? b = some ⟨.type "tuple", none, .seq #[.type "object"] 0, #[]⟩)
  (hret : ∀ r h' tk', Mem s.heap h' [] [(r, ⟨.type "dict", none, .dict #[] 0, #[]⟩)] → Q (.ref r) { s with heap := h', toks := tk' }) :
  wpAny (model pw w) RA (call (.ref f) [.str (ofS "K") t, .ref b]) Q E s :=
  prep_call w s Q E f b t hf hb (by rintro v h' tk' ⟨r, rfl, D⟩; exact hret r h' tk' D)
theorem prep_ga (w : World) (s : Shared) (Q E : Value → Shared → Prop) (t : Tok)
  (hret : Ends Q s fun v h' => ∃ r, v = .ref r ∧ Mem s.heap h' [] [(r, ⟨.type "builtin_function_or_method", none, .fields #[.builtin "type.__prepare__", .type "type"], #[]⟩)]) :
  wpAny (model pw w) RA (call (.builtin "type.__getattribute__") [.type "type", .str (ofS "__prepare__") t]) Q E s := by
  x_run
theorem tlt1 : typeLookup (.type "type") "__getattribute__" = pure (some (.builtin "type.__getattribute__")) := by rw [typeLookup_type, builtinLookup_eq_fast]; kernel_rfl
theorem slot_tga : Slot "type" "__getattribute__" "type.__getattribute__" :=
  .of (owner := "type") (n := "__getattribute__") tlt1 (by decide +kernel) (by decide +kernel) (by decide +kernel)
    (by first | exact .inl (by decide +kernel) | exact .inr (by decide +kernel)) (by rw [isSubtype_type]; kernel_rfl)
theorem prep_get {w : World} {A : Around} (hh : A.handled = none) (hd : A.depth ≤ 400) (hu : A.units ≤ 4000) {h₀ : Heap} {g : Array GenState} {dr : Drawn} {tk : Nat} {os : OsState} {Q : Option Value → Shared → Prop} {E : Value → Shared → Prop}
  (hret : ∀ f h' tk', Grow h₀ h' → h'.get? f = some ⟨.type "builtin_function_or_method", none, .fields #[.builtin "type.__prepare__", .type "type"], #[]⟩ → Q (some (.ref f)) ⟨h', g, dr, tk', os⟩) :
  wpAny (model pw w) A (getAttr? (.type "type") (ofS "__prepare__")) Q E ⟨h₀, g, dr, tk, os⟩ := by
  have D := Mem.start h₀
  have q1 := tlt1
  have q2 := slot_tga.bind (.type "type")
  have q3 : typeOf (.type "type") = pure (.type "type") := by kernel_rfl
  repeat walk_at "c2"
  refine roomy hh (by omega) (by omega) (prep_ga w _ _ _ _ ?_)
  rintro v h' tk' ⟨f, rfl, D'⟩
  repeat walk_at "c2"
  exact hret _ _ _ (grow_of D') (D'.at 0 _ _ rfl)
end
section
open PySem.W.X PySem.Calls
theorem nolimit_of {h : Heap} (e : h.get? cStatics = some ⟨.none, none, .dict #[] 0, #[]⟩) : h.NoLimit := by
  refine ⟨fun _ => none, ⟨_, _, _, e, rfl, ?_⟩, rfl⟩
  exact ⟨fun e he => by simp at he, fun name => rfl⟩
section
variable {prog : Program} {w : World} {A : Around} {E : Value → Shared → Prop} {h₀ h : Heap} {chg l : List (Addr × Obj)} {g : Array GenState} {d : Drawn} {t : Nat} {os : OsState} {Q : Unit → Shared → Prop}
theorem upg {a c₀ : Addr} {q : Option Value} {f : Obj → Obj} {ps : Array Value} (more : Array Value) (D : Mem h₀ h chg l) (ht : h₀.TableAt c₀ a ps) (hw : away chg a = true) (hn : f (tableObj ps) = tableObj (ps ++ more))
    (k : ∀ h', Mem h₀ h' ((a, tableObj (ps ++ more)) :: chg) l → Q () ⟨h', g, d, t, os⟩) : wpAny (model prog w) A (updatePart a q f) Q E ⟨h, g, d, t, os⟩ :=
  wpAny_updatePart (D.keep a _ ht.2 (by rw [hw, Bool.or_true])) (k _ (D.grow ht hw hn))
theorem upg' {a c₀ : Addr} {f : Obj → Obj} {ps : Array Value} (more : Array Value) (D : Mem h₀ h chg l) (ht : h₀.TableAt c₀ a ps) (hw : away chg a = true) (hn : f (tableObj ps) = tableObj (ps ++ more))
    (k : ∀ h', Mem h₀ h' ((a, tableObj (ps ++ more)) :: chg) l → Q () ⟨h', g, d, t, os⟩) : wpAny (model prog w) A (update a f) Q E ⟨h, g, d, t, os⟩ :=
  wpAny_update (D.keep a _ ht.2 (by rw [hw, Bool.or_true])) (k _ (D.grow ht hw hn))
end
end
section
set_option maxHeartbeats 4000000
open PySem.W.X PySem.Calls
local macro_rules | `(tactic| walk_at "c1z") => `(tactic| (dsimp only))

def hexD16 (n : Nat) : Nat := if n < 10 then 48 + n else 87 + n
def hexL (b : Array UInt8) : List Nat := b.toList.flatMap fun c => [hexD16 (c.toNat / 16), hexD16 (c.toNat % 16)]
theorem hexL_len (b : Array UInt8) : (hexL b).length = 2 * b.size := by
  unfold hexL
  rw [← Array.length_toList]
  generalize b.toList = l
  induction l with
  | nil => rfl
  | cons c l ih => rw [List.flatMap_cons, List.length_append, ih, List.length_cons]; simp; lia
theorem hexFold (l : List UInt8) : ∀ (i : Nat) (acc : Array Nat), (l.zipIdx i).foldl (fun (out : Array Nat) (x : UInt8 × Nat) => (out.push (PySem.Builtin.Bytes.hexDigit (x.1.toNat / 16))).push (PySem.Builtin.Bytes.hexDigit (x.1.toNat % 16))) acc = acc ++ (l.flatMap fun c => [hexD16 (c.toNat / 16), hexD16 (c.toNat % 16)]).toArray := by
  induction l with
  | nil => intro i acc; simp
  | cons c l ih =>
    intro i acc
    rw [List.zipIdx_cons, List.foldl_cons, ih, List.flatMap_cons]
    apply Array.toList_inj.mp
    simp [hexD16, PySem.Builtin.Bytes.hexDigit]
theorem sl_hex : Slot "bytes" "hex" "bytes.hex" :=
  .of (owner := "bytes") (n := "hex") (by rw [typeLookup_type, builtinLookup_eq_fast]; kernel_rfl) (by decide +kernel) (by decide +kernel) (by decide +kernel)
    (by first | exact .inl (by decide +kernel) | exact .inr (by decide +kernel)) (by rw [isSubtype_type]; kernel_rfl)
theorem en_hex : entryFor table "bytes.hex" = some Builtin.«bytes.hex» := entryFor_of_tree (by kernel_rfl)
theorem ar_hex (a : Value) : argsOk "bytes.hex" ⟨[a], []⟩ := by unfold argsOk; kernel_rfl
theorem sl_upper : Slot "bytes" "upper" "bytes.upper" :=
  .of (owner := "bytes") (n := "upper") (by rw [typeLookup_type, builtinLookup_eq_fast]; kernel_rfl) (by decide +kernel) (by decide +kernel) (by decide +kernel)
    (by first | exact .inl (by decide +kernel) | exact .inr (by decide +kernel)) (by rw [isSubtype_type]; kernel_rfl)
theorem en_upper : entryFor table "bytes.upper" = some Builtin.«bytes.upper» := entryFor_of_tree (by kernel_rfl)
theorem ar_upper (a : Value) : argsOk "bytes.upper" ⟨[a], []⟩ := by unfold argsOk; kernel_rfl
theorem sl_enc : Slot "str" "encode" "str.encode" :=
  .of (owner := "str") (n := "encode") (by rw [typeLookup_type, builtinLookup_eq_fast]; kernel_rfl) (by decide +kernel) (by decide +kernel) (by decide +kernel)
    (by first | exact .inl (by decide +kernel) | exact .inr (by decide +kernel)) (by rw [isSubtype_type]; kernel_rfl)
theorem en_enc : entryFor table "str.encode" = some Builtin.«str.encode» := entryFor_of_tree (by kernel_rfl)
theorem ar_enc (a b : Value) : argsOk "str.encode" ⟨[a, b], []⟩ := by unfold argsOk; kernel_rfl

section
variable {w : World} {A : Around} {E : Value → Shared → Prop} {Q : Value → Shared → Prop} {h : Heap} {g : Array GenState} {d : Drawn} {tk : Nat} {os : OsState}
theorem call_hex {b : Array UInt8} {t : Tok} (hb : b.size ≤ 200) (k : ∀ tk', Q (.str (tx (hexL b)) tk) ⟨h, g, d, tk', os⟩) : wpAny (model pw w) A (call (.builtin "bytes.hex") [.bytes b t]) Q E ⟨h, g, d, tk, os⟩ := by
  refine wpAny_call_entry sl_hex rfl en_hex ?_ (ar_hex _)
  unfold Builtin.«bytes.hex» PySem.Builtin.Bytes.hexM PySem.Builtin.Bytes.hexOf
  have D := Mem.start h
  repeat walk_at "c2"
  have e := hexFold b.toList 0 #[]
  simp only [Array.empty_append] at e
  have e' := congrArg PySem.Str.mk e
  refine wpAny_ite_false ?_ ?_
  · rw [e']
    rw [decide_eq_false_iff_not]
    have := hexL_len b
    show ¬ (hexL b).toArray.size > sizeLine
    rw [List.size_toArray, this, sizeLine_eq]; lia
  rw [e']
  repeat walk_at "c2"
  exact ⟨_, rfl, k _⟩
theorem call_upper {b : Array UInt8} {t : Tok} (hb : b.size ≤ 400) (k : ∀ tk', Q (.bytes (b.toList.map PySem.Builtin.Bytes.toUpper).toArray tk) ⟨h, g, d, tk', os⟩) : wpAny (model pw w) A (call (.builtin "bytes.upper") [.bytes b t]) Q E ⟨h, g, d, tk, os⟩ := by
  refine wpAny_call_entry sl_upper rfl en_upper ?_ (ar_upper _)
  unfold Builtin.«bytes.upper» PySem.Builtin.Bytes.mappedM
  have D := Mem.start h
  repeat walk_at "c2"
  refine wpAny_ite_false ?_ ?_
  · rw [decide_eq_false_iff_not, List.size_toArray, List.length_map, Array.length_toList, sizeLine_eq]; lia
  repeat walk_at "c2"
  exact ⟨_, rfl, k _⟩
theorem bytesOut_size (f : Nat → List UInt8) (n : Nat) (hf : ∀ y, (f y).length ≤ n) : ∀ (l : List Nat) (acc : Array UInt8), (l.foldl (fun acc y => acc ++ (f y).toArray) acc).size ≤ acc.size + n * l.length
  | [], acc => by simp
  | y :: l, acc => by
    rw [List.foldl_cons]
    have := bytesOut_size f n hf l (acc ++ (f y).toArray)
    have e : (acc ++ (f y).toArray).size = acc.size + (f y).length := by simp
    have h2 := hf y
    rw [List.length_cons, Nat.mul_succ]
    lia
theorem call_enc_ascii {x : PySem.Str} {t u : Tok} (hx : ∀ c ∈ x.cps.toList, c < 128) (hl : x.cps.toList.length ≤ 1000) (k : ∀ tk', Q (.bytes (bytesOut (fun c => [c.toUInt8]) x.cps.toList) tk) ⟨h, g, d, tk', os⟩) :
    wpAny (model pw w) A (call (.builtin "str.encode") [.str x t, .str (ofS "ascii") u]) Q E ⟨h, g, d, tk, os⟩ := by
  refine wpAny_call_entry sl_enc rfl en_enc ?_ (ar_enc _ _)
  have hz : (bytesOut Builtin._codecs.asciiCodec.bytesOf x.cps.toList).size ≤ sizeLine := by
    have := bytesOut_size Builtin._codecs.asciiCodec.bytesOf 1 (fun y => by show [_].length ≤ 1; simp) x.cps.toList #[]
    unfold bytesOut
    rw [sizeLine_eq]
    have e : (#[] : Array UInt8).size = 0 := rfl
    lia
  have q1 := enc_eq "str.encode" Builtin._codecs.asciiCodec (.str x t) x (fun c hc => by have := hx c hc; show decide (c ≥ 128) = false; simp; lia) hz
  unfold Builtin.«str.encode»
  have D := Mem.start h
  repeat walk_at "c2"
  exact ⟨_, rfl, k _⟩
theorem call_enc_utf8 {x : PySem.Str} {t u : Tok} (hx : ∀ c ∈ x.cps.toList, PySem.Str.isSurrogate c = false) (hf : ∀ y, (PySem.Str.utf8Of y).length ≤ 4) (hl : x.cps.toList.length ≤ 1000) (k : ∀ tk', Q (.bytes (bytesOut PySem.Str.utf8Of x.cps.toList) tk) ⟨h, g, d, tk', os⟩) :
    wpAny (model pw w) A (call (.builtin "str.encode") [.str x t, .str (ofS "utf-8") u]) Q E ⟨h, g, d, tk, os⟩ := by
  refine wpAny_call_entry sl_enc rfl en_enc ?_ (ar_enc _ _)
  have hz : (bytesOut Builtin._codecs.utf8Codec.bytesOf x.cps.toList).size ≤ sizeLine := by
    have := bytesOut_size Builtin._codecs.utf8Codec.bytesOf 4 hf x.cps.toList #[]
    unfold bytesOut
    rw [sizeLine_eq]
    have e : (#[] : Array UInt8).size = 0 := rfl
    lia
  have q1 := enc_eq "str.encode" Builtin._codecs.utf8Codec (.str x t) x hx hz
  unfold Builtin.«str.encode»
  have D := Mem.start h
  repeat walk_at "c2"
  exact ⟨_, rfl, k _⟩
end
end
section
set_option maxHeartbeats 4000000
open PySem.W.X PySem.Calls
theorem fill_bx : kk = kk ∧ PySem.Challenge.rw_kq0052_01 = PySem.Challenge.rw_kq0052_01 := by
  k_fill
  exact ⟨rfl, rfl⟩
local macro_rules | `(tactic| walk_at "call type:type") => `(tactic| ((with_reducible show wpAny _ _ (call (Value.type "type") [Value.bytes _ _]) _ _ _); refine call_type_of (Tx := "bytes") (typeIs_bytes _ _ _) (by decide) ?_))
section
variable (w : World) (mean : ExcName → Option Value) (mg mb : PySem.Str → Option Value) (dp un : Nat) (fr : Option (List Env)) (gd : Option (List Code)) (s : Shared) (Q E : Value → Shared → Prop)
  (X : (kk w.params).In s.heap) (T : Top topProg LO mean mg mb s.heap) (hd : dp ≤ 500)
include X T hd
theorem buffer_x (b : Array UInt8) (t : Tok) (hret : Ends Q s fun v h' => v = .bytes b t ∧ Grow s.heap h') : wpAny (model pw w) (AA dp un fr gd) (call (.ref 94) [.bytes b t]) Q E s := by
  k_dflt (refine' enter0 (binds := [(ofS "data", .bytes b t)]) X T ?k6 ?k7 ?k8 ?kB ?k9 ?c5 ?c2 ?c3 ?c4 ?_; (case k6 => k_is); (case k7 => k_is); (case k8 => (show dp < _; unfold recursionLimit; omega)); (case kB => exact BindsTo.of_eq (by kernel_rfl)); (case c5 => decide +kernel); (case k9 => exact locs (by kernel_rfl)); (case c2 => kernel_rfl); (case c3 => kernel_rfl); (case c4 => kernel_rfl))
  intro L' h₁ F N
  replace F : Fr s.heap L' h₁ (fun y => List.lookup y [(ofS "data", .bytes b t)]) := F
  k_steps
  rename Fr _ _ _ _ => F2
  exact hret _ _ _ ⟨rfl, F2.keep⟩
theorem abuffer_x (b : Array UInt8) (t : Tok) (hret : Ends Q s fun v h' => v = .bytes b t ∧ Grow s.heap h') : wpAny (model pw w) (AA dp un fr gd) (call (.ref 87) [.bytes b t]) Q E s := by
  k_dflt (refine' enter0 (binds := [(ofS "data", .bytes b t)]) X T ?k6 ?k7 ?k8 ?kB ?k9 ?c5 ?c2 ?c3 ?c4 ?_; (case k6 => k_is); (case k7 => k_is); (case k8 => (show dp < _; unfold recursionLimit; omega)); (case kB => exact BindsTo.of_eq (by kernel_rfl)); (case c5 => decide +kernel); (case k9 => exact locs (by kernel_rfl)); (case c2 => kernel_rfl); (case c3 => kernel_rfl); (case c4 => kernel_rfl))
  intro L' h₁ F N
  replace F : Fr s.heap L' h₁ (fun y => List.lookup y [(ofS "data", .bytes b t)]) := F
  k_steps
  rename Fr _ _ _ _ => F2
  exact hret _ _ _ ⟨rfl, F2.keep⟩
theorem truth_x (hret : Ends Q s fun v h' => v = .bool false ∧ Grow s.heap h') : wpAny (model pw w) (AA dp un fr gd) (call (.ref 101) [.bool false]) Q E s := by
  k_dflt (refine' enter0 (binds := [(ofS "x", .bool false)]) X T ?k6 ?k7 ?k8 ?kB ?k9 ?c5 ?c2 ?c3 ?c4 ?_; (case k6 => k_is); (case k7 => k_is); (case k8 => (show dp < _; unfold recursionLimit; omega)); (case kB => exact BindsTo.of_eq (by kernel_rfl)); (case c5 => decide +kernel); (case k9 => exact locs (by kernel_rfl)); (case c2 => kernel_rfl); (case c3 => kernel_rfl); (case c4 => kernel_rfl))
  intro L' h₁ F N
  replace F : Fr s.heap L' h₁ (fun y => List.lookup y [(ofS "x", .bool false)]) := F
  k_steps
  rename Fr _ _ _ _ => F2
  exact hret _ _ _ ⟨rfl, F2.keep⟩
theorem bfd_x (b : Array UInt8) (t : Tok) (hret : Ends Q s fun v h' => v = .bytes b t ∧ Grow s.heap h') : wpAny (model pw w) (AA dp un fr gd) (call (.ref 67) [.bytes b t]) Q E s := by
  k_dflt (refine' enter0 (binds := [(ofS "s", .bytes b t)]) X T ?k6 ?k7 ?k8 ?kB ?k9 ?c5 ?c2 ?c3 ?c4 ?_; (case k6 => k_is); (case k7 => k_is); (case k8 => (show dp < _; unfold recursionLimit; omega)); (case kB => exact BindsTo.of_eq (by kernel_rfl)); (case c5 => decide +kernel); (case k9 => exact locs (by kernel_rfl)); (case c2 => kernel_rfl); (case c3 => kernel_rfl); (case c4 => kernel_rfl))
  intro L' h₁ F N
  replace F : Fr s.heap L' h₁ (fun y => List.lookup y [(ofS "s", .bytes b t)]) := F
  k_steps
  rename Fr _ _ _ _ => F2
  exact hret _ _ _ ⟨rfl, F2.keep⟩
end
end
section
set_option maxHeartbeats 8000000
open PySem.Calls
theorem fill_bh : kk = kk ∧ PySem.Challenge.rw_kq0052_01 = PySem.Challenge.rw_kq0052_01 := by
  k_fill
  exact ⟨rfl, rfl⟩
theorem pa_bytes : PlainAttrs "bytes" := PySem.W.FB.plainAttrs_bytes
theorem pa_str : PlainAttrs "str" := PySem.F.plainAttrs_str
theorem ty_hex : typeOf (.builtin "bytes.hex") = pure (.type "method_descriptor") := by show builtinType _ = _; rw [builtinType_eq_fast]; kernel_rfl
theorem ty_upper : typeOf (.builtin "bytes.upper") = pure (.type "method_descriptor") := by show builtinType _ = _; rw [builtinType_eq_fast]; kernel_rfl
theorem ty_enc : typeOf (.builtin "str.encode") = pure (.type "method_descriptor") := by show builtinType _ = _; rw [builtinType_eq_fast]; kernel_rfl
section
variable {M : Model} {A : Around} {E : Value → Shared → Prop} {s : Shared} {Q : Value × List Value → Shared → Prop} {t : Tok} {pl : Sem Bool}
theorem gm_hex {b : Array UInt8} (h : Q (.builtin "bytes.hex", [.bytes b t]) s) : wpAny M A (getMethod (.bytes b t) (ofS "hex") pl) Q E s := by
  (with_reducible refine' getMethod_builtin (T := "bytes") (id := "bytes.hex") ?g1 pa_bytes sl_hex ty_hex ?g2 h)
  case g1 => exact rfl
  case g2 => exact fun a e => by cases e
theorem gm_upper {b : Array UInt8} (h : Q (.builtin "bytes.upper", [.bytes b t]) s) : wpAny M A (getMethod (.bytes b t) (ofS "upper") pl) Q E s := by
  (with_reducible refine' getMethod_builtin (T := "bytes") (id := "bytes.upper") ?g1 pa_bytes sl_upper ty_upper ?g2 h)
  case g1 => exact rfl
  case g2 => exact fun a e => by cases e
theorem gm_enc {x : PySem.Str} (h : Q (.builtin "str.encode", [.str x t]) s) : wpAny M A (getMethod (.str x t) (ofS "encode") pl) Q E s := by
  (with_reducible refine' getMethod_builtin (T := "str") (id := "str.encode") ?g1 pa_str sl_enc ty_enc ?g2 h)
  case g1 => exact rfl
  case g2 => exact fun a e => by cases e
end
local macro_rules | `(tactic| walk_at "getMethod bytes") => `(tactic| with_reducible first | refine gm_hex ?_ | refine gm_upper ?_)
local macro_rules | `(tactic| walk_at "getMethod str") => `(tactic| (with_reducible refine gm_enc ?_))
def SpecS (w : World) (f : Addr) (vs : List Value) (D U : Nat) (P : Heap → Prop) (R : Heap → Value → Heap → Prop) : Prop :=
  ∀ (mean : ExcName → Option Value) (mg mb : PySem.Str → Option Value) (dp un : Nat) (fr : Option (List Env)) (gd : Option (List Code)) (s : Shared) (Q E : Value → Shared → Prop),
    (kk w.params).In s.heap → Top topProg LO mean mg mb s.heap → dp ≤ D → un ≤ U → P s.heap →
    (∀ v h' tk', Grow s.heap h' → R s.heap v h' → Q v { s with heap := h', toks := tk' }) →
    wpAny (model pw w) (AA dp un fr gd) (call (.ref f) vs) Q E s
theorem hexL_lt (b : Array UInt8) : ∀ c ∈ (tx (hexL b)).cps.toList, c < 128 := by
  intro c hc
  have hc : c ∈ hexL b := hc
  unfold hexL at hc
  obtain ⟨x, _, hx⟩ := List.mem_flatMap.mp hc
  simp only [List.mem_cons, List.not_mem_nil, or_false] at hx
  have := x.toNat_lt
  rcases hx with rfl | rfl <;> (unfold hexD16; split <;> lia)
theorem bytesOut_one (f : Nat → UInt8) (l : List Nat) : (bytesOut (fun c => [f c]) l).size = l.length := by
  have key : ∀ (l : List Nat) (acc : Array UInt8), (l.foldl (fun acc y => acc ++ [f y].toArray) acc).size = acc.size + l.length := by
    intro l
    induction l with
    | nil => intro acc; simp
    | cons a l ih => intro acc; rw [List.foldl_cons, ih]; simp; lia
  have := key l #[]
  simpa [bytesOut] using this
theorem b2ahex_spec (w : World) (b : Array UInt8) (t : Tok) (hb : b.size ≤ 200) : SpecS w 133 [.bytes b t] 320 3200 (fun h => True) (fun h v h' => ∃ t', v = .bytes (bytesOut (fun c => [c.toUInt8]) (hexL b)) t') := by
  revert w b t
  (refine pk3 (i1 := nW) ?_; generalize p3_1 _ = w; generalize p3_2 _ = b; generalize p3_3 _ = t)
  intro hb
  (refine pk6 ?_; generalize p6_1 _ = mean; generalize p6_2 _ = mg; generalize p6_3 _ = mb; generalize p6_4 _ = dp; generalize p6_5 _ = un; generalize p6_6 _ = fr); (refine pk4 (i2 := nS) ?_; generalize p4_1 _ = gd; generalize p4_2 _ = s; generalize p4_3 _ = Q; generalize p4_4 _ = E)
  intro X T hd hu hP hret
  k_dflt (refine' enter0 (binds := [(ofS "data", .bytes b t), (ofS "sep", .ref 125), (ofS "bytes_per_sep", .int 1 388)]) X T ?k6 ?k7 ?k8 ?kB ?k9 ?c5 ?c2 ?c3 ?c4 ?_; (case k6 => k_is); (case k7 => k_is); (case k8 => (show dp < _; unfold recursionLimit; lia)); (case kB => exact binds_K X rfl (show _ = some _ from by k_is) rfl rfl (by kernel_rfl)); (case c5 => decide +kernel); (case k9 => exact locs (by kernel_rfl)); (case c2 => kernel_rfl); (case c3 => kernel_rfl); (case c4 => kernel_rfl))
  (refine pk2 ?_; generalize p2_1 _ = L'; generalize p2_2 _ = h₁)
  intro F N
  replace F : Fr s.heap L' h₁ (fun y => List.lookup y [(ofS "bytes_per_sep", .int 1 388), (ofS "sep", .ref 125), (ofS "data", .bytes b t)]) := F
  k_steps
  show wpAny _ _ (call _ _) _ _ _
  refine buffer_x w mean mg mb _ _ _ _ _ _ _ (X.keeps (Fr.keep F)) (T.keeps (Fr.keep F)) (by show dp + 1 ≤ 500; lia) b t ?_
  rintro v h2 tk2 ⟨rfl, G2⟩
  have F2 := F.after G2
  have N2 := News.grown N G2
  clear F N
  k_steps
  show wpAny _ _ (call (.builtin "bytes.hex") [.bytes b t]) _ _ _
  refine call_hex hb fun tk3 => ?_
  k_steps
  refine call_enc_ascii (hexL_lt b) (by show (hexL b).length ≤ 1000; rw [hexL_len]; lia) fun tk4 => ?_
  exact hret _ _ _ (Fr.keep (by assumption)) ⟨_, rfl⟩
noncomputable def b16 (b : Array UInt8) : Array UInt8 := ((bytesOut (fun c => [c.toUInt8]) (hexL b)).toList.map PySem.Builtin.Bytes.toUpper).toArray
theorem b16_spec (w : World) (b : Array UInt8) (t : Tok) (hb : b.size ≤ 150) : SpecS w 156 [.bytes b t] 310 3100 (fun h => True) (fun h v h' => ∃ t', v = .bytes (b16 b) t') := by
  revert w b t
  (refine pk3 (i1 := nW) ?_; generalize p3_1 _ = w; generalize p3_2 _ = b; generalize p3_3 _ = t)
  intro hb
  (refine pk6 ?_; generalize p6_1 _ = mean; generalize p6_2 _ = mg; generalize p6_3 _ = mb; generalize p6_4 _ = dp; generalize p6_5 _ = un; generalize p6_6 _ = fr); (refine pk4 (i2 := nS) ?_; generalize p4_1 _ = gd; generalize p4_2 _ = s; generalize p4_3 _ = Q; generalize p4_4 _ = E)
  intro X T hd hu hP hret
  k_dflt (refine' enter0 (binds := [(ofS "s", .bytes b t)]) X T ?k6 ?k7 ?k8 ?kB ?k9 ?c5 ?c2 ?c3 ?c4 ?_; (case k6 => k_is); (case k7 => k_is); (case k8 => (show dp < _; unfold recursionLimit; lia)); (case kB => exact BindsTo.of_eq (by kernel_rfl)); (case c5 => decide +kernel); (case k9 => exact locs (by kernel_rfl)); (case c2 => kernel_rfl); (case c3 => kernel_rfl); (case c4 => kernel_rfl))
  (refine pk2 ?_; generalize p2_1 _ = L'; generalize p2_2 _ = h₁)
  intro F N
  replace F : Fr s.heap L' h₁ (fun y => List.lookup y [(ofS "s", .bytes b t)]) := F
  k_steps
  show wpAny _ _ (call _ _) _ _ _
  refine (b2ahex_spec w b t (by lia)) _ _ _ _ _ _ _ _ _ _ (X.keeps (Fr.keep F)) (T.keeps (Fr.keep F)) (by show dp + 1 ≤ 320; lia) (by show un + _ ≤ 3200; lia) trivial ?_
  rintro v h2 tk2 G2 ⟨t', rfl⟩
  have F2 := F.after G2
  have N2 := News.grown N G2
  clear F N
  k_steps
  show wpAny _ _ (call (.builtin "bytes.upper") [.bytes _ _]) _ _ _
  refine call_upper (by rw [bytesOut_one]; rw [hexL_len]; lia) fun tk3 => ?_
  exact hret _ _ _ F2.keep ⟨_, rfl⟩
end
local macro_rules | `(tactic| walk_at "getMethod str") => `(tactic| (with_reducible refine gm_enc ?_))
section
set_option maxHeartbeats 8000000
open PySem.Calls
theorem fill_tk : kk = kk ∧ PySem.Challenge.rw_kq0052_01 = PySem.Challenge.rw_kq0052_01 := by
  k_fill
  exact ⟨rfl, rfl⟩
local macro_rules | `(tactic| walk_at "exec Try") => `(tactic| (refine wpAny_Try_except ?_))
theorem told_ok (w : World) (src sl : PySem.Str) (tx tp th : Tok) (pos n : Int) (hsl : Txt.slice src (some pos) (some (pos + n)) = sl) (hlen : (sl.length : Int) = n) (h0 : 0 ≤ pos) (h1 : 1 ≤ n) (h2 : pos + n ≤ src.length) (h3 : src.length ≤ 200) (hh : AllHex sl.cps.toList) (hv0 : hexVal sl.cps.toList < 1114112) (hv1 : ¬ (55296 ≤ hexVal sl.cps.toList ∧ hexVal sl.cps.toList < 57344)) :
    SpecS w 179 [.str src tx, .int pos tp, .int n th] 320 3200 (fun h => True) (fun h v h' => ∃ t1 t2, NewTup h v h' [.int (pos + n) t1, .str ⟨#[hexVal sl.cps.toList]⟩ t2]) := by
  revert w src sl tx tp th pos n
  (refine pk6 (i1 := nW) ?_; generalize p6_1 _ = w; generalize p6_2 _ = src; generalize p6_3 _ = sl; generalize p6_4 _ = tx; generalize p6_5 _ = tp; generalize p6_6 _ = th); (refine pk2 ?_; generalize p2_1 _ = pos; generalize p2_2 _ = n)
  intro hsl hlen h0 h1 h2 h3 hh hv0 hv1
  (refine pk6 ?_; generalize p6_1 _ = mean; generalize p6_2 _ = mg; generalize p6_3 _ = mb; generalize p6_4 _ = dp; generalize p6_5 _ = un; generalize p6_6 _ = fr); (refine pk4 (i2 := nS) ?_; generalize p4_1 _ = gd; generalize p4_2 _ = s; generalize p4_3 _ = Q; generalize p4_4 _ = E)
  intro X T hd hu hP hret
  k_dflt (refine' enter0 (binds := [(ofS "src", .str src tx), (ofS "place", .int pos tp), (ofS "many", .int n th)]) X T ?k6 ?k7 ?k8 ?kB ?k9 ?c5 ?c2 ?c3 ?c4 ?_; (case k6 => k_is); (case k7 => k_is); (case k8 => (show dp < _; unfold recursionLimit; omega)); (case kB => exact BindsTo.of_eq (by kernel_rfl)); (case c5 => decide +kernel); (case k9 => exact locs (by kernel_rfl)); (case c2 => kernel_rfl); (case c3 => kernel_rfl); (case c4 => kernel_rfl))
  (refine pk2 ?_; generalize p2_1 _ = L'; generalize p2_2 _ = h₁)
  intro F N
  replace F : Fr s.heap L' h₁ (fun y => List.lookup y [(ofS "many", .int n th), (ofS "place", .int pos tp), (ofS "src", .str src tx)]) := F
  k_steps
  show wpAny _ _ (call (.ref 45) [.str src tx, .int pos tp, .int n th]) _ _ _
  refine (phc_ok w src sl tx tp th pos n hsl hlen h0 h1 h2 h3 hh hv0 hv1) _ _ _ _ _ _ _ _ _ _ (X.keeps (Fr.keep F)) (T.keeps (Fr.keep F)) ?_ ?_ trivial ?_
  · show dp + 1 + 4 < _; unfold recursionLimit; omega
  · show un + _ + 60 < _; unfold cLine; omega
  rintro v h2 tk2 G2 ⟨t1, t2, hT⟩
  have F2 := F.after G2
  have N2 := News.grown N G2
  obtain ⟨l, rfl, hl0, hl1⟩ := hT
  have hl2 : s.heap.get? l = none := by
    cases q : s.heap.get? l with
    | none => rfl
    | some o => have := F.keep _ _ q; rw [hl0] at this; cases this
  clear F N
  k_steps
  exact hret _ _ _ F2.keep ⟨t1, t2, l, rfl, hl2, hl1⟩
end
section
open PySem.Calls
section
variable {w : World} {A : Around} {E : Value → Shared → Prop} {s : Shared} {env : Env} {h₀ : Heap} {target : PySem.Expr} {body : List Stmt} {Q : Flow → Shared → Prop}
def TurnEnd (h₀ : Heap) (L : Addr) (J : (PySem.Str → Option Value) → Made → Prop) (own : Made) (s₁ : Shared) (f : Flow) (s₂ : Shared) : Prop :=
  f = .next ∧ ∃ h' tk m₂ nx, s₂ = { s₁ with heap := h', toks := tk } ∧ Fr h₀ L h' m₂ ∧ News h₀ L h' (nx ++ own) ∧ (∀ p ∈ own, ∀ q ∈ nx, p.1 ≠ q.1) ∧ J m₂ nx
theorem for_listT {l : Addr} {vs : List Value} {ns : List Int} {m₀ : PySem.Str → Option Value} {news : Made} (J : Nat → (PySem.Str → Option Value) → Made → Prop)
    (hh : A.handled = none) (hl : h₀.IsList l vs.toArray) (hi : IntsAre vs ns) (F : Fr h₀ env.locals s.heap m₀) (N : News h₀ env.locals s.heap news) (hj : J 0 m₀ news)
    (hgo : ∀ it v, letOwnedTupleGo target it v = pure ())
    (turn : ∀ i n t m₁ news₁ (s₁ : Shared) own, ns[i]? = some n → J i m₁ news₁ → (∀ p ∈ own, ∀ q ∈ news₁, p.1 ≠ q.1) → Fr h₀ env.locals s₁.heap m₁ → News h₀ env.locals s₁.heap (news₁ ++ own) →
      wpAny (model pw w) A (assign target env (.int n t)) (fun _ s₂ => wpAny (model pw w) A (execs body env) (TurnEnd h₀ env.locals (J (i + 1)) own s₁) E s₂) E s₁)
    (done : ∀ m₁ news₁ h tk, J ns.length m₁ news₁ → Fr h₀ env.locals h m₁ → News h₀ env.locals h news₁ → Q .next { s with heap := h, toks := tk }) :
    wpAny (model pw w) A (pyIter (.ref l)) (fun it s₂ => LoopAtT pw w A h₀ env target body Q E it s₂) E s := by
  revert w A E s env h₀ target body Q l vs ns m₀ news J hh hl hi F N hj hgo turn done
  (refine no_implicit_lambda% (pk6 (i1 := nW) (i2 := nA) (i4 := nS) ?_); generalize p6_1 _ = w; generalize p6_2 _ = A; generalize p6_3 _ = E; generalize p6_4 _ = s; generalize p6_5 _ = env; generalize p6_6 _ = h₀); (refine no_implicit_lambda% (pk6 ?_); generalize p6_1 _ = target; generalize p6_2 _ = body; generalize p6_3 _ = Q; generalize p6_4 _ = l; generalize p6_5 _ = vs; generalize p6_6 _ = ns); (refine no_implicit_lambda% (pk3 ?_); generalize p3_1 _ = m₀; generalize p3_2 _ = news; generalize p3_3 _ = J)
  intro hh hl hi F N hj hgo turn done
  have hls : s.heap.IsList l vs.toArray := hl.at fun o e => F.keep l o e
  obtain ⟨ol, hol, _⟩ := id hl
  have hlt : l < h₀.objs.size := Heap.lt_size hol
  have hne : l ≠ s.heap.objs.size := Nat.ne_of_lt (Nat.lt_trans (Nat.lt_of_lt_of_le hlt F.above) F.ns.lt)
  refine wpAny_pyIter_list hls ?_
  have W := Walks.list (prog := pw) (w := w) hh s.heap.objs.size l hne vs.toArray
  have hlen : vs.toArray.size = ns.length := by simp [hi.length]
  rw [hlen] at W
  refine ⟨_, _, _, ns.length, _, _, m₀, news, J, rfl, W, ?_, ?_, ?_, ⟨⟨_, Heap.get?_push_size _ rfl, rfl, rfl⟩, hls.at fun o e => Heap.get?_push_of_some _ e⟩, F.push _, (fun p hp => ⟨Heap.get?_push_of_some _ (N p hp).1, (N p hp).2⟩), ?_, hj, ?_, ?_⟩
  · intro hm
    rcases List.mem_cons.mp hm with e | hm
    · exact absurd F.ns.lt (e ▸ Nat.lt_irrefl _)
    · exact absurd (Nat.lt_of_lt_of_le hlt F.above) ((List.mem_singleton.mp hm) ▸ Nat.lt_irrefl _)
  · intro b hb
    rw [List.mem_singleton.mp hb]
    exact next_is_new F
  · intro p hp hI
    exact absurd (Heap.lt_size (N p hp).1) ((List.mem_singleton.mp hI) ▸ Nat.lt_irrefl _)
  · intro i s' v Q' _ hQ
    rw [hgo]
    exact wpAny_pure hQ
  · intro i v m₁ news₁ s₁ own hin hP hJ hoff hown hget hall hst F₁ N₁
    have hsep : ∀ p ∈ own, ∀ q ∈ news₁, p.1 ≠ q.1 := by
      intro p hp q hq e
      have hq2 : (q.1, q.2) ∈ own ++ news₁ := List.mem_append_right _ hq
      rcases List.mem_cons.mp (hown p hp) with h1 | h1
      · exact hoff q hq (by rw [← e, h1]; exact List.mem_singleton.mpr rfl)
      · have h2 := List.mem_singleton.mp h1
        have h3 := (N₁ q hq2).2.2
        rw [← e, h2, hol] at h3
        cases h3
    have hlt' : i < ns.length := hin
    obtain ⟨t, hx⟩ := hi.get i ns[i] (by simp [hlt'])
    have hv : v = .int ns[i] t := by
      have hP' : vs[i]? = some v := by simpa using hP
      rw [hx] at hP'; exact (Option.some.inj hP').symm
    subst hv
    have N₂ : News h₀ env.locals s₁.heap (news₁ ++ own) := fun p hp => N₁ p ((List.mem_append.mp hp).elim (fun h => List.mem_append.mpr (.inr h)) fun h => List.mem_append.mpr (.inl h))
    obtain ⟨⟨oI, hI, _⟩, _⟩ := id hst
    have hIo := hall s.heap.objs.size (List.mem_cons_self ..) (next_is_new F) oI hI
    refine wpAny_mono (turn i ns[i] t m₁ news₁ s₁ own (by simp [hlt']) hJ hsep F₁ N₂) (fun _ s₂ h₂ => wpAny_mono h₂ (fun f s₃ h₃ => ?_) fun _ _ e => e) fun _ _ e => e
    obtain ⟨rfl, h', tk, m₂, nx, rfl, F', N', hs', hJ'⟩ := h₃
    refine ⟨rfl, h', tk, m₂, nx, rfl, F', fun p hp => N' p ((List.mem_append.mp hp).elim (fun h => List.mem_append.mpr (.inr h)) fun h => List.mem_append.mpr (.inl h)), fun p hp hq => ?_, hJ'⟩
    exact hs' _ hIo p hp (List.mem_singleton.mp hq).symm
  · rintro h' tk m' news' F' N' _ hJ
    exact done m' news' h' tk hJ F' N'
end
end
section
open PySem.Calls
abbrev Led := List (Addr × Obj)
section
variable {w : World} {A : Around} {E : Value → Shared → Prop} {s : Shared} {env : Env} {h₀ : Heap} {x : PySem.Str} {body : List Stmt} {Q : Flow → Shared → Prop}
theorem loop_gen {I : Addr} {fp : List Addr} {n : Nat} {P : Nat → Value → Prop} {St : Nat → Heap → Prop} {m₀ : PySem.Str → Option Value} {news : Led} (J : Nat → (PySem.Str → Option Value) → Led → Prop) (fixed : Led)
    (W : Walks pw w A I fp [I] n P St) (hI : ∀ i h, St i h → ∃ o, h.get? I = some o) (hLf : env.locals ∉ fp) (hI0 : h₀.get? I = none) (hst : St 0 s.heap) (F : Fr h₀ env.locals s.heap m₀) (N : News h₀ env.locals s.heap news)
    (hnI : ∀ p ∈ news, p.1 ≠ I) (hj : J 0 m₀ news) (hfix : ∀ i m nx, J i m nx → ∀ p ∈ fixed, p ∈ nx) (hfp : ∀ b ∈ fp, b = I ∨ h₀.get? b ≠ none ∨ b ∈ fixed.map (·.1))
    (turn : ∀ i v m₁ news₁ (s₁ : Shared) own, i < n → P i v → J i m₁ news₁ → (∀ p ∈ own, ∀ q ∈ news₁, p.1 ≠ q.1) → (∃ h tk, s₁ = { s with heap := h, toks := tk }) → Fr h₀ env.locals s₁.heap (fun y => if y = x then some v else m₁ y) → News h₀ env.locals s₁.heap (news₁ ++ own) →
      wpAny (model pw w) A (execs body env) (TurnEnd h₀ env.locals (J (i + 1)) own s₁) E s₁)
    (done : ∀ m₁ news₁ h tk, J n m₁ news₁ → Fr h₀ env.locals h m₁ → News h₀ env.locals h news₁ → Q .next { s with heap := h, toks := tk }) :
    LoopAtV pw w A h₀ env x body Q E (.ref I) s := by
  revert w A E s env h₀ x body Q I fp n P St m₀ news J fixed W hI hLf hI0 hst F N hnI hj hfix hfp turn done
  (refine no_implicit_lambda% (pk6 (i1 := nW) (i2 := nA) (i4 := nS) ?_); generalize p6_1 _ = w; generalize p6_2 _ = A; generalize p6_3 _ = E; generalize p6_4 _ = s; generalize p6_5 _ = env; generalize p6_6 _ = h₀); (refine no_implicit_lambda% (pk6 ?_); generalize p6_1 _ = x; generalize p6_2 _ = body; generalize p6_3 _ = Q; generalize p6_4 _ = I; generalize p6_5 _ = fp; generalize p6_6 _ = n); (refine no_implicit_lambda% (pk6 ?_); generalize p6_1 _ = P; generalize p6_2 _ = St; generalize p6_3 _ = m₀; generalize p6_4 _ = news; generalize p6_5 _ = J; generalize p6_6 _ = fixed)
  intro W hI hLf hI0 hst F N hnI hj hfix hfp turn done
  refine ⟨I, fp, [I], n, P, St, m₀, news, J, rfl, W, hLf, fun b hb => by rw [List.mem_singleton.mp hb]; exact hI0, fun p hp hm => hnI p hp (List.mem_singleton.mp hm), hst, F, N, hj, ?_, ?_⟩
  · intro i v m₁ news₁ s₁ own hsh hin hP hJ hoff hown hget hall hst₁ F₁ N₁
    have nI : ∀ q ∈ news₁, q.1 ≠ I := fun q hq e => hoff q hq (List.mem_singleton.mpr e)
    have hL₁ : ∀ q ∈ news₁, h₀.get? q.1 = none := fun q hq => (N₁ q (List.mem_append_right _ hq)).2.2
    have hsep : ∀ p ∈ own.filter (fun p => !(fixed.map (·.1)).contains p.1), ∀ q ∈ news₁, p.1 ≠ q.1 := by
      intro p hp q hq e
      obtain ⟨hp, hnf⟩ := List.mem_filter.mp hp
      rcases hfp _ (hown p hp) with h1 | h1 | h1
      · exact nI q hq (e ▸ h1)
      · exact h1 (e ▸ hL₁ q hq)
      · rw [List.contains_iff_mem.mpr h1] at hnf; cases hnf
    have N₂ : News h₀ env.locals s₁.heap (news₁ ++ own.filter (fun p => !(fixed.map (·.1)).contains p.1)) := fun p hp => N₁ p ((List.mem_append.mp hp).elim (fun h => List.mem_append.mpr (.inr h)) fun h => List.mem_append.mpr (.inl (List.mem_filter.mp h).1))
    obtain ⟨oI, hoI⟩ := hI _ _ hst₁
    have hIfp : I ∈ fp := W.sub _ (List.mem_singleton.mpr rfl)
    have hIo := hall I hIfp hI0 oI hoI
    have hfI : I ∉ fixed.map (·.1) := fun hm => by
      obtain ⟨p, hp, e⟩ := List.mem_map.mp hm
      exact nI p (hfix _ _ _ hJ p hp) e
    refine wpAny_mono (turn i v m₁ news₁ s₁ _ hin hP hJ hsep hsh F₁ N₂) (fun f s₃ h₃ => ?_) fun _ _ e => e
    obtain ⟨rfl, h', tk, m₂, nx, rfl, F', N', hs', hJ'⟩ := h₃
    refine .ofU ⟨rfl, h', tk, m₂, nx, rfl, F', fun p hp => ?_, fun p hp hq => ?_, hJ'⟩
    · rcases List.mem_append.mp hp with hp | hp
      · by_cases hf : p.1 ∈ fixed.map (·.1)
        · obtain ⟨q, hq, e⟩ := List.mem_map.mp hf
          have h1 : s₁.heap.get? q.1 = some q.2 := (N₁ q (List.mem_append_right _ (hfix _ _ _ hJ q hq))).1
          have h2 := hget p hp
          rw [← e, h1] at h2
          have : p = q := Prod.ext e.symm (Option.some.inj h2).symm
          rw [this]
          exact N' q (List.mem_append_left _ (hfix _ _ _ hJ' q hq))
        · refine N' p (List.mem_append_right _ (List.mem_filter.mpr ⟨hp, ?_⟩))
          simp only [Bool.not_eq_true']
          exact Bool.eq_false_iff.mpr fun h => hf (List.contains_iff_mem.mp h)
      · exact N' p (List.mem_append_left _ hp)
    · have e := List.mem_singleton.mp hq
      refine hs' (I, oI) (List.mem_filter.mpr ⟨hIo, ?_⟩) p hp e.symm
      simp only [Bool.not_eq_true']
      exact Bool.eq_false_iff.mpr fun h => hfI (List.contains_iff_mem.mp h)
  · rintro h' tk m' news' F' N' _ hJ
    exact done m' news' h' tk hJ F' N'
def IterOk (w : World) (seq : Addr) (n : Nat) (P : Nat → Value → Prop) (h₀ : Heap) : Prop := ∀ (A : Around) (s : Shared) (Q E : Value → Shared → Prop), Grow h₀ s.heap →
  (∀ fp St o, (∀ A' : Around, A'.handled = none → Walks pw w A' s.heap.objs.size fp [s.heap.objs.size] n P St) → (∀ i h, St i h → ∃ o, h.get? s.heap.objs.size = some o) → (∀ b ∈ fp, b = s.heap.objs.size ∨ h₀.get? b ≠ none) → (∀ es k, o.data ≠ .dict es k) →
    St 0 (s.heap.push o) → o.isFreed = false → Q (.ref s.heap.objs.size) { s with heap := s.heap.push o }) →
  wpAny (model pw w) A (pyIter (.ref seq)) Q E s
theorem iterOk_list {h₀ : Heap} {l : Addr} {items : Array Value} (hl : h₀.IsList l items) : IterOk w l items.size (fun i v => items[i]? = some v) h₀ := by
  intro A s Q E G h
  have hls : s.heap.IsList l items := hl.at fun o e => G l o e
  obtain ⟨ol, hol, _⟩ := id hl
  have hne : l ≠ s.heap.objs.size := Nat.ne_of_lt (Heap.lt_size (G _ _ hol))
  refine wpAny_pyIter_list hls (h [s.heap.objs.size, l] _ _ (fun A' hh => Walks.list hh _ l hne items) (fun i h st => ?_) (fun b hb => ?_) (fun es k q => by cases q) ⟨⟨_, Heap.get?_push_size _ rfl, rfl, rfl⟩, hls.at fun o e => Heap.get?_push_of_some _ e⟩ rfl)
  · obtain ⟨⟨o, e, _⟩, _⟩ := st; exact ⟨o, e⟩
  · rcases List.mem_cons.mp hb with rfl | hb
    · exact .inl rfl
    · rw [List.mem_singleton.mp hb, hol]; exact .inr (by simp)
theorem iterOk_range {h₀ : Heap} {r : Addr} {a b c : Int} {t u v : Tok} (n : Nat) (hr : IsRange h₀ r a b c t u v) (hsmall : PySem.Builtin.Range.small a b c = true) (hn : PySem.Builtin.Range.rangeSize a b c = n) :
    IterOk w r n (fun i x => ∃ t, x = .int (a + (i : Int) * c) t) h₀ := by
  intro A s Q E G h
  have hrs : IsRange s.heap r a b c t u v := G _ _ hr
  refine wpAny_pyIter_range hrs hsmall ?_
  rw [hn]
  refine h [s.heap.objs.size] _ _ (fun A' hh => Walks.range hh s.heap.objs.size a c n) (fun i h st => ⟨_, st⟩) (fun b hb => .inl (List.mem_singleton.mp hb)) (fun es k q => by cases q) ?_ rfl
  have e1 : a + ((0 : Nat) : Int) * c = a := by simp
  have e2 : (n : Int) - ((0 : Nat) : Int) = n := by simp
  show IsRangeIter _ _ (a + ((0 : Nat) : Int) * c) ((n : Int) - ((0 : Nat) : Int)) c
  rw [e1, e2]
  exact Heap.get?_push_size _ rfl
theorem call_iter {v : Value} {Q : Value → Shared → Prop} (h : wpAny (model pw w) A.in1 (pyIter v) Q E s) : wpAny (model pw w) A (call (.builtin "iter") [v]) Q E s := by
  refine call_function_entry (by decide +kernel) (by decide +kernel) kdk_entry_iter (kdk_args_iter _) ?_
  unfold PySem.Builtin.«iter»
  refine wpAny_bind (m := PySem.someArgs "iter" 1 2 _) (wpAny_of_eq (a := [v]) (by first | rfl | kernel_rfl!) ?_)
  show wpAny _ _ (pyIter v >>= _) _ _ _
  exact wpAny_bind (wpAny_mono h (fun v s' q => wpAny_pure ⟨_, rfl, q⟩) fun _ _ q => q)
end
end
section
set_option maxHeartbeats 8000000
open PySem.Calls
theorem fill_rs : kk = kk ∧ PySem.Challenge.rw_kq0052_01 = PySem.Challenge.rw_kq0052_01 := by
  k_fill
  exact ⟨rfl, rfl⟩
theorem st35 {M A Q E s y1 y2 y3 y4} (h : Stop (wpAny M A (subscriptTail y1 y2 (Value.ref y3) (Value.ref y4)) Q E s)) : wpAny M A (subscriptTail y1 y2 (Value.ref y3) (Value.ref y4)) Q E s := h
local macro_rules | `(tactic| walk_at "eval Name") => `(tactic| ((with_reducible show wpAny _ _ (eval (Expr.Name _ _) (envX _ _ _ _ _ _)) _ _ _); refine name_cellX (by with_unfolding_all rfl) (by assumption) (by with_unfolding_all rfl) (by with_unfolding_all rfl) (by decide +kernel) ?_))
local macro_rules | `(tactic| walk_at "call builtin:len") => `(tactic| (refine stop_here ?_))
local macro_rules | `(tactic| walk_at "subscriptTail Name Slice ref ref") => `(tactic| (with_reducible refine st35 ?_))
local macro_rules | `(tactic| walk_at "subscriptTail") => `(tactic| (with_reducible refine st35 ?_))
local macro_rules | `(tactic| walk_at "exec For") => `(tactic| (with_reducible refine st7 ?_))
local macro_rules | `(tactic| walk_at "exec For Name Name cons nil") => `(tactic| (with_reducible refine st7 ?_))
noncomputable def riseStep (told : List Int) (n : Int) : List Int := told.take (told.filter (fun x => decide (x ≤ n))).length ++ [n] ++ told.drop (told.filter (fun x => decide (x ≤ n))).length
noncomputable def rising (ns : List Int) : List Int := ns.foldl riseStep []
theorem ints_memR {vs : List Value} {ns : List Int} (h : IntsAre vs ns) {v : Value} (hv : v ∈ vs) : ∃ k u, v = .int k u := by
  induction h with
  | nil => cases hv
  | cons n t h ih =>
    rcases List.mem_cons.mp hv with rfl | hv
    · exact ⟨n, t, rfl⟩
    · exact ih hv
def below (n : Int) : Value → Bool
  | .int k _ => decide (k ≤ n)
  | _ => false
theorem ints_filter {vs : List Value} {ns : List Int} (h : IntsAre vs ns) (n : Int) : IntsAre (vs.filter (below n)) (ns.filter fun x => decide (x ≤ n)) := by
  induction h with
  | nil => exact .nil
  | cons k t h ih =>
    by_cases hk : k ≤ n
    · rw [List.filter_cons_of_pos (show below n (.int k t) = true from decide_eq_true hk), List.filter_cons_of_pos (p := fun x => decide (x ≤ n)) (decide_eq_true hk)]
      exact .cons _ _ ih
    · rw [List.filter_cons_of_neg (by show ¬ (decide (k ≤ n) = true); simpa using hk), List.filter_cons_of_neg (p := fun x => decide (x ≤ n)) (by simpa using hk)]
      exact ih
theorem len_at {w : World} {A : Around} {E : Value → Shared → Prop} {s : Shared} {l : Addr} {items : Array Value} {k : Int} {Q : Value → Shared → Prop} (hl : s.heap.IsList l items) (e : (items.size : Int) = k) (hfit : k < 2 ^ 63)
    (h : Q (.int k (s.toks + 1)) { s with toks := s.toks + 1 + 1 }) : wpAny (model pw w) A (call (.builtin "len") [.ref l]) Q E s := by
  subst e
  exact len_list hl hfit h
theorem allLt_mem {d : Addr} : ∀ {l : List (Addr × Obj)}, AllLt d l → ∀ {p : Addr × Obj}, p ∈ l → p.1 < d
  | [], _, _, h => nomatch h
  | q :: r, ha, p, h => by
    rcases List.mem_cons.mp h with rfl | h
    · exact ha.1
    · exact allLt_mem ha.2 h
theorem riseStep_len (told : List Int) (n : Int) : (riseStep told n).length = told.length + 1 := by
  unfold riseStep
  have := List.length_filter_le (fun x => decide (x ≤ n)) told
  simp only [List.length_append, List.length_take, List.length_drop, List.length_cons, List.length_nil]
  rw [Nat.min_eq_left this, Nat.add_right_comm, Nat.add_sub_of_le this]
theorem rising_len (ns : List Int) : (rising ns).length = ns.length := by
  have key : ∀ (ns told : List Int), (ns.foldl riseStep told).length = told.length + ns.length := by
    intro ns
    induction ns with
    | nil => intro told; simp
    | cons a l ih => intro told; rw [List.foldl_cons, ih, riseStep_len, List.length_cons, Nat.add_right_comm]; rfl
  have := key ns []
  simpa [rising] using this
theorem fr_known {h₀ h : Heap} {L : Addr} {m : PySem.Str → Option Value} {z : PySem.Str} {v : Value} (F : Fr h₀ L h m) (e : m z = some v) : Fr h₀ L h (fun y => if y = z then some v else m y) := by
  have q : (fun y => if y = z then some v else m y) = m := by
    funext y
    by_cases hy : y = z
    · rw [if_pos hy, hy, e]
    · rw [if_neg hy]
  rw [q]; exact F
theorem hide_postR {α : Type} {M : Model} {A : Around} {m : Sem α} {Q : α → Shared → Prop} {E : Value → Shared → Prop} {s : Shared}
    (h : ∀ Q', (∀ f s', Q f s' → Q' f s') → wpAny M A m Q' E s) : wpAny M A m Q E s := h Q fun _ _ q => q
theorem rising_spec (w : World) (a : Addr) (vs : List Value) (ns : List Int) (hi : IntsAre vs ns) (hn : ns.length ≤ 20) : SpecS w 206 [.ref a] 320 3200 (fun h => h.IsList a vs.toArray) (fun h v h' => ∃ b vs' n', v = .ref b ∧ h.get? b = none ∧ h'.get? b = some (W.listOf vs'.toArray n') ∧ IntsAre vs' (rising ns)) := by
  revert w a vs ns
  (refine pk4 (i1 := nW) ?_; generalize p4_1 _ = w; generalize p4_2 _ = a; generalize p4_3 _ = vs; generalize p4_4 _ = ns)
  intro hi hn
  (refine pk6 ?_; generalize p6_1 _ = mean; generalize p6_2 _ = mg; generalize p6_3 _ = mb; generalize p6_4 _ = dp; generalize p6_5 _ = un; generalize p6_6 _ = fr); (refine pk4 (i2 := nS) ?_; generalize p4_1 _ = gd; generalize p4_2 _ = s; generalize p4_3 _ = Q; generalize p4_4 _ = E)
  intro X T hd hu hP hret
  k_dflt (refine' enter0C (binds := [(ofS "numbers", .ref a)]) X T ?k6 ?k7 ?k8 ?kB ?k9 ?c5 ?c2 ?c3 ?c4 ?_; (case k6 => k_is); (case k7 => k_is); (case k8 => (show dp < _; unfold recursionLimit; lia)); (case kB => kernel_rfl); (case k9 => kernel_rfl); (case c5 => decide +kernel); (case c2 => kernel_rfl); (case c3 => kernel_rfl); (case c4 => kernel_rfl))
  (refine pk4 ?_; generalize p4_1 _ = L'; generalize p4_2 _ = h₁; generalize p4_3 _ = tk; generalize p4_4 _ = cells)
  intro F N Y
  replace Y : CellsAre _ [(ofS "number", L' + 1)] cells := Y
  obtain ⟨oc, rfl, hc⟩ := Y.one
  clear Y
  refine hide_ret ?_
  (refine pk1 ?_; generalize p1_1 _ = Qh)
  intro hQh
  k_steps
  rename Fr _ _ _ _ => Fz
  rename News _ _ _ _ => Nz
  rename_i l0 h0 hlt0 h00 tk0
  show wpAny _ _ (exec (Stmt.For _ _ _ _ _) _) _ _ _
  refine For_invTF Fz ?_ (fun _ => rfl)
  k_steps
  show wpAny _ _ (pyIter (.ref a)) _ _ _
  refine for_listT (fun i m nx => ∃ l vs' n' oc' x, m (ofS "told") = some (.ref l) ∧ l ≠ L' + 1 ∧ nx = [(l, W.listOf vs'.toArray n'), (L' + 1, oc')] ∧ oc'.data = .cell x ∧ IntsAre vs' (rising (ns.take i))) rfl hP hi Fz Nz ?hJ (fun _ _ => rfl) ?turn ?done
  case hJ =>
    refine ⟨_, [], 0, oc, _, ?_, ?_, rfl, hc, .nil⟩
    · rfl
    · exact Nat.ne_of_gt (by assumption)
  case turn =>
    rintro i n t m₁ news₁ s₁ own hni ⟨l, vs', n', oc', x, hm, hll, rfl, hcd, hI⟩ hsep F₁ N₁
    refine wpAny_assign_Name (wpAny_storeName_cell (c := L' + 1) (v₀ := x) rfl (by kernel_rfl) (by kernel_rfl) ⟨oc', (N₁ _ (.tail _ (.head _))).1, hcd⟩ fun h2 hc2 hs2 => ?_)
    obtain ⟨oc2, hg2, hcd2⟩ := hc2
    have F₂ := F₁.update N₁ (.tail _ (.head _)) hs2
    have N₂ := News.setSecond N₁ hll (fun p hp => (hsep p hp _ (.tail _ (.head _)))) hs2 hg2
    have F₃ : Fr s.heap L' h2 _ := fr_known F₂ hm
    replace N₂ : News s.heap L' h2 _ := N₂
    clear F₁ N₁ F₂
    refine hide_postR fun Q' hQ => ?_
    k_steps
    refine comp_rule (below n) (fun v y os => os = [] ∧ y = v) (cl := [(ofS "number", L' + 1)]) (by kernel_rfl) (by decide +kernel) rfl (by decide +kernel) (by decide +kernel) ?_ (fun _ => by kernel_rfl)
    k_steps
    show wpAny _ _ (pyIter _) _ _ _
    have hcell : h2.IsCell (L' + 1) (some (.int n t)) := ⟨oc2, hg2, hcd2⟩
    refine comp_list rfl (items := vs') (ax := l) ⟨_, (N₂ _ (.head _)).1, rfl, n', rfl⟩ ?hsz ?ht ?he ?hq
    case hsz => rw [sizeLine_eq, hI.length, rising_len, List.length_take]; lia
    case ht =>
      intro C v s₃ m₃ E' hv Fc hm3
      have hcell' := hcell.keeps Fc.keep
      obtain ⟨k, u, rfl⟩ : ∃ k u, v = .int k u := ints_memR hI hv
      clear hret F₃ N₂
      k_steps
      exact ⟨rfl, _, _, rfl, fun _ _ e => e⟩
    case he =>
      intro C v s₃ m₃ E' hv hpv Fc hm3
      k_steps
      exact ⟨⟨[], ⟨rfl, rfl⟩, fun _ h => (nomatch h), fun _ h => (nomatch h)⟩, _, _, rfl, fun _ _ e => e⟩
    case hq =>
      intro D n'' h3 tk3 zs hD hl3 hz hok hoff hg3
      replace hg3 : Grow h2 h3 := hg3
      replace hD : h2.get? D = none := hD
      have hzz : zs.map (·.2.1) = vs'.filter (below n) := by rw [← hz]; exact List.map_congr_left fun z hm => (hok z hm).1.2
      rw [hzz] at hl3
      have hIf := ints_filter hI n
      have F₄ : Fr s.heap L' h3 (fun y => if y = ofS "told" then some (Value.ref l) else m₁ y) := F₃.after hg3
      replace hI : IntsAre vs' (rising (List.take i ns)) := hI
      have N₄ : News s.heap L' h3 ((D, W.listOf (List.filter (below n) vs').toArray n'') :: ([(l, W.listOf vs'.toArray n'), (L' + 1, oc2)] ++ own)) := by
        intro p hp
        rcases List.mem_cons.mp hp with rfl | hp
        · refine ⟨hl3, fun e => ?_, ?_⟩
          · have e1 := F₃.ns
            obtain ⟨o1, es1, ep1, ho1, _⟩ := e1
            rw [show D = L' from e, ho1] at hD
            cases hD
          · cases q : s.heap.get? D with
            | none => rfl
            | some o1 => rw [F₃.keep D o1 q] at hD; cases hD
        · exact News.grown N₂ hg3 p hp
      clear F₃ N₂
      have hL2 := hIf.length
      have hL3 := hI.length
      have hL4 : (rising (List.take i ns)).length ≤ 20 := by rw [rising_len, List.length_take]; lia
      have hL5 := List.length_filter_le (fun x => decide (x ≤ n)) (rising (List.take i ns))
      k_steps
      show wpAny _ _ (call (.builtin "len") [.ref D]) _ _ _
      obtain ⟨pl, hpl⟩ : ∃ pl, (List.filter (fun x => decide (x ≤ n)) (rising (List.take i ns))).length = pl := ⟨_, rfl⟩
      rw [hpl] at hL2 hL5
      obtain ⟨fl, hfl⟩ : ∃ fl, List.filter (below n) vs' = fl := ⟨_, rfl⟩
      rw [hfl] at N₄ hl3 hL2
      clear hIf hzz hok hoff
      refine len_at (l := D) (k := (pl : Int)) ⟨_, hl3, rfl, _, rfl⟩ (by simp only [List.size_toArray]; rw [hL2]) (by lia) ?_
      k_steps
      rename Fr _ _ _ _ => F5
      rename News _ _ _ _ => N5
      have hz : vs'.toArray.size ≤ sizeLine := by rw [List.size_toArray, sizeLine_eq]; lia
      show wpAny _ _ (subscriptTail _ _ _ _) _ _ _
      refine kmk_slice_ints F5 N5 ⟨_, (N5 _ (.tail _ (.head _))).1, rfl, n', rfl⟩ (by constructor) (by constructor) hI (kmk_upto hI (Int.natCast_nonneg pl)) rfl ?_ (by with_unfolding_all rfl) (by intro _; with_unfolding_all rfl) hz
      intro D1 ws1 h5 F6 N6 hlt6 hI1 _ _
      clear F5 N5
      k_steps
      rename Fr _ _ _ _ => F5
      rename News _ _ _ _ => N5
      show wpAny _ _ (subscriptTail _ _ _ _) _ _ _
      refine kmk_slice_ints F5 N5 ⟨_, (N5 _ (.tail _ (.tail _ (.tail _ (.tail _ (.head _)))))).1, rfl, n', rfl⟩ (by constructor) (by constructor) hI (kmk_from hI (Int.natCast_nonneg pl)) rfl ?_ (by with_unfolding_all rfl) (by intro _; with_unfolding_all rfl) hz
      intro D2 ws2 h6 F7 N7 hlt7 hI2 _ _
      clear F5 N5
      k_steps
      rename Fr _ _ _ _ => Fe
      rename News _ _ _ _ => Ne
      rename IntsAre _ (_ ++ [n] ++ _) => hIe
      rename (_ < _ ∧ _ < _ ∧ _ < _ ∧ _ < _ ∧ _ < _ ∧ AllLt _ _) => hAl
      have hA := hAl.2.2.2.2.2
      have hstep : rising (List.take (i + 1) ns) = List.take (Int.toNat (pl : Int)) (rising (List.take i ns)) ++ [n] ++ List.drop (Int.toNat (pl : Int)) (rising (List.take i ns)) := by
        rw [List.take_add_one, hni]
        unfold rising
        rw [List.foldl_append]
        show riseStep (rising (List.take i ns)) n = _
        unfold riseStep
        rw [hpl, Int.toNat_natCast]
        rfl
      rw [← hstep] at hIe
      refine hQ _ _ ⟨rfl, _, _, _, [(_, W.listOf _ 0), (L' + 1, oc2)], rfl, Fe, ?n, ?s, ⟨_, _, 0, oc2, _, rfl, ?ne, rfl, hcd2, hIe⟩⟩
      case n =>
        intro p hp
        rcases List.mem_append.mp hp with hp | hp
        · rcases List.mem_cons.mp hp with rfl | hp
          · exact Ne _ (.head _)
          · rw [List.mem_singleton.mp hp]; exact Ne _ (by simp)
        · exact Ne _ (by simp [hp])
      case s =>
        intro p hp q hq
        rcases List.mem_cons.mp hq with rfl | hq
        · exact Nat.ne_of_lt (allLt_mem hA (by simp [hp]))
        · rw [List.mem_singleton.mp hq]; exact (show p.1 ≠ (L' + 1, oc').1 from hsep p hp _ (.tail _ (.head _)))
      case ne => exact (Nat.ne_of_lt (allLt_mem hA (.tail _ (.head _)))).symm
  case done =>
    rintro m₁ news₁ h tk ⟨l, vs', n', oc', x, hm, hll, rfl, hcd, hI⟩ F₁ N₁
    have F₃ : Fr s.heap L' h _ := fr_known F₁ hm
    replace N₁ : News s.heap L' h _ := N₁
    rw [List.take_length] at hI
    clear F₁
    show wpAny _ _ _ _ _ _
    k_steps
    refine hQh _ _ ?_
    exact hret _ _ _ F₃.keep ⟨_, _, _, rfl, (N₁ _ (.head _)).2.2, (N₁ _ (.head _)).1, hI⟩
end
section
set_option maxHeartbeats 8000000
open PySem.Calls
theorem fill_rd : kk = kk ∧ PySem.Challenge.rw_kq0052_01 = PySem.Challenge.rw_kq0052_01 := by
  k_fill
  exact ⟨rfl, rfl⟩
def HasN (h₁ h' : Heap) (nx nx' : Led) : Prop := ∀ q ∈ nx', h'.get? q.1 = some q.2 ∧ (q ∈ nx ∨ h₁.get? q.1 = none)
def RStep (w : World) (lam : Addr) (h₀ : Heap) (P : Nat → Value → Prop) (R : Nat → Value → Led → Prop) (i : Nat) : Prop := ∀ (x v : Value) (nx : Led) (dp un : Nat) (fr : Option (List Env)) (gd : Option (List Code)) (s : Shared) (Q E : Value → Shared → Prop),
  dp ≤ 310 → un ≤ 3000 → P i x → R i v nx → Grow h₀ s.heap → (∀ q ∈ nx, s.heap.get? q.1 = some q.2) →
  (∀ v' nx' h' tk, Grow s.heap h' → R (i + 1) v' nx' → HasN s.heap h' nx nx' → Q v' { s with heap := h', toks := tk }) →
  wpAny (model pw w) (AA dp un fr gd) (call (.ref lam) [v, x]) Q E s
local macro_rules | `(tactic| walk_at "call builtin:iter") => `(tactic| (refine stop_here ?_))
local macro_rules | `(tactic| walk_at "exec For") => `(tactic| (with_reducible refine st7 ?_))
local macro_rules | `(tactic| walk_at "exec For Name Name cons nil") => `(tactic| (with_reducible refine st7 ?_))
theorem is_no_str {M : Model} {A : Around} {E : Value → Shared → Prop} {s : Shared} {x : PySem.Str} {t : Tok} {a : Addr} {Q : Value → Shared → Prop} (h : Q (.bool false) s) : wpAny M A (compareOp .Is (.str x t) (.ref a)) Q E s := by
  show wpAny M A (do return Value.bool (← isSame (.str x t) (.ref a))) Q E s
  unfold isSame
  exact wpAny_bind (wpAny_pure (wpAny_pure h))
theorem is_no_ref {M : Model} {A : Around} {E : Value → Shared → Prop} {s : Shared} {a b : Addr} {oa ob : Obj} {Q : Value → Shared → Prop} (hab : b ≠ a) (hb : s.heap.get? b = some ob) (ha : s.heap.get? a = some oa) (hc : oa.cls = .type "object") (h : Q (.bool false) s) :
    wpAny M A (compareOp .Is (.ref b) (.ref a)) Q E s := by
  show wpAny M A (do return Value.bool (← isSame (.ref b) (.ref a))) Q E s
  exact wpAny_bind (PySem.SeqAt.wpAny_isSame_ref_other' hab hb ha (by rw [hc]; decide) (wpAny_pure h))
theorem reduce_spec (w : World) (lam seq : Addr) (init : Value) (n : Nat) (h₀ : Heap) (hini : (∃ x t, init = .str x t) ∨ ∃ b, init = .ref b ∧ b ≠ 164 ∧ ∃ ob, h₀.get? b = some ob) (P : Nat → Value → Prop) (R : Nat → Value → Led → Prop) (hlam : FnAt lam h₀) (hR0 : R 0 init []) (hS : IterOk w seq n P h₀) (hR : ∀ i, i < n → RStep w lam h₀ P R i) :
    SpecS w 172 [.ref lam, .ref seq, init] 308 2900 (fun h => Grow h₀ h) (fun h v h' => ∃ nx, R n v nx ∧ ∀ q ∈ nx, h'.get? q.1 = some q.2 ∧ h.get? q.1 = none) := by
  revert w lam seq init n h₀ P R
  (refine pk6 (i1 := nW) ?_; generalize p6_1 _ = w; generalize p6_2 _ = lam; generalize p6_3 _ = seq; generalize p6_4 _ = init; generalize p6_5 _ = n; generalize p6_6 _ = h₀)
  intro hini
  (refine pk2 ?_; generalize p2_1 _ = P; generalize p2_2 _ = R)
  intro hlam hR0 hS hR
  (refine pk6 ?_; generalize p6_1 _ = mean; generalize p6_2 _ = mg; generalize p6_3 _ = mb; generalize p6_4 _ = dp; generalize p6_5 _ = un; generalize p6_6 _ = fr); (refine pk4 (i2 := nS) ?_; generalize p4_1 _ = gd; generalize p4_2 _ = s; generalize p4_3 _ = Q; generalize p4_4 _ = E)
  intro X T hd hu hP hret
  k_dflt (refine' enter0 (binds := [(ofS "function", .ref lam), (ofS "sequence", .ref seq), (ofS "initial", init)]) X T ?k6 ?k7 ?k8 ?kB ?k9 ?c5 ?c2 ?c3 ?c4 ?_; (case k6 => k_is); (case k7 => k_is); (case k8 => (show dp < _; unfold recursionLimit; lia)); (case kB => exact binds_K X rfl (show _ = some _ from by k_is) rfl rfl (by kernel_rfl)); (case c5 => decide +kernel); (case k9 => exact locs (by kernel_rfl)); (case c2 => kernel_rfl); (case c3 => kernel_rfl); (case c4 => kernel_rfl))
  (refine pk2 ?_; generalize p2_1 _ = L'; generalize p2_2 _ = h₁)
  intro F N
  replace F : Fr s.heap L' h₁ (fun y => List.lookup y [(ofS "initial", init), (ofS "sequence", .ref seq), (ofS "function", .ref lam)]) := F
  k_steps
  show wpAny _ _ (call (.builtin "iter") [.ref seq]) _ _ _
  refine call_iter (hS _ _ _ _ (Grow.trans hP F.keep) fun fp St o hW hI hfp hnd hst hfr => ?_)
  have F2 := F.push o
  have N2 := News.push F N o hfr
  replace F2 : Fr s.heap L' _ _ := F2
  clear F N
  have hLfp : L' ∉ fp := fun hm => by
    rcases hfp _ hm with e | e
    · exact (N2 _ (.head _)).2.1 e.symm
    · apply e
      cases q : h₀.get? L' with
      | none => rfl
      | some o' => exact absurd (Nat.lt_of_lt_of_le (Heap.lt_size (hP _ _ q)) F2.above) (Nat.lt_irrefl _)
  have same : ∀ h' : Heap, (∀ b o', s.heap.get? b = some o' → h'.get? b = some o') → h'.get? h₁.objs.size = some o → ∀ b ∈ fp, ∀ o', (h₁.push o).get? b = some o' → h'.get? b = some o' := by
    intro h' G hIo b hb o' e
    rcases hfp b hb with rfl | hne
    · have e2 := (N2 _ (.head _)).1
      rw [show (h₁.push o).get? h₁.objs.size = some o from e2] at e
      cases e; exact hIo
    · cases q : h₀.get? b with
      | none => exact absurd q hne
      | some ob =>
        have e2 := F2.keep _ _ (hP _ _ q)
        rw [show (h₁.push o).get? b = some ob from e2] at e
        cases e
        exact G _ _ (hP _ _ q)
  k_steps
  rename Fr _ _ _ _ => F3
  rename News _ _ _ _ => N3
  have hcmp : ∀ {M : Model} {A : Around} {E' : Value → Shared → Prop} {Q' : Value → Shared → Prop} {s' : Shared}, Grow s.heap s'.heap → Q' (.bool false) s' → wpAny M A (compareOp .Is init (.ref 164)) Q' E' s' := by
    intro M A E' Q' s' G q
    rcases hini with ⟨x0, t0, rfl⟩ | ⟨b0, rfl, hb0, ob, hob⟩
    · exact is_no_str q
    · exact is_no_ref hb0 (G _ _ (hP _ _ hob)) (G _ _ (X 164 ⟨.type "object", none, .plain, #[]⟩ (by kernel_rfl))) rfl q
  show wpAny _ _ (compareOp _ _ _) _ _ _
  refine hcmp F3.keep ?_
  k_steps
  rename Fr _ _ _ _ => F4
  rename News _ _ _ _ => N4
  refine For_invVF F4 rfl rfl ?_
  k_steps
  rename Fr _ _ _ _ => F5
  rename News _ _ _ _ => N5
  show wpAny _ _ (pyIter (.ref _)) _ _ _
  have st5 := (hW RA rfl).frame 0 _ _ hst (same _ F5.keep (N5 _ (.head _)).1)
  refine (hW _ rfl).self 0 _ _ _ st5 ?_
  refine loop_gen (fun i m nx => ∃ v, m (ofS "value") = some v ∧ m (ofS "function") = some (.ref lam) ∧ R i v nx) [] (hW _ rfl) hI hLfp (N5 _ (.head _)).2.2 st5 F5 (news := []) (fun p hp => nomatch hp) (fun p hp => nomatch hp) ⟨init, rfl, rfl, hR0⟩ (fun i m nx _ p hp => nomatch hp) (fun b hb => (hfp b hb).imp id fun hne => .inl fun q => hne (by
    cases q1 : h₀.get? b with
    | none => rfl
    | some ob => rw [hP _ _ q1] at q; cases q)) ?turn ?done
  case turn =>
    rintro i x m₁ nx s₁ own hi hPx ⟨v, hv, hf, hRv⟩ hsep ⟨h2, tk2, rfl⟩ F₁ N₁
    replace F₁ : Fr s.heap L' h2 _ := F₁
    replace N₁ : News s.heap L' h2 _ := N₁
    have Fa := fr_known F₁ (z := ofS "value") (v := v) (by rw [if_neg (by decide +kernel)]; exact hv)
    have Fb := fr_known Fa (z := ofS "function") (v := .ref lam) (by rw [if_neg (by decide +kernel), if_neg (by decide +kernel)]; exact hf)
    clear F₁ Fa
    have flam : ∀ h, Grow s.heap h → FnAt lam h := fun h G => by
      obtain ⟨oc, od, fd, sl, e⟩ := hlam
      exact ⟨oc, od, fd, sl, G _ _ (hP _ _ e)⟩
    have fl2 := flam h2 Fb.keep
    k_steps
    refine callWith_F fl2 ?_
    k_steps
    · exact fl2
    show wpAny _ _ (call (.ref lam) [v, x]) _ _ _
    refine hR i hi x v nx _ _ _ _ _ _ _ (by show dp + 1 ≤ 310; lia) (by show un + _ ≤ 3000; lia) hPx hRv (Grow.trans hP Fb.keep) (fun q hq => (N₁ q (List.mem_append_left _ hq)).1) fun v' nx' h3 tk3 G3 hR3 hN3 => ?_
    have F3 := Fb.after G3
    have hL3 : ∃ oL, h2.get? L' = some oL := by obtain ⟨o, _, _, e, _⟩ := Fb.ns; exact ⟨o, e⟩
    have N3 : News s.heap L' h3 (nx' ++ own) := by
      intro q hq
      rcases List.mem_append.mp hq with hq | hq
      · rcases (hN3 q hq).2 with hm | hf
        · exact ⟨(hN3 q hq).1, (N₁ q (List.mem_append_left _ hm)).2⟩
        · refine ⟨(hN3 q hq).1, fun e => ?_, ?_⟩
          · obtain ⟨o, e'⟩ := hL3; rw [e, e'] at hf; cases hf
          · cases q1 : s.heap.get? q.1 with
            | none => rfl
            | some o => have := Fb.keep _ _ q1; rw [hf] at this; cases this
      · exact News.grown N₁ G3 q (List.mem_append_right _ hq)
    have sep3 : ∀ p ∈ own, ∀ q ∈ nx', p.1 ≠ q.1 := fun p hp q hq e => by
      rcases (hN3 q hq).2 with hm | hf
      · exact hsep p hp q hm e
      · have := (N₁ p (List.mem_append_right _ hp)).1; rw [e, hf] at this; cases this
    clear Fb N₁ fl2
    k_steps
    rename Fr _ _ _ _ => Fe
    rename News _ _ _ _ => Ne
    exact ⟨rfl, _, _, _, nx', rfl, Fe, Ne, sep3, v', rfl, rfl, hR3⟩
  case done =>
    rintro m₁ nx h2 tk2 ⟨v, hv, hf, hRv⟩ F₁ N₁
    replace F₁ : Fr s.heap L' h2 _ := F₁
    replace N₁ : News s.heap L' h2 _ := N₁
    have Fa := fr_known F₁ (z := ofS "value") (v := v) hv
    clear F₁
    show wpAny _ _ _ _ _ _
    k_steps
    exact hret _ _ _ Fa.keep ⟨nx, hRv, fun q hq => ⟨(N₁ q hq).1, (N₁ q hq).2.2⟩⟩
end
section
open PySem.Calls
theorem news_new {h₀ h h' : Heap} {L D : Addr} {m : PySem.Str → Option Value} {o : Obj} {news : Led} (F : Fr h₀ L h m) (N : News h₀ L h news) (G : Grow h h') (hD : h.get? D = none) (hl : h'.get? D = some o) : News h₀ L h' ((D, o) :: news) := by
  intro p hp
  rcases List.mem_cons.mp hp with rfl | hp
  · refine ⟨hl, fun e => ?_, ?_⟩
    · obtain ⟨o1, _, _, e1, _⟩ := F.ns
      rw [show D = L from e, e1] at hD; cases hD
    · cases q : h₀.get? D with
      | none => rfl
      | some o1 => rw [F.keep D o1 q] at hD; cases hD
  · exact News.grown N G p hp
def Nd (l : Led) : Prop := (l.map (·.1)).Nodup
theorem Nd.new {h₀ h : Heap} {L D : Addr} {o : Obj} {news : Led} (d : Nd news) (N : News h₀ L h news) (hD : h.get? D = none) : Nd ((D, o) :: news) := by
  unfold Nd at *
  rw [List.map_cons, List.nodup_cons]
  refine ⟨fun hm => ?_, d⟩
  obtain ⟨p, hp, e⟩ := List.mem_map.mp hm
  have := (N p hp).1
  rw [show p.1 = D from e, hD] at this; cases this
theorem Nd.tail {p : Addr × Obj} {l : Led} (d : Nd (p :: l)) : Nd l := (List.nodup_cons.mp (show ((p :: l).map (·.1)).Nodup from d)).2
theorem Nd.head {p : Addr × Obj} {l : Led} (d : Nd (p :: l)) : ∀ q ∈ l, q.1 ≠ p.1 := fun q hq e => (List.nodup_cons.mp (show ((p :: l).map (·.1)).Nodup from d)).1 (by show p.1 ∈ _; rw [← e]; exact List.mem_map_of_mem (f := fun x : Addr × Obj => x.1) hq)
theorem Nd.perm {l l' : Led} (d : Nd l) (p : l.Perm l') : Nd l' := (p.map (fun x : Addr × Obj => x.1)).nodup_iff.mp d
theorem News.perm {h₀ h : Heap} {L : Addr} {l l' : Led} (N : News h₀ L h l) (p : l.Perm l') : News h₀ L h l' := fun q hq => N q (p.mem_iff.mpr hq)
theorem Nd.upd {p : Addr × Obj} {o' : Obj} {l : Led} (d : Nd (p :: l)) : Nd ((p.1, o') :: l) := d
theorem Nd.sub {l l' : Led} (d : Nd l) (p : l'.Sublist l) : Nd l' := (p.map (fun x : Addr × Obj => x.1)).nodup d
theorem news_turn {h₀ h h' : Heap} {L d : Addr} {o o' : Obj} {l : Led} (N : News h₀ L h ((d, o) :: l)) (D : Nd ((d, o) :: l)) (hs : Heap.SameBut d h h') (ho : h'.get? d = some o') : News h₀ L h' ((d, o') :: l) := by
  intro p hp
  rcases List.mem_cons.mp hp with rfl | hp
  · exact ⟨ho, (N _ (.head _)).2⟩
  · have n := N p (.tail _ hp)
    exact ⟨(hs.2 _ (D.head p hp)).trans n.1, n.2⟩
end
section
open PySem.Calls
theorem hexD_hx {k : Int} (h0 : 0 ≤ k) (h1 : k < 16) : hexD (hx k) = k.toNat := allN (N := 16) (P := fun k => hexD (hx k) = k.toNat) (by decide) h0 h1
theorem hexD_lo {k : Int} (h0 : 0 ≤ k) (h1 : k < 16) : hexD (lo1 (hx k)) = k.toNat := allN (N := 16) (P := fun k => hexD (lo1 (hx k)) = k.toNat) (by decide) h0 h1
theorem isHex_hx {k : Int} (h0 : 0 ≤ k) (h1 : k < 16) : IsHex (hx k) := allN (N := 16) (P := fun k => IsHex (hx k)) (by unfold IsHex; decide) h0 h1
theorem isHex_lo {k : Int} (h0 : 0 ≤ k) (h1 : k < 16) : IsHex (lo1 (hx k)) := allN (N := 16) (P := fun k => IsHex (lo1 (hx k))) (by unfold IsHex; decide) h0 h1
theorem m256 (y : Int) : y % 256 / 16 = y / 16 % 16 := by
  conv => rhs; rw [← Int.emod_add_mul_ediv y 256]
  have h0 := Int.emod_nonneg y (show (256 : Int) ≠ 0 by decide)
  have h1 := Int.emod_lt_of_pos y (show (0 : Int) < 256 by decide)
  generalize y % 256 = r, y / 256 = q at h0 h1
  rw [show (256 : Int) = 16 * 16 from rfl, Int.mul_assoc, Int.add_mul_ediv_left _ _ (by decide), Int.add_mul_emod_self_left, Int.emod_eq_of_lt (Int.ediv_nonneg h0 (by decide)) (Int.ediv_lt_of_lt_mul (by decide) h1)]
theorem g_hi (x a b : Int) (ha : 0 ≤ a) (h : b = a * 16) : x / a % 256 / 16 = x / b % 16 := by
  rw [m256, Int.ediv_ediv_of_nonneg ha, ← h]
theorem g_lo (y : Int) : y % 256 % 16 = y % 16 := Int.emod_emod_of_dvd y ⟨16, rfl⟩
theorem hstep (x a b : Int) (ha : 0 ≤ a) (h : b = a * 16) : x / b * 16 + x / a % 16 = x / a := by
  rw [h, ← Int.ediv_ediv_of_nonneg ha]; exact Int.ediv_mul_add_emod _ _
theorem mod16 (y : Int) : 0 ≤ y % 16 ∧ y % 16 < 16 := ⟨Int.emod_nonneg _ (by decide), Int.emod_lt_of_pos _ (by decide)⟩
noncomputable def nib (x : Int) : List Int := [x / 268435456 % 16, x / 16777216 % 16, x / 1048576 % 16, x / 65536 % 16, x / 4096 % 16, x / 256 % 16, x / 16 % 16, x % 16]
theorem figs_four (x : Int) (h0 : 0 ≤ x) : figs (four x) = (nib x).map hx := by
  unfold figs four nib
  have e : ∀ a b : Int, 0 ≤ b → a.fdiv b = a / b := fun a b hb => Int.fdiv_eq_ediv_of_nonneg a hb
  have f : ∀ a b : Int, 0 ≤ b → a.fmod b = a % b := fun a b hb => Int.fmod_eq_emod_of_nonneg a hb
  simp only [List.flatMap_cons, List.flatMap_nil, List.cons_append, List.nil_append, List.map_cons, List.map_nil]
  have e3 : (256 : Int) ^ Int.toNat 3 = 16777216 := by decide
  have e2 : (256 : Int) ^ Int.toNat 2 = 65536 := by decide
  have e1 : (256 : Int) ^ Int.toNat 1 = 256 := by decide
  have e0 : (256 : Int) ^ Int.toNat 0 = 1 := by decide
  rw [e3, e2, e1, e0]
  simp (disch := decide) only [e, f]
  rw [g_hi x 16777216 268435456 (by decide) rfl, g_hi x 65536 1048576 (by decide) rfl, g_hi x 256 4096 (by decide) rfl, g_hi x 1 16 (by decide) rfl, g_lo, g_lo, g_lo, g_lo, Int.ediv_one]
theorem nib_in (x : Int) : ∀ k ∈ nib x, 0 ≤ k ∧ k < 16 := by
  intro k hk
  simp only [nib, List.mem_cons, List.not_mem_nil, or_false] at hk
  rcases hk with rfl | rfl | rfl | rfl | rfl | rfl | rfl | rfl <;> exact mod16 _
def lett (x : Int) (k : Int) : Nat := if x.fmod 2 = 1 then lo1 (hx k) else hx k
theorem srcOf_eq (x : Int) (h0 : 0 ≤ x) : srcOf x = (nib x).map (lett x) := by
  unfold srcOf
  rw [figs_four x h0]
  split <;> rename_i h
  · rw [List.map_map]; refine List.map_congr_left fun k _ => ?_; simp [lett, h]
  · refine List.map_congr_left fun k _ => ?_; simp [lett, h]
theorem hexD_lett (x : Int) {k : Int} (h0 : 0 ≤ k) (h1 : k < 16) : hexD (lett x k) = k.toNat := by
  unfold lett; split
  · exact hexD_lo h0 h1
  · exact hexD_hx h0 h1
theorem isHex_lett (x : Int) {k : Int} (h0 : 0 ≤ k) (h1 : k < 16) : IsHex (lett x k) := by
  unfold lett; split
  · exact isHex_lo h0 h1
  · exact isHex_hx h0 h1
theorem src_hex (x : Int) (h0 : 0 ≤ x) : AllHex (srcOf x) := by
  rw [srcOf_eq x h0]
  intro c hc
  obtain ⟨k, hk, rfl⟩ := List.mem_map.mp hc
  exact isHex_lett x (nib_in x k hk).1 (nib_in x k hk).2
theorem src_len (x : Int) (h0 : 0 ≤ x) : (srcOf x).length = 8 := by rw [srcOf_eq x h0]; rfl
theorem val_lett (x : Int) : ∀ (l : List Int), (∀ k ∈ l, 0 ≤ k ∧ k < 16) → ∀ a : Nat, (((l.map (lett x)).foldl (fun acc c => acc * 16 + hexD c) a : Nat) : Int) = l.foldl (fun acc k => acc * 16 + k) (a : Int)
  | [], _, a => rfl
  | k :: l, h, a => by
    have hk := h k (.head _)
    have := val_lett x l (fun k hk => h k (.tail _ hk)) (a * 16 + hexD (lett x k))
    rw [List.map_cons, List.foldl_cons, List.foldl_cons, this, hexD_lett x hk.1 hk.2, Int.natCast_add, Int.natCast_mul, Int.toNat_of_nonneg hk.1]
    rfl
theorem src_low (x : Int) : [x / 4096 % 16, x / 256 % 16, x / 16 % 16, x % 16].foldl (fun acc k => acc * 16 + k) (x / 65536) = x := by
  show (((x / 65536 * 16 + x / 4096 % 16) * 16 + x / 256 % 16) * 16 + x / 16 % 16) * 16 + x % 16 = x
  rw [hstep x 4096 65536 (by decide) rfl, hstep x 256 4096 (by decide) rfl, hstep x 16 256 (by decide) rfl, Int.ediv_mul_add_emod]
theorem src_val (x : Int) (h0 : 0 ≤ x) (h1 : x < 1114112) : (hexVal (srcOf x) : Int) = x := by
  rw [srcOf_eq x h0]
  refine (val_lett x _ (nib_in x) 0).trans ?_
  have e : x / 1048576 % 16 = x / 1048576 := Int.emod_eq_of_lt (Int.ediv_nonneg h0 (by decide)) (Int.ediv_lt_of_lt_mul (by decide) (Int.lt_trans h1 (by decide)))
  have e1 : x / 268435456 = 0 := Int.ediv_eq_zero_of_lt h0 (Int.lt_trans h1 (by decide))
  have e2 : x / 16777216 = 0 := Int.ediv_eq_zero_of_lt h0 (Int.lt_trans h1 (by decide))
  have hi : [x / 268435456 % 16, x / 16777216 % 16, x / 1048576 % 16, x / 65536 % 16].foldl (fun acc k => acc * 16 + k) (0 : Int) = x / 65536 := by
    rw [e1, e2, e, List.foldl_cons, List.foldl_cons, List.foldl_cons, List.foldl_cons, List.foldl_nil, show (((0 : Int) * 16 + 0 % 16) * 16 + 0 % 16) * 16 + x / 1048576 = x / 1048576 from Int.zero_add _, hstep x 65536 1048576 (by decide) rfl]
  have sp : nib x = [x / 268435456 % 16, x / 16777216 % 16, x / 1048576 % 16, x / 65536 % 16] ++ [x / 4096 % 16, x / 256 % 16, x / 16 % 16, x % 16] := rfl
  rw [sp, List.foldl_append]
  exact (congrArg (fun z => List.foldl (fun acc k => acc * 16 + k) z [x / 4096 % 16, x / 256 % 16, x / 16 % 16, x % 16]) hi).trans (src_low x)
theorem src_val4' (x : Int) (h0 : 0 ≤ x) (h1 : x < 1114112) : (hexVal ((srcOf x).drop 4) : Int) = x % 65536 := by
  rw [srcOf_eq x h0]
  refine (val_lett x [x / 4096 % 16, x / 256 % 16, x / 16 % 16, x % 16] (fun k hk => nib_in x k (List.mem_of_mem_drop (i := 4) hk)) 0).trans ?_
  have e := (src_low x).trans (Int.emod_add_mul_ediv x 65536).symm
  simp only [List.foldl_cons, List.foldl_nil, Int.natCast_zero] at e ⊢
  generalize x % 65536 = r, x / 65536 = q, x / 4096 % 16 = a, x / 256 % 16 = b, x / 16 % 16 = c, x % 16 = d at e ⊢
  lia
theorem src_val4 (x : Int) (h0 : 0 ≤ x) (h1 : x < 65536) : (hexVal ((srcOf x).drop 4) : Int) = x := (src_val4' x h0 (Int.lt_trans h1 (by decide))).trans (Int.emod_eq_of_lt h0 h1)
end
section
open PySem.Calls PySem.Builtin.Str
theorem idx_tx (a b n : Nat) (hab : a ≤ b) (hb : b ≤ n) : strSliceIndices (some (a : Int)) (some (b : Int)) 1 n = (List.range (b - a)).map (fun i => a + i) := by
  unfold strSliceIndices PySem.sliceRange
  have e1 : ¬ ((a : Int) < 0) := Int.not_lt.mpr (Int.natCast_nonneg a)
  have e2 : ¬ ((b : Int) < 0) := Int.not_lt.mpr (Int.natCast_nonneg b)
  have m1 : max (0 : Int) (min (a : Int) (n : Int)) = (a : Int) := by rw [Int.min_eq_left (Int.ofNat_le.mpr (Nat.le_trans hab hb)), Int.max_eq_right (Int.natCast_nonneg a)]
  have m2 : max (0 : Int) (min (b : Int) (n : Int)) = (b : Int) := by rw [Int.min_eq_left (Int.ofNat_le.mpr hb), Int.max_eq_right (Int.natCast_nonneg b)]
  simp only [show (1 : Int) > 0 by decide, if_true, e1, e2, if_false, m1, m2]
  have hc : (if (a : Int) < (b : Int) then ((b : Int) - (a : Int) + 1 - 1) / 1 else 0).toNat = b - a := by
    rw [Int.ediv_one, Int.add_sub_cancel]
    split
    · exact Int.toNat_sub b a
    · exact (Nat.sub_eq_zero_of_le (Int.ofNat_le.mp (Int.not_lt.mp ‹_›))).symm
  rw [hc]
  refine List.map_congr_left fun k hk => ?_
  rw [Int.one_mul]
  rfl
theorem filt_get (l : List Nat) (a : Nat) : ∀ k, a + k ≤ l.length → ((List.range k).map (fun i => a + i)).filterMap (fun i => (tx l).cps[i]?) = (l.drop a).take k := by
  intro k
  induction k with
  | zero => intro _; simp
  | succ k ih =>
    intro h
    rw [List.range_succ, List.map_append, List.filterMap_append, ih (Nat.le_of_succ_le h), List.take_add_one]
    congr 1
    have : a + k < l.length := h
    simp [tx, this]
theorem slice_tx (l : List Nat) (a b : Nat) (hab : a ≤ b) (hb : b ≤ l.length) : Txt.slice (tx l) (some (a : Int)) (some (b : Int)) = tx ((l.drop a).take (b - a)) := by
  unfold Txt.slice
  rw [show (tx l).length = l.length from rfl, idx_tx a b l.length hab hb]
  split
  · rename_i h
    simp only [BEq.rfl, Bool.true_and, beq_iff_eq, List.length_map, List.length_range] at h
    have ha : a = 0 := Nat.eq_zero_of_not_pos fun hp => absurd h (Nat.ne_of_lt (Nat.lt_of_lt_of_le (Nat.sub_lt (Nat.lt_of_lt_of_le hp hab) hp) hb))
    subst ha
    rw [List.drop_zero, List.take_of_length_le (Nat.le_of_eq h.symm)]
  · rw [filt_get l a (b - a) (by rw [Nat.add_sub_of_le hab]; exact hb)]; rfl
theorem slice_08 (x : Int) (h0 : 0 ≤ x) : Txt.slice (tx (srcOf x)) (some 0) (some (0 + 8)) = tx (srcOf x) := by
  have := slice_tx (srcOf x) 0 8 (by decide) (Nat.le_of_eq (src_len x h0).symm)
  rw [List.drop_zero, List.take_of_length_le (Nat.le_of_eq (src_len x h0))] at this
  exact this
theorem slice_48 (x : Int) (h0 : 0 ≤ x) : Txt.slice (tx (srcOf x)) (some 4) (some (4 + 4)) = tx ((srcOf x).drop 4) := by
  have := slice_tx (srcOf x) 4 8 (by decide) (Nat.le_of_eq (src_len x h0).symm)
  rw [List.take_of_length_le (by rw [List.length_drop, src_len x h0]; decide)] at this
  exact this
end
section
set_option maxHeartbeats 2000000
open PySem.Calls
abbrev lawS : Scope := fnS (st 39)
abbrev lawEnv (L fa : Addr) : Env := envX (ofS "law") lawS L fa (.ref 210) (cellsFrom (L + 1) lawS.names [])
abbrev lawA (L fa : Addr) : Around := callerA.deeper (lawEnv L fa)
def Fits (y : Int) : Prop := y < 55296 ∨ 57343 < y
def wordsU : PySem.Str := ofS "Escaped character is not a Unicode scalar value (at end of document)"
theorem words_eq : Str.empty ++ Str.ofString "Escaped character is not a Unicode scalar value" ++ Str.ofString " (at " ++ Str.ofString "end of document" ++ Str.ofString ")" = wordsU := by decide +kernel
theorem mem_pt {l : Led} (idx : List Nat) (k : Nat) {p : Addr × Obj} (hp : p ∈ idx.filterMap (fun i => l[i]?) ++ l.drop k) : p ∈ l := by
  rcases List.mem_append.mp hp with h | h
  · obtain ⟨i, _, hi⟩ := List.mem_filterMap.mp h
    exact List.mem_of_getElem? hi
  · exact List.mem_of_mem_drop h
theorem SepOk.fresh {h₀ h : Heap} {L D : Addr} {t : Obj} {extra rest : Led} (S : SepOk extra rest) (N : News h₀ L h ((47, t) :: (extra ++ rest))) (hD : h.get? D = none) : ∀ o, SepOk extra ((D, o) :: rest) := fun o => by
  have ne : ∀ p ∈ ((47, t) :: (extra ++ rest) : Led), D ≠ p.1 := fun p hp e => by have := (N p hp).1; rw [← e, hD] at this; cases this
  refine ⟨fun q hq => ?_, fun p hp => ⟨(S.2 p hp).1, fun q hq => ?_⟩⟩
  · rcases List.mem_cons.mp hq with rfl | hq
    · exact ne _ (.head _)
    · exact S.1 q hq
  · rcases List.mem_cons.mp hq with rfl | hq
    · exact ne p (.tail _ (List.mem_append_left _ hp))
    · exact (S.2 p hp).2 q hq
theorem SepOk.above {D : Addr} {extra rest r : Led} (S : SepOk extra rest) (h47 : 47 < D) (h : AllLt D (extra ++ r)) : ∀ o, SepOk extra ((D, o) :: rest) := fun o => by
  refine ⟨fun q hq => ?_, fun p hp => ⟨(S.2 p hp).1, fun q hq => ?_⟩⟩
  · rcases List.mem_cons.mp hq with rfl | hq
    · exact Nat.ne_of_gt h47
    · exact S.1 q hq
  · rcases List.mem_cons.mp hq with rfl | hq
    · exact Nat.ne_of_gt (allLt_mem h (List.mem_append_left _ hp))
    · exact (S.2 p hp).2 q hq
theorem told_any (w : World) (h₀ : Heap) (mg mb : PySem.Str → Option Value) (mean : ExcName → Option Value) (L fa : Addr) (m : PySem.Str → Option Value) (s : Shared) (Q E : Value → Shared → Prop)
   (X : (kk w.params).In h₀) (T : Top topProg LO mean mg mb h₀) (C47 : CodeHd h₀ 51 47) (K : Below callerA h₀ [] h₀) (F : Fr h₀ L s.heap m) (ps : Array Value) (extra rest : Led) (hT : TabOk ps extra) (N : News h₀ L s.heap ((47, tabObj ps) :: (extra ++ rest))) (D : SepOk extra rest)
   (src sl : List Nat) (tx1 tp th : Tok) (pos n y : Int) (hsl : Txt.slice (tx src) (some pos) (some (pos + n)) = tx sl) (hlen : (sl.length : Int) = n) (h0 : 0 ≤ pos) (h1 : 1 ≤ n) (h2 : pos + n = src.length) (h3 : src.length ≤ 200) (hh : AllHex sl) (hv : (hexVal sl : Int) = y) (hy : y < 1114112)
   (hok : Fits y → ∀ h' tk l t1 t2, Grow s.heap h' → s.heap.get? l = none → h'.get? l = some { cls := .type "tuple", data := .seq #[.int (pos + n) t1, .str (tx [y.toNat]) t2] 0 } → Q (.ref l) { s with heap := h', toks := tk })
   (hun : ¬ Fits y → ∀ h' tk u ps' extra', Fr h₀ L h' m → News h₀ L h' ((47, tabObj ps') :: (extra' ++ rest)) → SepOk extra' rest → TabOk ps' extra' → Q (.str wordsU u) { s with heap := h', toks := tk }) :
   wpAny (model pw w) (lawA L fa) (call (.ref 179) [.str (tx src) tx1, .int pos tp, .int n th]) Q E s := by
  by_cases hf : Fits y
  · have hnat : y.toNat = hexVal sl := hv ▸ Int.toNat_natCast _
    refine (told_ok w (tx src) (tx sl) tx1 tp th pos n hsl hlen h0 h1 (Int.le_of_eq h2) h3 hh (Int.ofNat_lt.mp (Int.lt_of_le_of_lt (Int.le_of_eq hv) hy)) (by show ¬ (55296 ≤ hexVal sl ∧ hexVal sl < 57344); unfold Fits at hf; lia)) mean mg mb _ _ _ _ s Q E (X.keeps F.keep) (T.keeps F.keep) ?_ ?_ trivial ?_
    · exact Nat.le_of_ble_eq_true (by kernel_rfl!)
    · exact Nat.le_of_ble_eq_true (by kernel_rfl!)
    · rintro v h' tk' G ⟨t1, t2, l, rfl, hl0, hl1⟩
      refine hok hf h' tk' l t1 t2 G hl0 ?_
      rw [hnat]; exact hl1
  · have hv1 : 55296 ≤ hexVal sl ∧ hexVal sl < 57344 := by unfold Fits at hf; lia
    refine told_unfit w h₀ mg mb mean L fa m s Q E X T C47 K F ps extra rest hT N D (tx src) (tx sl) tx1 tp th pos n hsl hlen h0 h1 h2 h3 hh hv1 fun h' tk u ps' extra' F' N' S' hT' => ?_
    rw [words_eq]
    exact hun hf h' tk u ps' extra' F' N' S' hT'
end
section
set_option maxHeartbeats 8000000
open PySem.Calls
theorem fill_lw2 : kk = kk ∧ PySem.Challenge.rw_kq0052_01 = PySem.Challenge.rw_kq0052_01 := by
  k_fill
  exact ⟨rfl, rfl⟩
local macro_rules | `(tactic| walk_at "exec For") => `(tactic| (with_reducible refine st7 ?_))
local macro_rules | `(tactic| walk_at "exec For Name Name cons nil") => `(tactic| (with_reducible refine st7 ?_))
local macro_rules | `(tactic| walk_at "eval Name") => `(tactic| ((with_reducible show wpAny _ _ (eval (Expr.Name _ _) (lawEnv _ _)) _ _ _); refine name_cellX (by with_unfolding_all rfl) (by assumption) (by with_unfolding_all rfl) (by with_unfolding_all rfl) (by decide +kernel) ?_))
def lawRest : Nat → List Stmt := fun k => (fnB (st 39)).drop k
noncomputable def fitB (y : Int) : Bool := decide (y < 55296) || decide (57343 < y)
noncomputable def codesOf (l : List Int) : List Nat := (l.filter fitB).map Int.toNat
section
variable {w : World} {A : Around} {E : Value → Shared → Prop} {s : Shared} {h₀ : Heap} {L l : Addr} {m : PySem.Str → Option Value} {news : Led} {v : Value} {k : Nat} {u : Tok} {Q : Value → Shared → Prop}
theorem mul_x2 (F : Fr h₀ L s.heap m) (N : News h₀ L s.heap news) (hl : s.heap.get? l = some (W.listOf #[v] k))
    (h : ∀ h', Fr h₀ L h' m → News h₀ L h' ((s.heap.objs.size, W.listOf #[v, v] 0) :: news) → Q (.ref s.heap.objs.size) { s with heap := h' }) : wpAny (model pw w) A (binaryOp .Mult (.ref l) (.int 2 u)) Q E s :=
  mul_list F N hl (by decide) (by decide) (by simp) h
theorem mul_x1 (F : Fr h₀ L s.heap m) (N : News h₀ L s.heap news) (hl : s.heap.get? l = some (W.listOf #[v] k))
    (h : ∀ h', Fr h₀ L h' m → News h₀ L h' ((s.heap.objs.size, W.listOf #[v] 0) :: news) → Q (.ref s.heap.objs.size) { s with heap := h' }) : wpAny (model pw w) A (binaryOp .Mult (.ref l) (.int 1 u)) Q E s :=
  mul_list F N hl (by decide) (by decide) (by simp) h
end
theorem rd_tup {h : Heap} {l : Addr} {a : Int} {x : PySem.Str} {t u : Tok} {n : Nat} (e : h.get? l = some { cls := .type "tuple", data := .seq #[.int a t, .str x u] n }) : Reads h (.ref l) (.tuple [.int a, .str x]) [] :=
  reads_tuple_at e rfl rfl (.cons (.int a t) (.cons (.str x u) .nil))
theorem rd_list2 {h : Heap} {l : Addr} {v1 v2 : Value} {d1 d2 : PyData} {n : Nat} (e : h.get? l = some (W.listOf #[v1, v2] n)) (r1 : Reads h v1 d1 []) (r2 : Reads h v2 d2 []) : Reads h (.ref l) (.list [d1, d2]) [l] :=
  reads_list_at e rfl rfl (.cons r1 (.cons r2 .nil))
theorem rd_list1 {h : Heap} {l : Addr} {v1 : Value} {d1 : PyData} {n : Nat} (e : h.get? l = some (W.listOf #[v1] n)) (r1 : Reads h v1 d1 []) : Reads h (.ref l) (.list [d1]) [l] :=
  reads_list_at e rfl rfl (.cons r1 .nil)
theorem strOk1 {c : Nat} (h : c < 1114112) : PyData.strOk (tx [c]) = true := by simp [PyData.strOk, tx, h]
theorem shp2 {a b : Int} {c d : Nat} (hc : c < 1114112) (hd : d < 1114112) : PySem.SeqAt.shaped (.list [.tuple [.int a, .str (tx [c])], .tuple [.int b, .str (tx [d])]]) = true := by
  simp [PySem.SeqAt.shaped, PyData.canLay0, PyData.canLayAll0, PyData.depth, PyData.depthAll, strOk1 hc, strOk1 hd]
theorem shp1 {a : Int} {c : Nat} (hc : c < 1114112) : PySem.SeqAt.shaped (.list [.tuple [.int a, .str (tx [c])]]) = true := by
  simp [PySem.SeqAt.shaped, PyData.canLay0, PyData.canLayAll0, PyData.depth, PyData.depthAll, strOk1 hc]
theorem eqv2 {c : Nat} : PyData.eqv (.list [.tuple [.int (0 + 8), .str (tx [c])], .tuple [.int (4 + 4), .str (tx [c])]]) (.list [.tuple [.int 8, .str (tx [c])], .tuple [.int 8, .str (tx [c])]]) = true := by
  simp [PyData.eqv, PyData.eqvAll]
theorem eqv1 {c : Nat} : PyData.eqv (.list [.tuple [.int (0 + 8), .str (tx [c])]]) (.list [.tuple [.int 8, .str (tx [c])]]) = true := by
  simp [PyData.eqv, PyData.eqvAll]
section
variable {w : World} {A : Around} {E : Value → Shared → Prop} {s : Shared} {a b : Value} {as bs : List Addr} {c : Nat} {Q : Value → Shared → Prop}
theorem ne_told2 (hc : c < 1114112) (ra : Reads s.heap a (.list [.tuple [.int (0 + 8), .str (tx [c])], .tuple [.int (4 + 4), .str (tx [c])]]) as) (rb : Reads s.heap b (.list [.tuple [.int 8, .str (tx [c])], .tuple [.int 8, .str (tx [c])]]) bs) (hu : A.units + 64 < cLine)
    (h : Q (.bool false) s) : wpAny (model pw w) A (compareOp .NotEq a b) Q E s :=
  ne_dataH ra rb (shp2 hc hc) (shp2 hc hc) hu (by rw [eqv2]; exact h)
theorem ne_told1 (hc : c < 1114112) (ra : Reads s.heap a (.list [.tuple [.int (0 + 8), .str (tx [c])]]) as) (rb : Reads s.heap b (.list [.tuple [.int 8, .str (tx [c])]]) bs) (hu : A.units + 64 < cLine)
    (h : Q (.bool false) s) : wpAny (model pw w) A (compareOp .NotEq a b) Q E s :=
  ne_dataH ra rb (shp1 hc) (shp1 hc) hu (by rw [eqv1]; exact h)
theorem ne_words2 (ra : Reads s.heap a (.list [.str wordsU, .str wordsU]) as) (rb : Reads s.heap b (.list [.str wordsU, .str wordsU]) bs) (hu : A.units + 64 < cLine)
    (h : Q (.bool false) s) : wpAny (model pw w) A (compareOp .NotEq a b) Q E s :=
  ne_dataH ra rb (by decide +kernel) (by decide +kernel) hu (by rw [show PyData.eqv (.list [.str wordsU, .str wordsU]) (.list [.str wordsU, .str wordsU]) = true from by simp [PyData.eqv, PyData.eqvAll]]; exact h)
end
theorem SepOk.sub {extra rest r : Led} (S : SepOk extra rest) (h : ∀ q ∈ r, q ∈ rest) : SepOk extra r := ⟨fun q hq => S.1 q (h q hq), fun p hp => ⟨(S.2 p hp).1, fun q hq => (S.2 p hp).2 q (h q hq)⟩⟩
theorem news_mid1 (p a : Addr × Obj) (e r : Led) : (a :: p :: (e ++ r)).Perm (p :: (e ++ (a :: r))) := by
  refine (List.perm_middle (a := p) (l₁ := [a]) (l₂ := e ++ r)).trans (.cons _ ?_)
  exact (List.perm_append_comm_assoc [a] e r)
theorem news_mid (p a b : Addr × Obj) (e r : Led) : (a :: b :: p :: (e ++ r)).Perm (p :: (e ++ (a :: b :: r))) := by
  refine (List.perm_middle (a := p) (l₁ := [a, b]) (l₂ := e ++ r)).trans (.cons _ ?_)
  exact (List.perm_append_comm_assoc [a, b] e r)
theorem add_signs {w : World} {A : Around} {E : Value → Shared → Prop} {s : Shared} {Q : Value → Shared → Prop} {h₀ : Heap} {L a d : Addr} {m : PySem.Str → Option Value} {led : Led} {svs add : List Value} {k k2 : Nat} (F : Fr h₀ L s.heap m) (N : News h₀ L s.heap led)
    (hs : (a, W.listOf svs.toArray k) ∈ led) (hd : (d, W.listOf add.toArray k2) ∈ led) (hsz : svs.length + add.length ≤ 1000)
    (h : ∀ h' new, Fr h₀ L h' m → News h₀ L h' ((new, W.listOf (svs ++ add).toArray 0) :: led) → (∀ q ∈ led, q.1 < new) → Q (.ref new) { s with heap := h' }) : wpAny (model pw w) A (binaryOp .Add (.ref a) (.ref d)) Q E s :=
  add_arrays (hsz := by rw [sizeLine_eq, List.size_toArray, List.size_toArray]; lia) F N ⟨_, (N _ hs).1, rfl, k, rfl⟩ ⟨_, (N _ hd).1, rfl, k2, rfl⟩ fun h' F' N' => h h' _ F' N' fun q hq => Heap.lt_size (N q hq).1
theorem codes_fit {nums : List Int} {i : Nat} {x : Int} (h : nums[i]? = some x) (hf : fitB x = true) : codesOf (nums.take (i + 1)) = codesOf (nums.take i) ++ [x.toNat] := by
  unfold codesOf
  rw [List.take_add_one, h, Option.toList_some, List.filter_append, List.map_append]
  simp [hf]
theorem codes_unfit {nums : List Int} {i : Nat} {x : Int} (h : nums[i]? = some x) (hf : fitB x = false) : codesOf (nums.take (i + 1)) = codesOf (nums.take i) := by
  unfold codesOf
  rw [List.take_add_one, h, Option.toList_some, List.filter_append, List.map_append]
  simp [hf]
theorem strs_app {vs us : List Value} {xs ys : List PySem.Str} (h : StrsAre vs xs) (h' : StrsAre us ys) : StrsAre (vs ++ us) (xs ++ ys) := by
  induction h with
  | nil => exact h'
  | cons x t h ih => exact .cons _ _ ih
theorem strs_len {vs : List Value} {xs : List PySem.Str} (h : StrsAre vs xs) : vs.length = xs.length := by
  induction h with
  | nil => rfl
  | cons x t h ih => simp [ih]
noncomputable def LoopJ (ws : List Value) (nums : List Int) (dn n2 : Nat) (rest : Led) (i : Nat) (m : PySem.Str → Option Value) (nx : Led) : Prop :=
  ∃ sg svs n1 ps extra, m (ofS "numbers") = some (.ref dn) ∧ m (ofS "signs") = some (.ref sg) ∧ TabOk ps extra ∧ StrsAre svs ((codesOf (nums.take i)).map fun c => tx [c]) ∧
      nx = (47, tabObj ps) :: (extra ++ (sg, W.listOf svs.toArray n1) :: (dn, W.listOf ws.toArray n2) :: rest) ∧ Nd ((sg, W.listOf svs.toArray n1) :: (dn, W.listOf ws.toArray n2) :: rest) ∧ SepOk extra ((sg, W.listOf svs.toArray n1) :: (dn, W.listOf ws.toArray n2) :: rest)
theorem turn_end {ws : List Value} {nums : List Int} {dn n2 : Nat} {rest own : Led} {i : Nat} {m : PySem.Str → Option Value} {h₀ h' : Heap} {L sg1 new : Addr} {n1' tk : Nat} {svs svs' : List Value} {ps : Array Value} {extra led : Led} {s₁ : Shared}
    (hm1 : m (ofS "numbers") = some (.ref dn)) (hm2 : m (ofS "signs") = some (.ref new)) (hT : TabOk ps extra) (hS : StrsAre svs' ((codesOf (nums.take (i + 1))).map fun c => tx [c])) (F : Fr h₀ L h' m) (N : News h₀ L h' ((new, W.listOf svs'.toArray 0) :: led))
    (hled : ∀ q ∈ (47, tabObj ps) :: (extra ++ ((sg1, W.listOf svs.toArray n1') :: (dn, W.listOf ws.toArray n2) :: rest ++ own)), q ∈ led) (hlt : ∀ q ∈ led, q.1 < new) (hD : Nd ((sg1, W.listOf svs.toArray n1') :: (dn, W.listOf ws.toArray n2) :: rest))
    (S : SepOk extra ((sg1, W.listOf svs.toArray n1') :: (dn, W.listOf ws.toArray n2) :: rest ++ own)) (hown : ∀ p ∈ own, ∀ q ∈ (dn, W.listOf ws.toArray n2) :: rest, p.1 ≠ q.1) :
    TurnEnd h₀ L (LoopJ ws nums dn n2 rest (i + 1)) own s₁ .next { s₁ with heap := h', toks := tk } := by
  have lt : ∀ q ∈ (47, tabObj ps) :: (extra ++ ((sg1, W.listOf svs.toArray n1') :: (dn, W.listOf ws.toArray n2) :: rest ++ own)), q.1 < new := fun q hq => hlt q (hled q hq)
  refine ⟨rfl, h', tk, m, (47, tabObj ps) :: (extra ++ (new, W.listOf svs'.toArray 0) :: (dn, W.listOf ws.toArray n2) :: rest), rfl, F, fun q hq => ?_, fun p hp q hq => ?_, new, svs', 0, ps, extra, hm1, hm2, hT, hS, rfl, ?_, fun q hq => ?_, fun p hp => ⟨(S.2 p hp).1, fun q hq => ?_⟩⟩
  · simp only [List.cons_append, List.append_assoc, List.mem_cons, List.mem_append] at hq
    rcases hq with rfl | hq | rfl | rfl | hq | hq
    · exact N _ (.tail _ (hled _ (.head _)))
    · exact N _ (.tail _ (hled _ (by simp [hq])))
    · exact N _ (.head _)
    · exact N _ (.tail _ (hled _ (by simp)))
    · exact N _ (.tail _ (hled _ (by simp [hq])))
    · exact N _ (.tail _ (hled _ (by simp [hq])))
  · simp only [List.mem_cons, List.mem_append] at hq
    have hpo : p.1 < new := lt p (by simp [hp])
    rcases hq with rfl | hq | rfl | hq
    · exact S.1 p (by simp [hp])
    · exact (S.2 q hq).2 p (by simp [hp])
    · exact Nat.ne_of_lt hpo
    · exact hown p hp q (by simpa using hq)
  · have d := hD.tail
    unfold Nd at *
    rw [List.map_cons, List.nodup_cons]
    refine ⟨fun hm => ?_, d⟩
    obtain ⟨q, hq, e⟩ := List.mem_map.mp hm
    exact absurd (lt q (by simp at hq ⊢; rcases hq with h | h <;> simp [h])) (by rw [show q.1 = new from e]; exact Nat.lt_irrefl _)
  · rcases List.mem_cons.mp hq with rfl | hq
    · exact Nat.ne_of_gt (lt (47, tabObj ps) (.head _))
    · exact S.1 q (by simp at hq ⊢; rcases hq with h | h <;> simp [h])
  · rcases List.mem_cons.mp hq with rfl | hq
    · exact Nat.ne_of_gt (lt p (by simp [hp]))
    · exact (S.2 p hp).2 q (by simp at hq ⊢; rcases hq with h | h <;> simp [h])
theorem told_some (w : World) (h₀ : Heap) (mg mb : PySem.Str → Option Value) (mean : ExcName → Option Value) (L fa : Addr) (m : PySem.Str → Option Value) (s : Shared) (Q E : Value → Shared → Prop)
   (X : (kk w.params).In h₀) (T : Top topProg LO mean mg mb h₀) (C47 : CodeHd h₀ 51 47) (K : Below callerA h₀ [] h₀) (F : Fr h₀ L s.heap m) (ps : Array Value) (extra rest : Led) (hT : TabOk ps extra) (N : News h₀ L s.heap ((47, tabObj ps) :: (extra ++ rest))) (D : SepOk extra rest)
   (src sl : List Nat) (tx1 tp th : Tok) (pos n y : Int) (hsl : Txt.slice (tx src) (some pos) (some (pos + n)) = tx sl) (hlen : (sl.length : Int) = n) (h0 : 0 ≤ pos) (h1 : 1 ≤ n) (h2 : pos + n = src.length) (h3 : src.length ≤ 200) (hh : AllHex sl) (hv : (hexVal sl : Int) = y) (hy : y < 1114112)
   (h : ∀ h' tk u ps' extra', Fr h₀ L h' m → News h₀ L h' ((47, tabObj ps') :: (extra' ++ rest)) → SepOk extra' rest → TabOk ps' extra' → Q u { s with heap := h', toks := tk }) :
   wpAny (model pw w) (lawA L fa) (call (.ref 179) [.str (tx src) tx1, .int pos tp, .int n th]) Q E s :=
  told_any w h₀ mg mb mean L fa m s Q E X T C47 K F ps extra rest hT N D src sl tx1 tp th pos n y hsl hlen h0 h1 h2 h3 hh hv hy
    (fun _ h' tk _ _ _ G _ _ => h h' tk _ ps extra (F.after G) (News.grown N G) D hT) (fun _ h' tk _ ps' extra' F' N' S' T' => h h' tk _ ps' extra' F' N' S' T')
theorem gen_tok {α : Type} {M : Model} {A : Around} {m : Sem α} {Q : α → Shared → Prop} {E : Value → Shared → Prop} {hp : Heap} {g : Array GenState} {d : Drawn} {t : Nat} {os : OsState}
   (h : ∀ tk, wpAny M A m Q E ⟨hp, g, d, tk, os⟩) : wpAny M A m Q E ⟨hp, g, d, t, os⟩ := h t
theorem law2 (w : World) (h₀ : Heap) (mg mb : PySem.Str → Option Value) (mean : ExcName → Option Value) (L fa : Addr) (s : Shared) (Q : Flow → Shared → Prop) (E : Value → Shared → Prop) (m : PySem.Str → Option Value)
   (ws : List Value) (nums : List Int) (hi : IntsAre ws nums) (hn : nums.length ≤ 12) (hb : ∀ n ∈ nums, 0 ≤ n ∧ n < 1114112) (dn sg n1 n2 : Nat) (rest : Led)
   (X : (kk w.params).In h₀) (T : Top topProg LO mean mg mb h₀) (C47 : CodeHd h₀ 51 47) (C158 : CodeHd h₀ 162 158) (C208 : CodeHd h₀ 210 208) (K : Below callerA h₀ [] h₀)
   (hE : PassesOwn (model pw w) (lawA L fa) (lawEnv L fa) E) (F : Fr h₀ L s.heap m) (hmn : m (ofS "numbers") = some (.ref dn)) (hms : m (ofS "signs") = some (.ref sg)) (N : News h₀ L s.heap ((47, tabObj #[]) :: (sg, W.listOf #[] n1) :: (dn, W.listOf ws.toArray n2) :: rest)) (D : Nd ((sg, W.listOf #[] n1) :: (dn, W.listOf ws.toArray n2) :: rest)) (D47 : ∀ q ∈ (sg, W.listOf #[] n1) :: (dn, W.listOf ws.toArray n2) :: rest, q.1 ≠ 47)
   (next : ∀ h' tk m' sg' svs n1' ps extra, m' (ofS "numbers") = some (.ref dn) → m' (ofS "signs") = some (.ref sg') → TabOk ps extra → StrsAre svs ((codesOf nums).map fun c => tx [c]) →
     News h₀ L h' ((47, tabObj ps) :: (extra ++ (sg', W.listOf svs.toArray n1') :: (dn, W.listOf ws.toArray n2) :: rest)) → Nd ((sg', W.listOf svs.toArray n1') :: (dn, W.listOf ws.toArray n2) :: rest) → SepOk extra ((sg', W.listOf svs.toArray n1') :: (dn, W.listOf ws.toArray n2) :: rest) → Fr h₀ L h' m' →
     wpAny (model pw w) (lawA L fa) (execs (lawRest 2) (lawEnv L fa)) Q E { s with heap := h', toks := tk }) :
   wpAny (model pw w) (lawA L fa) (execs (lawRest 1) (lawEnv L fa)) Q E s := by
  revert w h₀ mg mb mean L fa s Q E m ws nums hi hn hb dn sg n1 n2 rest X T C47 C158 C208 K hE F hmn hms N D D47 next
  (refine no_implicit_lambda% (pk6 (i1 := nW) ?_); generalize p6_1 _ = w; generalize p6_2 _ = h₀; generalize p6_3 _ = mg; generalize p6_4 _ = mb; generalize p6_5 _ = mean; generalize p6_6 _ = L); (refine no_implicit_lambda% (pk6 (i2 := nS) ?_); generalize p6_1 _ = fa; generalize p6_2 _ = s; generalize p6_3 _ = Q; generalize p6_4 _ = E; generalize p6_5 _ = m; generalize p6_6 _ = ws); (refine no_implicit_lambda% (pk1 ?_); generalize p1_1 _ = nums)
  intro hi hn hb
  (refine no_implicit_lambda% (pk5 ?_); generalize p5_1 _ = dn; generalize p5_2 _ = sg; generalize p5_3 _ = n1; generalize p5_4 _ = n2; generalize p5_5 _ = rest)
  intro X T C47 C158 C208 K hE F hmn hms N D D47 next
  have Fa := fr_known F hmn
  have Fb := fr_known Fa (z := ofS "signs") (v := .ref sg) (by rw [if_neg (by decide +kernel)]; exact hms)
  clear Fa
  k_steps
  show wpAny _ _ (exec (Stmt.For _ _ _ _ _) _) _ _ _
  refine For_invVF (hE := hE) Fb rfl rfl ?_
  k_steps
  rename Fr _ _ _ _ => F1
  rename News _ _ _ _ => N1
  show wpAny _ _ (pyIter (.ref dn)) _ _ _
  have hdn := (N1 _ (.tail _ (.tail _ (.head _)))).1
  have hls : Heap.IsList _ dn ws.toArray := ⟨_, hdn, rfl, n2, rfl⟩
  have hne : dn ≠ Array.size _ := Nat.ne_of_lt (Heap.lt_size hdn)
  refine wpAny_pyIter_list hls ?_
  have hlen : ws.toArray.size = nums.length := by simp [hi.length]
  refine loop_gen (LoopJ ws nums dn n2 rest) [(dn, W.listOf ws.toArray n2)] (Walks.list rfl _ dn hne ws.toArray) (fun i h st => ?hI) ?hLf ?hI0 ?hst (F1.push _) (news := (47, tabObj #[]) :: (sg, W.listOf #[] n1) :: (dn, W.listOf ws.toArray n2) :: rest)
      (fun p hp => ⟨Heap.get?_push_of_some _ (N1 p hp).1, (N1 p hp).2⟩) (fun p hp e => ?hnI) ⟨sg, [], n1, #[], [], ?hj1, ?hj2, .inl ⟨rfl, rfl⟩, .nil, rfl, D, D47, fun p hp => nomatch hp⟩ ?hfix ?hfp ?turn ?done
  case hI => obtain ⟨⟨o, e, _⟩, _⟩ := st; exact ⟨o, e⟩
  case hLf =>
    intro hm
    rcases List.mem_cons.mp hm with e | hm
    · exact absurd F1.ns.lt (e ▸ Nat.lt_irrefl _)
    · exact (N1 _ (.tail _ (.tail _ (.head _)))).2.1 (List.mem_singleton.mp hm).symm
  case hI0 => exact next_is_new F1
  case hst => exact ⟨⟨_, Heap.get?_push_size _ rfl, rfl, rfl⟩, hls.at fun o e => Heap.get?_push_of_some _ e⟩
  case hnI => exact absurd (Heap.lt_size (N1 p hp).1) (e ▸ Nat.lt_irrefl _)
  case hj1 => exact (if_neg (by decide +kernel)).trans (if_pos rfl)
  case hj2 => rfl
  case hfix =>
    rintro i m nx ⟨sg, svs, n1, ps, extra, _, _, _, _, rfl, _⟩ p hp
    rw [List.mem_singleton.mp hp]; simp
  case hfp =>
    intro b hb
    rcases List.mem_cons.mp hb with e | hb
    · exact .inl e
    · rw [List.mem_singleton.mp hb]; exact .inr (.inr (.head _))
  case turn =>
    (refine pk6 (i5 := nS) ?_; generalize p6_1 _ = i; generalize p6_2 _ = v; generalize p6_3 _ = m₁; generalize p6_4 _ = nx; generalize p6_5 _ = s₁; generalize p6_6 _ = own)
    intro hin hP hJ hsep hst F₂ N₂
    unfold LoopJ at hJ
    (refine ex3 hJ ?_; generalize p3_1 _ = sg1; generalize p3_2 _ = svs; generalize p3_3 _ = n1'; clear hJ; intro hJ)
    (refine ex2 hJ ?_; generalize p2_1 _ = ps; generalize p2_2 _ = extra; clear hJ; intro hJ)
    (refine ex2 hst ?_; generalize p2_1 _ = h2; generalize p2_2 _ = tk2; clear hst; intro hst)
    obtain ⟨hm1, hm2, hT, hS, rfl, hD, hSp⟩ := hJ
    cases hst
    have hin' : i < nums.length := hlen ▸ hin
    have hxe : ∃ x, nums[i]? = some x := ⟨_, List.getElem?_eq_getElem hin'⟩
    (refine ex1 hxe ?_; generalize p1_1 _ = x; clear hxe; intro hxe)
    have hx := hi.get i x hxe
    (refine ex1 hx ?_; generalize p1_1 _ = t; clear hx; intro hx)
    have hv : v = .int x t := by
      have hP' : ws[i]? = some v := by simpa using hP
      rw [hx] at hP'; exact (Option.some.inj hP').symm
    subst hv
    have hx0 : 0 ≤ x ∧ x < 1114112 := hb _ (List.mem_of_getElem? hxe)
    have F3 := fr_known F₂ (z := ofS "numbers") (v := .ref dn) (by rw [if_neg (by decide +kernel)]; exact hm1)
    have F4 := fr_known F3 (z := ofS "signs") (v := .ref sg1) (by rw [if_neg (by decide +kernel), if_neg (by decide +kernel)]; exact hm2)
    replace F4 : Fr h₀ L h2 _ := F4
    replace N₂ : News h₀ L h2 _ := N₂
    clear F₂ F3 F1 N1
    refine' (fun (main : ∀ tk0 : Nat, x < 65536 → Fits x → (_ : Nat → Prop) tk0) => ?rest) ?main
    case rest =>
      by_cases hA : x < 55296
      · k_steps
        (try rw [decide_eq_true hA])
        refine gen_tok ?_
        intro tk1
        exact main tk1 (by lia) (by unfold Fits; lia)
      · by_cases hC : x ≤ 57343
        · have hB : x < 65536 := by lia
          k_steps
          rename Fr _ _ _ _ => F5
          rename News _ _ _ _ => N5
          show wpAny _ _ (call (.ref 184) [.int x t]) _ _ _
          refine (source_spec w x t hx0.1 hx0.2) mean mg mb _ _ _ _ _ _ _ (X.keeps F5.keep) (T.keeps F5.keep) (Nat.le_of_ble_eq_true (by kernel_rfl!)) (Nat.le_of_ble_eq_true (by kernel_rfl!)) trivial ?_
          rintro v h3 tk3 G3 ⟨t3, rfl⟩
          have F6 := F5.after G3
          have N6 := News.grown N5 G3
          clear F5 N5
          k_steps
          rename Fr _ _ _ _ => F7
          rename News _ _ _ _ => N7
          have N8 : News h₀ L _ ((47, tabObj ps) :: (extra ++ ((sg1, W.listOf svs.toArray n1') :: (dn, W.listOf ws.toArray n2) :: rest ++ own))) := fun p hp => N7 p (List.mem_cons_of_mem _ (by simpa using hp))
          have S8 : SepOk extra ((sg1, W.listOf svs.toArray n1') :: (dn, W.listOf ws.toArray n2) :: rest ++ own) := ⟨fun q hq => (List.mem_append.mp hq).elim (hSp.1 q) fun ho => hsep q ho _ (.head _), fun p hp => ⟨(hSp.2 p hp).1, fun q hq => (List.mem_append.mp hq).elim ((hSp.2 p hp).2 q) fun ho => hsep q ho p (.tail _ (List.mem_append_left _ hp))⟩⟩
          clear N7
          show wpAny _ _ (call (.ref 179) [.str _ t3, .int 0 _, .int 8 _]) _ _ _
          refine told_any w h₀ mg mb mean L fa _ _ _ _ X T C47 K F7 ps extra _ hT N8 S8 (srcOf x) (srcOf x) _ _ _ 0 8 x (slice_08 x hx0.1) (by rw [src_len x hx0.1]; rfl) (by decide) (by decide) (by rw [src_len x hx0.1]; rfl) (by rw [src_len x hx0.1]; lia) (src_hex x hx0.1) (src_val x hx0.1 hx0.2) hx0.2 ?ok ?un
          case ok => exact fun hf => absurd hf (by unfold Fits; lia)
          case un =>
            intro _ h9 tk9 u9 ps9 extra9 F9 N9 S9 T9
            clear F7 N8
            k_steps
            rename Fr _ _ _ _ => F10
            rename News _ _ _ _ => N10
            rename_i la _ hla
            have N11 : News h₀ L _ ((47, tabObj ps9) :: (extra9 ++ ((la, _) :: ((sg1, W.listOf svs.toArray n1') :: (dn, W.listOf ws.toArray n2) :: rest ++ own)))) := fun p hp => N10 p ((news_mid1 _ _ _ _).mem_iff.mpr hp)
            have S11 := S9.above hla.1 hla.2
            clear N10
            show wpAny _ _ (call (.ref 179) [.str _ t3, .int 4 _, .int 4 _]) _ _ _
            refine told_any w h₀ mg mb mean L fa _ _ _ _ X T C47 K F10 ps9 extra9 _ T9 N11 (S11 _) (srcOf x) ((srcOf x).drop 4) _ _ _ 4 4 x (slice_48 x hx0.1) (by rw [List.length_drop, src_len x hx0.1]; rfl) (by decide) (by decide) (by rw [src_len x hx0.1]; rfl) (by rw [src_len x hx0.1]; lia) (fun c hc => src_hex x hx0.1 c (List.mem_of_mem_drop hc)) ((src_val4' x hx0.1 hx0.2).trans (by lia)) hx0.2 ?ok ?un
            case ok => exact fun hf => absurd hf (by unfold Fits; lia)
            case un =>
              intro _ h12 tk12 u12 psz extraz F12 N12 S12 T12
              clear F10 N11
              have N13 : News h₀ L h12 ((la, _) :: (47, tabObj psz) :: (extraz ++ ((sg1, W.listOf svs.toArray n1') :: (dn, W.listOf ws.toArray n2) :: rest ++ own))) := fun p hp => N12 p ((news_mid1 _ _ _ _).mem_iff.mp hp)
              have Sz : SepOk extraz ((sg1, W.listOf svs.toArray n1') :: (dn, W.listOf ws.toArray n2) :: rest ++ own) := S12.sub (fun q hq => .tail _ hq)
              clear N12
              k_steps
              rename Fr _ _ _ _ => F14
              rename News _ _ _ _ => N14
              refine mul_x2 F14 N14 (N14 _ (.head _)).1 fun h15 F15 N15 => ?_
              clear F14 N14
              k_steps
              k_steps
              rename Fr _ _ _ _ => F16
              rename News _ _ _ _ => N16
              have hsl : svs.length ≤ 12 := by rw [strs_len hS, List.length_map, codesOf, List.length_map]; exact Nat.le_trans (List.length_filter_le _ _) (by rw [List.length_take]; lia)
              refine add_signs (svs := svs) (k := n1') F16 N16 (by simp) (.head _) (by simp; try lia) fun h17 new F17 N17 hlt17 => ?_
              clear F16 N16
              k_steps
              rename Fr _ _ _ _ => F18
              rename News _ _ _ _ => N18
              refine turn_end (sg1 := sg1) (svs := svs) (n1' := n1') ?e1 ?e2 T12 ?e3 F18 N18 ?e4 hlt17 hD Sz ?e5
              case e1 => rfl
              case e2 => rfl
              case e3 => rw [codes_unfit (x := x) hxe (by simp [fitB]; lia)]; rw [List.append_nil]; exact hS
              case e4 =>
                intro q hq
                first | exact List.mem_of_mem_drop (i := 5) hq | exact List.mem_of_mem_drop (i := 6) hq | exact List.mem_of_mem_drop (i := 7) hq | exact List.mem_of_mem_drop (i := 8) hq | exact List.mem_of_mem_drop (i := 9) hq | exact List.mem_of_mem_drop (i := 10) hq | exact List.mem_of_mem_drop (i := 11) hq | exact List.mem_of_mem_drop (i := 12) hq | exact List.mem_of_mem_drop (i := 4) hq | exact List.mem_of_mem_drop (i := 3) hq
              case e5 => exact fun p hp q hq => hsep p hp q (.tail _ (List.mem_append_right _ (.tail _ hq)))

        · by_cases hB : x < 65536
          · have hC' : 57343 < x := by lia
            k_steps
            (try rw [decide_eq_true hC'])
            refine gen_tok ?_
            intro tk1
            exact main tk1 hB (by unfold Fits; lia)
          · have hC' : 57343 < x := by lia
            k_steps
            rename Fr _ _ _ _ => F5
            rename News _ _ _ _ => N5
            show wpAny _ _ (call (.ref 184) [.int x t]) _ _ _
            refine (source_spec w x t hx0.1 hx0.2) mean mg mb _ _ _ _ _ _ _ (X.keeps F5.keep) (T.keeps F5.keep) (Nat.le_of_ble_eq_true (by kernel_rfl!)) (Nat.le_of_ble_eq_true (by kernel_rfl!)) trivial ?_
            rintro v h3 tk3 G3 ⟨t3, rfl⟩
            have F6 := F5.after G3
            have N6 := News.grown N5 G3
            clear F5 N5
            k_steps
            rename Fr _ _ _ _ => F7
            rename News _ _ _ _ => N7
            have N8 : News h₀ L _ ((47, tabObj ps) :: (extra ++ ((sg1, W.listOf svs.toArray n1') :: (dn, W.listOf ws.toArray n2) :: rest ++ own))) := fun p hp => N7 p (List.mem_cons_of_mem _ (by simpa using hp))
            have S8 : SepOk extra ((sg1, W.listOf svs.toArray n1') :: (dn, W.listOf ws.toArray n2) :: rest ++ own) := ⟨fun q hq => (List.mem_append.mp hq).elim (hSp.1 q) fun ho => hsep q ho _ (.head _), fun p hp => ⟨(hSp.2 p hp).1, fun q hq => (List.mem_append.mp hq).elim ((hSp.2 p hp).2 q) fun ho => hsep q ho p (.tail _ (List.mem_append_left _ hp))⟩⟩
            clear N7
            show wpAny _ _ (call (.ref 179) [.str _ t3, .int 0 _, .int 8 _]) _ _ _
            refine told_any w h₀ mg mb mean L fa _ _ _ _ X T C47 K F7 ps extra _ hT N8 S8 (srcOf x) (srcOf x) _ _ _ 0 8 x (slice_08 x hx0.1) (by rw [src_len x hx0.1]; rfl) (by decide) (by decide) (by rw [src_len x hx0.1]; rfl) (by rw [src_len x hx0.1]; lia) (src_hex x hx0.1) (src_val x hx0.1 hx0.2) hx0.2 ?ok ?un
            case un => exact fun hf => absurd (show Fits x by unfold Fits; lia) hf
            case ok =>
              intro _ h9 tk9 l9 t91 t92 G9 hl9 hl9'
              have F9 := F7.after G9
              have N9 := news_new F7 N8 G9 hl9 hl9'
              have S9 := S8.fresh N8 hl9
              clear F7 N8
              k_steps
              rename Fr _ _ _ _ => F10
              rename News _ _ _ _ => N10
              rename_i la _ hla
              have N11 : News h₀ L _ ((47, tabObj ps) :: (extra ++ ((la, _) :: (l9, _) :: ((sg1, W.listOf svs.toArray n1') :: (dn, W.listOf ws.toArray n2) :: rest ++ own)))) := fun p hp => N10 p ((news_mid _ _ _ _ _).mem_iff.mpr hp)
              have S11 := (S9 { cls := .type "tuple", data := .seq #[.int (0 + 8) t91, .str (tx [x.toNat]) t92] 0 }).above hla.2.1 hla.2.2
              clear N10
              show wpAny _ _ (call (.ref 179) [.str _ t3, .int 4 _, .int 4 _]) _ _ _
              refine told_some w h₀ mg mb mean L fa _ _ _ _ X T C47 K F10 ps extra _ hT N11 (S11 _) (srcOf x) ((srcOf x).drop 4) _ _ _ 4 4 (x % 65536) (slice_48 x hx0.1) (by rw [List.length_drop, src_len x hx0.1]; rfl) (by decide) (by decide) (by rw [src_len x hx0.1]; rfl) (by rw [src_len x hx0.1]; lia) (fun c hc => src_hex x hx0.1 c (List.mem_of_mem_drop hc)) (src_val4' x hx0.1 hx0.2) (by lia) ?_
              intro h12 tk12 u12 psz extraz F12 N12 S12 T12
              clear F10 N11
              have N13 : News h₀ L h12 ((la, _) :: (l9, _) :: (47, tabObj psz) :: (extraz ++ ((sg1, W.listOf svs.toArray n1') :: (dn, W.listOf ws.toArray n2) :: rest ++ own))) := fun p hp => N12 p ((news_mid _ _ _ _ _).mem_iff.mp hp)
              have Sz : SepOk extraz ((sg1, W.listOf svs.toArray n1') :: (dn, W.listOf ws.toArray n2) :: rest ++ own) := S12.sub (fun q hq => .tail _ (.tail _ hq))
              clear N12
              k_steps
              rename Fr _ _ _ _ => F14
              rename News _ _ _ _ => N14
              refine mul_x1 F14 N14 (N14 _ (.head _)).1 fun h15 F15 N15 => ?_
              clear F14 N14
              k_steps
              refine ne_told1 (c := x.toNat) (by lia) (rd_list1 (N15 _ (.tail _ (.tail _ (.tail _ (.head _))))).1 (rd_tup (N15 _ (.tail _ (.tail _ (.tail _ (.tail _ (.tail _ (.tail _ (.tail _ (.head _))))))))).1)) (rd_list1 (N15 _ (.head _)).1 (rd_tup (N15 _ (.tail _ (.tail _ (.head _)))).1)) (Nat.le_of_ble_eq_true rfl) ?_
              k_steps
              rename Fr _ _ _ _ => F16
              rename News _ _ _ _ => N16
              have hsl : svs.length ≤ 12 := by rw [strs_len hS, List.length_map, codesOf, List.length_map]; exact Nat.le_trans (List.length_filter_le _ _) (by rw [List.length_take]; lia)
              refine add_signs (svs := svs) (k := n1') F16 N16 (by simp) (.head _) (by simp; try lia) fun h17 new F17 N17 hlt17 => ?_
              clear F16 N16
              k_steps
              rename Fr _ _ _ _ => F18
              rename News _ _ _ _ => N18
              refine turn_end (sg1 := sg1) (svs := svs) (n1' := n1') ?e1 ?e2 T12 ?e3 F18 N18 ?e4 hlt17 hD Sz ?e5
              case e1 => rfl
              case e2 => rfl
              case e3 => rw [codes_fit (x := x) hxe (by simp [fitB]; lia), List.map_append]; exact strs_app hS (.cons _ _ .nil)
              case e4 =>
                intro q hq
                first | exact List.mem_of_mem_drop (i := 5) hq | exact List.mem_of_mem_drop (i := 6) hq | exact List.mem_of_mem_drop (i := 7) hq | exact List.mem_of_mem_drop (i := 8) hq | exact List.mem_of_mem_drop (i := 9) hq | exact List.mem_of_mem_drop (i := 10) hq | exact List.mem_of_mem_drop (i := 11) hq | exact List.mem_of_mem_drop (i := 12) hq | exact List.mem_of_mem_drop (i := 4) hq | exact List.mem_of_mem_drop (i := 3) hq
              case e5 => exact fun p hp q hq => hsep p hp q (.tail _ (List.mem_append_right _ (.tail _ hq)))

    case main =>
      intro tk0 hB hfit
      rename Fr _ _ _ _ => F5
      rename News _ _ _ _ => N5
      show wpAny _ _ (call (.ref 184) [.int x t]) _ _ _
      refine (source_spec w x t hx0.1 hx0.2) mean mg mb _ _ _ _ _ _ _ (X.keeps F5.keep) (T.keeps F5.keep) (Nat.le_of_ble_eq_true (by kernel_rfl!)) (Nat.le_of_ble_eq_true (by kernel_rfl!)) trivial ?_
      rintro v h3 tk3 G3 ⟨t3, rfl⟩
      have F6 := F5.after G3
      have N6 := News.grown N5 G3
      clear F5 N5
      k_steps
      rename Fr _ _ _ _ => F7
      rename News _ _ _ _ => N7
      have N8 : News h₀ L _ ((47, tabObj ps) :: (extra ++ ((sg1, W.listOf svs.toArray n1') :: (dn, W.listOf ws.toArray n2) :: rest ++ own))) := fun p hp => N7 p (List.mem_cons_of_mem _ (by simpa using hp))
      have S8 : SepOk extra ((sg1, W.listOf svs.toArray n1') :: (dn, W.listOf ws.toArray n2) :: rest ++ own) := ⟨fun q hq => (List.mem_append.mp hq).elim (hSp.1 q) fun ho => hsep q ho _ (.head _), fun p hp => ⟨(hSp.2 p hp).1, fun q hq => (List.mem_append.mp hq).elim ((hSp.2 p hp).2 q) fun ho => hsep q ho p (.tail _ (List.mem_append_left _ hp))⟩⟩
      clear N7
      show wpAny _ _ (call (.ref 179) [.str _ t3, .int 0 _, .int 8 _]) _ _ _
      refine told_any w h₀ mg mb mean L fa _ _ _ _ X T C47 K F7 ps extra _ hT N8 S8 (srcOf x) (srcOf x) _ _ _ 0 8 x (slice_08 x hx0.1) (by rw [src_len x hx0.1]; rfl) (by decide) (by decide) (by rw [src_len x hx0.1]; rfl) (by rw [src_len x hx0.1]; lia) (src_hex x hx0.1) (src_val x hx0.1 hx0.2) hx0.2 ?ok ?un
      case un => exact fun hf => absurd hfit hf
      case ok =>
        intro _ h9 tk9 l9 t91 t92 G9 hl9 hl9'
        have F9 := F7.after G9
        have N9 := news_new F7 N8 G9 hl9 hl9'
        have S9 := S8.fresh N8 hl9
        clear F7 N8
        k_steps
        rename Fr _ _ _ _ => F10
        rename News _ _ _ _ => N10
        rename_i la _ hla
        have N11 : News h₀ L _ ((47, tabObj ps) :: (extra ++ ((la, _) :: (l9, _) :: ((sg1, W.listOf svs.toArray n1') :: (dn, W.listOf ws.toArray n2) :: rest ++ own)))) := fun p hp => N10 p ((news_mid _ _ _ _ _).mem_iff.mpr hp)
        have S11 := (S9 { cls := .type "tuple", data := .seq #[.int (0 + 8) t91, .str (tx [x.toNat]) t92] 0 }).above hla.2.1 hla.2.2
        clear N10
        show wpAny _ _ (call (.ref 179) [.str _ t3, .int 4 _, .int 4 _]) _ _ _
        refine told_any w h₀ mg mb mean L fa _ _ _ _ X T C47 K F10 ps extra _ hT N11 (S11 _) (srcOf x) ((srcOf x).drop 4) _ _ _ 4 4 x (slice_48 x hx0.1) (by rw [List.length_drop, src_len x hx0.1]; rfl) (by decide) (by decide) (by rw [src_len x hx0.1]; rfl) (by rw [src_len x hx0.1]; lia) (fun c hc => src_hex x hx0.1 c (List.mem_of_mem_drop hc)) ((src_val4' x hx0.1 hx0.2).trans (by lia)) hx0.2 ?ok ?un
        case un => exact fun hf => absurd hfit hf
        case ok =>
          intro _ h12 tk12 l12 t121 t122 G12 hl12 hl12'
          have F12 := F10.after G12
          have N12 := news_new F10 N11 G12 hl12 hl12'
          clear F10 N11
          have N13 : News h₀ L h12 ((l12, _) :: (la, _) :: (l9, _) :: (47, tabObj ps) :: (extra ++ ((sg1, W.listOf svs.toArray n1') :: (dn, W.listOf ws.toArray n2) :: rest ++ own))) := fun p hp => N12 p (((news_mid _ _ _ _ _).cons _).mem_iff.mp hp)
          clear N12
          k_steps
          rename Fr _ _ _ _ => F14
          rename News _ _ _ _ => N14
          refine mul_x2 F14 N14 (N14 _ (.head _)).1 fun h15 F15 N15 => ?_
          clear F14 N14
          k_steps
          refine ne_told2 (c := x.toNat) (by lia) (rd_list2 (N15 _ (.tail _ (.tail _ (.tail _ (.head _))))).1 (rd_tup (N15 _ (.tail _ (.tail _ (.tail _ (.tail _ (.tail _ (.tail _ (.tail _ (.tail _ (.head _)))))))))).1) (rd_tup (N15 _ (.tail _ (.tail _ (.tail _ (.tail _ (.tail _ (.tail _ (.head _)))))))).1)) (rd_list2 (N15 _ (.head _)).1 (rd_tup (N15 _ (.tail _ (.tail _ (.head _)))).1) (rd_tup (N15 _ (.tail _ (.tail _ (.head _)))).1)) (Nat.le_of_ble_eq_true rfl) ?_
          k_steps
          rename Fr _ _ _ _ => F16
          rename News _ _ _ _ => N16
          have hsl : svs.length ≤ 12 := by rw [strs_len hS, List.length_map, codesOf, List.length_map]; exact Nat.le_trans (List.length_filter_le _ _) (by rw [List.length_take]; lia)
          refine add_signs (svs := svs) (k := n1') F16 N16 (by simp) (.head _) (by simp; try lia) fun h17 new F17 N17 hlt17 => ?_
          clear F16 N16
          k_steps
          rename Fr _ _ _ _ => F18
          rename News _ _ _ _ => N18
          refine turn_end (sg1 := sg1) (svs := svs) (n1' := n1') ?e1 ?e2 hT ?e3 F18 N18 ?e4 hlt17 hD S8 ?e5
          case e1 => rfl
          case e2 => rfl
          case e3 => rw [codes_fit (x := x) hxe (by simp [fitB]; unfold Fits at hfit; lia), List.map_append]; exact strs_app hS (.cons _ _ .nil)
          case e4 =>
            intro q hq
            first | exact List.mem_of_mem_drop (i := 5) hq | exact List.mem_of_mem_drop (i := 6) hq | exact List.mem_of_mem_drop (i := 7) hq | exact List.mem_of_mem_drop (i := 8) hq | exact List.mem_of_mem_drop (i := 9) hq | exact List.mem_of_mem_drop (i := 10) hq | exact List.mem_of_mem_drop (i := 11) hq | exact List.mem_of_mem_drop (i := 12) hq | exact List.mem_of_mem_drop (i := 4) hq | exact List.mem_of_mem_drop (i := 3) hq
          case e5 => exact fun p hp q hq => hsep p hp q (.tail _ (List.mem_append_right _ (.tail _ hq)))

  case done =>
    rintro m₁ nx h2 tk2 ⟨sg1, svs, n1', ps, extra, hm1, hm2, hT, hS, rfl, hD, hSp⟩ F₂ N₂
    rw [hlen, List.take_length] at hS
    exact next h2 tk2 m₁ sg1 svs n1' ps extra hm1 hm2 hT hS N₂ hD hSp F₂
end
local macro_rules | `(tactic| walk_at "eval Name") => `(tactic| ((with_reducible show wpAny _ _ (eval (Expr.Name _ _) (lawEnv _ _)) _ _ _); refine name_cellX (by with_unfolding_all rfl) (by assumption) (by with_unfolding_all rfl) (by with_unfolding_all rfl) (by decide +kernel) ?_))
section
set_option maxHeartbeats 8000000
open PySem.Calls
theorem fill_lw1 : kk = kk ∧ PySem.Challenge.rw_kq0052_01 = PySem.Challenge.rw_kq0052_01 := by
  k_fill
  exact ⟨rfl, rfl⟩
local macro_rules | `(tactic| walk_at "execs cons") => `(tactic| (with_reducible refine st8 ?_))
theorem nd_new1 {h₀ h h' : Heap} {L r : Addr} {o : Obj} {led : Led} (D : Nd led) (N : News h₀ L h led) (hr : h.get? r = none) (e : h'.get? r = some o) : Nd ((r, o) :: led) := D.new N hr
noncomputable def numsOf (ns : List Int) : List Int := (List.take 5 ns ++ [97, 8364, 55296, 128512, 233, 57344, 233]).map fun (n : Int) => n.fmod 1114112
theorem law1 (w : World) (h₀ : Heap) (mg mb : PySem.Str → Option Value) (mean : ExcName → Option Value) (L fa a : Addr) (s : Shared) (Q : Flow → Shared → Prop) (E : Value → Shared → Prop) (vs : List Value) (ns : List Int) (hi : IntsAre vs ns) (hn : ns.length ≤ 63) (hl : h₀.IsList a vs.toArray)
   (X : (kk w.params).In h₀) (T : Top topProg LO mean mg mb h₀) (C47 : CodeHd h₀ 51 47) (C158 : CodeHd h₀ 162 158) (C208 : CodeHd h₀ 210 208) (K : Below callerA h₀ [] h₀)
   (oW oF oD oT : Obj) (hW : oW.data = .cell none) (hF : oF.data = .cell none) (hD : oD.data = .cell none) (hT : oT.data = .cell none)
   (F : Fr h₀ L s.heap (bindL (lawEnv L fa).kindOf [(ofS "script", .ref a)] fun _ => none)) (N : News h₀ L s.heap [(L + 1 + 1 + 1 + 1, oW), (L + 1 + 1 + 1, oF), (L + 1 + 1, oD), (L + 1, oT), (47, tabObj #[]), (158, tabObj #[]), (208, tabObj #[])])
   (D : Nd [(L + 1 + 1 + 1 + 1, oW), (L + 1 + 1 + 1, oF), (L + 1 + 1, oD), (L + 1, oT), (47, tabObj #[]), (158, tabObj #[]), (208, tabObj #[])])
   (next : ∀ h' tk m' dn sg ws n1 n2, IntsAre ws (numsOf ns) → m' (ofS "numbers") = some (.ref dn) → m' (ofS "signs") = some (.ref sg) →
     News h₀ L h' ((sg, W.listOf #[] n1) :: (dn, W.listOf ws.toArray n2) :: [(L + 1 + 1 + 1 + 1, oW), (L + 1 + 1 + 1, oF), (L + 1 + 1, oD), (L + 1, oT), (47, tabObj #[]), (158, tabObj #[]), (208, tabObj #[])]) →
     Nd ((sg, W.listOf #[] n1) :: (dn, W.listOf ws.toArray n2) :: [(L + 1 + 1 + 1 + 1, oW), (L + 1 + 1 + 1, oF), (L + 1 + 1, oD), (L + 1, oT), (47, tabObj #[]), (158, tabObj #[]), (208, tabObj #[])]) → Fr h₀ L h' m' →
     wpAny (model pw w) (lawA L fa) (execs (lawRest 1) (lawEnv L fa)) Q E { s with heap := h', toks := tk }) :
   wpAny (model pw w) (lawA L fa) (execs (fnB (st 39)) (lawEnv L fa)) Q E s := by
  revert w h₀ mg mb mean L fa a s Q E vs ns hi hn hl X T C47 C158 C208 K oW oF oD oT hW hF hD hT F N D next
  (refine no_implicit_lambda% (pk6 (i1 := nW) ?_); generalize p6_1 _ = w; generalize p6_2 _ = h₀; generalize p6_3 _ = mg; generalize p6_4 _ = mb; generalize p6_5 _ = mean; generalize p6_6 _ = L); (refine no_implicit_lambda% (pk6 (i3 := nS) ?_); generalize p6_1 _ = fa; generalize p6_2 _ = a; generalize p6_3 _ = s; generalize p6_4 _ = Q; generalize p6_5 _ = E; generalize p6_6 _ = vs); (refine no_implicit_lambda% (pk1 ?_); generalize p1_1 _ = ns)
  intro hi hn hl X T C47 C158 C208 K
  (refine no_implicit_lambda% (pk4 ?_); generalize p4_1 _ = oW; generalize p4_2 _ = oF; generalize p4_3 _ = oD; generalize p4_4 _ = oT)
  intro hW hF hD hT F N D next
  k_steps
  refine comp_rule (fun _ => true) (fun v y os => os = [] ∧ ∃ n t t', v = .int n t ∧ y = .int (n.fmod 1114112) t') (cl := []) (by kernel_rfl) (by decide +kernel) rfl (by decide +kernel) (by decide +kernel) ?_ (fun _ => by kernel_rfl)
  k_steps
  rename Fr _ _ _ _ => F1
  rename News _ _ _ _ => N1
  rename IntsAre _ (_ ++ _) => hI1
  rename_i D1 ws1 h1 _
  obtain ⟨scr, hscr⟩ : ∃ z, List.take 5 ns ++ [97, 8364, 55296, 128512, 233, 57344, 233] = z := ⟨_, rfl⟩
  rw [hscr] at hI1
  have hsl : scr.length ≤ 12 := by rw [← hscr, List.length_append, List.length_take]; simp only [List.length_cons, List.length_nil]; lia
  have N1' : News h₀ L h1 [(D1, W.listOf ws1.toArray 0), (L + 1 + 1 + 1 + 1, oW), (L + 1 + 1 + 1, oF), (L + 1 + 1, oD), (L + 1, oT), (47, tabObj #[]), (158, tabObj #[]), (208, tabObj #[])] := fun p hp => N1 p (mem_pt [0, 3, 4, 5, 6, 7, 8, 9] 10 hp)
  clear N1
  show wpAny _ _ (pyIter _) _ _ _
  refine comp_list rfl (items := ws1) (ax := D1) ⟨_, (N1' _ (.head _)).1, rfl, 0, rfl⟩ (by rw [sizeLine_eq, hI1.length]; lia) ?ht ?he ?hq
  case ht => exact fun C v s₃ m₃ E' hv Fc hm => wpAny_pure ⟨rfl, _, _, rfl, fun _ _ e => e⟩
  case he =>
    intro C v s₃ m₃ E' hv _ Fc hm
    obtain ⟨n, t, hn', rfl⟩ := ints_mem hI1 hv
    clear F1 N1'
    k_steps
    exact ⟨⟨[], ⟨rfl, n, t, _, rfl, rfl⟩, fun _ h => (nomatch h), fun _ h => (nomatch h)⟩, _, _, rfl, fun _ _ e => e⟩
  case hq =>
    intro D2 n2 h2 tk2 zs hD2 hl2 hz hok hoff hg
    replace hg : Grow h1 h2 := hg
    replace hD2 : h1.get? D2 = none := hD2
    rw [filter_all] at hz
    have hI2 := zs_ints (f := fun n => n.fmod 1114112) hok hz hI1
    have F2 := F1.after hg
    have N2 := news_new F1 N1' hg hD2 hl2
    have D3 := nd_new1 D (fun p hp => N1' p (.tail _ hp)) hD2 hl2
    clear F1 N1'
    obtain ⟨ws2, hws2⟩ : ∃ z, zs.map (·.2.1) = z := ⟨_, rfl⟩
    rw [hws2] at N2 hI2 hl2
    have hI3 : IntsAre ws2 (numsOf ns) := by rw [← hscr] at hI2; exact hI2
    have N3 : News h₀ L h2 ((D2, W.listOf ws2.toArray n2) :: [(L + 1 + 1 + 1 + 1, oW), (L + 1 + 1 + 1, oF), (L + 1 + 1, oD), (L + 1, oT), (47, tabObj #[]), (158, tabObj #[]), (208, tabObj #[])]) := fun p hp => N2 p (by
      rcases List.mem_cons.mp hp with h | h
      · simp [h]
      · exact .tail _ (.tail _ h))
    clear N2
    k_steps
    rename Fr _ _ _ _ => F4
    rename News _ _ _ _ => N4
    rename_i l' _ hl' _ _ _ _ _ _
    obtain ⟨a1, a2, a3, a4, a5, a6, a7, a8⟩ := hl'
    refine next _ _ _ D2 l' ws2 0 n2 hI3 (if_pos rfl) ?_ (fun p hp => N4 p (.tail _ hp)) ?_ F4
    · first | exact if_pos rfl | exact (if_neg (by decide +kernel)).trans (if_pos rfl)
    · refine List.nodup_cons.mpr ⟨fun hm => ?_, D3⟩
      simp only [List.map_cons, List.map_nil, List.mem_cons, List.not_mem_nil, or_false] at hm
      rcases hm with h | h | h | h | h | h | h | h
      · exact absurd h (Nat.ne_of_gt a1)
      · exact absurd h (Nat.ne_of_gt a2)
      · exact absurd h (Nat.ne_of_gt a3)
      · exact absurd h (Nat.ne_of_gt a4)
      · exact absurd h (Nat.ne_of_gt a5)
      · exact absurd h (Nat.ne_of_gt a6)
      · exact absurd h (Nat.ne_of_gt a7)
      · exact absurd h (Nat.ne_of_gt a8)
end
section
set_option maxHeartbeats 1000000
open PySem.Calls
section
variable {w : World} {A : Around} {E : Value → Shared → Prop} {env : Env} {R : Result → Shared → Prop}
theorem turn2_in (elt t1 i1 t2 i2 : Expr) (scope : Scope) (pos : Pos) (it acc : Value) (env : Env) :
    compTurn (.ListComp elt [⟨t1, i1, [], 0⟩, ⟨t2, i2, [], 0⟩] scope pos) 1 it acc env = (standAt i2.pos >>= fun _ => pyNext it >>= fun r => match r with
      | none => pure (.done .next)
      | some v => letOwnedTupleGo t2 it v >>= fun _ => assign t2 env v >>= fun _ =>
        (eval elt env >>= fun x => call (.builtin "list.append") [acc, x] >>= fun _ => pure ()) >>= fun _ =>
          again (.compLoop (.ListComp elt [⟨t1, i1, [], 0⟩, ⟨t2, i2, [], 0⟩] scope pos) 1 it acc env)) := by rfl
theorem turn2_out (elt t1 i1 t2 i2 : Expr) (scope : Scope) (pos : Pos) (it acc : Value) (env : Env) :
    compTurn (.ListComp elt [⟨t1, i1, [], 0⟩, ⟨t2, i2, [], 0⟩] scope pos) 0 it acc env = (standAt i1.pos >>= fun _ => pyNext it >>= fun r => match r with
      | none => pure (.done .next)
      | some v => letOwnedTupleGo t1 it v >>= fun _ => assign t1 env v >>= fun _ =>
        eval i2 env >>= fun x => standAt i2.pos >>= fun _ => foldedSetIterable i2 env x >>= fun x => holding [x] (pyIter x) >>= fun it2 => runOwn (.compStart (.ListComp elt [⟨t1, i1, [], 0⟩, ⟨t2, i2, [], 0⟩] scope pos) 1 it2 acc env) env >>= fun _ =>
          again (.compLoop (.ListComp elt [⟨t1, i1, [], 0⟩, ⟨t2, i2, [], 0⟩] scope pos) 0 it acc env)) := by rfl
theorem start2_in {elt t1 i1 t2 i2 scope pos it acc env} {s : Shared}
    (h0 : codeAny (model pw w) A (.compLoop (.ListComp elt [⟨t1, i1, [], 0⟩, ⟨t2, i2, [], 0⟩] scope pos) 1 it acc env) R s)
    (h : wpAny (model pw w) A (pyIter it) (fun it' s' => codeAny (model pw w) A (.compLoop (.ListComp elt [⟨t1, i1, [], 0⟩, ⟨t2, i2, [], 0⟩] scope pos) 1 it' acc env) R s') (notedBy (model pw w) A env fun x s' => R (.error x) s') s) :
    codeAny (model pw w) A (.compStart (.ListComp elt [⟨t1, i1, [], 0⟩, ⟨t2, i2, [], 0⟩] scope pos) 1 it acc env) R s := by
  refine codeAny_of_tree ?_
  show wpAny _ _ ((compStart (.ListComp elt [⟨t1, i1, [], 0⟩, ⟨t2, i2, [], 0⟩] scope pos) 1 it acc env).onRaise (fun x => do noteFrame x env; standAt theWindowsPlace)) _ _ s
  refine wpAny_notedAt ?_
  unfold compStart
  show wpAny _ _ (ask >>= _) _ _ s
  refine wpAny_bind (wpAny_askSetting (wpAny_ite ?_))
  split
  · first
      | exact wpAny_bind (wpAny_pure (wpAny_pure (And.intro rfl h0)))
      | exact wpAny_pure (And.intro rfl h0)
  · first
      | exact wpAny_bind (wpAny_rule (wpAny_bind (wpAny_standAt (wpAny_bind (wpAny_mono h (fun it' s' h' => wpAny_pure (And.intro rfl h')) fun _ _ x => x)))))
      | (refine wpAny_bind (wpAny_rule ?_); show wpAny _ _ (standAt i2.pos >>= _) _ _ s; exact wpAny_bind (wpAny_standAt (wpAny_bind (wpAny_mono h (fun it' s' h' => wpAny_pure (And.intro rfl h')) fun _ _ x => x))))
theorem loop2_in {t1 i1 i2 : Expr} {x2 : Str} {p2 pe : Pos} {scope : Scope} {pos : Pos} {J l D : Addr} {s : Shared} {cenv : Env} {m : Str → Option Value} {items : Array Value} {ys : Array Value}
    (hx : cenv.kindOf x2 = some .local) (hk : cenv.scope.kind = .function) (hd : (x2 == ("__debug__" : Str)) = false) (hh : A.handled = none)
    (hlJ : l ≠ J) (hDC : D ≠ cenv.locals) (hDJ : D ≠ J) (hDl : D ≠ l) (hCJ : cenv.locals ≠ J) (hCl : cenv.locals ≠ l)
    (hst : s.heap.IsListIter J l 0 ∧ s.heap.IsList l items) (hacc : s.heap.PlainList D ys) (hn : s.heap.Ns cenv.locals m) (hsz : ys.size + items.size ≤ sizeLine)
    (hR : ∀ h' tk m', h'.Ns cenv.locals m' → h'.PlainList D (ys ++ items) → (∀ b o, b ≠ cenv.locals → b ≠ J → b ≠ D → s.heap.get? b = some o → h'.get? b = some o) → R (.ok .next) { s with heap := h', toks := tk }) :
    codeAny (model pw w) A (.compLoop (.ListComp (.Name x2 pe) [⟨t1, i1, [], 0⟩, ⟨.Name x2 p2, i2, [], 0⟩] scope pos) 1 (.ref J) (.ref D) cenv) R s := by
  revert w A R t1 i1 i2 x2 p2 pe scope pos J l D s cenv m items ys hx hk hd hh hlJ hDC hDJ hDl hCJ hCl hst hacc hn hsz hR
  (refine no_implicit_lambda% (pk6 (i1 := nW) (i2 := nA) ?_); generalize p6_1 _ = w; generalize p6_2 _ = A; generalize p6_3 _ = R; generalize p6_4 _ = t1; generalize p6_5 _ = i1; generalize p6_6 _ = i2); (refine no_implicit_lambda% (pk6 ?_); generalize p6_1 _ = x2; generalize p6_2 _ = p2; generalize p6_3 _ = pe; generalize p6_4 _ = scope; generalize p6_5 _ = pos; generalize p6_6 _ = J); (refine no_implicit_lambda% (pk6 (i3 := nS) ?_); generalize p6_1 _ = l; generalize p6_2 _ = D; generalize p6_3 _ = s; generalize p6_4 _ = cenv; generalize p6_5 _ = m; generalize p6_6 _ = items); (refine no_implicit_lambda% (pk1 ?_); generalize p1_1 _ = ys)
  intro hx hk hd hh hlJ hDC hDJ hDl hCJ hCl hst hacc hn hsz hR
  have W := Walks.list (prog := pw) (w := w) hh J l hlJ items
  obtain ⟨Iv, hIv⟩ : ∃ Iv : Nat → Shared → Prop, ∀ k s', Iv k s' ↔ ∃ h' tk m' i, s' = { s with heap := h', toks := tk } ∧ i ≤ items.size ∧ k = items.size + 1 - i ∧ (h'.IsListIter J l i ∧ h'.IsList l items) ∧ h'.PlainList D (ys ++ items.extract 0 i) ∧ h'.Ns cenv.locals m' ∧
      (∀ b o, b ≠ cenv.locals → b ≠ J → b ≠ D → s.heap.get? b = some o → h'.get? b = some o) := ⟨_, fun _ _ => Iff.rfl⟩
  refine codeAny_loop rfl Iv ?_ (items.size + 1) ((hIv _ _).mpr ⟨s.heap, s.toks, m, 0, rfl, Nat.zero_le _, rfl, hst, by simpa using hacc, hn, fun _ _ _ _ _ e => e⟩)
  intro k s' hI
  obtain ⟨H, tk, m', i, rfl, hi, rfl, hst', hacc', hn', hkp⟩ := (hIv k s').mp hI
  show wpAny _ A ((compTurn (.ListComp (.Name x2 pe) [⟨t1, i1, [], 0⟩, ⟨.Name x2 p2, i2, [], 0⟩] scope pos) 1 (.ref J) (.ref D) cenv).onRaise (fun x => do noteFrame x cenv; theTreesLotGoes x)) _ _ _
  refine wpAny_noted ?_
  rw [turn2_in]
  refine wpAny_bind (wpAny_standAt (wpAny_bind ?_))
  by_cases hlt : i < items.size
  · refine W.item i _ _ _ hlt hst' fun v h₁ tk₁ hPv hst₁ hk₁ => ?_
    have hv : items[i] = v := by rw [Array.getElem?_eq_getElem hlt] at hPv; exact Option.some.inj hPv
    have hCw : cenv.locals ∉ [J] := fun h => hCJ (List.mem_singleton.mp h)
    have hDw : D ∉ [J] := fun h => hDJ (List.mem_singleton.mp h)
    refine wpAny_bind (wpAny_of_eq (a := ()) (by rfl) ?_)
    refine wpAny_bind (wpAny_assign_Name (wpAny_storeName_local hx (hn'.at' fun o e => hk₁ _ o hCw e) (fun h₂ hn₂ hs₂ => ?_) (by rw [hk]; rfl)))
    refine wpAny_bind (wpAny_bind (wpAny_Name (wpAny_loadName_local (by simp [hk]) hx hn₂ (by simp; rfl) ?_) hd))
    have hacc₂ : h₂.PlainList D (ys ++ items.extract 0 i) := hacc'.at fun o e => hs₂.extBut D o hDC (hk₁ D o hDw e)
    refine wpAny_bind (wpAny_list_append_plain (hsz := by rw [Array.size_append, Array.size_extract]; lia) hacc₂ fun h₃ hl₃ hs₃ => wpAny_pure (wpAny_pure ⟨rfl, items.size + 1 - (i + 1), by lia, (hIv _ _).mpr ⟨h₃, _, _, i + 1, rfl, hlt, rfl, ?_, ?_, hn₂.sameBut hs₃ hDC.symm, fun b o h1 h2 h3 e => ?_⟩⟩))
    · refine W.frame _ h₂ _ (W.frame _ _ _ hst₁ fun b hb o e => hs₂.extBut b o (fun h => ?_) e) fun b hb o e => hs₃.extBut b o (fun h => ?_) e
      · subst h; simp only [List.mem_cons, List.not_mem_nil, or_false] at hb; exact hb.elim hCJ hCl
      · subst h; simp only [List.mem_cons, List.not_mem_nil, or_false] at hb; exact hb.elim hDJ hDl
    · have e : (ys ++ items.extract 0 i).push v = ys ++ items.extract 0 (i + 1) := by
        rw [← hv]
        apply Array.toList_inj.mp
        simp [List.take_add_one, hlt]
      rw [← e]; exact hl₃
    · exact hs₃.extBut b o h3 (hs₂.extBut b o h1 (hk₁ b o (fun hm => h2 (List.mem_singleton.mp hm)) (hkp b o h1 h2 h3 e)))
  · obtain rfl : i = items.size := by lia
    refine W.done _ _ _ hst' fun h₁ tk₁ hk₁ => wpAny_pure ?_
    have hCw : cenv.locals ∉ [J] := fun h => hCJ (List.mem_singleton.mp h)
    have hDw : D ∉ [J] := fun h => hDJ (List.mem_singleton.mp h)
    refine hR h₁ tk₁ m' (hn'.at' fun o e => hk₁ _ o hCw e) ?_ fun b o h1 h2 h3 e => hk₁ b o (fun hm => h2 (List.mem_singleton.mp hm)) (hkp b o h1 h2 h3 e)
    have := hacc'.at fun o e => hk₁ D o hDw e
    simpa using this
theorem loop2_out {t1x : Str} {p1 p2 pe : Pos} {i1 i2 : Expr} {x2 : Str} {scope : Scope} {pos : Pos} {I ax D : Addr} {s : Shared} {cenv : Env} {m : Str → Option Value} {items : List Value} {ns : List Int} (f : Int → List Int) (hi : IntsAre items ns)
    (hx1 : cenv.kindOf t1x = some .local) (hx : cenv.kindOf x2 = some .local) (hk : cenv.scope.kind = .function) (hd : (x2 == ("__debug__" : Str)) = false) (hh : A.handled = none) (hfs : ∀ x, foldedSetIterable i2 cenv x = pure x)
    (haI : ax ≠ I) (hDC : D ≠ cenv.locals) (hDI : D ≠ I) (hDa : D ≠ ax) (hCI : cenv.locals ≠ I) (hCa : cenv.locals ≠ ax)
    (hst : s.heap.IsListIter I ax 0 ∧ s.heap.IsList ax items.toArray) (hacc : s.heap.PlainList D #[]) (hn : s.heap.Ns cenv.locals m) (hsz : (ns.flatMap f).length ≤ 1000)
    (hit : ∀ n t (s' : Shared) m' E', n ∈ ns → s'.heap.Ns cenv.locals m' → m' t1x = some (.int n t) → (∀ b o, b ≠ cenv.locals → b ≠ I → b ≠ D → s.heap.get? b = some o → s'.heap.get? b = some o) →
      wpAny (model pw w) A (eval i2 cenv) (fun v s'' => ∃ l vs nn h' tk, v = .ref l ∧ s'' = { s' with heap := h', toks := tk } ∧ Grow s'.heap h' ∧ s'.heap.get? l = none ∧ h'.get? l = some (W.listOf vs.toArray nn) ∧ IntsAre vs (f n)) E' s')
    (hR : ∀ h' tk m' vs, h'.Ns cenv.locals m' → h'.PlainList D vs.toArray → IntsAre vs (ns.flatMap f) → (∀ b o, b ≠ cenv.locals → b ≠ I → b ≠ D → s.heap.get? b = some o → h'.get? b = some o) → R (.ok .next) { s with heap := h', toks := tk }) :
    codeAny (model pw w) A (.compLoop (.ListComp (.Name x2 pe) [⟨.Name t1x p1, i1, [], 0⟩, ⟨.Name x2 p2, i2, [], 0⟩] scope pos) 0 (.ref I) (.ref D) cenv) R s := by
  revert w A R t1x p1 p2 pe i1 i2 x2 scope pos I ax D s cenv m items ns f hi hx1 hx hk hd hh hfs haI hDC hDI hDa hCI hCa hst hacc hn hsz hit hR
  (refine no_implicit_lambda% (pk6 (i1 := nW) (i2 := nA) ?_); generalize p6_1 _ = w; generalize p6_2 _ = A; generalize p6_3 _ = R; generalize p6_4 _ = t1x; generalize p6_5 _ = p1; generalize p6_6 _ = p2); (refine no_implicit_lambda% (pk6 ?_); generalize p6_1 _ = pe; generalize p6_2 _ = i1; generalize p6_3 _ = i2; generalize p6_4 _ = x2; generalize p6_5 _ = scope; generalize p6_6 _ = pos); (refine no_implicit_lambda% (pk6 (i4 := nS) ?_); generalize p6_1 _ = I; generalize p6_2 _ = ax; generalize p6_3 _ = D; generalize p6_4 _ = s; generalize p6_5 _ = cenv; generalize p6_6 _ = m); (refine no_implicit_lambda% (pk3 ?_); generalize p3_1 _ = items; generalize p3_2 _ = ns; generalize p3_3 _ = f)
  intro hi hx1 hx hk hd hh hfs haI hDC hDI hDa hCI hCa hst hacc hn hsz hit hR
  have W := Walks.list (prog := pw) (w := w) hh I ax haI items.toArray
  have hlen : items.length = ns.length := hi.length
  have hCw : cenv.locals ∉ [I] := fun h => hCI (List.mem_singleton.mp h)
  have hDw : D ∉ [I] := fun h => hDI (List.mem_singleton.mp h)
  obtain ⟨Iv, hIv⟩ : ∃ Iv : Nat → Shared → Prop, ∀ k s', Iv k s' ↔ ∃ h' tk m' i vs, s' = { s with heap := h', toks := tk } ∧ i ≤ ns.length ∧ k = ns.length + 1 - i ∧ (h'.IsListIter I ax i ∧ h'.IsList ax items.toArray) ∧ h'.PlainList D vs.toArray ∧ IntsAre vs ((ns.take i).flatMap f) ∧ h'.Ns cenv.locals m' ∧
      (∀ b o, b ≠ cenv.locals → b ≠ I → b ≠ D → s.heap.get? b = some o → h'.get? b = some o) := ⟨_, fun _ _ => Iff.rfl⟩
  refine codeAny_loop rfl Iv ?_ (ns.length + 1) ((hIv _ _).mpr ⟨s.heap, s.toks, m, 0, [], rfl, Nat.zero_le _, rfl, hst, by simpa using hacc, .nil, hn, fun _ _ _ _ _ e => e⟩)
  intro k s' hI
  obtain ⟨H, tk, m', i, vs, rfl, hile, rfl, hst', hacc', hI', hn', hkp⟩ := (hIv k s').mp hI
  show wpAny _ A ((compTurn (.ListComp (.Name x2 pe) [⟨.Name t1x p1, i1, [], 0⟩, ⟨.Name x2 p2, i2, [], 0⟩] scope pos) 0 (.ref I) (.ref D) cenv).onRaise (fun x => do noteFrame x cenv; theTreesLotGoes x)) _ _ _
  refine wpAny_noted ?_
  rw [turn2_out]
  refine wpAny_bind (wpAny_standAt (wpAny_bind ?_))
  by_cases hlt : i < ns.length
  · refine W.item i _ _ _ (by simp; lia) hst' fun v h₁ tk₁ hPv hst₁ hk₁ => ?_
    obtain ⟨t, ht⟩ := hi.get i ns[i] (by simp [hlt])
    have hv : v = .int ns[i] t := by
      have : items[i]? = some v := by simpa using hPv
      rw [ht] at this; exact (Option.some.inj this).symm
    subst hv
    refine wpAny_bind (wpAny_of_eq (a := ()) (by rfl) ?_)
    refine wpAny_bind (wpAny_assign_Name (wpAny_storeName_local hx1 (hn'.at' fun o e => hk₁ _ o hCw e) (fun h₂ hn₂ hs₂ => ?_) (by rw [hk]; rfl)))
    have kp₂ : ∀ b o, b ≠ cenv.locals → b ≠ I → b ≠ D → s.heap.get? b = some o → h₂.get? b = some o := fun b o h1 h2 h3 e => hs₂.extBut b o h1 (hk₁ b o (fun hm => h2 (List.mem_singleton.mp hm)) (hkp b o h1 h2 h3 e))
    have hst₂ : h₂.IsListIter I ax (i + 1) ∧ h₂.IsList ax items.toArray := W.frame _ _ _ hst₁ fun b hb o e => hs₂.extBut b o (fun h => by
      subst h; simp only [List.mem_cons, List.not_mem_nil, or_false] at hb; exact hb.elim hCI hCa) e
    have hacc₂ : h₂.PlainList D vs.toArray := hacc'.at fun o e => hs₂.extBut D o hDC (hk₁ D o hDw e)
    refine wpAny_bind (wpAny_mono (hit ns[i] t _ _ _ (List.getElem_mem _) hn₂ (by simp) kp₂) (fun v s'' hv'' => ?_) fun _ _ e => e)
    obtain ⟨l, us, nn, h₃, tk₃, rfl, rfl, G₃, hl₃, hl₃', hus⟩ := hv''
    refine wpAny_bind (wpAny_standAt (wpAny_bind (wpAny_of_eq (hfs _) (wpAny_bind (wpAny_holding ?_)))))
    have hls : Heap.IsList h₃ l us.toArray := ⟨_, hl₃', rfl, nn, rfl⟩
    have lD : l ≠ D := fun e => by obtain ⟨_, q⟩ := hacc₂; rw [← e] at q; rw [show h₂.get? l = none from hl₃] at q; cases q
    have lC : l ≠ cenv.locals := fun e => by obtain ⟨o, _, _, q, _⟩ := hn₂; rw [← e] at q; rw [show h₂.get? l = none from hl₃] at q; cases q
    have lI : l ≠ I := fun e => by obtain ⟨⟨o, q, _⟩, _⟩ := hst₂; rw [← e] at q; rw [show h₂.get? l = none from hl₃] at q; cases q
    refine wpAny_pyIter_list hls ?_
    have old : ∀ b o, h₂.get? b = some o → (h₃.push { cls := .type "list_iterator", data := .fields #[.ref l, .int 0 0] }).get? b = some o := fun b o e => Heap.get?_push_of_some _ (G₃ b o e)
    have neJ : ∀ b o, h₂.get? b = some o → b ≠ h₃.objs.size := fun b o e => Nat.ne_of_lt (Heap.lt_size (G₃ b o e))
    obtain ⟨oC, _, _, eC, _⟩ := id hn₂
    obtain ⟨nD, eD⟩ := id hacc₂
    obtain ⟨⟨oI, eI, _⟩, ⟨oA, eA, _⟩⟩ := id hst₂
    have hbnd : vs.length + us.length ≤ 1000 := by
      have e1 : ((ns.take (i + 1)).flatMap f).length ≤ (ns.flatMap f).length := by
        have : (ns.flatMap f) = (ns.take (i + 1)).flatMap f ++ (ns.drop (i + 1)).flatMap f := by rw [← List.flatMap_append, List.take_append_drop]
        rw [this, List.length_append]; lia
      have e2 : (ns.take (i + 1)).flatMap f = (ns.take i).flatMap f ++ f ns[i] := by rw [List.take_add_one, List.getElem?_eq_getElem hlt, Option.toList_some, List.flatMap_append]; simp
      rw [e2, List.length_append, ← hI'.length, ← hus.length] at e1
      lia
    refine wpAny_bind (wpAny_runOwn ((fun key => start2_in key (wpAny_pyIter_listiter ⟨_, Heap.get?_push_size _ rfl, rfl, rfl⟩ key)) ?_))
    all_goals
      refine loop2_in (items := us.toArray) (ys := vs.toArray) (l := l) hx hk hd (by exact hh) (Nat.ne_of_lt (Heap.lt_size hl₃')) hDC (neJ _ _ eD) lD.symm (neJ _ _ eC) lC.symm ⟨⟨_, Heap.get?_push_size _ rfl, rfl, rfl⟩, hls.at fun o e => Heap.get?_push_of_some _ e⟩ (hacc₂.at fun o e => old _ _ e) (hn₂.at' fun o e => old _ _ e)
        (by rw [List.size_toArray, List.size_toArray, sizeLine_eq]; lia) fun h₄ tk₄ m₄ hn₄ hl₄ hk₄ => ?_
      refine wpAny_pure ⟨rfl, ns.length + 1 - (i + 1), by lia, (hIv _ _).mpr ⟨h₄, _, m₄, i + 1, vs ++ us, rfl, hlt, rfl, W.frame _ _ _ hst₂ (fun b hb o e => hk₄ b o ?_ (neJ _ _ e) ?_ (old _ _ e)), by simpa using hl₄, ?_, hn₄, fun b o h1 h2 h3 e => hk₄ b o h1 (neJ _ _ (kp₂ b o h1 h2 h3 e)) h3 (old _ _ (kp₂ b o h1 h2 h3 e))⟩⟩
      · intro h; subst h; simp only [List.mem_cons, List.not_mem_nil, or_false] at hb; exact hb.elim hCI hCa
      · intro h; subst h; simp only [List.mem_cons, List.not_mem_nil, or_false] at hb; exact hb.elim hDI hDa
      · have e2 : (ns.take (i + 1)).flatMap f = (ns.take i).flatMap f ++ f ns[i] := by rw [List.take_add_one, List.getElem?_eq_getElem hlt, Option.toList_some, List.flatMap_append]; simp
        rw [e2]; exact IntsAre.append hI' hus
  · obtain rfl : i = ns.length := by lia
    refine W.done _ _ _ (by simpa [hlen] using hst') fun h₁ tk₁ hk₁ => wpAny_pure ?_
    rw [List.take_length] at hI'
    exact hR h₁ _ m' vs (hn'.at' fun o e => hk₁ _ o hCw e) (hacc'.at fun o e => hk₁ D o hDw e) hI' fun b o h1 h2 h3 e => hk₁ b o (fun hm => h2 (List.mem_singleton.mp hm)) (hkp b o h1 h2 h3 e)
def Comp2At (w : World) (A : Around) (env : Env) (scope : Scope) (cl : List (Str × Addr)) (x1 : Str) (i2 : Expr) (f : Int → List Int) (Q : Value → Shared → Prop) (xv : Value) (s₁ : Shared) : Prop :=
  ∃ ax items ns, xv = .ref ax ∧ s₁.heap.IsList ax (List.toArray items) ∧ IntsAre items ns ∧ (ns.flatMap f).length ≤ 1000 ∧
    (∀ C n t (s' : Shared) m' E', n ∈ ns → Fr s₁.heap C s'.heap m' → m' x1 = some (.int n t) →
      wpAny (model pw w) A (eval i2 (compEnvC scope cl C env)) (fun v s'' => ∃ l vs nn h' tk, v = .ref l ∧ s'' = { s' with heap := h', toks := tk } ∧ Grow s'.heap h' ∧ s'.heap.get? l = none ∧ h'.get? l = some (W.listOf vs.toArray nn) ∧ IntsAre vs (f n)) E' s') ∧
    (∀ D nn h' tk vs, s₁.heap.get? D = none → h'.get? D = some (W.listOf (List.toArray vs) nn) → IntsAre vs (ns.flatMap f) → Grow s₁.heap h' → Q (.ref D) { s₁ with heap := h', toks := tk })
theorem comp2_rule {s : Shared} {i1 i2 : Expr} {x1 x2 : Str} {p1 p2 pe : Pos} {scope : Scope} {cl : List (Str × Addr)} {pos : Pos} {Q : Value → Shared → Prop} (f : Int → List Int) (hh : A.handled = none)
    (hclos : closureFor scope env = pure cl) (hcell : ∀ y ∈ scope.names, y.2 ≠ .cell) (hkind : scope.kind = .function)
    (hnames : ∀ y ∈ scope.names, y.2 = .local → scope.names.lookup y.1 = some .local) (hx1 : scope.names.lookup x1 = some .local) (hx2 : scope.names.lookup x2 = some .local) (hd : (x2 == ("__debug__" : Str)) = false)
    (hf2 : ∀ C x, foldedSetIterable i2 (compEnvC scope cl C env) x = pure x)
    (h : wpAny (model pw w) A (eval i1 env) (Comp2At w A env scope cl x1 i2 f Q) E s) (hs : ∀ x, foldedSetIterable i1 env x = pure x) :
    wpAny (model pw w) A (eval (.ListComp (.Name x2 pe) [⟨.Name x1 p1, i1, [], 0⟩, ⟨.Name x2 p2, i2, [], 0⟩] scope pos) env) Q E s := by
  revert w A E env s i1 i2 x1 x2 p1 p2 pe scope cl pos Q f hh hclos hcell hkind hnames hx1 hx2 hd hf2 h hs
  (refine no_implicit_lambda% (pk6 (i1 := nW) (i2 := nA) (i5 := nS) ?_); generalize p6_1 _ = w; generalize p6_2 _ = A; generalize p6_3 _ = E; generalize p6_4 _ = env; generalize p6_5 _ = s; generalize p6_6 _ = i1); (refine no_implicit_lambda% (pk6 ?_); generalize p6_1 _ = i2; generalize p6_2 _ = x1; generalize p6_3 _ = x2; generalize p6_4 _ = p1; generalize p6_5 _ = p2; generalize p6_6 _ = pe); (refine no_implicit_lambda% (pk5 ?_); generalize p5_1 _ = scope; generalize p5_2 _ = cl; generalize p5_3 _ = pos; generalize p5_4 _ = Q; generalize p5_5 _ = f)
  intro hh hclos hcell hkind hnames hx1 hx2 hd hf2 h hs
  rw [eval_ListComp]
  refine wpAny_comprehension_free (use := none) rfl hs hclos hkind hnames (wpAny_mono h (fun xv s₁ h₁ => ?_) fun _ _ e => e)
  obtain ⟨ax, items, ns, rfl, hl, hi, hsz, hit, hQ⟩ := h₁
  obtain ⟨ol, hol, _⟩ := id hl
  have hlt := Heap.lt_size hol
  refine wpAny_pyIter_list hl ?_
  refine wpAny_newObj_type (wpAny_newFunctionEnv hcell (by intro y hy; simp at hy) (fun h₁ hns₁ hsb₁ => ?_) hkind)
  dsimp only at hns₁ hsb₁ ⊢
  generalize hH1 : s₁.heap.push { cls := .type "list_iterator", data := .fields #[.ref ax, .int 0 0] } = H1 at hns₁ hsb₁ ⊢
  generalize hH2 : H1.push { cls := .type "list", dict := none, data := .seq ([] : List Value).toArray } = H2 at hns₁ hsb₁ ⊢
  have z1 : H1.objs.size = s₁.heap.objs.size + 1 := by rw [← hH1, Heap.size_push]
  have z2 : H2.objs.size = s₁.heap.objs.size + 2 := by rw [← hH2, Heap.size_push, z1]
  have lt1 : s₁.heap.objs.size < H1.objs.size := by rw [z1]; exact Nat.lt_succ_self _
  have lt2 : H1.objs.size < H2.objs.size := by rw [z1, z2]; exact Nat.lt_succ_self _
  have up1 : ∀ b o, s₁.heap.get? b = some o → H1.get? b = some o := fun b o e => hH1 ▸ Heap.get?_push_of_some _ e
  have up2 : ∀ b o, H1.get? b = some o → H2.get? b = some o := fun b o e => hH2 ▸ Heap.get?_push_of_some _ e
  have up3 : ∀ b o, H2.get? b = some o → h₁.get? b = some o := fun b o e => hsb₁.extBut b o (Nat.ne_of_lt (Heap.lt_size e)) (Heap.get?_push_of_some _ e)
  have old : ∀ b o, s₁.heap.get? b = some o → h₁.get? b = some o := fun b o e => up3 b o (up2 b o (up1 b o e))
  have eI : H1.get? s₁.heap.objs.size = some { cls := .type "list_iterator", data := .fields #[.ref ax, .int 0 0] } := hH1 ▸ Heap.get?_push_size _ rfl
  have hacc : h₁.PlainList H1.objs.size #[] := ⟨_, up3 _ _ (hH2 ▸ Heap.get?_push_size _ rfl)⟩
  have fresh : ∀ (h : Heap) a, h.objs.size ≤ a → h.get? a = none := fun h a ha => by
    cases e : h.get? a with
    | none => rfl
    | some o' => exact absurd (Heap.lt_size e) (Nat.not_lt.mpr ha)
  have hst : h₁.IsListIter s₁.heap.objs.size ax 0 ∧ h₁.IsList ax items.toArray := ⟨⟨_, up3 _ _ (up2 _ _ eI), rfl, rfl⟩, hl.at fun o e => old _ _ e⟩
  have loop : ∀ s₃ : Shared, s₃ = { s₁ with heap := h₁, toks := s₁.toks + ([] : List (Str × Value)).length } →
      codeAny (model pw w) A (.compLoop (.ListComp (.Name x2 pe) [⟨.Name x1 p1, i1, [], 0⟩, ⟨.Name x2 p2, i2, [], 0⟩] scope pos) 0 (.ref s₁.heap.objs.size) (.ref H1.objs.size) (compEnvC scope cl H2.objs.size env))
        (compPost (model pw w) A E none Q (.ref H1.objs.size) H2.objs.size) s₃ := by
    rintro s₃ rfl
    refine loop2_out (cenv := compEnvC scope cl H2.objs.size env) f hi (lookup_relabel_local hx1) (lookup_relabel_local hx2) (by simp [compEnvC, relabel, hkind]) hd hh (hf2 _) (Nat.ne_of_lt hlt) (Nat.ne_of_lt lt2) (Nat.ne_of_gt lt1) (Nat.ne_of_gt (Nat.lt_trans hlt lt1)) (Nat.ne_of_gt (Nat.lt_trans lt1 lt2)) (Nat.ne_of_gt (Nat.lt_trans hlt (Nat.lt_trans lt1 lt2))) hst hacc hns₁ hsz ?_ ?_
    · intro n t s' m' E' hn hns hm hk
      refine hit H2.objs.size n t s' m' E' hn ⟨hns, fun b o e => hk b o ?_ ?_ ?_ (old b o e), by rw [z2]; lia⟩ hm
      · exact Nat.ne_of_lt (Nat.lt_trans (Heap.lt_size e) (Nat.lt_trans lt1 lt2))
      · exact Nat.ne_of_lt (Heap.lt_size e)
      · exact Nat.ne_of_lt (Nat.lt_trans (Heap.lt_size e) lt1)
    · intro h' tk m' vs hn ha hI hk
      refine ⟨m', hn, fun h'' hs'' => ?_⟩
      obtain ⟨nn, hl'⟩ := ha
      refine hQ H1.objs.size nn h'' tk vs (fresh _ _ (Nat.le_of_lt lt1)) (hs''.extBut _ _ (Nat.ne_of_lt lt2) hl') hI fun b o e => ?_
      have hb := Heap.lt_size e
      exact hs''.extBut b o (Nat.ne_of_lt (Nat.lt_trans hb (Nat.lt_trans lt1 lt2))) (hk b o (Nat.ne_of_lt (Nat.lt_trans hb (Nat.lt_trans lt1 lt2))) (Nat.ne_of_lt hb) (Nat.ne_of_lt (Nat.lt_trans hb lt1)) (old b o e))
  exact codeAny_compStart_list (loop _ rfl) (wpAny_pyIter_listiter hst.1 (loop _ rfl))
end
end
section
set_option maxHeartbeats 8000000
open PySem.Calls
theorem fill_lw3 : kk = kk ∧ PySem.Challenge.rw_kq0052_01 = PySem.Challenge.rw_kq0052_01 := by
  k_fill
  exact ⟨rfl, rfl⟩
theorem store_cellL {w : World} {A : Around} {E : Value → Shared → Prop} {s : Shared} {env : Env} {name : PySem.Str} {c : Addr} {oc : Obj} {v₀ : Option Value} {v : Value} {h₀ : Heap} {m : PySem.Str → Option Value} {led : Led} {Q : Unit → Shared → Prop}
    (hk : env.scope.kind = .function) (hl : env.kindOf name = some .cell) (hc : env.cells.lookup name = some c) (hd : oc.data = .cell v₀) (F : Fr h₀ env.locals s.heap m) (N : News h₀ env.locals s.heap ((c, oc) :: led)) (D : Nd ((c, oc) :: led))
    (h : ∀ h' oc', oc'.data = .cell (some v) → Fr h₀ env.locals h' m → News h₀ env.locals h' ((c, oc') :: led) → Q () { s with heap := h' }) : wpAny (model pw w) A (storeName env name v) Q E s :=
  wpAny_storeName_cell hk hl hc ⟨oc, (N _ (.head _)).1, hd⟩ fun h' ⟨oc', e, hd'⟩ hs => h h' oc' hd' (F.update N (.head _) hs) (news_turn N D hs e)
noncomputable def fitV : Value → Bool
  | .int k _ => fitB k
  | _ => false
theorem ints_filterF {vs : List Value} {ns : List Int} (h : IntsAre vs ns) : IntsAre (vs.filter fitV) (ns.filter fitB) := by
  induction h with
  | nil => exact .nil
  | cons k t h ih =>
    cases hk : fitB k with
    | true => rw [List.filter_cons_of_pos (show fitV (.int k t) = true from hk), List.filter_cons_of_pos hk]; exact .cons _ _ ih
    | false => rw [List.filter_cons_of_neg (by show ¬ fitB k = true; rw [hk]; decide), List.filter_cons_of_neg (by rw [hk]; decide)]; exact ih
noncomputable def dueOf (l : List Int) : List Int := (l.filter fitB).flatMap octs
theorem octs_len (x : Int) : (octs x).length ≤ 4 := by
  unfold octs
  (repeat' split) <;> simp
theorem octs_all_len (l : List Int) : (l.flatMap octs).length ≤ 4 * l.length := by
  induction l with
  | nil => simp
  | cons a l ih => rw [List.flatMap_cons, List.length_append, List.length_cons]; have := octs_len a; lia
theorem nd_move5 {a b c d e : Addr × Obj} {r : Led} (h : Nd (a :: b :: c :: d :: e :: r)) : Nd (e :: b :: c :: a :: r) := by
  unfold Nd at *
  simp only [List.map_cons, List.nodup_cons, List.mem_cons, not_or] at *
  grind
theorem law3 (w : World) (h₀ : Heap) (mg mb : PySem.Str → Option Value) (mean : ExcName → Option Value) (L fa : Addr) (s : Shared) (Q : Flow → Shared → Prop) (E : Value → Shared → Prop) (m : PySem.Str → Option Value)
   (ws : List Value) (nums : List Int) (hi : IntsAre ws nums) (hn : nums.length ≤ 12) (hb : ∀ n ∈ nums, 0 ≤ n ∧ n < 1114112) (dn sg : Addr) (n2 : Nat) (oT oD : Obj) (rest : Led) (hT : oT.data = .cell none) (hD : oD.data = .cell none)
   (X : (kk w.params).In h₀) (T : Top topProg LO mean mg mb h₀)
   (F : Fr h₀ L s.heap m) (hmn : m (ofS "numbers") = some (.ref dn)) (hms : m (ofS "signs") = some (.ref sg)) (N : News h₀ L s.heap ((L + 1, oT) :: (dn, W.listOf ws.toArray n2) :: (L + 1 + 1, oD) :: rest)) (D : Nd ((L + 1, oT) :: (dn, W.listOf ws.toArray n2) :: (L + 1 + 1, oD) :: rest))
   (next : ∀ h' tk m' oT' oD' th tvs n3 du dvs n4, m' (ofS "signs") = some (.ref sg) → IntsAre tvs (nums.filter fitB) → IntsAre dvs (dueOf nums) → oT'.data = .cell (some (.ref th)) → oD'.data = .cell (some (.ref du)) →
     News h₀ L h' ((L + 1, oT') :: (L + 1 + 1, oD') :: (th, W.listOf tvs.toArray n3) :: (du, W.listOf dvs.toArray n4) :: rest) → Nd ((L + 1, oT') :: (L + 1 + 1, oD') :: (th, W.listOf tvs.toArray n3) :: (du, W.listOf dvs.toArray n4) :: rest) → Fr h₀ L h' m' →
     wpAny (model pw w) (lawA L fa) (execs (lawRest 4) (lawEnv L fa)) Q E { s with heap := h', toks := tk }) :
   wpAny (model pw w) (lawA L fa) (execs (lawRest 2) (lawEnv L fa)) Q E s := by
  revert w h₀ mg mb mean L fa s Q E m ws nums hi hn hb dn sg n2 oT oD rest hT hD X T F hmn hms N D next
  (refine pk6 (i1 := nW) ?_; generalize p6_1 _ = w; generalize p6_2 _ = h₀; generalize p6_3 _ = mg; generalize p6_4 _ = mb; generalize p6_5 _ = mean; generalize p6_6 _ = L); (refine pk6 (i2 := nS) ?_; generalize p6_1 _ = fa; generalize p6_2 _ = s; generalize p6_3 _ = Q; generalize p6_4 _ = E; generalize p6_5 _ = m; generalize p6_6 _ = ws); (refine pk1 ?_; generalize p1_1 _ = nums)
  intro hi hn hb
  (refine pk6 ?_; generalize p6_1 _ = dn; generalize p6_2 _ = sg; generalize p6_3 _ = n2; generalize p6_4 _ = oT; generalize p6_5 _ = oD; generalize p6_6 _ = rest)
  intro hT hD X T F hmn hms N D next
  have Fa := fr_known F hmn
  k_steps
  refine comp_rule fitV (fun v y os => os = [] ∧ y = v) (cl := []) (by kernel_rfl) (by decide +kernel) rfl (by decide +kernel) (by decide +kernel) ?_ (fun _ => by kernel_rfl)
  k_steps
  rename Fr _ _ _ _ => F1
  rename News _ _ _ _ => N1
  show wpAny _ _ (pyIter _) _ _ _
  refine comp_list rfl (items := ws) (ax := dn) ⟨_, (N1 _ (.tail _ (.head _))).1, rfl, n2, rfl⟩ (by rw [sizeLine_eq, hi.length]; lia) ?ht ?he ?hq
  case ht =>
    intro C v s₃ m₃ E' hv Fc hm
    obtain ⟨k, u, rfl⟩ : ∃ k u, v = .int k u := ints_memR hi hv
    clear next F1 N1
    k_steps
    all_goals (refine ⟨?_, _, _, rfl, fun _ _ e => e⟩; simp [fitV, fitB]; lia)
  case he =>
    intro C v s₃ m₃ E' hv hpv Fc hm
    clear next F1 N1
    k_steps
    exact ⟨⟨[], ⟨rfl, rfl⟩, fun _ h => (nomatch h), fun _ h => (nomatch h)⟩, _, _, rfl, fun _ _ e => e⟩
  case hq =>
    intro D2 n3 h2 tk2 zs hD2 hl2 hz hok hoff hg
    replace hg : Grow _ h2 := hg
    have hzz : zs.map (·.2.1) = ws.filter fitV := by rw [← hz]; exact List.map_congr_left fun z hm => (hok z hm).1.2
    rw [hzz] at hl2
    have hI2 := ints_filterF hi
    obtain ⟨tvs, htv⟩ : ∃ z, ws.filter fitV = z := ⟨_, rfl⟩
    rw [htv] at hl2 hI2
    have F2 := F1.after hg
    have N2 := news_new F1 N1 hg hD2 hl2
    have Dn := D.new N1 hD2 (o := W.listOf tvs.toArray n3)
    clear F1 N1 hz hok hoff hzz
    have Ds := Dn.perm (List.Perm.swap _ _ _)
    refine store_cellL (c := L + 1) rfl (by kernel_rfl) (by kernel_rfl) hT F2 (News.perm N2 (List.Perm.swap _ _ _)) Ds fun h3 oT' hT' F3 N3 => ?_
    clear F2 N2
    have hcT : h3.IsCell (L + 1) (some (.ref D2)) := ⟨oT', (N3 _ (.head _)).1, hT'⟩
    have Fq := F3
    k_steps
    refine comp2_rule octs (cl := []) rfl (by kernel_rfl) (by decide +kernel) rfl (by decide +kernel) (by decide +kernel) (by decide +kernel) (by decide +kernel) (fun _ _ => by kernel_rfl) ?_ (fun _ => by kernel_rfl)
    k_steps
    rename Fr _ _ _ _ => F4
    rename News _ _ _ _ => N4
    have hlen : (nums.filter fitB).length ≤ 12 := Nat.le_trans (List.length_filter_le _ _) hn
    refine ⟨D2, tvs, nums.filter fitB, rfl, ⟨_, (N4 _ (.tail _ (.head _))).1, rfl, n3, rfl⟩, hI2, ?sz, ?it, ?fin⟩
    case sz => exact Nat.le_trans (octs_all_len _) (by lia)
    case it =>
      intro C n t s' m' E' hnm Fc hm
      have hb' := hb n (List.mem_filter.mp hnm).1
      replace Fc : Fr h3 C s'.heap m' := Fc
      have X4 : (kk w.params).In h3 := X.keeps F4.keep
      have T4 : Top topProg LO mean mg mb h3 := T.keeps F4.keep
      have Xs := X4.keeps Fc.keep
      have Ts := T4.keeps Fc.keep
      clear next F4 N4 hcT X T F3 F
      k_steps
      show wpAny _ _ (call (.ref 201) [.int n t]) _ _ _
      refine (octets_spec w n t hb'.1 hb'.2) mean mg mb _ _ _ _ _ _ _ Xs Ts (Nat.le_of_ble_eq_true (by kernel_rfl!)) (Nat.le_of_ble_eq_true (by kernel_rfl!)) trivial ?_
      rintro v h' tk' G ⟨l, vs, nn, rfl, hl0, hl1, hI⟩
      exact ⟨l, vs, nn, h', tk', rfl, rfl, G, hl0, hl1, hI⟩
    case fin =>
      intro D5 n5 h5 tk5 dvs hD5 hl5 hI5 G5
      have F5 := F4.after G5
      have N5 := news_new F4 N4 G5 hD5 hl5
      have D5n := (Nd.upd (o' := oT') Ds).new N4 hD5 (o := W.listOf dvs.toArray n5)
      clear F4 N4
      have N6 : News h₀ (lawEnv L fa).locals h5 ((L + 1 + 1, oD) :: (L + 1, oT') :: (D2, W.listOf tvs.toArray n3) :: (D5, W.listOf dvs.toArray n5) :: rest) := fun p hp => N5 p (mem_pt [4, 1, 2, 0] 5 hp)
      refine store_cellL (c := L + 1 + 1) rfl (by kernel_rfl) (by kernel_rfl) hD F5 N6 (nd_move5 D5n) fun h7 oD' hD' F7 N7 => ?_
      have D7 : Nd ((L + 1, oT') :: (L + 1 + 1, oD') :: (D2, W.listOf tvs.toArray n3) :: (D5, W.listOf dvs.toArray n5) :: rest) := (Nd.upd (o' := oD') (nd_move5 D5n)).perm (List.Perm.swap _ _ _)
      have N8 := News.perm N7 (List.Perm.swap _ _ _)
      exact next h7 _ _ oT' oD' D2 tvs n3 D5 dvs n5 (by rw [if_neg (by decide +kernel)]; exact hms) hI2 hI5 hT' hD' N8 D7 F7
end
section
set_option maxHeartbeats 8000000
open PySem.Calls
theorem fill_lm : kk = kk ∧ PySem.Challenge.rw_kq0052_01 = PySem.Challenge.rw_kq0052_01 := by
  k_fill
  exact ⟨rfl, rfl⟩
theorem enter_lam {w : World} {mean : ExcName → Option Value} {mg mb : PySem.Str → Option Value} {A : Around} {s : Shared} {Q E : Value → Shared → Prop} {f c' : Addr} {vs : List Value}
    {name qual : PySem.Str} {params : Arguments} {body : Expr} {scope : Scope} {cl : List (PySem.Str × Addr)} {pm ctv : Value} {binds : List (PySem.Str × Value)}
    (T : Top topProg LO mean mg mb s.heap) (ho : s.heap.get? f = some (kla_obj name qual params body scope cl pm c' ctv)) (hcd : s.heap.CodeRec (.ref c') qual) (hroom : A.depth < recursionLimit)
    (hbind : bindArgs (kla_fn name qual params body scope cl pm (.ref c') ctv) ⟨vs, []⟩ = pure binds) (hloc : ∀ y ∈ binds, scope.names.lookup y.1 = some .local)
    (hcell : ∀ x ∈ scope.names, x.2 ≠ .cell) (hco : scope.isCoroutine = false) (hgen : scope.isGenerator = false) (hk : scope.kind = .function)
    (h : ∀ L' h₁, Fr s.heap L' h₁ (fun y => binds.reverse.lookup y) → News s.heap L' h₁ [] →
      wpAny (model pw w) (A.deeper (envX qual scope L' f (.ref c') cl)) (eval body (envX qual scope L' f (.ref c') cl)) Q
        (fun e s' => wpAny (model pw w) (A.deeper (envX qual scope L' f (.ref c') cl)) (leaving (envX qual scope L' f (.ref c') cl) e) (fun _ s'' => E e s'') (fun e' s'' => E e' s'') s')
        { s with heap := h₁, toks := s.toks + binds.length }) :
    wpAny (model pw w) A (call (.ref f) vs) Q E s := by
  refine wpAny_call (kla_callFunE hroom ho rfl hco hgen rfl hcd ?_)
  rw [hbind]
  refine wpAny_pure (wpAny_newFunctionEnv hcell hloc (fun h₁ hns hsb => ⟨T.nolimit.fresh _ hsb, ?_⟩) hk)
  have hk₁ : ∀ b o, s.heap.get? b = some o → h₁.get? b = some o := fun b o e => hsb.extBut b o (Nat.ne_of_lt (Heap.lt_size e)) (Heap.get?_push_of_some _ e)
  exact kla_codeExpr (h s.heap.objs.size h₁ ⟨hns, hk₁, Nat.le_refl _⟩ fun _ hp => nomatch hp)
noncomputable def lamE1 : Expr := match (fnB (st 39)).getD 4 (.Pass default) with | .Assign _ (.Call (.Attribute (.Call _ (l :: _) _ _) _ _) _ _ _) _ => l | _ => .Constant .none 0 default
noncomputable def lamE2 : Expr := match (fnB (st 39)).getD 7 (.Pass default) with | .Assign _ (.Call _ (l :: _) _ _) _ => l | _ => .Constant .none 0 default
noncomputable def lamE3 : Expr := match (fnB (st 39)).getD 10 (.Pass default) with | .Assign _ (.Call _ _ (k :: _) _) _ => (match k.value with | .Call _ (l :: _) _ _ => l | _ => .Constant .none 0 default) | _ => .Constant .none 0 default
def lamP : Expr → Arguments | .Lambda p _ _ _ => p | _ => default
def lamB : Expr → Expr | .Lambda _ b _ _ => b | e => e
def lamS : Expr → Scope | .Lambda _ _ s _ => s | _ => default
abbrev lamObj (e : Expr) (cl : List (PySem.Str × Addr)) (pm : Value) (c' : Addr) (ctv : Value) : Obj := kla_obj (ofS "<lambda>") (ofS "law.<locals>.<lambda>") (lamP e) (lamB e) (lamS e) cl pm c' ctv
def R1 (cs : List Nat) (i : Nat) (v : Value) (nx : Led) : Prop := nx = [] ∧ ∃ t, v = .str (tx (cs.take i)) t
theorem lam1_step (w : World) (f c' : Addr) (pm ctv : Value) (h₀ : Heap) (mean : ExcName → Option Value) (mg mb : PySem.Str → Option Value) (T : Top topProg LO mean mg mb h₀) (ho : h₀.get? f = some (lamObj lamE1 [] pm c' ctv)) (hcd : h₀.CodeRec (.ref c') (ofS "law.<locals>.<lambda>"))
    (cs : List Nat) (hcs : cs.length ≤ 12) (P : Nat → Value → Prop) (hP : ∀ i x, P i x → ∃ c t, cs[i]? = some c ∧ x = .str (tx [c]) t) (i : Nat) : RStep w f h₀ P (R1 cs) i := by
  revert w f c' pm ctv h₀ mean mg mb T ho hcd cs hcs P hP i
  (refine pk6 (i1 := nW) ?_; generalize p6_1 _ = w; generalize p6_2 _ = f; generalize p6_3 _ = c'; generalize p6_4 _ = pm; generalize p6_5 _ = ctv; generalize p6_6 _ = h₀); (refine pk3 ?_; generalize p3_1 _ = mean; generalize p3_2 _ = mg; generalize p3_3 _ = mb)
  intro T ho hcd
  (refine pk1 ?_; generalize p1_1 _ = cs)
  intro hcs
  (refine pk1 ?_; generalize p1_1 _ = P)
  intro hP
  (refine pk1 ?_; generalize p1_1 _ = i)
  rintro x v nx dp un fr gd s Q E hd hu hx ⟨rfl, t, rfl⟩ G _ hret
  obtain ⟨c, t2, hc, rfl⟩ := hP i x hx
  refine enter_lam (binds := [(ofS "text", .str (tx (cs.take i)) t), (ofS "sign", .str (tx [c]) t2)]) (T.keeps G) (G _ _ ho) ?_ (by show dp < _; unfold recursionLimit; lia) (by kernel_rfl) (locs (by kernel_rfl)) (by decide +kernel) (by kernel_rfl) (by kernel_rfl) (by kernel_rfl) fun L' h₁ F N => ?_
  · obtain ⟨c, oc, vs, t, e, hoc, r⟩ := hcd
    exact ⟨c, oc, vs, t, e, G _ _ hoc, r⟩
  replace F : Fr s.heap L' h₁ (fun y => List.lookup y [(ofS "sign", .str (tx [c]) t2), (ofS "text", .str (tx (cs.take i)) t)]) := F
  have hl1 : (tx (cs.take i)).length ≤ 12 := by rw [tx_len, List.length_take]; lia
  have hl2 : (tx [c]).length ≤ 1 := Nat.le_refl _
  conv in (eval _ _) => arg 1; whnf
  k_steps
  rw [tx_app]
  refine hret _ [] _ _ F.keep ⟨rfl, _, congrArg (Value.str · _) (congrArg tx ?_)⟩ (fun _ h => nomatch h)
  rw [List.take_add_one, hc]; rfl
theorem name_freeX {M : Model} {A : Around} {E : Value → Shared → Prop} {s : Shared} {Q : Value → Shared → Prop} {x : PySem.Str} {pos : Pos} {n : PySem.Str} {sc : Scope} {L a : Addr} {cd : Value} {cl : List (PySem.Str × Addr)} {c : Addr} {v : Value} (hc : cl.lookup x = some c) (hv : s.heap.IsCell c (some v)) (hk : sc.kind = .function)
    (hx : (envX n sc L a cd cl).kindOf x = some .free) (hd : (x == ("__debug__" : PySem.Str)) = false) (hn : (x == ("__classdict__" : PySem.Str)) = false) (h : Q v s) : wpAny M A (eval (.Name x pos) (envX n sc L a cd cl)) Q E s :=
  wpAny_Name (wpAny_loadName_free hk hx hc hv h hn) hd
local macro_rules | `(tactic| walk_at "eval Name") => `(tactic| ((with_reducible show wpAny _ _ (eval (Expr.Name _ _) (envX _ _ _ _ _ _)) _ _ _); refine name_freeX (by with_unfolding_all rfl) (by assumption) (by with_unfolding_all rfl) (by with_unfolding_all rfl) (by decide +kernel) (by decide +kernel) ?_))
inductive TupsIn (tups : Led) : List Value → List (Int × Nat) → Prop
  | nil : TupsIn tups [] []
  | cons {a : Addr} {p : Int} {c : Nat} {t u : Tok} {vs : List Value} {ds : List (Int × Nat)} (hm : (a, ({ cls := .type "tuple", data := .seq #[.int p t, .str (tx [c]) u] 0 } : Obj)) ∈ tups) (h : TupsIn tups vs ds) : TupsIn tups (.ref a :: vs) ((p, c) :: ds)
theorem TupsIn.more {tups tups' : Led} (hs : ∀ q ∈ tups, q ∈ tups') {vs : List Value} {ds : List (Int × Nat)} (h : TupsIn tups vs ds) : TupsIn tups' vs ds := by
  induction h with
  | nil => exact .nil
  | cons hm _ ih => exact .cons (hs _ hm) ih
theorem TupsIn.snoc {tups : Led} {vs : List Value} {ds : List (Int × Nat)} (h : TupsIn tups vs ds) {a : Addr} {p : Int} {c : Nat} {t u : Tok} (hm : (a, ({ cls := .type "tuple", data := .seq #[.int p t, .str (tx [c]) u] 0 } : Obj)) ∈ tups) : TupsIn tups (vs ++ [.ref a]) (ds ++ [(p, c)]) := by
  induction h with
  | nil => exact .cons hm .nil
  | cons hm' _ ih => exact .cons hm' ih
def R2 (h₀ : Heap) (ds : List (Int × Nat)) (i : Nat) (v : Value) (nx : Led) : Prop :=
  ∃ l items n tups, v = .ref l ∧ ((i = 0 ∧ nx = [] ∧ h₀.get? l = some (W.listOf #[] n) ∧ items = [] ∧ tups = []) ∨ nx = (l, W.listOf items.toArray n) :: tups) ∧ TupsIn tups items (ds.take i)
theorem TupsIn.len {tups : Led} {vs : List Value} {ds : List (Int × Nat)} (h : TupsIn tups vs ds) : vs.length = ds.length := by
  induction h with
  | nil => rfl
  | cons _ _ ih => simp [ih]
theorem lam2_step (w : World) (f c' cF : Addr) (pm ctv : Value) (h₀ : Heap) (mean : ExcName → Option Value) (mg mb : PySem.Str → Option Value) (X : (kk w.params).In h₀) (T : Top topProg LO mean mg mb h₀) (ho : h₀.get? f = some (lamObj lamE2 [(ofS "figures", cF)] pm c' ctv)) (hcd : h₀.CodeRec (.ref c') (ofS "law.<locals>.<lambda>"))
    (fl : List Nat) (tF : Tok) (hcF : h₀.IsCell cF (some (.str (tx fl) tF))) (ds : List (Int × Nat)) (n : Nat) (hn : n ≤ 48) (hds : ds.length = n) (hfl : fl.length = 2 * n)
    (hfig : ∀ i, i < n → ∃ c, ds[i]? = some (2 * (i : Int) + 2, c) ∧ AllHex ((fl.drop (2 * i)).take 2) ∧ hexVal ((fl.drop (2 * i)).take 2) = c ∧ c < 256)
    (i : Nat) (hi : i < n) : RStep w f h₀ (fun i x => ∃ t, x = .int (0 + (i : Int) * 1) t) (R2 h₀ ds) i := by
  revert w f c' cF pm ctv h₀ mean mg mb X T ho hcd fl tF hcF ds n hn hds hfl hfig i hi
  (refine pk6 (i1 := nW) ?_; generalize p6_1 _ = w; generalize p6_2 _ = f; generalize p6_3 _ = c'; generalize p6_4 _ = cF; generalize p6_5 _ = pm; generalize p6_6 _ = ctv); (refine pk4 ?_; generalize p4_1 _ = h₀; generalize p4_2 _ = mean; generalize p4_3 _ = mg; generalize p4_4 _ = mb)
  intro X T ho hcd
  (refine pk2 ?_; generalize p2_1 _ = fl; generalize p2_2 _ = tF)
  intro hcF
  (refine pk2 ?_; generalize p2_1 _ = ds; generalize p2_2 _ = n)
  intro hn hds hfl hfig
  (refine pk1 ?_; generalize p1_1 _ = i)
  intro hi
  rintro x v nx dp un fr gd s Q E hd hu ⟨t, rfl⟩ ⟨l, items, nn, tups, rfl, hl, hT⟩ G hnx hret
  obtain ⟨c, hc, hh, hv, hc256⟩ := hfig i hi
  have e0 : (0 : Int) + (i : Int) * 1 = (i : Int) := by lia
  rw [e0]
  have Xs := X.keeps G
  have Ts := T.keeps G
  refine enter_lam (binds := [(ofS "row", .ref l), (ofS "k", .int (i : Int) t)]) Ts (G _ _ ho) ?_ (by show dp < _; unfold recursionLimit; lia) (by kernel_rfl) (locs (by kernel_rfl)) (by decide +kernel) (by kernel_rfl) (by kernel_rfl) (by kernel_rfl) fun L' h₁ F N => ?_
  · obtain ⟨c, oc, vs, t, e, hoc, r⟩ := hcd
    exact ⟨c, oc, vs, t, e, G _ _ hoc, r⟩
  replace F : Fr s.heap L' h₁ (fun y => List.lookup y [(ofS "k", .int (i : Int) t), (ofS "row", .ref l)]) := F
  have hcF1 : h₁.IsCell cF (some (.str (tx fl) tF)) := (hcF.keeps G).keeps F.keep
  clear Ts
  have Ts : Top topProg LO mean mg mb s.heap := T.keeps G
  conv in (eval _ _) => arg 1; whnf
  k_steps
  have hsl : Txt.slice (tx fl) (some (2 * (i : Int))) (some (2 * (i : Int) + 2)) = tx ((fl.drop (2 * i)).take 2) := by
    have := slice_tx fl (2 * i) (2 * i + 2) (by lia) (by lia)
    rw [show 2 * i + 2 - 2 * i = 2 from by lia] at this
    exact this
  have hls : s.heap.get? l = some (W.listOf items.toArray nn) := by
    rcases hl with ⟨_, _, h, rfl, _⟩ | rfl
    · exact G _ _ h
    · exact hnx _ (.head _)
  have htu : ∀ q ∈ tups, q ∈ nx := by
    rcases hl with ⟨_, _, _, _, rfl⟩ | rfl
    · exact fun q hq => nomatch hq
    · exact fun q hq => .tail _ hq
  have hilen : items.length ≤ 48 := by rw [hT.len, List.length_take]; lia
  show wpAny _ _ (call (.ref 45) [.str (tx fl) tF, .int (2 * (i : Int)) _, .int 2 _]) _ _ _
  refine (phc_ok w (tx fl) (tx ((fl.drop (2 * i)).take 2)) _ _ _ (2 * (i : Int)) 2 hsl (by rw [tx_len, List.length_take, List.length_drop]; lia) (by lia) (by lia) (by rw [tx_len]; lia) (by rw [tx_len]; lia) hh (by show hexVal ((fl.drop (2 * i)).take 2) < _; lia) (by show ¬ (55296 ≤ hexVal ((fl.drop (2 * i)).take 2) ∧ _); lia)) mean mg mb _ _ _ _ _ _ _ (Xs.keeps F.keep) (Ts.keeps F.keep) (by show dp + 1 + 4 < _; unfold recursionLimit; lia) (by show un + _ + 60 < _; unfold cLine; lia) trivial ?_
  rintro v h2 tk2 G2 ⟨t1, t2, a, rfl, ha0, ha1⟩
  replace ha1 : h2.get? a = some { cls := .type "tuple", data := .seq #[.int (2 * (i : Int) + 2) t1, .str (tx [c]) t2] 0 } := by rw [← hv]; exact ha1
  have F2 := F.after G2
  have N2 := news_new F N G2 ha0 ha1
  clear F N hcF1
  k_steps
  rename Fr _ _ _ _ => F3
  rename News _ _ _ _ => N3
  show wpAny _ _ (binaryOp .Add (.ref l) (.ref _)) _ _ _
  refine add_arrays (hsz := by rw [sizeLine_eq, List.size_toArray]; show _ + 1 ≤ _; lia) F3 N3 ⟨_, F3.keep _ _ hls, rfl, nn, rfl⟩ ⟨_, (N3 _ (.head _)).1, rfl, 0, rfl⟩ fun h4 F4 N4 => ?_
  have fresh : ∀ q ∈ ([(a, ({ cls := .type "tuple", data := .seq #[.int (2 * (i : Int) + 2) t1, .str (tx [c]) t2] 0 } : Obj))] : Led), s.heap.get? q.1 = none := fun q hq => (N3 q (.tail _ hq)).2.2
  refine hret _ ((_, W.listOf (items ++ [Value.ref a]).toArray 0) :: (a, { cls := .type "tuple", data := .seq #[.int (2 * (i : Int) + 2) t1, .str (tx [c]) t2] 0 }) :: tups) _ _ F4.keep ⟨_, items ++ [Value.ref a], 0, _, rfl, .inr rfl, ?_⟩ fun q hq => ?_
  · rw [List.take_add_one, hc]
    exact (hT.more fun q hq => .tail _ hq).snoc (.head _)
  · rcases List.mem_cons.mp hq with rfl | hq
    · exact ⟨(N4 _ (.head _)).1, .inr (N4 _ (.head _)).2.2⟩
    · rcases List.mem_cons.mp hq with rfl | hq
      · exact ⟨(N4 _ (.tail _ (.tail _ (.head _)))).1, .inr (fresh _ (.head _))⟩
      · exact ⟨F4.keep _ _ (hnx q (htu q hq)), .inl (htu q hq)⟩
end
section
set_option maxHeartbeats 8000000
open PySem.Calls
theorem fill_lw4 : kk = kk ∧ PySem.Challenge.rw_kq0052_01 = PySem.Challenge.rw_kq0052_01 := by
  k_fill
  exact ⟨rfl, rfl⟩
local macro_rules | `(tactic| k_updF) => `(tactic| exact UpdF.head (by assumption))
noncomputable def utf8B (cs : List Nat) : Array UInt8 := bytesOut PySem.Str.utf8Of cs
theorem strs_get {vs : List Value} : ∀ {cs : List Nat}, StrsAre vs (cs.map fun c => tx [c]) → ∀ (i : Nat) (x : Value), vs[i]? = some x → ∃ c t, cs[i]? = some c ∧ x = Value.str (tx [c]) t := by
  induction vs with
  | nil => intro cs h i x hx; simp at hx
  | cons v vs ih =>
    intro cs h i x hx
    cases cs with
    | nil => cases h
    | cons c cs =>
      rw [List.map_cons] at h
      cases h with
      | cons y t h' =>
        cases i with
        | zero => simp at hx; exact ⟨c, t, rfl, hx.symm⟩
        | succ i => simpa using ih h' i x (by simpa using hx)
local macro_rules | `(tactic| walk_at "execs cons") => `(tactic| (with_reducible refine st9 ?_))
theorem law4 (w : World) (h₀ : Heap) (mg mb : PySem.Str → Option Value) (mean : ExcName → Option Value) (L fa : Addr) (s : Shared) (Q : Flow → Shared → Prop) (E : Value → Shared → Prop) (m : PySem.Str → Option Value)
   (cs : List Nat) (svs : List Value) (hS : StrsAre svs (cs.map fun c => tx [c])) (hn : cs.length ≤ 12) (hcs : ∀ c ∈ cs, PySem.Str.isSurrogate c = false) (sg n1 : Nat) (ps : Array Value) (rest : Led)
   (X : (kk w.params).In h₀) (T : Top topProg LO mean mg mb h₀) (C208 : CodeHd h₀ 210 208) (K : Below callerA h₀ [] h₀) (hps : ps = #[])
   (F : Fr h₀ L s.heap m) (hms : m (ofS "signs") = some (.ref sg)) (N : News h₀ L s.heap ((208, tabObj ps) :: (sg, W.listOf svs.toArray n1) :: rest)) (D : Nd ((208, tabObj ps) :: (sg, W.listOf svs.toArray n1) :: rest))
   (next : ∀ h' tk m' u c1, m' (ofS "signs") = some (.ref sg) → m' (ofS "octets") = some (.bytes (utf8B cs) u) →
     News h₀ L h' ((208, tabObj (#[] ++ #[rawInt 278, rawInt 20, .ref c1])) :: (sg, W.listOf svs.toArray n1) :: rest) → Fr h₀ L h' m' → wpAny (model pw w) (lawA L fa) (execs (lawRest 5) (lawEnv L fa)) Q E { s with heap := h', toks := tk }) :
   wpAny (model pw w) (lawA L fa) (execs (lawRest 4) (lawEnv L fa)) Q E s := by
  revert w h₀ mg mb mean L fa s Q E m cs svs hS hn hcs sg n1 ps rest X T C208 K hps F hms N D next
  (refine no_implicit_lambda% (pk6 (i1 := nW) ?_); generalize p6_1 _ = w; generalize p6_2 _ = h₀; generalize p6_3 _ = mg; generalize p6_4 _ = mb; generalize p6_5 _ = mean; generalize p6_6 _ = L); (refine no_implicit_lambda% (pk6 (i2 := nS) ?_); generalize p6_1 _ = fa; generalize p6_2 _ = s; generalize p6_3 _ = Q; generalize p6_4 _ = E; generalize p6_5 _ = m; generalize p6_6 _ = cs); (refine no_implicit_lambda% (pk1 ?_); generalize p1_1 _ = svs)
  intro hS hn hcs
  (refine no_implicit_lambda% (pk4 ?_); generalize p4_1 _ = sg; generalize p4_2 _ = n1; generalize p4_3 _ = ps; generalize p4_4 _ = rest)
  intro X T C208 K hps F hms N D next
  have Fa := fr_known F hms
  have h208 : ∀ p ∈ (sg, W.listOf svs.toArray n1) :: rest, p.1 ≠ 208 := D.head
  subst hps
  k_steps
  rename Fr _ _ _ _ => F1
  rename News _ _ _ _ => N1
  rename_i f1 c1 oc1 vs1 t1 ct1 h1 tk1 d1 d2 l1 l2
  have ho : h1.get? f1 = some (lamObj lamE1 [] ((mg (PySem.Str.ofString "__name__")).getD .none) c1 ct1) := (N1 _ (.head _)).1.trans (by kernel_rfl)
  have hcd : h1.CodeRec (.ref c1) (ofS "law.<locals>.<lambda>") := ⟨c1, oc1, vs1, t1, rfl, (N1 _ (.tail _ (.head _))).1, d1, q_to d2 (by kernel_rfl)⟩
  have hsg : h1.IsList sg svs.toArray := ⟨_, (N1 _ (.tail _ (.tail _ (.tail _ (.head _))))).1, rfl, n1, rfl⟩
  have hsz : svs.toArray.size = cs.length := by rw [List.size_toArray, strs_len hS, List.length_map]
  show wpAny _ _ (call (.ref 172) [.ref f1, .ref sg, .str _ _]) _ _ _
  refine (reduce_spec w f1 sg _ cs.length h1 (.inl ⟨_, _, rfl⟩) (fun i v => svs.toArray[i]? = some v) (R1 cs) ⟨_, _, _, _, ho⟩ ⟨rfl, _, by rw [List.take_zero, ← nil_tx]⟩ (hsz ▸ iterOk_list hsg) fun i _ => lam1_step w f1 c1 _ ct1 h1 mean mg mb (T.keeps F1.keep) ho hcd cs hn _ (fun i x hx => ?hP) i) mean mg mb _ _ _ _ _ _ _ (X.keeps F1.keep) (T.keeps F1.keep) (Nat.le_of_ble_eq_true (by kernel_rfl!)) (Nat.le_of_ble_eq_true (by kernel_rfl!)) (Grow.refl _) ?_
  case hP =>
    obtain ⟨c, t, hc, e⟩ := strs_get hS i x (by simpa using hx)
    exact ⟨c, t, hc, e⟩
  rintro v h2 tk2 G2 ⟨nx, ⟨rfl, t2, rfl⟩, _⟩
  rw [List.take_length]
  have F2 := F1.after G2
  have N2 := News.grown N1 G2
  clear F1 N1 ho hcd hsg
  k_steps
  have hu8 : ∀ y, (PySem.Str.utf8Of y).length ≤ 4 := fun y => by unfold PySem.Str.utf8Of; (repeat' split) <;> simp
  refine call_enc_utf8 (x := tx cs) hcs hu8 (by show cs.length ≤ 1000; omega) fun tk3 => ?_
  show wpAny _ _ (storeName _ _ (.bytes (utf8B cs) _)) _ _ _
  k_steps
  rename Fr _ _ _ _ => F3
  rename News _ _ _ _ => N3
  exact next _ _ _ _ c1 ((if_neg (by decide +kernel)).trans (if_pos rfl)) (if_pos rfl) (fun p hp => N3 p (.tail _ (.tail _ hp))) F3
end
section
open PySem.W.X PySem.Calls
theorem body_never {prog : Program} {w : World} {A : Around} {R : Result → Shared → Prop} {s : Shared} {stmts env} (hann : hasAnns stmts = false) (hdoc : docOf stmts = none)
    (h : wpAny (model prog w) (A.deeper env) (execs stmts env) (fun f s' => R (.ok f) s') (fun _ _ => False) s) : codeAny (model prog w) A (.body stmts env) R s :=
  codeAny_body hann hdoc (wpAny_mono h (fun _ _ q => q) fun _ _ f => f.elim)
structure Anew (h₀ h hB : Heap) (chg news : List (Addr × Obj)) (i j : Nat) (p q : Addr × Obj) : Prop where
  mem : Mem hB h [] [p, q]
  back : ∀ b o, hB.get? b = some o → h.get? b = some o
  old : ∀ b o, h₀.get? b = some o → (hasCls o || away chg b) = true → hB.get? b = some o
  new : ∀ k b o, news[k]? = some (b, o) → (k == i) = false → (k == j) = false → hB.get? b = some o
  tab : ∀ b o, h.get? b = some o → b ≠ p.1 → b ≠ q.1 → hB.get? b = some o
theorem anew {h₀ h : Heap} {chg news : List (Addr × Obj)} (D : Mem h₀ h chg news) (i j : Nat) {p q : Addr × Obj} (hi : news[i]? = some p) (hj : news[j]? = some q) (ij : Nat.blt i j = true) :
    ∃ hB, Anew h₀ h hB chg news i j p q := by
  obtain ⟨a, oa⟩ := p
  obtain ⟨b, ob⟩ := q
  have n1 : ∀ c o, h.get? c = some o → c ≠ a → c ≠ b → (hideAll h [a, b]).get? c = some o := fun c o e x y => hideAll_get _ e (by simp [x, y])
  have hab : a ≠ b := D.ne i j a b oa ob hi hj ij
  have hlt : i < j := Nat.le_of_ble_eq_true ij
  refine ⟨hideAll h [a, b], ⟨⟨fun c o e _ => of_hideAll _ e, fun _ hp => (nomatch hp), List.nodup_nil, fun p hp => ?_, ?_⟩, fun c o e => of_hideAll _ e, fun c o e k => ?_, fun k c o e ki kj => ?_, n1⟩⟩
  · rcases List.mem_cons.mp hp with rfl | hp
    · exact ⟨D.at i _ _ hi, hideAll_none _ (by simp)⟩
    · rw [List.mem_singleton.mp hp]
      exact ⟨D.at j _ _ hj, hideAll_none _ (by simp)⟩
  · have o := D.ord
    refine List.Pairwise.cons (fun x hx => ?_) (List.pairwise_singleton _ _)
    rw [List.map_cons, List.map_nil, List.mem_singleton] at hx
    rw [hx]
    have hi' : (news.map (·.1))[i]? = some a := by rw [List.getElem?_map, hi]; rfl
    have hj' : (news.map (·.1))[j]? = some b := by rw [List.getElem?_map, hj]; rfl
    obtain ⟨li, gi⟩ := List.getElem?_eq_some_iff.mp hi'
    obtain ⟨lj, gj⟩ := List.getElem?_eq_some_iff.mp hj'
    have := List.pairwise_iff_getElem.mp o i j li lj hlt
    rw [gi, gj] at this
    exact this
  · exact n1 c o (D.keep c o e k) (Ne.symm (D.ne_old i a oa hi c o e)) (Ne.symm (D.ne_old j b ob hj c o e))
  · have ne : ∀ (m : Nat) (x : Addr) (ox : Obj), news[m]? = some (x, ox) → (k == m) = false → c ≠ x := fun m x ox hm km => by
      rcases Nat.lt_trichotomy k m with h1 | h1 | h1
      · exact D.ne k m c x o ox e hm (Nat.ble_eq_true_of_le h1)
      · subst h1; simp at km
      · exact Ne.symm (D.ne m k x c ox o hm e (Nat.ble_eq_true_of_le h1))
    exact n1 c o (D.at k c o e) (ne i a oa hi ki) (ne j b ob hj kj)
end
section
set_option maxHeartbeats 4000000
open PySem.W.X PySem.Calls PySem.Builtin
section
variable {prog : Program} {w : World} {A : Around} {E : Value → Shared → Prop} {s : Shared}
theorem bytes_len : typeLookup (.type "bytes") "__len__" = pure (some (.builtin "bytes.__len__")) := by rw [typeLookup_type, builtinLookup_eq_fast]; kernel_rfl
def ByteAt (b : Array UInt8) (i : Nat) (v : Value) : Prop := ∃ c u, b[i]? = some c ∧ v = .int (c.toNat : Int) u
theorem extend_bytes {R : Result → Shared → Prop} (hh : A.handled = none) (b : Array UInt8) (t : Tok) (S : Addr) (res : Value) (c₀ : Nat) (hS : s.heap.get? S = some { cls := .type "list", data := .seq #[] c₀ })
    (hR : ∀ h' tk acc' c', (∀ b o, b ≠ S → s.heap.get? b = some o → h'.get? b = some o) → h'.get? S = some { cls := .type "list", dict := none, data := .seq acc' c', slots := #[] } →
      ItemsOf (ByteAt b) acc' b.size → R (.ok (.ret res)) { s with heap := h', toks := tk }) (hn : b.size ≤ sizeLine) :
    wpAny (model prog w) A.in1 (Builtin.List.listExtendWith (.ref S) (.bytes b t) res)
      (fun fin s' => match fin with | .done f => R (.ok f) s' | .again c' => c'.quiet = true ∧ codeAny (model prog w) A c' R s') (fun e s' => R (.error e) s') s := by
  have hSI : S ≠ s.heap.objs.size := Nat.ne_of_lt (Heap.lt_size hS)
  have hSf : S ∉ [s.heap.objs.size] := fun hm => hSI (List.mem_singleton.mp hm)
  unfold Builtin.List.listExtendWith
  refine wpAny_bind (wpAny_typeOf (T := "bytes") (v := .bytes b t) rfl ?_)
  have h1 : Builtin.List.listSameRef (.ref S) (.bytes b t) = false := rfl
  have h2 : (Value.type "bytes" == Value.type "list") = false := by decide
  have h3 : (Value.type "bytes" == Value.type "tuple") = false := by decide
  simp only [h1, h2, h3, Bool.or_false, Bool.false_eq_true, if_false]
  refine wpAny_bind (KBw.pyIter_bytes ?_)
  refine wpAny_bind (wpAny_holding ?_)
  unfold Builtin.List.listLengthHint
  refine wpAny_bind (wpAny_specialOf (T := "bytes") (v := .bytes b t) rfl bytes_len ?_)
  wp_delta
  refine wpAny_bind (wpAny_isInstance (T := "bytes") (v := .bytes b t) (b := true) rfl (by rw [isSubtype_type]; kernel_rfl) ?_)
  show wpAny _ _ (typeOf (Value.bytes b t) >>= _) _ _ _
  refine wpAny_bind (wpAny_typeOf (T := "bytes") (v := .bytes b t) rfl ?_)
  refine wpAny_pure ?_
  rw [if_neg (by decide)]
  have W := KBw.walks (prog := prog) (w := w) (A := A.in1) hh s.heap.objs.size b t
  refine wpAny_pure ⟨plainId_quiet PySem.F.plain_extend_loop _, codeAny_extend_loopS W.toS hn _ hSf _ b.size 0 _ _ _ rfl (Nat.zero_le _) ⟨_, Heap.get?_push_size _ rfl, rfl, rfl⟩ (Heap.get?_push_of_some _ hS) (ItemsOf.nil _) fun s' acc' c' hm hS' hacc => ?_⟩
  rw [Moved.eq_with hm]
  refine hR s'.heap s'.toks acc' c' (fun b ob hb e => hm.heap b ob (fun hmem => ?_) (Heap.get?_push_of_some _ e)) hS' hacc
  rcases List.mem_cons.mp hmem with e' | hmem
  · exact hb e'
  · exact absurd (Heap.lt_size e) (by rw [List.mem_singleton.mp hmem]; exact Nat.lt_irrefl _)
theorem init_bytes {R : Result → Shared → Prop} (hh : A.handled = none) (x : Array UInt8) (t : Tok) (S : Addr) (hS : s.heap.get? S = some { cls := .type "list", data := .seq #[] })
    (hR : ∀ h' tk acc' c', (∀ b o, b ≠ S → s.heap.get? b = some o → h'.get? b = some o) → h'.get? S = some { cls := .type "list", dict := none, data := .seq acc' c', slots := #[] } →
      ItemsOf (ByteAt x) acc' x.size → R (.ok (.ret .none)) { s with heap := h', toks := tk }) (hn : x.size ≤ sizeLine) :
    wpAny (model prog w) A.in1 (Builtin.«list.__init__» ⟨[.ref S, .bytes x t], []⟩)
      (fun fin s' => match fin with | .done f => R (.ok f) s' | .again c' => c'.quiet = true ∧ codeAny (model prog w) A c' R s') (fun e s' => R (.error e) s') s := by
  show wpAny _ _ (do let old ← Builtin.List.listItems (.ref S); Builtin.List.listUpdate (.ref S) (fun _ => #[]); letGo old.toList.reverse; Builtin.List.listExtendWith (.ref S) (.bytes x t) .none) _ _ s
  refine wpAny_bind ?_
  unfold Builtin.List.listItems
  refine wpAny_bind (wpAny_seqItems hS rfl (wpAny_pure ?_))
  show wpAny _ _ (updateSeq S (fun _ => #[]) >>= fun _ => letGo (#[] : Array Value).toList.reverse >>= fun _ => Builtin.List.listExtendWith (.ref S) (.bytes x t) .none) _ _ s
  refine wpAny_bind (wpAny_updateSeq hS rfl ?_)
  have hS₂ := Heap.get?_update_self (Obj.mapSeq (fun _ => (#[] : Array Value))) hS rfl
  have oth : ∀ b o, b ≠ S → s.heap.get? b = some o → (s.heap.update S (Obj.mapSeq (fun _ => (#[] : Array Value)))).get? b = some o :=
    fun b o hb e => (Heap.get?_update_other _ _ (Ne.symm hb)).trans e
  refine wpAny_bind (wpAny_letGo ?_)
  refine extend_bytes (hn := hn) hh x t S .none _ hS₂ fun h' tk acc' c' hk hS' hacc => ?_
  exact hR h' tk acc' c' (fun b o hb e => hk b o hb (oth b o hb e)) hS' hacc
theorem bytes_items {b : Array UInt8} {acc : Array Value} (h : ItemsOf (ByteAt b) acc b.size) : IntsAre acc.toList (KBw.bInts b) := by
  have key : ∀ (l : List UInt8) (vs : List Value), vs.length = l.length → (∀ (j : Nat) (v : Value), vs[j]? = some v → ∃ (c : UInt8) (u : Tok), l[j]? = some c ∧ v = Value.int (c.toNat : Int) u) → IntsAre vs (l.map fun c => (c.toNat : Int)) := by
    intro l
    induction l with
    | nil => intro vs hl _; obtain rfl : vs = [] := List.eq_nil_of_length_eq_zero hl; exact .nil
    | cons c l ih =>
      intro vs hl hv
      cases vs with
      | nil => simp at hl
      | cons v vs =>
        obtain ⟨c', u, hc, rfl⟩ := hv 0 v rfl
        obtain rfl : c = c' := by simpa using hc
        exact .cons _ _ (ih vs (by simpa using hl) fun j v hj => by simpa using hv (j + 1) v (by simpa using hj))
  exact key b.toList acc.toList (by simp [h.1]) fun j v hj => by simpa [ByteAt] using h.2 j v (by simpa using hj)
theorem list_bytes {Q : Value → Shared → Prop} (hh : A.handled = none) (x : Array UInt8) (t : Tok)
    (hQ : ∀ h' tk vs c', (∀ b o, s.heap.get? b = some o → h'.get? b = some o) →
      h'.get? s.heap.objs.size = some (W.listOf vs c') → IntsAre vs.toList (KBw.bInts x) → Q (.ref s.heap.objs.size) { s with heap := h', toks := tk }) (hn : x.size ≤ sizeLine) :
    wpAny (model prog w) A (call (.type "list") [.bytes x t]) Q E s := by
  refine callType_codes (Q₁ := fun obj s₁ => obj = .ref s.heap.objs.size ∧ s₁ = { s with heap := s.heap.push { cls := .type "list", data := .seq #[] } }) PySem.F.called_list (PySem.F.typeCall_list_1 _) PySem.F.entry_list_init
    (code_list_new _ ⟨rfl, rfl⟩) fun obj s₁ h₁ => ?_
  obtain ⟨rfl, rfl⟩ := h₁
  have hS : (s.heap.push { cls := .type "list", data := .seq #[] }).get? s.heap.objs.size = some { cls := .type "list", data := .seq #[] } := Heap.get?_push_size _ rfl
  refine ⟨⟨_, hS, rfl⟩, PySem.F.args_list_init_2 _ _, init_bytes (A := A.in1) (hn := hn) hh x t _ hS fun h' tk acc' c' hk hS' hacc => ?_⟩
  exact ⟨rfl, hQ h' tk acc' c' (fun b o e => hk b o (Nat.ne_of_lt (Heap.lt_size e)) (Heap.get?_push_of_some _ e)) hS' (bytes_items hacc)⟩
end
end
section
set_option maxHeartbeats 4000000
open PySem.W.X PySem.Calls PySem.Builtin
theorem str2_tree (b : Array UInt8) (t u : Tok) : «str.__new__» ⟨[.type "str", .bytes b t, .str (ofS "ascii") u], []⟩ = (do
    if !(← isType (.type "str")) then
      rule "str.__new__.cls-no-type"; raiseError "TypeError" s!"str.__new__(X): X is not a type object ({← typeNameOf (.type "str")})"
    if !(← isSubtype (.type "str") (.type "str")) then
      rule "str.__new__.cls-no-subtype"; raiseError "TypeError" s!"str.__new__({← typeName (.type "str")}): {← typeName (.type "str")} is not a subtype of str"
    let e ← mkStr (ofS "ascii")
    if ← isInstance (.bytes b t) (.type "bytes") then
      rule "str.__new__.decode-bytes"
      ret (← call (.builtin "bytes.decode") [.bytes b t] [(ofS "encoding", e)])
    else unsupported "x") := by
  kernel_rfl
theorem decAscii_tree (c : UInt8) (cs : List UInt8) (t u : Tok) : «bytes.decode» ⟨[.bytes (c :: cs).toArray t], [(ofS "encoding", .str (ofS "ascii") u)]⟩ =
    (mkStr (ofS "utf-8") >>= fun _ => mkStr (ofS "ascii") >>= fun e => mkStr (ofS "bytes.decode") >>= fun d => call (.builtin "_codecs.decode.text") [.bytes (c :: cs).toArray t, e, .none, d] >>= fun v => ret v) := by
  kernel_rfl
theorem road2_tree {id : String} (b : Array UInt8) : _codecs.decodeRoad id b (ofS "ascii") none [] = (_codecs.runDecoder id _codecs.asciiDecoder none true b 0 [] >>= fun r => mkStr ⟨r.1⟩) := by kernel_rfl
theorem args_obj3 (a b c : Value) : argsOk "object.__init__" ⟨[a, b, c], []⟩ := by unfold argsOk; kernel_rfl
theorem args_dec (a u : Value) : argsOk "bytes.decode" ⟨[a], [(ofS "encoding", u)]⟩ := by unfold argsOk; kernel_rfl
theorem typeCall_str2 (a b : Value) : checkTypeCall "str" ⟨[a, b], []⟩ = pure () := by kernel_rfl
theorem newCall_str2 (a b : Value) : checkBuiltinCall "str.__new__" ⟨[.type "str", a, b], []⟩ = pure () := by kernel_rfl
section
variable {prog : Program} {w : World} {A : Around} {E : Value → Shared → Prop} {s : Shared}
theorem textAscii {Q : Value → Shared → Prop} {b : Array UInt8} {t t1 t2 : Tok} {d : PySem.Str} (hb : ∀ x ∈ b.toList, x.toNat < 128) (hz : b.size ≤ 1000) (h : ∀ t' k, Q (.str (tx (natsOf b)) t') { s with toks := k }) :
    wpAny (model prog w) A (call (.builtin "_codecs.decode.text") [.bytes b t, .str (ofS "ascii") t1, .none, .str d t2]) Q E s := by
  refine call_function_meets KBd.kind_text KBd.plain_text KBd.entry_text (KBd.args_text _ _ _ _) (S := fun _ R s => R (.ok (.ret (.str (tx (natsOf b)) s.toks))) { s with toks := s.toks + 1 }) (.of_wp fun prog w A R s hS => ?_) (h _ _)
  show wpAny _ _ (Bytes.bytesLike _ (.bytes b t) >>= fun r => _) _ _ s
  refine wpAny_bind (wpAny_of_eq KBd.like_eq ?_)
  refine wpAny_bind (wpAny_of_eq KBd.held_eq ?_)
  show wpAny _ _ (_codecs.decodeRoad _ b (ofS "ascii") none [] >>= fun v => _) _ _ s
  rw [road2_tree, dec_eq _ b hb (by rw [sizeLine_eq]; omega)]
  refine wpAny_bind (wpAny_bind (wpAny_pure ?_))
  exact wpAny_mkStr (wpAny_pure ⟨_, rfl, hS⟩) (by show (natsOf b).toArray.size ≤ _; rw [List.size_toArray, natsOf, List.length_map, Array.length_toList, sizeLine_eq]; omega)
theorem decAscii {Q : Value → Shared → Prop} {b : Array UInt8} {t u : Tok} (h0 : b.size ≠ 0) (hb : ∀ x ∈ b.toList, x.toNat < 128) (hz : b.size ≤ 1000) (h : ∀ t' k, Q (.str (tx (natsOf b)) t') { s with toks := k }) :
    wpAny (model prog w) A (call (.builtin "bytes.decode") [.bytes b t] [(ofS "encoding", .str (ofS "ascii") u)]) Q E s := by
  obtain ⟨l⟩ := b
  cases l with
  | nil => exact absurd rfl h0
  | cons c cs =>
    refine wpAny_call_entry_kw FB.slot_bytes_decode (typeIs_bytes _ _ _) FB.entry_bytes_decode ?_ (args_dec _ _)
    rw [show (Array.mk (c :: cs)) = (c :: cs).toArray from rfl, decAscii_tree]
    refine wpAny_bind (wpAny_mkStr ?_ (by decide))
    refine wpAny_bind (wpAny_mkStr ?_ (by decide))
    refine wpAny_bind (wpAny_mkStr ?_ (by decide))
    exact wpAny_bind (textAscii hb hz fun t' k => wpAny_pure ⟨_, rfl, h _ _⟩)
theorem str_ascii {Q : Value → Shared → Prop} {b : Array UInt8} {t u : Tok} (h0 : b.size ≠ 0) (hb : ∀ x ∈ b.toList, x.toNat < 128) (hz : b.size ≤ 1000) (h : ∀ t' k, Q (.str (tx (natsOf b)) t') { s with toks := k }) :
    wpAny (model prog w) A (call (.type "str") [.bytes b t, .str (ofS "ascii") u]) Q E s := by
  refine callType_new PySem.F.called_str (by decide) (typeCall_str2 _ _) (newCall_str2 _ _) (fun obj => args_obj3 obj _ _) PySem.F.entry_str_new
    (S := fun _ R s => ∀ t' k, R (.ok (.ret (.str (tx (natsOf b)) t'))) { s with toks := k }) (.of_wp fun prog w A R s hS => ?_) (fun t' k => ⟨typeIs_str _ _ _, h t' k⟩)
  rw [str2_tree]
  refine wpAny_bind (wpAny_pure ?_)
  refine wpAny_bind (wpAny_of_eq isSubtype_str_str ?_)
  refine wpAny_bind (wpAny_mkStr ?_ (by decide))
  refine wpAny_bind (wpAny_isInstance (T := "bytes") (b := true) (typeIs_bytes _ _ _) (by rw [isSubtype_type]; kernel_rfl) ?_)
  refine wpAny_bind (wpAny_rule ?_)
  exact wpAny_bind (decAscii h0 hb hz fun t' k => wpAny_pure ⟨_, rfl, hS _ _⟩)
end
end
section
set_option maxHeartbeats 8000000
open PySem.Calls
theorem fill_six : kk = kk ∧ PySem.Challenge.rw_kq0052_01 = PySem.Challenge.rw_kq0052_01 := by
  k_fill
  exact ⟨rfl, rfl⟩
local macro_rules | `(tactic| walk_at "eval Name") => `(tactic| ((with_reducible show wpAny _ _ (eval (Expr.Name _ _) (envX _ _ _ _ _ _)) _ _ _); refine name_cellX (by with_unfolding_all rfl) (by assumption) (by with_unfolding_all rfl) (by with_unfolding_all rfl) (by decide +kernel) ?_))
local macro_rules | `(tactic| walk_at "exec For Name BinOp cons nil") => `(tactic| (with_reducible refine st7 ?_))
noncomputable def sixT : List Nat := [65, 66, 67, 68, 69, 70, 71, 72, 73, 74, 75, 76, 77, 78, 79, 80, 81, 82, 83, 84, 85, 86, 87, 88, 89, 90, 97, 98, 99, 100, 101, 102, 103, 104, 105, 106, 107, 108, 109, 110, 111, 112, 113, 114, 115, 116, 117, 118, 119, 120, 121, 122, 48, 49, 50, 51, 52, 53, 54, 55, 56, 57, 43, 47]
theorem mul_eq (k : Int) (h0 : 0 ≤ k) (h1 : k < 3) : Txt.mul (PySem.Str.ofString "=") k = tx (List.replicate k.toNat 61) := by
  have : k = 0 ∨ k = 1 ∨ k = 2 := by lia
  rcases this with rfl | rfl | rfl <;> decide +kernel
noncomputable def sixL (i : Nat) : Nat := sixT.getD i 0
noncomputable def sixesOf (ns : List Int) : List Nat :=
  let size := (-(ns.length : Int)).fmod 3
  let N0 := List.foldl (fun x y : Int => x * 256 + y) 0 (ns ++ (List.replicate size.toNat [(0 : Int)]).flatten)
  let many := ((ns.length : Int) + size).fdiv 3 * 4
  (((List.range (many - size).toNat).map fun (i : Nat) => many - 1 + (i : Int) * (-1)).map fun n => [sixL ((N0.fdiv (64 ^ n.toNat)).fmod 64).toNat]).flatten ++ List.replicate size.toNat 61
theorem six_tx : PySem.Str.ofString "ABCDEFGHIJKLMNOPQRSTUVWXYZabcdefghijklmnopqrstuvwxyz0123456789+/" = tx sixT := by decide +kernel
theorem letters_eq : Str.ofString "ABCDEFGHIJKLMNOPQRSTUVWXYZabcdefghijklmnopqrstuvwxyz0123456789" ++ ofS "+/" = Str.ofString "ABCDEFGHIJKLMNOPQRSTUVWXYZabcdefghijklmnopqrstuvwxyz0123456789+/" := by kernel_rfl
theorem item_six (i : Int) (h0 : 0 ≤ i) (h1 : i < 64) : Txt.item (PySem.Str.ofString "ABCDEFGHIJKLMNOPQRSTUVWXYZabcdefghijklmnopqrstuvwxyz0123456789+/") i = tx [sixL i.toNat] := by
  rw [six_tx, item_tx _ i h0 (by simpa [sixT] using h1)]
  rfl
theorem six_log {k : Int} (h : k < 68) : ((64 : Int) ^ k.toNat).natAbs.log2 < 9000 := by
  rw [Int.natAbs_pow, Nat.log2_lt (Nat.ne_of_gt (Nat.pow_pos (by decide)))]
  rw [show Int.natAbs 64 = 2 ^ 6 from rfl, ← Nat.pow_mul]
  exact Nat.pow_lt_pow_right (by decide) (by lia)
section
variable {prog : Program} {w : World} {A : Around} {E : Value → Shared → Prop} {s : Shared} {Q : Value → Shared → Prop}
theorem sub_six {value slice : Expr} {t u : Tok} {i : Int} (h0 : 0 ≤ i) (h1 : i < 64) (h : Q (.str (tx [sixL i.toNat]) s.toks) { s with toks := s.toks + 1 })
    (hs : subscripted slice false (.str (PySem.Str.ofString "ABCDEFGHIJKLMNOPQRSTUVWXYZabcdefghijklmnopqrstuvwxyz0123456789+/") t) (.int i u) = operate [.str (PySem.Str.ofString "ABCDEFGHIJKLMNOPQRSTUVWXYZabcdefghijklmnopqrstuvwxyz0123456789+/") t, .int i u] (getItem (.str (PySem.Str.ofString "ABCDEFGHIJKLMNOPQRSTUVWXYZabcdefghijklmnopqrstuvwxyz0123456789+/") t) (.int i u)))
    (ht : ∀ r, letTemporaryGo value (.str (PySem.Str.ofString "ABCDEFGHIJKLMNOPQRSTUVWXYZabcdefghijklmnopqrstuvwxyz0123456789+/") t) r = pure ()) :
    wpAny (model prog w) A (subscriptTail value slice (.str (PySem.Str.ofString "ABCDEFGHIJKLMNOPQRSTUVWXYZabcdefghijklmnopqrstuvwxyz0123456789+/") t) (.int i u)) Q E s := by
  have hl : (PySem.Str.ofString "ABCDEFGHIJKLMNOPQRSTUVWXYZabcdefghijklmnopqrstuvwxyz0123456789+/").length = 64 := by rw [six_tx]; decide +kernel
  refine item_str (fitsSsize_of (N := 9223372036854775808) (Int.lt_of_lt_of_le (by decide) h0) (Int.lt_trans h1 (by decide)) (Int.le_refl _)) (by rw [hl]; exact Int.le_trans (by decide) h0) (by rw [hl]; exact h1) (fun _ => ?_) hs ht
  rw [item_six i h0 h1]; exact h
end
theorem sixes_spec (w : World) (a : Addr) (t2 : Tok) (vs : List Value) (ns : List Int) (hi : IntsAre vs ns) (hn : ns.length ≤ 48) : SpecS w 189 [.ref a, .str (ofS "+/") t2] 320 3200 (fun h => h.IsList a vs.toArray) (fun h v h' => ∃ t', v = .str (tx (sixesOf ns)) t') := by
  revert w a t2 vs ns
  (refine pk5 (i1 := nW) ?_; generalize p5_1 _ = w; generalize p5_2 _ = a; generalize p5_3 _ = t2; generalize p5_4 _ = vs; generalize p5_5 _ = ns)
  intro hi hn
  (refine pk6 ?_; generalize p6_1 _ = mean; generalize p6_2 _ = mg; generalize p6_3 _ = mb; generalize p6_4 _ = dp; generalize p6_5 _ = un; generalize p6_6 _ = fr); (refine pk4 (i2 := nS) ?_; generalize p4_1 _ = gd; generalize p4_2 _ = s; generalize p4_3 _ = Q; generalize p4_4 _ = E)
  intro X T hd hu hP hret
  k_dflt (refine' enter0C (binds := [(ofS "octets", .ref a), (ofS "two", .str (ofS "+/") t2)]) X T ?k6 ?k7 ?k8 ?kB ?k9 ?c5 ?c2 ?c3 ?c4 ?_; (case k6 => k_is); (case k7 => k_is); (case k8 => (show dp < _; unfold recursionLimit; lia)); (case kB => kernel_rfl); (case k9 => kernel_rfl); (case c5 => decide +kernel); (case c2 => kernel_rfl); (case c3 => kernel_rfl); (case c4 => kernel_rfl))
  (refine pk4 ?_; generalize p4_1 _ = L'; generalize p4_2 _ = h₁; generalize p4_3 _ = tk; generalize p4_4 _ = cells)
  intro F N Y
  first
    | (replace Y : CellsAre _ [(ofS "number", L' + 2), (ofS "letters", L' + 1)] cells := Y; skip)
    | (replace Y : CellsAre _ [(ofS "letters", L' + 2), (ofS "number", L' + 1)] cells := Y; skip)
  obtain ⟨o1, o2, rfl, hc1, hc2⟩ := Y.two
  clear Y
  refine hide_ret ?_
  (refine pk1 ?_; generalize p1_1 _ = Qh)
  intro hQh
  k_steps
  rename Fr _ _ _ _ => Fz
  rename_i tL kN aLen h7 oL dL D2 h6 l3 h5 h4 oN dN h3 hNx
  clear hc1 hc2
  show wpAny _ _ (exec (Stmt.For _ _ _ _ _) _) _ _ _
  refine For_invVF Fz rfl rfl ?_
  k_steps
  show wpAny _ _ (pyIter (.ref _)) _ _ _
  rename Fr _ _ _ _ => F1
  rename News _ _ _ _ => N1
  rename IntsAre _ (_ ++ _) => hI1
  rename_i D1 ws1 hx1 lx1
  obtain ⟨all, hall⟩ : ∃ all, ns ++ (List.replicate ((-(ns.length : Int)).fmod 3).toNat [(0 : Int)]).flatten = all := ⟨_, rfl⟩
  rw [hall] at hI1
  have N2 : News s.heap L' hx1 [(D1, W.listOf ws1.toArray 0), (L' + 1 + 1, oN), (L' + 1, oL)] := fun p hp => N1 p (by
    simp only [List.mem_cons, List.not_mem_nil, or_false] at hp ⊢
    rcases hp with h | h | h <;> simp [h])
  clear N1
  refine iter_invNL (nn := 0) (fun i m nx => (∃ t, m (ofS "size") = some (.int ((-(ns.length : Int)).fmod 3) t)) ∧ m (ofS "octets") = some (.ref a) ∧ ∃ oN t, nx = [(D1, W.listOf ws1.toArray 0), (L' + 1 + 1, oN), (L' + 1, oL)] ∧ oN.data = .cell (some (.int ((all.take i).foldl (fun x y => x * 256 + y) 0) t))) rfl (.head _) hI1 F1 N2 ?hJ ?turn ?done
  case hJ => exact ⟨⟨_, rfl⟩, rfl, oN, _, rfl, dN⟩
  case turn =>
    rintro i n t m₁ news₁ h tk own hni hadr hoff hmem ⟨⟨t9, hm⟩, hmo, oN', tn, rfl, dN'⟩ F₁ N₁
    replace F₁ : Fr s.heap L' h _ := F₁
    replace N₁ : News s.heap L' h _ := N₁
    k_steps
    rename Fr _ _ _ _ => Fe
    rename News _ _ _ _ => Ne
    rename_i oE dE
    refine InvEndN.intro Fe Ne (nx := [(D1, W.listOf ws1.toArray 0), (L' + 1 + 1, oE), (L' + 1, oL)]) ?j rfl ?n ?o
    case j =>
      have e : List.foldl (fun x y : Int => x * 256 + y) 0 (List.take (i + 1) all) = List.foldl (fun x y : Int => x * 256 + y) 0 (List.take i all) * 256 + n := by
        rw [List.take_add_one, hni, Option.toList_some, List.foldl_append]; rfl
      rw [← e] at dE
      exact ⟨.head _, ⟨t9, hm⟩, hmo, oE, _, rfl, dE⟩
    case n =>
      intro p hp
      simp only [List.mem_cons, List.not_mem_nil, or_false] at hp
      rcases hp with rfl | rfl | rfl
      · exact .head _
      · exact .tail _ (.head _)
      · exact .tail _ (.tail _ (.head _))
    case o => exact fun p hp => .tail _ (.tail _ (List.mem_append_right _ hp))
  case done =>
    rintro m₁ news₁ h tk hmem ⟨⟨t9, hm⟩, hmo, oN', tn, rfl, dN'⟩ F₁ N₁
    replace F₁ : Fr s.heap L' h _ := F₁
    replace N₁ : News s.heap L' h _ := N₁
    rw [List.take_length] at dN'
    have F₂ : Fr s.heap L' h _ := fr_known F₁ hm
    replace F₂ : Fr s.heap L' h _ := fr_known F₂ (z := ofS "octets") (v := .ref a) (by rw [if_neg (by decide +kernel)]; exact hmo)
    clear F₁
    have hsz0 : 0 ≤ (-(ns.length : Int)).fmod 3 ∧ (-(ns.length : Int)).fmod 3 < 3 := ⟨Int.fmod_nonneg_of_pos _ (by decide), Int.fmod_lt_of_pos _ (by decide)⟩
    obtain ⟨size, hsize⟩ : ∃ z, (-(ns.length : Int)).fmod 3 = z := ⟨_, rfl⟩
    rw [hsize] at hsz0 F₂
    obtain ⟨N0, hN0⟩ : ∃ z, List.foldl (fun x y : Int => x * 256 + y) 0 all = z := ⟨_, rfl⟩
    rw [hN0] at dN'
    have hcN : h.IsCell (L' + 1 + 1) (some (.int N0 tn)) := ⟨oN', (N₁ _ (.tail _ (.head _))).1, dN'⟩
    have hcL : h.IsCell (L' + 1) (some (.str _ tL)) := ⟨oL, (N₁ _ (.tail _ (.tail _ (.head _)))).1, dL⟩
    show wpAny _ _ _ _ _ _
    k_steps
    rename Fr _ _ _ _ => F5
    rename News _ _ _ _ => N5
    obtain ⟨many, hmany⟩ : ∃ z, ((ns.length : Int) + size).fdiv 3 * 4 = z := ⟨_, rfl⟩
    rw [hmany] at F5
    have hm68 : size ≤ many ∧ many ≤ 68 ∧ 0 ≤ many := by
      rw [← hmany]
      have e1 : ((ns.length : Int) + size).fdiv 3 = ((ns.length : Int) + size) / 3 := Int.fdiv_eq_ediv_of_nonneg _ (by decide)
      have e2 : (-(ns.length : Int)).fmod 3 = (-(ns.length : Int)) % 3 := Int.fmod_eq_emod_of_nonneg _ (by decide)
      rw [e1]; rw [e2] at hsize; lia
    have hsm := KIN.Hid.mk (And.intro hsize hmany)
    clear hsize hmany
    first
      | refine comp_rule (fun _ => true) (fun v y os => os = [] ∧ ∃ n t t', v = .int n t ∧ y = .str (tx [sixL ((N0.fdiv (64 ^ n.toNat)).fmod 64).toNat]) t') (cl := [(ofS "number", L' + 2), (ofS "letters", L' + 1)]) (by kernel_rfl) (by decide +kernel) rfl (by decide +kernel) (by decide +kernel) ?_ (fun _ => by kernel_rfl)
      | refine comp_rule (fun _ => true) (fun v y os => os = [] ∧ ∃ n t t', v = .int n t ∧ y = .str (tx [sixL ((N0.fdiv (64 ^ n.toNat)).fmod 64).toNat]) t') (cl := [(ofS "letters", L' + 1), (ofS "number", L' + 2)]) (by kernel_rfl) (by decide +kernel) rfl (by decide +kernel) (by decide +kernel) ?_ (fun _ => by kernel_rfl)
    k_steps
    rename IsRange _ _ _ _ _ _ _ _ => hr
    rename Fr _ _ _ _ => F6
    rename News _ _ _ _ => N6
    have hcN6 : Heap.IsCell _ (L' + 1 + 1) (some (.int N0 tn)) := ⟨oN', (N6 _ (.tail _ (.head _))).1, dN'⟩
    have hcL6 : Heap.IsCell _ (L' + 1) (some (.str _ tL)) := ⟨oL, (N6 _ (.tail _ (.tail _ (.head _)))).1, dL⟩
    clear hcN hcL
    show wpAny _ _ (pyIter _) _ _ _
    have hrs : PySem.Builtin.Range.rangeSize (many - 1) (size - 1) (-1) = ((many - size).toNat : Int) := by
      rw [rangeSize_downNat]; congr 2; lia
    refine comp_range rfl (many - size).toNat hr ?hsm hrs (by rw [sizeLine_eq]; lia) ?ht ?he ?hq
    case hsm => exact small_down (by lia) (by lia) (by lia) (by lia)
    case ht => exact fun C i v t s₃ m₃ E' hi e Fc hm => wpAny_pure ⟨rfl, _, _, rfl, fun _ _ e => e⟩
    case he =>
      intro C i v t s₃ m₃ E' hi e _ Fc hm
      obtain ⟨k, hk⟩ : ∃ k, many - 1 + (i : Int) * (-1) = k := ⟨_, rfl⟩
      rw [hk] at e
      have hk0 : 0 ≤ k ∧ k < 68 := by have hi' := Int.lt_toNat.mp hi; clear hi; lia
      have hcN7 := hcN6.keeps Fc.keep
      have hcL7 := hcL6.keeps Fc.keep
      clear hret hcN6 hcL6 F6 N6 hr
      subst e
      have hP0 : (0 : Int) < 64 ^ k.toNat := Int.pow_pos (by decide)
      k_steps
      refine floordiv_int (Int.ne_of_gt hP0) ?_ (.inl (PyProof.noPylong_of_log2 (six_log hk0.2)))
      k_steps
      (try rw [letters_eq])
      rw [item_six _ (Int.fmod_nonneg_of_pos _ (by decide)) (Int.fmod_lt_of_pos _ (by decide))]
      exact ⟨⟨[], ⟨rfl, k, t, _, rfl, rfl⟩, fun _ h => (nomatch h), fun _ h => (nomatch h)⟩, _, _, rfl, fun _ _ e => e⟩
    case hq =>
      intro D n' h' tk vs zs hD hl hv hz hok hoff hg
      replace hg : Grow _ h' := hg
      rw [filter_all] at hz
      have F7 := F6.after hg
      have N7 := News.grown N6 hg
      clear F6 N6
      k_steps
      show wpAny _ _ (call (.builtin "str.join") [.str (ofS "") _, .ref D]) _ _ _
      refine join_listC (ys := ((List.range (many - size).toNat).map fun (i : Nat) => many - 1 + (i : Int) * (-1)).map fun n => tx [sixL ((N0.fdiv (64 ^ n.toNat)).fmod 64).toNat]) ⟨_, hl, rfl, n', rfl⟩ (zs_texts hok hz hv) (by decide +kernel) ?_ ?_
      · simp only [List.map_map, Function.comp_def, tx_len, List.length_cons, List.length_nil, List.map_const', List.length_map, List.sum_replicate_nat, List.length_range]; lia
      · intro t' k
        rw [nil_tx, show (((List.range (many - size).toNat).map fun (i : Nat) => many - 1 + (i : Int) * (-1)).map fun n => tx [sixL ((N0.fdiv (64 ^ n.toNat)).fmod 64).toNat]) = (((List.range (many - size).toNat).map fun (i : Nat) => many - 1 + (i : Int) * (-1)).map fun n => [sixL ((N0.fdiv (64 ^ n.toNat)).fmod 64).toNat]).map tx from (List.map_map (f := fun n : Int => [sixL ((N0.fdiv (64 ^ n.toNat)).fmod 64).toNat]) (g := tx)).symm, join_tx]
        obtain ⟨bd, hbd⟩ : ∃ z, (((List.range (many - size).toNat).map fun (i : Nat) => many - 1 + (i : Int) * (-1)).map fun n => [sixL ((N0.fdiv (64 ^ n.toNat)).fmod 64).toNat]).flatten = z := ⟨_, rfl⟩
        rw [hbd]
        have hbl : bd.length ≤ 68 := by
          rw [← hbd, List.length_flatten]
          simp only [List.map_map, Function.comp_def, List.length_cons, List.length_nil, List.map_const', List.length_map, List.sum_replicate_nat, List.length_range]; lia
        have hbl2 : (tx bd).length ≤ 68 := hbl
        k_steps
        rename Fr _ _ _ _ => Fz
        rw [mul_eq size hsz0.1 hsz0.2, tx_app]
        refine hQh _ _ ?_
        refine hret _ _ _ Fz.keep ⟨_, congrArg (Value.str · _) (congrArg tx ?_)⟩
        have hsize := hsm.out.1
        have hmany := hsm.out.2
        unfold sixesOf
        dsimp only
        rw [hsize] at hall
        rw [hsize, hall, hN0, hmany, hbd]
end
section
set_option maxHeartbeats 8000000
open PySem.Calls
theorem or_sum {x b : Int} (k : Nat) (hx : 0 ≤ x) (h0 : 0 ≤ b) (h1 : b < 2 ^ k) : Builtin.bitOr (x * 2 ^ k) b = x * 2 ^ k + b := by
  have hp : (0 : Int) < 2 ^ k := kbt_pos k
  have hxp : 0 ≤ x * 2 ^ k := Int.mul_nonneg hx (Int.le_of_lt hp)
  unfold Builtin.bitOr
  have e1 : ∀ z : Int, Builtin.bitNot (Builtin.bitNot z) = z := by intro z; unfold Builtin.bitNot; lia
  have e2 : ¬ 0 ≤ Builtin.bitNot (x * 2 ^ k) := by unfold Builtin.bitNot; lia
  have e3 : ¬ 0 ≤ Builtin.bitNot b := by unfold Builtin.bitNot; lia
  rw [bitAnd_nn e2 e3, e1, e1, e1]
  have hc := kbt_cast k
  have hb : b.toNat < 2 ^ k := by lia
  have ha : (x * 2 ^ k).toNat = 2 ^ k * x.toNat := by
    have : x * 2 ^ k = ((x.toNat * 2 ^ k : Nat) : Int) := by rw [Int.natCast_mul, Int.toNat_of_nonneg hx, kbt_cast]
    rw [this, Int.toNat_natCast, Nat.mul_comm]
  rw [ha, ← Nat.two_pow_add_eq_or_of_lt hb, Int.natCast_add, ← ha, Int.toNat_of_nonneg hxp, Int.toNat_of_nonneg h0]
theorem mI (y : Int) {k : Int} (h : 0 < k := by decide) : 0 ≤ y % k ∧ y % k < k := ⟨Int.emod_nonneg y (Int.ne_of_gt h), Int.emod_lt_of_pos y h⟩
theorem mlt (y : Int) {k p : Int} (h : 0 < k := by decide) (hp : k ≤ p := by decide) : y % k < p := Int.lt_of_lt_of_le (mI y h).2 hp
theorem mml (y : Int) {k q p : Int} (h : 0 < k := by decide) (hq : 0 < q := by decide) (hp : k * q = p := by decide) : 0 ≤ y % k * q ∧ y % k * q < p := ⟨Int.mul_nonneg (mI y h).1 (Int.le_of_lt hq), hp ▸ Int.mul_lt_mul_of_pos_right (mI y h).2 hq⟩
section
variable {w : World} {A : Around} {s : Shared} {Q E : Value → Shared → Prop} {a b : Int} {t u : Tok}
theorem and_lit (k : Nat) {m p : Int} (hm : m = 2 ^ k - 1) (hp : p = 2 ^ k) (h : Q (.int (a % p) s.toks) { s with toks := s.toks + 1 }) : wpAny (model pw w) A (binaryOp .BitAnd (.int a t) (.int m u)) Q E s := by
  subst hm
  subst hp
  refine and_int ?_
  rw [kbt_mask]
  exact h
theorem or_lit (k : Nat) {p : Int} (hp : p = 2 ^ k) (hx : 0 ≤ a) (h0 : 0 ≤ b) (h1 : b < p) (h : Q (.int (a * p + b) s.toks) { s with toks := s.toks + 1 }) : wpAny (model pw w) A (binaryOp .BitOr (.int (a * p) t) (.int b u)) Q E s := by
  subst hp
  refine or_int ?_
  rw [or_sum k hx h0 h1]
  exact h
theorem shl_lit (k : Nat) {n p : Int} (hn : n = (k : Int)) (hp : p = 2 ^ k) (h0 : 0 ≤ a) (h1 : a < 65536) (hk : (k : Int) ≤ 1000000) (h : Q (.int (a * p) s.toks) { s with toks := s.toks + 1 }) : wpAny (model pw w) A (binaryOp .LShift (.int a t) (.int n u)) Q E s := by
  subst hn
  subst hp
  exact lshift_int_small (by lia) hk (by lia) h
theorem shr_lit (k : Nat) {n p : Int} (hn : n = (k : Int)) (hp : p = 2 ^ k) (h : Q (.int (a / p) s.toks) { s with toks := s.toks + 1 }) : wpAny (model pw w) A (binaryOp .RShift (.int a t) (.int n u)) Q E s := by
  subst hn
  subst hp
  refine rshift_int (by lia) ?_
  rw [Int.fdiv_eq_ediv_of_nonneg _ (Int.le_of_lt (kbt_pos _))]
  exact h
end
noncomputable def b64L : List UInt8 := [65, 66, 67, 68, 69, 70, 71, 72, 73, 74, 75, 76, 77, 78, 79, 80, 81, 82, 83, 84, 85, 86, 87, 88, 89, 90, 97, 98, 99, 100, 101, 102, 103, 104, 105, 106, 107, 108, 109, 110, 111, 112, 113, 114, 115, 116, 117, 118, 119, 120, 121, 122, 48, 49, 50, 51, 52, 53, 54, 55, 56, 57, 43, 47]
noncomputable def b64ch (i : Int) : Int := ((b64L.getD i.toNat 0).toNat : Int)
theorem b64ch_in (i : Int) : 0 ≤ b64ch i ∧ b64ch i < 256 := by
  unfold b64ch
  have := (b64L.getD i.toNat 0).toNat_lt
  lia
theorem item_b64 {w : World} {A : Around} {s : Shared} {Q E : Value → Shared → Prop} {value slice : PySem.Expr} {t ui : Tok} {i : Int} (h0 : 0 ≤ i) (h1 : i < 64) (h : ∀ v, v = b64ch i → 0 ≤ v → v < 256 → Q (.int v s.toks) { s with toks := s.toks + 1 })
    (hs : subscripted slice false (.bytes b64L.toArray t) (.int i ui) = operate [.bytes b64L.toArray t, .int i ui] (getItem (.bytes b64L.toArray t) (.int i ui)) := by with_unfolding_all rfl)
    (ht : ∀ r, letTemporaryGo value (.bytes b64L.toArray t) r = pure () := by intro _; with_unfolding_all rfl) :
    wpAny (model pw w) A (subscriptTail value slice (.bytes b64L.toArray t) (.int i ui)) Q E s :=
  KBy.item_N (by decide) h0 (by show i < 64; exact h1) (h _ rfl (b64ch_in i).1 (b64ch_in i).2) hs ht
end
local macro_rules | `(tactic| walk_at "binaryOp BitAnd int int") => `(tactic| first
  | refine and_lit 16 (p := 65536) (by decide) (by decide) ?_
  | refine and_lit 6 (p := 64) (by decide) (by decide) ?_
  | refine and_lit 4 (p := 16) (by decide) (by decide) ?_
  | refine and_lit 2 (p := 4) (by decide) (by decide) ?_)
local macro_rules | `(tactic| walk_at "binaryOp BitOr int int") => `(tactic| first
  | refine or_lit 8 (p := 256) (by decide) (by walk_at "lI") (by walk_at "lI") (by walk_at "lI") ?_
  | refine or_lit 2 (p := 4) (by decide) (by walk_at "lI") (by walk_at "lI") (by walk_at "lI") ?_
  | refine or_lit 4 (p := 16) (by decide) (by walk_at "lI") (by walk_at "lI") (by walk_at "lI") ?_
  | refine or_lit 6 (p := 64) (by decide) (by walk_at "lI") (by walk_at "lI") (by walk_at "lI") ?_)
local macro_rules | `(tactic| walk_at "binaryOp LShift int int") => `(tactic| first
  | refine shl_lit 8 (p := 256) (by decide) (by decide) (by walk_at "lI") (by walk_at "lI") (by decide) ?_
  | refine shl_lit 2 (p := 4) (by decide) (by decide) (by walk_at "lI") (by walk_at "lI") (by decide) ?_
  | refine shl_lit 4 (p := 16) (by decide) (by decide) (by walk_at "lI") (by walk_at "lI") (by decide) ?_
  | refine shl_lit 6 (p := 64) (by decide) (by decide) (by walk_at "lI") (by walk_at "lI") (by decide) ?_)
local macro_rules | `(tactic| walk_at "binaryOp RShift int int") => `(tactic| first
  | refine shr_lit 2 (p := 4) (by decide) (by decide) ?_
  | refine shr_lit 4 (p := 16) (by decide) (by decide) ?_
  | refine shr_lit 6 (p := 64) (by decide) (by decide) ?_
  | refine shr_lit 0 (p := 1) (by decide) (by decide) ?_)
section
set_option maxHeartbeats 8000000
open PySem.Calls
theorem fill_bb : kk = kk ∧ PySem.Challenge.rw_kq0052_01 = PySem.Challenge.rw_kq0052_01 := by
  k_fill
  exact ⟨rfl, rfl⟩
local macro_rules | `(tactic| walk_at "pyIter bytes") => `(tactic| (with_reducible refine st10 ?_))
theorem enterK {w : World} {mean : ExcName → Option Value} {mg mb : PySem.Str → Option Value} {A : Around} {s : Shared} {Q E : Value → Shared → Prop} {f : Addr} {vs : List Value} {kws : List (PySem.Str × Value)}
    {name qual : PySem.Str} {params : Arguments} {body : List Stmt} {scope : Scope} {cl : List (PySem.Str × Addr)} {dV kV doc pm cdv ct oc : Value} {an od : Option Addr} {osl : Array (Option Value)} {binds : List (PySem.Str × Value)}
    (X : (kk w.params).In s.heap) (T : Top topProg LO mean mg mb s.heap)
    (ho : (kk w.params).lookup f = some ⟨oc, od, .func (fnX name qual params body scope cl dV kV doc pm an cdv ct), osl⟩) (hcd : codeIn (kk w.params) cdv qual = true) (hroom : A.depth < recursionLimit)
    (hbind : BindsTo s (fnX name qual params body scope cl dV kV doc pm an cdv ct) ⟨vs, kws⟩ binds) (hloc : ∀ y ∈ binds, scope.names.lookup y.1 = some .local)
    (hcell : ∀ x ∈ scope.names, x.2 ≠ .cell) (hco : scope.isCoroutine = false) (hgen : scope.isGenerator = false) (hk : scope.kind = .function)
    (h : ∀ L' h₁, Fr s.heap L' h₁ (fun y => binds.reverse.lookup y) → News s.heap L' h₁ [] →
      wpAny (model pw w) (A.deeper (envX qual scope L' f cdv cl)) (execs body (envX qual scope L' f cdv cl))
        (fun fl s' => Q (match fl with | .ret v => v | _ => .none) s')
        (fun e s' => wpAny (model pw w) (A.deeper (envX qual scope L' f cdv cl)) (leaving (envX qual scope L' f cdv cl) e) (fun _ s'' => E e s'') (fun e' s'' => E e' s'') s')
        { s with heap := h₁, toks := s.toks + binds.length }) :
    wpAny (model pw w) A (call (.ref f) vs kws) Q E s :=
  wpAny_call (codeAny_call_def (fd := fnX name qual params body scope cl dV kV doc pm an cdv ct) (body := body) (binds := binds) hroom (X _ _ ho) rfl T.nolimit (codeRec_of X hcd) rfl hbind hcell hloc
    (fun h₁ hns hk₁ => h s.heap.objs.size h₁ ⟨hns, hk₁, Nat.le_refl _⟩ fun _ hp => nomatch hp) hco hgen hk)
def SpecK (w : World) (f : Addr) (vs : List Value) (kws : List (PySem.Str × Value)) (D U : Nat) (P : Heap → Prop) (R : Heap → Value → Heap → Prop) : Prop :=
  ∀ (mean : ExcName → Option Value) (mg mb : PySem.Str → Option Value) (dp un : Nat) (fr : Option (List Env)) (gd : Option (List Code)) (s : Shared) (Q E : Value → Shared → Prop),
    (kk w.params).In s.heap → Top topProg LO mean mg mb s.heap → dp ≤ D → un ≤ U → P s.heap →
    (∀ v h' tk', Grow s.heap h' → R s.heap v h' → Q v { s with heap := h', toks := tk' }) →
    wpAny (model pw w) (AA dp un fr gd) (call (.ref f) vs kws) Q E s

noncomputable def encStep (c : Int × Int × List Int) (b : Int) : Int × Int × List Int :=
  if c.2.1 = 0 then ((c.1 * 256 + b) % 65536, 2, c.2.2 ++ [b64ch ((c.1 * 256 + b) % 65536 / 4 % 64)])
  else if c.2.1 = 2 then ((c.1 * 256 + b) % 65536, 4, c.2.2 ++ [b64ch ((c.1 * 256 + b) % 65536 / 16 % 64)])
  else ((c.1 * 256 + b) % 65536, 0, c.2.2 ++ [b64ch ((c.1 * 256 + b) % 65536 / 64 % 64), b64ch ((c.1 * 256 + b) % 65536 / 1 % 64)])
noncomputable def encEnd (c : Int × Int × List Int) : List Int :=
  if c.2.1 = 2 then c.2.2 ++ [b64ch (c.1 % 4 * 16)] ++ [61] ++ [61] else if c.2.1 = 4 then c.2.2 ++ [b64ch (c.1 % 16 * 4)] ++ [61] else c.2.2
noncomputable def encOut (l : List Int) : List Int := encEnd (l.foldl encStep (0, 0, []))
theorem encStep_in (c : Int × Int × List Int) (b : Int) (h : KBa.In c.2.2) : KBa.In (encStep c b).2.2 := by
  unfold encStep
  intro n hn
  split at hn
  · rcases List.mem_append.mp hn with h1 | h1
    · exact h n h1
    · rw [List.mem_singleton.mp h1]; exact b64ch_in _
  · split at hn
    · rcases List.mem_append.mp hn with h1 | h1
      · exact h n h1
      · rw [List.mem_singleton.mp h1]; exact b64ch_in _
    · rcases List.mem_append.mp hn with h1 | h1
      · exact h n h1
      · rcases List.mem_cons.mp h1 with rfl | h1
        · exact b64ch_in _
        · rw [List.mem_singleton.mp h1]; exact b64ch_in _
theorem encFold_in (l : List Int) : ∀ c, KBa.In c.2.2 → KBa.In (l.foldl encStep c).2.2 := by
  induction l with
  | nil => intro c h; exact h
  | cons a l ih => intro c h; exact ih _ (encStep_in c a h)
theorem encOut_in (l : List Int) : KBa.In (encOut l) := by
  have h := encFold_in l (0, 0, []) (fun _ h => nomatch h)
  unfold encOut encEnd
  intro n hn
  split at hn
  · simp only [List.mem_append, List.mem_singleton] at hn
    rcases hn with ((h1 | rfl) | rfl) | rfl
    · exact h n h1
    · exact b64ch_in _
    · lia
    · lia
  · split at hn
    · simp only [List.mem_append, List.mem_singleton] at hn
      rcases hn with (h1 | rfl) | rfl
      · exact h n h1
      · exact b64ch_in _
      · lia
    · exact h n hn
local macro_rules | `(tactic| walk_at "lI") => `(tactic| first | exact (mI _).1 | exact (mI _).2 | exact mlt _ | exact (mml _).1 | exact (mml _).2 | assumption | exact Int.ediv_nonneg (by assumption) (by decide) | exact Int.ediv_lt_of_lt_mul (by decide) (by assumption) | decide | lia)
local macro_rules | `(tactic| walk_at "subscriptTail") => `(tactic| (with_reducible refine st11 ?_))
local macro_rules | `(tactic| walk_at "call type:bytes") => `(tactic| (with_reducible refine st12 ?_))
local macro_rules | `(tactic| kst_p) => `(tactic| ((try dsimp only); first
  | exact ⟨rfl, .inl rfl, by decide, by decide, by decide⟩
  | ((with_reducible rename _ = List.foldl _ (0, 0, []) _ => hE); exact ⟨by rw [List.foldl_append, ← hE]; subst_vars; simp [encStep], by decide, (by walk_at "lI"), (by walk_at "lI"), by simp only [List.length_append, List.length_cons, List.length_nil] at *; lia⟩)))
local macro_rules | `(tactic| kst_facts) => `(tactic| first | exact IntsAre.nil | ((try dsimp only); exact IntsAre.nil) | ((try dsimp only); k_intsEnd))

theorem hide_postB {α : Type} {M : Model} {A : Around} {m : Sem α} {Q : α → Shared → Prop} {E : Value → Shared → Prop} {s : Shared}
    (h : ∀ Q', (∀ f s', Q f s' → Q' f s') → wpAny M A m Q' E s) : wpAny M A m Q E s := h Q fun _ _ q => q
theorem b2a_spec (w : World) (b : Array UInt8) (t : Tok) (hb : b.size ≤ 200) : SpecK w 124 [.bytes b t] [(ofS "newline", .bool false)] 330 3300 (fun h => True) (fun h v h' => ∃ t', v = .bytes (byteArr (encOut (b.toList.map fun c => (c.toNat : Int)))) t') := by
  revert w b t
  (refine pick_all (i := nW) ?_; generalize pick _ _ = w); (refine pickI ?_; generalize pick _ _ = b); (refine pickI ?_; generalize pick _ _ = t)
  intro hb
  (refine pickI ?_; generalize pick _ _ = mean); (refine pickI ?_; generalize pick _ _ = mg); (refine pickI ?_; generalize pick _ _ = mb); (refine pickI ?_; generalize pick _ _ = dp); (refine pickI ?_; generalize pick _ _ = un); (refine pickI ?_; generalize pick _ _ = fr); (refine pickI ?_; generalize pick _ _ = gd); (refine pick_all (i := nS) ?_; generalize pick _ _ = s); (refine pickI ?_; generalize pick _ _ = Q); (refine pickI ?_; generalize pick _ _ = E)
  intro X T hd hu hP hret
  k_dflt (refine' enterK (binds := [(ofS "data", .bytes b t), (ofS "newline", .bool false)]) X T ?k6 ?k7 ?k8 ?kB ?k9 ?c5 ?c2 ?c3 ?c4 ?_; (case k6 => k_is); (case k7 => k_is); (case k8 => (show dp < _; unfold recursionLimit; lia)); (case kB => exact BindsTo.of_eq (by kernel_rfl)); (case c5 => decide +kernel); (case k9 => exact locs (by kernel_rfl)); (case c2 => kernel_rfl); (case c3 => kernel_rfl); (case c4 => kernel_rfl))
  (refine pickI ?_; generalize pick _ _ = L'); (refine pickI ?_; generalize pick _ _ = h₁)
  intro F N
  replace F : Fr s.heap L' h₁ (fun y => List.lookup y [(ofS "newline", .bool false), (ofS "data", .bytes b t)]) := F
  refine hide_ret ?_
  (refine pickI ?_; generalize pick _ _ = Qh)
  intro hQh
  k_steps
  show wpAny _ _ (call _ _) _ _ _
  refine buffer_x w mean mg mb _ _ _ _ _ _ _ (X.keeps (Fr.keep F)) (T.keeps (Fr.keep F)) (by show dp + 1 ≤ 500; lia) b t ?_
  (refine pickI ?_; generalize pick _ _ = v); (refine pickI ?_; generalize pick _ _ = h2); (refine pickI ?_; generalize pick _ _ = tk2)
  rintro ⟨rfl, G2⟩
  have F2 := F.after G2
  have N2 := News.grown N G2
  clear F N
  k_steps
  rename Fr _ _ _ _ => F2
  show wpAny _ _ (call _ _) _ _ _
  refine truth_x w mean mg mb _ _ _ _ _ _ _ (X.keeps (Fr.keep F2)) (T.keeps (Fr.keep F2)) (by show dp + 1 ≤ 500; lia) ?_
  (refine pickI ?_; generalize pick _ _ = v); (refine pickI ?_; generalize pick _ _ = h3); (refine pickI ?_; generalize pick _ _ = tk3)
  rintro ⟨rfl, G3⟩
  rename Fr _ _ _ _ => Fx
  rename News _ _ _ _ => Nx
  have F3 := Fx.after G3
  have N3 := News.grown Nx G3
  clear Fx Nx
  k_steps
  have hb' : b.toList.length ≤ 200 := by simpa using hb
  refine gen_fn encStep ?_
  (refine pickI ?_; generalize pick _ _ = stp)
  intro hst
  show wpAny _ _ (pyIter (Value.bytes b t)) _ _ _
  k_state (fun pre lc lb out => (lc, lb, out) = pre.foldl stp (0, 0, []) ∧ (lb = 0 ∨ lb = 2 ∨ lb = 4) ∧ 0 ≤ lc ∧ lc < 65536 ∧ out.length ≤ 2 * pre.length) "leftchar" "leftbits" "out"
  · rename_i f5 f4 f3 f2 f1 f0 sn q1 q2 q3 q4 q5 q6 q7
    revert f5 f4 f3 f2 f1 f0 sn kPre kPost kN kT kU kH kTk kOwn
    (refine pickI ?_; generalize pick _ _ = f5); (refine pickI ?_; generalize pick _ _ = f4); (refine pickI ?_; generalize pick _ _ = f3); (refine pickI ?_; generalize pick _ _ = f2); (refine pickI ?_; generalize pick _ _ = f1); (refine pickI ?_; generalize pick _ _ = f0); (refine pickI ?_; generalize pick _ _ = sn); (refine pickI ?_; generalize pick _ _ = kPre); (refine pickI ?_; generalize pick _ _ = kPost); (refine pickI ?_; generalize pick _ _ = kN); (refine pickI ?_; generalize pick _ _ = kT); (refine pickI ?_; generalize pick _ _ = kU); (refine pickI ?_; generalize pick _ _ = kH); (refine pickI ?_; generalize pick _ _ = kTk); (refine pickI ?_; generalize pick _ _ = kOwn)
    intro kEq q1 kLo kHi kFacts kFr kNews kOff q2 q3 q4 q5 q6 q7 kLen
    rename _ ∨ _ => hLb
    refine hide_postB ?_
    (refine pickI ?_; generalize pick _ _ = Q')
    intro hQ
    rcases hLb with rfl | rfl | rfl
    · (k_steps; repeat (show wpAny _ _ (subscriptTail _ _ _ _) _ _ _; refine item_b64 (by walk_at "lI") (by walk_at "lI") ?_; (refine pickI ?_; generalize pick _ _ = chV); intro chE chL chH; k_steps))
      all_goals (refine hQ _ _ ?_)
      all_goals k_steps
    · (k_steps; repeat (show wpAny _ _ (subscriptTail _ _ _ _) _ _ _; refine item_b64 (by walk_at "lI") (by walk_at "lI") ?_; (refine pickI ?_; generalize pick _ _ = chV); intro chE chL chH; k_steps))
      all_goals (refine hQ _ _ ?_)
      all_goals k_steps
    · (k_steps; repeat (show wpAny _ _ (subscriptTail _ _ _ _) _ _ _; refine item_b64 (by walk_at "lI") (by walk_at "lI") ?_; (refine pickI ?_; generalize pick _ _ = chV); intro chE chL chH; k_steps))
      all_goals (refine hQ _ _ ?_)
      all_goals k_steps
  · rename_i f5 f4 f3 f2 f1 f0 sn q1 q3 q4 q5 q6 q7
    revert f5 f4 f3 f2 f1 f0 sn kU kH kTk
    (refine pickI ?_; generalize pick _ _ = f5); (refine pickI ?_; generalize pick _ _ = f4); (refine pickI ?_; generalize pick _ _ = f3); (refine pickI ?_; generalize pick _ _ = f2); (refine pickI ?_; generalize pick _ _ = f1); (refine pickI ?_; generalize pick _ _ = f0); (refine pickI ?_; generalize pick _ _ = sn); (refine pickI ?_; generalize pick _ _ = kU); (refine pickI ?_; generalize pick _ _ = kH); (refine pickI ?_; generalize pick _ _ = kTk)
    intro kFacts kFr kNews q3 q4 q5 q6 q7 kLen
    rename _ ∨ _ => hLb
    rename _ = List.foldl stp _ _ => hE
    subst hst
    rename _ ≤ 2 * List.length _ => hL1
    rw [List.length_map] at hL1
    rcases hLb with rfl | rfl | rfl
    all_goals
      (k_steps; repeat (show wpAny _ _ (subscriptTail _ _ _ _) _ _ _; refine item_b64 (by walk_at "lI") (by walk_at "lI") ?_; (refine pickI ?_; generalize pick _ _ = chV); intro chE chL chH; k_steps))
      try (rename _ = b64ch _ => chE; subst chE)
      show wpAny _ _ (call (.type "bytes") [.ref _]) _ _ _
      rename Fr _ _ _ _ => Fz
      rename News _ _ _ _ => Nz
      have hR := encOut_in (b.toList.map fun c => (c.toNat : Int))
      have hO : encOut (b.toList.map fun c => (c.toNat : Int)) = encEnd (List.foldl encStep (0, 0, []) (b.toList.map fun c => (c.toNat : Int))) := rfl
      rw [← hE] at hO
      simp only [encEnd] at hO
      simp at hO
      refine KBa.make_K (ns := encOut (b.toList.map fun c => (c.toNat : Int))) Fz Nz rfl (News.isList Nz (List.Mem.head _)) ?_ hR ?_ ?_
      · rw [hO]
        try simp
        first | assumption | exact IntsAre.append (by assumption) (.cons _ _ (.cons _ _ .nil)) | exact IntsAre.append (by assumption) (.cons _ _ (.cons _ _ (.cons _ _ .nil)))
      · rw [hO]; (try simp only [List.length_append, List.length_cons, List.length_nil]); lia
      · intro h' t' k F' N' _
        refine hQh _ _ ?_
        exact hret _ _ _ F'.keep ⟨_, rfl⟩
noncomputable def b64 (b : Array UInt8) : Array UInt8 := byteArr (encOut (b.toList.map fun c => (c.toNat : Int)))
theorem b64encode_spec (w : World) (b : Array UInt8) (t : Tok) (hb : b.size ≤ 200) : SpecS w 141 [.bytes b t] 320 3200 (fun h => True) (fun h v h' => ∃ t', v = .bytes (b64 b) t') := by
  intro mean mg mb dp un fr gd s Q E X T hd hu hP hret
  k_dflt (refine' enter0 (binds := [(ofS "s", .bytes b t), (ofS "altchars", .none)]) X T ?k6 ?k7 ?k8 ?kB ?k9 ?c5 ?c2 ?c3 ?c4 ?_; (case k6 => k_is); (case k7 => k_is); (case k8 => (show dp < _; unfold recursionLimit; lia)); (case kB => exact binds_K X rfl (show _ = some _ from by k_is) rfl rfl (by kernel_rfl)); (case c5 => decide +kernel); (case k9 => exact locs (by kernel_rfl)); (case c2 => kernel_rfl); (case c3 => kernel_rfl); (case c4 => kernel_rfl))
  intro L' h₁ F N
  replace F : Fr s.heap L' h₁ (fun y => List.lookup y [(ofS "altchars", .none), (ofS "s", .bytes b t)]) := F
  k_steps
  show wpAny _ _ (call (.ref 124) [.bytes b t] [(ofS "newline", .bool false)]) _ _ _
  refine (b2a_spec w b t hb) _ _ _ _ _ _ _ _ _ _ (X.keeps (Fr.keep F)) (T.keeps (Fr.keep F)) (by show dp + 1 ≤ 330; lia) (by show un + _ ≤ 3300; lia) trivial ?_
  rintro v h2 tk2 G2 ⟨t', rfl⟩
  have F2 := F.after G2
  have N2 := News.grown N G2
  clear F N
  k_steps
  rename Fr _ _ _ _ => Fz
  exact hret _ _ _ Fz.keep ⟨_, rfl⟩
end
section
set_option maxHeartbeats 1000000
open PySem.Calls
theorem fill_bd : kk = kk ∧ PySem.Challenge.rw_kq0052_01 = PySem.Challenge.rw_kq0052_01 := by
  k_fill
  exact ⟨rfl, rfl⟩
local macro_rules | `(tactic| walk_at "pyIter bytes") => `(tactic| (with_reducible refine st10 ?_))

noncomputable def decStep (c : Int × Int × Int × List Int) (x : Int) : Int × Int × Int × List Int :=
  if x = 61 then (c.1, c.2.1, c.2.2.1 + 1, c.2.2.2)
  else if 64 ≤ b64v x then c
  else if c.1 = 0 then (1, b64v x, 0, c.2.2.2)
  else if c.1 = 1 then (2, b64v x % 16, 0, c.2.2.2 ++ [c.2.1 * 4 + b64v x / 16])
  else if c.1 = 2 then (3, b64v x % 4, 0, c.2.2.2 ++ [c.2.1 * 16 + b64v x / 4])
  else (0, 0, 0, c.2.2.2 ++ [c.2.1 * 64 + b64v x])
noncomputable def decFold (l : List Int) : Int × Int × Int × List Int := l.foldl decStep (0, 0, 0, [])
theorem b64v_in (x : Int) : 0 ≤ b64v x ∧ b64v x ≤ 64 := by
  have sub : ∀ {a b : Int}, a ≤ x ∧ x ≤ b → b - a ≤ 64 → 0 ≤ x - a ∧ x - a ≤ 64 := fun h k => ⟨Int.sub_nonneg.mpr h.1, Int.le_trans (Int.sub_le_sub_right h.2 _) k⟩
  unfold b64v
  split
  · exact sub ‹_› (by decide)
  split
  · exact ⟨Int.sub_nonneg.mpr (Int.le_trans (show (71 : Int) ≤ 97 by decide) (And.left ‹_›)), Int.le_trans (Int.sub_le_sub_right (And.right ‹_›) _) (by decide)⟩
  split
  · exact ⟨Int.add_nonneg (Int.le_trans (show (0 : Int) ≤ 48 by decide) (And.left ‹_›)) (by decide), Int.le_trans (Int.add_le_add_right (And.right ‹_›) _) (by decide)⟩
  split
  · decide
  split <;> decide
noncomputable def DecOk (n : Nat) (c : Int × Int × Int × List Int) : Prop :=
  (c.1 = 0 ∨ c.1 = 1 ∨ c.1 = 2 ∨ c.1 = 3) ∧ 0 ≤ c.2.1 ∧ (c.1 = 1 → c.2.1 < 64) ∧ (c.1 = 2 → c.2.1 < 16) ∧ (c.1 = 3 → c.2.1 < 4) ∧ c.2.2.2.length ≤ n ∧ KBa.In c.2.2.2
theorem in_app {l : List Int} {x : Int} (h : KBa.In l) (h0 : 0 ≤ x) (h1 : x < 256) : KBa.In (l ++ [x]) := by
  intro n hn
  rcases List.mem_append.mp hn with h2 | h2
  · exact h n h2
  · rw [List.mem_singleton.mp h2]; exact ⟨h0, h1⟩
theorem dlt {a A v K : Int} (h : a < A) (hv : 0 ≤ v ∧ v < K) : a * K + v < A * K := by
  have := Int.mul_le_mul_of_nonneg_right (Int.add_one_le_of_lt h) (Int.le_trans hv.1 (Int.le_of_lt hv.2))
  rw [Int.add_mul, Int.one_mul] at this
  exact Int.lt_of_lt_of_le (Int.add_lt_add_left hv.2 _) this
theorem decStep_ok {n : Nat} {c : Int × Int × Int × List Int} (h : DecOk n c) (x : Int) : DecOk (n + 1) (decStep c x) := by
  obtain ⟨q, lc, pads, out⟩ := c
  obtain ⟨hq, h0, h1, h2, h3, h4, h5⟩ := h
  have hv := b64v_in x
  dsimp only at *
  unfold decStep
  have hl := Nat.le_succ_of_le h4
  have ha : ∀ v, 0 ≤ v → v < 256 → (out ++ [v]).length ≤ n + 1 ∧ KBa.In (out ++ [v]) := fun v a b => ⟨by rw [List.length_append]; exact Nat.succ_le_succ h4, in_app h5 a b⟩
  dsimp only
  split
  · exact ⟨hq, h0, h1, h2, h3, hl, h5⟩
  split
  · exact ⟨hq, h0, h1, h2, h3, hl, h5⟩
  have hv1 := Int.not_le.mp ‹_›
  have z : ∀ {a b : Int} {P : Prop}, decide (a = b) = false → a = b → P := fun h e => absurd e (of_decide_eq_false h)
  generalize b64v x = V at hv hv1 ⊢
  have hd : ∀ k T : Int, 0 < k → 64 = T * k → 0 ≤ V / k ∧ V / k < T := fun k T hk e => ⟨Int.ediv_nonneg hv.1 (Int.le_of_lt hk), Int.ediv_lt_of_lt_mul hk (e ▸ hv1)⟩
  split
  · exact ⟨.inr (.inl rfl), hv.1, fun _ => hv1, z rfl, z rfl, hl, h5⟩
  split
  · have d := hd 16 4 (by decide) (by decide)
    have a := ha (lc * 4 + V / 16) (Int.add_nonneg (Int.mul_nonneg h0 (by decide)) d.1) (dlt (h1 ‹_›) d)
    exact ⟨.inr (.inr (.inl rfl)), (mI V).1, z rfl, fun _ => (mI V).2, z rfl, a⟩
  split
  · have d := hd 4 16 (by decide) (by decide)
    have a := ha (lc * 16 + V / 4) (Int.add_nonneg (Int.mul_nonneg h0 (by decide)) d.1) (dlt (h2 ‹_›) d)
    exact ⟨.inr (.inr (.inr rfl)), (mI V).1, z rfl, z rfl, fun _ => (mI V).2, a⟩
  · have q3 : q = 3 := ((hq.resolve_left ‹_›).resolve_left ‹_›).resolve_left ‹_›
    have a := ha (lc * 64 + V) (Int.add_nonneg (Int.mul_nonneg h0 (by decide)) hv.1) (dlt (h3 q3) ⟨hv.1, hv1⟩)
    exact ⟨.inl rfl, Int.le_refl _, z rfl, z rfl, z rfl, a⟩
theorem ds_pad {q lc p x : Int} {o : List Int} (h : x = 61) : decStep (q, lc, p, o) x = (q, lc, p + 1, o) := if_pos h
theorem ds_skip {q lc p x : Int} {o : List Int} (n : x ≠ 61) (h : 64 ≤ b64v x) : decStep (q, lc, p, o) x = (q, lc, p, o) := (if_neg n).trans (if_pos h)
theorem ds0 {lc p x : Int} {o : List Int} (n : x ≠ 61) (h : ¬ 64 ≤ b64v x) : decStep (0, lc, p, o) x = (1, b64v x, 0, o) := (if_neg n).trans ((if_neg h).trans (if_pos rfl))
theorem ds1 {lc p x : Int} {o : List Int} (n : x ≠ 61) (h : ¬ 64 ≤ b64v x) : decStep (1, lc, p, o) x = (2, b64v x % 16, 0, o ++ [lc * 4 + b64v x / 16]) := (if_neg n).trans ((if_neg h).trans ((if_neg (show ¬ (1 : Int) = 0 by decide)).trans (if_pos rfl)))
theorem ds2 {lc p x : Int} {o : List Int} (n : x ≠ 61) (h : ¬ 64 ≤ b64v x) : decStep (2, lc, p, o) x = (3, b64v x % 4, 0, o ++ [lc * 16 + b64v x / 4]) := (if_neg n).trans ((if_neg h).trans ((if_neg (show ¬ (2 : Int) = 0 by decide)).trans ((if_neg (show ¬ (2 : Int) = 1 by decide)).trans (if_pos rfl))))
theorem ds3 {lc p x : Int} {o : List Int} (n : x ≠ 61) (h : ¬ 64 ≤ b64v x) : decStep (3, lc, p, o) x = (0, 0, 0, o ++ [lc * 64 + b64v x]) := (if_neg n).trans ((if_neg h).trans ((if_neg (show ¬ (3 : Int) = 0 by decide)).trans ((if_neg (show ¬ (3 : Int) = 1 by decide)).trans (if_neg (show ¬ (3 : Int) = 2 by decide)))))
theorem decFold_ok (l : List Int) : DecOk l.length (decFold l) := by
  have key : ∀ (l : List Int) (n : Nat) c, DecOk n c → DecOk (n + l.length) (l.foldl decStep c) := by
    intro l
    induction l with
    | nil => intro n c h; exact h
    | cons a l ih =>
      intro n c h
      have := ih (n + 1) _ (decStep_ok h a)
      rw [List.foldl_cons, List.length_cons]
      have e : n + (l.length + 1) = n + 1 + l.length := (Nat.add_right_comm n l.length 1)
      rw [e]
      exact this
  have := key l 0 (0, 0, 0, []) ⟨.inl rfl, by simp, fun e => by simp at e, fun e => by simp at e, fun e => by simp at e, by simp, fun _ h => nomatch h⟩
  simpa [decFold] using this
noncomputable def bI (b : Array UInt8) : List Int := b.toList.map fun c => (c.toNat : Int)
local macro_rules | `(tactic| walk_at "lI") => `(tactic| first | exact (mI _).1 | exact (mI _).2 | exact mlt _ | exact (mml _).1 | exact (mml _).2 | assumption | exact Int.ediv_nonneg (by assumption) (by decide) | exact Int.ediv_lt_of_lt_mul (by decide) (by assumption) | decide | lia)
local macro_rules | `(tactic| walk_at "call type:bytes") => `(tactic| (with_reducible refine st12 ?_))
local macro_rules | `(tactic| kst_p) => `(tactic| ((try dsimp only); first
  | exact rfl
  | ((with_reducible rename _ = List.foldl _ (0, 0, 0, []) _ => hE); rw [List.foldl_append, ← hE, List.foldl_cons, List.foldl_nil]; subst_vars; first
      | rw [ds_pad (by first | assumption | lia)]
      | rw [ds_skip (by first | assumption | lia) (by first | assumption | lia)]
      | (first | rw [ds0 (by first | assumption | lia) (by first | assumption | lia)] | rw [ds1 (by first | assumption | lia) (by first | assumption | lia)] | rw [ds2 (by first | assumption | lia) (by first | assumption | lia)] | rw [ds3 (by first | assumption | lia) (by first | assumption | lia)])
      | ((first | rw [ds0 (by first | assumption | lia) (by first | assumption | lia)] | rw [ds1 (by first | assumption | lia) (by first | assumption | lia)] | rw [ds2 (by first | assumption | lia) (by first | assumption | lia)] | rw [ds3 (by first | assumption | lia) (by first | assumption | lia)]); (try simp); try lia))))
local macro_rules | `(tactic| kst_facts) => `(tactic| first | exact IntsAre.nil | ((try dsimp only); exact IntsAre.nil) | ((try dsimp only); k_intsEnd))

theorem hide_postD {α : Type} {M : Model} {A : Around} {m : Sem α} {Q : α → Shared → Prop} {E : Value → Shared → Prop} {s : Shared}
    (h : ∀ Q', (∀ f s', Q f s' → Q' f s') → wpAny M A m Q' E s) : wpAny M A m Q E s := h Q fun _ _ q => q
inductive MkB : Prop where
  | mk
inductive MkA : Prop where
  | mk
inductive MkC : Prop where
  | mk
inductive MkU : Prop where
  | mk
inductive MkR : Prop where
  | mk
theorem stB {M A Q E s y1 y2 y3 y4 y5 y6 y7 y8} (h : Stop (wpAny M A (execs (Stmt.If (Expr.BoolOp y1 y2 y3) y4 y5 y6 :: y7) y8) Q E s)) : wpAny M A (execs (Stmt.If (Expr.BoolOp y1 y2 y3) y4 y5 y6 :: y7) y8) Q E s := h
theorem stC {M A Q E s y1 y2 y3 y4 y9 y5 y6 y7 y8} (h : Stop (wpAny M A (execs (Stmt.If (Expr.Compare y1 y2 y3 y9) y4 y5 y6 :: y7) y8) Q E s)) : wpAny M A (execs (Stmt.If (Expr.Compare y1 y2 y3 y9) y4 y5 y6 :: y7) y8) Q E s := h
theorem stU {M A Q E s y1 y2 y3 y4 y5 y6 y7 y8} (h : Stop (wpAny M A (execs (Stmt.If (Expr.UnaryOp y1 y2 y3) y4 y5 y6 :: y7) y8) Q E s)) : wpAny M A (execs (Stmt.If (Expr.UnaryOp y1 y2 y3) y4 y5 y6 :: y7) y8) Q E s := h
local macro_rules | `(tactic| walk_at "execs cons") => `(tactic| ((rename MkB => mk); with_reducible refine stB ?_))
local macro_rules | `(tactic| walk_at "execs cons") => `(tactic| ((rename MkA => mk); with_reducible refine st15 ?_))
local macro_rules | `(tactic| walk_at "execs cons") => `(tactic| ((rename MkC => mk); with_reducible refine stC ?_))
local macro_rules | `(tactic| walk_at "execs cons") => `(tactic| ((rename MkU => mk); with_reducible refine stU ?_))
local macro_rules | `(tactic| walk_at "execs cons") => `(tactic| ((rename MkR => mk); with_reducible refine st32 ?_))
theorem gen_tokD {α : Type} {M : Model} {A : Around} {m : Sem α} {Q : α → Shared → Prop} {E : Value → Shared → Prop} {hp : Heap} {g : Array GenState} {d : Drawn} {t : Nat} {os : OsState}
   (h : ∀ tk, wpAny M A m Q E ⟨hp, g, d, tk, os⟩) : wpAny M A m Q E ⟨hp, g, d, t, os⟩ := h t
theorem a2b_spec (w : World) (b : Array UInt8) (t : Tok) (hb : b.size ≤ 400) (hd1 : (decFold (bI b)).1 ≠ 1) (hd2 : (decFold (bI b)).1 ≠ 0 → 4 ≤ (decFold (bI b)).1 + (decFold (bI b)).2.2.1) :
    SpecK w 116 [.bytes b t] [(ofS "strict_mode", .bool false)] 330 3300 (fun h => True) (fun h v h' => ∃ t', v = .bytes (byteArr (decFold (bI b)).2.2.2) t') := by
  revert w b t
  (refine pick_all (i := nW) ?_; generalize pick _ _ = w); (refine pickI ?_; generalize pick _ _ = b); (refine pickI ?_; generalize pick _ _ = t)
  intro hb hd1 hd2
  (refine pickI ?_; generalize pick _ _ = mean); (refine pickI ?_; generalize pick _ _ = mg); (refine pickI ?_; generalize pick _ _ = mb); (refine pickI ?_; generalize pick _ _ = dp); (refine pickI ?_; generalize pick _ _ = un); (refine pickI ?_; generalize pick _ _ = fr); (refine pickI ?_; generalize pick _ _ = gd); (refine pick_all (i := nS) ?_; generalize pick _ _ = s); (refine pickI ?_; generalize pick _ _ = Q); (refine pickI ?_; generalize pick _ _ = E)
  intro X T hd hu hP hret
  k_dflt (refine' enterK (binds := [(ofS "data", .bytes b t), (ofS "strict_mode", .bool false)]) X T ?k6 ?k7 ?k8 ?kB ?k9 ?c5 ?c2 ?c3 ?c4 ?_; (case k6 => k_is); (case k7 => k_is); (case k8 => (show dp < _; unfold recursionLimit; lia)); (case kB => exact BindsTo.of_eq (by kernel_rfl)); (case c5 => decide +kernel); (case k9 => exact locs (by kernel_rfl)); (case c2 => kernel_rfl); (case c3 => kernel_rfl); (case c4 => kernel_rfl))
  (refine pickI ?_; generalize pick _ _ = L'); (refine pickI ?_; generalize pick _ _ = h₁)
  intro F N
  replace F : Fr s.heap L' h₁ (fun y => List.lookup y [(ofS "strict_mode", .bool false), (ofS "data", .bytes b t)]) := F
  refine hide_ret ?_
  (refine pickI ?_; generalize pick _ _ = Qh)
  intro hQh
  k_steps
  show wpAny _ _ (call _ _) _ _ _
  refine abuffer_x w mean mg mb _ _ _ _ _ _ _ (X.keeps (Fr.keep F)) (T.keeps (Fr.keep F)) (by show dp + 1 ≤ 500; lia) b t ?_
  (refine pickI ?_; generalize pick _ _ = v); (refine pickI ?_; generalize pick _ _ = h2); (refine pickI ?_; generalize pick _ _ = tk2)
  rintro ⟨rfl, G2⟩
  have F2 := F.after G2
  have N2 := News.grown N G2
  clear F N
  k_steps
  rename Fr _ _ _ _ => F2
  show wpAny _ _ (call _ _) _ _ _
  refine truth_x w mean mg mb _ _ _ _ _ _ _ (X.keeps (Fr.keep F2)) (T.keeps (Fr.keep F2)) (by show dp + 1 ≤ 500; lia) ?_
  (refine pickI ?_; generalize pick _ _ = v); (refine pickI ?_; generalize pick _ _ = h3); (refine pickI ?_; generalize pick _ _ = tk3)
  rintro ⟨rfl, G3⟩
  rename Fr _ _ _ _ => Fx
  rename News _ _ _ _ => Nx
  have F3 := Fx.after G3
  have N3 := News.grown Nx G3
  clear Fx Nx
  k_steps
  have hb' : b.toList.length ≤ 400 := by simpa using hb
  refine gen_fn decStep ?_
  (refine pickI ?_; generalize pick _ _ = stp)
  intro hst
  show wpAny _ _ (pyIter (Value.bytes b t)) _ _ _
  k_state (fun pre q lc pads i out => (q, lc, pads, out) = pre.foldl stp (0, 0, 0, [])) "quad_pos" "leftchar" "pads" "i" "out"
  · rename_i f9 f8 f7 f6 f5 f4 f3 f2 f1 f0 sn q1 q2
    revert f9 f8 f7 f6 f5 f4 f3 f2 f1 f0 sn kPre kPost kN kT kU kH kTk kOwn
    (refine pickI ?_; generalize pick _ _ = f9); (refine pickI ?_; generalize pick _ _ = f8); (refine pickI ?_; generalize pick _ _ = f7); (refine pickI ?_; generalize pick _ _ = f6); (refine pickI ?_; generalize pick _ _ = f5); (refine pickI ?_; generalize pick _ _ = f4); (refine pickI ?_; generalize pick _ _ = f3); (refine pickI ?_; generalize pick _ _ = f2); (refine pickI ?_; generalize pick _ _ = f1); (refine pickI ?_; generalize pick _ _ = f0); (refine pickI ?_; generalize pick _ _ = sn); (refine pickI ?_; generalize pick _ _ = kPre); (refine pickI ?_; generalize pick _ _ = kPost); (refine pickI ?_; generalize pick _ _ = kN); (refine pickI ?_; generalize pick _ _ = kT); (refine pickI ?_; generalize pick _ _ = kU); (refine pickI ?_; generalize pick _ _ = kH); (refine pickI ?_; generalize pick _ _ = kTk); (refine pickI ?_; generalize pick _ _ = kOwn)
    intro kEq q1 kLo kHi kFacts kInv kFr kNews kOff q2 kLen
    refine hide_postD ?_
    (refine pickI ?_; generalize pick _ _ = Q')
    intro hQ
    (with_reducible rename _ = List.foldl _ (0, 0, 0, []) _ => hE)
    subst hst
    have hG := decFold_ok kPre
    unfold decFold at hG
    rw [← hE] at hG
    obtain ⟨hq, hl0, hl1, hl2, hl3, hl4, hl5⟩ := hG
    dsimp only at hq hl0 hl1 hl2 hl3 hl4 hl5
    replace hl4 : f0.length ≤ 400 := by lia
    clear kLen
    by_cases h61 : kN = 61
    · subst h61
      k_steps
      all_goals (refine hQ _ _ ?_)
      all_goals k_steps
    · k_steps
      show wpAny _ _ (call (.ref 108) [.int kN kT]) _ _ _
      rename Fr _ _ _ _ => Fx
      rename News _ _ _ _ => Nx
      refine (b64v_spec w kN kT kLo kHi) _ _ _ _ _ _ _ _ _ _ (X.keeps (Fr.keep Fx)) (T.keeps (Fr.keep Fx)) (by show dp + 1 + 2 < recursionLimit; unfold recursionLimit; lia) (by show un + _ + _ < cLine; unfold cLine; lia) trivial ?_
      (refine pickI ?_; generalize pick _ _ = v); (refine pickI ?_; generalize pick _ _ = h2); (refine pickI ?_; generalize pick _ _ = tk2)
      intro G2 hex
      refine exPk hex ?_
      clear hex
      generalize pick _ _ = t'
      rintro rfl
      have F2 := Fx.after G2
      have N2 := News.grown Nx G2
      clear Fx Nx
      have hv := b64v_in kN
      refine gen_fn (b64v kN) ?_
      (refine pickI ?_; generalize pick _ _ = V)
      intro hV
      rw [← hV] at hv ⊢
      by_cases h64 : 64 ≤ V
      · k_steps
        all_goals (refine hQ _ _ ?_)
        all_goals k_steps
      · have hv0 := hv.1
        have hv1 := Int.not_le.mp h64
        have mk1 := MkB.mk
        k_steps
        (rename MkB => mk1); clear mk1
        show wpAny _ _ (execs _ _) _ _ _
        refine' (fun (main : ∀ tk0 : Nat, (_ : Nat → Prop) tk0) => ?rest) ?main
        case rest =>
          have mk2 := MkA.mk
          k_steps
          all_goals (show wpAny _ _ (execs _ _) _ _ _)
          all_goals (refine gen_tokD ?_)
          all_goals ((refine pickI ?_; generalize pick _ _ = tk1))
          all_goals (exact main tk1)
        case main =>
          (refine pickI ?_; generalize pick _ _ = tk0)
          have mk3 := MkC.mk
          k_steps
          (rename MkC => mk3); clear mk3
          show wpAny _ _ (execs _ _) _ _ _
          rcases hq with rfl | rfl | rfl | rfl
          · k_steps
            all_goals (refine hQ _ _ ?_)
            all_goals k_steps
          · k_steps
            all_goals (refine hQ _ _ ?_)
            all_goals k_steps
          · k_steps
            all_goals (refine hQ _ _ ?_)
            all_goals k_steps
          · k_steps
            all_goals (refine hQ _ _ ?_)
            all_goals k_steps
      exact absurd ‹kN = 61› h61
  · rename_i f9 f8 f7 f6 f5 f4 f3 f2 f1 f0 sn q1
    revert f9 f8 f7 f6 f5 f4 f3 f2 f1 f0 sn kU kH kTk
    (refine pickI ?_; generalize pick _ _ = f9); (refine pickI ?_; generalize pick _ _ = f8); (refine pickI ?_; generalize pick _ _ = f7); (refine pickI ?_; generalize pick _ _ = f6); (refine pickI ?_; generalize pick _ _ = f5); (refine pickI ?_; generalize pick _ _ = f4); (refine pickI ?_; generalize pick _ _ = f3); (refine pickI ?_; generalize pick _ _ = f2); (refine pickI ?_; generalize pick _ _ = f1); (refine pickI ?_; generalize pick _ _ = f0); (refine pickI ?_; generalize pick _ _ = sn); (refine pickI ?_; generalize pick _ _ = kU); (refine pickI ?_; generalize pick _ _ = kH); (refine pickI ?_; generalize pick _ _ = kTk)
    intro kFacts kInv kFr kNews kLen
    (with_reducible rename _ = List.foldl _ (0, 0, 0, []) _ => hE)
    subst hst
    have hG := decFold_ok (bI b)
    have hF : decFold (bI b) = List.foldl decStep (0, 0, 0, []) (b.toList.map fun c => (c.toNat : Int)) := rfl
    rw [← hE] at hF
    rw [hF] at hG hd1 hd2
    rw [hF] at hret
    obtain ⟨hq, hl0, hl1, hl2, hl3, hl4, hl5⟩ := hG
    dsimp only at hq hl0 hl1 hl2 hl3 hl4 hl5 hd1 hd2 hret
    unfold bI at hl4
    rw [List.length_map] at hl4
    replace hl4 := Nat.le_trans hl4 hb'
    clear kLen
    rcases hq with rfl | rfl | rfl | rfl
    · k_steps
      show wpAny _ _ (call (.type "bytes") [.ref _]) _ _ _
      rename Fr _ _ _ _ => Fz
      rename News _ _ _ _ => Nz
      refine KBa.make_K Fz Nz rfl (News.isList Nz (List.Mem.head _)) (by assumption) hl5 (by lia) ?_
      (refine pickI ?_; generalize pick _ _ = h'); (refine pickI ?_; generalize pick _ _ = t'); (refine pickI ?_; generalize pick _ _ = k)
      intro F' N' _
      refine hQh _ _ ?_
      exact hret _ _ _ F'.keep ⟨_, rfl⟩
    · exact absurd rfl hd1
    · have hd3 := hd2 (by decide)
      k_steps
      show wpAny _ _ (call (.type "bytes") [.ref _]) _ _ _
      rename Fr _ _ _ _ => Fz
      rename News _ _ _ _ => Nz
      refine KBa.make_K Fz Nz rfl (News.isList Nz (List.Mem.head _)) (by assumption) hl5 (by lia) ?_
      (refine pickI ?_; generalize pick _ _ = h'); (refine pickI ?_; generalize pick _ _ = t'); (refine pickI ?_; generalize pick _ _ = k)
      intro F' N' _
      refine hQh _ _ ?_
      exact hret _ _ _ F'.keep ⟨_, rfl⟩
    · have hd3 := hd2 (by decide)
      k_steps
      show wpAny _ _ (call (.type "bytes") [.ref _]) _ _ _
      rename Fr _ _ _ _ => Fz
      rename News _ _ _ _ => Nz
      refine KBa.make_K Fz Nz rfl (News.isList Nz (List.Mem.head _)) (by assumption) hl5 (by lia) ?_
      (refine pickI ?_; generalize pick _ _ = h'); (refine pickI ?_; generalize pick _ _ = t'); (refine pickI ?_; generalize pick _ _ = k)
      intro F' N' _
      refine hQh _ _ ?_
      exact hret _ _ _ F'.keep ⟨_, rfl⟩
theorem b64decode_spec (w : World) (b : Array UInt8) (t : Tok) (hb : b.size ≤ 400) (hd1 : (decFold (bI b)).1 ≠ 1) (hd2 : (decFold (bI b)).1 ≠ 0 → 4 ≤ (decFold (bI b)).1 + (decFold (bI b)).2.2.1) :
    SpecS w 149 [.bytes b t] 320 3200 (fun h => True) (fun h v h' => ∃ t', v = .bytes (byteArr (decFold (bI b)).2.2.2) t') := by
  revert w b t
  (refine pick_all (i := nW) ?_; generalize pick _ _ = w); (refine pickI ?_; generalize pick _ _ = b); (refine pickI ?_; generalize pick _ _ = t)
  intro hb hd1 hd2
  (refine pickI ?_; generalize pick _ _ = mean); (refine pickI ?_; generalize pick _ _ = mg); (refine pickI ?_; generalize pick _ _ = mb); (refine pickI ?_; generalize pick _ _ = dp); (refine pickI ?_; generalize pick _ _ = un); (refine pickI ?_; generalize pick _ _ = fr); (refine pickI ?_; generalize pick _ _ = gd); (refine pick_all (i := nS) ?_; generalize pick _ _ = s); (refine pickI ?_; generalize pick _ _ = Q); (refine pickI ?_; generalize pick _ _ = E)
  intro X T hd hu hP hret
  k_dflt (refine' enter0 (binds := [(ofS "s", .bytes b t), (ofS "altchars", .none), (ofS "validate", .bool false)]) X T ?k6 ?k7 ?k8 ?kB ?k9 ?c5 ?c2 ?c3 ?c4 ?_; (case k6 => k_is); (case k7 => k_is); (case k8 => (show dp < _; unfold recursionLimit; lia)); (case kB => exact binds_K X rfl (show _ = some _ from by k_is) rfl rfl (by kernel_rfl)); (case c5 => decide +kernel); (case k9 => exact locs (by kernel_rfl)); (case c2 => kernel_rfl); (case c3 => kernel_rfl); (case c4 => kernel_rfl))
  (refine pickI ?_; generalize pick _ _ = L'); (refine pickI ?_; generalize pick _ _ = h₁)
  intro F N
  replace F : Fr s.heap L' h₁ (fun y => List.lookup y [(ofS "validate", .bool false), (ofS "altchars", .none), (ofS "s", .bytes b t)]) := F
  k_steps
  show wpAny _ _ (call _ _) _ _ _
  refine bfd_x w mean mg mb _ _ _ _ _ _ _ (X.keeps (Fr.keep F)) (T.keeps (Fr.keep F)) (by show dp + 1 ≤ 500; lia) b t ?_
  (refine pickI ?_; generalize pick _ _ = v); (refine pickI ?_; generalize pick _ _ = h2); (refine pickI ?_; generalize pick _ _ = tk2)
  rintro ⟨rfl, G2⟩
  have F2 := F.after G2
  have N2 := News.grown N G2
  clear F N
  k_steps
  show wpAny _ _ (call (.ref 116) [.bytes b t] [(ofS "strict_mode", .bool false)]) _ _ _
  rename Fr _ _ _ _ => Fx
  refine (a2b_spec w b t hb hd1 hd2) _ _ _ _ _ _ _ _ _ _ (X.keeps (Fr.keep Fx)) (T.keeps (Fr.keep Fx)) (by show dp + 1 ≤ 330; lia) (by show un + _ ≤ 3300; lia) trivial ?_
  (refine pickI ?_; generalize pick _ _ = v); (refine pickI ?_; generalize pick _ _ = h3); (refine pickI ?_; generalize pick _ _ = tk3)
  intro G3 hex
  refine exPk hex ?_
  clear hex
  generalize pick _ _ = t'
  rintro rfl
  have F3 := Fx.after G3
  clear Fx
  exact hret _ _ _ F3.keep ⟨_, rfl⟩
end
section
open PySem.Calls
noncomputable def enc3 : List Int → List Int
  | a :: b :: c :: r => b64ch (a / 4) :: b64ch (a % 4 * 16 + b / 16) :: b64ch (b % 16 * 4 + c / 64) :: b64ch (c % 64) :: enc3 r
  | [a, b] => [b64ch (a / 4), b64ch (a % 4 * 16 + b / 16), b64ch (b % 16 * 4), 61]
  | [a] => [b64ch (a / 4), b64ch (a % 4 * 16), 61, 61]
  | [] => []
theorem ind3 {P : List Int → Prop} (h0 : P []) (h1 : ∀ a, P [a]) (h2 : ∀ a b, P [a, b]) (h3 : ∀ a b c r, P r → P (a :: b :: c :: r)) : ∀ l, P l
  | [] => h0
  | [a] => h1 a
  | [a, b] => h2 a b
  | a :: b :: c :: r => h3 a b c r (ind3 h0 h1 h2 h3 r)
abbrev Oc (a : Int) : Prop := 0 ≤ a ∧ a < 256
abbrev Byt (l : List Int) : Prop := ∀ n ∈ l, 0 ≤ n ∧ n < 256
theorem byt1 {a : Int} {l : List Int} (h : Byt (a :: l)) : Oc a ∧ Byt l := ⟨h a (.head _), fun n hn => h n (.tail _ hn)⟩
theorem dvI {K J b : Int} (hK : 0 < K) (e1 : 256 = J * K) (h : Oc b) : 0 ≤ b / K ∧ b / K < J := ⟨Int.ediv_nonneg h.1 (Int.le_of_lt hK), Int.ediv_lt_of_lt_mul hK (e1 ▸ h.2)⟩
theorem mdI {y J I : Int} (hJ : 0 ≤ J) (hI : 0 < I) : 0 ≤ y % I * J ∧ y % I * J + J ≤ I * J := by
  have h := Int.mul_le_mul_of_nonneg_right (Int.add_one_le_of_lt (Int.emod_lt_of_pos y hI)) hJ
  rw [Int.add_mul, Int.one_mul] at h
  exact ⟨Int.mul_nonneg (Int.emod_nonneg y (Int.ne_of_gt hI)) hJ, h⟩
theorem rgI {y b K J I : Int} (hK : 0 < K) (hJ : 0 ≤ J) (hI : 0 < I) (e1 : 256 = J * K) (h : Oc b) : 0 ≤ y % I * J + b / K ∧ y % I * J + b / K < I * J := by
  have d := dvI hK e1 h
  have m := mdI (y := y) hJ hI
  exact ⟨Int.add_nonneg m.1 d.1, Int.lt_of_lt_of_le (Int.add_lt_add_left d.2 _) m.2⟩
theorem kg {y b : Int} (K J I : Int) (h : Oc b) (hK : 0 < K := by decide) (hJ : 0 ≤ J := by decide) (hI : 0 < I := by decide) (e1 : 256 = J * K := by decide) (e2 : 64 = I * J := by decide) : (y * 256 + b) / K % 64 = y % I * J + b / K := by
  have r := rgI (y := y) hK hJ hI e1 h
  rw [e1, ← Int.mul_assoc, Int.add_comm, Int.add_mul_ediv_right _ _ (Int.ne_of_gt hK), e2, Int.add_comm]
  conv => lhs; rw [← Int.emod_add_mul_ediv y I, Int.add_mul, Int.add_right_comm, Int.mul_right_comm I, Int.add_mul_emod_self_left]
  exact Int.emod_eq_of_lt r.1 r.2
theorem km {y b : Int} (d k : Int) (e : 256 = k * d := by decide) : (y * 256 + b) % d = b % d := by
  rw [e, ← Int.mul_assoc, Int.add_comm, Int.add_mul_emod_self_right]
theorem hdI {x a : Int} (h : Oc a) : (x * 256 + a) / 256 = x := by rw [Int.add_comm, Int.add_mul_ediv_right _ _ (by decide), Int.ediv_eq_zero_of_lt h.1 h.2, Int.zero_add]
theorem md (N : Int) {K : Int} (R : Int) (hK : K ≠ 0 := by decide) (e : 65536 = K * (64 * R) := by decide) : N % 65536 / K % 64 = N / K % 64 := by
  conv => rhs; rw [← Int.emod_add_mul_ediv N 65536]
  generalize N % 65536 = r, N / 65536 = q
  rw [e, Int.mul_assoc, Int.add_mul_ediv_left _ _ hK, Int.mul_assoc, Int.add_mul_emod_self_left]
theorem dd (N : Int) {d : Int} (k : Int) (e : 65536 = d * k := by decide) : N % 65536 % d = N % d := Int.emod_emod_of_dvd _ ⟨k, e⟩
theorem es0 {x a : Int} (h : Oc a) : (x * 256 + a) / 4 % 64 = a / 4 := by rw [kg 4 64 1 h, Int.emod_one, Int.zero_mul, Int.zero_add]
theorem of256 {y a : Int} (hy : y % 256 = a) (d k : Int) (e : 256 = d * k := by decide) : a % d = y % d := hy ▸ Int.emod_emod_of_dvd _ ⟨k, e⟩
theorem es2 {y a b : Int} (h : Oc b) (hy : y % 256 = a) : (y * 256 + b) % 65536 / 16 % 64 = a % 4 * 16 + b / 16 := by rw [md _ 64, kg 16 16 4 h, of256 hy 4 64]
theorem es4 {z b c : Int} (h : Oc c) (hz : z % 256 = b) : (z * 256 + c) % 65536 / 64 % 64 = b % 16 * 4 + c / 64 := by rw [md _ 16, kg 64 4 16 h, of256 hz 16 16]
theorem es1 (z c : Int) : (z * 256 + c) % 65536 / 1 % 64 = c % 64 := by rw [Int.ediv_one, dd _ 1024, km 64 4]
theorem ek {y b : Int} (h : Oc b) : ((y * 256 + b) % 65536) % 256 = b := by rw [dd _ 256, km 256 1, Int.emod_eq_of_lt h.1 h.2]
theorem ev4 (y b : Int) : (y * 256 + b) % 65536 % 4 = b % 4 := by rw [dd _ 16384, km 4 64]
theorem ev16 (y b : Int) : (y * 256 + b) % 65536 % 16 = b % 16 := by rw [dd _ 4096, km 16 16]
theorem encStep0 (x a : Int) (o : List Int) (h : 0 ≤ a ∧ a < 256) : encStep (x, 0, o) a = ((x * 256 + a) % 65536, 2, o ++ [b64ch (a / 4)]) :=
  (if_pos rfl).trans (by rw [md _ 256, es0 h])
theorem encStep2 (y a b : Int) (o : List Int) (h : 0 ≤ b ∧ b < 256) (hy : y % 256 = a) : encStep (y, 2, o) b = ((y * 256 + b) % 65536, 4, o ++ [b64ch (a % 4 * 16 + b / 16)]) :=
  (if_neg (show ¬ (2 : Int) = 0 by decide)).trans ((if_pos rfl).trans (by rw [es2 h hy]))
theorem encStep4 (z b c : Int) (o : List Int) (h : 0 ≤ c ∧ c < 256) (hz : z % 256 = b) : encStep (z, 4, o) c = ((z * 256 + c) % 65536, 0, o ++ [b64ch (b % 16 * 4 + c / 64), b64ch (c % 64)]) :=
  (if_neg (show ¬ (4 : Int) = 0 by decide)).trans ((if_neg (show ¬ (4 : Int) = 2 by decide)).trans (by rw [es4 h hz, es1]))
theorem enc_enc3 (l : List Int) : ∀ (x : Int) (o : List Int), Byt l → encEnd (l.foldl encStep (x, 0, o)) = o ++ enc3 l := by
  refine ind3 (P := fun l => ∀ (x : Int) (o : List Int), Byt l → encEnd (l.foldl encStep (x, 0, o)) = o ++ enc3 l) (fun x o _ => (List.append_nil o).symm) (fun a x o h => ?_) (fun a b x o h => ?_) (fun a b c r ih x o h => ?_) l
  · rw [List.foldl_cons, List.foldl_nil, encStep0 x a o (byt1 h).1]
    show o ++ [b64ch (a / 4)] ++ [b64ch ((x * 256 + a) % 65536 % 4 * 16)] ++ [61] ++ [61] = _
    rw [ev4, List.append_assoc, List.append_assoc, List.append_assoc]; rfl
  · have ha := (byt1 h).1
    rw [List.foldl_cons, List.foldl_cons, List.foldl_nil, encStep0 x a o ha, encStep2 _ a b _ (byt1 (byt1 h).2).1 (ek ha)]
    show o ++ [b64ch (a / 4)] ++ [b64ch (a % 4 * 16 + b / 16)] ++ [b64ch (((x * 256 + a) % 65536 * 256 + b) % 65536 % 16 * 4)] ++ [61] = _
    rw [ev16, List.append_assoc, List.append_assoc, List.append_assoc]; rfl
  · have ha := (byt1 h).1
    have hb := (byt1 (byt1 h).2).1
    have hr := (byt1 (byt1 h).2).2
    rw [List.foldl_cons, List.foldl_cons, List.foldl_cons, encStep0 x a o ha, encStep2 _ a b _ hb (ek ha), encStep4 _ b c _ (byt1 hr).1 (ek hb)]
    rw [ih _ _ (byt1 hr).2, List.append_assoc, List.append_assoc, List.append_assoc]
    rfl
theorem encOut_eq (l : List Int) (h : Byt l) : encOut l = enc3 l := by
  unfold encOut
  rw [enc_enc3 l 0 [] h]; rfl
theorem b64v_ch : ∀ i : Fin 64, b64v (b64ch ((i : Nat) : Int)) = ((i : Nat) : Int) ∧ b64ch ((i : Nat) : Int) ≠ 61 := by decide +kernel
theorem b64v_at {i : Int} (h0 : 0 ≤ i) (h1 : i < 64) : b64v (b64ch i) = i ∧ b64ch i ≠ 61 := allN (N := 64) (P := fun i => b64v (b64ch i) = i ∧ b64ch i ≠ 61) b64v_ch h0 h1
theorem dec0 {i : Int} (h0 : 0 ≤ i) (h1 : i < 64) (lc p : Int) (o : List Int) : decStep (0, lc, p, o) (b64ch i) = (1, i, 0, o) := by
  obtain ⟨e, n⟩ := b64v_at h0 h1
  rw [ds0 n (by rw [e]; exact Int.not_le.mpr h1), e]
theorem dec1 {i : Int} (h0 : 0 ≤ i) (h1 : i < 64) (lc p : Int) (o : List Int) : decStep (1, lc, p, o) (b64ch i) = (2, i % 16, 0, o ++ [lc * 4 + i / 16]) := by
  obtain ⟨e, n⟩ := b64v_at h0 h1
  rw [ds1 n (by rw [e]; exact Int.not_le.mpr h1), e]
theorem dec2 {i : Int} (h0 : 0 ≤ i) (h1 : i < 64) (lc p : Int) (o : List Int) : decStep (2, lc, p, o) (b64ch i) = (3, i % 4, 0, o ++ [lc * 16 + i / 4]) := by
  obtain ⟨e, n⟩ := b64v_at h0 h1
  rw [ds2 n (by rw [e]; exact Int.not_le.mpr h1), e]
theorem dec3 {i : Int} (h0 : 0 ≤ i) (h1 : i < 64) (lc p : Int) (o : List Int) : decStep (3, lc, p, o) (b64ch i) = (0, 0, 0, o ++ [lc * 64 + i]) := by
  obtain ⟨e, n⟩ := b64v_at h0 h1
  rw [ds3 n (by rw [e]; exact Int.not_le.mpr h1), e]
theorem z_in : Oc 0 := by decide
theorem rg1 {a : Int} (h : Oc a) : 0 ≤ a / 4 ∧ a / 4 < 64 := dvI (by decide) (by decide) h
theorem rg2 {a b : Int} (h : Oc b) : 0 ≤ a % 4 * 16 + b / 16 ∧ a % 4 * 16 + b / 16 < 64 := rgI (K := 16) (J := 16) (I := 4) (by decide) (by decide) (by decide) (by decide) h
theorem rg3 {b c : Int} (h : Oc c) : 0 ≤ b % 16 * 4 + c / 64 ∧ b % 16 * 4 + c / 64 < 64 := rgI (K := 64) (J := 4) (I := 16) (by decide) (by decide) (by decide) (by decide) h
theorem rg4 (c : Int) : 0 ≤ c % 64 ∧ c % 64 < 64 := ⟨Int.emod_nonneg _ (by decide), Int.emod_lt_of_pos _ (by decide)⟩
theorem rg2z (a : Int) : 0 ≤ a % 4 * 16 ∧ a % 4 * 16 < 64 := Int.add_zero (a % 4 * 16) ▸ rg2 (a := a) z_in
theorem rg3z (b : Int) : 0 ≤ b % 16 * 4 ∧ b % 16 * 4 < 64 := Int.add_zero (b % 16 * 4) ▸ rg3 (b := b) z_in
theorem qdI {x y K : Int} (h : 0 ≤ y ∧ y < K) : (x * K + y) / K = x ∧ (x * K + y) % K = y := by
  rw [Int.add_comm, Int.add_mul_ediv_right _ _ (Int.ne_of_gt (Int.lt_of_le_of_lt h.1 h.2)), Int.ediv_eq_zero_of_lt h.1 h.2, Int.zero_add, Int.add_mul_emod_self_right]
  exact ⟨rfl, Int.emod_eq_of_lt h.1 h.2⟩
theorem b16I {b : Int} (h : Oc b) : 0 ≤ b / 16 ∧ b / 16 < 16 := dvI (by decide) (by decide) h
theorem c64I {c : Int} (h : Oc c) : 0 ≤ c / 64 ∧ c / 64 < 4 := dvI (by decide) (by decide) h
theorem ida {a b : Int} (h : Oc b) : a / 4 * 4 + (a % 4 * 16 + b / 16) / 16 = a := by rw [(qdI (b16I h)).1, Int.ediv_mul_add_emod]
theorem idb {a b c : Int} (hb : Oc b) (hc : Oc c) : (a % 4 * 16 + b / 16) % 16 * 16 + (b % 16 * 4 + c / 64) / 4 = b := by rw [(qdI (b16I hb)).2, (qdI (c64I hc)).1, Int.ediv_mul_add_emod]
theorem idc {b c : Int} (hc : Oc c) : (b % 16 * 4 + c / 64) % 4 * 64 + c % 64 = c := by rw [(qdI (c64I hc)).2, Int.ediv_mul_add_emod]
theorem decP (q lc p : Int) (o : List Int) : decStep (q, lc, p, o) 61 = (q, lc, p + 1, o) := by
  unfold decStep; rw [if_pos rfl]
def DecGood (c : Int × Int × Int × List Int) (o : List Int) : Prop := c.2.2.2 = o ∧ c.1 ≠ 1 ∧ (c.1 ≠ 0 → 4 ≤ c.1 + c.2.2.1)
theorem dec_enc3 (l : List Int) : ∀ (o : List Int), Byt l → DecGood ((enc3 l).foldl decStep (0, 0, 0, o)) (o ++ l) := by
  refine ind3 (P := fun l => ∀ (o : List Int), Byt l → DecGood ((enc3 l).foldl decStep (0, 0, 0, o)) (o ++ l)) (fun o _ => ⟨(List.append_nil o).symm, (show (0 : Int) ≠ 1 by decide), fun h => absurd rfl h⟩) (fun a o h => ?_) (fun a b o h => ?_) (fun a b c r ih o h => ?_) l
  · have ha := (byt1 h).1
    show DecGood (decStep (decStep (decStep (decStep (0, 0, 0, o) (b64ch (a / 4))) (b64ch (a % 4 * 16))) 61) 61) _
    rw [dec0 (rg1 ha).1 (rg1 ha).2, dec1 (rg2z a).1 (rg2z a).2, decP, decP]
    refine ⟨?_, (show (2 : Int) ≠ 1 by decide), fun _ => (show (4 : Int) ≤ 2 + (0 + 1 + 1) by decide)⟩
    have e := ida (a := a) z_in
    rw [show a % 4 * 16 + 0 / 16 = a % 4 * 16 from Int.add_zero _] at e
    exact congrArg (fun x => o ++ [x]) e
  · have ha := (byt1 h).1
    have hb := (byt1 (byt1 h).2).1
    show DecGood (decStep (decStep (decStep (decStep (0, 0, 0, o) (b64ch (a / 4))) (b64ch (a % 4 * 16 + b / 16))) (b64ch (b % 16 * 4))) 61) _
    rw [dec0 (rg1 ha).1 (rg1 ha).2, dec1 (rg2 hb).1 (rg2 hb).2, dec2 (rg3z b).1 (rg3z b).2, decP]
    refine ⟨?_, (show (3 : Int) ≠ 1 by decide), fun _ => (show (4 : Int) ≤ 3 + (0 + 1) by decide)⟩
    have e2 := idb (a := a) hb z_in
    rw [show b % 16 * 4 + 0 / 64 = b % 16 * 4 from Int.add_zero _] at e2
    show o ++ [a / 4 * 4 + (a % 4 * 16 + b / 16) / 16] ++ [(a % 4 * 16 + b / 16) % 16 * 16 + b % 16 * 4 / 4] = _
    rw [ida hb, e2, List.append_assoc]; rfl
  · have ha := (byt1 h).1
    have hb := (byt1 (byt1 h).2).1
    have hc := (byt1 (byt1 (byt1 h).2).2).1
    show DecGood (List.foldl decStep (decStep (decStep (decStep (decStep (0, 0, 0, o) (b64ch (a / 4))) (b64ch (a % 4 * 16 + b / 16))) (b64ch (b % 16 * 4 + c / 64))) (b64ch (c % 64))) (enc3 r)) _
    rw [dec0 (rg1 ha).1 (rg1 ha).2, dec1 (rg2 hb).1 (rg2 hb).2, dec2 (rg3 hc).1 (rg3 hc).2, dec3 (rg4 c).1 (rg4 c).2, ida hb, idb hb hc, idc hc]
    have := ih (o ++ [a] ++ [b] ++ [c]) (byt1 (byt1 (byt1 h).2).2).2
    have e : o ++ [a] ++ [b] ++ [c] ++ r = o ++ a :: b :: c :: r := by rw [List.append_assoc, List.append_assoc, List.append_assoc]; rfl
    rwa [e] at this
theorem dec_enc (l : List Int) (h : Byt l) : DecGood (decFold (encOut l)) l := by
  rw [encOut_eq l h]
  exact dec_enc3 l [] h
end
section
set_option maxHeartbeats 8000000
open PySem.Calls
inductive Mark5 : Prop
  | mk
theorem fill_lw5 : kk = kk ∧ PySem.Challenge.rw_kq0052_01 = PySem.Challenge.rw_kq0052_01 := by
  k_fill
  exact ⟨rfl, rfl⟩
local macro_rules | `(tactic| walk_at "call type:list") => `(tactic| (with_reducible refine st13 ?_))
local macro_rules | `(tactic| walk_at "call type:str") => `(tactic| (with_reducible refine st14 ?_))
local macro_rules | `(tactic| walk_at "execs cons") => `(tactic| ((have _ : Mark5 := by assumption); with_reducible refine st15 ?_))
structure Oct (B : Array UInt8) (ds : List Int) : Prop where
  ne : B.size ≠ 0
  le : B.size ≤ 48
  bsI : KBw.bInts B = ds
  asc : ∀ x ∈ (b64 B).toList, x.toNat < 128
  sz0 : (b64 B).size ≠ 0
  sz : (b64 B).size ≤ 400
  six : natsOf (b64 B) = sixesOf ds
  d1 : (decFold (bI (b64 B))).1 ≠ 1
  d2 : (decFold (bI (b64 B))).1 ≠ 0 → 4 ≤ (decFold (bI (b64 B))).1 + (decFold (bI (b64 B))).2.2.1
  dec : byteArr (decFold (bI (b64 B))).2.2.2 = B
theorem get_size (h : Heap) : h.get? h.objs.size = none := by
  cases q : h.get? h.objs.size with
  | none => rfl
  | some o => exact absurd (Heap.lt_size q) (Nat.lt_irrefl _)
theorem fr_back {h₀ h : Heap} {L : Addr} {m : PySem.Str → Option Value} {n : PySem.Str} {v : Value} (F : Fr h₀ L h (fun y => if y = n then some v else m y)) (hm : m n = some v) : Fr h₀ L h m := by
  have e : (fun y => if y = n then some v else m y) = m := funext fun y => by split <;> simp_all
  rwa [e] at F
theorem law5 (w : World) (h₀ : Heap) (mg mb : PySem.Str → Option Value) (mean : ExcName → Option Value) (L fa : Addr) (s : Shared) (Q : Flow → Shared → Prop) (E : Value → Shared → Prop) (m : PySem.Str → Option Value)
   (B : Array UInt8) (u : Tok) (ds : List Int) (dvs : List Value) (hi : IntsAre dvs ds) (O : Oct B ds) (du : Addr) (n4 : Nat) (oD : Obj) (rest : Led) (hD : oD.data = .cell (some (.ref du)))
   (X : (kk w.params).In h₀) (T : Top topProg LO mean mg mb h₀)
   (F : Fr h₀ L s.heap m) (hmo : m (ofS "octets") = some (.bytes B u)) (N : News h₀ L s.heap ((L + 1 + 1, oD) :: (du, W.listOf dvs.toArray n4) :: rest))
   (next : ∀ h' tk, News h₀ L h' ((L + 1 + 1, oD) :: (du, W.listOf dvs.toArray n4) :: rest) → Fr h₀ L h' m → wpAny (model pw w) (lawA L fa) (execs (lawRest 6) (lawEnv L fa)) Q E { s with heap := h', toks := tk }) :
   wpAny (model pw w) (lawA L fa) (execs (lawRest 5) (lawEnv L fa)) Q E s := by
  revert w h₀ mg mb mean L fa s Q E m B u ds dvs hi O du n4 oD rest hD X T F hmo N next
  (refine no_implicit_lambda% (pk6 (i1 := nW) ?_); generalize p6_1 _ = w; generalize p6_2 _ = h₀; generalize p6_3 _ = mg; generalize p6_4 _ = mb; generalize p6_5 _ = mean; generalize p6_6 _ = L); (refine no_implicit_lambda% (pk6 (i2 := nS) ?_); generalize p6_1 _ = fa; generalize p6_2 _ = s; generalize p6_3 _ = Q; generalize p6_4 _ = E; generalize p6_5 _ = m; generalize p6_6 _ = B); (refine no_implicit_lambda% (pk3 ?_); generalize p3_1 _ = u; generalize p3_2 _ = ds; generalize p3_3 _ = dvs)
  intro hi O
  (refine no_implicit_lambda% (pk4 ?_); generalize p4_1 _ = du; generalize p4_2 _ = n4; generalize p4_3 _ = oD; generalize p4_4 _ = rest)
  intro hD X T F hmo N next
  have mk5 : Mark5 := .mk
  have hlen : ds.length ≤ 48 := by rw [← O.bsI, KBw.ints_length]; exact O.le
  have hcD : s.heap.IsCell (L + 1 + 1) (some (.ref du)) := ⟨oD, (N _ (.head _)).1, hD⟩
  have Fa := fr_known F hmo
  k_steps
  refine list_bytes rfl B u (fun h1 tk1 vs1 c1 G1 hl1 hI1 => ?_) (by have := O.le; rw [sizeLine_eq]; omega)
  rw [O.bsI] at hI1
  have F1 := Fa.after G1
  have N1 := news_new F N G1 (get_size _) hl1
  have hcD1 := hcD.keeps G1
  clear hcD Fa N F
  k_steps
  refine (b64encode_spec w B _ (by have := O.le; omega)) mean mg mb _ _ _ _ _ _ _ (X.keeps F1.keep) (T.keeps F1.keep) (Nat.le_of_ble_eq_true (by kernel_rfl!)) (Nat.le_of_ble_eq_true (by kernel_rfl!)) trivial ?_
  rintro v h2 tk2 G2 ⟨t2, rfl⟩
  have F2 := F1.after G2
  have N2 := News.grown N1 G2
  have hcD2 := hcD1.keeps G2
  clear hcD1 N1
  k_steps
  show wpAny _ _ (call (.type "str") [.bytes (b64 B) _, .str (ofS "ascii") _]) _ _ _
  refine str_ascii O.sz0 O.asc (by have := O.sz; omega) fun t3 tk3 => ?_
  rw [O.six]
  k_steps
  show wpAny _ _ (call (.ref 189) [.ref _, .str (ofS "+/") _]) _ _ _
  refine (sixes_spec w du _ dvs ds hi hlen) mean mg mb _ _ _ _ _ _ _ (X.keeps F2.keep) (T.keeps F2.keep) (Nat.le_of_ble_eq_true (by kernel_rfl!)) (Nat.le_of_ble_eq_true (by kernel_rfl!)) ⟨_, (N2 _ (.tail _ (.tail _ (.head _)))).1, rfl, n4, rfl⟩ ?_
  rintro v h4 tk4 G4 ⟨t4, rfl⟩
  have F4 := F2.after G4
  have N4 := News.grown N2 G4
  have hcD4 := hcD2.keeps G4
  clear hcD2 N2
  k_steps
  · rename _ = true => hx
    rw [bne_self_eq_false] at hx; cases hx
  refine (b64encode_spec w B _ (by have := O.le; omega)) mean mg mb _ _ _ _ _ _ _ (X.keeps F4.keep) (T.keeps F4.keep) (Nat.le_of_ble_eq_true (by kernel_rfl!)) (Nat.le_of_ble_eq_true (by kernel_rfl!)) trivial ?_
  rintro v h5 tk5 G5 ⟨t5, rfl⟩
  have F5 := F4.after G5
  have N5 := News.grown N4 G5
  clear N4
  k_steps
  refine (b64decode_spec w (b64 B) _ O.sz O.d1 O.d2) mean mg mb _ _ _ _ _ _ _ (X.keeps F5.keep) (T.keeps F5.keep) (Nat.le_of_ble_eq_true (by kernel_rfl!)) (Nat.le_of_ble_eq_true (by kernel_rfl!)) trivial ?_
  rintro v h6 tk6 G6 ⟨t6, rfl⟩
  rw [O.dec]
  have F6 := F5.after G6
  have N6 := News.grown N5 G6
  clear N5
  k_steps
  · rename (B.toList != B.toList) = true => hx
    rw [bne_self_eq_false] at hx; cases hx
  k_steps
  exact next _ _ (fun p hp => N6 p (.tail _ hp)) (fr_back F6 hmo)
end
section
set_option maxHeartbeats 8000000
open PySem.Calls
theorem fill_lw6 : kk = kk ∧ PySem.Challenge.rw_kq0052_01 = PySem.Challenge.rw_kq0052_01 := by
  k_fill
  exact ⟨rfl, rfl⟩
local macro_rules | `(tactic| walk_at "callWith ref") => `(tactic| (k_here; k_dflt (refine' callWith_K ?k1 ?k2 ?_; (case k1 => k_asm); (case k2 => k_is); k_whole)))
local macro_rules | `(tactic| walk_at "call type:range") => `(tactic| (with_reducible refine st16 ?_))
local macro_rules | `(tactic| walk_at "call type:str") => `(tactic| (with_reducible refine st14 ?_))
local macro_rules | `(tactic| k_updF) => `(tactic| exact UpdF.head (by assumption))
theorem small_n (n : Nat) (h : n ≤ 64) : PySem.Builtin.Range.small 0 (n : Int) 1 = true := by
  have key : ∀ i : Fin 65, PySem.Builtin.Range.small 0 ((i : Nat) : Int) 1 = true := by decide +kernel
  exact key ⟨n, by lia⟩
theorem news_app {h₀ h h' : Heap} {L : Addr} {m : PySem.Str → Option Value} {nx led : Led} (F : Fr h₀ L h m) (N : News h₀ L h led) (G : Grow h h') (hq : ∀ q ∈ nx, h'.get? q.1 = some q.2 ∧ h.get? q.1 = none) : News h₀ L h' (nx ++ led) := by
  intro p hp
  rcases List.mem_append.mp hp with hp | hp
  · exact news_new F N G (hq p hp).2 (hq p hp).1 p (.head _)
  · exact News.grown N G p hp
theorem range1_n {w : World} {A : Around} {E : Value → Shared → Prop} {s : Shared} {n : Int} {t : Tok} {Q : Value → Shared → Prop} {h₀ : Heap} {L : Addr} {m : PySem.Str → Option Value} {led : Led} (F : Fr h₀ L s.heap m) (N : News h₀ L s.heap led)
    (h : ∀ h' tk r t1 t2, Fr h₀ L h' m → News h₀ L h' ((r, { cls := .type "range", data := .fields #[.int 0 t1, .int n t, .int 1 t2] }) :: led) → Grow s.heap h' → s.heap.get? r = none → Q (.ref r) { s with heap := h', toks := tk }) :
    wpAny (model pw w) A (call (.type "range") [.int n t]) Q E s := by
  refine call_range_1 ?_
  have G6 : Grow s.heap (s.heap.push { cls := .type "range", data := .fields #[.int 0 s.toks, .int n t, .int 1 (s.toks + 1)] }) := fun b o e => Heap.get?_push_of_some _ e
  exact h _ _ _ _ _ (F.after G6) (news_new F N G6 (get_size _) (Heap.get?_push_size _ rfl)) G6 (get_size _)
structure Fig (B : Array UInt8) (fl : List Nat) (dd : List (Int × Nat)) (n : Nat) : Prop where
  le : B.size ≤ 48
  asc : ∀ x ∈ (b16 B).toList, x.toNat < 128
  sz0 : (b16 B).size ≠ 0
  sz : (b16 B).size ≤ 400
  fig : natsOf (b16 B) = fl
  hn : n ≤ 48
  hn0 : n ≠ 0
  hds : dd.length = n
  hfl : fl.length = 2 * n
  pr : ∀ i, i < n → ∃ c, dd[i]? = some (2 * (i : Int) + 2, c) ∧ AllHex ((fl.drop (2 * i)).take 2) ∧ hexVal ((fl.drop (2 * i)).take 2) = c ∧ c < 256
theorem law6 (w : World) (h₀ : Heap) (mg mb : PySem.Str → Option Value) (mean : ExcName → Option Value) (L fa : Addr) (s : Shared) (Q : Flow → Shared → Prop) (E : Value → Shared → Prop) (m : PySem.Str → Option Value)
   (B : Array UInt8) (u : Tok) (fl : List Nat) (dd : List (Int × Nat)) (n : Nat) (G : Fig B fl dd n) (dvs : List Value) (hdv : dvs.length = n) (du : Addr) (n4 : Nat) (oD oF : Obj) (ps : Array Value) (c1 : Addr) (rest : Led) (hD : oD.data = .cell (some (.ref du))) (hF : oF.data = .cell none)
   (X : (kk w.params).In h₀) (T : Top topProg LO mean mg mb h₀) (C208 : CodeHd h₀ 210 208) (K : Below callerA h₀ [] h₀) (hps : ps = #[] ++ #[rawInt 278, rawInt 20, .ref c1])
   (F : Fr h₀ L s.heap m) (hmo : m (ofS "octets") = some (.bytes B u)) (N : News h₀ L s.heap ((L + 1 + 1 + 1, oF) :: (208, tabObj ps) :: (L + 1 + 1, oD) :: (du, W.listOf dvs.toArray n4) :: rest)) (D : Nd ((L + 1 + 1 + 1, oF) :: (208, tabObj ps) :: (L + 1 + 1, oD) :: (du, W.listOf dvs.toArray n4) :: rest)) (sg : Addr) (hms : m (ofS "signs") = some (.ref sg))
   (next : ∀ h' tk m' oF' tF l8 items n8 tups c2, TupsIn tups items dd → oF'.data = .cell (some (.str (tx fl) tF)) → m' (ofS "read") = some (.ref l8) → m' (ofS "signs") = some (.ref sg) →
     News h₀ L h' ((208, tabObj (#[] ++ #[rawInt 278, rawInt 20, .ref c1] ++ #[rawInt 282, rawInt 18, .ref c2])) :: (L + 1 + 1 + 1, oF') :: (L + 1 + 1, oD) :: (du, W.listOf dvs.toArray n4) :: (l8, W.listOf items.toArray n8) :: (tups ++ rest)) →
     Nd ((208, tabObj (#[] ++ #[rawInt 278, rawInt 20, .ref c1] ++ #[rawInt 282, rawInt 18, .ref c2])) :: (L + 1 + 1 + 1, oF') :: (L + 1 + 1, oD) :: (du, W.listOf dvs.toArray n4) :: rest) →
     Fr h₀ L h' m' → wpAny (model pw w) (lawA L fa) (execs (lawRest 8) (lawEnv L fa)) Q E { s with heap := h', toks := tk }) :
   wpAny (model pw w) (lawA L fa) (execs (lawRest 6) (lawEnv L fa)) Q E s := by
  revert w h₀ mg mb mean L fa s Q E m B u fl dd n G dvs hdv du n4 oD oF ps c1 rest hD hF X T C208 K hps F hmo N D sg hms next
  (refine no_implicit_lambda% (pk6 (i1 := nW) ?_); generalize p6_1 _ = w; generalize p6_2 _ = h₀; generalize p6_3 _ = mg; generalize p6_4 _ = mb; generalize p6_5 _ = mean; generalize p6_6 _ = L); (refine no_implicit_lambda% (pk6 (i2 := nS) ?_); generalize p6_1 _ = fa; generalize p6_2 _ = s; generalize p6_3 _ = Q; generalize p6_4 _ = E; generalize p6_5 _ = m; generalize p6_6 _ = B); (refine no_implicit_lambda% (pk4 ?_); generalize p4_1 _ = u; generalize p4_2 _ = fl; generalize p4_3 _ = dd; generalize p4_4 _ = n)
  intro G
  (refine no_implicit_lambda% (pk1 ?_); generalize p1_1 _ = dvs)
  intro hdv
  (refine no_implicit_lambda% (pk6 ?_); generalize p6_1 _ = du; generalize p6_2 _ = n4; generalize p6_3 _ = oD; generalize p6_4 _ = oF; generalize p6_5 _ = ps; generalize p6_6 _ = c1); (refine no_implicit_lambda% (pk1 ?_); generalize p1_1 _ = rest)
  intro hD hF X T C208 K hps F hmo N D
  (refine no_implicit_lambda% (pk1 ?_); generalize p1_1 _ = sg)
  intro hms next
  show wpAny _ _ (execs (_ :: _ :: lawRest 8) _) _ _ _
  generalize hR : lawRest 8 = R
  have hcD : s.heap.IsCell (L + 1 + 1) (some (.ref du)) := ⟨oD, (N _ (.tail _ (.tail _ (.head _)))).1, hD⟩
  have Fa := fr_known F hmo
  k_steps
  show wpAny _ _ (call (.ref 156) [.bytes B _]) _ _ _
  refine (b16_spec w B _ (by have := G.le; lia)) mean mg mb _ _ _ _ _ _ _ (X.keeps Fa.keep) (T.keeps Fa.keep) (Nat.le_of_ble_eq_true (by kernel_rfl!)) (Nat.le_of_ble_eq_true (by kernel_rfl!)) trivial ?_
  rintro v h2 tk2 G2 ⟨t2, rfl⟩
  have F2 := F.after G2
  have N2 := News.grown N G2
  have hcD2 := hcD.keeps G2
  clear hcD N F Fa
  k_steps
  show wpAny _ _ (call (.type "str") [.bytes (b16 B) _, .str (ofS "ascii") _]) _ _ _
  refine str_ascii G.sz0 G.asc (by have := G.sz; lia) fun t3 tk3 => ?_
  rw [G.fig]
  show wpAny _ _ (storeName _ _ (.str (tx fl) _)) _ _ _
  refine store_cellL (c := L + 1 + 1 + 1) rfl (by kernel_rfl) (by kernel_rfl) hF F2 N2 D fun h3 oF' hF' F3 N3 => ?_
  have D3 := Nd.upd (o' := oF') D
  clear F2 N2 hcD2 D
  have hcD3 : h3.IsCell (L + 1 + 1) (some (.ref du)) := ⟨oD, (N3 _ (.tail _ (.tail _ (.head _)))).1, hD⟩
  have N4 := News.perm N3 (List.Perm.swap _ _ _)
  have D4 := D3.perm (List.Perm.swap _ _ _)
  have h208 : ∀ p ∈ (L + 1 + 1 + 1, oF') :: (L + 1 + 1, oD) :: (du, W.listOf dvs.toArray n4) :: rest, p.1 ≠ 208 := D4.head
  clear N3
  subst hps
  k_steps
  rename Fr _ _ _ _ => F5
  rename News _ _ _ _ => N5
  rename_i f2 c2 oc2 vs2 t5 ct2 h5 tk5 d1 d2 l1 l2
  have hdu : h5.IsList du dvs.toArray := ⟨_, (N5 _ (.tail _ (.tail _ (.tail _ (.tail _ (.tail _ (.head _))))))).1, rfl, n4, rfl⟩
  refine len_at (l := du) (k := (n : Int)) hdu (by rw [List.size_toArray, hdv]) (by have := G.hn; lia) ?_
  have hn48 := G.hn
  have ho : h5.get? f2 = some (lamObj lamE2 [(ofS "figures", L + 1 + 1 + 1)] ((mg (PySem.Str.ofString "__name__")).getD .none) c2 ct2) := (N5 _ (.head _)).1.trans (by kernel_rfl)
  have hcd : h5.CodeRec (.ref c2) (ofS "law.<locals>.<lambda>") := ⟨c2, oc2, vs2, t5, rfl, (N5 _ (.tail _ (.head _))).1, d1, q_to d2 (by kernel_rfl)⟩
  have hcF : h5.IsCell (L + 1 + 1 + 1) (some (.str (tx fl) t3)) := ⟨oF', (N5 _ (.tail _ (.tail _ (.tail _ (.head _))))).1, hF'⟩
  k_steps
  refine range1_n F5 N5 fun h6 tk6 r6 t6 u6 F6 N6 G6 hr6 => ?_
  clear F5 N5
  k_steps
  rename Fr _ _ _ _ => F7
  rename News _ _ _ _ => N7
  rename_i l7 h7 l3
  have ho7 : h7.get? f2 = some (lamObj lamE2 [(ofS "figures", L + 1 + 1 + 1)] ((mg (PySem.Str.ofString "__name__")).getD .none) c2 ct2) := (N7 _ (.tail _ (.tail _ (.head _)))).1.trans (by kernel_rfl)
  have hcd7 : h7.CodeRec (.ref c2) (ofS "law.<locals>.<lambda>") := ⟨c2, oc2, vs2, t5, rfl, (N7 _ (.tail _ (.tail _ (.tail _ (.head _))))).1, d1, q_to d2 (by kernel_rfl)⟩
  have hcF7 : h7.IsCell (L + 1 + 1 + 1) (some (.str (tx fl) t3)) := ⟨oF', (N7 _ (.tail _ (.tail _ (.tail _ (.tail _ (.tail _ (.head _))))))).1, hF'⟩
  have hl7 : h7.get? l7 = some (W.listOf #[] 0) := (N7 _ (.head _)).1
  have hne : l7 ≠ 164 := by
    intro e
    have h1 := (N7 _ (.head _)).2.2
    have h2 := X 164 ⟨.type "object", none, .plain, #[]⟩ (by kernel_rfl)
    rw [show (l7, W.listOf (List.toArray []) 0).1 = 164 from e, h2] at h1
    cases h1
  show wpAny _ _ (call (.ref 172) [.ref f2, .ref r6, .ref l7]) _ _ _
  refine (reduce_spec w f2 r6 _ n h7 (.inr ⟨l7, rfl, hne, _, hl7⟩) (fun i x => ∃ t, x = .int (0 + (i : Int) * 1) t) (R2 h7 dd) ⟨_, _, _, _, ho7⟩ ⟨l7, [], 0, [], rfl, .inl ⟨rfl, rfl, hl7, rfl, rfl⟩, .nil⟩ (iterOk_range n ((N7 _ (.tail _ (.head _))).1) ?hsm ?hrs) fun i hi => lam2_step w f2 c2 _ _ ct2 h7 mean mg mb (X.keeps F7.keep) (T.keeps F7.keep) ho7 hcd7 fl t3 hcF7 dd n hn48 G.hds G.hfl G.pr i hi) mean mg mb _ _ _ _ _ _ _ (X.keeps F7.keep) (T.keeps F7.keep) (Nat.le_of_ble_eq_true (by kernel_rfl!)) (Nat.le_of_ble_eq_true (by kernel_rfl!)) (Grow.refl _) ?_
  case hsm => exact small_n n (by lia)
  case hrs => rw [rangeSize_nat]; lia
  rintro v h8 tk8 G8 ⟨nx, ⟨l8, items, n8, tups, rfl, hl8, hT8⟩, hnx⟩
  obtain ⟨e0, _⟩ | rfl := hl8
  · exact absurd e0 G.hn0
  have F8 := F7.after G8
  have N8 := news_app F7 N7 G8 hnx
  have N9 : News h₀ L h8 ((208, tabObj (#[] ++ #[rawInt 278, rawInt 20, .ref c1] ++ #[rawInt 282, rawInt 18, .ref c2])) :: (L + 1 + 1 + 1, oF') :: (L + 1 + 1, oD) :: (du, W.listOf dvs.toArray n4) :: (l8, W.listOf items.toArray n8) :: (tups ++ rest)) := by
    intro p hp
    apply N8
    simp only [List.cons_append, List.mem_cons, List.mem_append] at hp ⊢
    rcases hp with h | h | h | h | h | h | h <;> simp [h]
  have D9 := Nd.upd (o' := tabObj (#[] ++ #[rawInt 278, rawInt 20, .ref c1] ++ #[rawInt 282, rawInt 18, .ref c2])) D4
  clear N8 F7 N7 N4 D3 F3
  k_steps
  rename Fr _ _ _ _ => F10
  rename News _ _ _ _ => N10
  rw [show List.take n dd = dd from List.take_of_length_le (Nat.le_of_eq G.hds)] at hT8
  subst hR
  exact next _ _ _ oF' t3 l8 items n8 tups c2 hT8 hF' (if_pos rfl) ((if_neg (by decide +kernel)).trans hms) (N10) D9 F10
end
section
set_option maxHeartbeats 4000000
open PySem.W.X PySem.Calls
theorem br_obj : Builtin.Slots.bestBase [.type "object"] = pure (.type "object") := by kernel_rfl
theorem sn_obj : Builtin.Slots.slotNamesOf (.type "object") = pure [] := by kernel_rfl
theorem gd_obj : Builtin.Slots.givesDict (.type "object") = pure false := by kernel_rfl
theorem gw_obj : Builtin.Slots.givesWeak (.type "object") = pure false := by kernel_rfl
theorem vs_obj : Builtin.Slots.varSize (.type "object") = pure false := by kernel_rfl
theorem slots_read {w : World} {A : Around} {E : Value → Shared → Prop} {Q : Builtin.Slots.Plan → Shared → Prop} {h₀ hp : Heap} {chg news : List (Addr × Obj)} {g : Array GenState} {d : Drawn} {tk : Nat} {os : OsState} {f1 f2 f3 f4 f5 f6 sl sa : Addr} {k0 k1 k2 k3 k4 k5 k6 k7 k8 k9 k10 k11 : Int} {u0 u1 u2 u3 u4 u5 u6 u7 u8 u9 u10 u11 v0 v1 v2 ts : Tok} {nsl : Nat}
   (D : Mem h₀ hp chg news) (hsl : hp.get? sl = some { cls := .type "list", data := .seq #[.str (ofS "obj") ts] nsl })
   (k : ∀ a h', Mem h₀ h' chg ((a, Obj.mapSeq (· ++ #[.str (ofS "obj") ts]) { cls := .type "list", data := .seq #[] }) :: news) → Q { names := [ofS "obj"], dict := false, weak := false, inherited := [] } ⟨h', g, d, tk, os⟩) :
   wpAny (model pw w) A (Builtin.Slots.read (ofS "K") [.type "object"] #[⟨k0, .str (ofS "__module__") u0, .str (ofS "cpy313.functools") v0⟩, ⟨k1, .str (ofS "__qualname__") u1, .str (ofS "cmp_to_key.<locals>.K") v1⟩, ⟨k2, .str (ofS "__firstlineno__") u2, .int 199 v2⟩, ⟨k3, .str (ofS "__slots__") u3, .ref sl⟩, ⟨k4, .str (ofS "__init__") u4, .ref f1⟩, ⟨k5, .str (ofS "__lt__") u5, .ref f2⟩, ⟨k6, .str (ofS "__gt__") u6, .ref f3⟩, ⟨k7, .str (ofS "__eq__") u7, .ref f4⟩, ⟨k8, .str (ofS "__le__") u8, .ref f5⟩, ⟨k9, .str (ofS "__ge__") u9, .ref f6⟩, ⟨k10, .str (ofS "__hash__") u10, .none⟩, ⟨k11, .str (ofS "__static_attributes__") u11, .ref sa⟩]) Q E ⟨hp, g, d, tk, os⟩ := by
  unfold Builtin.Slots.read
  refine wpAny_bind (wpAny_of_eq br_obj ?_)
  refine wpAny_bind (wpAny_of_eq sn_obj ?_)
  refine wpAny_bind (wpAny_of_eq gd_obj ?_)
  refine wpAny_bind (wpAny_of_eq gw_obj ?_)
  refine wpAny_bind (wpAny_of_eq vs_obj ?_)
  generalize hes : (#[⟨k0, .str (ofS "__module__") u0, .str (ofS "cpy313.functools") v0⟩, ⟨k1, .str (ofS "__qualname__") u1, .str (ofS "cmp_to_key.<locals>.K") v1⟩, ⟨k2, .str (ofS "__firstlineno__") u2, .int 199 v2⟩, ⟨k3, .str (ofS "__slots__") u3, .ref sl⟩, ⟨k4, .str (ofS "__init__") u4, .ref f1⟩, ⟨k5, .str (ofS "__lt__") u5, .ref f2⟩, ⟨k6, .str (ofS "__gt__") u6, .ref f3⟩, ⟨k7, .str (ofS "__eq__") u7, .ref f4⟩, ⟨k8, .str (ofS "__le__") u8, .ref f5⟩, ⟨k9, .str (ofS "__ge__") u9, .ref f6⟩, ⟨k10, .str (ofS "__hash__") u10, .none⟩, ⟨k11, .str (ofS "__static_attributes__") u11, .ref sa⟩] : Array DictEntry) = es
  have hf : es.find? (fun e => e.key.isStr (PySem.Str.ofString "__slots__")) = some ⟨k3, .str (ofS "__slots__") u3, .ref sl⟩ := by subst hes; kernel_rfl
  rw [hf]
  refine wpAny_bind (wpAny_rule ?_)
  refine wpAny_bind ?_
  show wpAny _ _ (load sl >>= _) _ _ _
  refine wpAny_bind (wpAny_load hsl ?_)
  refine wpAny_pure ?_
  refine wpAny_bind (m := collect (.ref sl)) ?_
  unfold collect
  refine wpAny_bind (collectM D hsl fun a h' D' => ?_)
  refine wpAny_bind (wpAny_load (D'.at 0 _ _ rfl) ?_)
  refine wpAny_pure ?_
  subst hes
  refine wpAny_of_eq (a := { names := [ofS "obj"], dict := false, weak := false, inherited := [] }) ?_ (k _ _ D')
  kernel_rfl
end
section
set_option maxHeartbeats 4000000
open PySem.W.X PySem.Calls
local macro_rules | `(tactic| walk_at "c1z") => `(tactic| (with_reducible conv => arg 3; whnf))

local macro_rules | `(tactic| walk_at "c2") => `(tactic| (with_reducible refine st17 ?_))
local macro_rules | `(tactic| walk_at "c2") => `(tactic| (with_reducible refine st18 ?_))
local macro_rules | `(tactic| walk_at "c2") => `(tactic| (with_reducible refine st19 ?_))
local macro_rules | `(tactic| walk_at "c2") => `(tactic| (with_reducible refine st20 ?_))
theorem ty1 : typeOf (.type "object") = pure (.type "type") := by kernel_rfl
theorem tl1 : typeLookup (.type "dict") "__iter__" = pure (some (.builtin "dict.__iter__")) := by rw [typeLookup_type, builtinLookup_eq_fast]; kernel_rfl
theorem tl2 : typeLookup (.type "type") "mro" = pure (some (.builtin "type.mro")) := by rw [typeLookup_type, builtinLookup_eq_fast]; kernel_rfl
theorem tl3 : typeLookup (.type "object") "__new__" = pure (some (.builtin "object.__new__")) := by rw [typeLookup_type, builtinLookup_eq_fast]; kernel_rfl
theorem filter_ne (a : Addr) : List.filter (fun x => x != Value.ref a) [Value.ref a, Value.type "object"] = [Value.type "object"] := by simp
theorem sup_tail {w : World} {A : Around} (hh : A.handled = none) (hd : A.depth ≤ 400) (hu : A.units ≤ 3000) {Q : Unit → Shared → Prop} {E} {h : Heap} {g : Array GenState} {d : Drawn} {tk : Nat} {os : OsState} {a b ns : Addr} {t1 t2 : Tok}
   (hst : h.get? cStatics = some ⟨.none, none, .dict #[] 0, #[]⟩) (ho : h.get? a = some ⟨.type "type", none, .cls { name := ofS "K", bases := [.type "object"], mro := [.ref a, .type "object"], ns := ns, qualname := ofS "cmp_to_key.<locals>.K", hasDict := false, slotNames := [ofS "obj"], subclasses := [], abstract := false, collection := none, hasDel := false }, #[some (.ref b), none, some (.str (ofS "K") t1), some (.str (ofS "cmp_to_key.<locals>.K") t2), some (.builtin "object.__new__"), some (.bool false)]⟩) (hret : ∀ h' tk', Grow h h' → Q () ⟨h', g, d, tk', os⟩) :
   wpAny (model pw w) A (call (.type "super") [.ref a, .ref a]) (fun r s' => wpAny (model pw w) A (do let f ← holding [r] (getAttr r "__init_subclass__"); let _ ← call f; pure ()) Q E s') E ⟨h, g, d, tk, os⟩ := by
  refine roomy hh (by omega) (by omega) (super_call w _ _ _ a b ns t1 t2 ho ?_)
  rintro v h' tk' ⟨r, rfl, D⟩
  refine wpAny_bind (wpAny_holding ?_)
  have G := grow_of D
  refine init_sub w A hh hd (by omega) h' (G _ _ hst) g d tk' os _ _ a b ns r t1 t2 (G _ _ ho) (D.at 0 _ _ rfl) ?_
  rintro v h2 tk2 ⟨f, rfl, G2, hf⟩
  refine wpAny_bind (roomy hh (by omega) (by omega) (isc_call w _ _ _ a b ns f t1 t2 (G2 _ _ (G _ _ ho)) hf ?_))
  rintro v h3 tk3 ⟨rfl, rfl⟩
  exact wpAny_pure (hret _ _ (G.trans G2))
theorem type_new (w : World) (A : Around) (hh : A.handled = none) (hd : A.depth ≤ 400) (hu : A.units ≤ 3000) (Q : PySem.Fin → Shared → Prop) (E : Value → Shared → Prop) (hp : Heap) (g : Array GenState) (d : Drawn) (tk : Nat) (os : OsState) (b nsA f1 f2 f3 f4 f5 f6 sl sa : Addr) {k0 k1 k2 k3 k4 k5 k6 k7 k8 k9 k10 k11 : Int} {u0 u1 u2 u3 u4 u5 u6 u7 u8 u9 u10 u11 v0 v1 v2 : Tok} (t ts : Tok) (n nsl : Nat)
   (hst : hp.get? cStatics = some ⟨.none, none, .dict #[] 0, #[]⟩)
   (hb : hp.get? b = some { cls := .type "tuple", data := .seq #[.type "object"] 0 })
   (hn : hp.get? nsA = some { cls := .type "dict", data := .dict #[⟨k0, .str (ofS "__module__") u0, .str (ofS "cpy313.functools") v0⟩, ⟨k1, .str (ofS "__qualname__") u1, .str (ofS "cmp_to_key.<locals>.K") v1⟩, ⟨k2, .str (ofS "__firstlineno__") u2, .int 199 v2⟩, ⟨k3, .str (ofS "__slots__") u3, .ref sl⟩, ⟨k4, .str (ofS "__init__") u4, .ref f1⟩, ⟨k5, .str (ofS "__lt__") u5, .ref f2⟩, ⟨k6, .str (ofS "__gt__") u6, .ref f3⟩, ⟨k7, .str (ofS "__eq__") u7, .ref f4⟩, ⟨k8, .str (ofS "__le__") u8, .ref f5⟩, ⟨k9, .str (ofS "__ge__") u9, .ref f6⟩, ⟨k10, .str (ofS "__hash__") u10, .none⟩, ⟨k11, .str (ofS "__static_attributes__") u11, .ref sa⟩] n })
   (hsys : (nsA == sysModules) = false) (hsl : hp.get? sl = some { cls := .type "list", data := .seq #[.str (ofS "obj") ts] nsl })
   {d1 : Option Addr} {dt1 : Data} {ss1 : Array (Option Value)} {d2 : Option Addr} {dt2 : Data} {ss2 : Array (Option Value)} {d3 : Option Addr} {dt3 : Data} {ss3 : Array (Option Value)} {d4 : Option Addr} {dt4 : Data} {ss4 : Array (Option Value)} {d5 : Option Addr} {dt5 : Data} {ss5 : Array (Option Value)} {d6 : Option Addr} {dt6 : Data} {ss6 : Array (Option Value)} (hf1 : hp.get? f1 = some { cls := .type "function", dict := d1, data := dt1, slots := ss1 }) (hf2 : hp.get? f2 = some { cls := .type "function", dict := d2, data := dt2, slots := ss2 }) (hf3 : hp.get? f3 = some { cls := .type "function", dict := d3, data := dt3, slots := ss3 }) (hf4 : hp.get? f4 = some { cls := .type "function", dict := d4, data := dt4, slots := ss4 }) (hf5 : hp.get? f5 = some { cls := .type "function", dict := d5, data := dt5, slots := ss5 }) (hf6 : hp.get? f6 = some { cls := .type "function", dict := d6, data := dt6, slots := ss6 }) {nsa : Nat} {vsa : Array Value} (hsa : hp.get? sa = some { cls := .type "tuple", data := .seq vsa nsa })
   (hret : ∀ a md ns h' tk' t2 tM tO tD en, Grow hp h' → hp.get? a = none → hp.get? ns = none → h'.get? a = some ⟨.type "type", none, .cls { name := ofS "K", bases := [.type "object"], mro := [.ref a, .type "object"], ns := ns, qualname := ofS "cmp_to_key.<locals>.K", hasDict := false, slotNames := [ofS "obj"], subclasses := [], abstract := false, collection := none, hasDel := false }, #[some (.ref b), none, some (.str (ofS "K") t), some (.str (ofS "cmp_to_key.<locals>.K") t2), some (.builtin "object.__new__"), some (.bool false)]⟩ → h'.get? md = some ⟨.type "member_descriptor", none, .fields #[.str (ofS "obj") tM, .ref a, .builtin "proto.slot", .builtin "proto.slot#set", rawInt 0], #[]⟩ → h'.get? ns = some ⟨.type "dict", none, .dict #[⟨k0, .str (ofS "__module__") u0, .str (ofS "cpy313.functools") v0⟩, ⟨k2, .str (ofS "__firstlineno__") u2, .int 199 v2⟩, ⟨k3, .str (ofS "__slots__") u3, .ref sl⟩, ⟨k4, .str (ofS "__init__") u4, .ref f1⟩, ⟨k5, .str (ofS "__lt__") u5, .ref f2⟩, ⟨k6, .str (ofS "__gt__") u6, .ref f3⟩, ⟨k7, .str (ofS "__eq__") u7, .ref f4⟩, ⟨k8, .str (ofS "__le__") u8, .ref f5⟩, ⟨k9, .str (ofS "__ge__") u9, .ref f6⟩, ⟨k10, .str (ofS "__hash__") u10, .none⟩, ⟨k11, .str (ofS "__static_attributes__") u11, .ref sa⟩, ⟨PyData.keyHash w.params (ofS "obj"), .str (ofS "obj") tO, .ref md⟩, ⟨PyData.keyHash w.params (ofS "__doc__"), .str (ofS "__doc__") tD, .none⟩] en, #[]⟩ → Q (.done (.ret (.ref a))) ⟨h', g, d, tk', os⟩)
  : wpAny (model pw w) A (Builtin.«type.__new__» ⟨[.type "type", .str (ofS "K") t, .ref b, .ref nsA], []⟩) Q E ⟨hp, g, d, tk, os⟩ := by
  revert w A hh hd hu Q E hp g d tk os b nsA f1 f2 f3 f4 f5 f6 sl sa k0 k1 k2 k3 k4 k5 k6 k7 k8 k9 k10 k11 u0 u1 u2 u3 u4 u5 u6 u7 u8 u9 u10 u11 v0 v1 v2 t ts n nsl hst hb hn hsys hsl d1 dt1 ss1 d2 dt2 ss2 d3 dt3 ss3 d4 dt4 ss4 d5 dt5 ss5 d6 dt6 ss6 hf1 hf2 hf3 hf4 hf5 hf6 nsa vsa hsa hret
  (refine no_implicit_lambda% (pk2 (i1 := nW) (i2 := nA) ?_); generalize p2_1 _ = w; generalize p2_2 _ = A)
  intro hh hd hu
  (refine no_implicit_lambda% (pk6 (i5 := nD) ?_); generalize p6_1 _ = Q; generalize p6_2 _ = E; generalize p6_3 _ = hp; generalize p6_4 _ = g; generalize p6_5 _ = d; generalize p6_6 _ = tk); (refine no_implicit_lambda% (pk6 ?_); generalize p6_1 _ = os; generalize p6_2 _ = b; generalize p6_3 _ = nsA; generalize p6_4 _ = f1; generalize p6_5 _ = f2; generalize p6_6 _ = f3); (refine no_implicit_lambda% (pk6 ?_); generalize p6_1 _ = f4; generalize p6_2 _ = f5; generalize p6_3 _ = f6; generalize p6_4 _ = sl; generalize p6_5 _ = sa; generalize p6_6 _ = k0); (refine no_implicit_lambda% (pk6 ?_); generalize p6_1 _ = k1; generalize p6_2 _ = k2; generalize p6_3 _ = k3; generalize p6_4 _ = k4; generalize p6_5 _ = k5; generalize p6_6 _ = k6); (refine no_implicit_lambda% (pk6 ?_); generalize p6_1 _ = k7; generalize p6_2 _ = k8; generalize p6_3 _ = k9; generalize p6_4 _ = k10; generalize p6_5 _ = k11; generalize p6_6 _ = u0); (refine no_implicit_lambda% (pk6 ?_); generalize p6_1 _ = u1; generalize p6_2 _ = u2; generalize p6_3 _ = u3; generalize p6_4 _ = u4; generalize p6_5 _ = u5; generalize p6_6 _ = u6); (refine no_implicit_lambda% (pk6 ?_); generalize p6_1 _ = u7; generalize p6_2 _ = u8; generalize p6_3 _ = u9; generalize p6_4 _ = u10; generalize p6_5 _ = u11; generalize p6_6 _ = v0); (refine no_implicit_lambda% (pk6 ?_); generalize p6_1 _ = v1; generalize p6_2 _ = v2; generalize p6_3 _ = t; generalize p6_4 _ = ts; generalize p6_5 _ = n; generalize p6_6 _ = nsl)
  intro hst hb hn hsys hsl
  (refine no_implicit_lambda% (pk6 ?_); generalize p6_1 _ = d1; generalize p6_2 _ = dt1; generalize p6_3 _ = ss1; generalize p6_4 _ = d2; generalize p6_5 _ = dt2; generalize p6_6 _ = ss2); (refine no_implicit_lambda% (pk6 ?_); generalize p6_1 _ = d3; generalize p6_2 _ = dt3; generalize p6_3 _ = ss3; generalize p6_4 _ = d4; generalize p6_5 _ = dt4; generalize p6_6 _ = ss4); (refine no_implicit_lambda% (pk6 ?_); generalize p6_1 _ = d5; generalize p6_2 _ = dt5; generalize p6_3 _ = ss5; generalize p6_4 _ = d6; generalize p6_5 _ = dt6; generalize p6_6 _ = ss6)
  intro hf1 hf2 hf3 hf4 hf5 hf6
  (refine no_implicit_lambda% (pk2 ?_); generalize p2_1 _ = nsa; generalize p2_2 _ = vsa)
  intro hsa hret
  have D := Mem.start hp
  unfold Builtin.«type.__new__»
  have q3 := ty1; have q4 := tl1; have q6 := tl2; have q7 := tl3
  repeat walk_at "c2"
  refine slots_read (by assumption) (Mem.old (by assumption) _ _ hsl rfl) ?_
  (refine pk2 ?_; generalize p2_1 _ = a1; generalize p2_2 _ = h1)
  intro D1
  repeat walk_at "c2"
  refine tree_eq (congrArg (List.anyM _) (filter_ne _)) ?_
  repeat walk_at "c2"
  rename_i ns g1 a g2 g3 g4 g5 g6 g7 g8 md h2 h3 h4 h5 h6 D6
  have hx := D6.at 1 _ _ rfl
  have hx0 := (D6.nw _ (.tail _ (.head _))).2
  have hx1 := (D6.nw _ (.tail _ (.tail _ (.head _)))).2
  have hy := D6.at 0 _ _ rfl
  have hz := D6.at 2 _ _ rfl
  refine sup_tail (a := a) (b := b) (ns := ns) (t1 := t) (t2 := v1) hh hd hu (D6.old _ _ hst rfl) (hx.trans (congrArg some (by kernel_rfl!))) fun h' tk' G => ?_
  refine wpAny_pure (hret a md ns h' tk' v1 tk (tk + 1) (tk + 1 + 1) 3 ((grow_of D6).trans G) hx0 hx1 (G _ _ (hx.trans (congrArg some (by kernel_rfl!)))) (G _ _ (hy.trans (congrArg some (by kernel_rfl!)))) (G _ _ (hz.trans (congrArg some (by kernel_rfl!)))))
end
section
set_option maxHeartbeats 4000000
open PySem.W.X PySem.Calls
local macro_rules | `(tactic| walk_at "c1z") => `(tactic| (dsimp only))

local macro_rules | `(tactic| x_close) => `(tactic| (refine' Ends.use ?h ?k; (case h => assumption); (case k => exact ⟨rfl, rfl⟩)))
theorem tinit_call (w : World) (s : Shared) (Q E : Value → Shared → Prop) (a b ns nsA : Addr) (t t1 t2 : Tok) (ho : s.heap.get? a = some ⟨.type "type", none, .cls { name := ofS "K", bases := [.type "object"], mro := [.ref a, .type "object"], ns := ns, qualname := ofS "cmp_to_key.<locals>.K", hasDict := false, slotNames := [ofS "obj"], subclasses := [], abstract := false, collection := none, hasDel := false }, #[some (.ref b), none, some (.str (ofS "K") t1), some (.str (ofS "cmp_to_key.<locals>.K") t2), some (.builtin "object.__new__"), some (.bool false)]⟩)
  (hret : Ends Q s fun v h' => v = .none ∧ h' = s.heap) :
  wpAny (model pw w) RA (call (.builtin "type.__init__") [.ref a, .str (ofS "K") t, .ref b, .ref nsA]) Q E s := by
  x_run
theorem tcf1 : typeLookup (.type "type") "__init__" = pure (some (.builtin "type.__init__")) := by rw [typeLookup_type, builtinLookup_eq_fast]; kernel_rfl
theorem slot_tinit : Slot "type" "__init__" "type.__init__" :=
  .of (owner := "type") (n := "__init__") tcf1 (by decide +kernel) (by decide +kernel) (by decide +kernel)
    (by first | exact .inl (by decide +kernel) | exact .inr (by decide +kernel)) (by rw [isSubtype_type]; kernel_rfl)
theorem e_tnew : entryFor table "type.__new__" = some Builtin.«type.__new__» := entryFor_of_tree (by kernel_rfl)
theorem p_tnew : plainId "type.__new__" = true := by decide +kernel
theorem tmade : Bind.madeBy (.type "type") = pure (some "type.__new__") := by kernel_rfl
theorem tcheck (a b c : Value) : checkTypeCall "type" ⟨[a, b, c], []⟩ = pure () := by kernel_rfl
theorem ncheck (a b c : Value) : checkBuiltinCall "type.__new__" ⟨[.type "type", a, b, c], []⟩ = pure () := by kernel_rfl
theorem type_call (w : World) (A : Around) (hh : A.handled = none) (hd : A.depth ≤ 400) (hu : A.units ≤ 2900) (Q : Value → Shared → Prop) (E) (hp : Heap) (g : Array GenState) (d : Drawn) (tk : Nat) (os : OsState) (b nsA f1 f2 f3 f4 f5 f6 sl sa : Addr) {k0 k1 k2 k3 k4 k5 k6 k7 k8 k9 k10 k11 : Int} {u0 u1 u2 u3 u4 u5 u6 u7 u8 u9 u10 u11 v0 v1 v2 : Tok} (t ts : Tok) (n nsl : Nat)
   (hst : hp.get? cStatics = some ⟨.none, none, .dict #[] 0, #[]⟩)
   (hb : hp.get? b = some { cls := .type "tuple", data := .seq #[.type "object"] 0 })
   (hn : hp.get? nsA = some { cls := .type "dict", data := .dict #[⟨k0, .str (ofS "__module__") u0, .str (ofS "cpy313.functools") v0⟩, ⟨k1, .str (ofS "__qualname__") u1, .str (ofS "cmp_to_key.<locals>.K") v1⟩, ⟨k2, .str (ofS "__firstlineno__") u2, .int 199 v2⟩, ⟨k3, .str (ofS "__slots__") u3, .ref sl⟩, ⟨k4, .str (ofS "__init__") u4, .ref f1⟩, ⟨k5, .str (ofS "__lt__") u5, .ref f2⟩, ⟨k6, .str (ofS "__gt__") u6, .ref f3⟩, ⟨k7, .str (ofS "__eq__") u7, .ref f4⟩, ⟨k8, .str (ofS "__le__") u8, .ref f5⟩, ⟨k9, .str (ofS "__ge__") u9, .ref f6⟩, ⟨k10, .str (ofS "__hash__") u10, .none⟩, ⟨k11, .str (ofS "__static_attributes__") u11, .ref sa⟩] n })
   (hsys : (nsA == sysModules) = false) (hsl : hp.get? sl = some { cls := .type "list", data := .seq #[.str (ofS "obj") ts] nsl })
   {d1 : Option Addr} {dt1 : Data} {ss1 : Array (Option Value)} {d2 : Option Addr} {dt2 : Data} {ss2 : Array (Option Value)} {d3 : Option Addr} {dt3 : Data} {ss3 : Array (Option Value)} {d4 : Option Addr} {dt4 : Data} {ss4 : Array (Option Value)} {d5 : Option Addr} {dt5 : Data} {ss5 : Array (Option Value)} {d6 : Option Addr} {dt6 : Data} {ss6 : Array (Option Value)} (hf1 : hp.get? f1 = some { cls := .type "function", dict := d1, data := dt1, slots := ss1 }) (hf2 : hp.get? f2 = some { cls := .type "function", dict := d2, data := dt2, slots := ss2 }) (hf3 : hp.get? f3 = some { cls := .type "function", dict := d3, data := dt3, slots := ss3 }) (hf4 : hp.get? f4 = some { cls := .type "function", dict := d4, data := dt4, slots := ss4 }) (hf5 : hp.get? f5 = some { cls := .type "function", dict := d5, data := dt5, slots := ss5 }) (hf6 : hp.get? f6 = some { cls := .type "function", dict := d6, data := dt6, slots := ss6 }) {nsa : Nat} {vsa : Array Value} (hsa : hp.get? sa = some { cls := .type "tuple", data := .seq vsa nsa })
   (hret : ∀ a md ns h' tk' t2 tM tO tD en, Grow hp h' → hp.get? a = none → hp.get? ns = none → h'.get? a = some ⟨.type "type", none, .cls { name := ofS "K", bases := [.type "object"], mro := [.ref a, .type "object"], ns := ns, qualname := ofS "cmp_to_key.<locals>.K", hasDict := false, slotNames := [ofS "obj"], subclasses := [], abstract := false, collection := none, hasDel := false }, #[some (.ref b), none, some (.str (ofS "K") t), some (.str (ofS "cmp_to_key.<locals>.K") t2), some (.builtin "object.__new__"), some (.bool false)]⟩ → h'.get? md = some ⟨.type "member_descriptor", none, .fields #[.str (ofS "obj") tM, .ref a, .builtin "proto.slot", .builtin "proto.slot#set", rawInt 0], #[]⟩ → h'.get? ns = some ⟨.type "dict", none, .dict #[⟨k0, .str (ofS "__module__") u0, .str (ofS "cpy313.functools") v0⟩, ⟨k2, .str (ofS "__firstlineno__") u2, .int 199 v2⟩, ⟨k3, .str (ofS "__slots__") u3, .ref sl⟩, ⟨k4, .str (ofS "__init__") u4, .ref f1⟩, ⟨k5, .str (ofS "__lt__") u5, .ref f2⟩, ⟨k6, .str (ofS "__gt__") u6, .ref f3⟩, ⟨k7, .str (ofS "__eq__") u7, .ref f4⟩, ⟨k8, .str (ofS "__le__") u8, .ref f5⟩, ⟨k9, .str (ofS "__ge__") u9, .ref f6⟩, ⟨k10, .str (ofS "__hash__") u10, .none⟩, ⟨k11, .str (ofS "__static_attributes__") u11, .ref sa⟩, ⟨PyData.keyHash w.params (ofS "obj"), .str (ofS "obj") tO, .ref md⟩, ⟨PyData.keyHash w.params (ofS "__doc__"), .str (ofS "__doc__") tD, .none⟩] en, #[]⟩ → Q (.ref a) ⟨h', g, d, tk', os⟩)
  : wpAny (model pw w) A (call (.type "type") [.str (ofS "K") t, .ref b, .ref nsA]) Q E ⟨hp, g, d, tk, os⟩ := by
  have D := Mem.start hp
  refine wpAny_call (codeAny_of_tree ?_)
  show wpAny _ _ (callAny (.type "type") _) _ _ _
  refine wpAny_pure ⟨Code.quiet_builtin _ (by decide +kernel), codeAny_builtin F.entry_type_call ?_⟩
  rw [Around.under_plain (weight_type_call_type "type" _ _) (units_type_call_type "type" _ _)]
  unfold Builtin.«type.__call__»
  have q1 := tmade
  have q2 := tcheck (.str (ofS "K") t) (.ref b) (.ref nsA)
  repeat walk_at "c2"
  refine wpAny_call (codeAny_call_builtin p_tnew e_tnew (wpAny_of_eq (ncheck _ _ _) (type_new w A.in1.in1 hh hd (by show A.units + 1 + 1 ≤ 3000; omega) _ _ hp g d tk os b nsA f1 f2 f3 f4 f5 f6 sl sa t ts n nsl hst hb hn hsys hsl hf1 hf2 hf3 hf4 hf5 hf6 hsa ?_)))
  intro a md ns h' tk' t2 tM tO tD en G hfr hnfr ha hmd hns
  have D' := Mem.start h'
  clear D
  have q3 := tcf1
  have q4 := slot_tinit.bind (.ref a)
  show wpAny _ _ _ _ _ _
  repeat walk_at "c2"
  refine roomy hh (by show A.depth ≤ 500; omega) (by show A.units + 1 ≤ 5000; omega) (tinit_call w _ _ _ a b ns nsA t t t2 ha ?_)
  rintro v h2 tk2 ⟨rfl, rfl⟩
  repeat walk_at "c2"
  exact hret a md ns _ tk2 t2 tM tO tD en G hfr hnfr ha hmd hns
end
section
open PySem.W.X PySem.Calls
inductive Adv where
  | n (i : Nat)
  | o (i : Nat)
  | c
inductive Why where
  | load (a : Addr)
  | update (a : Addr)
  | alive (a : Addr)
  | call (c : Code)
  | other
noncomputable def whyOf {α : Type} : Sem α → Why
  | .load a _ _ => .load a
  | .update a _ _ _ => .update a
  | .loadIfAlive a _ => .alive a
  | .call c _ _ _ _ => .call c
  | _ => .other
structure Out (α : Type) where
  rest : Sem α
  news : List (Addr × Obj)
  tok : Nat
  obl : List (Addr × Addr)
  why : Why
structure St where
  adv : List Adv
  i : Nat
  news : List (Addr × Obj)
  tok : Nat
noncomputable def Out.also {α : Type} (x : Addr × Addr) (r : Out α) : Out α := { r with obl := x :: r.obl }
noncomputable def Out.fail {α : Type} (y : Why) (l : List (Addr × Obj)) : Out α := ⟨.unsupported "", l, 0, [(0, 1)], y⟩
noncomputable def Out.at {α : Type} (m : Sem α) (s : St) : Out α := ⟨m, s.news, s.tok, [], .other⟩
noncomputable def runG {β : Type} (g : Setting) (hd : Option Value) (olds : List (Addr × Obj)) (av : Nat → Addr) (cl : Code → (Flow → St → Out β) → (Value → St → Out β) → St → Out β) {α : Type}
    (stop : Sem α → St → Out β) (κ : α → St → Out β) (ε : Value → St → Out β) : Sem α → List Adv → Nat → List (Addr × Obj) → Nat → Out β
  | .pure v => fun adv i news t => κ v ⟨adv, i, news, t⟩
  | .raise e => fun adv i news t => ε e ⟨adv, i, news, t⟩
  | .rule _ k => runG g hd olds av cl stop κ ε (k ())
  | .at _ k => runG g hd olds av cl stop κ ε (k ())
  | .point _ k => runG g hd olds av cl stop κ ε (k ())
  | .ask k => runG g hd olds av cl stop κ ε (k g)
  | .fresh k => fun adv i news t => runG g hd olds av cl stop κ ε (k t) adv i news (t + 1)
  | .handled own k => fun adv i news t => cond own (stop (.handled own k) ⟨adv, i, news, t⟩) (runG g hd olds av cl stop κ ε (k hd) adv i news t)
  | .alloc o k => fun adv i news t => cond o.isFreed (stop (.alloc o k) ⟨adv, i, news, t⟩) (runG g hd olds av cl stop κ ε (k (av i)) adv (i + 1) ((av i, o) :: news) t)
  | .load a p k => fun adv i news t => match adv with
    | .n j :: adv => (news[j]?).elim (.fail .other news) fun q => (runG g hd olds av cl stop κ ε (k q.2) adv i news t).also (a, q.1)
    | .o j :: adv => (olds[j]?).elim (.fail .other news) fun q => (runG g hd olds av cl stop κ ε (k q.2) adv i news t).also (a, q.1)
    | adv => stop (.load a p k) ⟨adv, i, news, t⟩
  | .loadIfAlive a k => fun adv i news t => match adv with
    | .n j :: adv => (news[j]?).elim (.fail .other news) fun q => (runG g hd olds av cl stop κ ε (k (some q.2)) adv i news t).also (a, q.1)
    | adv => stop (.loadIfAlive a k) ⟨adv, i, news, t⟩
  | .update a p f k => fun adv i news t => match adv with
    | .n j :: adv => (news[j]?).elim (.fail .other news) fun q => cond (f q.2).isFreed (.fail .other news) ((runG g hd olds av cl stop κ ε (k ()) adv i (news.set j (q.1, f q.2)) t).also (a, q.1))
    | adv => stop (.update a p f k) ⟨adv, i, news, t⟩
  | .call c hn gd l k => fun adv i news t => match adv with
    | .c :: adv => hn.elim (cl c (fun f s => runG g hd olds av cl stop κ ε (k (.ok f)) s.adv s.i s.news s.tok) (fun e s => runG g hd olds av cl stop κ ε (k (.error e)) s.adv s.i s.news s.tok) ⟨adv, i, news, t⟩) fun _ => .fail .other news
    | adv => stop (.call c hn gd l k) ⟨adv, i, news, t⟩
  | m => fun adv i news t => stop m ⟨adv, i, news, t⟩
noncomputable def treeOf (c : Code) : Sem Fin := match c with
  | .builtin id args => match entriesT.find (code id) with
    | some b => b args
    | none => denote table c
  | c => denote table c
theorem treeOf_eq (c : Code) : treeOf c = denote table c := by
  cases c with
  | builtin id args =>
    show (match entriesT.find (code id) with | some b => b args | none => denote table (.builtin id args)) = _
    cases h : entriesT.find (code id) with
    | none => rfl
    | some b => show b args = (match entryFor table id with | some b => b args | none => _); rw [entryFor_of_tree h]
  | _ => rfl
noncomputable def runN {β : Type} (g : Setting) (hd : Option Value) (olds : List (Addr × Obj)) (av : Nat → Addr) : Nat → Code → (Flow → St → Out β) → (Value → St → Out β) → St → Out β
  | 0 => fun _ _ _ s => .fail .other s.news
  | n + 1 => fun c κ ε s => runG g hd olds av (runN g hd olds av n) (fun m s => .fail (whyOf m) s.news)
      (fun fin s => match fin with | .done f => κ f s | .again c' => cond c'.quiet (runN g hd olds av n c' κ ε s) (.fail .other s.news)) ε (treeOf c) s.adv s.i s.news s.tok
noncomputable def runA {α : Type} (g : Setting) (hd : Option Value) (olds : List (Addr × Obj)) (av : Nat → Addr) (m : Sem α) (adv : List Adv) (news : List (Addr × Obj)) (t : Nat) : Out α :=
  runG g hd olds av (runN g hd olds av 20) .at (fun v => .at (.pure v)) (fun e => .at (.raise e)) m adv 0 news t
noncomputable def Olds (h₀ : Heap) (chg olds : List (Addr × Obj)) : Prop := ∀ p ∈ olds, h₀.get? p.1 = some p.2 ∧ (hasCls p.2 || away chg p.1) = true
theorem Olds.nil {h₀ : Heap} {chg : List (Addr × Obj)} : Olds h₀ chg [] := fun _ hp => nomatch hp
theorem Olds.cons {h₀ : Heap} {chg l : List (Addr × Obj)} {a : Addr} {o : Obj} (O : Olds h₀ chg l) (h : h₀.get? a = some o) (e : (hasCls o || away chg a) = true) : Olds h₀ chg ((a, o) :: l) := fun p hp => by
  rcases List.mem_cons.mp hp with rfl | hp
  · exact ⟨h, e⟩
  · exact O p hp
theorem olds_of {h₀ h : Heap} {chg news : List (Addr × Obj)} (D : Mem h₀ h chg news) : Olds h₀ chg [] := Olds.nil
noncomputable def Met (l : List (Addr × Addr)) : Prop := l.map (·.1) = l.map (·.2)
theorem Met.all {l : List (Addr × Addr)} (h : Met l) : ∀ p ∈ l, p.1 = p.2 := by
  induction l with
  | nil => intro p hp; cases hp
  | cons x l ih =>
    have h' : x.1 :: l.map (·.1) = x.2 :: l.map (·.2) := h
    injection h' with a b
    intro p hp
    rcases List.mem_cons.mp hp with rfl | hp
    · exact a
    · exact ih b p hp
section
variable {prog : Program} {w : World} {h₀ : Heap} {chg olds : List (Addr × Obj)} {g : Array GenState} {d : Drawn} {os : OsState} {hd : Option Value}
variable (prog w h₀ chg g d os) in
noncomputable def Good {β : Type} (A : Around) (Q : β → Shared → Prop) (E : Value → Shared → Prop) (r : (Nat → Addr) → Out β) (i : Nat) (av0 : Nat → Addr) : Prop :=
  (∀ av, (∀ j, j < i → av j = av0 j) → ∀ p ∈ (r av).obl, p.1 = p.2) ∧
  (∀ av, (∀ j, j < i → av j = av0 j) → ∀ h', Mem h₀ h' chg (r av).news → wpAny (model prog w) A (r av).rest Q E ⟨h', g, d, (r av).tok, os⟩)
theorem Good.fail {β : Type} {A : Around} {Q : β → Shared → Prop} {E : Value → Shared → Prop} {i : Nat} {av0 : Nat → Addr} {y : Why} {l : List (Addr × Obj)} (G : Good prog w h₀ chg g d os A Q E (fun _ => Out.fail y l) i av0) : False :=
  absurd (G.1 av0 (fun _ _ => rfl) (0, 1) (.head _)) (by decide)
theorem Good.also {β : Type} {A : Around} {Q : β → Shared → Prop} {E : Value → Shared → Prop} {i : Nat} {av0 : Nat → Addr} {r : (Nat → Addr) → Out β} {x : Addr × Addr} (G : Good prog w h₀ chg g d os A Q E (fun av => (r av).also x) i av0) :
    x.1 = x.2 ∧ Good prog w h₀ chg g d os A Q E r i av0 := ⟨G.1 av0 (fun _ _ => rfl) x (.head _), fun av q p hp => G.1 av q p (.tail _ hp), G.2⟩
variable (prog w h₀ chg g d os hd) in
noncomputable def SoundC {β : Type} (A : Around) (Q : β → Shared → Prop) (E : Value → Shared → Prop) (cl : (Nat → Addr) → Code → (Flow → St → Out β) → (Value → St → Out β) → St → Out β) : Prop :=
  ∀ (A' : Around), A'.handled = hd → ∀ (c : Code) (κ : (Nat → Addr) → Flow → St → Out β) (ε : (Nat → Addr) → Value → St → Out β) (R : Result → Shared → Prop),
    (∀ f adv i news t h av0, Mem h₀ h chg news → Good prog w h₀ chg g d os A Q E (fun av => κ av f ⟨adv, i, news, t⟩) i av0 → R (.ok f) ⟨h, g, d, t, os⟩) →
    (∀ e adv i news t h av0, Mem h₀ h chg news → Good prog w h₀ chg g d os A Q E (fun av => ε av e ⟨adv, i, news, t⟩) i av0 → R (.error e) ⟨h, g, d, t, os⟩) →
    ∀ adv i news t h av0, Mem h₀ h chg news → Good prog w h₀ chg g d os A Q E (fun av => cl av c (κ av) (ε av) ⟨adv, i, news, t⟩) i av0 → codeAny (model prog w) A' c R ⟨h, g, d, t, os⟩
theorem Good.step {β : Type} {A : Around} {Q : β → Shared → Prop} {E : Value → Shared → Prop} {i : Nat} {av0 : Nat → Addr} {r : (Nat → Addr) → Addr → Out β} (G : Good prog w h₀ chg g d os A Q E (fun av => r av (av i)) i av0) (a : Addr) :
    Good prog w h₀ chg g d os A Q E (fun av => r av a) (i + 1) (fun j => if j = i then a else av0 j) := by
  have e1 : ∀ av : Nat → Addr, (∀ j, j < i + 1 → av j = if j = i then a else av0 j) → (∀ j, j < i → av j = av0 j) ∧ av i = a := fun av q =>
    ⟨fun j hj => (q j (Nat.lt_succ_of_lt hj)).trans (if_neg (Nat.ne_of_lt hj)), (q i (Nat.lt_succ_self i)).trans (if_pos rfl)⟩
  refine ⟨fun av q => ?_, fun av q => ?_⟩
  · obtain ⟨q1, rfl⟩ := e1 av q
    exact G.1 av q1
  · obtain ⟨q1, rfl⟩ := e1 av q
    exact G.2 av q1
set_option smartUnfolding false in
theorem runG_ok {α β : Type} {A A' : Around} {Q : β → Shared → Prop} {E : Value → Shared → Prop} {Q' : α → Shared → Prop} {E' : Value → Shared → Prop} (O : Olds h₀ chg olds) (hA : A'.handled = hd)
    {cl : (Nat → Addr) → Code → (Flow → St → Out β) → (Value → St → Out β) → St → Out β} (hcl : SoundC prog w h₀ chg g d os hd A Q E cl)
    {stop : (Nat → Addr) → Sem α → St → Out β} {κ : (Nat → Addr) → α → St → Out β} {ε : (Nat → Addr) → Value → St → Out β}
    (hs : ∀ m adv i news t h av0, Mem h₀ h chg news → Good prog w h₀ chg g d os A Q E (fun av => stop av m ⟨adv, i, news, t⟩) i av0 → wpAny (model prog w) A' m Q' E' ⟨h, g, d, t, os⟩)
    (hκ : ∀ v adv i news t h av0, Mem h₀ h chg news → Good prog w h₀ chg g d os A Q E (fun av => κ av v ⟨adv, i, news, t⟩) i av0 → Q' v ⟨h, g, d, t, os⟩)
    (hε : ∀ e adv i news t h av0, Mem h₀ h chg news → Good prog w h₀ chg g d os A Q E (fun av => ε av e ⟨adv, i, news, t⟩) i av0 → E' e ⟨h, g, d, t, os⟩) :
    ∀ (m : Sem α) adv i news t h av0, Mem h₀ h chg news → Good prog w h₀ chg g d os A Q E (fun av => runG ⟨prog, w.params⟩ hd olds av (cl av) (stop av) (κ av) (ε av) m adv i news t) i av0 →
      wpAny (model prog w) A' m Q' E' ⟨h, g, d, t, os⟩ := by
  intro m
  induction m with
  | pure v => intro adv i news t h av0 D G; exact x_pure (hκ v adv i news t h av0 D G)
  | raise e => intro adv i news t h av0 D G; exact x_raise (hε e adv i news t h av0 D G)
  | rule tag k ih => intro adv i news t h av0 D G; exact x_rule (ih () adv i news t h av0 D G)
  | «at» p k ih => intro adv i news t h av0 D G; exact x_at (ih () adv i news t h av0 D G)
  | point l k ih => intro adv i news t h av0 D G; exact x_point (ih () adv i news t h av0 D G)
  | ask k ih => intro adv i news t h av0 D G; exact x_ask (ih _ adv i news t h av0 D G)
  | fresh k ih => intro adv i news t h av0 D G; exact x_fresh (ih t adv i news (t + 1) h av0 D G)
  | handled own k ih =>
    intro adv i news t h av0 D G
    cases own with
    | true => exact hs _ _ i news t h av0 D G
    | false => refine x_handled ?_; rw [hA]; exact ih _ adv i news t h av0 D G
  | alloc o k ih =>
    intro adv i news t h av0 D G
    replace G : Good prog w h₀ chg g d os A Q E (fun av => cond o.isFreed (stop av (.alloc o k) ⟨adv, i, news, t⟩) (runG ⟨prog, w.params⟩ hd olds av (cl av) (stop av) (κ av) (ε av) (k (av i)) adv (i + 1) ((av i, o) :: news) t)) i av0 := G
    cases hf : o.isFreed with
    | true => rw [hf] at G; exact hs _ _ i news t h av0 D G
    | false =>
      rw [hf] at G
      refine wpAny_bind (m := alloc o) (f := k) (wpAny_alloc ?_)
      exact ih h.objs.size adv (i + 1) _ t _ _ (D.alloc hf) (Good.step (r := fun av a => runG ⟨prog, w.params⟩ hd olds av (cl av) (stop av) (κ av) (ε av) (k a) adv (i + 1) ((a, o) :: news) t) G h.objs.size)
  | load a p k ih =>
    intro adv i news t h av0 D G
    cases adv with
    | nil => exact hs _ _ i news t h av0 D G
    | cons x adv =>
      cases x with
      | c => exact hs _ _ i news t h av0 D G
      | n j =>
        replace G : Good prog w h₀ chg g d os A Q E (fun av => (news[j]?).elim (.fail .other news) fun q => (runG ⟨prog, w.params⟩ hd olds av (cl av) (stop av) (κ av) (ε av) (k q.2) adv i news t).also (a, q.1)) i av0 := G
        cases hi : news[j]? with
        | none => rw [hi] at G; exact (Good.fail (y := .other) (l := news) G).elim
        | some q =>
          rw [hi] at G
          obtain ⟨e, G⟩ := Good.also (r := fun av => runG ⟨prog, w.params⟩ hd olds av (cl av) (stop av) (κ av) (ε av) (k q.2) adv i news t) G
          replace e : a = q.1 := e
          refine x_load (o := q.2) ?_ (ih _ adv i news t h av0 D G)
          rw [e]; exact D.at j q.1 q.2 hi
      | o j =>
        replace G : Good prog w h₀ chg g d os A Q E (fun av => (olds[j]?).elim (.fail .other news) fun q => (runG ⟨prog, w.params⟩ hd olds av (cl av) (stop av) (κ av) (ε av) (k q.2) adv i news t).also (a, q.1)) i av0 := G
        cases hi : olds[j]? with
        | none => rw [hi] at G; exact (Good.fail (y := .other) (l := news) G).elim
        | some q =>
          rw [hi] at G
          obtain ⟨e, G⟩ := Good.also (r := fun av => runG ⟨prog, w.params⟩ hd olds av (cl av) (stop av) (κ av) (ε av) (k q.2) adv i news t) G
          replace e : a = q.1 := e
          obtain ⟨h1, h2⟩ := O q (List.mem_of_getElem? hi)
          refine x_load (o := q.2) ?_ (ih _ adv i news t h av0 D G)
          rw [e]; exact D.old q.1 q.2 h1 h2
  | loadIfAlive a k ih =>
    intro adv i news t h av0 D G
    cases adv with
    | nil => exact hs _ _ i news t h av0 D G
    | cons x adv =>
      cases x with
      | c => exact hs _ _ i news t h av0 D G
      | o j => exact hs _ _ i news t h av0 D G
      | n j =>
        replace G : Good prog w h₀ chg g d os A Q E (fun av => (news[j]?).elim (.fail .other news) fun q => (runG ⟨prog, w.params⟩ hd olds av (cl av) (stop av) (κ av) (ε av) (k (some q.2)) adv i news t).also (a, q.1)) i av0 := G
        cases hi : news[j]? with
        | none => rw [hi] at G; exact (Good.fail (y := .other) (l := news) G).elim
        | some q =>
          rw [hi] at G
          obtain ⟨e, G⟩ := Good.also (r := fun av => runG ⟨prog, w.params⟩ hd olds av (cl av) (stop av) (κ av) (ε av) (k (some q.2)) adv i news t) G
          replace e : a = q.1 := e
          have z := ih _ adv i news t h av0 D G
          intro Γ p hΓ
          show Sem.wp _ _ (k (h.get? a)) _ _ _ _
          rw [e, D.at j q.1 q.2 hi]; exact z Γ p hΓ
  | update a p f k ih =>
    intro adv i news t h av0 D G
    cases adv with
    | nil => exact hs _ _ i news t h av0 D G
    | cons x adv =>
      cases x with
      | c => exact hs _ _ i news t h av0 D G
      | o j => exact hs _ _ i news t h av0 D G
      | n j =>
        replace G : Good prog w h₀ chg g d os A Q E (fun av => (news[j]?).elim (.fail .other news) fun q => cond (f q.2).isFreed (.fail .other news) ((runG ⟨prog, w.params⟩ hd olds av (cl av) (stop av) (κ av) (ε av) (k ()) adv i (news.set j (q.1, f q.2)) t).also (a, q.1))) i av0 := G
        cases hi : news[j]? with
        | none => rw [hi] at G; exact (Good.fail (y := .other) (l := news) G).elim
        | some q =>
          rw [hi] at G
          replace G : Good prog w h₀ chg g d os A Q E (fun av => cond (f q.2).isFreed (.fail .other news) ((runG ⟨prog, w.params⟩ hd olds av (cl av) (stop av) (κ av) (ε av) (k ()) adv i (news.set j (q.1, f q.2)) t).also (a, q.1))) i av0 := G
          cases hf : (f q.2).isFreed with
          | true => rw [hf] at G; exact (Good.fail (y := .other) (l := news) G).elim
          | false =>
            rw [hf] at G
            obtain ⟨e, G2⟩ := Good.also (r := fun av => runG ⟨prog, w.params⟩ hd olds av (cl av) (stop av) (κ av) (ε av) (k ()) adv i (news.set j (q.1, f q.2)) t) G
            replace e : a = q.1 := e
            subst e
            refine wpAny_bind (m := updatePart q.1 p f) (f := k) (wpAny_updatePart (D.at j q.1 q.2 hi) ?_)
            exact ih _ adv i _ t _ av0 (D.update (o := q.2) hi hf) G2
  | call c hn gd l k ih =>
    intro adv i news t h av0 D G
    cases adv with
    | nil => exact hs _ _ i news t h av0 D G
    | cons x adv =>
      cases x with
      | o j => exact hs _ _ i news t h av0 D G
      | n j => exact hs _ _ i news t h av0 D G
      | c =>
        cases hn with
        | some v => exact (Good.fail (y := .other) (l := news) G).elim
        | none => exact x_call (hcl (A'.mark none) hA c _ _ _ (fun f adv i news t h av0 D G => ih (.ok f) adv i news t h av0 D G) (fun e adv i news t h av0 D G => ih (.error e) adv i news t h av0 D G) adv i news t h av0 D G) (fun e => nomatch e)
  | _ => intro adv i news t h av0 D G; exact hs _ _ i news t h av0 D G
theorem runN_ok {β : Type} {A : Around} {Q : β → Shared → Prop} {E : Value → Shared → Prop} (O : Olds h₀ chg olds) : ∀ n : Nat, SoundC prog w h₀ chg g d os hd A Q E (fun av => runN ⟨prog, w.params⟩ hd olds av n)
  | 0 => fun A' hA c κ ε R hκ hε adv i news t h av0 D G => G.fail.elim
  | n + 1 => fun A' hA c κ ε R hκ hε adv i news t h av0 D G => by
    refine codeAny_of_tree ?_
    show wpAny (model prog w) (A'.under c) (denote table c) _ _ _
    rw [← treeOf_eq c]
    refine runG_ok (A' := A'.under c) (Q' := fun fin s' => match fin with | .done f => R (.ok f) s' | .again c' => c'.quiet = true ∧ codeAny (model prog w) A' c' R s') (E' := fun e s' => R (.error e) s')
      (stop := fun _ m s => Out.fail (whyOf m) s.news) (ε := ε) O hA (runN_ok O n) (fun m adv i news t h av0 D G => G.fail.elim) ?_ hε (treeOf c) adv i news t h av0 D G
    intro fin adv i news t h av0 D G
    cases fin with
    | done f => exact hκ f adv i news t h av0 D G
    | again c' =>
      replace G : Good prog w h₀ chg g d os A Q E (fun av => cond c'.quiet (runN ⟨prog, w.params⟩ hd olds av n c' (κ av) (ε av) ⟨adv, i, news, t⟩) (.fail .other news)) i av0 := G
      cases hq : c'.quiet with
      | false => rw [hq] at G; exact Good.fail (y := .other) (l := news) G |>.elim
      | true => rw [hq] at G; exact ⟨hq, runN_ok O n A' hA c' κ ε R hκ hε adv i news t h av0 D G⟩
theorem wpAny_settle {α : Type} {M : Model} {A : Around} {m : Sem α} {Q : α → Shared → Prop} {E : Value → Shared → Prop} {s : Shared}
    (h : wpAny M A m (fun v s => wpAny M A (Sem.pure v) Q E s) (fun e s => wpAny M A (Sem.raise e) Q E s) s) : wpAny M A m Q E s :=
  fun Γ p hΓ => Sem.wp_mono M Γ _ (fun _ p' _ q => q Γ p' hΓ) (fun _ p' _ q => q Γ p' hΓ) p s (h Γ p hΓ)
theorem wpAny_unsettle {α : Type} {M : Model} {A : Around} {m : Sem α} {Q : α → Shared → Prop} {E : Value → Shared → Prop} {s : Shared}
    (h : wpAny M A m Q E s) : wpAny M A m (fun v s => wpAny M A (Sem.pure v) Q E s) (fun e s => wpAny M A (Sem.raise e) Q E s) s :=
  wpAny_mono h (fun _ _ q => wpAny_pure q) (fun _ _ q => wpAny_throw q)
theorem seg {α : Type} {A : Around} {E : Value → Shared → Prop} {Q : α → Shared → Prop} {m : Sem α} {news : List (Addr × Obj)} {t : Nat} {h : Heap} (adv : List Adv) (D : Mem h₀ h chg news) (O : Olds h₀ chg olds)
    (ho : ∀ av, (runA ⟨prog, w.params⟩ A.handled olds av m adv news t).obl.map (·.1) = (runA ⟨prog, w.params⟩ A.handled olds av m adv news t).obl.map (·.2))
    (k : ∀ av h', Mem h₀ h' chg (runA ⟨prog, w.params⟩ A.handled olds av m adv news t).news → wpAny (model prog w) A (runA ⟨prog, w.params⟩ A.handled olds av m adv news t).rest Q E ⟨h', g, d, (runA ⟨prog, w.params⟩ A.handled olds av m adv news t).tok, os⟩) :
    wpAny (model prog w) A m Q E ⟨h, g, d, t, os⟩ :=
  wpAny_settle (runG_ok (Q := Q) (E := E) (A := A) O rfl (runN_ok O 20)
    (stop := fun _ => .at) (κ := fun _ v => .at (.pure v)) (ε := fun _ e => .at (.raise e))
    (fun m adv i news t h av0 D G => wpAny_unsettle (G.2 av0 (fun _ _ => rfl) h D))
    (fun v adv i news t h av0 D G => G.2 av0 (fun _ _ => rfl) h D)
    (fun e adv i news t h av0 D G => G.2 av0 (fun _ _ => rfl) h D) m adv 0 news t h (fun _ => 0) D ⟨fun av _ => Met.all (ho av), fun av _ => k av⟩)
end
end
section
set_option maxHeartbeats 8000000
open PySem.W.X PySem.Calls
local macro_rules | `(tactic| walk_at "c1z") => `(tactic| (dsimp only))
local macro_rules | `(tactic| walk_at "c2") => `(tactic| (with_reducible refine st21 ?_))
local macro_rules | `(tactic| walk_at "c2") => `(tactic| (with_reducible refine st22 ?_))
local macro_rules | `(tactic| walk_at "c2") => `(tactic| (with_reducible refine st23 ?_))
local macro_rules | `(tactic| walk_at "c2") => `(tactic| (with_reducible refine st24 ?_))
local macro_rules | `(tactic| walk_at "c2") => `(tactic| (with_reducible refine st25 ?_))
theorem look_bc (P : Params) : nsLook (ofS "__build_class__") (boot_o_0 P) = pure (some (.builtin "__build_class__")) := by kernel_rfl
theorem cy1 : typeOf (.type "object") = pure (.type "type") := by kernel_rfl
theorem tld1 : typeLookup (.type "dict") "__getitem__" = pure (some (.builtin "dict.__getitem__")) := by rw [typeLookup_type, builtinLookup_eq_fast]; kernel_rfl
theorem look_b (P : Params) : nsLook (ofS "__builtins__") (o3_40 P) = pure (some (.ref 4)) := by kernel_rfl
theorem look_n (P : Params) : nsLook (ofS "__name__") (o3_40 P) = pure (some (.str (ofS "law_kq0052_01") 451)) := by kernel_rfl
theorem away158 {b : Addr} {o x : Obj} (n : b ≠ 158) : (hasCls o || away [(158, x)] b) = true := by
  rw [Bool.or_eq_true]; right
  show (!(Nat.beq 158 b) && true) = true
  rw [Bool.and_true]
  cases h : Nat.beq 158 b with
  | true => exact absurd (Nat.eq_of_beq_eq_true h).symm n
  | false => rfl
theorem keepsNe158 {h h' : Heap} {a : Addr} {m} (hn : h.Ns a m) (ha : a ≠ 158) (k : ∀ b o, h.get? b = some o → b ≠ 158 → h'.get? b = some o) : h'.Ns a m :=
  let ⟨o, es, ep, e, r⟩ := hn; ⟨o, es, ep, k _ _ e ha, r⟩
theorem fresh_back {h0 hB : Heap} {a c : Addr} {oc : Obj} (k : ∀ b o, h0.get? b = some o → b ≠ c → hB.get? b = some o) (hc : hB.get? c = some oc) (hf : hB.get? a = none) : h0.get? a = none := by
  cases e : h0.get? a with
  | none => rfl
  | some o =>
    by_cases n : a = c
    · subst n; rw [hc] at hf; cases hf
    · rw [k a o e n] at hf; cases hf
theorem ne_ns {h : Heap} {L : Addr} {m} (hn : h.Ns L m) (b : Addr) (o : Obj) (e : h.get? b = some o) (n : ∀ es ep, o.data ≠ .dict es ep) : b ≠ L := by
  rintro rfl
  obtain ⟨o', es, ep, e', hd, _⟩ := hn
  rw [e'] at e
  cases e
  exact n es ep hd
theorem ne_nsf {h h' : Heap} {L a : Addr} {m} (hn : h.Ns L m) (k : ∀ o, h.get? L = some o → h'.get? L = some o) (f : h'.get? a = none) : a ≠ L := by
  rintro rfl
  obtain ⟨o, _, _, e, _⟩ := hn
  rw [k o e] at f
  cases f
theorem fill_ct : kk = kk ∧ PySem.Challenge.rw_kq0052_01 = PySem.Challenge.rw_kq0052_01 := by
  k_fill
  exact ⟨rfl, rfl⟩
noncomputable def kSt (i : Nat) : Stmt := match fnB (st 29) with | .ClassDef _ _ _ body _ _ _ _ _ _ _ :: _ => body.getD i (.Pass default) | _ => .Pass default
noncomputable def KB7 (w : World) (mc : Addr) (h' : Heap) (a : Addr) (A : Nat → Addr) (N : Nat → Nat) (q : Nat → Value) : Prop :=
  h'.get? a = some ⟨.type "type", none, .cls { name := ofS "K", bases := [.type "object"], mro := [.ref a, .type "object"], ns := (A 1), qualname := ofS "cmp_to_key.<locals>.K", hasDict := false, slotNames := [ofS "obj"], subclasses := [], abstract := false, collection := none, hasDel := false }, #[some (.ref (A 0)), none, some (.str (ofS "K") (N 1)), some (.str (ofS "cmp_to_key.<locals>.K") (N 2)), some (.builtin "object.__new__"), some (.bool false)]⟩ ∧
  h'.get? (A 2) = some ⟨.type "member_descriptor", none, .fields #[.str (ofS "obj") (N 3), .ref a, .builtin "proto.slot", .builtin "proto.slot#set", rawInt 0], #[]⟩ ∧
  h'.get? (A 1) = some ⟨.type "dict", none, .dict #[⟨PyData.keyHash w.params (ofS "__module__"), .str (ofS "__module__") ((N 0) + 6), .str (ofS "cpy313.functools") ((N 0) + 11)⟩, ⟨PyData.keyHash w.params (ofS "__firstlineno__"), .str (ofS "__firstlineno__") ((N 0) + 10), .int 199 ((N 0) + 9)⟩, ⟨PyData.keyHash w.params (ofS "__slots__"), .str (ofS "__slots__") ((N 0) + 14), .ref (A 9)⟩, ⟨PyData.keyHash w.params (ofS "__init__"), .str (ofS "__init__") ((N 0) + 22), .ref (A 3)⟩, ⟨PyData.keyHash w.params (ofS "__lt__"), .str (ofS "__lt__") ((N 0) + 31), .ref (A 4)⟩, ⟨PyData.keyHash w.params (ofS "__gt__"), .str (ofS "__gt__") ((N 0) + 40), .ref (A 5)⟩, ⟨PyData.keyHash w.params (ofS "__eq__"), .str (ofS "__eq__") ((N 0) + 49), .ref (A 6)⟩, ⟨PyData.keyHash w.params (ofS "__le__"), .str (ofS "__le__") ((N 0) + 58), .ref (A 7)⟩, ⟨PyData.keyHash w.params (ofS "__ge__"), .str (ofS "__ge__") ((N 0) + 67), .ref (A 8)⟩, ⟨PyData.keyHash w.params (ofS "__hash__"), .str (ofS "__hash__") ((N 0) + 68), .none⟩, ⟨PyData.keyHash w.params (ofS "__static_attributes__"), .str (ofS "__static_attributes__") ((N 0) + 70), .ref (A 10)⟩, ⟨PyData.keyHash w.params (ofS "obj"), .str (ofS "obj") (N 4), .ref (A 2)⟩, ⟨PyData.keyHash w.params (ofS "__doc__"), .str (ofS "__doc__") (N 5), .none⟩] (N 6), #[]⟩ ∧
  h'.get? (A 3) = some ⟨.type "function", none, .func ⟨ofS "__init__", ofS "cmp_to_key.<locals>.K.__init__", fnP (kSt 2), .stmts (fnB (kSt 2)), fnS (kSt 2), 3, [], .none, .none, .none, .str (ofS "law_kq0052_01") 451, none, .ref (A 11), .none, 0⟩, #[]⟩ ∧
  h'.get? (A 4) = some ⟨.type "function", none, .func ⟨ofS "__lt__", ofS "cmp_to_key.<locals>.K.__lt__", fnP (kSt 3), .stmts (fnB (kSt 3)), fnS (kSt 3), 3, [(ofS "mycmp", mc)], .none, .none, .none, .str (ofS "law_kq0052_01") 451, none, .ref (A 12), .ref (A 13), 0⟩, #[]⟩ ∧
  h'.get? (A 11) = some ⟨.type "code", none, .fields #[.str (ofS "__init__") (N 7), .str (ofS "cmp_to_key.<locals>.K.__init__") (N 8), (q 2), (q 3), (q 4), (q 5), (q 6), (q 7), (q 8), (q 9), (q 10), (q 11), (q 12), (q 13), (q 14), (q 15), (q 16), (q 17), (q 18)], #[]⟩ ∧ h'.CodeRec (.ref (A 12)) (ofS "cmp_to_key.<locals>.K.__lt__")
noncomputable def KMade (w : World) (mc : Addr) (h h' : Heap) (a : Addr) : Prop := h.get? a = none ∧ ∃ A N q, KB7 w mc h' a A N q
noncomputable def newsOf {h₀ h : Heap} {chg news : List (Addr × Obj)} (D : Mem h₀ h chg news) : List (Addr × Obj) := news
noncomputable def nthO (l : List (Addr × Obj)) (k : Nat) : Obj := match l[k]? with | some p => p.2 | none => ⟨.none, none, .fields #[], #[]⟩
noncomputable def nthFs (l : List (Addr × Obj)) (k : Nat) : Array Value := match (nthO l k).data with | .fields fs => fs | _ => #[]
noncomputable def nthF (l : List (Addr × Obj)) (k i : Nat) : Value := (nthFs l k).getD i .none
noncomputable def advK : List Adv := [4, 4, 4, 5, 5, 5, 2, 3, 9, 9, 9, 101, 100, 101, 12, 12, 12, 10, 11, 17, 17, 17, 101, 100, 101, 20, 20, 20, 18, 19, 25, 25, 25, 101, 100, 101, 28, 28, 28, 26, 27, 33, 33, 33, 101, 100, 101, 36, 36, 36, 34, 35, 41, 41, 41, 101, 100, 101, 44, 44, 44, 42, 43, 49, 49, 49, 101, 100, 101, 52, 52, 52, 52, 52, 52].map fun k : Nat => if k < 100 then Adv.n k else .o (k - 100)
theorem hide_post {α : Type} {M : Model} {A : Around} {m : Sem α} {Q : α → Shared → Prop} {E : Value → Shared → Prop} {s : Shared}
    (h : ∀ Q', (∀ f s', Q f s' → Q' f s') → wpAny M A m Q' E s) : wpAny M A m Q E s := h Q fun _ _ q => q
theorem ctk (w : World) (lam : Addr) (mean : ExcName → Option Value) (mg mb : PySem.Str → Option Value) (dp un : Nat) (fr : Option (List Env)) (gd : Option (List Code)) (s : Shared) (Q E : Value → Shared → Prop)
    (X : (kk w.params).In s.heap) (T : Top topProg LO mean mg mb s.heap) (hdd : dp ≤ 308) (huu : un ≤ 2000) (hP : s.heap.get? 158 = some (tabObj #[]))
    (hret : ∀ a mc h' tk', (∀ b o, s.heap.get? b = some o → b ≠ 158 → h'.get? b = some o) → (∃ more, h'.get? 158 = some (tabObj more)) → h'.IsCell mc (some (.ref lam)) → s.heap.get? mc = none → KMade w mc s.heap h' a → Q (.ref a) ⟨h', s.gens, s.drawn, tk', s.os⟩) :
    wpAny (model pw w) (AA dp un fr gd) (call (.ref 163) [.ref lam]) Q E s := by
  revert w lam mean mg mb dp un fr gd s Q E X T hdd huu hP hret
  (refine no_implicit_lambda% (pk6 (i1 := nW) ?_); generalize p6_1 _ = w; generalize p6_2 _ = lam; generalize p6_3 _ = mean; generalize p6_4 _ = mg; generalize p6_5 _ = mb; generalize p6_6 _ = dp); (refine no_implicit_lambda% (pk6 (i4 := nS) ?_); generalize p6_1 _ = un; generalize p6_2 _ = fr; generalize p6_3 _ = gd; generalize p6_4 _ = s; generalize p6_5 _ = Q; generalize p6_6 _ = E)
  intro X T hdd huu hP hret
  have hd : dp + 10 < recursionLimit := by unfold recursionLimit; lia
  k_dflt (refine' enter0C (binds := [(ofS "mycmp", .ref lam)]) X T ?k6 ?k7 ?k8 ?kB ?k9 ?c5 ?c2 ?c3 ?c4 ?_; (case k6 => k_is); (case k7 => k_is); (case k8 => (show dp < _; lia)); (case kB => kernel_rfl); (case k9 => kernel_rfl); (case c5 => decide +kernel); (case c2 => kernel_rfl); (case c3 => kernel_rfl); (case c4 => kernel_rfl))
  (refine pk4 ?_; generalize p4_1 _ = L'; generalize p4_2 _ = h₁; generalize p4_3 _ = tk; generalize p4_4 _ = cells)
  intro F N Y
  k_steps
  have D := Mem.start h₁
  have X1 := X.keeps F.keep
  have at0 : h₁.get? builtinsNs = some (boot_o_0 w.params) := X1 _ _ (by kernel_rfl)
  have l1 := look_bc w.params
  have q3 := cy1
  replace Y : CellsAre _ [(ofS "mycmp", L' + 1)] cells := Y
  obtain ⟨oc, rfl, hc⟩ := Y.one
  replace hc : oc.data = .cell (some (.ref lam)) := hc
  have hcell : h₁.IsCell (L' + 1) (some (.ref lam)) := ⟨oc, N.get (.head _), hc⟩
  have hmc0 := (N _ (.head _)).2.2
  have h158 := Heap.lt_size hP
  have hL158 : L' ≠ 158 := Nat.ne_of_gt (Nat.lt_of_lt_of_le h158 F.above)
  have hM158 : L' + 1 ≠ 158 := Nat.ne_of_gt (Nat.lt_succ_of_le (Nat.le_of_lt (Nat.lt_of_lt_of_le h158 F.above)))
  refine wpAny_mono (E := fun _ _ => False) (Q := fun f s' => f = .next ∧ ∃ a h' tk', s' = ⟨h', s.gens, s.drawn, tk', s.os⟩ ∧ (∃ m', h'.Ns L' m' ∧ m' (ofS "K") = some (.ref a)) ∧ (∀ b o, s.heap.get? b = some o → b ≠ 158 → h'.get? b = some o) ∧ (∃ more, h'.get? 158 = some (tabObj more)) ∧ h'.IsCell (L' + 1) (some (.ref lam)) ∧ KMade w (L' + 1) s.heap h' a) ?_ ?_ ?_
  · refine hide_post ?_
    (refine pk1 ?_; generalize p1_1 _ = Q')
    intro hQ
    repeat walk_at "c2"
    walk_at "eval Name"
    repeat walk_at "c2"
    refine prep_get rfl (by show dp + 1 ≤ 400; lia) (by show un + _ ≤ 4000; lia) ?_
    (refine pk3 ?_; generalize p3_1 _ = f; generalize p3_2 _ = h2; generalize p3_3 _ = tk2)
    intro G2 hf
    rename_i b hb1 D1
    have G := (grow_of D1).trans G2
    have bt : h2.get? b = some ⟨.type "tuple", none, .seq #[.type "object"] 0, #[]⟩ := G2 _ _ (mem0 D1)
    have X2 := X1.keeps G
    have c0 := G _ _ at0
    have c3 : h2.get? mainGlobals = some (o3_40 w.params) := X2 _ _ (by kernel_rfl)
    have c2 : h2.get? cStatics = some ⟨.none, none, .dict #[] 0, #[]⟩ := X2 _ _ (by kernel_rfl)
    have c162 : h2.get? 162 = some (o162_34 w.params) := X2 _ _ (by kernel_rfl)
    have c158 : h2.get? 158 = some (tabObj #[]) := G _ _ (F.keep _ _ hP)
    repeat walk_at "c2"
    refine roomy rfl (by show dp + 1 ≤ 500; lia) (by show un + _ ≤ 5000; lia) (prep_call' w _ _ _ f b tk hf bt ?_)
    (refine pk3 ?_; generalize p3_1 _ = r; generalize p3_2 _ = h3; generalize p3_3 _ = tk3)
    intro D3
    replace D3 : Mem h2 h3 [] [(r, ⟨.type "dict", none, .dict #[] 0, #[]⟩)] := D3
    clear D1 G2 X1 at0 hf
    have c1 : h2.get? sysModules = some (boot_o_1 w.params) := X2 _ _ (by kernel_rfl)
    have c4 : h2.get? 4 = some (boot_o_4 w.params) := X2 _ _ (by kernel_rfl)
    have ht : h2.TableAt 162 158 #[] := table_at c162 rfl rfl c158 rfl
    have hsys : (r == sysModules) = false := by simpa using D3.ne_old 0 _ _ rfl _ _ c1
    have q4 := tld1
    have q5 := look_b w.params
    have q6 := look_n w.params
    repeat walk_at "c2"
    rename_i tt hA ct hB cc hC DC
    refine upg' #[rawInt 199, rawInt 4, .ref cc] (by assumption) ht rfl (by kernel_rfl!) ?_
    (refine pk1 ?_; generalize p1_1 _ = h4)
    intro D4
    clear DC
    repeat walk_at "c2"
    refine' wpAny_enterFrame ?k1 ?k2 ?_
    case k1 => exact nolimit_of (Mem.old (by assumption) _ _ c2 rfl)
    case k2 => show dp + 1 < _; lia
    repeat walk_at "c2"
    refine wpAny_run (body_never (by kernel_rfl!) (by kernel_rfl!) ?_)
    rename Mem _ _ _ _ => kD
    refine seg advK kD (((((olds_of kD).cons c0 (by kernel_rfl!)).cons c1 (by kernel_rfl!)).cons c2 (by kernel_rfl!)).cons c3 (by kernel_rfl!) |>.cons c4 (by kernel_rfl!)) (fun av => by kernel_rfl) ?_
    intro av h9 D9
    refine tree_eq (t' := pure .next) (by kernel_rfl!) (wpAny_pure ?_)
    obtain ⟨hB, AN⟩ := anew D9 50 52 (p := (ct, ⟨.none, none, .fields #[rawInt 203, rawInt 8, .ref (av 6), rawInt 206, rawInt 8, .ref (av 14), rawInt 209, rawInt 8, .ref (av 22), rawInt 212, rawInt 8, .ref (av 30), rawInt 215, rawInt 8, .ref (av 38), rawInt 218, rawInt 8, .ref (av 46)], #[]⟩)) (q := (r, ⟨.type "dict", none, .dict #[⟨PyData.keyHash w.params (ofS "__module__"), .str (ofS "__module__") (tk3 + 6), .str (ofS "cpy313.functools") (tk3 + 11)⟩, ⟨PyData.keyHash w.params (ofS "__qualname__"), .str (ofS "__qualname__") (tk3 + 8), .str (ofS "cmp_to_key.<locals>.K") (tk3 + 7)⟩, ⟨PyData.keyHash w.params (ofS "__firstlineno__"), .str (ofS "__firstlineno__") (tk3 + 10), .int 199 (tk3 + 9)⟩, ⟨PyData.keyHash w.params (ofS "__slots__"), .str (ofS "__slots__") (tk3 + 14), .ref (av 0)⟩, ⟨PyData.keyHash w.params (ofS "__init__"), .str (ofS "__init__") (tk3 + 22), .ref (av 7)⟩, ⟨PyData.keyHash w.params (ofS "__lt__"), .str (ofS "__lt__") (tk3 + 31), .ref (av 15)⟩, ⟨PyData.keyHash w.params (ofS "__gt__"), .str (ofS "__gt__") (tk3 + 40), .ref (av 23)⟩, ⟨PyData.keyHash w.params (ofS "__eq__"), .str (ofS "__eq__") (tk3 + 49), .ref (av 31)⟩, ⟨PyData.keyHash w.params (ofS "__le__"), .str (ofS "__le__") (tk3 + 58), .ref (av 39)⟩, ⟨PyData.keyHash w.params (ofS "__ge__"), .str (ofS "__ge__") (tk3 + 67), .ref (av 47)⟩, ⟨PyData.keyHash w.params (ofS "__hash__"), .str (ofS "__hash__") (tk3 + 68), .none⟩] 11, #[]⟩)) (by kernel_rfl!) (by kernel_rfl!) rfl
    have t158 := AN.tab 158 _ (memC D9) (Ne.symm (D9.ne_old 50 ct ⟨.none, none, .fields #[rawInt 203, rawInt 8, .ref (av 6), rawInt 206, rawInt 8, .ref (av 14), rawInt 209, rawInt 8, .ref (av 22), rawInt 212, rawInt 8, .ref (av 30), rawInt 215, rawInt 8, .ref (av 38), rawInt 218, rawInt 8, .ref (av 46)], #[]⟩ (by kernel_rfl!) _ _ c158)) (Ne.symm (D9.ne_old 52 r ⟨.type "dict", none, .dict #[⟨PyData.keyHash w.params (ofS "__module__"), .str (ofS "__module__") (tk3 + 6), .str (ofS "cpy313.functools") (tk3 + 11)⟩, ⟨PyData.keyHash w.params (ofS "__qualname__"), .str (ofS "__qualname__") (tk3 + 8), .str (ofS "cmp_to_key.<locals>.K") (tk3 + 7)⟩, ⟨PyData.keyHash w.params (ofS "__firstlineno__"), .str (ofS "__firstlineno__") (tk3 + 10), .int 199 (tk3 + 9)⟩, ⟨PyData.keyHash w.params (ofS "__slots__"), .str (ofS "__slots__") (tk3 + 14), .ref (av 0)⟩, ⟨PyData.keyHash w.params (ofS "__init__"), .str (ofS "__init__") (tk3 + 22), .ref (av 7)⟩, ⟨PyData.keyHash w.params (ofS "__lt__"), .str (ofS "__lt__") (tk3 + 31), .ref (av 15)⟩, ⟨PyData.keyHash w.params (ofS "__gt__"), .str (ofS "__gt__") (tk3 + 40), .ref (av 23)⟩, ⟨PyData.keyHash w.params (ofS "__eq__"), .str (ofS "__eq__") (tk3 + 49), .ref (av 31)⟩, ⟨PyData.keyHash w.params (ofS "__le__"), .str (ofS "__le__") (tk3 + 58), .ref (av 39)⟩, ⟨PyData.keyHash w.params (ofS "__ge__"), .str (ofS "__ge__") (tk3 + 67), .ref (av 47)⟩, ⟨PyData.keyHash w.params (ofS "__hash__"), .str (ofS "__hash__") (tk3 + 68), .none⟩] 11, #[]⟩ (by kernel_rfl!) _ _ c158))
    have K0 : ∀ b o, h₁.get? b = some o → b ≠ 158 → hB.get? b = some o := fun b o e n => AN.old b o (G b o e) (away158 n)
    have Ko := AN.old
    have Kn := AN.new
    have kD' := AN.mem
    clear AN kD ht c158
    replace c2 := Ko _ _ c2 rfl
    replace bt := Ko _ _ bt rfl
    have eS : hB.get? (av 0) = some ⟨.type "list", none, .seq #[.str (ofS "obj") (tk3 + 13)] 0, #[]⟩ := Kn 47 (av 0) _ (by kernel_rfl!) rfl rfl
    have e1 : hB.get? (av 7) = some ⟨.type "function", none, .func ⟨ofS "__init__", ofS "cmp_to_key.<locals>.K.__init__", fnP (kSt 2), .stmts (fnB (kSt 2)), fnS (kSt 2), 3, [], .none, .none, .none, .str (ofS "law_kq0052_01") 451, none, .ref (av 6), .none, 0⟩, #[]⟩ := Kn 40 (av 7) _ (by kernel_rfl!) rfl rfl
    have e2 : hB.get? (av 15) = some ⟨.type "function", none, .func ⟨ofS "__lt__", ofS "cmp_to_key.<locals>.K.__lt__", fnP (kSt 3), .stmts (fnB (kSt 3)), fnS (kSt 3), 3, [(ofS "mycmp", (L' + 1))], .none, .none, .none, .str (ofS "law_kq0052_01") 451, none, .ref (av 14), .ref (av 8), 0⟩, #[]⟩ := Kn 32 (av 15) _ (by kernel_rfl!) rfl rfl
    have e3 : hB.get? (av 23) = some ⟨.type "function", none, .func ⟨ofS "__gt__", ofS "cmp_to_key.<locals>.K.__gt__", fnP (kSt 4), .stmts (fnB (kSt 4)), fnS (kSt 4), 3, [(ofS "mycmp", (L' + 1))], .none, .none, .none, .str (ofS "law_kq0052_01") 451, none, .ref (av 22), .ref (av 16), 0⟩, #[]⟩ := Kn 24 (av 23) _ (by kernel_rfl!) rfl rfl
    have e4 : hB.get? (av 31) = some ⟨.type "function", none, .func ⟨ofS "__eq__", ofS "cmp_to_key.<locals>.K.__eq__", fnP (kSt 5), .stmts (fnB (kSt 5)), fnS (kSt 5), 3, [(ofS "mycmp", (L' + 1))], .none, .none, .none, .str (ofS "law_kq0052_01") 451, none, .ref (av 30), .ref (av 24), 0⟩, #[]⟩ := Kn 16 (av 31) _ (by kernel_rfl!) rfl rfl
    have e5 : hB.get? (av 39) = some ⟨.type "function", none, .func ⟨ofS "__le__", ofS "cmp_to_key.<locals>.K.__le__", fnP (kSt 6), .stmts (fnB (kSt 6)), fnS (kSt 6), 3, [(ofS "mycmp", (L' + 1))], .none, .none, .none, .str (ofS "law_kq0052_01") 451, none, .ref (av 38), .ref (av 32), 0⟩, #[]⟩ := Kn 8 (av 39) _ (by kernel_rfl!) rfl rfl
    have e6 : hB.get? (av 47) = some ⟨.type "function", none, .func ⟨ofS "__ge__", ofS "cmp_to_key.<locals>.K.__ge__", fnP (kSt 7), .stmts (fnB (kSt 7)), fnS (kSt 7), 3, [(ofS "mycmp", (L' + 1))], .none, .none, .none, .str (ofS "law_kq0052_01") 451, none, .ref (av 46), .ref (av 40), 0⟩, #[]⟩ := Kn 0 (av 47) _ (by kernel_rfl!) rfl rfl
    have g1 := Kn 41 (av 6) ⟨.type "code", none, .fields #[.str (ofS "__init__") (tk3 + 15), .str (ofS "cmp_to_key.<locals>.K.__init__") (tk3 + 16), nthF (newsOf D9) 41 2, nthF (newsOf D9) 41 3, nthF (newsOf D9) 41 4, nthF (newsOf D9) 41 5, nthF (newsOf D9) 41 6, nthF (newsOf D9) 41 7, nthF (newsOf D9) 41 8, nthF (newsOf D9) 41 9, nthF (newsOf D9) 41 10, nthF (newsOf D9) 41 11, nthF (newsOf D9) 41 12, nthF (newsOf D9) 41 13, nthF (newsOf D9) 41 14, nthF (newsOf D9) 41 15, nthF (newsOf D9) 41 16, nthF (newsOf D9) 41 17, nthF (newsOf D9) 41 18], #[]⟩ (by kernel_rfl!) rfl rfl
    have g2 : hB.CodeRec (.ref (av 14)) (ofS "cmp_to_key.<locals>.K.__lt__") := ⟨(av 14), nthO (newsOf D9) 33, nthFs (newsOf D9) 33, tk3 + 24, rfl, Kn 33 (av 14) _ (by kernel_rfl!) rfl rfl, by kernel_rfl!, by kernel_rfl!⟩
    repeat walk_at "c2"
    rename_i sa y1 y2 kD
    have GK := grow_of kD
    refine type_call w _ rfl (by show dp + 1 ≤ 400; lia) (by show un + _ ≤ 2900; lia) _ _ _ _ _ _ _ b r (av 7) (av 15) (av 23) (av 31) (av 39) (av 47) (av 0) sa _ _ _ _ (kD.old _ _ c2 rfl) (kD.old _ _ bt rfl) (kD.at 2 r ⟨.type "dict", none, .dict #[⟨PyData.keyHash w.params (ofS "__module__"), .str (ofS "__module__") (tk3 + 6), .str (ofS "cpy313.functools") (tk3 + 11)⟩, ⟨PyData.keyHash w.params (ofS "__qualname__"), .str (ofS "__qualname__") (tk3 + 8), .str (ofS "cmp_to_key.<locals>.K") (tk3 + 7)⟩, ⟨PyData.keyHash w.params (ofS "__firstlineno__"), .str (ofS "__firstlineno__") (tk3 + 10), .int 199 (tk3 + 9)⟩, ⟨PyData.keyHash w.params (ofS "__slots__"), .str (ofS "__slots__") (tk3 + 14), .ref (av 0)⟩, ⟨PyData.keyHash w.params (ofS "__init__"), .str (ofS "__init__") (tk3 + 22), .ref (av 7)⟩, ⟨PyData.keyHash w.params (ofS "__lt__"), .str (ofS "__lt__") (tk3 + 31), .ref (av 15)⟩, ⟨PyData.keyHash w.params (ofS "__gt__"), .str (ofS "__gt__") (tk3 + 40), .ref (av 23)⟩, ⟨PyData.keyHash w.params (ofS "__eq__"), .str (ofS "__eq__") (tk3 + 49), .ref (av 31)⟩, ⟨PyData.keyHash w.params (ofS "__le__"), .str (ofS "__le__") (tk3 + 58), .ref (av 39)⟩, ⟨PyData.keyHash w.params (ofS "__ge__"), .str (ofS "__ge__") (tk3 + 67), .ref (av 47)⟩, ⟨PyData.keyHash w.params (ofS "__hash__"), .str (ofS "__hash__") (tk3 + 68), .none⟩, ⟨PyData.keyHash w.params (ofS "__static_attributes__"), .str (ofS "__static_attributes__") (tk3 + 70), .ref sa⟩] 12, #[]⟩ (by kernel_rfl!)) hsys (kD.old _ _ eS rfl) (kD.old _ _ e1 rfl) (kD.old _ _ e2 rfl) (kD.old _ _ e3 rfl) (kD.old _ _ e4 rfl) (kD.old _ _ e5 rfl) (kD.old _ _ e6 rfl) (kD.at 0 _ _ rfl) ?_
    intro a md ns h5 tk5 t2 tM tO tD en GG hfr hnfr ha hmd hns
    have Kf : ∀ b o, h₁.get? b = some o → b ≠ 158 → h5.get? b = some o := fun b o e n => GG _ _ (GK _ _ (K0 b o e n))
    have up : ∀ b o, hB.get? b = some o → h5.get? b = some o := fun b o e => GG _ _ (GK _ _ e)
    have hNs : h5.Ns L' _ := keepsNe158 F.ns hL158 Kf
    have hafr : s.heap.get? a = none := fresh_back (fun b o e n => GK _ _ (K0 b o (F.keep b o e) n)) (GK _ _ t158) hfr
    have nL : ∀ b o, h5.get? b = some o → (∀ es ep, o.data ≠ .dict es ep) → b ≠ L' := ne_ns hNs
    have nsL : ns ≠ L' := ne_nsf F.ns (fun o e => GK _ _ (K0 _ o e hL158)) hnfr
    iterate 8 walk_at "c2"
    refine wpAny_bind (wpAny_holding (wpAny_point ?_))
    refine wpAny_bind (wpAny_storeName_local (by kernel_rfl) hNs (fun h6 hn6 hs6 => ?_) (by kernel_rfl))
    have s6 : ∀ b o, h5.get? b = some o → b ≠ L' → h6.get? b = some o := fun b o e n => (hs6.2 b n).trans e
    have f6' : ∀ b o, h5.get? b = some o → (∀ es ep, o.data ≠ .dict es ep) → h6.get? b = some o := fun b o e n => s6 b o e (nL b o e n)
    obtain ⟨c9, o9, vs9, t9, e9, gg9, hd9, hv9⟩ := g2
    have hM : KMade w (L' + 1) s.heap h6 a := ⟨hafr, fun i => [b, ns, md, av 7, av 15, av 23, av 31, av 39, av 47, av 0, sa, av 6, av 14, av 8].getD i 0, fun i => [tk3, tk, t2, tM, tO, tD, en, tk3 + 15, tk3 + 16].getD i 0, nthF (newsOf D9) 41, f6' _ _ ha (fun _ _ q => nomatch q), f6' _ _ hmd (fun _ _ q => nomatch q), s6 _ _ hns nsL,
      (f6' _ _ (up _ _ e1) (fun _ _ q => nomatch q)).trans (congrArg some (by kernel_rfl!)), (f6' _ _ (up _ _ e2) (fun _ _ q => nomatch q)).trans (congrArg some (by kernel_rfl!)), f6' _ _ (up _ _ g1) (fun _ _ q => nomatch q), ⟨c9, o9, vs9, t9, e9, f6' _ _ (up _ _ gg9) (fun _ _ q => by rw [hd9] at q; cases q), hd9, hv9⟩⟩
    obtain ⟨oc', hoc', hdc'⟩ := hcell
    refine wpAny_point ?_
    refine wpAny_pure (hQ _ _ ⟨rfl, a, h6, _, rfl, ⟨_, hn6, by simp⟩, fun b o e n => s6 b o (Kf b o (F.keep b o e) n) (Nat.ne_of_lt (Nat.lt_of_lt_of_le (Heap.lt_size e) F.above)), ⟨_, f6' _ _ (up _ _ t158) (fun _ _ q => nomatch q)⟩,
      ⟨oc', f6' _ _ (Kf _ _ hoc' hM158) (fun _ _ q => by rw [hdc'] at q; cases q), hdc'⟩, hM⟩)
  · rintro f s' ⟨rfl, a, h', tk', rfl, ⟨m', hm1, hm2⟩, k1, k2, k3, k4⟩
    show wpAny _ _ (execs _ _) _ _ _
    refine wpAny_execs_cons (wpAny_Return_some (wpAny_Name (wpAny_loadName_local (by kernel_rfl) (by kernel_rfl) hm1 hm2 ?_) (by decide +kernel)))
    exact hret a (L' + 1) h' tk' k1 k2 k3 hmc0 k4
  · intro e s' f; exact f.elim
end
section
set_option maxHeartbeats 4000000
open PySem.W.X PySem.Calls Builtin Builtin.Getset_descriptor
local macro_rules | `(tactic| walk_at "c1z") => `(tactic| (dsimp only))

section
local macro_rules | `(tactic| walk_at "c2") => `(tactic| (with_reducible refine st26 ?_))
theorem hooked (w : World) (s : Shared) (Q E : Value → Shared → Prop) (X : (kk w.params).In s.heap) (a b ns md f1 f2 f3 f4 f5 f6 sl sa cd1 mc x : Addr) (dd : Option Addr) (tk t1 t2 tM tO tD en : Nat)
  (ho : s.heap.get? a = some ⟨.type "type", none, .cls { name := ofS "K", bases := [.type "object"], mro := [.ref a, .type "object"], ns := ns, qualname := ofS "cmp_to_key.<locals>.K", hasDict := false, slotNames := [ofS "obj"], subclasses := [], abstract := false, collection := none, hasDel := false }, #[some (.ref b), none, some (.str (ofS "K") t1), some (.str (ofS "cmp_to_key.<locals>.K") t2), some (.builtin "object.__new__"), some (.bool false)]⟩)
  (hm : s.heap.get? md = some ⟨.type "member_descriptor", none, .fields #[.str (ofS "obj") tM, .ref a, .builtin "proto.slot", .builtin "proto.slot#set", rawInt 0], #[]⟩)
  (hn : s.heap.get? ns = some ⟨.type "dict", none, .dict #[⟨PyData.keyHash w.params (ofS "__module__"), .str (ofS "__module__") (tk + 6), .str (ofS "cpy313.functools") (tk + 11)⟩, ⟨PyData.keyHash w.params (ofS "__firstlineno__"), .str (ofS "__firstlineno__") (tk + 10), .int 199 (tk + 9)⟩, ⟨PyData.keyHash w.params (ofS "__slots__"), .str (ofS "__slots__") (tk + 14), .ref sl⟩, ⟨PyData.keyHash w.params (ofS "__init__"), .str (ofS "__init__") (tk + 22), .ref f1⟩, ⟨PyData.keyHash w.params (ofS "__lt__"), .str (ofS "__lt__") (tk + 31), .ref f2⟩, ⟨PyData.keyHash w.params (ofS "__gt__"), .str (ofS "__gt__") (tk + 40), .ref f3⟩, ⟨PyData.keyHash w.params (ofS "__eq__"), .str (ofS "__eq__") (tk + 49), .ref f4⟩, ⟨PyData.keyHash w.params (ofS "__le__"), .str (ofS "__le__") (tk + 58), .ref f5⟩, ⟨PyData.keyHash w.params (ofS "__ge__"), .str (ofS "__ge__") (tk + 67), .ref f6⟩, ⟨PyData.keyHash w.params (ofS "__hash__"), .str (ofS "__hash__") (tk + 68), .none⟩, ⟨PyData.keyHash w.params (ofS "__static_attributes__"), .str (ofS "__static_attributes__") (tk + 70), .ref sa⟩, ⟨PyData.keyHash w.params (ofS "obj"), .str (ofS "obj") tO, .ref md⟩, ⟨PyData.keyHash w.params (ofS "__doc__"), .str (ofS "__doc__") tD, .none⟩] en, #[]⟩)
  (j : Int) (t u : Tok) (hx : s.heap.get? x = some ⟨.ref a, dd, .plain, #[some (.int j t)]⟩)
  (hret : Ends Q s fun v h' => v = .int j t ∧ h' = s.heap) :
  wpAny (model pw w) RA (runValue (.builtin "proto.getattr_hooked" ⟨[.ref x, .str (ofS "obj") u], []⟩)) Q E s := by
  revert w s Q E X a b ns md f1 f2 f3 f4 f5 f6 sl sa x dd tk t1 t2 tM tO tD en ho hm hn j t u hx hret
  (refine pk1 (i1 := nW) ?_; generalize p1_1 _ = w)
  refine sh5 ?_
  (refine pk5 (i3 := nD) ?_; generalize p5_1 _ = hh; generalize p5_2 _ = g; generalize p5_3 _ = d; generalize p5_4 _ = tk0; generalize p5_5 _ = os)
  (refine pk2 ?_; generalize p2_1 _ = Q; generalize p2_2 _ = E)
  intro X
  (refine no_implicit_lambda% (pk6 ?_); generalize p6_1 _ = a; generalize p6_2 _ = b; generalize p6_3 _ = ns; generalize p6_4 _ = md; generalize p6_5 _ = f1; generalize p6_6 _ = f2); (refine no_implicit_lambda% (pk6 ?_); generalize p6_1 _ = f3; generalize p6_2 _ = f4; generalize p6_3 _ = f5; generalize p6_4 _ = f6; generalize p6_5 _ = sl; generalize p6_6 _ = sa); (refine no_implicit_lambda% (pk6 ?_); generalize p6_1 _ = x; generalize p6_2 _ = dd; generalize p6_3 _ = tk; generalize p6_4 _ = t1; generalize p6_5 _ = t2; generalize p6_6 _ = tM); (refine no_implicit_lambda% (pk3 ?_); generalize p3_1 _ = tO; generalize p3_2 _ = tD; generalize p3_3 _ = en)
  intro ho hm hn
  (refine no_implicit_lambda% (pk3 ?_); generalize p3_1 _ = j; generalize p3_2 _ = t; generalize p3_3 _ = u)
  intro hx hret
  have D := Mem.start hh
  have X' : (kk w.params).In hh := X
  have hx' : hh.get? x = some ⟨.ref a, dd, .plain, #[some (.int j t)]⟩ := hx
  have ho' := ho
  dsimp only at ho' 
  replace ho := ho'
  have hm' := hm
  dsimp only at hm'
  have hn' := hn
  dsimp only at hn'
  clear hm hn hx X ho'
  refine wpAny_runValue (codeAny_builtin F.entry_getattr_hooked ?_)
  unfold Builtin.«proto.getattr_hooked»
  repeat walk_at "c2"
  refine wpAny_of_eq (a := some (.builtin "member_descriptor.__get__")) (by rw [typeLookup_type, builtinLookup_eq_fast]; kernel_rfl!) ?_
  repeat walk_at "c2"
  refine wpAny_of_eq (a := some (.builtin "member_descriptor.__set__")) (by rw [typeLookup_type, builtinLookup_eq_fast]; kernel_rfl!) ?_
  repeat walk_at "c2"
  refine wpAny_call (codeAny_call_builtin KF.slot_mem.plain KF.entry_mem (KF.slot_mem.check _ _ _ _ _ _ _ _ ⟨_, hm', rfl⟩ (KF.args_mem _ _ _) ?_))
  unfold Builtin.«member_descriptor.__get__» descrGet
  rw [dga_obj]
  refine wpAny_bind (wpAny_pure ?_)
  unfold descrGetter descrCheckInstance descrNameAndClass isInstance
  have mr : Looks (model pw w) hh (mroOf (.ref a)) [.ref a, .type "object"] := ((Looks.ld (part := none) ho).andThen .now).andThen .now
  have se : Looks (model pw w) hh (isSubtype (.ref a) (.ref a)) true := mr.andThen (Looks.of_pure (by simp))
  clear mr
  repeat walk_at "c2"
  refine tree_eq (t' := isSubtype (.ref a) (.ref a)) rfl ?_
  refine se.here ?_
  repeat walk_at "c2"
  refine ⟨Code.quiet_builtin _ (by decide +kernel), codeAny_builtin KF.entry_slot ?_⟩
  unfold Builtin.«proto.slot» Slots.target
  repeat walk_at "c2"
  exact Ends.use hret ⟨rfl, rfl⟩
end
section
local macro_rules | `(tactic| walk_at "c2") => `(tactic| (with_reducible refine st26 ?_))
local macro_rules | `(tactic| walk_at "c2") => `(tactic| (with_reducible refine st21 ?_))
local macro_rules | `(tactic| walk_at "c2") => `(tactic| (with_reducible refine st27 ?_))
namespace H_kinst
def P (w : World) (Q : Value → Shared → Prop) (E : Value → Shared → Prop) (a : Addr) (b : Addr) (ns : Addr) (md : Addr) (f1 : Addr) (f2 : Addr) (f3 : Addr) (f4 : Addr) (f5 : Addr) (f6 : Addr) (sl : Addr) (sa : Addr) (cd1 : Addr) (mc : Addr) (tk : Nat) (t1 : Nat) (t2 : Nat) (tM : Nat) (tO : Nat) (tD : Nat) (en : Nat) (p10 : Tok) (p11 : Tok) (q12 : Value) (q13 : Value) (q14 : Value) (q15 : Value) (q16 : Value) (q17 : Value) (q18 : Value) (q19 : Value) (q110 : Value) (q111 : Value) (q112 : Value) (q113 : Value) (q114 : Value) (q115 : Value) (q116 : Value) (q117 : Value) (q118 : Value) (j : Int) (t : Tok) : Prop := ∀ (s : Shared) (X : (kk w.params).In s.heap) (ho : s.heap.get? a = some ⟨.type "type", none, .cls { name := ofS "K", bases := [.type "object"], mro := [.ref a, .type "object"], ns := ns, qualname := ofS "cmp_to_key.<locals>.K", hasDict := false, slotNames := [ofS "obj"], subclasses := [], abstract := false, collection := none, hasDel := false }, #[some (.ref b), none, some (.str (ofS "K") t1), some (.str (ofS "cmp_to_key.<locals>.K") t2), some (.builtin "object.__new__"), some (.bool false)]⟩) (hm : s.heap.get? md = some ⟨.type "member_descriptor", none, .fields #[.str (ofS "obj") tM, .ref a, .builtin "proto.slot", .builtin "proto.slot#set", rawInt 0], #[]⟩) (hn : s.heap.get? ns = some ⟨.type "dict", none, .dict #[⟨PyData.keyHash w.params (ofS "__module__"), .str (ofS "__module__") (tk + 6), .str (ofS "cpy313.functools") (tk + 11)⟩, ⟨PyData.keyHash w.params (ofS "__firstlineno__"), .str (ofS "__firstlineno__") (tk + 10), .int 199 (tk + 9)⟩, ⟨PyData.keyHash w.params (ofS "__slots__"), .str (ofS "__slots__") (tk + 14), .ref sl⟩, ⟨PyData.keyHash w.params (ofS "__init__"), .str (ofS "__init__") (tk + 22), .ref f1⟩, ⟨PyData.keyHash w.params (ofS "__lt__"), .str (ofS "__lt__") (tk + 31), .ref f2⟩, ⟨PyData.keyHash w.params (ofS "__gt__"), .str (ofS "__gt__") (tk + 40), .ref f3⟩, ⟨PyData.keyHash w.params (ofS "__eq__"), .str (ofS "__eq__") (tk + 49), .ref f4⟩, ⟨PyData.keyHash w.params (ofS "__le__"), .str (ofS "__le__") (tk + 58), .ref f5⟩, ⟨PyData.keyHash w.params (ofS "__ge__"), .str (ofS "__ge__") (tk + 67), .ref f6⟩, ⟨PyData.keyHash w.params (ofS "__hash__"), .str (ofS "__hash__") (tk + 68), .none⟩, ⟨PyData.keyHash w.params (ofS "__static_attributes__"), .str (ofS "__static_attributes__") (tk + 70), .ref sa⟩, ⟨PyData.keyHash w.params (ofS "obj"), .str (ofS "obj") tO, .ref md⟩, ⟨PyData.keyHash w.params (ofS "__doc__"), .str (ofS "__doc__") tD, .none⟩] en, #[]⟩) (hf : s.heap.get? f1 = some ⟨.type "function", none, .func ⟨ofS "__init__", ofS "cmp_to_key.<locals>.K.__init__", fnP (kSt 2), .stmts (fnB (kSt 2)), fnS (kSt 2), 3, [], .none, .none, .none, .str (ofS "law_kq0052_01") 451, none, .ref cd1, .none, 0⟩, #[]⟩) (hc : s.heap.get? cd1 = some ⟨.type "code", none, .fields #[.str (ofS "__init__") p10, .str (ofS "cmp_to_key.<locals>.K.__init__") p11, q12, q13, q14, q15, q16, q17, q18, q19, q110, q111, q112, q113, q114, q115, q116, q117, q118], #[]⟩) (hret : Ends Q s fun v h' => ∃ x dd, v = .ref x ∧ Grow s.heap h' ∧ s.heap.get? x = none ∧ h'.get? x = some ⟨.ref a, dd, .plain, #[some (.int j t)]⟩), wpAny (model pw w) RA (call (.ref a) [.int j t]) Q E s
noncomputable def Pt (tup0 : (World) × (Value → Shared → Prop) × (Value → Shared → Prop) × (Addr) × (Addr) × (Addr) × (Addr) × (Addr) × (Addr) × (Addr) × (Addr) × (Addr) × (Addr) × (Addr) × (Addr) × (Addr) × (Addr) × (Nat) × (Nat) × (Nat) × (Nat) × (Nat) × (Nat) × (Nat) × (Tok) × (Tok) × (Value) × (Value) × (Value) × (Value) × (Value) × (Value) × (Value) × (Value) × (Value) × (Value) × (Value) × (Value) × (Value) × (Value) × (Value) × (Value) × (Value) × (Int) × (Tok)) : Prop := P (tup0.1) (tup0.2.1) (tup0.2.2.1) (tup0.2.2.2.1) (tup0.2.2.2.2.1) (tup0.2.2.2.2.2.1) (tup0.2.2.2.2.2.2.1) (tup0.2.2.2.2.2.2.2.1) (tup0.2.2.2.2.2.2.2.2.1) (tup0.2.2.2.2.2.2.2.2.2.1) (tup0.2.2.2.2.2.2.2.2.2.2.1) (tup0.2.2.2.2.2.2.2.2.2.2.2.1) (tup0.2.2.2.2.2.2.2.2.2.2.2.2.1) (tup0.2.2.2.2.2.2.2.2.2.2.2.2.2.1) (tup0.2.2.2.2.2.2.2.2.2.2.2.2.2.2.1) (tup0.2.2.2.2.2.2.2.2.2.2.2.2.2.2.2.1) (tup0.2.2.2.2.2.2.2.2.2.2.2.2.2.2.2.2.1) (tup0.2.2.2.2.2.2.2.2.2.2.2.2.2.2.2.2.2.1) (tup0.2.2.2.2.2.2.2.2.2.2.2.2.2.2.2.2.2.2.1) (tup0.2.2.2.2.2.2.2.2.2.2.2.2.2.2.2.2.2.2.2.1) (tup0.2.2.2.2.2.2.2.2.2.2.2.2.2.2.2.2.2.2.2.2.1) (tup0.2.2.2.2.2.2.2.2.2.2.2.2.2.2.2.2.2.2.2.2.2.1) (tup0.2.2.2.2.2.2.2.2.2.2.2.2.2.2.2.2.2.2.2.2.2.2.1) (tup0.2.2.2.2.2.2.2.2.2.2.2.2.2.2.2.2.2.2.2.2.2.2.2.1) (tup0.2.2.2.2.2.2.2.2.2.2.2.2.2.2.2.2.2.2.2.2.2.2.2.2.1) (tup0.2.2.2.2.2.2.2.2.2.2.2.2.2.2.2.2.2.2.2.2.2.2.2.2.2.1) (tup0.2.2.2.2.2.2.2.2.2.2.2.2.2.2.2.2.2.2.2.2.2.2.2.2.2.2.1) (tup0.2.2.2.2.2.2.2.2.2.2.2.2.2.2.2.2.2.2.2.2.2.2.2.2.2.2.2.1) (tup0.2.2.2.2.2.2.2.2.2.2.2.2.2.2.2.2.2.2.2.2.2.2.2.2.2.2.2.2.1) (tup0.2.2.2.2.2.2.2.2.2.2.2.2.2.2.2.2.2.2.2.2.2.2.2.2.2.2.2.2.2.1) (tup0.2.2.2.2.2.2.2.2.2.2.2.2.2.2.2.2.2.2.2.2.2.2.2.2.2.2.2.2.2.2.1) (tup0.2.2.2.2.2.2.2.2.2.2.2.2.2.2.2.2.2.2.2.2.2.2.2.2.2.2.2.2.2.2.2.1) (tup0.2.2.2.2.2.2.2.2.2.2.2.2.2.2.2.2.2.2.2.2.2.2.2.2.2.2.2.2.2.2.2.2.1) (tup0.2.2.2.2.2.2.2.2.2.2.2.2.2.2.2.2.2.2.2.2.2.2.2.2.2.2.2.2.2.2.2.2.2.1) (tup0.2.2.2.2.2.2.2.2.2.2.2.2.2.2.2.2.2.2.2.2.2.2.2.2.2.2.2.2.2.2.2.2.2.2.1) (tup0.2.2.2.2.2.2.2.2.2.2.2.2.2.2.2.2.2.2.2.2.2.2.2.2.2.2.2.2.2.2.2.2.2.2.2.1) (tup0.2.2.2.2.2.2.2.2.2.2.2.2.2.2.2.2.2.2.2.2.2.2.2.2.2.2.2.2.2.2.2.2.2.2.2.2.1) (tup0.2.2.2.2.2.2.2.2.2.2.2.2.2.2.2.2.2.2.2.2.2.2.2.2.2.2.2.2.2.2.2.2.2.2.2.2.2.1) (tup0.2.2.2.2.2.2.2.2.2.2.2.2.2.2.2.2.2.2.2.2.2.2.2.2.2.2.2.2.2.2.2.2.2.2.2.2.2.2.1) (tup0.2.2.2.2.2.2.2.2.2.2.2.2.2.2.2.2.2.2.2.2.2.2.2.2.2.2.2.2.2.2.2.2.2.2.2.2.2.2.2.1) (tup0.2.2.2.2.2.2.2.2.2.2.2.2.2.2.2.2.2.2.2.2.2.2.2.2.2.2.2.2.2.2.2.2.2.2.2.2.2.2.2.2.1) (tup0.2.2.2.2.2.2.2.2.2.2.2.2.2.2.2.2.2.2.2.2.2.2.2.2.2.2.2.2.2.2.2.2.2.2.2.2.2.2.2.2.2.1) (tup0.2.2.2.2.2.2.2.2.2.2.2.2.2.2.2.2.2.2.2.2.2.2.2.2.2.2.2.2.2.2.2.2.2.2.2.2.2.2.2.2.2.2.1) (tup0.2.2.2.2.2.2.2.2.2.2.2.2.2.2.2.2.2.2.2.2.2.2.2.2.2.2.2.2.2.2.2.2.2.2.2.2.2.2.2.2.2.2.2.1) (tup0.2.2.2.2.2.2.2.2.2.2.2.2.2.2.2.2.2.2.2.2.2.2.2.2.2.2.2.2.2.2.2.2.2.2.2.2.2.2.2.2.2.2.2.2)
@[irreducible] noncomputable def tup0 : (World) × (Value → Shared → Prop) × (Value → Shared → Prop) × (Addr) × (Addr) × (Addr) × (Addr) × (Addr) × (Addr) × (Addr) × (Addr) × (Addr) × (Addr) × (Addr) × (Addr) × (Addr) × (Addr) × (Nat) × (Nat) × (Nat) × (Nat) × (Nat) × (Nat) × (Nat) × (Tok) × (Tok) × (Value) × (Value) × (Value) × (Value) × (Value) × (Value) × (Value) × (Value) × (Value) × (Value) × (Value) × (Value) × (Value) × (Value) × (Value) × (Value) × (Value) × (Int) × (Tok) := @Classical.epsilon _ ⟨((W0 : World), (fun _ _ => True : Value → Shared → Prop), (fun _ _ => True : Value → Shared → Prop), (0 : Addr), (0 : Addr), (0 : Addr), (0 : Addr), (0 : Addr), (0 : Addr), (0 : Addr), (0 : Addr), (0 : Addr), (0 : Addr), (0 : Addr), (0 : Addr), (0 : Addr), (0 : Addr), (0 : Nat), (0 : Nat), (0 : Nat), (0 : Nat), (0 : Nat), (0 : Nat), (0 : Nat), (0 : Tok), (0 : Tok), (.none : Value), (.none : Value), (.none : Value), (.none : Value), (.none : Value), (.none : Value), (.none : Value), (.none : Value), (.none : Value), (.none : Value), (.none : Value), (.none : Value), (.none : Value), (.none : Value), (.none : Value), (.none : Value), (.none : Value), (0 : Int), (0 : Tok))⟩ fun x => ¬ Pt x
@[irreducible] noncomputable def w : World := tup0.1
@[irreducible] noncomputable def Q : Value → Shared → Prop := tup0.2.1
@[irreducible] noncomputable def E : Value → Shared → Prop := tup0.2.2.1
@[irreducible] noncomputable def a : Addr := tup0.2.2.2.1
@[irreducible] noncomputable def b : Addr := tup0.2.2.2.2.1
@[irreducible] noncomputable def ns : Addr := tup0.2.2.2.2.2.1
@[irreducible] noncomputable def md : Addr := tup0.2.2.2.2.2.2.1
@[irreducible] noncomputable def f1 : Addr := tup0.2.2.2.2.2.2.2.1
@[irreducible] noncomputable def f2 : Addr := tup0.2.2.2.2.2.2.2.2.1
@[irreducible] noncomputable def f3 : Addr := tup0.2.2.2.2.2.2.2.2.2.1
@[irreducible] noncomputable def f4 : Addr := tup0.2.2.2.2.2.2.2.2.2.2.1
@[irreducible] noncomputable def f5 : Addr := tup0.2.2.2.2.2.2.2.2.2.2.2.1
@[irreducible] noncomputable def f6 : Addr := tup0.2.2.2.2.2.2.2.2.2.2.2.2.1
@[irreducible] noncomputable def sl : Addr := tup0.2.2.2.2.2.2.2.2.2.2.2.2.2.1
@[irreducible] noncomputable def sa : Addr := tup0.2.2.2.2.2.2.2.2.2.2.2.2.2.2.1
@[irreducible] noncomputable def cd1 : Addr := tup0.2.2.2.2.2.2.2.2.2.2.2.2.2.2.2.1
@[irreducible] noncomputable def mc : Addr := tup0.2.2.2.2.2.2.2.2.2.2.2.2.2.2.2.2.1
@[irreducible] noncomputable def tk : Nat := tup0.2.2.2.2.2.2.2.2.2.2.2.2.2.2.2.2.2.1
@[irreducible] noncomputable def t1 : Nat := tup0.2.2.2.2.2.2.2.2.2.2.2.2.2.2.2.2.2.2.1
@[irreducible] noncomputable def t2 : Nat := tup0.2.2.2.2.2.2.2.2.2.2.2.2.2.2.2.2.2.2.2.1
@[irreducible] noncomputable def tM : Nat := tup0.2.2.2.2.2.2.2.2.2.2.2.2.2.2.2.2.2.2.2.2.1
@[irreducible] noncomputable def tO : Nat := tup0.2.2.2.2.2.2.2.2.2.2.2.2.2.2.2.2.2.2.2.2.2.1
@[irreducible] noncomputable def tD : Nat := tup0.2.2.2.2.2.2.2.2.2.2.2.2.2.2.2.2.2.2.2.2.2.2.1
@[irreducible] noncomputable def en : Nat := tup0.2.2.2.2.2.2.2.2.2.2.2.2.2.2.2.2.2.2.2.2.2.2.2.1
@[irreducible] noncomputable def p10 : Tok := tup0.2.2.2.2.2.2.2.2.2.2.2.2.2.2.2.2.2.2.2.2.2.2.2.2.1
@[irreducible] noncomputable def p11 : Tok := tup0.2.2.2.2.2.2.2.2.2.2.2.2.2.2.2.2.2.2.2.2.2.2.2.2.2.1
@[irreducible] noncomputable def q12 : Value := tup0.2.2.2.2.2.2.2.2.2.2.2.2.2.2.2.2.2.2.2.2.2.2.2.2.2.2.1
@[irreducible] noncomputable def q13 : Value := tup0.2.2.2.2.2.2.2.2.2.2.2.2.2.2.2.2.2.2.2.2.2.2.2.2.2.2.2.1
@[irreducible] noncomputable def q14 : Value := tup0.2.2.2.2.2.2.2.2.2.2.2.2.2.2.2.2.2.2.2.2.2.2.2.2.2.2.2.2.1
@[irreducible] noncomputable def q15 : Value := tup0.2.2.2.2.2.2.2.2.2.2.2.2.2.2.2.2.2.2.2.2.2.2.2.2.2.2.2.2.2.1
@[irreducible] noncomputable def q16 : Value := tup0.2.2.2.2.2.2.2.2.2.2.2.2.2.2.2.2.2.2.2.2.2.2.2.2.2.2.2.2.2.2.1
@[irreducible] noncomputable def q17 : Value := tup0.2.2.2.2.2.2.2.2.2.2.2.2.2.2.2.2.2.2.2.2.2.2.2.2.2.2.2.2.2.2.2.1
@[irreducible] noncomputable def q18 : Value := tup0.2.2.2.2.2.2.2.2.2.2.2.2.2.2.2.2.2.2.2.2.2.2.2.2.2.2.2.2.2.2.2.2.1
@[irreducible] noncomputable def q19 : Value := tup0.2.2.2.2.2.2.2.2.2.2.2.2.2.2.2.2.2.2.2.2.2.2.2.2.2.2.2.2.2.2.2.2.2.1
@[irreducible] noncomputable def q110 : Value := tup0.2.2.2.2.2.2.2.2.2.2.2.2.2.2.2.2.2.2.2.2.2.2.2.2.2.2.2.2.2.2.2.2.2.2.1
@[irreducible] noncomputable def q111 : Value := tup0.2.2.2.2.2.2.2.2.2.2.2.2.2.2.2.2.2.2.2.2.2.2.2.2.2.2.2.2.2.2.2.2.2.2.2.1
@[irreducible] noncomputable def q112 : Value := tup0.2.2.2.2.2.2.2.2.2.2.2.2.2.2.2.2.2.2.2.2.2.2.2.2.2.2.2.2.2.2.2.2.2.2.2.2.1
@[irreducible] noncomputable def q113 : Value := tup0.2.2.2.2.2.2.2.2.2.2.2.2.2.2.2.2.2.2.2.2.2.2.2.2.2.2.2.2.2.2.2.2.2.2.2.2.2.1
@[irreducible] noncomputable def q114 : Value := tup0.2.2.2.2.2.2.2.2.2.2.2.2.2.2.2.2.2.2.2.2.2.2.2.2.2.2.2.2.2.2.2.2.2.2.2.2.2.2.1
@[irreducible] noncomputable def q115 : Value := tup0.2.2.2.2.2.2.2.2.2.2.2.2.2.2.2.2.2.2.2.2.2.2.2.2.2.2.2.2.2.2.2.2.2.2.2.2.2.2.2.1
@[irreducible] noncomputable def q116 : Value := tup0.2.2.2.2.2.2.2.2.2.2.2.2.2.2.2.2.2.2.2.2.2.2.2.2.2.2.2.2.2.2.2.2.2.2.2.2.2.2.2.2.1
@[irreducible] noncomputable def q117 : Value := tup0.2.2.2.2.2.2.2.2.2.2.2.2.2.2.2.2.2.2.2.2.2.2.2.2.2.2.2.2.2.2.2.2.2.2.2.2.2.2.2.2.2.1
@[irreducible] noncomputable def q118 : Value := tup0.2.2.2.2.2.2.2.2.2.2.2.2.2.2.2.2.2.2.2.2.2.2.2.2.2.2.2.2.2.2.2.2.2.2.2.2.2.2.2.2.2.2.1
@[irreducible] noncomputable def j : Int := tup0.2.2.2.2.2.2.2.2.2.2.2.2.2.2.2.2.2.2.2.2.2.2.2.2.2.2.2.2.2.2.2.2.2.2.2.2.2.2.2.2.2.2.2.1
@[irreducible] noncomputable def t : Tok := tup0.2.2.2.2.2.2.2.2.2.2.2.2.2.2.2.2.2.2.2.2.2.2.2.2.2.2.2.2.2.2.2.2.2.2.2.2.2.2.2.2.2.2.2.2
theorem run : P w Q E a b ns md f1 f2 f3 f4 f5 f6 sl sa cd1 mc tk t1 t2 tM tO tD en p10 p11 q12 q13 q14 q15 q16 q17 q18 q19 q110 q111 q112 q113 q114 q115 q116 q117 q118 j t := by
  refine sh5 ?_
  (refine pk5 (i3 := nD) ?_; generalize p5_1 _ = hh; generalize p5_2 _ = g; generalize p5_3 _ = d; generalize p5_4 _ = tk0; generalize p5_5 _ = os)
  intro X ho hm hn hf hc hret
  have D := Mem.start hh
  have ty : Looks (model pw w) hh (typeOf (.ref a)) (.type "type") := (Looks.ld (part := none) ho).andThen .now
  have mr : Looks (model pw w) hh (mroOf (.ref a)) [.ref a, .type "object"] := ((Looks.ld (part := none) ho).andThen .now).andThen .now
  have made : Looks (model pw w) hh (Bind.madeBy (.ref a)) (some "object.__new__") := by
    intro A Q E s k q
    unfold Bind.madeBy
    refine wpAny_bind (mr A _ E s k ?_)
    rw [List.forIn_cons]
    exact wpAny_bind (wpAny_bind (wpAny_bind (wpAny_bind (wpAny_loadPart (k _ _ ho) (wpAny_pure (wpAny_pure (wpAny_pure (wpAny_pure q))))))))
  have base : Looks (model pw w) hh (Bind.staticBase (.ref a)) (.ref a) := by
    intro A Q E s k q
    unfold Bind.staticBase
    refine wpAny_bind (mr A _ E s k ?_)
    rw [List.forIn_cons]
    exact wpAny_bind (wpAny_bind (wpAny_bind (made A _ E s k (wpAny_pure (wpAny_pure (wpAny_pure q))))))
  have self : Looks (model pw w) hh (isSubtype (.ref a) (.ref a)) true := mr.andThen (Looks.of_pure (by simp))
  have top : Looks (model pw w) hh (isSubtype (.ref a) (.type "object")) true := mr.andThen (Looks.of_pure (by kernel_rfl!))
  have sub : Looks (model pw w) hh (isSubtype (.ref a) (.type "BaseException")) false := mr.andThen (Looks.of_pure (by kernel_rfl!))
  have call : Looks (model pw w) hh (specialOf (.ref a) "__call__") (some (.builtin "type.__call__")) := ty.andThen (Looks.of_pure (by rw [typeLookup_type, builtinLookup_eq_fast]; kernel_rfl!))
  have inst : Looks (model pw w) hh (isInstance (.ref a) (.type "type")) true := ty.andThen (Looks.of_pure (by rw [isSubtype_type]; kernel_rfl!))
  have hi : Looks (model pw w) hh (typeLookup (.ref a) "__init__") (some (.ref f1)) := by
    intro A Q E ⟨hs, gs, ds, ts, oss⟩ k q
    have D := Mem.start hs
    replace ho := k _ _ ho
    replace hn := k _ _ hn
    clear ty mr made base self top sub call inst hm hf hc
    repeat walk_at "c2"
    exact q
  refine wpAny_call (make_core ⟨⟨_, _, _, _, ho, rfl, rfl, rfl⟩, made, base, self, top, call, inst⟩ hi ?hb (.inl rfl) ?_)
  case hb =>
    intro self
    unfold bindSpecial
    exact ((Looks.ld (part := none) hf).andThen .now).andThen (Looks.of_pure (by kernel_rfl))
  have k : ∀ b o, hh.get? b = some o → ((hh.push emptyDict).push (instObj a hh.objs.size)).get? b = some o := fun b o e => Heap.get?_push_of_some _ (Heap.get?_push_of_some _ e)
  have hx : ((hh.push emptyDict).push (instObj a hh.objs.size)).get? (hh.objs.size + 1) = some (instObj a hh.objs.size) := by heap_get
  have hd0 : ((hh.push emptyDict).push (instObj a hh.objs.size)).get? hh.objs.size = some emptyDict := by heap_get
  have hnx : hh.get? (hh.objs.size + 1) = none := Heap.get?_none_of_le (Nat.le_succ _)
  clear ty mr made base self top sub call inst hi
  have hst : hh.get? cStatics = some ⟨.none, none, .dict #[] 0, #[]⟩ := X _ _ (by kernel_rfl)
  replace X := X.keeps k
  replace hst := k _ _ hst
  generalize (hh.push emptyDict).push (instObj a hh.objs.size) = h1 at *
  generalize hh.objs.size + 1 = x at *
  refine codeAny_call_def (fd := fnX (ofS "__init__") (ofS "cmp_to_key.<locals>.K.__init__") (fnP (kSt 2)) (fnB (kSt 2)) (fnS (kSt 2)) [] .none .none .none (.str (ofS "law_kq0052_01") 451) none (.ref cd1) .none) (body := fnB (kSt 2)) (binds := [(ofS "self", .ref x), (ofS "obj", .int j t)]) (Nat.le_of_ble_eq_true (by kernel_rfl!)) (k _ _ hf) rfl (nolimit_of hst) ⟨cd1, _, _, _, rfl, k _ _ hc, rfl, rfl⟩ rfl (BindsTo.of_eq (by kernel_rfl)) (by show ∀ x ∈ (fnS (kSt 2)).names, _; decide +kernel) (locs (by kernel_rfl)) (fun h2 hns hk2 => ?_) (by kernel_rfl) (by kernel_rfl) (by kernel_rfl)
  clear D
  have F : Fr h1 h1.objs.size h2 (fun z => List.lookup z [(ofS "obj", .int j t), (ofS "self", .ref x)]) := ⟨hns, hk2, Nat.le_refl _⟩
  generalize h1.objs.size = L at *
  have D := Mem.start h2
  refine wpAny_mono (E := fun _ _ => False) ?_ (fun _ _ q => q) fun _ _ f => f.elim
  show wpAny _ (Around.deeper _ (envX _ _ _ _ _ _)) (execs _ (envX (ofS "cmp_to_key.<locals>.K.__init__") (fnS (kSt 2)) L f1 (.ref cd1) [])) _ _ _
  repeat walk_at "c2"
  show wpAny _ _ (eval _ _) _ _ _
  refine wpAny_Name (wpAny_loadName_local (v := .int j t) (by kernel_rfl) (by kernel_rfl) F.ns (by kernel_rfl) ?_) (by decide +kernel)
  repeat walk_at "c2"
  show wpAny _ _ (eval _ _) _ _ _
  refine wpAny_Name (wpAny_loadName_local (v := .ref x) (by kernel_rfl) (by kernel_rfl) F.ns (by kernel_rfl) ?_) (by decide +kernel)
  have kB : ∀ b o, hh.get? b = some o → (hideAll h2 [x]).get? b = some o := fun b o e => hideAll_get _ (F.keep _ _ (k _ _ e)) (by rw [List.mem_singleton]; rintro rfl; rw [hnx] at e; cases e)
  clear D
  have D : Mem (hideAll h2 [x]) h2 [] [(x, instObj a hh.objs.size)] := ⟨fun c o e _ => of_hideAll _ e, fun _ hp => (nomatch hp), List.nodup_nil, fun p hp => by
    rw [List.mem_singleton.mp hp]; exact ⟨F.keep _ _ hx, hideAll_none _ (by simp)⟩, List.pairwise_singleton _ _⟩
  generalize hideAll h2 [x] = hB at *
  replace ho := kB _ _ ho
  replace hm := kB _ _ hm
  replace hn := kB _ _ hn
  clear k hf hc hx F hns hk2
  unfold setAttr
  repeat walk_at "c2"
  refine wpAny_of_eq (a := (.builtin "object.__setattr__", [.ref x])) (Eq.trans (b := bindSpecial (.builtin "object.__setattr__") (.ref x)) (by kernel_rfl!) (F.slot_object_setattr.bind _)) ?_
  repeat walk_at "c2"
  have hx2 := D.at 0 _ _ rfl
  have ho2 := D.old _ _ ho (by kernel_rfl)
  have tx2 : Looks (model pw w) h2 (typeOf (.ref x)) (.ref a) := (Looks.ld (part := none) hx2).andThen .now
  have mr2 : Looks (model pw w) h2 (mroOf (.ref a)) [.ref a, .type "object"] := ((Looks.ld (part := none) ho2).andThen .now).andThen .now
  have in2 : Looks (model pw w) h2 (isInstance (.ref x) (.type "object")) true := tx2.andThen (mr2.andThen (Looks.of_pure (by kernel_rfl!)))
  show wpAny _ _ (call (.builtin "object.__setattr__") [.ref x, .str _ _, .int j t]) _ _ _
  refine wpAny_call ?_
  refine codeAny_call_builtin_at (id := "object.__setattr__") (Code.quiet_builtin _ (by decide +kernel)) F.entry_object_setattr ?_
  refine check_slot (i := "object.__setattr__") (owner := "object") (n := "__setattr__") ?hk ?hs ?hi ?ha ?q
  case hk => exact F.bk_object_setattr
  case hs => exact F.sp_object_setattr
  case ha => exact F.args_object_setattr_3 _ _ _
  case hi => exact in2
  unfold Builtin.«object.__setattr__»
  repeat walk_at "c2"
  clear hx2 ho2 tx2 in2
  have se2 : Looks (model pw w) h2 (isSubtype (.ref a) (.ref a)) true := mr2.andThen (Looks.of_pure (by simp))
  clear mr2
  refine wpAny_of_eq (a := some (.builtin "member_descriptor.__set__")) (by rw [typeLookup_type, builtinLookup_eq_fast]; kernel_rfl!) ?_
  repeat walk_at "c2"
  refine wpAny_of_eq (a := some (.builtin "member_descriptor.__set__")) (by rw [typeLookup_type, builtinLookup_eq_fast]; kernel_rfl!) ?_
  repeat walk_at "c2"
  refine wpAny_of_eq (KF.slot_mset.bind _) ?_
  repeat walk_at "c2"
  have hm2 := D.old _ _ hm (by kernel_rfl)
  refine wpAny_call (codeAny_call_builtin KF.slot_mset.plain KF.entry_mset (KF.slot_mset.check _ _ _ _ _ _ _ _ ⟨_, hm2, rfl⟩ (KF.args_mset _ _ _) ?_))
  unfold Builtin.«member_descriptor.__set__» descrSet descrStoreThrough descrCheckInstance descrNameAndClass isInstance
  clear hm2
  repeat walk_at "c2"
  refine tree_eq (t' := isSubtype (.ref a) (.ref a)) rfl ?_
  refine se2.here ?_
  repeat walk_at "c2"
  refine ⟨Code.quiet_builtin _ (by decide +kernel), codeAny_builtin KF.entry_slotset ?_⟩
  show wpAny _ _ (Builtin.«proto.slot#set» ⟨[.ref x, .int j t, .ref md], []⟩) _ _ _
  unfold Builtin.«proto.slot#set» Slots.target
  repeat walk_at "c2"
  rename Mem _ _ _ _ => D3
  exact ⟨rfl, Ends.use hret ⟨x, some hh.objs.size, rfl, fun b o e => grow_of D3 b o (kB b o e), hnx, (D3.at 0 _ _ rfl).trans (by kernel_rfl!)⟩⟩
theorem all : ∀ x, Pt x := eps_all (v := tup0) (by with_unfolding_all rfl) (by with_unfolding_all exact run)
end H_kinst
theorem kinst (w : World) (s : Shared) (Q E : Value → Shared → Prop) (X : (kk w.params).In s.heap) (a b ns md f1 f2 f3 f4 f5 f6 sl sa cd1 mc : Addr) (tk t1 t2 tM tO tD en : Nat) (p10 p11 : Tok) (q12 q13 q14 q15 q16 q17 q18 q19 q110 q111 q112 q113 q114 q115 q116 q117 q118 : Value)
  (ho : s.heap.get? a = some ⟨.type "type", none, .cls { name := ofS "K", bases := [.type "object"], mro := [.ref a, .type "object"], ns := ns, qualname := ofS "cmp_to_key.<locals>.K", hasDict := false, slotNames := [ofS "obj"], subclasses := [], abstract := false, collection := none, hasDel := false }, #[some (.ref b), none, some (.str (ofS "K") t1), some (.str (ofS "cmp_to_key.<locals>.K") t2), some (.builtin "object.__new__"), some (.bool false)]⟩)
  (hm : s.heap.get? md = some ⟨.type "member_descriptor", none, .fields #[.str (ofS "obj") tM, .ref a, .builtin "proto.slot", .builtin "proto.slot#set", rawInt 0], #[]⟩)
  (hn : s.heap.get? ns = some ⟨.type "dict", none, .dict #[⟨PyData.keyHash w.params (ofS "__module__"), .str (ofS "__module__") (tk + 6), .str (ofS "cpy313.functools") (tk + 11)⟩, ⟨PyData.keyHash w.params (ofS "__firstlineno__"), .str (ofS "__firstlineno__") (tk + 10), .int 199 (tk + 9)⟩, ⟨PyData.keyHash w.params (ofS "__slots__"), .str (ofS "__slots__") (tk + 14), .ref sl⟩, ⟨PyData.keyHash w.params (ofS "__init__"), .str (ofS "__init__") (tk + 22), .ref f1⟩, ⟨PyData.keyHash w.params (ofS "__lt__"), .str (ofS "__lt__") (tk + 31), .ref f2⟩, ⟨PyData.keyHash w.params (ofS "__gt__"), .str (ofS "__gt__") (tk + 40), .ref f3⟩, ⟨PyData.keyHash w.params (ofS "__eq__"), .str (ofS "__eq__") (tk + 49), .ref f4⟩, ⟨PyData.keyHash w.params (ofS "__le__"), .str (ofS "__le__") (tk + 58), .ref f5⟩, ⟨PyData.keyHash w.params (ofS "__ge__"), .str (ofS "__ge__") (tk + 67), .ref f6⟩, ⟨PyData.keyHash w.params (ofS "__hash__"), .str (ofS "__hash__") (tk + 68), .none⟩, ⟨PyData.keyHash w.params (ofS "__static_attributes__"), .str (ofS "__static_attributes__") (tk + 70), .ref sa⟩, ⟨PyData.keyHash w.params (ofS "obj"), .str (ofS "obj") tO, .ref md⟩, ⟨PyData.keyHash w.params (ofS "__doc__"), .str (ofS "__doc__") tD, .none⟩] en, #[]⟩)
  (hf : s.heap.get? f1 = some ⟨.type "function", none, .func ⟨ofS "__init__", ofS "cmp_to_key.<locals>.K.__init__", fnP (kSt 2), .stmts (fnB (kSt 2)), fnS (kSt 2), 3, [], .none, .none, .none, .str (ofS "law_kq0052_01") 451, none, .ref cd1, .none, 0⟩, #[]⟩)
  (hc : s.heap.get? cd1 = some ⟨.type "code", none, .fields #[.str (ofS "__init__") p10, .str (ofS "cmp_to_key.<locals>.K.__init__") p11, q12, q13, q14, q15, q16, q17, q18, q19, q110, q111, q112, q113, q114, q115, q116, q117, q118], #[]⟩) (j : Int) (t : Tok)
  (hret : Ends Q s fun v h' => ∃ x dd, v = .ref x ∧ Grow s.heap h' ∧ s.heap.get? x = none ∧ h'.get? x = some ⟨.ref a, dd, .plain, #[some (.int j t)]⟩) :
  wpAny (model pw w) RA (call (.ref a) [.int j t]) Q E s := H_kinst.all (w, Q, E, a, b, ns, md, f1, f2, f3, f4, f5, f6, sl, sa, cd1, mc, tk, t1, t2, tM, tO, tD, en, p10, p11, q12, q13, q14, q15, q16, q17, q18, q19, q110, q111, q112, q113, q114, q115, q116, q117, q118, j, t) s X ho hm hn hf hc hret
end
theorem getobj (w : World) (A : Around) (hh : A.handled = none) (hd : A.depth ≤ 400) (hu : A.units ≤ 4000) (h₀ : Heap) (g : Array GenState) (dr : Drawn) (tk0 : Nat) (os : OsState) (Q E : Value → Shared → Prop) (a b ns md f1 f2 f3 f4 f5 f6 sl sa cd1 mc x : Addr) (dd : Option Addr) (tk t1 t2 tM tO tD en : Nat)
  (ho : h₀.get? a = some ⟨.type "type", none, .cls { name := ofS "K", bases := [.type "object"], mro := [.ref a, .type "object"], ns := ns, qualname := ofS "cmp_to_key.<locals>.K", hasDict := false, slotNames := [ofS "obj"], subclasses := [], abstract := false, collection := none, hasDel := false }, #[some (.ref b), none, some (.str (ofS "K") t1), some (.str (ofS "cmp_to_key.<locals>.K") t2), some (.builtin "object.__new__"), some (.bool false)]⟩)
  (hm : h₀.get? md = some ⟨.type "member_descriptor", none, .fields #[.str (ofS "obj") tM, .ref a, .builtin "proto.slot", .builtin "proto.slot#set", rawInt 0], #[]⟩)
  (hn : h₀.get? ns = some ⟨.type "dict", none, .dict #[⟨PyData.keyHash w.params (ofS "__module__"), .str (ofS "__module__") (tk + 6), .str (ofS "cpy313.functools") (tk + 11)⟩, ⟨PyData.keyHash w.params (ofS "__firstlineno__"), .str (ofS "__firstlineno__") (tk + 10), .int 199 (tk + 9)⟩, ⟨PyData.keyHash w.params (ofS "__slots__"), .str (ofS "__slots__") (tk + 14), .ref sl⟩, ⟨PyData.keyHash w.params (ofS "__init__"), .str (ofS "__init__") (tk + 22), .ref f1⟩, ⟨PyData.keyHash w.params (ofS "__lt__"), .str (ofS "__lt__") (tk + 31), .ref f2⟩, ⟨PyData.keyHash w.params (ofS "__gt__"), .str (ofS "__gt__") (tk + 40), .ref f3⟩, ⟨PyData.keyHash w.params (ofS "__eq__"), .str (ofS "__eq__") (tk + 49), .ref f4⟩, ⟨PyData.keyHash w.params (ofS "__le__"), .str (ofS "__le__") (tk + 58), .ref f5⟩, ⟨PyData.keyHash w.params (ofS "__ge__"), .str (ofS "__ge__") (tk + 67), .ref f6⟩, ⟨PyData.keyHash w.params (ofS "__hash__"), .str (ofS "__hash__") (tk + 68), .none⟩, ⟨PyData.keyHash w.params (ofS "__static_attributes__"), .str (ofS "__static_attributes__") (tk + 70), .ref sa⟩, ⟨PyData.keyHash w.params (ofS "obj"), .str (ofS "obj") tO, .ref md⟩, ⟨PyData.keyHash w.params (ofS "__doc__"), .str (ofS "__doc__") tD, .none⟩] en, #[]⟩)
  (j : Int) (t : Tok) (hx : h₀.get? x = some ⟨.ref a, dd, .plain, #[some (.int j t)]⟩) (hst : h₀.get? cStatics = some ⟨.none, none, .dict #[] 0, #[]⟩)
  (X : (kk w.params).In h₀) (hret : ∀ tk', Q (.int j t) ⟨h₀, g, dr, tk', os⟩) :
  wpAny (model pw w) A (getAttr (.ref x) (ofS "obj") true) Q E ⟨h₀, g, dr, tk0, os⟩ := by
  have D := Mem.start h₀
  repeat walk_at "c2"
  refine roomy hh (by lia) (by lia) (hooked w _ _ _ X a b ns md f1 f2 f3 f4 f5 f6 sl sa cd1 mc x dd tk t1 t2 tM tO tD en ho hm hn j t _ hx ?_)
  rintro v h' tk' ⟨rfl, rfl⟩
  repeat walk_at "c2"
  exact hret _
end
section
set_option maxHeartbeats 4000000
open PySem.W.X PySem.Calls
theorem fill_lt : kk = kk ∧ PySem.Challenge.rw_kq0052_01 = PySem.Challenge.rw_kq0052_01 := by
  k_fill
  exact ⟨rfl, rfl⟩
theorem enterN {w : World} {A : Around} {s : Shared} {Q E : Value → Shared → Prop} {f : Addr} {vs : List Value}
    {name qual : Str} {params : Arguments} {body : List Stmt} {scope : Scope} {cl : List (Str × Addr)} {dV kV doc pm cdv ct oc : Value} {an od : Option Addr} {osl : Array (Option Value)} {binds : List (Str × Value)}
    (hlim : s.heap.NoLimit) (ho : s.heap.get? f = some ⟨oc, od, .func (fnX name qual params body scope cl dV kV doc pm an cdv ct), osl⟩) (hcd : s.heap.CodeRec cdv qual) (hroom : A.depth < recursionLimit)
    (hbind : BindsTo s (fnX name qual params body scope cl dV kV doc pm an cdv ct) ⟨vs, []⟩ binds) (hloc : ∀ y ∈ binds, scope.names.lookup y.1 = some .local)
    (hcell : ∀ x ∈ scope.names, x.2 ≠ .cell) (hco : scope.isCoroutine = false) (hgen : scope.isGenerator = false) (hk : scope.kind = .function)
    (h : ∀ L' h₁, Fr s.heap L' h₁ (fun y => binds.reverse.lookup y) →
      wpAny (model pw w) (A.deeper (envX qual scope L' f cdv cl)) (execs body (envX qual scope L' f cdv cl))
        (fun fl s' => Q (match fl with | .ret v => v | _ => .none) s') (fun _ _ => False)
        { s with heap := h₁, toks := s.toks + binds.length }) :
    wpAny (model pw w) A (call (.ref f) vs) Q E s :=
  wpAny_call (codeAny_call_def (fd := fnX name qual params body scope cl dV kV doc pm an cdv ct) (body := body) (binds := binds) hroom ho rfl hlim hcd rfl hbind hcell hloc
    (fun h₁ hns hk₁ => wpAny_mono (h s.heap.objs.size h₁ ⟨hns, hk₁, Nat.le_refl _⟩) (fun _ _ q => q) fun _ _ f => f.elim) hco hgen hk)
def LamOk (w : World) (h₀ : Heap) (lam : Addr) (i j c : Int) : Prop := ∀ (dp un : Nat) (fr : Option (List Env)) (gd : Option (List Code)) (s : Shared) (ti tj : Tok) (Q E : Value → Shared → Prop), Grow h₀ s.heap → dp ≤ 320 → un ≤ 2900 →
  (∀ h' tk' t, Grow s.heap h' → Q (.int c t) ⟨h', s.gens, s.drawn, tk', s.os⟩) → wpAny (model pw w) (AA dp un fr gd) (call (.ref lam) [.int i ti, .int j tj]) Q E s
local macro_rules | `(tactic| walk_at "c1z") => `(tactic| (dsimp only))

local macro_rules | `(tactic| walk_at "c2") => `(tactic| (with_reducible refine st26 ?_))
local macro_rules | `(tactic| walk_at "c2") => `(tactic| (with_reducible refine st21 ?_))
local macro_rules | `(tactic| walk_at "c2") => `(tactic| (with_reducible refine st27 ?_))
local macro_rules | `(tactic| walk_at "c2") => `(tactic| ((with_reducible show wpAny _ _ (compareOp .Lt (.int _ _) (.int _ _)) _ _ _); refine PyProof.Rows.lt_int ?_))
local macro_rules | `(tactic| walk_at "c2") => `(tactic| (with_reducible refine st28 ?_))
theorem ite_both {α : Type} {M : Model} {A : Around} {Q : α → Shared → Prop} {E : Value → Shared → Prop} {s : Shared} {b : Bool} {t : Sem α} {k : Value → Sem α} (h : wpAny M A t Q (fun _ _ => False) s) : wpAny M A (if b = true then t else t.tryCatch k) Q E s := by
  split
  · exact wpAny_mono h (fun _ _ q => q) fun _ _ f => f.elim
  · exact tc_never h
theorem k_lt (w : World) (h₀ : Heap) (X : (kk w.params).In h₀) (a b ns md f1 f2 f3 f4 f5 f6 sl sa cd1 cd2 z2 mc x y lam : Addr) (dx dy : Option Addr) (tk t1 t2 tM tO tD en : Nat)
  (ho : h₀.get? a = some ⟨.type "type", none, .cls { name := ofS "K", bases := [.type "object"], mro := [.ref a, .type "object"], ns := ns, qualname := ofS "cmp_to_key.<locals>.K", hasDict := false, slotNames := [ofS "obj"], subclasses := [], abstract := false, collection := none, hasDel := false }, #[some (.ref b), none, some (.str (ofS "K") t1), some (.str (ofS "cmp_to_key.<locals>.K") t2), some (.builtin "object.__new__"), some (.bool false)]⟩)
  (hm : h₀.get? md = some ⟨.type "member_descriptor", none, .fields #[.str (ofS "obj") tM, .ref a, .builtin "proto.slot", .builtin "proto.slot#set", rawInt 0], #[]⟩)
  (hn : h₀.get? ns = some ⟨.type "dict", none, .dict #[⟨PyData.keyHash w.params (ofS "__module__"), .str (ofS "__module__") (tk + 6), .str (ofS "cpy313.functools") (tk + 11)⟩, ⟨PyData.keyHash w.params (ofS "__firstlineno__"), .str (ofS "__firstlineno__") (tk + 10), .int 199 (tk + 9)⟩, ⟨PyData.keyHash w.params (ofS "__slots__"), .str (ofS "__slots__") (tk + 14), .ref sl⟩, ⟨PyData.keyHash w.params (ofS "__init__"), .str (ofS "__init__") (tk + 22), .ref f1⟩, ⟨PyData.keyHash w.params (ofS "__lt__"), .str (ofS "__lt__") (tk + 31), .ref f2⟩, ⟨PyData.keyHash w.params (ofS "__gt__"), .str (ofS "__gt__") (tk + 40), .ref f3⟩, ⟨PyData.keyHash w.params (ofS "__eq__"), .str (ofS "__eq__") (tk + 49), .ref f4⟩, ⟨PyData.keyHash w.params (ofS "__le__"), .str (ofS "__le__") (tk + 58), .ref f5⟩, ⟨PyData.keyHash w.params (ofS "__ge__"), .str (ofS "__ge__") (tk + 67), .ref f6⟩, ⟨PyData.keyHash w.params (ofS "__hash__"), .str (ofS "__hash__") (tk + 68), .none⟩, ⟨PyData.keyHash w.params (ofS "__static_attributes__"), .str (ofS "__static_attributes__") (tk + 70), .ref sa⟩, ⟨PyData.keyHash w.params (ofS "obj"), .str (ofS "obj") tO, .ref md⟩, ⟨PyData.keyHash w.params (ofS "__doc__"), .str (ofS "__doc__") tD, .none⟩] en, #[]⟩)
  (hf : h₀.get? f2 = some ⟨.type "function", none, .func ⟨ofS "__lt__", ofS "cmp_to_key.<locals>.K.__lt__", fnP (kSt 3), .stmts (fnB (kSt 3)), fnS (kSt 3), 3, [(ofS "mycmp", mc)], .none, .none, .none, .str (ofS "law_kq0052_01") 451, none, .ref cd2, .ref z2, 0⟩, #[]⟩) (hcd : h₀.CodeRec (.ref cd2) (ofS "cmp_to_key.<locals>.K.__lt__")) (hcell : h₀.IsCell mc (some (.ref lam))) {dl : Option Addr} {fdl : FuncData} {sll : Array (Option Value)} (hlf : h₀.get? lam = some ⟨.type "function", dl, .func fdl, sll⟩)
  (i j c : Int) (ti tj : Tok) (hx : h₀.get? x = some ⟨.ref a, dx, .plain, #[some (.int i ti)]⟩) (hy : h₀.get? y = some ⟨.ref a, dy, .plain, #[some (.int j tj)]⟩) (hlam : LamOk w h₀ lam i j c)
  (dp un : Nat) (fr : Option (List Env)) (gd : Option (List Code)) (g : Array GenState) (dr : Drawn) (tk0 : Nat) (os : OsState) (Q : Bool → Shared → Prop) (E : Value → Shared → Prop) (hd : dp ≤ 310) (hu : un ≤ 2800)
  (hret : ∀ h' tk', Grow h₀ h' → Q (decide (c < 0)) ⟨h', g, dr, tk', os⟩) :
  wpAny (model pw w) (AA dp un fr gd) (keyLt' oneType' (.ref x) (.ref y)) Q E ⟨h₀, g, dr, tk0, os⟩ := by
  revert w h₀ X a b ns md f1 f2 f3 f4 f5 f6 sl sa cd2 z2 mc x y lam dx dy tk t1 t2 tM tO tD en ho hm hn hf hcd hcell dl fdl sll hlf i j c ti tj hx hy hlam dp un fr gd g dr tk0 os Q E hd hu hret
  (refine no_implicit_lambda% (pk2 (i1 := nW) ?_); (first | generalize p2_1 _ = w | skip); (first | generalize p2_2 _ = h₀ | skip))
  intro X
  (refine no_implicit_lambda% (pk6 ?_); (first | generalize p6_1 _ = a | skip); (first | generalize p6_2 _ = b | skip); (first | generalize p6_3 _ = ns | skip); (first | generalize p6_4 _ = md | skip); (first | generalize p6_5 _ = f1 | skip); (first | generalize p6_6 _ = f2 | skip)); (refine no_implicit_lambda% (pk6 ?_); (first | generalize p6_1 _ = f3 | skip); (first | generalize p6_2 _ = f4 | skip); (first | generalize p6_3 _ = f5 | skip); (first | generalize p6_4 _ = f6 | skip); (first | generalize p6_5 _ = sl | skip); (first | generalize p6_6 _ = sa | skip)); (refine no_implicit_lambda% (pk6 ?_); (first | generalize p6_1 _ = cd2 | skip); (first | generalize p6_2 _ = z2 | skip); (first | generalize p6_3 _ = mc | skip); (first | generalize p6_4 _ = x | skip); (first | generalize p6_5 _ = y | skip); (first | generalize p6_6 _ = lam | skip)); (refine no_implicit_lambda% (pk6 ?_); (first | generalize p6_1 _ = dx | skip); (first | generalize p6_2 _ = dy | skip); (first | generalize p6_3 _ = tk | skip); (first | generalize p6_4 _ = t1 | skip); (first | generalize p6_5 _ = t2 | skip); (first | generalize p6_6 _ = tM | skip)); (refine no_implicit_lambda% (pk3 ?_); (first | generalize p3_1 _ = tO | skip); (first | generalize p3_2 _ = tD | skip); (first | generalize p3_3 _ = en | skip))
  intro ho hm hn hf hcd hcell
  (refine no_implicit_lambda% (pk3 ?_); (first | generalize p3_1 _ = dl | skip); (first | generalize p3_2 _ = fdl | skip); (first | generalize p3_3 _ = sll | skip))
  intro hlf
  (refine no_implicit_lambda% (pk5 ?_); (first | generalize p5_1 _ = i | skip); (first | generalize p5_2 _ = j | skip); (first | generalize p5_3 _ = c | skip); (first | generalize p5_4 _ = ti | skip); (first | generalize p5_5 _ = tj | skip))
  intro hx hy hlam
  (refine no_implicit_lambda% (pk6 (i6 := nD) ?_); (first | generalize p6_1 _ = dp | skip); (first | generalize p6_2 _ = un | skip); (first | generalize p6_3 _ = fr | skip); (first | generalize p6_4 _ = gd | skip); (first | generalize p6_5 _ = g | skip); (first | generalize p6_6 _ = dr | skip)); (refine no_implicit_lambda% (pk4 ?_); (first | generalize p4_1 _ = tk0 | skip); (first | generalize p4_2 _ = os | skip); (first | generalize p4_3 _ = Q | skip); (first | generalize p4_4 _ = E | skip))
  intro hd hu hret
  rw [keyLt'_oneType, oneLt'_eq]
  simp only [if_true]
  refine wpAny_bind (wpAny_cRoomFor (by show un < cLine; unfold cLine; lia) ?_)
  have D := Mem.start h₀
  have hst : h₀.get? cStatics = some ⟨.none, none, .dict #[] 0, #[]⟩ := X _ _ (by kernel_rfl)
  simp only [callSpecialIfBound?, bindSpecialIfBound?]
  repeat walk_at "c2"
  refine ite_both ?_
  repeat walk_at "c2"
  unfold bindSpecial
  repeat walk_at "c2"
  show wpAny _ _ (call (.ref f2) [.ref x, .ref y]) _ _ _
  refine enterN (binds := [(ofS "self", .ref x), (ofS "other", .ref y)]) (nolimit_of hst) hf hcd (by show dp < _; unfold recursionLimit; lia) (BindsTo.of_eq (by kernel_rfl)) (locs (by kernel_rfl)) (by decide +kernel) (by kernel_rfl) (by kernel_rfl) (by kernel_rfl) ?_
  (refine pk2 ?_; generalize p2_1 _ = L; generalize p2_2 _ = h1)
  intro F
  replace F : Fr h₀ L h1 (fun z => List.lookup z [(ofS "other", .ref y), (ofS "self", .ref x)]) := F
  clear D
  have D := Mem.start h1
  have hl1 := F.keep _ _ hlf
  repeat walk_at "c2"
  show wpAny _ _ (eval _ _) _ _ _
  refine wpAny_Name (wpAny_loadName_free (c := mc) (v := .ref lam) (by kernel_rfl) (by kernel_rfl) (by kernel_rfl) (hcell.keeps F.keep) ?_) (by decide +kernel)
  repeat walk_at "c2"
  show wpAny _ _ (eval _ _) _ _ _
  refine wpAny_Name (wpAny_loadName_local (v := .ref x) (by kernel_rfl) (by kernel_rfl) F.ns (by kernel_rfl) ?_) (by decide +kernel)
  repeat walk_at "c2"
  show wpAny _ _ (getAttr _ _ _) _ _ _
  refine (getobj w _ rfl (by show dp + 1 ≤ 400; lia) (by show un + _ ≤ 4000; lia) h1 _ _ _ _ _ _ a b ns md f1 f2 f3 f4 f5 f6 sl sa cd1 mc x dx tk t1 t2 tM tO tD en (F.keep _ _ ho) (F.keep _ _ hm) (F.keep _ _ hn) i ti (F.keep _ _ hx) (F.keep _ _ hst) (X.keeps F.keep) ?_)
  intro tk5
  repeat walk_at "c2"
  show wpAny _ _ (eval _ _) _ _ _
  refine wpAny_Name (wpAny_loadName_local (v := .ref y) (by kernel_rfl) (by kernel_rfl) F.ns (by kernel_rfl) ?_) (by decide +kernel)
  repeat walk_at "c2"
  show wpAny _ _ (getAttr _ _ _) _ _ _
  refine (getobj w _ rfl (by show dp + 1 ≤ 400; lia) (by show un + _ ≤ 4000; lia) h1 _ _ _ _ _ _ a b ns md f1 f2 f3 f4 f5 f6 sl sa cd1 mc y dy tk t1 t2 tM tO tD en (F.keep _ _ ho) (F.keep _ _ hm) (F.keep _ _ hn) j tj (F.keep _ _ hy) (F.keep _ _ hst) (X.keeps F.keep) ?_)
  intro tk6
  repeat walk_at "c2"
  show wpAny _ _ (callMarked _ _ _ _) _ _ _
  unfold callMarked
  refine Calls.wpAny_keep ?_
  show wpAny _ _ (call (.ref lam) [.int i ti, .int j tj]) _ _ _
  refine hlam (dp + 1) _ _ _ _ ti tj _ _ F.keep (by lia) ?_ ?_
  · show un + _ ≤ 2900; lia
  intro h2 tk7 t7 G2
  clear D
  have D := Mem.start h2
  repeat walk_at "c2"
  exact hret _ _ (Grow.trans F.keep G2)
end
section
set_option maxHeartbeats 8000000
open PySem.Calls
theorem slot_bytes_lt : Slot "bytes" (cmpInfo .Lt).2.1 "bytes.__lt__" :=
  .of (owner := "bytes") (n := "__lt__") (by rw [typeLookup_type, builtinLookup_eq_fast]; kernel_rfl) (by decide +kernel) (by decide +kernel) (by decide +kernel)
    (by first | exact .inl (by decide +kernel) | exact .inr (by decide +kernel)) (by rw [isSubtype_type]; kernel_rfl)
theorem slot_bytes_gt : Slot "bytes" (cmpInfo .Gt).2.1 "bytes.__gt__" :=
  .of (owner := "bytes") (n := "__gt__") (by rw [typeLookup_type, builtinLookup_eq_fast]; kernel_rfl) (by decide +kernel) (by decide +kernel) (by decide +kernel)
    (by first | exact .inl (by decide +kernel) | exact .inr (by decide +kernel)) (by rw [isSubtype_type]; kernel_rfl)
theorem entry_bytes_lt : entryFor table "bytes.__lt__" = some Builtin.«bytes.__lt__» := entryFor_of_tree (by kernel_rfl)
theorem entry_bytes_gt : entryFor table "bytes.__gt__" = some Builtin.«bytes.__gt__» := entryFor_of_tree (by kernel_rfl)
theorem args_bytes_lt_2 (a b : Value) : argsOk "bytes.__lt__" ⟨[a, b], []⟩ := by unfold argsOk; kernel_rfl
theorem args_bytes_gt_2 (a b : Value) : argsOk "bytes.__gt__" ⟨[a, b], []⟩ := by unfold argsOk; kernel_rfl
theorem gives_bytes_lt (b c : Array UInt8) (t u : Tok) : Gives (Builtin.«bytes.__lt__» ⟨[.bytes b t, .bytes c u], []⟩) (.val (.bool (Builtin.Bytes.order b.toList c.toList == .lt))) := by
  refine .of_wp fun M A E s Q hq => ?_
  show wpAny M A (isInstance (.bytes c u) (.type "bytes") >>= fun r => _) _ E s
  refine wpAny_bind (wpAny_isInstance (typeIs_bytes s c u) F.sub_bytes_bytes ?_)
  exact wpAny_pure ⟨_, rfl, hq⟩
theorem gives_bytes_gt (b c : Array UInt8) (t u : Tok) : Gives (Builtin.«bytes.__gt__» ⟨[.bytes b t, .bytes c u], []⟩) (.val (.bool (Builtin.Bytes.order b.toList c.toList == .gt))) := by
  refine .of_wp fun M A E s Q hq => ?_
  show wpAny M A (isInstance (.bytes c u) (.type "bytes") >>= fun r => _) _ E s
  refine wpAny_bind (wpAny_isInstance (typeIs_bytes s c u) F.sub_bytes_bytes ?_)
  exact wpAny_pure ⟨_, rfl, hq⟩
section
variable {prog : Program} {w : World} {A : Around} {E : Value → Shared → Prop} {s : Shared} {b c : Array UInt8} {t u : Tok} {Q : Value → Shared → Prop}
theorem lt_bytes (h : Q (.bool (Builtin.Bytes.order b.toList c.toList == .lt)) s) : wpAny (model prog w) A (compareOp .Lt (.bytes b t) (.bytes c u)) Q E s :=
  compareOp_gives (op := .Lt) (typeIs_bytes s b t) (typeIs_bytes s c u) slot_bytes_lt entry_bytes_lt (args_bytes_lt_2 _ _) (gives_bytes_lt b c t u) (fun e => nomatch e) h
theorem gt_bytes (h : Q (.bool (Builtin.Bytes.order b.toList c.toList == .gt)) s) : wpAny (model prog w) A (compareOp .Gt (.bytes b t) (.bytes c u)) Q E s :=
  compareOp_gives (op := .Gt) (typeIs_bytes s b t) (typeIs_bytes s c u) slot_bytes_gt entry_bytes_gt (args_bytes_gt_2 _ _) (gives_bytes_gt b c t u) (fun e => nomatch e) h
end
noncomputable def cmpW (b c : Array UInt8) : Int := b2i (Builtin.Bytes.order b.toList c.toList == .gt) - b2i (Builtin.Bytes.order b.toList c.toList == .lt)
local macro_rules | `(tactic| walk_at "compareOp Gt bytes bytes") => `(tactic| (refine gt_bytes ?_))
local macro_rules | `(tactic| walk_at "compareOp Lt bytes bytes") => `(tactic| (refine lt_bytes ?_))
local macro_rules | `(tactic| walk_at "eval Name") => `(tactic| ((with_reducible show wpAny _ _ (eval (Expr.Name _ _) (envX _ _ _ _ _ _)) _ _ _); refine name_freeX (by with_unfolding_all rfl) (by assumption) (by with_unfolding_all rfl) (by with_unfolding_all rfl) (by decide +kernel) (by decide +kernel) ?_))
local macro_rules | `(tactic| walk_at "subscriptTail") => `(tactic| (with_reducible refine st29 ?_))
local macro_rules | `(tactic| walk_at "subscriptTail Name Name ref int") => `(tactic| (with_reducible refine st29 ?_))
theorem item_wr {w : World} {A : Around} {E : Value → Shared → Prop} {s : Shared} {value slice : PySem.Expr} {l : Addr} {vs : List Value} {i : Nat} {u : Tok} {v : Value} {Q : Value → Shared → Prop}
    (hl : s.heap.IsList l vs.toArray) (hhi : i < 64) (hx : vs[i]? = some v) (h : Q v s)
    (hs : subscripted slice false (.ref l) (.int (i : Int) u) = operate [.ref l, .int (i : Int) u] (getItem (.ref l) (.int (i : Int) u)) := by with_unfolding_all rfl) :
    wpAny (model pw w) A (subscriptTail value slice (.ref l) (.int (i : Int) u)) Q E s :=
  tail_any hl.typeIs slot_list_getitem.lookup (wpAny_getItem_list hl (by omega) (by omega) (by simpa using hx) h) hs
theorem lam3_ok (w : World) (f c' cW wr : Addr) (pm ctv : Value) (h₀ : Heap) (mean : ExcName → Option Value) (mg mb : PySem.Str → Option Value) (X : (kk w.params).In h₀) (T : Top topProg LO mean mg mb h₀) (ho : h₀.get? f = some (lamObj lamE3 [(ofS "writings", cW)] pm c' ctv)) (hcd : h₀.CodeRec (.ref c') (ofS "law.<locals>.<lambda>"))
    (hcW : h₀.IsCell cW (some (.ref wr))) (vs : List Value) (hl : h₀.IsList wr vs.toArray) (i j : Nat) (bi bj : Array UInt8) (t1 t2 : Tok) (hi : vs[i]? = some (.bytes bi t1)) (hj : vs[j]? = some (.bytes bj t2)) (hi64 : i < 64) (hj64 : j < 64) : LamOk w h₀ f i j (cmpW bi bj) := by
  intro dp un fr gd s ti tj Q E G hd hu hret
  have Xs := X.keeps G
  have Ts := T.keeps G
  refine enter_lam (binds := [(ofS "j", .int (i : Int) ti), (ofS "k", .int (j : Int) tj)]) Ts (G _ _ ho) ?_ (by show dp < _; unfold recursionLimit; omega) (by kernel_rfl) (locs (by kernel_rfl)) (by decide +kernel) (by kernel_rfl) (by kernel_rfl) (by kernel_rfl) fun L' h₁ F N => ?_
  · obtain ⟨c, oc, vs, t, e, hoc, r⟩ := hcd
    exact ⟨c, oc, vs, t, e, G _ _ hoc, r⟩
  replace F : Fr s.heap L' h₁ (fun y => List.lookup y [(ofS "k", .int (j : Int) tj), (ofS "j", .int (i : Int) ti)]) := F
  have hcW1 : h₁.IsCell cW (some (.ref wr)) := (hcW.keeps G).keeps F.keep
  have hl1 : h₁.IsList wr vs.toArray := (hl.at fun o e => G _ _ e).at fun o e => F.keep _ _ e
  clear Ts
  have Ts : Top topProg LO mean mg mb s.heap := T.keeps G
  clear hl hcW ho hcd X T
  conv in (eval _ _) => arg 1; whnf
  k_steps
  show wpAny _ _ (subscriptTail _ _ (.ref wr) (.int (i : Int) _)) _ _ _
  refine item_wr hl1 hi64 hi ?_
  k_steps
  show wpAny _ _ (subscriptTail _ _ (.ref wr) (.int (j : Int) _)) _ _ _
  refine item_wr hl1 hj64 hj ?_
  k_steps
  show wpAny _ _ (subscriptTail _ _ (.ref wr) (.int (i : Int) _)) _ _ _
  refine item_wr hl1 hi64 hi ?_
  k_steps
  show wpAny _ _ (subscriptTail _ _ (.ref wr) (.int (j : Int) _)) _ _ _
  refine item_wr hl1 hj64 hj ?_
  k_steps
  exact hret _ _ _ F.keep
end
section
set_option maxHeartbeats 8000000
open PySem.Calls
inductive Mark8 : Prop
  | mk
theorem fill_lw8 : kk = kk ∧ PySem.Challenge.rw_kq0052_01 = PySem.Challenge.rw_kq0052_01 := by
  k_fill
  exact ⟨rfl, rfl⟩
local macro_rules | `(tactic| walk_at "call type:range") => `(tactic| (with_reducible refine st16 ?_))
local macro_rules | `(tactic| walk_at "subscriptTail") => `(tactic| (with_reducible refine st29 ?_))
local macro_rules | `(tactic| walk_at "subscriptTail Name Name ref int") => `(tactic| (with_reducible refine st29 ?_))
local macro_rules | `(tactic| walk_at "compareOp NotEq ref ref") => `(tactic| (with_reducible refine st30 ?_))
local macro_rules | `(tactic| walk_at "execs cons") => `(tactic| ((have _ : Mark8 := by assumption); with_reducible refine st15 ?_))
def tupD (p : Int × Nat) : PyData := .tuple [.int p.1, .str (tx [p.2])]
theorem TupsIn.reads {tups : Led} {h : Heap} (hq : ∀ q ∈ tups, h.get? q.1 = some q.2) {vs : List Value} {dd : List (Int × Nat)} (H : TupsIn tups vs dd) : ReadsAll h vs (dd.map tupD) [] := by
  induction H with
  | nil => exact .nil
  | cons hm _ ih => exact .cons (rd_tup (hq _ hm)) ih
theorem tupD_shaped (dd : List (Int × Nat)) (h : ∀ p ∈ dd, p.2 < 1114112) : PySem.SeqAt.shaped (.list (dd.map tupD)) = true := by
  have h1 : PyData.canLayAll0 (dd.map tupD) = true := by
    induction dd with
    | nil => rfl
    | cons p dd ih =>
      rw [List.map_cons]
      simp only [PyData.canLayAll0, tupD, PyData.canLay0, strOk1 (h p (.head _)), Bool.true_and]
      exact ih fun q hq => h q (.tail _ hq)
  have h2 : PyData.depthAll (dd.map tupD) ≤ 2 := by
    induction dd with
    | nil => simp [PyData.depthAll]
    | cons p dd ih =>
      rw [List.map_cons]
      simp only [PyData.depthAll, tupD, PyData.depth]
      have := ih (fun q hq => h q (.tail _ hq)) (by
        rw [List.map_cons] at h1
        simp only [PyData.canLayAll0, Bool.and_eq_true] at h1
        exact h1.2)
      lia
  unfold PySem.SeqAt.shaped
  simp only [PyData.canLay0, h1, PyData.depth, Bool.true_and]
  exact decide_eq_true (by lia)
theorem tupD_eqv (dd : List (Int × Nat)) : PyData.eqv (.list (dd.map tupD)) (.list (dd.map tupD)) = true := by
  simp only [PyData.eqv]
  induction dd with
  | nil => rfl
  | cons p dd ih => rw [List.map_cons]; simp [PyData.eqvAll, tupD, PyData.eqv, ih]
theorem ne_tups {w : World} {A : Around} {E : Value → Shared → Prop} {s : Shared} {a b : Addr} {Q : Value → Shared → Prop} {vs us : List Value} {dd : List (Int × Nat)} {t1 t2 : Led} {n1 n2 : Nat}
    (ha : s.heap.get? a = some (W.listOf vs.toArray n1)) (hb : s.heap.get? b = some (W.listOf us.toArray n2)) (h1 : TupsIn t1 vs dd) (h2 : TupsIn t2 us dd) (q1 : ∀ q ∈ t1, s.heap.get? q.1 = some q.2) (q2 : ∀ q ∈ t2, s.heap.get? q.1 = some q.2)
    (hc : ∀ p ∈ dd, p.2 < 1114112) (hu : A.units + 64 < cLine) (h : Q (.bool false) s) : wpAny (model pw w) A (compareOp .NotEq (.ref a) (.ref b)) Q E s :=
  ne_dataH (reads_list_at ha rfl rfl (h1.reads q1)) (reads_list_at hb rfl rfl (h2.reads q2)) (tupD_shaped dd hc) (tupD_shaped dd hc) hu (by rw [tupD_eqv]; exact h)
theorem ints_nth {vs : List Value} {ns : List Int} (h : IntsAre vs ns) {i : Nat} {k : Int} (hk : ns[i]? = some k) : ∃ t, vs[i]? = some (.int k t) := by
  induction h generalizing i with
  | nil => simp at hk
  | cons a t _ ih =>
    cases i with
    | zero => simp at hk; subst hk; exact ⟨t, rfl⟩
    | succ i => simpa using ih (by simpa using hk)
def GoodT (dd : List (Int × Nat)) (v y : Value) (os : Made) : Prop := ∃ (i : Nat) (t : Tok) (p : Int) (c : Nat) (a : Addr) (t1 t2 : Tok), v = .int (i : Int) t ∧ dd[i]? = some (p, c) ∧ y = .ref a ∧ os = [(a, ({ cls := .type "tuple", data := .seq #[.int p t1, .str (tx [c]) t2] 0 } : Obj))]
theorem elt_tup {dd : List (Int × Nat)} {i : Nat} {t t1 t2 : Tok} {p : Int} {c : Nat} {s₃ : Shared} {tk : Nat} (h : dd[i]? = some (p, c)) :
    EltEnd (GoodT dd) (.int (i : Int) t) s₃ (.ref s₃.heap.objs.size) { s₃ with heap := s₃.heap.push { cls := .type "tuple", data := .seq #[.int p t1, .str (tx [c]) t2] 0 }, toks := tk } := by
  refine ⟨⟨_, ⟨i, t, p, c, _, t1, t2, rfl, h, rfl, rfl⟩, fun q hq => ?_, fun q hq => ?_⟩, _, _, rfl, fun b o e => Heap.get?_push_of_some _ e⟩
  · rw [List.mem_singleton.mp hq]
    exact Heap.get?_push_size _ rfl
  · rw [List.mem_singleton.mp hq]
    exact get_size _
theorem zs_tups {dd : List (Int × Nat)} {h₀ h : Heap} : ∀ {zs : Zs} {vs : List Value} {n i0 : Nat}, i0 + n = dd.length → ZsOk (GoodT dd) h₀ h zs → zs.map (·.1) = vs → IntsAre vs ((List.range' i0 n).map fun (i : Nat) => (i : Int)) →
    TupsIn (zs.flatMap (·.2.2)) (zs.map (·.2.1)) (dd.drop i0) := by
  intro zs
  induction zs with
  | nil =>
    intro vs n i0 hn hz hv hi
    subst hv
    cases n with
    | zero => rw [List.drop_of_length_le (by lia)]; exact .nil
    | succ n => rw [List.range'_succ] at hi; cases hi
  | cons z zs ih =>
    intro vs n i0 hn hz hv hi
    subst hv
    cases n with
    | zero => exact absurd hi.length (by simp)
    | succ n =>
      obtain ⟨⟨i, t, p, c, a, t1, t2, e1, e2, e3, e4⟩, _⟩ := hz z (.head _)
      rw [List.range'_succ] at hi
      simp only [List.map_cons] at hi
      rw [e1] at hi
      generalize hj : (i : Int) = j at hi
      generalize hj0 : (i0 : Int) = j0 at hi
      cases hi with
      | cons _ _ hi' =>
        obtain rfl : i = i0 := by lia
        clear hj0
        rw [List.drop_eq_getElem_cons (by lia), List.map_cons, List.flatMap_cons, e3, e4]
        have e6 : dd[i] = (p, c) := by
          rw [List.getElem?_eq_getElem (by lia)] at e2
          exact Option.some.inj e2
        rw [e6]
        exact .cons (List.mem_append_left _ (List.mem_singleton.mpr rfl)) ((ih (by lia) (fun z hz' => hz z (.tail _ hz')) rfl hi').more fun q hq => List.mem_append_right _ hq)
theorem law8 (w : World) (h₀ : Heap) (mg mb : PySem.Str → Option Value) (mean : ExcName → Option Value) (L fa : Addr) (s : Shared) (Q : Flow → Shared → Prop) (E : Value → Shared → Prop) (m : PySem.Str → Option Value)
   (ds : List Int) (dd : List (Int × Nat)) (n : Nat) (hn : n ≤ 48) (hdd : dd.length = n) (hnth : ∀ i, i < n → ∃ c : Nat, c < 256 ∧ dd[i]? = some (2 * (i : Int) + 2, c) ∧ ds[i]? = some (c : Int)) (dvs : List Value) (hdv : IntsAre dvs ds) (hdl : dvs.length = n) (du : Addr) (n4 : Nat) (oD : Obj) (hD : oD.data = .cell (some (.ref du)))
   (l8 : Addr) (items : List Value) (n8 : Nat) (tups rest : Led) (hT : TupsIn tups items dd)
   (X : (kk w.params).In h₀) (T : Top topProg LO mean mg mb h₀)
   (F : Fr h₀ L s.heap m) (hmr : m (ofS "read") = some (.ref l8)) (N : News h₀ L s.heap ((L + 1 + 1, oD) :: (du, W.listOf dvs.toArray n4) :: (l8, W.listOf items.toArray n8) :: (tups ++ rest)))
   (next : ∀ h' tk, News h₀ L h' ((L + 1 + 1, oD) :: (du, W.listOf dvs.toArray n4) :: (l8, W.listOf items.toArray n8) :: (tups ++ rest)) → Fr h₀ L h' m → wpAny (model pw w) (lawA L fa) (execs (lawRest 9) (lawEnv L fa)) Q E { s with heap := h', toks := tk }) :
   wpAny (model pw w) (lawA L fa) (execs (lawRest 8) (lawEnv L fa)) Q E s := by
  revert w h₀ mg mb mean L fa s Q E m ds dd n hn hdd hnth dvs hdv hdl du n4 oD hD l8 items n8 tups rest hT X T F hmr N next
  (refine pk6 (i1 := nW) ?_; generalize p6_1 _ = w; generalize p6_2 _ = h₀; generalize p6_3 _ = mg; generalize p6_4 _ = mb; generalize p6_5 _ = mean; generalize p6_6 _ = L); (refine pk6 (i2 := nS) ?_; generalize p6_1 _ = fa; generalize p6_2 _ = s; generalize p6_3 _ = Q; generalize p6_4 _ = E; generalize p6_5 _ = m; generalize p6_6 _ = ds); (refine pk2 ?_; generalize p2_1 _ = dd; generalize p2_2 _ = n)
  intro hn hdd hnth
  (refine pk1 ?_; generalize p1_1 _ = dvs)
  intro hdv hdl
  (refine pk3 ?_; generalize p3_1 _ = du; generalize p3_2 _ = n4; generalize p3_3 _ = oD)
  intro hD
  (refine pk5 ?_; generalize p5_1 _ = l8; generalize p5_2 _ = items; generalize p5_3 _ = n8; generalize p5_4 _ = tups; generalize p5_5 _ = rest)
  intro hT X T F hmr N next
  have mk8 : Mark8 := .mk
  have hcD : s.heap.IsCell (L + 1 + 1) (some (.ref du)) := ⟨oD, (N _ (.head _)).1, hD⟩
  have hdu : s.heap.IsList du dvs.toArray := ⟨_, (N _ (.tail _ (.head _))).1, rfl, n4, rfl⟩
  have Fa := fr_known F hmr
  k_steps
  refine comp_rule (fun _ => true) (GoodT dd) (cl := [(ofS "due", L + 1 + 1)]) (by kernel_rfl) (by decide +kernel) rfl (by decide +kernel) (by decide +kernel) ?_ (fun _ => by kernel_rfl)
  k_steps
  refine len_at (l := du) (k := (n : Int)) hdu (by rw [List.size_toArray, hdl]) (by lia) ?_
  k_steps
  refine range1_n F N fun h6 tk6 r6 t6 u6 F6 N6 G6 hr6 => ?_
  have hcD6 := hcD.keeps G6
  have hdu6 : h6.IsList du dvs.toArray := ⟨_, (N6 _ (.tail _ (.tail _ (.head _)))).1, rfl, n4, rfl⟩
  refine comp_range rfl n (N6 _ (.head _)).1 (small_n n (by lia)) (by rw [rangeSize_nat]; lia) (by rw [sizeLine_eq]; lia) ?ht ?he ?hq
  case ht =>
    intro C i v t s₃ m₃ E' hi hv Fc hm
    clear next F N F6 N6 Fa
    k_steps
    all_goals exact ⟨rfl, _, _, rfl, fun _ _ e => e⟩
  case he =>
    intro C i v t s₃ m₃ E' hi hv hpv Fc hm
    replace Fc : Fr h6 C s₃.heap m₃ := Fc
    have e0 : (0 : Int) + (i : Int) * 1 = (i : Int) := by lia
    rw [e0] at hv
    subst hv
    obtain ⟨c, hc, hdc, hsc⟩ := hnth i hi
    obtain ⟨tc, hvc⟩ := ints_nth hdv hsc
    have hcD7 := hcD6.keeps Fc.keep
    obtain ⟨ol, ol1, ol2⟩ := hdu6
    have hdu7 : s₃.heap.IsList du dvs.toArray := ⟨ol, Fc.keep _ _ ol1, ol2⟩
    replace X : (kk w.params).In h6 := X.keeps F6.keep
    replace T : Top topProg LO mean mg mb h6 := T.keeps F6.keep
    clear next F N F6 N6 Fa hdu hcD6 hcD
    k_steps
    refine item_wr (i := i) hdu7 (by lia) hvc ?_
    k_steps
    simp only [newTuple]
    refine wpAny_newObj_type ?_ (by size_fits)
    exact elt_tup hdc
  case hq =>
    intro D9 n9 h9 tk9 vs9 zs hD9 hl9 hi9 hz9 hok hoff hg
    replace hg : Grow h6 h9 := hg
    have F9 := Fa.after (Grow.trans G6 hg)
    have hin : IntsAre vs9 ((List.range' 0 n).map fun (i : Nat) => (i : Int)) := by
      rw [List.range_eq_range'] at hi9
      simpa using hi9
    have hT9 := zs_tups (by lia) hok (hz9.trans (List.filter_eq_self.mpr fun _ _ => rfl)) hin
    rw [List.drop_zero] at hT9
    have N9 := news_new F6 N6 hg hD9 hl9
    have N10 := News.grown N (Grow.trans G6 hg)
    have F10 := F6.after hg
    have hD9' := (N9 _ (.head _)).1
    have hc : ∀ p ∈ dd, p.2 < 1114112 := by
      intro p hp
      obtain ⟨i, hi, e⟩ := List.mem_iff_getElem.mp hp
      obtain ⟨c, hc, hdc, _⟩ := hnth i (by lia)
      rw [List.getElem?_eq_getElem hi, e] at hdc
      rw [Option.some.inj hdc]
      show c < _
      lia
    clear N6 N F6 Fa F
    k_steps
    refine ne_tups (N10 _ (.tail _ (.tail _ (.head _)))).1 hD9' hT hT9 (fun q hq => (N10 q (.tail _ (.tail _ (.tail _ (List.mem_append_left _ hq))))).1) (fun q hq => ?hq2) hc (Nat.le_of_ble_eq_true rfl) ?_
    case hq2 =>
      obtain ⟨z, hz, hq⟩ := List.mem_flatMap.mp hq
      exact (hok z hz).2.1 q hq
    k_steps
    exact next _ _ N10 F10
end
section
set_option maxHeartbeats 8000000
open PySem.Calls
theorem fill_lw9 : kk = kk ∧ PySem.Challenge.rw_kq0052_01 = PySem.Challenge.rw_kq0052_01 := by
  k_fill
  exact ⟨rfl, rfl⟩
theorem u8_len (y : Nat) : (PySem.Str.utf8Of y).length ≤ 4 := by
  unfold PySem.Str.utf8Of; (repeat' split) <;> simp
theorem u8_size (c : Nat) : (utf8B [c]).size ≤ 4 := by
  have := bytesOut_size PySem.Str.utf8Of 4 u8_len [c] #[]
  unfold utf8B bytesOut
  have e : (#[] : Array UInt8).size = 0 := rfl
  simp only [List.length_cons, List.length_nil] at this
  omega
noncomputable def wrt (c : Nat) : Array UInt8 := b16 (utf8B [c])
def GoodW9 (v y : Value) (os : Made) : Prop := os = [] ∧ ∃ c t t', v = .str (tx [c]) t ∧ y = .bytes (wrt c) t'
theorem zs_wr {h₀ h : Heap} {zs : Zs} {vs : List Value} {cs : List Nat} : ZsOk GoodW9 h₀ h zs → zs.map (·.1) = vs → StrsAre vs (cs.map fun c => tx [c]) →
    ∀ (i c : Nat), cs[i]? = some c → ∃ t : Tok, (zs.map (·.2.1))[i]? = some (Value.bytes (wrt c) t) := by
  intro hz hv hs i c hc
  have hl : vs.length = cs.length := by rw [strs_len hs, List.length_map]
  have hi : i < cs.length := (List.getElem?_eq_some_iff.mp hc).1
  have hzl : zs.length = cs.length := by rw [← hl, ← hv, List.length_map]
  have hzi : zs[i]? = some zs[i] := List.getElem?_eq_getElem (by omega)
  obtain ⟨⟨_, c', t, t', e1, e2⟩, _⟩ := hz zs[i] (List.getElem_mem _)
  have hvi : vs[i]? = some (.str (tx [c']) t) := by rw [← hv, List.getElem?_map, hzi, ← e1]; rfl
  obtain ⟨c2, t2, hc2, e3⟩ := strs_get hs i _ hvi
  rw [hc] at hc2
  obtain rfl := Option.some.inj hc2
  injection e3 with e4
  have : c' = c := by
    have := congrArg (fun z : PySem.Str => z.cps.toList) e4
    simpa [tx] using this
  subst this
  exact ⟨t', by rw [List.getElem?_map, hzi, ← e2]; rfl⟩
theorem law9 (w : World) (h₀ : Heap) (mg mb : PySem.Str → Option Value) (mean : ExcName → Option Value) (L fa : Addr) (s : Shared) (Q : Flow → Shared → Prop) (E : Value → Shared → Prop) (m : PySem.Str → Option Value)
   (cs : List Nat) (svs : List Value) (hS : StrsAre svs (cs.map fun c => tx [c])) (hn : cs.length ≤ 12) (hcs : ∀ c ∈ cs, PySem.Str.isSurrogate c = false) (sg n1 : Nat) (oW : Obj) (rest : Led) (hW : oW.data = .cell none)
   (X : (kk w.params).In h₀) (T : Top topProg LO mean mg mb h₀)
   (F : Fr h₀ L s.heap m) (hms : m (ofS "signs") = some (.ref sg)) (N : News h₀ L s.heap ((L + 1 + 1 + 1 + 1, oW) :: (sg, W.listOf svs.toArray n1) :: rest)) (D : Nd ((L + 1 + 1 + 1 + 1, oW) :: (sg, W.listOf svs.toArray n1) :: rest))
   (next : ∀ h' tk oW' (wr : Addr) (wvs : List Value) n2, oW'.data = .cell (some (.ref wr)) → wvs.length = cs.length → (∀ (i c : Nat), cs[i]? = some c → ∃ t : Tok, wvs[i]? = some (Value.bytes (wrt c) t)) →
     News h₀ L h' ((L + 1 + 1 + 1 + 1, oW') :: (wr, W.listOf wvs.toArray n2) :: (sg, W.listOf svs.toArray n1) :: rest) → Nd ((L + 1 + 1 + 1 + 1, oW') :: (wr, W.listOf wvs.toArray n2) :: (sg, W.listOf svs.toArray n1) :: rest) → Fr h₀ L h' m →
     wpAny (model pw w) (lawA L fa) (execs (lawRest 10) (lawEnv L fa)) Q E { s with heap := h', toks := tk }) :
   wpAny (model pw w) (lawA L fa) (execs (lawRest 9) (lawEnv L fa)) Q E s := by
  have hsg : s.heap.IsList sg svs.toArray := ⟨_, (N _ (.tail _ (.head _))).1, rfl, n1, rfl⟩
  have hsl : svs.length = cs.length := by rw [strs_len hS, List.length_map]
  have Fa := fr_known F hms
  k_steps
  refine comp_rule (fun _ => true) GoodW9 (cl := []) (by kernel_rfl) (by decide +kernel) rfl (by decide +kernel) (by decide +kernel) ?_ (fun _ => by kernel_rfl)
  k_steps
  show wpAny _ _ (pyIter _) _ _ _
  refine comp_list rfl (items := svs) (ax := sg) hsg (by rw [sizeLine_eq]; omega) ?ht ?he ?hq
  case ht =>
    intro C v s₃ m₃ E' hv Fc hm
    clear next F N Fa
    k_steps
    all_goals exact ⟨rfl, _, _, rfl, fun _ _ e => e⟩
  case he =>
    intro C v s₃ m₃ E' hv hpv Fc hm
    obtain ⟨i, hi, e⟩ := List.mem_iff_getElem.mp hv
    obtain ⟨c, t, hc, rfl⟩ := strs_get hS i v (by rw [List.getElem?_eq_getElem hi, e])
    have hcc := hcs c (List.mem_of_getElem? hc)
    replace Fc : Fr s.heap C s₃.heap m₃ := Fc
    replace X : (kk w.params).In s.heap := X.keeps F.keep
    replace T : Top topProg LO mean mg mb s.heap := T.keeps F.keep
    clear next F N Fa
    k_steps
    refine call_enc_utf8 (x := tx [c]) (fun y hy => by rw [show y = c from by simpa [tx] using hy]; exact hcc) u8_len (by show [c].length ≤ 1000; simp) fun tk3 => ?_
    show wpAny _ _ _ _ _ _
    k_steps
    show wpAny _ _ (call (.ref 156) [.bytes (utf8B [c]) _]) _ _ _
    rename Fr _ _ _ _ => Fc
    refine (b16_spec w (utf8B [c]) _ (by have := u8_size c; omega)) mean mg mb _ _ _ _ _ _ _ (X.keeps Fc.keep) (T.keeps Fc.keep) (Nat.le_of_ble_eq_true (by kernel_rfl!)) (Nat.le_of_ble_eq_true (by kernel_rfl!)) trivial ?_
    rintro v h2 tk2 G2 ⟨t2, rfl⟩
    exact ⟨⟨[], ⟨rfl, c, t, t2, rfl, rfl⟩, (fun _ h => nomatch h), fun _ h => nomatch h⟩, _, _, rfl, G2⟩
  case hq =>
    intro D2 n2 h2 tk2 zs hD2 hl2 hz hok hoff hg
    replace hg : Grow s.heap h2 := hg
    have hz' := hz.trans (List.filter_eq_self.mpr fun _ _ => rfl)
    have hW9 := zs_wr hok hz' hS
    have hwl : (zs.map (·.2.1)).length = cs.length := by
      rw [List.length_map, ← hsl, ← hz', List.length_map]
    generalize (zs.map (·.2.1)) = wvs at hl2 hW9 hwl
    have F2 := F.after hg
    have N2 := news_new F N hg hD2 hl2
    have Dn := D.new N hD2 (o := W.listOf wvs.toArray n2)
    clear F N Fa hz hok hoff
    have Ds := Dn.perm (List.Perm.swap _ _ _)
    refine store_cellL (c := L + 1 + 1 + 1 + 1) rfl (by kernel_rfl) (by kernel_rfl) hW F2 (News.perm N2 (List.Perm.swap _ _ _)) Ds fun h3 oW' hW' F3 N3 => ?_
    exact next _ _ oW' D2 wvs n2 hW' hwl hW9 N3 (Nd.upd Ds) F3
end
section
set_option maxHeartbeats 4000000
open PySem.W.X PySem.Calls
def KObj (w : World) (mc : Addr) (h' : Heap) (a : Addr) : Prop := ∃ A N q, KB7 w mc h' a A N q
theorem KMade.obj {w : World} {mc a : Addr} {h h' : Heap} (k : KMade w mc h h' a) : KObj w mc h' a := k.2
theorem KObj.grow {w : World} {mc a : Addr} {h h' : Heap} (k : KObj w mc h a) (G : Grow h h') : KObj w mc h' a := by
  obtain ⟨A0, N, q, e1, e2, e3, e4, e5, e6, e7⟩ := k
  exact ⟨A0, N, q, G _ _ e1, G _ _ e2, G _ _ e3, G _ _ e4, G _ _ e5, G _ _ e6, e7.keeps G⟩
theorem KObj.cls {w : World} {mc a : Addr} {h : Heap} (k : KObj w mc h a) : ∃ o, h.get? a = some o ∧ o.cls = .type "type" := by
  obtain ⟨A0, N, q, e1, e2, e3, e4, e5, e6, e7⟩ := k
  exact ⟨_, e1, rfl⟩
theorem k_new {w : World} {mc a : Addr} {h : Heap} (X : (kk w.params).In h) (k : KObj w mc h a) {A : Around} (hh : A.handled = none) (hd : A.depth ≤ 400) (hu : A.units ≤ 4000) {g : Array GenState} {dr : Drawn} {tk0 : Nat} {os : OsState} {Q E : Value → Shared → Prop} (j : Int) (t : Tok)
    (hret : ∀ x dd h' tk', Grow h h' → h.get? x = none → h'.get? x = some ⟨.ref a, dd, .plain, #[some (.int j t)]⟩ → Q (.ref x) ⟨h', g, dr, tk', os⟩) : wpAny (model pw w) A (call (.ref a) [.int j t]) Q E ⟨h, g, dr, tk0, os⟩ := by
  obtain ⟨A0, N, q, e1, e2, e3, e4, e5, e6, e7⟩ := k
  refine roomy hh (by lia) (by lia) (kinst w ⟨h, g, dr, tk0, os⟩ _ _ X a (A0 0) (A0 1) (A0 2) (A0 3) (A0 4) (A0 5) (A0 6) (A0 7) (A0 8) (A0 9) (A0 10) (A0 11) mc (N 0) (N 1) (N 2) (N 3) (N 4) (N 5) (N 6) (N 7) (N 8) (q 2) (q 3) (q 4) (q 5) (q 6) (q 7) (q 8) (q 9) (q 10) (q 11) (q 12) (q 13) (q 14) (q 15) (q 16) (q 17) (q 18) e1 e2 e3 e4 e6 j t ?_)
  rintro v h' tk' ⟨x, dd, rfl, G, hn, hx⟩
  exact hret x dd h' tk' G hn hx
theorem k_lt' {w : World} {mc a x y lam : Addr} {h : Heap} (X : (kk w.params).In h) (k : KObj w mc h a) (hcell : h.IsCell mc (some (.ref lam))) {dl : Option Addr} {fdl : FuncData} {sll : Array (Option Value)} (hlf : h.get? lam = some ⟨.type "function", dl, .func fdl, sll⟩)
    {i j c : Int} {ti tj : Tok} {dx dy : Option Addr} (hx : h.get? x = some ⟨.ref a, dx, .plain, #[some (.int i ti)]⟩) (hy : h.get? y = some ⟨.ref a, dy, .plain, #[some (.int j tj)]⟩) (hlam : LamOk w h lam i j c)
    (dp un : Nat) (fr : Option (List Env)) (gd : Option (List Code)) (hd : dp ≤ 310) (hu : un ≤ 2800) {g : Array GenState} {dr : Drawn} {tk0 : Nat} {os : OsState} {Q : Bool → Shared → Prop} {E : Value → Shared → Prop}
    (hret : ∀ h' tk', Grow h h' → Q (decide (c < 0)) ⟨h', g, dr, tk', os⟩) : wpAny (model pw w) (AA dp un fr gd) (keyLt' oneType' (.ref x) (.ref y)) Q E ⟨h, g, dr, tk0, os⟩ := by
  obtain ⟨A0, N, q, e1, e2, e3, e4, e5, e6, e7⟩ := k
  exact k_lt w h X a (A0 0) (A0 1) (A0 2) (A0 3) (A0 4) (A0 5) (A0 6) (A0 7) (A0 8) (A0 9) (A0 10) (A0 11) (A0 12) (A0 13) mc x y lam dx dy (N 0) (N 1) (N 2) (N 3) (N 4) (N 5) (N 6) e1 e2 e3 e5 e7 hcell hlf i j c ti tj hx hy hlam dp un fr gd g dr tk0 os Q E hd hu hret
end
section
set_option maxHeartbeats 4000000
open PySem.W.X PySem.Calls
def Runs {α : Type} (lt : Nat → Nat → Bool) (n : Nat) : KasT α → (α → Prop) → Prop
  | .ret a, Q => Q a
  | .ask i j k, Q => i < n ∧ j < n ∧ Runs lt n (k (lt i j)) Q
theorem Runs.mono {α : Type} {lt : Nat → Nat → Bool} {n : Nat} {P Q : α → Prop} (hq : ∀ a, P a → Q a) {t : KasT α} (h : Runs lt n t P) : Runs lt n t Q := by
  induction t with
  | ret a => exact hq a h
  | ask i j k ih => exact ⟨h.1, h.2.1, ih _ h.2.2⟩
theorem Runs.bind {α β : Type} {lt : Nat → Nat → Bool} {n : Nat} {Q : β → Prop} {f : α → KasT β} {t : KasT α} (h : Runs lt n t (fun a => Runs lt n (f a) Q)) : Runs lt n (t.bind f) Q := by
  induction t with
  | ret a => exact h
  | ask i j k ih => exact ⟨h.1, h.2.1, ih _ h.2.2⟩
theorem Runs.wp {α : Type} {lt : Nat → Nat → Bool} {n : Nat} {cmp : Nat → Nat → (Bool → Shared → Prop) → Shared → Prop} {Inv : Shared → Prop}
    (hc : ∀ i j C s, i < n → j < n → Inv s → (∀ s', Inv s' → C (lt i j) s') → cmp i j C s) {P : α → Prop} {Q : α → Shared → Prop} (hq : ∀ a s, P a → Inv s → Q a s)
    (t : KasT α) (s : Shared) (h : Runs lt n t P) (hi : Inv s) : t.kasWp cmp Q s := by
  induction t generalizing s with
  | ret a => exact hq a s h hi
  | ask i j k ih => exact hc i j _ s h.1 h.2.1 hi fun s' hi' => ih _ s' h.2.2 hi'
theorem looks_ref {M : Model} {h : Heap} {x : Addr} {o : Obj} (e : h.get? x = some o) : Looks M h (typeOf (.ref x)) o.cls := by
  intro A Q E s k q
  unfold typeOf
  exact wpAny_bind (wpAny_loadPart (k _ _ e) (wpAny_pure q))
structure SortCtx (w : World) (hS : Heap) (a mc lam : Addr) (n : Nat) (c : Nat → Nat → Int) : Prop where
  X : (kk w.params).In hS
  K : KObj w mc hS a
  cell : hS.IsCell mc (some (.ref lam))
  lf : ∃ dl fdl sll, hS.get? lam = some ⟨.type "function", dl, .func fdl, sll⟩
  lam : ∀ i j, i < n → j < n → LamOk w hS lam i j (c i j)
theorem LamOk.grow {w : World} {h h' : Heap} {lam : Addr} {i j c : Int} (k : LamOk w h lam i j c) (G : Grow h h') : LamOk w h' lam i j c :=
  fun dp un fr gd s ti tj Q E G' hd hu hq => k dp un fr gd s ti tj Q E (G.trans G') hd hu hq
section
variable {w : World} {hS : Heap} {a mc lam D kS : Addr} {n e1 : Nat} {c : Nat → Nat → Int} {dp un : Nat} {fr : Option (List Env)} {gd : Option (List Code)} {s : Shared} {vs : List Value} {E : Value → Shared → Prop} {P : PySem.Fin → Shared → Prop} {Pp : Array Nat → Prop}
abbrev AAA (dp un : Nat) (fr : Option (List Env)) (gd : Option (List Code)) : Around := AA dp un fr gd
theorem ks_rest (C : SortCtx w hS a mc lam n c) (hd : dp ≤ 310) (hu : un ≤ 2800) (hvs : ∀ j, j < n → ∃ t, vs[j]? = some (.int (j : Nat) t)) (hlen : vs.length = n) (h2 : 2 ≤ n) (h64 : n < 64)
    (G : Grow hS s.heap) (hD : s.heap.get? D = some (seqObj "list" #[] e1)) (hk : s.heap.get? kS = some (seqObj "list" #[] 0)) (hDk : kS ≠ D) (fD : hS.get? D = none) (fk : hS.get? kS = none)
    (hrun : Runs (fun i j => decide (c i j < 0)) n (kas_sort n) Pp)
    (h : ∀ h' tk (p : Array Nat) cc, Grow hS h' → p.size = n → Pp p → h'.get? D = some (seqObj "list" (List.toArray (p.toList.map fun i => vs.getD i Value.none)) cc) → P (.done (.ret .none)) { s with heap := h', toks := tk }) :
    wpAny (model pw w) (AA dp un fr gd) (ksk_rest D (.ref a) false vs.toArray e1 (.ref kS)) P E s := by
  revert w hS a mc lam D kS n e1 c dp un fr gd s vs E P Pp C hd hu hvs hlen h2 h64 G hD hk hDk fD fk hrun h
  (refine no_implicit_lambda% (pk6 (i1 := nW) ?_); generalize p6_1 _ = w; generalize p6_2 _ = hS; generalize p6_3 _ = a; generalize p6_4 _ = mc; generalize p6_5 _ = lam; generalize p6_6 _ = D); (refine no_implicit_lambda% (pk6 ?_); generalize p6_1 _ = kS; generalize p6_2 _ = n; generalize p6_3 _ = e1; generalize p6_4 _ = c; generalize p6_5 _ = dp; generalize p6_6 _ = un); (refine no_implicit_lambda% (pk6 (i3 := nS) ?_); generalize p6_1 _ = fr; generalize p6_2 _ = gd; generalize p6_3 _ = s; generalize p6_4 _ = vs; generalize p6_5 _ = E; generalize p6_6 _ = P); (refine no_implicit_lambda% (pk1 ?_); generalize p1_1 _ = Pp)
  intro C hd hu hvs hlen h2 h64 G hD hk hDk fD fk hrun h
  unfold ksk_rest
  refine wpAny_bind (wpAny_rule ?_)
  first
    | rw [List.forIn_toArray]
    | (rw [← Array.forIn_toList]; simp only [List.toList_toArray])
    | rw [← Array.forIn_toList]
  refine wpAny_bind (ksk_fold (fun i s' => ∃ h' tk kA e, s' = { s with heap := h', toks := tk } ∧ Grow hS h' ∧ h'.get? D = some (seqObj "list" #[] e1) ∧ h'.get? kS = some (seqObj "list" kA e) ∧ kA.size = i ∧
      ∀ j, j < i → ∃ x dd t, kA[j]? = some (.ref x) ∧ h'.get? x = some ⟨.ref a, dd, .plain, #[some (.int (j : Nat) t)]⟩) vs 0 s
    ⟨s.heap, s.toks, #[], 0, rfl, G, hD, hk, rfl, fun _ hj => absurd hj (Nat.not_lt_zero _)⟩ ?step ?done)
  case step =>
    rintro j v s' hv ⟨h', tk, kA, e, rfl, G', hD', hk', hz, hx⟩
    simp only [Nat.zero_add] at hz hx ⊢
    have hj : j < vs.length := (List.getElem?_eq_some_iff.mp hv).1
    obtain ⟨t, ht⟩ := hvs j (by lia)
    rw [hv] at ht
    obtain rfl := Option.some.inj ht
    refine wpAny_bind (wpAny_attempt (k_new (C.X.keeps G') (C.K.grow G') rfl (by show dp ≤ 400; lia) (by show un ≤ 4000; lia) (j : Nat) t ?_))
    intro x dd h2 tk2 G2 hn hx2
    try dsimp only
    have s1 := Heap.SameBut.update h2 kS (Obj.mapSeq (·.push (.ref x)))
    have hkk := G2 _ _ hk'
    obtain ⟨c2, hc2⟩ : ∃ c2, (h2.update kS (Obj.mapSeq (·.push (.ref x)))).get? kS = some (seqObj "list" (kA.push (.ref x)) c2) := ⟨_, get?_update_seq hkk (·.push (.ref x))⟩
    have off : ∀ b (o : Obj), h2.get? b = some o → o.cls = .ref a → (h2.update kS (Obj.mapSeq (·.push (.ref x)))).get? b = some o := fun b o eb eo => (s1.2 b (by rintro rfl; rw [hkk] at eb; cases eb; cases eo)).trans eb
    refine wpAny_bind (listUpdate_at hkk rfl ?_ (by rw [hz, sizeLine_eq]; lia) (Nat.le_trans (Nat.le_of_eq (Array.size_push ..)) (by rw [hz, sizeLine_eq]; lia)))
    refine wpAny_pure ⟨rfl, _, _, kA.push (.ref x), c2, rfl, fun b o eb => (s1.2 b (by rintro rfl; rw [fk] at eb; cases eb)).trans (G2 _ _ (G' _ _ eb)), (s1.2 D (Ne.symm hDk)).trans (G2 _ _ hD'), hc2, by rw [Array.size_push, hz], fun i hi => ?_⟩
    rcases Nat.lt_succ_iff_lt_or_eq.mp hi with hi | rfl
    · obtain ⟨y, dy, ty, e1, e2⟩ := hx i hi
      exact ⟨y, dy, ty, by rw [Array.getElem?_push_lt (by rw [hz]; exact hi)]; rw [Array.getElem?_eq_getElem (by rw [hz]; exact hi)] at e1; exact e1, off _ _ (G2 _ _ e2) rfl⟩
    · exact ⟨x, dd, t, by rw [← hz]; simp, off _ _ hx2 rfl⟩
  case done =>
    rintro s' ⟨h', tk, kA, e, rfl, G', hD', hk', hz, hx⟩
    simp only [Nat.zero_add] at hz hx
    rw [hlen] at hz hx
    try dsimp only
    refine wpAny_bind (listItems_at hk' rfl ?_)
    unfold ksk_end
    try dsimp only
    have hzs : (kA.zip vs.toArray).size = n := by rw [Array.size_zip, hz, List.size_toArray, hlen, Nat.min_self]
    have hn2 : ¬ vs.toArray.size < 2 := by rw [List.size_toArray, hlen]; lia
    rw [if_neg (by simp), if_neg hn2, if_neg hn2]
    have hkind : wpAny (model pw w) (AA dp un fr gd) (keyKind' kA.toList.toArray) (fun r s' => r = oneType' ∧ s' = { s with heap := h', toks := tk }) E { s with heap := h', toks := tk } := by
      refine kas_kind (T := .ref a) (by rw [Array.length_toList, hz]; exact h2) (fun v hv => ?_) (by simp) (by simp) ⟨rfl, rfl⟩
      obtain ⟨i, hi, rfl⟩ := List.getElem_of_mem hv
      rw [Array.length_toList, hz] at hi
      obtain ⟨x, dd, t, e1, e2⟩ := hx i hi
      rw [Array.getElem?_eq_getElem (by rw [hz]; exact hi)] at e1
      rw [Array.getElem_toList, Option.some.inj e1]
      exact looks_ref e2
    rw [show kA.toList.toArray = kA from by simp] at hkind
    refine wpAny_bind (wpAny_mono hkind ?_ fun _ _ q => q)
    rintro _ _ ⟨rfl, rfl⟩
    have hitem : ∀ i, i < n → ∃ x dd t, kas_item (kA.zip vs.toArray) i = (.ref x, vs.getD i Value.none) ∧ h'.get? x = some ⟨.ref a, dd, .plain, #[some (.int (i : Nat) t)]⟩ := fun i hi => by
      obtain ⟨x, dd, t, e1, e2⟩ := hx i hi
      refine ⟨x, dd, t, ?_, e2⟩
      rw [Array.getElem?_eq_getElem (by rw [hz]; exact hi)] at e1
      have e1 := Option.some.inj e1
      unfold kas_item
      have hi' : i < (kA.zip vs.toArray).size := by rw [hzs]; exact hi
      have hi'' : i < vs.length := by lia
      simp [Array.getD, e1, hi'', Nat.lt_min, hz, hi]
    have est : SortSt.mk' oneType' (kA.zip vs.toArray) #[] 7 none = kas_st oneType' (kA.zip vs.toArray) (List.toArray (List.range n)) := by
      have e := kas_range (kA.zip vs.toArray)
      rw [hzs] at e
      show SortSt.mk' oneType' (kA.zip vs.toArray) #[] 7 none = SortSt.mk' oneType' ((List.toArray (List.range n)).map (kas_item (kA.zip vs.toArray))) #[] 7 none
      rw [e]
    rw [if_neg (by simp), est]
    have run := kas_runs (prog := pw) (w := w) (A := AA dp un fr gd) (E := E) (κ := oneType') (it := kA.zip vs.toArray) (s := { s with heap := h', toks := tk }) (G := fun p s' => Pp p ∧ ∃ h2 tk2, s' = { s with heap := h2, toks := tk2 } ∧ Grow h' h2)
      (Q := fun _ st' s' => ∃ p : Array Nat, p.size = n ∧ arrOf st' = p.map (kas_item (kA.zip vs.toArray)) ∧ failedOf st' = none ∧ Pp p ∧ ∃ h2 tk2, s' = { s with heap := h2, toks := tk2 } ∧ Grow h' h2)
      h2 h64 (fun p' st' s' a1 a2 a3 a4 => ⟨p', a1, a2, a3, a4⟩)
      (Runs.wp (Inv := fun s' => ∃ h2 tk2, s' = { s with heap := h2, toks := tk2 } ∧ Grow h' h2) (fun i j CC s2 hi hj hI hC => by
        obtain ⟨h2, tk2, rfl, G2⟩ := hI
        obtain ⟨x, dx, tx, ex, hx1⟩ := hitem i hi
        obtain ⟨y, dy, ty, ey, hy1⟩ := hitem j hj
        obtain ⟨dl, fdl, sll, hlf⟩ := C.lf
        unfold kas_cmp
        rw [ex, ey]
        have GG := Grow.trans G' G2
        exact k_lt' (C.X.keeps GG) (C.K.grow GG) (C.cell.keeps GG) (GG _ _ hlf) (G2 _ _ hx1) (G2 _ _ hy1) ((C.lam i j hi hj).grow GG) dp un fr gd hd hu fun h3 tk3 G3 => hC _ ⟨h3, tk3, rfl, G2.trans G3⟩)
        (fun p s' hp hi => ⟨hp, hi⟩) _ _ hrun ⟨h', tk, rfl, Grow.refl _⟩)
    refine wpAny_bind (wpAny_mono run ?_ fun _ _ q => q)
    rintro ⟨⟨⟩, st'⟩ s' ⟨p, hp, har, hf, hPp, h2', tk2, rfl, G2⟩
    dsimp only
    have nk := G2 _ _ hk'
    have na := G2 _ _ hD'
    have hout : (arrOf st').map (·.2) = List.toArray (p.toList.map fun i => vs.getD i Value.none) := by
      apply Array.toList_inj.mp
      rw [har, Array.map_map, Array.toList_map]
      refine List.map_congr_left fun i _ => ?_
      show (kas_item (kA.zip vs.toArray) i).2 = _
      by_cases hi : i < n
      · obtain ⟨_, _, _, e, _⟩ := hitem i hi
        rw [e]
      · unfold kas_item
        have : ¬ i < (kA.zip vs.toArray).size := by rw [hzs]; exact hi
        have : vs[i]? = none := List.getElem?_eq_none (by lia)
        simp [Array.getD, *]
    have hsz : ((arrOf st').map (·.2)).size = n := by rw [hout, List.size_toArray, List.length_map, Array.length_toList, hp]
    have s1 := Heap.SameBut.update h2' kS (Obj.mapSeq fun _ => (#[] : Array Value))
    have na1 : (h2'.update kS (Obj.mapSeq fun _ => (#[] : Array Value))).get? D = some (seqObj "list" #[] e1) := (s1.2 D hDk.symm).trans na
    have s2 := Heap.SameBut.update (h2'.update kS (Obj.mapSeq fun _ => (#[] : Array Value))) D (Obj.mapSeq fun _ => (arrOf st').map (·.2))
    obtain ⟨c2, hc2⟩ : ∃ c2, ((h2'.update kS (Obj.mapSeq fun _ => (#[] : Array Value))).update D (Obj.mapSeq fun _ => (arrOf st').map (·.2))).get? D = some (seqObj "list" ((arrOf st').map (·.2)) c2) :=
      Exists.intro _ (get?_update_seq na1 fun _ => (arrOf st').map fun x : Value × Value => x.2)
    unfold ksk_tail
    try dsimp only
    refine wpAny_bind (listUpdate_at nk rfl ?_ (by rw [hz, sizeLine_eq]; lia) (Nat.zero_le _))
    refine wpAny_bind (wpAny_letGo ?_)
    refine wpAny_bind (seqEpoch_at na1 rfl ?_)
    rw [if_neg (by simp)]
    refine wpAny_bind (listUpdate_at na1 rfl ?_ (Nat.zero_le _) (Nat.le_trans (Nat.le_of_eq hsz) (by rw [sizeLine_eq]; lia)))
    rw [hf]
    simp only [bne_self_eq_false, Bool.false_eq_true, if_false]
    rw [hout] at hc2 s2 ⊢
    refine wpAny_pure (h _ _ p c2 (fun b o eb => ?_) hp hPp hc2)
    exact (s2.2 b (by rintro rfl; rw [fD] at eb; cases eb)).trans ((s1.2 b (by rintro rfl; rw [fk] at eb; cases eb)).trans (G2 _ _ (G' _ _ eb)))
end
end
section
section
variable {key : Nat → Int} {N : Nat}
def RK (key : Nat → Int) (i j : Nat) : Prop := key i < key j ∨ (key i = key j ∧ i < j)
abbrev ltK (key : Nat → Int) (i j : Nat) : Bool := decide (key i < key j)
def gP (p : Array Nat) (i : Nat) : Nat := p.getD i 0
theorem gP_eq (p : Array Nat) (i : Nat) : gP p i = (p[i]?).getD 0 := Array.getD_eq_getD_getElem? ..
structure Stt (N : Nat) (p : Array Nat) (m : Nat) : Prop where
  size : p.size = N
  perm : p.toList.Perm (List.range N)
  low : ∀ i, i < m → gP p i < m
  high : ∀ i, m ≤ i → i < N → gP p i = i
def Asc (key : Nat → Int) (p : Array Nat) (n : Nat) : Prop := ∀ i j, i < j → j < n → RK key (gP p i) (gP p j)
theorem RK.trans {i j k : Nat} (a : RK key i j) (b : RK key j k) : RK key i k := by
  rcases a with a | a <;> rcases b with b | b
  · exact .inl (Int.lt_trans a b)
  · exact .inl (b.1 ▸ a)
  · exact .inl (a.1 ▸ b)
  · exact .inr ⟨a.1.trans b.1, Nat.lt_trans a.2 b.2⟩
theorem RK.le {i j : Nat} (a : RK key i j) : key i ≤ key j := a.elim Int.le_of_lt fun a => Int.le_of_eq a.1
theorem RK.of {i j : Nat} (a : key i ≤ key j) (b : i < j) : RK key i j := (Int.lt_or_eq_of_le a).imp_right fun e => ⟨e, b⟩
theorem Asc.le {p : Array Nat} {n i j : Nat} (a : Asc key p n) (h : i ≤ j) (hj : j < n) : key (gP p i) ≤ key (gP p j) := by
  rcases Nat.lt_or_eq_of_le h with h | rfl
  · exact (a i j h hj).le
  · exact Int.le_refl _
theorem pr {n : Nat} (h : 0 < n) : n - 1 < n := Nat.sub_one_lt_of_le h (Nat.le_refl n)
theorem mir_lt {i j k : Nat} (h : i ≤ k ∧ k < j) : i + j - 1 - k < j := by lia
theorem mir_ge {i j k : Nat} (h : k < j) : i ≤ i + j - 1 - k := by lia
theorem mir_anti {i j k l : Nat} (h : k < l) (hl : l < j) : i + j - 1 - l < i + j - 1 - k := by lia
theorem nx {n f r : Nat} (h : n + (f + 1) = r) : n + 1 + f = r := (Nat.add_right_comm n 1 f).trans h
theorem nl {n f r : Nat} (h : n + (f + 1) = r) : n < r := h ▸ Nat.lt_add_of_pos_right (Nat.succ_pos f)
theorem Stt.up {p : Array Nat} {m : Nat} (s : Stt N p m) (h : m < N) : Stt N p (m + 1) :=
  ⟨s.size, s.perm, fun i hi => by
    rcases Nat.lt_succ_iff_lt_or_eq.mp hi with hi | rfl
    · exact Nat.lt_succ_of_lt (s.low i hi)
    · rw [s.high i (Nat.le_refl _) h]; exact Nat.lt_succ_self _, fun i h1 h2 => s.high i (Nat.le_of_succ_le h1) h2⟩
theorem Stt.lt {p : Array Nat} {m i : Nat} (s : Stt N p m) (hm : m ≤ N) (h : i < N) : gP p i < N := by
  by_cases hi : i < m
  · exact Nat.lt_of_lt_of_le (s.low i hi) hm
  · rw [s.high i (Nat.le_of_not_lt hi) h]; exact h
theorem Stt.room {p : Array Nat} {m j : Nat} (s : Stt N p m) (h : j ≤ N) : j ≤ p.size := Nat.le_trans h (Nat.le_of_eq s.size.symm)
theorem gP_rev {p : Array Nat} {i j : Nat} (hj : j ≤ p.size) (k : Nat) : gP (kas_rev p i j) k = if i ≤ k ∧ k < j then gP p (i + j - 1 - k) else gP p k := by
  unfold kas_rev
  rw [gP_eq, getElem?_mirror_all hj]
  split <;> rw [gP_eq]
theorem Stt.rev {p : Array Nat} {m i j : Nat} (s : Stt N p m) (hm : m ≤ N) (hj : j ≤ m) : Stt N (kas_rev p i j) m := by
  have hz := s.room (Nat.le_trans hj hm)
  refine ⟨(mirror_size _ _ _ _).trans s.size, (Array.perm_iff_toList_perm.mp (mirror_perm _ _ _ _)).trans s.perm, fun k hk => ?_, fun k h1 h2 => ?_⟩
  · rw [gP_rev hz]
    split
    · exact s.low _ (Nat.lt_of_lt_of_le (mir_lt ‹_›) hj)
    · exact s.low _ hk
  · rw [gP_rev hz, if_neg fun h => Nat.not_lt_of_le (Nat.le_trans hj h1) h.2]
    exact s.high k h1 h2
theorem asc_run {p : Array Nat} {nrem : Nat} (hN : nrem ≤ N) (f n : Nat) (h1 : 1 ≤ n) (hf : n + f = nrem) (s : Stt N p n) (a : Asc key p n) :
    Runs (ltK key) N (kas_asc p f n) (fun m => n ≤ m ∧ m ≤ nrem ∧ Stt N p m ∧ Asc key p m ∧ (m < nrem → key (gP p m) < key (gP p (m - 1)))) := by
  induction f generalizing n with
  | zero => exact ⟨Nat.le_refl _, Nat.le_of_eq hf, s, a, fun h => absurd h (hf ▸ Nat.lt_irrefl _)⟩
  | succ f ih =>
    have hr := nl hf
    have hn := Nat.lt_of_lt_of_le hr hN
    refine ⟨s.lt (Nat.le_of_lt hn) hn, s.lt (Nat.le_of_lt hn) (Nat.lt_of_le_of_lt (Nat.sub_le n 1) hn), ?_⟩
    show Runs (ltK key) N (if ltK key (gP p n) (gP p (n - 1)) = true then KasT.ret n else kas_asc p f (n + 1)) _
    by_cases hc : key (gP p n) < key (gP p (n - 1))
    · rw [if_pos (decide_eq_true hc)]
      exact ⟨Nat.le_refl _, Nat.le_of_lt hr, s, a, fun _ => hc⟩
    · rw [if_neg fun e => hc (of_decide_eq_true e)]
      refine Runs.mono (fun m b => ⟨Nat.le_of_succ_le b.1, b.2⟩) (ih (n + 1) (Nat.le_add_left 1 n) (nx hf) (s.up hn) fun i j hij hj => ?_)
      rcases Nat.lt_succ_iff_lt_or_eq.mp hj with hj | rfl
      · exact a i j hij hj
      · exact .of (Int.le_trans (a.le (Nat.le_sub_one_of_lt hij) (pr h1)) (Int.not_lt.mp hc)) (Nat.lt_of_lt_of_eq (s.low i hij) (s.high j (Nat.le_refl _) hn).symm)
def Dsc (key : Nat → Int) (p : Array Nat) (n b : Nat) : Prop := b < n ∧ (∀ i j, b ≤ i → i < j → j < n → key (gP p i) = key (gP p j) ∧ gP p i < gP p j) ∧
  (∀ i j, i < b → b ≤ j → j < n → key (gP p j) < key (gP p i)) ∧ ∀ i j, i < j → j < n → i < b → RK key (gP p j) (gP p i)
def Fall (key : Nat → Int) (p : Array Nat) (n : Nat) : Prop := ∀ i j, i < j → j < n → RK key (gP p j) (gP p i)
theorem Dsc.last {p : Array Nat} {n b : Nat} (d : Dsc key p n b) (i : Nat) (hi : i < n) : key (gP p (n - 1)) ≤ key (gP p i) := by
  have hl := pr (Nat.zero_lt_of_lt d.1)
  by_cases h2 : i < b
  · exact Int.le_of_lt (d.2.2.1 i (n - 1) h2 (Nat.le_sub_one_of_lt d.1) hl)
  · rcases Nat.lt_or_eq_of_le (Nat.le_sub_one_of_lt hi) with h | rfl
    · exact Int.le_of_eq (d.2.1 i (n - 1) (Nat.le_of_not_lt h2) h hl).1.symm
    · exact Int.le_refl _
theorem Dsc.turned {p : Array Nat} {n b : Nat} (d : Dsc key p n b) (hz : n ≤ p.size) : Fall key (kas_rev p b n) n := by
  intro i j hij hj
  rw [gP_rev hz, gP_rev hz]
  by_cases h1 : b ≤ i
  · have hb := Nat.le_trans h1 (Nat.le_of_lt hij)
    have hi := Nat.lt_trans hij hj
    rw [if_pos ⟨hb, hj⟩, if_pos ⟨h1, hi⟩]
    exact .inr (d.2.1 _ _ (mir_ge hj) (mir_anti hij hj) (mir_lt ⟨h1, hi⟩))
  · have hi := Nat.lt_of_not_le h1
    rw [if_neg (c := b ≤ i ∧ i < n) fun h => h1 h.1]
    split
    · exact d.2.2.2 i _ (Nat.lt_of_lt_of_le hi (mir_ge hj)) (mir_lt ‹_›) hi
    · exact d.2.2.2 i j hij hj hi
theorem Dsc.falls {p : Array Nat} {n b : Nat} (d : Dsc key p n b) (hb : b + 1 = n) : Fall key p n := fun i j hij hj => d.2.2.2 i j hij hj (Nat.lt_of_lt_of_le hij (Nat.le_of_lt_succ (Nat.lt_of_lt_of_eq hj hb.symm)))
theorem Fall.more {p : Array Nat} {n : Nat} (f : Fall key p n) (hl : ∀ i, i < n → key (gP p n) < key (gP p i)) : Dsc key p (n + 1) n := by
  have eq : ∀ j, n ≤ j → j < n + 1 → j = n := fun j h1 h2 => Nat.le_antisymm (Nat.le_of_lt_succ h2) h1
  refine ⟨Nat.lt_succ_self n, fun i j h1 h2 h3 => absurd (Nat.lt_of_le_of_lt h1 h2) (Nat.not_lt_of_le (Nat.le_of_lt_succ h3)), fun i j h1 h2 h3 => eq j h2 h3 ▸ hl i h1, fun i j hij hj hi => ?_⟩
  rcases Nat.lt_succ_iff_lt_or_eq.mp hj with hj | rfl
  · exact f i j hij hj
  · exact .inl (hl i hij)
theorem desc_run {nrem : Nat} (hN : nrem ≤ N) (f : Nat) (p : Array Nat) (n q b : Nat) (hf : n + f = nrem) (hb : b + (q + 1) = n) (s : Stt N p n) (d : Dsc key p n b) :
    Runs (ltK key) N (kas_desc f p n q) (fun r => r.2.1 ≤ nrem ∧ Stt N r.1 r.2.1 ∧ ∃ b, b + (r.2.2 + 1) = r.2.1 ∧ Dsc key r.1 r.2.1 b) := by
  induction f generalizing p n q b with
  | zero => exact ⟨Nat.le_of_eq hf, s, b, hb, d⟩
  | succ f ih =>
    have hr := nl hf
    have hn := Nat.lt_of_lt_of_le hr hN
    have hn' := Nat.le_of_lt hn
    have hl1 := Nat.lt_of_le_of_lt (Nat.sub_le n 1) hn
    have hz := s.room hn'
    have e : n - (q + 1) = b := Nat.sub_eq_of_eq_add hb.symm
    refine ⟨s.lt hn' hn, s.lt hn' hl1, ?_⟩
    show Runs (ltK key) N (if ltK key (gP p n) (gP p (n - 1)) = true then (if q > 0 then kas_desc f (kas_rev p (n - (q + 1)) n) (n + 1) 0 else kas_desc f p (n + 1) 0)
      else KasT.ask (gP p (n - 1)) (gP p n) fun d => if d = true then KasT.ret (p, n, q) else kas_desc f p (n + 1) (q + 1)) _
    by_cases hc : key (gP p n) < key (gP p (n - 1))
    · rw [if_pos (decide_eq_true hc)]
      have hl : ∀ i, i < n → key (gP p n) < key (gP p i) := fun i hi => Int.lt_of_lt_of_le hc (d.last i hi)
      by_cases hq : q > 0
      · rw [if_pos hq, e]
        refine ih _ (n + 1) 0 n (nx hf) rfl ((s.rev hn' (Nat.le_refl _)).up hn) ((d.turned hz).more fun i hi => ?_)
        rw [gP_rev hz, gP_rev hz, if_neg fun h => Nat.lt_irrefl _ h.2]
        split
        · exact hl _ (mir_lt ‹_›)
        · exact hl i hi
      · rw [if_neg hq]
        obtain rfl := Nat.eq_zero_of_not_pos hq
        exact ih p (n + 1) 0 n (nx hf) rfl (s.up hn) ((d.falls hb).more hl)
    · rw [if_neg fun e => hc (of_decide_eq_true e)]
      refine ⟨s.lt hn' hl1, s.lt hn' hn, ?_⟩
      show Runs (ltK key) N (if ltK key (gP p (n - 1)) (gP p n) = true then KasT.ret (p, n, q) else kas_desc f p (n + 1) (q + 1)) _
      by_cases hc2 : key (gP p (n - 1)) < key (gP p n)
      · rw [if_pos (decide_eq_true hc2)]
        exact ⟨Nat.le_of_lt hr, s, b, hb, d⟩
      · rw [if_neg fun e => hc2 (of_decide_eq_true e)]
        have eq := Int.le_antisymm (Int.not_lt.mp hc) (Int.not_lt.mp hc2)
        have hp := pr (Nat.zero_lt_of_lt d.1)
        have strict : ∀ i j, i < b → b ≤ j → j < n + 1 → key (gP p j) < key (gP p i) := fun i j h1 h2 h3 => by
          rcases Nat.lt_succ_iff_lt_or_eq.mp h3 with h3 | rfl
          · exact d.2.2.1 i j h1 h2 h3
          · exact Int.lt_of_le_of_lt (Int.le_of_eq eq.symm) (d.2.2.1 i _ h1 (Nat.le_sub_one_of_lt d.1) hp)
        refine ih p (n + 1) (q + 1) b (nx hf) (congrArg (· + 1) hb) (s.up hn) ⟨Nat.lt_succ_of_lt d.1, fun i j h1 h2 h3 => ?_, strict, fun i j hij hj hi => ?_⟩
        · rcases Nat.lt_succ_iff_lt_or_eq.mp h3 with h3 | rfl
          · exact d.2.1 i j h1 h2 h3
          · refine ⟨?_, Nat.lt_of_lt_of_eq (s.low i h2) (s.high j (Nat.le_refl _) hn).symm⟩
            rcases Nat.lt_or_eq_of_le (Nat.le_sub_one_of_lt h2) with h | rfl
            · exact (d.2.1 i _ h1 h hp).1.trans eq
            · exact eq
        · rcases Nat.lt_succ_iff_lt_or_eq.mp hj with h | rfl
          · exact d.2.2.2 i j hij h hi
          · exact .inl (strict i j hi (Nat.le_of_lt d.1) hj)
theorem tail3_run {p : Array Nat} {m nrem : Nat} (hN : nrem ≤ N) (h1 : 1 ≤ m) (hm : m ≤ nrem) (s : Stt N p m) (f : Fall key p m) :
    Runs (ltK key) N (kas_tail3 m nrem p) (fun r => 1 ≤ r.1 ∧ r.1 ≤ nrem ∧ Stt N r.2 r.1 ∧ Asc key r.2 r.1) := by
  have hz := s.room (Nat.le_trans hm hN)
  refine Runs.bind (Runs.mono (fun k b => ⟨Nat.le_trans h1 b.1, b.2.1, b.2.2.1, b.2.2.2.1⟩) (asc_run hN (nrem - m) m h1 (Nat.add_sub_of_le hm) (s.rev (Nat.le_trans hm hN) (Nat.le_refl _)) fun i j hij hj => ?_))
  have hi := Nat.lt_trans hij hj
  rw [gP_rev hz, gP_rev hz, if_pos ⟨Nat.zero_le _, hi⟩, if_pos ⟨Nat.zero_le _, hj⟩]
  exact f _ _ (mir_anti hij hj) (mir_lt ⟨Nat.zero_le _, hi⟩)
theorem descPart_run {p : Array Nat} {n nrem : Nat} (hN : nrem ≤ N) (hn : n < nrem) (s : Stt N p n) (f : Fall key p n) (hl : ∀ i, i < n → key (gP p n) < key (gP p i)) :
    Runs (ltK key) N (kas_descPart n nrem p) (fun r => 1 ≤ r.1 ∧ r.1 ≤ nrem ∧ Stt N r.2 r.1 ∧ Asc key r.2 r.1) := by
  refine Runs.bind (Runs.mono ?_ (desc_run hN (nrem - (n + 1)) p (n + 1) 0 n (Nat.add_sub_of_le hn) rfl (s.up (Nat.lt_of_lt_of_le hn hN)) (f.more hl)))
  rintro ⟨p', m, q⟩ ⟨b1, b2, b, hb, b3⟩
  dsimp only at b1 b2 b3 hb ⊢
  have h1 := Nat.zero_lt_of_lt b3.1
  by_cases hq : q > 0
  · rw [if_pos hq, Nat.sub_eq_of_eq_add hb.symm]
    exact tail3_run hN h1 b1 (b2.rev (Nat.le_trans b1 hN) (Nat.le_refl _)) (b3.turned (b2.room (Nat.le_trans b1 hN)))
  · rw [if_neg hq]
    obtain rfl := Nat.eq_zero_of_not_pos hq
    exact tail3_run hN h1 b1 b2 (b3.falls hb)
theorem gP_range {i : Nat} (h : i < N) : gP (List.toArray (List.range N)) i = i := by
  simp [gP, Array.getD, h]
theorem count_run (h1 : 1 ≤ N) : Runs (ltK key) N (kas_count N (List.toArray (List.range N))) (fun r => 1 ≤ r.1 ∧ r.1 ≤ N ∧ Stt N r.2 r.1 ∧ Asc key r.2 r.1) := by
  have s0 : Stt N (List.toArray (List.range N)) 1 := ⟨by simp, .refl _, fun i hi => (gP_range (Nat.lt_of_lt_of_le hi h1)).symm ▸ hi, fun i _ h2 => gP_range h2⟩
  unfold kas_count
  generalize List.toArray (List.range N) = p at s0 ⊢
  refine Runs.bind (Runs.mono ?_ (asc_run (Nat.le_refl N) (N - 1) 1 (Nat.le_refl _) (Nat.add_sub_of_le h1) s0 (fun i j a b => absurd (Nat.lt_of_lt_of_le a (Nat.le_of_lt_succ b)) (Nat.not_lt_zero _))))
  rintro n ⟨b1, b2, b3, b4, b5⟩
  by_cases hn : n = N
  · rw [if_pos (beq_iff_eq.mpr hn)]
    exact ⟨b1, b2, b3, b4⟩
  · rw [if_neg fun e => hn (beq_iff_eq.mp e)]
    have hr := Nat.lt_of_le_of_ne b2 hn
    have hlast := b5 hr
    by_cases hn1 : n > 1
    · rw [if_pos hn1]
      refine ⟨b3.lt b2 (Nat.lt_of_le_of_lt (Nat.zero_le _) hr), b3.lt b2 (Nat.lt_of_le_of_lt (Nat.sub_le n 1) hr), ?_⟩
      show Runs (ltK key) N (if ltK key (gP _ 0) (gP _ (n - 1)) = true then KasT.ret _ else kas_descPart n N (kas_rev _ 0 n)) _
      by_cases hc : key (gP p 0) < key (gP p (n - 1))
      · rw [if_pos (decide_eq_true hc)]
        exact ⟨b1, b2, b3, b4⟩
      · rw [if_neg fun e => hc (of_decide_eq_true e)]
        have hz := b3.room b2
        refine descPart_run (Nat.le_refl N) hr (b3.rev b2 (Nat.le_refl _)) (fun i j hij hj => ?_) (fun i hi => ?_)
        · have hi := Nat.lt_trans hij hj
          rw [gP_rev hz, gP_rev hz, if_pos ⟨Nat.zero_le _, hj⟩, if_pos ⟨Nat.zero_le _, hi⟩]
          exact b4 _ _ (mir_anti hij hj) (mir_lt ⟨Nat.zero_le _, hi⟩)
        · rw [gP_rev hz, gP_rev hz, if_neg fun h => Nat.lt_irrefl _ h.2, if_pos ⟨Nat.zero_le _, hi⟩]
          exact Int.lt_of_lt_of_le hlast (Int.le_trans (Int.not_lt.mp hc) (b4.le (Nat.zero_le _) (mir_lt ⟨Nat.zero_le _, hi⟩)))
    · rw [if_neg hn1]
      obtain rfl := Nat.le_antisymm (Nat.le_of_not_lt hn1) b1
      exact descPart_run (Nat.le_refl N) hr b3 (fun i j hij hj => absurd (Nat.lt_of_lt_of_le hij (Nat.le_of_lt_succ hj)) (Nat.not_lt_zero _)) fun i hi => Nat.lt_one_iff.mp hi ▸ hlast
theorem mid_lt {l r : Nat} (h : l < r) : (l + r) / 2 < r := by lia
theorem mid_ge {l r : Nat} (h : l < r) : l ≤ (l + r) / 2 := by lia
theorem place_run {p : Array Nat} {k : Nat} (hk : k < N) (s : Stt N p k) (a : Asc key p k) (f l r : Nat) (h1 : l ≤ r) (h2 : r ≤ k) (h3 : r ≤ l + f) (hl : ∀ i, i < l → RK key (gP p i) (gP p k)) (hr : ∀ i, r ≤ i → i < k → RK key (gP p k) (gP p i)) :
    Runs (ltK key) N (kas_place p k f l r) (fun m => m ≤ k ∧ (∀ i, i < m → RK key (gP p i) (gP p k)) ∧ (∀ i, m ≤ i → i < k → RK key (gP p k) (gP p i))) := by
  induction f generalizing l r with
  | zero => exact ⟨Nat.le_trans h1 h2, hl, fun i hi => hr i (Nat.le_trans h3 hi)⟩
  | succ f ih =>
    show Runs (ltK key) N (if l ≥ r then KasT.ret l else .ask (gP p k) (gP p ((l + r) / 2)) fun c => if c = true then kas_place p k f l ((l + r) / 2) else kas_place p k f ((l + r) / 2 + 1) r) _
    by_cases hlr : l ≥ r
    · rw [if_pos hlr]
      exact ⟨Nat.le_trans h1 h2, hl, fun i hi => hr i (Nat.le_trans hlr hi)⟩
    · rw [if_neg hlr]
      have hd := mid_lt (Nat.lt_of_not_le hlr)
      have hg := mid_ge (Nat.lt_of_not_le hlr)
      generalize (l + r) / 2 = d at hd hg ⊢
      have hm := Nat.lt_of_lt_of_le hd h2
      have hk' := Nat.le_of_lt hk
      refine ⟨s.lt hk' hk, s.lt hk' (Nat.lt_trans hm hk), ?_⟩
      show Runs (ltK key) N (if ltK key (gP p k) (gP p d) = true then kas_place p k f l d else kas_place p k f (d + 1) r) _
      by_cases hc : key (gP p k) < key (gP p d)
      · rw [if_pos (decide_eq_true hc)]
        refine ih l _ hg (Nat.le_of_lt hm) (Nat.le_of_lt_succ (Nat.lt_of_lt_of_le hd h3)) hl fun i hi hik => ?_
        rcases Nat.lt_or_eq_of_le hi with h | rfl
        · exact .trans (.inl hc) (a _ i h hik)
        · exact .inl hc
      · rw [if_neg fun e => hc (of_decide_eq_true e)]
        have hb : RK key (gP p d) (gP p k) := .of (Int.not_lt.mp hc) (Nat.lt_of_lt_of_eq (s.low _ hm) (s.high k (Nat.le_refl _) hk).symm)
        refine ih _ r hd h2 (Nat.le_trans (Nat.le_trans h3 (Nat.add_le_add_right hg _)) (Nat.le_of_eq (Nat.add_right_comm d f 1))) (fun i hi => ?_) hr
        rcases Nat.lt_succ_iff_lt_or_eq.mp hi with h | rfl
        · exact .trans (a i _ h hm) hb
        · exact hb
theorem gP_bubble {p : Array Nat} {k l : Nat} (hk : k < p.size) (hl : l ≤ k) (i : Nat) : gP (bubble p k (k - l)) i = if i = l then gP p k else if l < i ∧ i ≤ k then gP p (i - 1) else gP p i := by
  rw [gP_eq, getElem?_bubble hk (k - l) (Nat.sub_le k l), Nat.sub_sub_self hl]
  repeat' split
  all_goals rw [gP_eq]
theorem bin_run (f k : Nat) (p : Array Nat) (hf : k + f = N) (s : Stt N p k) (a : Asc key p k) : Runs (ltK key) N (kas_bin f p k) (fun q => Stt N q N ∧ Asc key q N) := by
  induction f generalizing p k with
  | zero =>
    obtain rfl : k = N := hf
    exact ⟨s, a⟩
  | succ f ih =>
    have hn := nl hf
    refine Runs.bind (f := fun l => kas_bin f (bubble p k (k - l)) (k + 1)) (Runs.mono ?_ (place_run hn s a k 0 k (Nat.zero_le _) (Nat.le_refl _) (Nat.le_of_eq (Nat.zero_add k).symm) (fun i hi => absurd hi (Nat.not_lt_zero _)) (fun i h1 h2 => absurd h2 (Nat.not_lt_of_le h1))))
    rintro l ⟨hl, b1, b2⟩
    have hk : k < p.size := s.room hn
    have blt : ∀ i, i < l → gP (bubble p k (k - l)) i = gP p i := fun i h => by rw [gP_bubble hk hl, if_neg (Nat.ne_of_lt h), if_neg fun c => Nat.lt_asymm h c.1]
    have beq : gP (bubble p k (k - l)) l = gP p k := by rw [gP_bubble hk hl, if_pos rfl]
    have bgt : ∀ i, l < i → i < k + 1 → gP (bubble p k (k - l)) i = gP p (i - 1) := fun i h c => by rw [gP_bubble hk hl, if_neg (Nat.ne_of_gt h), if_pos ⟨h, Nat.le_of_lt_succ c⟩]
    have down : ∀ i, l < i → i < k + 1 → i - 1 < k := fun i h c => Nat.sub_one_lt_of_le (Nat.zero_lt_of_lt h) (Nat.le_of_lt_succ c)
    refine ih (k + 1) _ (nx hf) ⟨(bubble_size _ _ _).trans s.size, (Array.perm_iff_toList_perm.mp (bubble_perm _ _ _)).trans s.perm, fun i hi => ?_, fun i h1 h2 => ?_⟩ fun i j hij hj => ?_
    · rcases Nat.lt_trichotomy i l with h | rfl | h
      · rw [blt i h]; exact Nat.lt_succ_of_lt (s.low i (Nat.lt_of_lt_of_le h hl))
      · rw [beq, s.high k (Nat.le_refl _) hn]; exact Nat.lt_succ_self _
      · rw [bgt i h hi]; exact Nat.lt_succ_of_lt (s.low _ (down i h hi))
    · rw [gP_bubble hk hl, if_neg (Nat.ne_of_gt (Nat.lt_of_le_of_lt hl h1)), if_neg fun c => Nat.not_lt_of_le c.2 h1]
      exact s.high i (Nat.le_of_succ_le h1) h2
    · rcases Nat.lt_trichotomy j l with h | rfl | h
      · rw [blt i (Nat.lt_trans hij h), blt j h]; exact a _ _ hij (Nat.lt_of_lt_of_le h hl)
      · rw [blt i hij, beq]; exact b1 _ hij
      · rw [bgt j h hj]
        have dj := down j h hj
        rcases Nat.lt_trichotomy i l with g | rfl | g
        · rw [blt i g]; exact a _ _ (Nat.lt_of_lt_of_le g (Nat.le_sub_one_of_lt h)) dj
        · rw [beq]; exact b2 _ (Nat.le_sub_one_of_lt h) dj
        · rw [bgt i g (Nat.lt_trans hij hj)]; exact a _ _ (Nat.sub_lt_sub_right (Nat.zero_lt_of_lt g) hij) dj
theorem sort_run (h2 : 2 ≤ N) : Runs (ltK key) N (kas_sort N) (fun q => Stt N q N ∧ Asc key q N) := by
  unfold kas_sort
  refine Runs.bind (Runs.mono ?_ (count_run (Nat.le_of_succ_le h2)))
  rintro ⟨m, p⟩ ⟨b1, b2, b3, b4⟩
  dsimp only at b1 b2 b3 b4 ⊢
  by_cases hm : m < N
  · rw [if_pos hm, Nat.max_eq_left b1]
    exact bin_run (N - m) m p (Nat.add_sub_of_le b2) b3 b4
  · rw [if_neg hm]
    obtain rfl := Nat.le_antisymm b2 (Nat.le_of_not_lt hm)
    exact ⟨b3, b4⟩
end
end
section
set_option maxHeartbeats 4000000
open PySem.W.X PySem.Calls
theorem fresh_size {h h' : Heap} (G : Grow h h') {b : Addr} (hb : h'.objs.size ≤ b) : h.get? b = none := by
  cases e : h.get? b with
  | none => rfl
  | some o => exact absurd (Heap.lt_size (G _ _ e)) (Nat.not_lt.mpr hb)
section
variable {w : World} {A : Around} {E : Value → Shared → Prop} {s : Shared}
theorem collect_rng {r : Addr} {a b c : Int} {t u v : Tok} {n : Nat} {Q : List Value → Shared → Prop} (hh : A.handled = none) (hr : IsRange s.heap r a b c t u v) (hsmall : PySem.Builtin.Range.small a b c = true)
    (hn : PySem.Builtin.Range.rangeSize a b c = n) (hlen : n ≤ 2 ^ 24) (hQ : ∀ h' tk acc, Grow s.heap h' → ItemsOf (fun i v => ∃ t, v = Value.int (a + i * c) t) acc n → Q acc.toList { s with heap := h', toks := tk }) :
    wpAny (model pw w) A (collect (.ref r)) Q E s := by
  unfold collect
  refine wpAny_bind (wpAny_runValue (codeAny_builtin F.entry_proto_collect ?_))
  rw [Around.under_plainId F.plain_proto_collect _]
  show wpAny _ A.in1 (newList [] >>= fun l => again (.builtin "list.__iadd__" ⟨[l, .ref r], []⟩)) _ _ s
  refine wpAny_bind (wpAny_newObj_type ?_)
  refine wpAny_pure ⟨plainId_quiet F.plain_list_iadd _, codeAny_builtin F.entry_list_iadd ?_⟩
  rw [Around.under_plainId F.plain_list_iadd _]
  show wpAny _ A.in1 (PySem.Builtin.List.listExtendWith (.ref s.heap.objs.size) (.ref r) (.ref s.heap.objs.size)) _ _ _
  refine wpAny_extend_range (R := fun r s' => match r with
    | .ok (.ret v) => wpAny (model pw w) A (match v with
      | .ref a => do match (← load a).data with
        | .seq xs _ => pure xs.toList
        | _ => unsupported "internal:collect"
      | _ => unsupported "internal:collect") Q E s'
    | .ok _ => False
    | .error e => E e s') (s := { s with heap := s.heap.push { cls := .type "list", data := .seq ([] : List Value).toArray } }) hh (Heap.get?_push_of_some _ hr) hsmall hn hlen s.heap.objs.size _ _ (Heap.get?_push_size _ rfl) fun h' tk acc' c' hk hS' hacc => ?_
  show wpAny _ A (load s.heap.objs.size >>= _) _ _ _
  refine wpAny_bind (wpAny_load hS' ?_)
  refine wpAny_pure ?_
  exact hQ h' tk acc' (fun b o e => hk b o (Nat.ne_of_lt (Heap.lt_size e)) (Heap.get?_push_of_some _ e)) hacc
end
section
variable {w : World} {a mc lam : Addr} {n : Nat} {c : Nat → Nat → Int} {dp un : Nat} {fr : Option (List Env)} {gd : Option (List Code)} {s : Shared} {Q E : Value → Shared → Prop} {Pp : Array Nat → Prop}
theorem kk_sorted {r : Addr} {t u v : Tok} (C : SortCtx w s.heap a mc lam n c) (hd : dp ≤ 310) (hu : un ≤ 2700) (hr : IsRange s.heap r 0 n 1 t u v) (h2 : 2 ≤ n) (h64 : n < 64)
    (hsmall : PySem.Builtin.Range.small 0 n 1 = true) (hn : PySem.Builtin.Range.rangeSize 0 n 1 = n) (hrun : Runs (fun i j => decide (c i j < 0)) n (kas_sort n) Pp)
    (h : ∀ D h' tk (p : Array Nat) (out : Array Value) (cc : Nat), Grow s.heap h' → s.heap.get? D = none → p.size = n → Pp p → h'.get? D = some (seqObj "list" out cc) → out.size = n → (∀ (k i : Nat), p[k]? = some i → i < n → ∃ t, out[k]? = some (Value.int (i : Nat) t)) → Q (.ref D) { s with heap := h', toks := tk }) :
    wpAny (model pw w) (AA dp un fr gd) (call (.builtin "sorted") [.ref r] [(PySem.Str.ofString "key", .ref a)]) Q E s := by
  refine call_function_entry_kw kind_sorted plain_sorted entry_sorted (ksk_s1 _ _) ?_
  unfold PySem.Builtin.«sorted»
  refine wpAny_bind (m := checkCount "sorted" 1 1 _) (wpAny_pure ?_)
  refine wpAny_bind (collect_rng rfl hr hsmall hn (by omega) fun h1 tk1 acc G1 hacc => ?_)
  have hal : acc.toList.length = n := by rw [Array.length_toList]; exact hacc.1
  have hvs : ∀ j, j < n → ∃ t, acc.toList[j]? = some (Value.int (j : Nat) t) := fun j hj => by
    have hj' : j < acc.size := by rw [hacc.1]; exact hj
    obtain ⟨t, ht⟩ := hacc.2 j acc[j] (Array.getElem?_eq_getElem hj')
    exact ⟨t, by rw [Array.getElem?_toList, Array.getElem?_eq_getElem hj', ht]; simp⟩
  refine wpAny_bind (wpAny_newList ?_ (by rw [hal, sizeLine_eq]; omega))
  have hoD : (h1.push (seqObj "list" acc.toList.toArray 0)).get? h1.objs.size = some (seqObj "list" acc.toList.toArray 0) := Heap.get?_push_size _ rfl
  show wpAny _ _ _ _ _ { s with heap := h1.push (seqObj "list" acc.toList.toArray 0), toks := tk1 }
  refine wpAny_bind (wpAny_holding (wpAny_call_entry_kw slot_list_sort ⟨_, hoD, rfl⟩ entry_list_sort ?body (ksk_l1 _ _)))
  case body =>
    show wpAny (model pw w) (AA dp (un + 1 + 1) fr gd) (PySem.Builtin.«list.sort» ⟨[.ref h1.objs.size], [(PySem.Str.ofString "key", .ref a)]⟩) _ _ _
    rw [ksk_t1]
    have s1 := Heap.SameBut.update (h1.push (seqObj "list" acc.toList.toArray 0)) h1.objs.size (Obj.mapSeq fun _ => (#[] : Array Value))
    obtain ⟨e1, ho1⟩ : ∃ e1, ((h1.push (seqObj "list" acc.toList.toArray 0)).update h1.objs.size (Obj.mapSeq fun _ => (#[] : Array Value))).get? h1.objs.size = some (seqObj "list" #[] e1) := ⟨_, get?_update_seq hoD fun _ => #[]⟩
    have fD : s.heap.get? h1.objs.size = none := fresh_size G1 (Nat.le_refl _)
    unfold ksk_tree
    refine wpAny_bind (listItems_at hoD rfl ?_)
    refine wpAny_bind (listUpdate_at hoD rfl ?_ (by rw [List.size_toArray, hal, sizeLine_eq]; omega) (Nat.zero_le _))
    refine wpAny_bind (seqEpoch_at ho1 rfl ?_)
    refine wpAny_bind (wpAny_newTuple ?_ (by show acc.toList.length ≤ _; rw [hal, sizeLine_eq]; omega))
    refine wpAny_bind (wpAny_newList ?_ (Nat.zero_le _))
    refine wpAny_holding ?_
    have hszk : (((h1.push (seqObj "list" acc.toList.toArray 0)).update h1.objs.size (Obj.mapSeq fun _ => (#[] : Array Value))).push (seqObj "tuple" acc.toList.toArray 0)).objs.size = h1.objs.size + 1 + 1 := by rw [size_push', Heap.size_update, size_push']
    have G2 : Grow s.heap ((((h1.push (seqObj "list" acc.toList.toArray 0)).update h1.objs.size (Obj.mapSeq fun _ => (#[] : Array Value))).push (seqObj "tuple" acc.toList.toArray 0)).push (seqObj "list" #[] 0)) := fun b o e =>
      Heap.get?_push_of_some _ (Heap.get?_push_of_some _ ((s1.2 b (by rintro rfl; rw [fD] at e; cases e)).trans (Heap.get?_push_of_some _ (G1 _ _ e))))
    refine ks_rest (s := { s with heap := (((h1.push (seqObj "list" acc.toList.toArray 0)).update h1.objs.size (Obj.mapSeq fun _ => (#[] : Array Value))).push (seqObj "tuple" acc.toList.toArray 0)).push (seqObj "list" #[] 0), toks := tk1 })
      (kS := (((h1.push (seqObj "list" acc.toList.toArray 0)).update h1.objs.size (Obj.mapSeq fun _ => (#[] : Array Value))).push (seqObj "tuple" acc.toList.toArray 0)).objs.size) C hd (by omega) hvs hal h2 h64 G2
      (Heap.get?_push_of_some _ (Heap.get?_push_of_some _ ho1)) (Heap.get?_push_size _ rfl) (by rw [hszk]; exact Nat.ne_of_gt (by omega)) fD (fresh_size G1 (by rw [hszk]; omega)) hrun fun h' tk p cc G' hp hP hD => ?_
    refine ⟨_, rfl, wpAny_pure ⟨_, rfl, h _ h' tk p _ cc G' fD hp hP hD (by simp [hp]) fun k i hk hi => ?_⟩⟩
    obtain ⟨t, ht⟩ := hvs i hi
    refine ⟨t, ?_⟩
    rw [List.getElem?_toArray, List.getElem?_map]
    have : p.toList[k]? = some i := by rw [Array.getElem?_toList]; exact hk
    rw [this, Option.map_some, List.getD_eq_getElem?_getD, ht]
    rfl
end
end
section
set_option maxHeartbeats 8000000
open PySem.Calls
theorem fill_lw10 : kk = kk ∧ PySem.Challenge.rw_kq0052_01 = PySem.Challenge.rw_kq0052_01 := by
  k_fill
  exact ⟨rfl, rfl⟩
local macro_rules | `(tactic| walk_at "callWith ref") => `(tactic| (k_here; k_dflt (refine' callWith_K ?k1 ?k2 ?_; (case k1 => k_asm); (case k2 => k_is); k_whole)))
local macro_rules | `(tactic| walk_at "call type:range") => `(tactic| (with_reducible refine st16 ?_))
local macro_rules | `(tactic| walk_at "call builtin:sorted") => `(tactic| (with_reducible refine st31 ?_))
local macro_rules | `(tactic| k_updF) => `(tactic| exact UpdF.head (by assumption))
local macro_rules | `(tactic| walk_at "execs cons") => `(tactic| (with_reducible refine st32 ?_))
theorem nd_new' {h₀ h h' : Heap} {L r : Addr} {o : Obj} {led : Led} (D : Nd led) (N : News h₀ L h led) (hr : h.get? r = none) (N' : News h₀ L h' ((r, o) :: led)) : Nd ((r, o) :: led) := D.new N hr
theorem fr_but {h₀ h h' : Heap} {L d : Addr} {m : PySem.Str → Option Value} (F : Fr h₀ L h m) (hd : h₀.get? d = none) (hL : d ≠ L) (g : ∀ b o, h.get? b = some o → b ≠ d → h'.get? b = some o) : Fr h₀ L h' m := by
  refine ⟨?_, fun b o e => g b o (F.keep b o e) (by rintro rfl; rw [hd] at e; cases e), F.above⟩
  obtain ⟨o, es, ep, ho, r⟩ := F.ns
  exact ⟨o, es, ep, g _ _ ho (Ne.symm hL), r⟩
theorem news_but {h₀ h h' : Heap} {L : Addr} {d : Addr} {o o' : Obj} {led : Led} (N : News h₀ L h ((d, o) :: led)) (hne : ∀ p ∈ led, p.1 ≠ d) (g : ∀ b x, h.get? b = some x → b ≠ d → h'.get? b = some x) (e : h'.get? d = some o') : News h₀ L h' ((d, o') :: led) := by
  intro p hp
  rcases List.mem_cons.mp hp with rfl | hp
  · exact ⟨e, (N _ (.head _)).2⟩
  · exact ⟨g _ _ (N _ (.tail _ hp)).1 (hne p hp), (N _ (.tail _ hp)).2⟩
theorem ints_of_nth : ∀ {vs : List Value} {ns : List Int}, vs.length = ns.length → (∀ (k : Nat) (v : Int), ns[k]? = some v → ∃ t : Tok, vs[k]? = some (Value.int v t)) → IntsAre vs ns := by
  intro vs
  induction vs with
  | nil => intro ns hl _; obtain rfl : ns = [] := List.eq_nil_of_length_eq_zero hl.symm; exact .nil
  | cons v vs ih =>
    intro ns hl h
    cases ns with
    | nil => simp at hl
    | cons n ns =>
      obtain ⟨t, e⟩ := h 0 n rfl
      obtain rfl : v = .int n t := by simpa using e
      exact .cons _ _ (ih (by simpa using hl) fun k v hk => by simpa using h (k + 1) v (by simpa using hk))
noncomputable def keyC (cs : List Nat) (i : Nat) : Int := ((cs.getD i 0 : Nat) : Int)
noncomputable def cmpC (cs : List Nat) (i j : Nat) : Int := cmpW (wrt (cs.getD i 0)) (wrt (cs.getD j 0))
theorem law10 (w : World) (h₀ : Heap) (mg mb : PySem.Str → Option Value) (mean : ExcName → Option Value) (L fa : Addr) (s : Shared) (Q : Flow → Shared → Prop) (E : Value → Shared → Prop) (m : PySem.Str → Option Value)
   (cs : List Nat) (hn : cs.length ≤ 12) (hn2 : 2 ≤ cs.length) (hord : ∀ i j, cmpC cs i j < 0 ↔ keyC cs i < keyC cs j) (svs : List Value) (hsl : svs.length = cs.length) (sg n1 : Nat) (oW : Obj) (wr : Addr) (hW : oW.data = .cell (some (.ref wr))) (wvs : List Value) (n2 : Nat) (hwl : wvs.length = cs.length) (hwv : ∀ (i c : Nat), cs[i]? = some c → ∃ t : Tok, wvs[i]? = some (Value.bytes (wrt c) t))
   (ps pk : Array Value) (c1 c2 : Addr) (rest : Led) (hps : ps = #[] ++ #[rawInt 278, rawInt 20, .ref c1] ++ #[rawInt 282, rawInt 18, .ref c2]) (hpk : pk = #[])
   (X : (kk w.params).In h₀) (T : Top topProg LO mean mg mb h₀) (C208 : CodeHd h₀ 210 208) (K : Below callerA h₀ [] h₀)
   (F : Fr h₀ L s.heap m) (hms : m (ofS "signs") = some (.ref sg)) (N : News h₀ L s.heap ((208, tabObj ps) :: (158, tabObj pk) :: (L + 1 + 1 + 1 + 1, oW) :: (wr, W.listOf wvs.toArray n2) :: (sg, W.listOf svs.toArray n1) :: rest))
   (D : Nd ((208, tabObj ps) :: (158, tabObj pk) :: (L + 1 + 1 + 1 + 1, oW) :: (wr, W.listOf wvs.toArray n2) :: (sg, W.listOf svs.toArray n1) :: rest))
   (next : ∀ h' tk m' D10 (p : Array Nat) (out : Array Value) cc c3 more, Stt cs.length p cs.length → Asc (keyC cs) p cs.length → IntsAre out.toList (p.toList.map fun (i : Nat) => (i : Int)) → m' (ofS "places") = some (.ref D10) →
     News h₀ L h' ((158, tabObj more) :: (208, tabObj (#[] ++ #[rawInt 278, rawInt 20, .ref c1] ++ #[rawInt 282, rawInt 18, .ref c2] ++ #[rawInt 286, rawInt 54, .ref c3])) :: (D10, W.listOf out cc) :: rest) → Fr h₀ L h' m' →
     wpAny (model pw w) (lawA L fa) (execs (lawRest 11) (lawEnv L fa)) Q E { s with heap := h', toks := tk }) :
   wpAny (model pw w) (lawA L fa) (execs (lawRest 10) (lawEnv L fa)) Q E s := by
  revert w h₀ mg mb mean L fa s Q E m cs hn hn2 hord svs hsl sg n1 oW wr hW wvs n2 hwl hwv ps pk c1 c2 rest hps hpk X T C208 K F hms N D next
  (refine no_implicit_lambda% (pk6 (i1 := nW) ?_); generalize p6_1 _ = w; generalize p6_2 _ = h₀; generalize p6_3 _ = mg; generalize p6_4 _ = mb; generalize p6_5 _ = mean; generalize p6_6 _ = L); (refine no_implicit_lambda% (pk6 (i2 := nS) ?_); generalize p6_1 _ = fa; generalize p6_2 _ = s; generalize p6_3 _ = Q; generalize p6_4 _ = E; generalize p6_5 _ = m; generalize p6_6 _ = cs)
  intro hn hn2 hord
  (refine no_implicit_lambda% (pk1 ?_); generalize p1_1 _ = svs)
  intro hsl
  (refine no_implicit_lambda% (pk4 ?_); generalize p4_1 _ = sg; generalize p4_2 _ = n1; generalize p4_3 _ = oW; generalize p4_4 _ = wr)
  intro hW
  (refine no_implicit_lambda% (pk2 ?_); generalize p2_1 _ = wvs; generalize p2_2 _ = n2)
  intro hwl hwv
  (refine no_implicit_lambda% (pk5 ?_); generalize p5_1 _ = ps; generalize p5_2 _ = pk; generalize p5_3 _ = c1; generalize p5_4 _ = c2; generalize p5_5 _ = rest)
  intro hps hpk X T C208 K F hms N D next
  have hsg : s.heap.IsList sg svs.toArray := ⟨_, (N _ (.tail _ (.tail _ (.tail _ (.tail _ (.head _)))))).1, rfl, n1, rfl⟩
  have Fa := fr_known F hms
  k_steps
  refine len_at (l := sg) (k := (cs.length : Int)) hsg (by rw [List.size_toArray, hsl]) (by lia) ?_
  k_steps
  refine range1_n F N fun h6 tk6 r6 t6 u6 F6 N6 G6 hr6 => ?_
  have D6 := (nd_new' D N hr6 N6).perm (List.Perm.swap _ _ _)
  have N7 := News.perm N6 (List.Perm.swap _ _ _)
  have h208 := D6.head
  clear N6 N F hsg
  subst hps
  have D158 := D.perm (List.Perm.swap _ _ _)
  have hD6 := (D6.perm (l' := (158, tabObj pk) :: (208, _) :: (r6, _) :: _) (by
    refine (List.Perm.cons _ (List.Perm.swap _ _ _)).trans (List.Perm.swap _ _ _))).head
  k_steps
  rename Fr _ _ _ _ => F8
  rename News _ _ _ _ => N8
  rename_i f3 c3 oc3 vs3 t3 ct3 h8 tk8 d1 d2 l1 l2
  have ho : h8.get? f3 = some (lamObj lamE3 [(ofS "writings", L + 1 + 1 + 1 + 1)] ((mg (PySem.Str.ofString "__name__")).getD .none) c3 ct3) := (N8 _ (.head _)).1.trans (by kernel_rfl)
  have f158 : f3 ≠ 158 := Nat.ne_of_gt (Nat.lt_trans (show 158 < c3 from l1.2.2.1) l2)
  have c158 : c3 ≠ 158 := Nat.ne_of_gt (show 158 < c3 from l1.2.2.1)
  refine ctk w f3 mean mg mb _ _ _ _ _ _ _ (X.keeps F8.keep) (T.keeps F8.keep) (Nat.le_of_ble_eq_true (by kernel_rfl!)) (Nat.le_of_ble_eq_true (by kernel_rfl!)) (by subst hpk; exact (N8 (158, _) (.tail _ (.tail _ (.tail _ (.tail _ (.head _)))))).1) fun a mc h9 tk9 g9 hmore hmc hmc0 KM => ?_
  obtain ⟨more, hmore⟩ := hmore
  have F9 := fr_but F8 ((N8 (158, tabObj pk) (.tail _ (.tail _ (.tail _ (.tail _ (.head _)))))).2.2) ((N8 (158, tabObj pk) (.tail _ (.tail _ (.tail _ (.tail _ (.head _)))))).2.1) g9
  have ho9 := g9 _ _ ho f158
  have hcd9 : h9.CodeRec (.ref c3) (ofS "law.<locals>.<lambda>") := ⟨c3, oc3, vs3, t3, rfl, g9 _ _ (N8 _ (.tail _ (.head _))).1 c158, d1, q_to d2 (by kernel_rfl)⟩
  have N9 : News h₀ L h9 ((158, tabObj more) :: (208, tabObj (#[] ++ #[rawInt 278, rawInt 20, .ref c1] ++ #[rawInt 282, rawInt 18, .ref c2] ++ #[rawInt 286, rawInt 54, .ref c3])) :: (L + 1 + 1 + 1 + 1, oW) :: (wr, W.listOf wvs.toArray n2) :: (sg, W.listOf svs.toArray n1) :: rest) := news_but (o := tabObj pk) (fun p hp => N8 p (mem_pt [4, 2, 5, 6, 7] 8 hp)) (fun p hp => by
    rcases List.mem_cons.mp hp with rfl | hp
    · show (208 : Nat) ≠ 158
      decide
    · exact hD6 p (.tail _ (.tail _ hp))) g9 hmore
  have hr9 := g9 _ _ (N8 _ (.tail _ (.tail _ (.tail _ (.head _))))).1 (hD6 _ (.tail _ (.head _)))
  clear F8 N8 N7
  k_steps
  show wpAny _ _ (call (.builtin "sorted") [.ref r6] [(PySem.Str.ofString "key", .ref a)]) _ _ _
  have hcW : h9.IsCell (L + 1 + 1 + 1 + 1) (some (.ref wr)) := ⟨oW, (N9 _ (.tail _ (.tail _ (.head _)))).1, hW⟩
  have hwr : h9.IsList wr wvs.toArray := ⟨_, (N9 _ (.tail _ (.tail _ (.tail _ (.head _))))).1, rfl, n2, rfl⟩
  have hget : ∀ i, i < cs.length → cs[i]? = some (cs.getD i 0) := fun i hi => by
    rw [List.getElem?_eq_getElem hi, List.getD_eq_getElem?_getD, List.getElem?_eq_getElem hi]; rfl
  have C : SortCtx w h9 a mc f3 cs.length (cmpC cs) := ⟨X.keeps F9.keep, KM.obj, hmc, ⟨_, _, _, ho9⟩, fun i j hi hj => by
    obtain ⟨ti, hi'⟩ := hwv i _ (hget i hi)
    obtain ⟨tj, hj'⟩ := hwv j _ (hget j hj)
    exact lam3_ok w f3 c3 (L + 1 + 1 + 1 + 1) wr _ ct3 h9 mean mg mb (X.keeps F9.keep) (T.keeps F9.keep) ho9 hcd9 hcW wvs hwr i j _ _ ti tj hi' hj' (by lia) (by lia)⟩
  have hfun : (fun i j => decide (cmpC cs i j < 0)) = ltK (keyC cs) := by
    funext i j
    rw [decide_eq_decide]; exact hord i j
  refine kk_sorted C (Nat.le_of_ble_eq_true (by kernel_rfl!)) (Nat.le_of_ble_eq_true (by kernel_rfl!)) hr9 hn2 (by lia) (small_n _ (by lia)) (by rw [rangeSize_nat]; lia) (Pp := fun q => Stt cs.length q cs.length ∧ Asc (keyC cs) q cs.length) (by rw [hfun]; exact sort_run hn2) fun D10 h10 tk10 p out cc G10 hD10 hpz hpp hl10 hoz hout => ?_
  have F10 := F9.after G10
  have N10 := news_new F9 N9 G10 hD10 hl10
  have hI : IntsAre out.toList (p.toList.map fun (i : Nat) => (i : Int)) := by
    refine ints_of_nth (by rw [Array.length_toList, List.length_map, Array.length_toList, hoz, hpz]) fun k v hk => ?_
    obtain ⟨i, hi, e⟩ : ∃ i, p[k]? = some i ∧ v = (i : Int) := by
      rw [List.getElem?_map] at hk
      cases q : p[k]? with
      | none => rw [Array.getElem?_toList, q] at hk; cases hk
      | some i => rw [Array.getElem?_toList, q] at hk; exact ⟨i, rfl, (Option.some.inj hk).symm⟩
    subst e
    have hin : i < cs.length := List.mem_range.mp (hpp.1.perm.mem_iff.mp (by rw [Array.mem_toList_iff]; exact Array.mem_of_getElem? hi))
    obtain ⟨t, ht⟩ := hout k i hi hin
    exact ⟨t, by rw [Array.getElem?_toList]; exact ht⟩
  clear N9 F9
  k_steps
  rename Fr _ _ _ _ => F11
  rename News _ _ _ _ => N11
  exact next _ _ _ D10 p out cc c3 more hpp.1 hpp.2 hI (if_pos rfl) (fun q hq => N11 q (mem_pt [1, 2, 0] 6 hq)) F11
end
section
set_option maxHeartbeats 1000000
open PySem.Calls
section
variable {w : World} {A : Around} {E : Value → Shared → Prop} {env : Env}
theorem loopZ {R : Result → Shared → Prop} {s : Shared} {elt iter c : Expr} {a b : Str} {pa pb tp : Pos} {kk : Nat} {scope : Scope} {pos : Pos} {I D : Addr} {fp wr : List Addr} {n : Nat} {Pt : Nat → Array Value → Prop} {St : Nat → Heap → Prop} {Mid : Nat → Addr → Heap → Prop} {P : Value → Value → Prop}
    {cenv : Env} {m : Str → Option Value} (W : WalksT pw w A I fp wr n Pt St Mid) (hh : A.handled = none) (hPt : ∀ i vs, Pt i vs → ∃ x y, vs = #[x, y] ∧ P x y)
    (ha : cenv.kindOf a = some .local) (hb : cenv.kindOf b = some .local) (hab : ¬ a = b) (hp : (cenv.scope.kind == .class || (cenv.scope.kind == .module && cenv.locals != cenv.globals)) = false)
    (hDC : D ≠ cenv.locals) (hDf : D ∉ fp) (hCf : cenv.locals ∉ fp)
    (hst : St 0 s.heap) (hacc : s.heap.PlainList D #[]) (hn : s.heap.Ns cenv.locals m)
    (htest : ∀ x y s₂ m₂, P x y → s₂.heap.Ns cenv.locals m₂ → m₂ a = some x → m₂ b = some y → (∀ b o, b ≠ cenv.locals → b ∉ wr → b ≠ D → s.heap.get? b = some o → s₂.heap.get? b = some o) →
      wpAny (model pw w) A (isTrue c cenv (eval c cenv)) (fun ok s₃ => ok = false ∧ Keeps s₂ s₃) (notedBy (model pw w) A cenv fun e s' => R (.error e) s') s₂)
    (hR : ∀ h' tk m', h'.Ns cenv.locals m' → h'.PlainList D #[] → (∀ b o, b ≠ cenv.locals → b ∉ wr → b ≠ D → s.heap.get? b = some o → h'.get? b = some o) → R (.ok .next) { s with heap := h', toks := tk }) :
    codeAny (model pw w) A (.compLoop (.ListComp elt [⟨.Tuple [.Name a pa, .Name b pb] kk tp, iter, [c], 0⟩] scope pos) 0 (.ref I) (.ref D) cenv) R s := by
  revert w A R s elt iter c a b pa pb tp kk scope pos I D fp wr n Pt St Mid P cenv m W hh hPt ha hb hab hp hDC hDf hCf hst hacc hn htest hR
  (refine no_implicit_lambda% (pk6 (i1 := nW) (i2 := nA) (i4 := nS) ?_); generalize p6_1 _ = w; generalize p6_2 _ = A; generalize p6_3 _ = R; generalize p6_4 _ = s; generalize p6_5 _ = elt; generalize p6_6 _ = iter); (refine no_implicit_lambda% (pk6 ?_); generalize p6_1 _ = c; generalize p6_2 _ = a; generalize p6_3 _ = b; generalize p6_4 _ = pa; generalize p6_5 _ = pb; generalize p6_6 _ = tp); (refine no_implicit_lambda% (pk6 ?_); generalize p6_1 _ = kk; generalize p6_2 _ = scope; generalize p6_3 _ = pos; generalize p6_4 _ = I; generalize p6_5 _ = D; generalize p6_6 _ = fp); (refine no_implicit_lambda% (pk6 ?_); generalize p6_1 _ = wr; generalize p6_2 _ = n; generalize p6_3 _ = Pt; generalize p6_4 _ = St; generalize p6_5 _ = Mid; generalize p6_6 _ = P); (refine no_implicit_lambda% (pk2 ?_); generalize p2_1 _ = cenv; generalize p2_2 _ = m)
  intro W hh hPt ha hb hab hp hDC hDf hCf hst hacc hn htest hR
  obtain ⟨Iv, hIv⟩ : ∃ Iv : Nat → Shared → Prop, ∀ k s', Iv k s' ↔ ∃ h' tk m' i, s' = { s with heap := h', toks := tk } ∧ St i h' ∧ h'.PlainList D #[] ∧ h'.Ns cenv.locals m' ∧ i ≤ n ∧ k = n + 1 - i ∧
      (∀ b o, b ≠ cenv.locals → b ∉ wr → b ≠ D → s.heap.get? b = some o → h'.get? b = some o) := ⟨_, fun _ _ => Iff.rfl⟩
  refine kct_loop Iv ?_ (n + 1) ((hIv _ _).mpr ⟨s.heap, s.toks, m, 0, rfl, hst, hacc, hn, Nat.zero_le _, rfl, fun _ _ _ _ _ e => e⟩)
  intro k s' hI
  obtain ⟨H, tk, m', i, rfl, hst', hacc', hn', hi, rfl, hk⟩ := (hIv k s').mp hI
  have hCw : cenv.locals ∉ wr := fun h => hCf (W.sub _ h)
  have hDw : D ∉ wr := fun h => hDf (W.sub _ h)
  by_cases hlt : i < n
  · refine W.item i _ _ _ hlt hst' fun T vals h₁ tk₁ hPv hTs hT hMd hk₁ => ?_
    obtain ⟨x, y, rfl, hxy⟩ := hPt i vals hPv
    refine W.go _ _ _ i T _ _ _ hMd fun h₂ hst₂ hk₂ => ?_
    have hT₂ : h₂.IsTuple T #[x, y] := hT.at fun o e => hk₂ _ o (W.apart i T _ hMd) e
    have up₂ : ∀ b o, b ∉ wr → H.get? b = some o → h₂.get? b = some o := fun b o hb e => hk₂ b o hb (hk₁ b o hb e)
    refine kcp_assign (env := cenv) hh hT₂ ha hb hp (hn'.at' fun o e => up₂ _ o hCw e) fun h₃ tk₃ hn₃ hs₃ => ?_
    have up₃ : ∀ b o, b ≠ cenv.locals → b ∉ wr → H.get? b = some o → h₃.get? b = some o := fun b o hbC hb e => hs₃ b o hbC (up₂ b o hb e)
    refine wpAny_mono (htest x y _ _ hxy hn₃ (by simp [hab]) (by simp) (fun b o hbC hbf hbD e => up₃ b o hbC hbf (hk b o hbC hbf hbD e))) (fun ok s₃ h₃ => ?_) fun _ _ e => e
    obtain ⟨rfl, h₄, tk₄, rfl, hk₄⟩ := h₃
    simp only [Bool.false_eq_true, if_false]
    refine ⟨n + 1 - (i + 1), by lia, (hIv _ _).mpr ⟨h₄, tk₄, _, i + 1, rfl, ?_, ?_, hn₃.keeps hk₄, hlt, rfl, fun b o hbC hbf hbD e => hk₄ b o (up₃ b o hbC hbf (hk b o hbC hbf hbD e))⟩⟩
    · exact W.frame _ _ _ hst₂ fun b hb o e => hk₄ b o (hs₃ b o (fun h => hCf (h ▸ hb)) e)
    · exact hacc'.at fun o e => hk₄ _ o (up₃ D o hDC hDw e)
  · obtain rfl : i = n := by lia
    refine W.done _ _ _ hst' fun h₁ tk₁ hk₁ => ?_
    exact hR h₁ tk₁ m' (hn'.at' fun o e => hk₁ _ o hCw e) (hacc'.at fun o e => hk₁ _ o hDw e) fun b o hbC hbf hbD e => hk₁ b o hbf (hk b o hbC hbf hbD e)
def CompZAt (w : World) (A : Around) (env : Env) (scope : Scope) (cl : List (Str × Addr)) (a b : Str) (c : Expr) (Q : Value → Shared → Prop) (it : Value) (s₂ : Shared) : Prop :=
  ∃ (g : Heap) (I : Addr) (fp wr : List Addr) (n : Nat) (Pt : Nat → Array Value → Prop) (St : Nat → Heap → Prop) (Mid : Nat → Addr → Heap → Prop) (P : Value → Value → Prop), it = .ref I ∧ WalksT pw w A I fp wr n Pt St Mid ∧
    (∀ i vs, Pt i vs → ∃ x y, vs = #[x, y] ∧ P x y) ∧ St 0 s₂.heap ∧ (∀ b ∈ fp, b < s₂.heap.objs.size) ∧ Grow g s₂.heap ∧ g.objs.size ≤ s₂.heap.objs.size ∧ (∀ b ∈ wr, g.get? b = none) ∧
    (∀ C x y s₃ m₃ E', P x y → Fr g C s₃.heap m₃ → m₃ a = some x → m₃ b = some y →
      wpAny (model pw w) A (isTrue c (compEnvC scope cl C env) (eval c (compEnvC scope cl C env))) (fun ok s₄ => ok = false ∧ Keeps s₃ s₄) E' s₃) ∧
    (∀ D n' h' tk, g.get? D = none → h'.get? D = some (W.listOf #[] n') → Grow g h' → Q (.ref D) { s₂ with heap := h', toks := tk })
theorem compZ_rule {s : Shared} {elt iter c : Expr} {a b : Str} {pa pb tp : Pos} {kk : Nat} {scope : Scope} {cl : List (Str × Addr)} {pos : Pos} {Q : Value → Shared → Prop} (hh : A.handled = none)
    (hclos : closureFor scope env = pure cl) (hcell : ∀ y ∈ scope.names, y.2 ≠ .cell) (hkind : scope.kind = .function)
    (hnames : ∀ y ∈ scope.names, y.2 = .local → scope.names.lookup y.1 = some .local) (hxa : scope.names.lookup a = some .local) (hxb : scope.names.lookup b = some .local) (hab : ¬ a = b)
    (h : wpAny (model pw w) A (eval iter env) (fun xv s₁ => wpAny (model pw w) A (pyIter xv) (fun it s₂ => Stop (CompZAt w A env scope cl a b c Q it s₂)) E s₁) E s)
    (hs : ∀ x, foldedSetIterable iter env x = pure x) :
    wpAny (model pw w) A (eval (.ListComp elt [⟨.Tuple [.Name a pa, .Name b pb] kk tp, iter, [c], 0⟩] scope pos) env) Q E s := by
  revert w A E env s elt iter c a b pa pb tp kk scope cl pos Q hh hclos hcell hkind hnames hxa hxb hab h hs
  (refine no_implicit_lambda% (pk6 (i1 := nW) (i2 := nA) (i5 := nS) ?_); generalize p6_1 _ = w; generalize p6_2 _ = A; generalize p6_3 _ = E; generalize p6_4 _ = env; generalize p6_5 _ = s; generalize p6_6 _ = elt); (refine no_implicit_lambda% (pk6 ?_); generalize p6_1 _ = iter; generalize p6_2 _ = c; generalize p6_3 _ = a; generalize p6_4 _ = b; generalize p6_5 _ = pa; generalize p6_6 _ = pb); (refine no_implicit_lambda% (pk6 ?_); generalize p6_1 _ = tp; generalize p6_2 _ = kk; generalize p6_3 _ = scope; generalize p6_4 _ = cl; generalize p6_5 _ = pos; generalize p6_6 _ = Q)
  intro hh hclos hcell hkind hnames hxa hxb hab h hs
  rw [eval_ListComp]
  refine wpAny_comprehension_free (use := none) rfl hs hclos hkind hnames (wpAny_mono h (fun xv s₁ h₁ => wpAny_mono h₁ (fun it s₂ h₂ => ?_) fun _ _ e => e) fun _ _ e => e)
  obtain ⟨g, I, fp, wr, n, Pt, St, Mid, P, rfl, W, hPt, hst, hfp, hg, hgz, hwr, ht, hQ⟩ := h₂
  refine wpAny_newObj_type (wpAny_newFunctionEnv hcell (by intro y hy; simp at hy) (fun h₁ hns₁ hsb₁ => ?_) hkind)
  dsimp only at hns₁ hsb₁ ⊢
  generalize hH2 : s₂.heap.push { cls := .type "list", dict := none, data := .seq ([] : List Value).toArray } = H2 at hns₁ hsb₁ ⊢
  have hC : H2.objs.size = s₂.heap.objs.size + 1 := by rw [← hH2, Heap.size_push]
  have hDC : s₂.heap.objs.size ≠ H2.objs.size := by rw [hC]; exact Nat.ne_of_lt (Nat.lt_succ_self _)
  have below : ∀ b, b < s₂.heap.objs.size → b ≠ H2.objs.size ∧ b ≠ s₂.heap.objs.size := fun b hb => ⟨by rw [hC]; exact Nat.ne_of_lt (Nat.lt_succ_of_lt hb), Nat.ne_of_lt hb⟩
  have hDf : s₂.heap.objs.size ∉ fp := fun hm => Nat.lt_irrefl _ (hfp _ hm)
  have hCf : H2.objs.size ∉ fp := fun hm => by have := hfp _ hm; rw [hC] at this; exact Nat.lt_irrefl _ (Nat.lt_of_succ_lt this)
  have old : ∀ b o, s₂.heap.get? b = some o → h₁.get? b = some o := fun b o e => hsb₁.extBut b o (below b (Heap.lt_size e)).1 (Heap.get?_push_of_some _ (hH2 ▸ Heap.get?_push_of_some _ e))
  have hacc : h₁.PlainList s₂.heap.objs.size #[] := ⟨_, hsb₁.extBut _ _ hDC (Heap.get?_push_of_some _ (hH2 ▸ Heap.get?_push_size _ rfl))⟩
  have hst₁ : St 0 h₁ := W.frame _ _ _ hst fun b _ o e => old b o e
  have up : ∀ (h : Heap) b o, (∀ b o, b ≠ H2.objs.size → b ∉ wr → b ≠ s₂.heap.objs.size → h₁.get? b = some o → h.get? b = some o) → g.get? b = some o → h.get? b = some o := fun h b o hk e => by
    have e2 := hg _ _ e
    refine hk b o (below b (Heap.lt_size e2)).1 (fun hm => ?_) (below b (Heap.lt_size e2)).2 (old b o e2)
    rw [hwr b hm] at e; cases e
  have gD : g.get? s₂.heap.objs.size = none := by
    cases e : g.get? s₂.heap.objs.size with
    | none => rfl
    | some o' => exact absurd (Heap.lt_size (hg _ _ e)) (Nat.lt_irrefl _)
  have loop : ∀ s₃ : Shared, s₃ = { s₂ with heap := h₁, toks := s₂.toks + ([] : List (Str × Value)).length } →
      codeAny (model pw w) A (.compLoop (.ListComp elt [⟨.Tuple [.Name a pa, .Name b pb] kk tp, iter, [c], 0⟩] scope pos) 0 (.ref I) (.ref s₂.heap.objs.size) (compEnvC scope cl H2.objs.size env))
        (compPost (model pw w) A E none Q (.ref s₂.heap.objs.size) H2.objs.size) s₃ := by
    rintro s₃ rfl
    refine loopZ (cenv := compEnvC scope cl H2.objs.size env) W hh hPt (lookup_relabel_local hxa) (lookup_relabel_local hxb) hab (by simp [compEnvC, relabel, hkind]) hDC hDf hCf hst₁ hacc hns₁
      (fun x y s₃ m₃ hxy hn hma hmb hk => ht _ x y s₃ m₃ _ hxy ⟨hn, fun b o e => up _ b o hk e, by rw [hC]; lia⟩ hma hmb) (fun h' tk m' hn ha hk => ?_)
    refine ⟨m', hn, fun h'' hs'' => ?_⟩
    obtain ⟨nn, hl'⟩ := ha
    exact hQ _ nn h'' tk gD (hs''.extBut _ _ hDC hl') fun b o e => hs''.extBut b o (below b (Heap.lt_size (hg _ _ e))).1 (up _ b o hk e)
  exact codeAny_compStart_list (loop _ rfl) (W.self 0 _ _ _ hst₁ (loop _ rfl))
end
end
section
set_option maxHeartbeats 8000000
open PySem.Calls
theorem fill_lw11 : kk = kk ∧ PySem.Challenge.rw_kq0052_01 = PySem.Challenge.rw_kq0052_01 := by
  k_fill
  exact ⟨rfl, rfl⟩
local macro_rules | `(tactic| walk_at "call type:zip") => `(tactic| (with_reducible refine st33 ?_))
local macro_rules | `(tactic| walk_at "subscriptTail") => `(tactic| (with_reducible refine st34 ?_))
local macro_rules | `(tactic| walk_at "subscriptTail Name Name ref int") => `(tactic| (with_reducible refine st29 ?_))
def GoodP (tns : List Int) (v y : Value) (os : Made) : Prop := os = [] ∧ ∃ (i : Nat) (t t' : Tok), v = .int (i : Int) t ∧ y = .int (tns.getD i 0) t'
theorem zs_pl {tns : List Int} {h₀ h : Heap} : ∀ {zs : Zs} {vs : List Value} {pl : List Nat}, ZsOk (GoodP tns) h₀ h zs → zs.map (·.1) = vs → IntsAre vs (pl.map fun (i : Nat) => (i : Int)) → IntsAre (zs.map (·.2.1)) (pl.map fun i => tns.getD i 0) := by
  intro zs
  induction zs with
  | nil => intro vs pl _ hv hi; subst hv; cases pl with
    | nil => exact .nil
    | cons => cases hi
  | cons z zs ih =>
    intro vs pl hz hv hi
    subst hv
    cases pl with
    | nil => exact absurd hi.length (by simp)
    | cons j pl =>
      obtain ⟨⟨_, i, t, t', e1, e2⟩, _⟩ := hz z (.head _)
      simp only [List.map_cons] at hi ⊢
      rw [e1] at hi
      rw [e2]
      generalize hj : (i : Int) = k at hi
      generalize hj0 : (j : Int) = k0 at hi
      cases hi with
      | cons _ _ hi' =>
        obtain rfl : i = j := by lia
        exact .cons _ _ (ih (fun z hz' => hz z (.tail _ hz')) rfl hi')
theorem ints_at {vs : List Value} {ns : List Int} (h : IntsAre vs ns) {i : Nat} {x : Value} (hx : vs[i]? = some x) : ∃ (k : Int) (t : Tok), ns[i]? = some k ∧ x = Value.int k t := by
  induction h generalizing i with
  | nil => simp at hx
  | cons a t _ ih =>
    cases i with
    | zero => simp at hx; subst hx; exact ⟨a, t, rfl, rfl⟩
    | succ i => simpa using ih (by simpa using hx)
theorem ints_mem_nat {vs : List Value} {pl : List Nat} (h : IntsAre vs (pl.map fun (i : Nat) => (i : Int))) {v : Value} (hv : v ∈ vs) : ∃ i t, i ∈ pl ∧ v = .int ((i : Nat) : Int) t := by
  induction vs generalizing pl with
  | nil => cases hv
  | cons x vs ih =>
    cases pl with
    | nil => exact absurd h.length (by simp)
    | cons j pl =>
      rw [List.map_cons] at h
      cases h with
      | cons _ t h' =>
        rcases List.mem_cons.mp hv with rfl | hv
        · exact ⟨j, t, .head _, rfl⟩
        · obtain ⟨i, t, hi, e⟩ := ih h' hv
          exact ⟨i, t, .tail _ hi, e⟩
theorem law11 (w : World) (h₀ : Heap) (mg mb : PySem.Str → Option Value) (mean : ExcName → Option Value) (L fa : Addr) (s : Shared) (Q : Flow → Shared → Prop) (E : Value → Shared → Prop) (m : PySem.Str → Option Value)
   (tns : List Int) (tvs : List Value) (htv : IntsAre tvs tns) (hn : tns.length ≤ 12) (th n3 : Nat) (oT : Obj) (hT : oT.data = .cell (some (.ref th))) (pl : List Nat) (out : Array Value) (cc : Nat) (D10 : Addr) (hI : IntsAre out.toList (pl.map fun (i : Nat) => (i : Int))) (hlt : ∀ i ∈ pl, i < tns.length) (hpl : pl.length ≤ 12)
   (hris : pl.map (fun i => tns.getD i 0) = rising tns) (hpair : ∀ (k i j : Nat), pl[k]? = some i → pl[k + 1]? = some j → ¬ (tns.getD i 0 = tns.getD j 0 ∧ j < i)) (rest : Led)
   (X : (kk w.params).In h₀) (T : Top topProg LO mean mg mb h₀)
   (F : Fr h₀ L s.heap m) (hmp : m (ofS "places") = some (.ref D10)) (N : News h₀ L s.heap ((L + 1, oT) :: (th, W.listOf tvs.toArray n3) :: (D10, W.listOf out cc) :: rest))
   (next : ∀ h' tk, News h₀ L h' ((L + 1, oT) :: (th, W.listOf tvs.toArray n3) :: (D10, W.listOf out cc) :: rest) → Fr h₀ L h' m → Q (.ret (.bool true)) { s with heap := h', toks := tk }) :
   wpAny (model pw w) (lawA L fa) (execs (lawRest 11) (lawEnv L fa)) Q E s := by
  revert w h₀ mg mb mean L fa s Q E m tns tvs htv hn th n3 oT hT pl out cc D10 hI hlt hpl hris hpair rest X T F hmp N next
  (refine no_implicit_lambda% (pk6 (i1 := nW) ?_); generalize p6_1 _ = w; generalize p6_2 _ = h₀; generalize p6_3 _ = mg; generalize p6_4 _ = mb; generalize p6_5 _ = mean; generalize p6_6 _ = L); (refine no_implicit_lambda% (pk6 (i2 := nS) ?_); generalize p6_1 _ = fa; generalize p6_2 _ = s; generalize p6_3 _ = Q; generalize p6_4 _ = E; generalize p6_5 _ = m; generalize p6_6 _ = tns); (refine no_implicit_lambda% (pk1 ?_); generalize p1_1 _ = tvs)
  intro htv hn
  (refine no_implicit_lambda% (pk3 ?_); generalize p3_1 _ = th; generalize p3_2 _ = n3; generalize p3_3 _ = oT)
  intro hT
  (refine no_implicit_lambda% (pk4 ?_); generalize p4_1 _ = pl; generalize p4_2 _ = out; generalize p4_3 _ = cc; generalize p4_4 _ = D10)
  intro hI hlt hpl hris hpair
  (refine no_implicit_lambda% (pk1 ?_); generalize p1_1 _ = rest)
  intro X T F hmp N next
  have hcT : s.heap.IsCell (L + 1) (some (.ref th)) := ⟨oT, (N _ (.head _)).1, hT⟩
  have hth : s.heap.IsList th tvs.toArray := ⟨_, (N _ (.tail _ (.head _))).1, rfl, n3, rfl⟩
  have hD10 : s.heap.IsList D10 out.toList.toArray := ⟨_, (N _ (.tail _ (.tail _ (.head _)))).1, rfl, cc, rfl⟩
  have hol : out.toList.length = pl.length := by rw [hI.length, List.length_map]
  have Fa := fr_known F hmp
  k_steps
  refine comp_rule (fun _ => true) (GoodP tns) (cl := [(ofS "there", L + 1)]) (by kernel_rfl) (by decide +kernel) rfl (by decide +kernel) (by decide +kernel) ?_ (fun _ => by kernel_rfl)
  k_steps
  show wpAny _ _ (pyIter _) _ _ _
  refine comp_list rfl (items := out.toList) (ax := D10) hD10 (by rw [sizeLine_eq]; lia) ?ht ?he ?hq
  case ht =>
    intro C v s₃ m₃ E' hv Fc hm
    clear next F N Fa
    k_steps
    all_goals exact ⟨rfl, _, _, rfl, fun _ _ e => e⟩
  case he =>
    intro C v s₃ m₃ E' hv hpv Fc hm
    obtain ⟨k, hk, e⟩ := List.mem_iff_getElem.mp hv
    obtain ⟨i, ti, hip, rfl⟩ := ints_mem_nat hI hv
    have hil := hlt i hip
    obtain ⟨tc, hvc⟩ := ints_nth htv (show tns[i]? = some (tns.getD i 0) from by rw [List.getD_eq_getElem?_getD, List.getElem?_eq_getElem hil]; rfl)
    replace Fc : Fr s.heap C s₃.heap m₃ := Fc
    have hcT7 := hcT.keeps Fc.keep
    obtain ⟨ol, ol1, ol2⟩ := hth
    have hth7 : s₃.heap.IsList th tvs.toArray := ⟨ol, Fc.keep _ _ ol1, ol2⟩
    replace X : (kk w.params).In s.heap := X.keeps F.keep
    replace T : Top topProg LO mean mg mb s.heap := T.keeps F.keep
    clear next F N Fa hcT
    k_steps
    refine item_wr (i := i) hth7 (by lia) hvc ?_
    exact ⟨⟨[], ⟨rfl, i, ti, tc, rfl, rfl⟩, (fun _ h => nomatch h), fun _ h => nomatch h⟩, _, _, rfl, fun _ _ e => e⟩
  case hq =>
    intro D2 n2 h2 tk2 zs hD2 hl2 hz hok hoff hg
    replace hg : Grow s.heap h2 := hg
    have hJ := zs_pl hok (hz.trans (List.filter_eq_self.mpr fun _ _ => rfl)) hI
    rw [hris] at hJ
    generalize (zs.map (·.2.1)) = rvs at hl2 hJ
    have F2 := Fa.after hg
    have N2 := news_new F N hg hD2 hl2
    have hcT2 := hcT.keeps hg
    clear F N Fa hz hok hoff
    k_steps
    refine (rising_spec w th tvs tns htv (by lia)) mean mg mb _ _ _ _ _ _ _ (X.keeps F2.keep) (T.keeps F2.keep) (Nat.le_of_ble_eq_true (by kernel_rfl!)) (Nat.le_of_ble_eq_true (by kernel_rfl!)) ⟨_, (N2 _ (.tail _ (.tail _ (.head _)))).1, rfl, n3, rfl⟩ ?_
    rintro v h3 tk3 G3 ⟨b3, us, n5, rfl, hb0, hb1, hK⟩
    have F3 := F2.after G3
    have N3 := news_new F2 N2 G3 hb0 hb1
    have hcT3 := hcT2.keeps G3
    clear F2 N2 hcT2
    k_steps
    refine compZ_rule rfl (cl := [(ofS "there", L + 1)]) (by kernel_rfl) (by decide +kernel) rfl (by decide +kernel) (by decide +kernel) (by decide +kernel) (by decide +kernel) ?_ (fun _ => by kernel_rfl)
    k_steps
    rename Fr _ _ _ _ => F4
    rename News _ _ _ _ => N4
    rename IntsAre _ (List.drop 1 _) => hI4
    rename_i D4 ws4 h4 _ _ _
    have hcT4 : h4.IsCell (L + 1) (some (.ref th)) := ⟨oT, (N4 _ (.tail _ (.tail _ (.tail _ (.head _))))).1, hT⟩
    have hth4 : h4.IsList th tvs.toArray := ⟨_, (N4 _ (.tail _ (.tail _ (.tail _ (.tail _ (.head _)))))).1, rfl, n3, rfl⟩
    have hxs : h4.IsList D10 out := ⟨_, (N4 _ (.tail _ (.tail _ (.tail _ (.tail _ (.tail _ (.head _))))))).1, rfl, cc, rfl⟩
    have hys : h4.IsList D4 ws4.toArray := ⟨_, (N4 _ (.head _)).1, rfl, 0, rfl⟩
    have hlx : D10 < h4.objs.size := Heap.lt_size (N4 _ (.tail _ (.tail _ (.tail _ (.tail _ (.tail _ (.head _))))))).1
    have hly : D4 < h4.objs.size := Heap.lt_size (N4 _ (.head _)).1
    have X4 : (kk w.params).In h4 := X.keeps F4.keep
    have T4 : Top topProg LO mean mg mb h4 := T.keeps F4.keep
    show wpAny _ _ (call (.type "zip") [.ref D10, .ref D4]) _ _ _
    refine call_zip_2 hxs hys fun h5 hz hTI hTO hi1 hi2 hsz5 hk5 => ?_
    refine wpAny_pyIter_zip hz ?_
    have up : ∀ {d : Addr} {vs : Array Value}, h4.IsList d vs → h5.IsList d vs := fun ⟨o, ho, r⟩ => ⟨o, hk5 _ _ ho, r⟩
    refine ⟨h4, _, _, _, _, _, _, _, fun x y => ∃ (k i j : Nat) (t u : Tok), pl[k]? = some i ∧ pl[k + 1]? = some j ∧ x = .int (i : Int) t ∧ y = .int (j : Int) u, rfl, WalksT.zip2 rfl _ _ _ _ _ D10 D4 (ktu_apart _ _ _ hlx hly) out ws4.toArray, ?hPt, ⟨hz, hTI, ⟨_, _, hTO⟩, hi1, hi2, up hxs, up hys⟩, ?hfp, hk5, ?hsz, ?hwr, ?ht, ?hq⟩
    case hPt =>
      rintro k vs ⟨x, y, hx, hy, rfl⟩
      refine ⟨x, y, rfl, ?_⟩
      obtain ⟨a, t, ha, rfl⟩ := ints_at hI (by rw [Array.getElem?_toList]; exact hx)
      obtain ⟨b, u, hb, rfl⟩ := ints_at hI4 (by rw [← Array.getElem?_toList] at hy; exact hy)
      rw [List.getElem?_map] at ha
      rw [List.getElem?_drop, List.getElem?_map, Nat.add_comm] at hb
      cases hp1 : pl[k]? with
      | none => rw [hp1] at ha; cases ha
      | some i =>
        cases hp2 : pl[k + 1]? with
        | none => rw [hp2] at hb; cases hb
        | some j =>
          rw [hp1] at ha
          rw [hp2] at hb
          obtain rfl : (i : Int) = a := by simpa using ha
          obtain rfl : (j : Int) = b := by simpa using hb
          exact ⟨k, i, j, t, u, hp1, hp2, rfl, rfl⟩
    case hfp =>
      intro b hb
      show b < h5.objs.size
      rw [hsz5]
      simp only [List.mem_cons, List.not_mem_nil, or_false] at hb
      rcases hb with rfl | rfl | rfl | rfl | rfl | rfl | rfl
      · exact Nat.add_lt_add_left (by decide) _
      · exact Nat.add_lt_add_left (by decide) _
      · exact Nat.add_lt_add_left (by decide) _
      · exact Nat.lt_add_of_pos_right (by decide)
      · exact Nat.add_lt_add_left (by decide) _
      · exact Nat.lt_of_lt_of_le hlx (Nat.le_add_right _ _)
      · exact Nat.lt_of_lt_of_le hly (Nat.le_add_right _ _)
    case hsz => show _ ≤ h5.objs.size; rw [hsz5]; exact Nat.le_add_right _ _
    case hwr =>
      intro b hb
      simp only [List.mem_cons, List.not_mem_nil, or_false] at hb
      have fz : ∀ a, h4.objs.size ≤ a → h4.get? a = none := fun a ha => by
        cases e : h4.get? a with
        | none => rfl
        | some o' => exact absurd (Heap.lt_size e) (Nat.not_lt.mpr ha)
      rcases hb with rfl | rfl | rfl | rfl
      · exact fz _ (Nat.le_add_right _ _)
      · exact fz _ (Nat.le_add_right _ _)
      · exact fz _ (Nat.le_refl _)
      · exact fz _ (Nat.le_add_right _ _)
    case ht =>
      rintro C x y s₃ m₃ E' ⟨k, i, j, t, u, hki, hkj, rfl, rfl⟩ Fc hma hmb
      have hil := hlt i (List.mem_of_getElem? hki)
      have hjl := hlt j (List.mem_of_getElem? hkj)
      have hpr := hpair k i j hki hkj
      obtain ⟨ti, hvi⟩ := ints_nth htv (show tns[i]? = some (tns.getD i 0) from by rw [List.getD_eq_getElem?_getD, List.getElem?_eq_getElem hil]; rfl)
      obtain ⟨tj, hvj⟩ := ints_nth htv (show tns[j]? = some (tns.getD j 0) from by rw [List.getD_eq_getElem?_getD, List.getElem?_eq_getElem hjl]; rfl)
      generalize tns.getD i 0 = ai at hvi hpr
      generalize tns.getD j 0 = aj at hvj hpr
      replace Fc : Fr h4 C s₃.heap m₃ := Fc
      have hcT7 := hcT4.keeps Fc.keep
      obtain ⟨ol, ol1, ol2⟩ := hth4
      have hth7 : s₃.heap.IsList th tvs.toArray := ⟨ol, Fc.keep _ _ ol1, ol2⟩
      have fin : ∀ (ok : Bool) tk, ok = false → ok = false ∧ Keeps s₃ { s₃ with toks := tk } := fun ok tk e => ⟨e, _, _, rfl, fun _ _ e => e⟩
      clear next F4 N4 hcT4 X T hk5 up hz hTI hTO hi1 hi2 hxs hys hth
      k_steps
      refine item_wr (i := i) hth7 (by lia) hvi ?_
      k_steps
      refine item_wr (i := j) hth7 (by lia) hvj ?_
      k_steps
      all_goals first
        | exact ⟨_, _, rfl, fun _ _ e => e⟩
        | rfl
        | (rw [decide_eq_false_iff_not]; lia)
    case hq =>
      intro D6 n6 h6 tk6 hD6 hl6 hg6
      have F6 := F4.after hg6
      have N6 := news_new F4 N4 hg6 hD6 hl6
      clear F4 N4 hk5 up hz hTI hTO hi1 hi2 hxs hys hcT4
      k_steps
      rename Fr _ _ _ _ => F7
      rename News _ _ _ _ => N7
      exact next _ _ (fun p hp => N7 p (.tail _ (.tail _ (.tail _ (.tail _ (.tail _ hp)))))) (fr_back F7 hmp)
end
section
set_option maxHeartbeats 4000000
open PySem.Calls
structure Plain (nums : List Int) (cs : List Nat) (B : Array UInt8) (fl : List Nat) (dd : List (Int × Nat)) (n : Nat) : Prop where
  len : nums.length ≤ 12
  rng : ∀ x ∈ nums, 0 ≤ x ∧ x < 1114112
  hcs : cs = codesOf nums
  clen : cs.length ≤ 12
  clen2 : 2 ≤ cs.length
  sur : ∀ c ∈ cs, PySem.Str.isSurrogate c = false
  bts : B = utf8B cs
  oct : Oct B (dueOf nums)
  fig : Fig B fl dd n
  dlen : (dueOf nums).length = n
  nth : ∀ i, i < n → ∃ c : Nat, c < 256 ∧ dd[i]? = some (2 * (i : Int) + 2, c) ∧ (dueOf nums)[i]? = some (c : Int)
  ord : ∀ i j, cmpC cs i j < 0 ↔ keyC cs i < keyC cs j
  tlen : (nums.filter fitB).length = cs.length
  srt : ∀ p : Array Nat, Stt cs.length p cs.length → Asc (keyC cs) p cs.length → p.toList.map (fun i => (nums.filter fitB).getD i 0) = rising (nums.filter fitB) ∧
    ∀ (k i j : Nat), p.toList[k]? = some i → p.toList[k + 1]? = some j → ¬ ((nums.filter fitB).getD i 0 = (nums.filter fitB).getD j 0 ∧ j < i)
theorem nd_perm {l l' : Led} (D : Nd l) (h : (l.map (·.1)).Nodup → (l'.map (·.1)).Nodup) : Nd l' := h D
theorem pick_mem {l : Led} {idx : List Nat} : ∀ q ∈ idx.filterMap (fun i => l[i]?), q ∈ l := fun q hq => by
  obtain ⟨i, _, e⟩ := List.mem_filterMap.mp hq
  exact List.mem_of_getElem? e
theorem news_pick {h₀ h : Heap} {L : Addr} {l : Led} (N : News h₀ L h l) (idx : List Nat) : News h₀ L h (idx.filterMap fun i => l[i]?) := fun q hq => N q (pick_mem q hq)
theorem nd_pick {l : Led} (D : Nd l) (idx : List Nat) (hi : idx.Nodup) : Nd (idx.filterMap fun i => l[i]?) := by
  unfold Nd at *
  induction idx with
  | nil => exact List.nodup_nil
  | cons i r ih =>
    have hr := List.nodup_cons.mp hi
    rw [List.filterMap_cons]
    cases e : l[i]? with
    | none => exact ih hr.2
    | some q =>
      refine List.nodup_cons.mpr ⟨fun hm => ?_, ih hr.2⟩
      obtain ⟨q', hq', e'⟩ := List.mem_map.mp hm
      obtain ⟨j, hj, ej⟩ := List.mem_filterMap.mp hq'
      have hij : i ≠ j := fun h => hr.1 (h ▸ hj)
      have a1 : (l.map (·.1))[i]? = some q.1 := by rw [List.getElem?_map, e]; rfl
      have a2 : (l.map (·.1))[j]? = some q.1 := by rw [List.getElem?_map, ej]; exact congrArg some e'
      have hi' := (List.getElem?_eq_some_iff.mp a1)
      have hj' := (List.getElem?_eq_some_iff.mp a2)
      obtain ⟨hi1, hi2⟩ := hi'
      obtain ⟨hj1, hj2⟩ := hj'
      have hp := List.pairwise_iff_getElem.mp D
      rcases Nat.lt_or_gt_of_ne hij with h | h
      · exact hp i j hi1 hj1 h (hi2.trans hj2.symm)
      · exact hp j i hj1 hi1 h (hj2.trans hi2.symm)
theorem law_all (w : World) (h₀ : Heap) (mg mb : PySem.Str → Option Value) (mean : ExcName → Option Value) (L fa a : Addr) (s : Shared) (Q : Flow → Shared → Prop) (E : Value → Shared → Prop) (vs : List Value) (ns : List Int) (hi : IntsAre vs ns) (hn : ns.length ≤ 63) (hl : h₀.IsList a vs.toArray)
   (cs : List Nat) (B : Array UInt8) (fl : List Nat) (dd : List (Int × Nat)) (n : Nat) (P : Plain (numsOf ns) cs B fl dd n)
   (X : (kk w.params).In h₀) (T : Top topProg LO mean mg mb h₀) (C47 : CodeHd h₀ 51 47) (C158 : CodeHd h₀ 162 158) (C208 : CodeHd h₀ 210 208) (K : Below callerA h₀ [] h₀)
   (hE : PassesOwn (model pw w) (lawA L fa) (lawEnv L fa) E)
   (oW oF oD oT : Obj) (hW : oW.data = .cell none) (hF : oF.data = .cell none) (hD : oD.data = .cell none) (hT : oT.data = .cell none)
   (F : Fr h₀ L s.heap (bindL (lawEnv L fa).kindOf [(ofS "script", .ref a)] fun _ => none)) (N : News h₀ L s.heap [(L + 1 + 1 + 1 + 1, oW), (L + 1 + 1 + 1, oF), (L + 1 + 1, oD), (L + 1, oT), (47, tabObj #[]), (158, tabObj #[]), (208, tabObj #[])])
   (D : Nd [(L + 1 + 1 + 1 + 1, oW), (L + 1 + 1 + 1, oF), (L + 1 + 1, oD), (L + 1, oT), (47, tabObj #[]), (158, tabObj #[]), (208, tabObj #[])])
   (next : ∀ h' tk m' ps more1 more2, News h₀ L h' [(47, tabObj ps), (158, tabObj more1), (208, tabObj more2)] → Fr h₀ L h' m' → Q (.ret (.bool true)) { s with heap := h', toks := tk }) :
   wpAny (model pw w) (lawA L fa) (execs (fnB (st 39)) (lawEnv L fa)) Q E s := by
  refine law1 w h₀ mg mb mean L fa a s Q E vs ns hi hn hl X T C47 C158 C208 K oW oF oD oT hW hF hD hT F N D fun h1 tk1 m1 dn sg ws n1 n2 hI1 hm1 hs1 N1 D1 F1 => ?_
  generalize hnums : numsOf ns = nums at P hI1
  have p1 : ((sg, W.listOf #[] n1) :: (dn, W.listOf ws.toArray n2) :: [(L + 1 + 1 + 1 + 1, oW), (L + 1 + 1 + 1, oF), (L + 1 + 1, oD), (L + 1, oT), (47, tabObj #[]), (158, tabObj #[]), (208, tabObj #[])] : Led).Perm
     ((47, tabObj #[]) :: (sg, W.listOf #[] n1) :: (dn, W.listOf ws.toArray n2) :: [(L + 1 + 1 + 1 + 1, oW), (L + 1 + 1 + 1, oF), (L + 1 + 1, oD), (L + 1, oT), (158, tabObj #[]), (208, tabObj #[])]) := by
    refine (List.Perm.cons _ (List.Perm.cons _ (List.Perm.cons _ (List.Perm.cons _ (List.Perm.cons _ (List.Perm.cons _ (List.Perm.refl _))))))).trans (List.perm_middle (l₁ := [(sg, W.listOf #[] n1), (dn, W.listOf ws.toArray n2), (L + 1 + 1 + 1 + 1, oW), (L + 1 + 1 + 1, oF), (L + 1 + 1, oD), (L + 1, oT)]) (a := (47, tabObj #[])) (l₂ := [(158, tabObj #[]), (208, tabObj #[])]))
  have D1' := D1.perm p1
  refine law2 w h₀ mg mb mean L fa _ Q E m1 ws nums hI1 P.len P.rng dn sg n1 n2 _ X T C47 C158 C208 K hE F1 hm1 hs1 (News.perm N1 p1) D1'.tail D1'.head fun h2 tk2 m2 sg2 svs n3 ps extra hm2 hs2 hTab hS N2 D2 hSep F2 => ?_
  rw [← P.hcs] at hS
  have hN2 : ∀ q ∈ ((47, tabObj ps) :: (sg2, W.listOf svs.toArray n3) :: (dn, W.listOf ws.toArray n2) :: [(L + 1 + 1 + 1 + 1, oW), (L + 1 + 1 + 1, oF), (L + 1 + 1, oD), (L + 1, oT), (158, tabObj #[]), (208, tabObj #[])] : Led), q ∈ ((47, tabObj ps) :: (extra ++ (sg2, W.listOf svs.toArray n3) :: (dn, W.listOf ws.toArray n2) :: [(L + 1 + 1 + 1 + 1, oW), (L + 1 + 1 + 1, oF), (L + 1 + 1, oD), (L + 1, oT), (158, tabObj #[]), (208, tabObj #[])]) : Led) := by
    intro q hq
    rcases List.mem_cons.mp hq with rfl | hq
    · exact .head _
    · exact .tail _ (List.mem_append_right _ hq)
  have D2' : Nd ((47, tabObj ps) :: (sg2, W.listOf svs.toArray n3) :: (dn, W.listOf ws.toArray n2) :: [(L + 1 + 1 + 1 + 1, oW), (L + 1 + 1 + 1, oF), (L + 1 + 1, oD), (L + 1, oT), (158, tabObj #[]), (208, tabObj #[])]) := by
    refine List.nodup_cons.mpr ⟨fun hm => ?_, D2⟩
    obtain ⟨q, hq, e⟩ := List.mem_map.mp hm
    exact hSep.1 q hq e
  have N2' : News h₀ L h2 _ := fun q hq => N2 q (hN2 q hq)
  clear N2 hN2 D2 D1 D1' N1 p1 D N hSep
  have hcl : nums.length ≤ 12 := P.len
  refine law3 w h₀ mg mb mean L fa _ Q E m2 ws nums hI1 P.len P.rng dn sg2 n2 oT oD [(sg2, W.listOf svs.toArray n3), (L + 1 + 1 + 1 + 1, oW), (L + 1 + 1 + 1, oF), (158, tabObj #[]), (208, tabObj #[]), (47, tabObj ps)] hT hD X T F2 hm2 hs2 (news_pick N2' [6, 2, 5, 1, 3, 4, 7, 8, 0]) (nd_pick D2' [6, 2, 5, 1, 3, 4, 7, 8, 0] (by decide)) fun h3 tk3 m3 oT3 oD3 th tvs n4 du dvs n5 hs3 htv hdv hT3 hD3 N3 D3 F3 => ?_
  clear N2' D2'
  refine law4 w h₀ mg mb mean L fa _ Q E m3 cs svs hS P.clen P.sur sg2 n3 #[] [(L + 1, oT3), (L + 1 + 1, oD3), (th, W.listOf tvs.toArray n4), (du, W.listOf dvs.toArray n5), (L + 1 + 1 + 1 + 1, oW), (L + 1 + 1 + 1, oF), (158, tabObj #[]), (47, tabObj ps)] X T C208 K rfl F3 hs3 (news_pick N3 [8, 4, 0, 1, 2, 3, 5, 6, 7, 9]) (nd_pick D3 [8, 4, 0, 1, 2, 3, 5, 6, 7, 9] (by decide)) fun h4 tk4 m4 u c1 hs4 ho4 N4 F4 => ?_
  have D4 : Nd [(208, tabObj (#[] ++ #[rawInt 278, rawInt 20, .ref c1])), (sg2, W.listOf svs.toArray n3), (L + 1, oT3), (L + 1 + 1, oD3), (th, W.listOf tvs.toArray n4), (du, W.listOf dvs.toArray n5), (L + 1 + 1 + 1 + 1, oW), (L + 1 + 1 + 1, oF), (158, tabObj #[]), (47, tabObj ps)] := (nd_pick D3 [8, 4, 0, 1, 2, 3, 5, 6, 7, 9] (by decide))
  clear N3 D3
  rw [← P.bts] at ho4
  refine law5 w h₀ mg mb mean L fa _ Q E m4 B u (dueOf nums) dvs hdv P.oct du n5 oD3 [(208, tabObj (#[] ++ #[rawInt 278, rawInt 20, .ref c1])), (sg2, W.listOf svs.toArray n3), (L + 1, oT3), (th, W.listOf tvs.toArray n4), (L + 1 + 1 + 1 + 1, oW), (L + 1 + 1 + 1, oF), (158, tabObj #[]), (47, tabObj ps)] hD3 X T F4 ho4 (news_pick N4 [3, 5, 0, 1, 2, 4, 6, 7, 8, 9]) fun h5 tk5 N5 F5 => ?_
  clear N4
  have hdl : dvs.length = n := by rw [hdv.length, P.dlen]
  refine law6 w h₀ mg mb mean L fa _ Q E m4 B u fl dd n P.fig dvs hdl du n5 oD3 oF _ c1 [(sg2, W.listOf svs.toArray n3), (L + 1, oT3), (th, W.listOf tvs.toArray n4), (L + 1 + 1 + 1 + 1, oW), (158, tabObj #[]), (47, tabObj ps)] hD3 hF X T C208 K rfl F5 ho4 (news_pick N5 [7, 2, 0, 1, 3, 4, 5, 6, 8, 9]) (nd_pick D4 [7, 0, 3, 5, 1, 2, 4, 6, 8, 9] (by decide)) sg2 hs4 fun h6 tk6 m6 oF6 tF l8 items n8 tups c2 hT6 hF6 hr6 hs6 N6 D6 F6 => ?_
  clear N5 D4
  refine law8 w h₀ mg mb mean L fa _ Q E m6 (dueOf nums) dd n P.fig.hn P.fig.hds P.nth dvs hdv hdl du n5 oD3 hD3 l8 items n8 tups [(sg2, W.listOf svs.toArray n3), (L + 1, oT3), (th, W.listOf tvs.toArray n4), (L + 1 + 1 + 1 + 1, oW), (158, tabObj #[]), (47, tabObj ps), (208, tabObj (#[] ++ #[rawInt 278, rawInt 20, .ref c1] ++ #[rawInt 282, rawInt 18, .ref c2]))] hT6 X T F6 hr6 (fun q hq => N6 q (by simp only [List.mem_cons, List.mem_append, List.not_mem_nil, or_false] at hq ⊢; grind)) fun h8 tk8 N8 F8 => ?_
  clear N6
  refine law9 w h₀ mg mb mean L fa _ Q E m6 cs svs hS P.clen P.sur sg2 n3 oW [(L + 1, oT3), (th, W.listOf tvs.toArray n4), (158, tabObj #[]), (47, tabObj ps), (208, tabObj (#[] ++ #[rawInt 278, rawInt 20, .ref c1] ++ #[rawInt 282, rawInt 18, .ref c2]))] hW X T F8 hs6 (fun q hq => N8 q (by simp only [List.mem_cons, List.mem_append, List.not_mem_nil, or_false] at hq ⊢; grind)) (nd_pick D6 [7, 4, 5, 6, 8, 9, 0] (by decide)) fun h9 tk9 oW9 wr wvs n9 hW9 hwl hwv N9 D9 F9 => ?_
  clear N8 D6
  have hsl : svs.length = cs.length := by rw [strs_len hS, List.length_map]
  refine law10 w h₀ mg mb mean L fa _ Q E m6 cs P.clen P.clen2 P.ord svs hsl sg2 n3 oW9 wr hW9 wvs n9 hwl hwv _ #[] c1 c2 [(L + 1, oT3), (th, W.listOf tvs.toArray n4), (47, tabObj ps)] rfl rfl X T C208 K F9 hs6 (news_pick N9 [7, 5, 0, 1, 2, 3, 4, 6]) (nd_pick D9 [7, 5, 0, 1, 2, 3, 4, 6] (by decide)) fun h10 tk10 m10 D10 p out cc c3 more hst hasc hI10 hp10 N10 F10 => ?_
  clear N9 D9
  obtain ⟨hris, hpair⟩ := P.srt p hst hasc
  have hpl : p.toList.length = cs.length := by rw [Array.length_toList]; exact hst.size
  refine law11 w h₀ mg mb mean L fa _ Q E m10 (nums.filter fitB) tvs htv (by rw [P.tlen]; exact P.clen) th n4 oT3 hT3 p.toList out cc D10 hI10 (fun i hi => by rw [P.tlen]; exact List.mem_range.mp (hst.perm.mem_iff.mp hi)) (by rw [hpl]; exact P.clen) hris hpair [(158, tabObj more), (208, tabObj (#[] ++ #[rawInt 278, rawInt 20, .ref c1] ++ #[rawInt 282, rawInt 18, .ref c2] ++ #[rawInt 286, rawInt 54, .ref c3])), (47, tabObj ps)] X T F10 hp10 (news_pick N10 [3, 4, 2, 0, 1, 5]) fun h11 tk11 N11 F11 => ?_
  exact next _ _ m10 ps more (#[] ++ #[rawInt 278, rawInt 20, .ref c1] ++ #[rawInt 282, rawInt 18, .ref c2] ++ #[rawInt 286, rawInt 54, .ref c3]) (news_pick N11 [5, 3, 4]) F11
end
section
set_option maxHeartbeats 4000000
open PySem.Calls
theorem bytesOut_list (f : Nat → List UInt8) (l : List Nat) : ∀ acc : Array UInt8, (l.foldl (fun acc y => acc ++ (f y).toArray) acc).toList = acc.toList ++ l.flatMap f := by
  induction l with
  | nil => intro acc; simp
  | cons y l ih => intro acc; rw [List.foldl_cons, ih, List.flatMap_cons]; simp
theorem utf8B_list (cs : List Nat) : (utf8B cs).toList = cs.flatMap PySem.Str.utf8Of := by
  unfold utf8B bytesOut
  rw [bytesOut_list]; rfl
noncomputable def octN (c : Nat) : List Nat :=
  if c < 128 then [c] else if c < 2048 then [192 + c / 64, 128 + c % 64] else if c < 65536 then [224 + c / 4096, 128 + c / 64 % 64, 128 + c % 64] else [240 + c / 262144, 128 + c / 4096 % 64, 128 + c / 64 % 64, 128 + c % 64]
theorem u8_nat {n : Nat} (h : n < 256) : (n.toUInt8).toNat = n := (UInt8.toNat_ofNat').trans (Nat.mod_eq_of_lt h)
theorem ol {b d : Nat} (m : Nat) (h : d < m) (e : b + m ≤ 256 := by decide) : b + d < 256 := Nat.lt_of_lt_of_le (Nat.add_lt_add_left h b) e
theorem utf8_octN (c : Nat) (h : c < 1114112) : (PySem.Str.utf8Of c).map UInt8.toNat = octN c := by
  unfold PySem.Str.utf8Of octN
  have m : ∀ x : Nat, 128 + x % 64 < 256 := fun x => ol 64 (Nat.mod_lt x (by decide))
  by_cases h1 : c < 128
  · rw [if_pos h1, if_pos h1]; simp only [List.map_cons, List.map_nil]; rw [u8_nat (Nat.lt_trans h1 (by decide))]
  rw [if_neg h1, if_neg h1]
  by_cases h2 : c < 2048
  · rw [if_pos h2, if_pos h2]; simp only [List.map_cons, List.map_nil]; rw [u8_nat (ol 32 (Nat.div_lt_of_lt_mul h2)), u8_nat (m _)]
  rw [if_neg h2, if_neg h2]
  by_cases h3 : c < 65536
  · rw [if_pos h3, if_pos h3]; simp only [List.map_cons, List.map_nil]; rw [u8_nat (ol 16 (Nat.div_lt_of_lt_mul h3)), u8_nat (m _), u8_nat (m _)]
  rw [if_neg h3, if_neg h3]; simp only [List.map_cons, List.map_nil]; rw [u8_nat (ol 5 (Nat.div_lt_of_lt_mul (Nat.lt_trans h (by decide)))), u8_nat (m _), u8_nat (m _), u8_nat (m _)]
theorem octN_octs (c : Nat) : (octN c).map (fun (b : Nat) => (b : Int)) = octs (c : Int) := by
  have e1 : ∀ k : Nat, 0 < k → (c : Int).fdiv k = ((c / k : Nat) : Int) := fun k hk => by rw [Int.fdiv_eq_ediv_of_nonneg _ (Int.natCast_nonneg k)]; rfl
  have e2 : ∀ m k : Nat, 0 < k → (m : Int).fmod k = ((m % k : Nat) : Int) := fun m k hk => by rw [Int.fmod_eq_emod_of_nonneg _ (Int.natCast_nonneg k)]; rfl
  have d1 : (c : Int).fdiv 64 = ((c / 64 : Nat) : Int) := e1 64 (by decide)
  have d2 : (c : Int).fdiv 4096 = ((c / 4096 : Nat) : Int) := e1 4096 (by decide)
  have d3 : (c : Int).fdiv 262144 = ((c / 262144 : Nat) : Int) := e1 262144 (by decide)
  have m0 : (c : Int).fmod 64 = ((c % 64 : Nat) : Int) := e2 c 64 (by decide)
  have m1 : ((c / 64 : Nat) : Int).fmod 64 = ((c / 64 % 64 : Nat) : Int) := e2 (c / 64) 64 (by decide)
  have m2 : ((c / 4096 : Nat) : Int).fmod 64 = ((c / 4096 % 64 : Nat) : Int) := e2 (c / 4096) 64 (by decide)
  unfold octN octs
  by_cases h1 : c < 128
  · rw [if_pos h1, if_pos (show (c : Int) < 128 from (Int.ofNat_lt (m := 128)).mpr ‹_›)]; rfl
  rw [if_neg h1, if_neg (show ¬ (c : Int) < 128 from fun e => absurd ((Int.ofNat_lt (m := 128)).mp e) ‹_›)]
  by_cases h2 : c < 2048
  · rw [if_pos h2, if_pos (show (c : Int) < 2048 from (Int.ofNat_lt (m := 2048)).mpr ‹_›), d1, m0]; simp only [List.map_cons, List.map_nil]; rfl
  rw [if_neg h2, if_neg (show ¬ (c : Int) < 2048 from fun e => absurd ((Int.ofNat_lt (m := 2048)).mp e) ‹_›)]
  by_cases h3 : c < 65536
  · rw [if_pos h3, if_pos (show (c : Int) < 65536 from (Int.ofNat_lt (m := 65536)).mpr ‹_›), d2, d1, m1, m0]; simp only [List.map_cons, List.map_nil]; rfl
  rw [if_neg h3, if_neg (show ¬ (c : Int) < 65536 from fun e => absurd ((Int.ofNat_lt (m := 65536)).mp e) ‹_›), d3, d2, m2, d1, m1, m0]; simp only [List.map_cons, List.map_nil]; rfl
theorem octN_byte (c : Nat) (h : c < 1114112) : ∀ b ∈ octN c, b < 256 := by
  intro b hb
  rw [← utf8_octN c h] at hb
  obtain ⟨x, _, rfl⟩ := List.mem_map.mp hb
  exact x.toNat_lt
theorem bts_due (nums : List Int) (hr : ∀ x ∈ nums, 0 ≤ x ∧ x < 1114112) : KBw.bInts (utf8B (codesOf nums)) = dueOf nums := by
  unfold KBw.bInts
  rw [utf8B_list]
  unfold codesOf dueOf
  have hf : ∀ x ∈ nums.filter fitB, 0 ≤ x ∧ x < 1114112 := fun x hx => hr x (List.mem_filter.mp hx).1
  generalize nums.filter fitB = l at hf
  induction l with
  | nil => rfl
  | cons x l ih =>
    rw [List.map_cons, List.flatMap_cons, List.map_append, ih fun y hy => hf y (.tail _ hy), List.flatMap_cons]
    obtain ⟨h0, h1⟩ := hf x (.head _)
    congr 1
    have e := octN_octs x.toNat
    rw [← utf8_octN x.toNat ((Int.toNat_lt h0).mpr h1), Int.toNat_of_nonneg h0, List.map_map] at e
    exact e
end
section
set_option maxHeartbeats 4000000
open PySem.Calls
theorem bI_arr (l : List Int) (h : Byt l) : bI (byteArr l) = l := by
  unfold bI byteArr
  induction l with
  | nil => rfl
  | cons a l ih =>
    have ha := (byt1 h).1
    have := ih (byt1 h).2
    simp only [List.map_cons] at this ⊢
    congr 1
    rw [u8_nat ((Int.toNat_lt ha.1).mpr ha.2), Int.toNat_of_nonneg ha.1]
theorem nats_arr (l : List Int) (h : Byt l) : natsOf (byteArr l) = l.map Int.toNat := by
  have e : natsOf (byteArr l) = (bI (byteArr l)).map Int.toNat := by
    unfold natsOf bI
    rw [List.map_map]
    exact List.map_congr_left fun x _ => (Int.toNat_natCast _).symm
  rw [e, bI_arr l h]
theorem arr_bI (b : Array UInt8) : byteArr (bI b) = b := by
  apply Array.toList_inj.mp
  unfold byteArr bI
  rw [List.toList_toArray, List.map_map]
  conv => rhs; rw [← List.map_id b.toList]
  exact List.map_congr_left fun x _ => UInt8.ofNat_toNat
abbrev ChOk (i : Int) : Prop := b64ch i < 128 ∧ 0 ≤ b64ch i ∧ (b64ch i).toNat = sixL i.toNat
theorem ch_small : ∀ i : Fin 64, ChOk ((i : Nat) : Int) := by decide +kernel
theorem ch_at {i : Int} (h : 0 ≤ i ∧ i < 64) : ChOk i := allN (N := 64) ch_small h.1 h.2
theorem ChOk.in {i : Int} (c : ChOk i) : 0 ≤ b64ch i ∧ b64ch i < 128 := ⟨c.2.1, c.1⟩
theorem pad_in : (0 : Int) ≤ 61 ∧ (61 : Int) < 128 := by decide
theorem all4 {P : Int → Prop} {a b c d : Int} {l : List Int} (ha : P a) (hb : P b) (hc : P c) (hd : P d) (hl : ∀ n ∈ l, P n) : ∀ n ∈ a :: b :: c :: d :: l, P n :=
  List.forall_mem_cons.mpr ⟨ha, List.forall_mem_cons.mpr ⟨hb, List.forall_mem_cons.mpr ⟨hc, List.forall_mem_cons.mpr ⟨hd, hl⟩⟩⟩⟩
theorem enc3_small (l : List Int) : Byt l → ∀ n ∈ enc3 l, 0 ≤ n ∧ n < 128 :=
  ind3 (P := fun l => Byt l → ∀ n ∈ enc3 l, 0 ≤ n ∧ n < 128) (fun _ _ hn => nomatch hn)
    (fun a h => all4 (ch_at (rg1 (byt1 h).1)).in (ch_at (rg2z a)).in pad_in pad_in fun n hn => nomatch hn)
    (fun a b h => all4 (ch_at (rg1 (byt1 h).1)).in (ch_at (rg2 (byt1 (byt1 h).2).1)).in (ch_at (rg3z b)).in pad_in fun n hn => nomatch hn)
    (fun a b c r ih h => all4 (ch_at (rg1 (byt1 h).1)).in (ch_at (rg2 (byt1 (byt1 h).2).1)).in (ch_at (rg3 (byt1 (byt1 (byt1 h).2).2).1)).in (ch_at (rg4 c)).in (ih (byt1 (byt1 (byt1 h).2).2).2)) l
noncomputable def sx (N : Int) : Nat → List Nat
  | 0 => []
  | m + 1 => sixL ((N / 64 ^ m) % 64).toNat :: sx N m
theorem pos64 (m : Nat) : (0 : Int) < 64 ^ m := Int.pow_pos (by decide)
theorem sx_low (Y : Int) (k : Nat) : ∀ X : Int, sx (X * 64 ^ k + Y) k = sx Y k := by
  induction k with
  | zero => exact fun _ => rfl
  | succ k ih =>
    intro X
    rw [Int.pow_succ', ← Int.mul_assoc]
    unfold sx
    rw [ih, Int.add_comm, Int.add_mul_ediv_right _ _ (Int.ne_of_gt (pos64 k)), Int.add_mul_emod_self_right]
theorem sx_app (X Y : Int) (p m : Nat) (h : 0 ≤ Y ∧ Y < 64 ^ m) : sx (X * 64 ^ m + Y) (p + m) = sx X p ++ sx Y m := by
  induction p with
  | zero => rw [Nat.zero_add]; exact sx_low Y m X
  | succ p ih =>
    rw [Nat.succ_add]
    show sixL ((X * 64 ^ m + Y) / 64 ^ (p + m) % 64).toNat :: sx (X * 64 ^ m + Y) (p + m) = sixL (X / 64 ^ p % 64).toNat :: (sx X p ++ sx Y m)
    rw [ih, Nat.add_comm p m, Int.pow_add, ← Int.ediv_ediv_of_nonneg (Int.le_of_lt (pos64 m)), (qdI h).1]
theorem sx_len (N : Int) (m : Nat) : (sx N m).length = m := by
  induction m with
  | zero => rfl
  | succ m ih => exact congrArg (· + 1) ih
theorem sx_map (N : Int) (m : Nat) : sx N m = (List.range m).map fun i => sixL ((N / 64 ^ (m - (i + 1))) % 64).toNat := by
  induction m with
  | zero => rfl
  | succ m ih =>
    rw [List.range_succ_eq_map, List.map_cons, List.map_map]
    show _ :: sx N m = _
    rw [ih]
    exact congrArg _ (List.map_congr_left fun i _ => by rw [Function.comp, Nat.add_sub_add_right])
noncomputable def valB (l : List Int) : Int := l.foldl (fun x y : Int => x * 256 + y) 0
theorem val_from (r : List Int) : ∀ x : Int, r.foldl (fun x y : Int => x * 256 + y) x = x * 256 ^ r.length + valB r := by
  induction r with
  | nil => exact fun x => ((Int.add_zero _).trans (Int.mul_one x)).symm
  | cons a r ih =>
    intro x
    unfold valB
    rw [List.foldl_cons, List.foldl_cons, ih, ih, List.length_cons, Int.pow_succ', Int.zero_mul, Int.zero_add, Int.add_mul, Int.mul_assoc, Int.add_assoc]
theorem valB_lt (l : List Int) : Byt l → 0 ≤ valB l ∧ valB l < 256 ^ l.length := by
  induction l with
  | nil => exact fun _ => ⟨Int.le_refl _, by decide⟩
  | cons a l ih =>
    intro h
    have ha := (byt1 h).1
    obtain ⟨h0, h1⟩ := ih (byt1 h).2
    have e2 : valB (a :: l) = (0 * 256 + a) * 256 ^ l.length + valB l := val_from l _
    rw [e2, List.length_cons, Int.pow_succ', Int.zero_mul, Int.zero_add]
    have hp : (0 : Int) ≤ 256 ^ l.length := Int.le_of_lt (Int.pow_pos (by decide))
    generalize (256 : Int) ^ l.length = P at h1 hp
    have b := Int.mul_le_mul_of_nonneg_right (Int.add_one_le_of_lt ha.2) hp
    rw [Int.add_mul, Int.one_mul] at b
    exact ⟨Int.add_nonneg (Int.mul_nonneg ha.1 hp) h0, Int.lt_of_lt_of_le (Int.add_lt_add_left h1 _) b⟩
theorem pow_6 (q : Nat) : (256 : Int) ^ (3 * q) = 64 ^ (4 * q) := by
  rw [Int.pow_mul, Int.pow_mul]; rfl
theorem sx_val {a b c : Int} (ha : Oc a) (hb : Oc b) (hc : Oc c) :
    sx (valB [a, b, c]) 4 = [(b64ch (a / 4)).toNat, (b64ch (a % 4 * 16 + b / 16)).toNat, (b64ch (b % 16 * 4 + c / 64)).toNat, (b64ch (c % 64)).toNat] := by
  rw [(ch_at (rg1 ha)).2.2, (ch_at (rg2 hb)).2.2, (ch_at (rg3 hc)).2.2, (ch_at (rg4 c)).2.2]
  show [sixL ((((0 * 256 + a) * 256 + b) * 256 + c) / 64 ^ 3 % 64).toNat, sixL ((((0 * 256 + a) * 256 + b) * 256 + c) / 64 ^ 2 % 64).toNat, sixL ((((0 * 256 + a) * 256 + b) * 256 + c) / 64 % 64).toNat, sixL ((((0 * 256 + a) * 256 + b) * 256 + c) / 1 % 64).toNat] = _
  rw [show (64 : Int) ^ 3 = 256 * 256 * 4 from rfl, ← Int.ediv_ediv_of_nonneg (by decide), ← Int.ediv_ediv_of_nonneg (by decide), show (64 : Int) ^ 2 = 256 * 16 from rfl, ← Int.ediv_ediv_of_nonneg (by decide), hdI hc, hdI hb, es0 ha,
    kg 16 16 4 hb, km 4 64, kg 64 4 16 hc, km 16 16, Int.ediv_one, km 64 4]
theorem six3 (ns : List Int) : ∀ q z : Nat, ns.length + z = 3 * q → z ≤ 2 → Byt ns →
    ∃ body, (enc3 ns).map Int.toNat = body ++ List.replicate z 61 ∧ sx (valB (ns ++ List.replicate z 0)) (4 * q) = body ++ List.replicate z 65 := by
  refine ind3 (P := fun ns => ∀ q z : Nat, ns.length + z = 3 * q → z ≤ 2 → Byt ns →
    ∃ body, (enc3 ns).map Int.toNat = body ++ List.replicate z 61 ∧ sx (valB (ns ++ List.replicate z 0)) (4 * q) = body ++ List.replicate z 65) (fun q z h1 h2 h => ?_) (fun a q z h1 h2 h => ?_) (fun a b q z h1 h2 h => ?_) (fun a b c r ih q z h1 h2 h => ?_) ns
  · obtain ⟨rfl, rfl⟩ : q = 0 ∧ z = 0 := by simp only [List.length_nil] at h1; lia
    exact ⟨[], rfl, rfl⟩
  · obtain ⟨rfl, rfl⟩ : q = 1 ∧ z = 2 := by simp only [List.length_cons, List.length_nil] at h1; lia
    have e := sx_val (byt1 h).1 z_in z_in
    rw [show a % 4 * 16 + 0 / 16 = a % 4 * 16 from Int.add_zero _] at e
    exact ⟨[(b64ch (a / 4)).toNat, (b64ch (a % 4 * 16)).toNat], rfl, e⟩
  · obtain ⟨rfl, rfl⟩ : q = 1 ∧ z = 1 := by simp only [List.length_cons, List.length_nil] at h1; lia
    have e := sx_val (byt1 h).1 (byt1 (byt1 h).2).1 z_in
    rw [show b % 16 * 4 + 0 / 64 = b % 16 * 4 from Int.add_zero _] at e
    exact ⟨[(b64ch (a / 4)).toNat, (b64ch (a % 4 * 16 + b / 16)).toNat, (b64ch (b % 16 * 4)).toNat], rfl, e⟩
  · have hr := (byt1 (byt1 (byt1 h).2).2).2
    have h1' : r.length + z + 3 = 3 * q := (Nat.add_right_comm _ _ 3).trans h1
    cases q with
    | zero => exact absurd h1' (Nat.succ_ne_zero _)
    | succ q =>
      have hq : r.length + z = 3 * q := Nat.add_right_cancel h1'
      obtain ⟨body, e1, e2⟩ := ih q z hq h2 hr
      refine ⟨(b64ch (a / 4)).toNat :: (b64ch (a % 4 * 16 + b / 16)).toNat :: (b64ch (b % 16 * 4 + c / 64)).toNat :: (b64ch (c % 64)).toNat :: body, congrArg (fun l => (b64ch (a / 4)).toNat :: (b64ch (a % 4 * 16 + b / 16)).toNat :: (b64ch (b % 16 * 4 + c / 64)).toNat :: (b64ch (c % 64)).toNat :: l) e1, ?_⟩
      have hB : Byt (r ++ List.replicate z 0) := fun n hn => (List.mem_append.mp hn).elim (hr n) fun hn => (List.mem_replicate.mp hn).2.symm ▸ z_in
      have hl : (r ++ List.replicate z (0 : Int)).length = 3 * q := by rw [List.length_append, List.length_replicate, hq]
      have v := valB_lt _ hB
      have hv : valB (a :: b :: c :: (r ++ List.replicate z 0)) = valB [a, b, c] * 256 ^ (r ++ List.replicate z (0 : Int)).length + valB (r ++ List.replicate z 0) := val_from (r ++ List.replicate z 0) (((0 * 256 + a) * 256 + b) * 256 + c)
      rw [hl, pow_6] at v hv
      show sx (valB (a :: b :: c :: (r ++ List.replicate z 0))) (4 * q + 4) = _
      rw [hv, Nat.add_comm, sx_app _ _ 4 _ v, sx_val (byt1 h).1 (byt1 (byt1 h).2).1 (byt1 (byt1 (byt1 h).2).2).1, e2]
      rfl
theorem up3 (n : Nat) : ∃ q z : Nat, n + z = 3 * q ∧ z ≤ 2 := by
  induction n with
  | zero => exact ⟨0, 0, rfl, by decide⟩
  | succ n ih =>
    obtain ⟨q, z, h, h2⟩ := ih
    cases z with
    | zero => exact ⟨q + 1, 2, congrArg (· + 3) h, Nat.le_refl _⟩
    | succ z => exact ⟨q, z, (Nat.add_right_comm n 1 z).trans h, Nat.le_of_succ_le h2⟩
theorem flat1 {α β : Type} (g : α → β) (l : List α) : l.flatMap (fun i => [g i]) = l.map g := by
  induction l with
  | nil => rfl
  | cons a l ih => rw [List.flatMap_cons, ih]; rfl
theorem sixes_eq (ns : List Int) (h : Byt ns) : (enc3 ns).map Int.toNat = sixesOf ns := by
  obtain ⟨q, z, h1, h2⟩ := up3 ns.length
  have hi : (ns.length : Int) + (z : Int) = 3 * (q : Int) := congrArg (fun x : Nat => (x : Int)) h1
  have hz : (-(ns.length : Int)).fmod 3 = (z : Int) := by
    rw [Int.fmod_eq_emod_of_nonneg _ (by decide), show -(ns.length : Int) = (z : Int) + 3 * (-(q : Int)) from by lia, Int.add_mul_emod_self_left]
    exact Int.emod_eq_of_lt (Int.natCast_nonneg _) (Int.ofNat_lt.mpr (Nat.lt_succ_of_le h2))
  obtain ⟨body, b1, b2⟩ := six3 ns q z h1 h2 h
  have hb : body.length + z = 4 * q := by
    have := congrArg List.length b2
    rw [sx_len, List.length_append, List.length_replicate] at this
    exact this.symm
  have hm : (4 : Int) * q - z = (body.length : Int) := Int.sub_eq_iff_eq_add.mpr (congrArg (fun x : Nat => (x : Int)) hb).symm
  rw [b1]
  unfold sixesOf
  dsimp only
  rw [hz, hi, Int.mul_fdiv_cancel_left _ (by decide), Int.toNat_natCast, List.flatten_replicate_singleton, Int.mul_comm, hm, Int.toNat_natCast, List.map_map, ← List.flatMap_def]
  show _ = (List.range body.length).flatMap (fun (i : Nat) => [sixL (((valB (ns ++ List.replicate z 0)).fdiv (64 ^ ((4 : Int) * q - 1 + (i : Int) * (-1)).toNat)).fmod 64).toNat]) ++ _
  rw [flat1]
  congr 1
  have e : body = (sx (valB (ns ++ List.replicate z 0)) (4 * q)).take body.length := by rw [b2, List.take_left]
  rw [sx_map, ← List.map_take, List.take_range, Nat.min_eq_left (Nat.le.intro hb)] at e
  refine e.trans (List.map_congr_left fun i hi => ?_)
  rw [show (4 : Int) * q - 1 + (i : Int) * (-1) = ((4 * q : Nat) : Int) - ((i + 1 : Nat) : Int) from by rw [Int.natCast_add, Int.natCast_mul, Int.mul_neg_one, Int.sub_eq_add_neg, Int.add_right_comm, Int.add_assoc, ← Int.neg_add]; rfl, Int.toNat_sub, Int.fdiv_eq_ediv_of_nonneg _ (Int.le_of_lt (pos64 _)), Int.fmod_eq_emod_of_nonneg _ (by decide)]
theorem oct_ok (B : Array UInt8) (ds : List Int) (h : KBw.bInts B = ds) (h0 : B.size ≠ 0) (h48 : B.size ≤ 48) : Oct B ds := by
  have hB : Byt ds := fun n hn => by rw [← h] at hn; exact KBw.ints_in hn
  have hl : ds.length = B.size := by rw [← h, KBw.ints_length]
  have hb : b64 B = byteArr (enc3 ds) := by
    unfold b64
    rw [show (B.toList.map fun c => (c.toNat : Int)) = ds from h, encOut_eq ds hB]
  have hs3 := enc3_small ds hB
  have hE : Byt (enc3 ds) := fun n hn => ⟨(hs3 n hn).1, Int.lt_trans (hs3 n hn).2 (by decide)⟩
  have hn : natsOf (b64 B) = (enc3 ds).map Int.toNat := by rw [hb, nats_arr _ hE]
  have hs : 4 * ds.length ≤ 3 * (b64 B).size ∧ 3 * (b64 B).size ≤ 4 * ds.length + 8 := by
    rw [hb, byteArr_size]
    clear hn hE hs3 hb hl hB h
    refine ind3 (P := fun l => 4 * l.length ≤ 3 * (enc3 l).length ∧ 3 * (enc3 l).length ≤ 4 * l.length + 8) (by decide) (fun _ => (show 4 * 1 ≤ 3 * 4 ∧ 3 * 4 ≤ 4 * 1 + 8 by decide)) (fun _ _ => (show 4 * 2 ≤ 3 * 4 ∧ 3 * 4 ≤ 4 * 2 + 8 by decide)) (fun a b c r ih => ?_) ds
    exact ⟨Nat.add_le_add_right ih.1 12, Nat.add_le_add_right ih.2 12⟩
  have hI : bI (b64 B) = encOut ds := by rw [hb, bI_arr _ hE, encOut_eq ds hB]
  obtain ⟨g1, g2, g3⟩ := dec_enc ds hB
  refine ⟨h0, h48, h, fun x hx => ?_, fun e => ?_, by lia, hn.trans (sixes_eq ds hB), by rw [hI]; exact g2, by rw [hI]; exact g3, ?_⟩
  · have hm : x.toNat ∈ natsOf (b64 B) := List.mem_map_of_mem hx
    rw [hn] at hm
    obtain ⟨n, hn, e⟩ := List.mem_map.mp hm
    rw [← e]
    exact (Int.toNat_lt (hs3 n hn).1).mpr (hs3 n hn).2
  · rw [e, hl] at hs
    exact h0 ((Nat.mul_eq_zero.mp (Nat.le_zero.mp hs.1)).resolve_left (by decide))
  · rw [hI, g1, ← h]
    exact arr_bI B
end
section
set_option maxHeartbeats 4000000
open PySem.Calls
noncomputable def upN (d : Nat) : Nat := if d < 10 then 48 + d else 55 + d
noncomputable def hexN (b : Nat) : List Nat := [upN (b / 16), upN (b % 16)]
theorem up_hex : ∀ d : Fin 16, (PySem.Builtin.Bytes.toUpper (hexD16 d.1).toUInt8).toNat = upN d.1 := by decide +kernel
theorem b16_nats (b : Array UInt8) : natsOf (b16 b) = b.toList.flatMap fun c => hexN c.toNat := by
  have e : (b16 b).toList = b.toList.flatMap fun c => [PySem.Builtin.Bytes.toUpper (hexD16 (c.toNat / 16)).toUInt8, PySem.Builtin.Bytes.toUpper (hexD16 (c.toNat % 16)).toUInt8] := by
    show ((bytesOut (fun c => [c.toUInt8]) (hexL b)).toList.map PySem.Builtin.Bytes.toUpper).toArray.toList = _
    rw [List.toList_toArray]
    unfold bytesOut hexL
    rw [bytesOut_list]
    generalize b.toList = l
    induction l with
    | nil => rfl
    | cons c l ih =>
      simp only [List.flatMap_cons, List.flatMap_append, List.map_append, List.nil_append] at ih ⊢
      rw [show ([] : List UInt8) = (#[] : Array UInt8).toList from rfl] at *
      simp only [List.map_cons, List.map_nil, List.flatMap_cons, List.flatMap_nil, List.append_nil, List.singleton_append] at ih ⊢
      first
        | (rw [← ih]; rfl)
        | (simp_all)
  unfold natsOf
  rw [e]
  generalize b.toList = l
  induction l with
  | nil => rfl
  | cons c l ih =>
    have h := c.toNat_lt
    rw [List.flatMap_cons, List.map_append, ih, List.flatMap_cons]
    congr 1
    have u1 := up_hex ⟨c.toNat / 16, by lia⟩
    have u2 := up_hex ⟨c.toNat % 16, by lia⟩
    simp only [List.map_cons, List.map_nil, hexN]
    rw [u1, u2]
theorem pairs_at (f : Nat → List Nat) (hf : ∀ x, (f x).length = 2) : ∀ (l : List Nat) (i x : Nat), l[i]? = some x → ((l.flatMap f).drop (2 * i)).take 2 = f x := by
  intro l
  induction l with
  | nil => intro i x h; simp at h
  | cons a l ih =>
    intro i x h
    cases i with
    | zero =>
      simp at h; subst h
      rw [List.flatMap_cons, Nat.mul_zero, List.drop_zero, List.take_append_of_le_length (by rw [hf]; exact Nat.le_refl _), List.take_of_length_le (by rw [hf]; exact Nat.le_refl _)]
    | succ i =>
      rw [List.flatMap_cons, List.drop_append, List.drop_of_length_le (by rw [hf]; lia), List.nil_append, hf, show 2 * (i + 1) - 2 = 2 * i from by lia]
      exact ih i x (by simpa using h)
theorem hexN_ok : ∀ b : Fin 256, (∀ c ∈ hexN b.1, IsHex c ∧ c < 128) ∧ hexVal (hexN b.1) = b.1 := by
  unfold IsHex
  decide +kernel
theorem hexN_len (b : Nat) : (hexN b).length = 2 := rfl
theorem flat2_len (f : Nat → List Nat) (hf : ∀ x, (f x).length = 2) (l : List Nat) : (l.flatMap f).length = 2 * l.length := by
  induction l with
  | nil => rfl
  | cons a l ih => rw [List.flatMap_cons, List.length_append, hf, ih, List.length_cons]; lia
theorem b16_fl (b : Array UInt8) : natsOf (b16 b) = (natsOf b).flatMap hexN := by
  rw [b16_nats]; unfold natsOf; rw [List.flatMap_map]
theorem natsOf_lt {b : Array UInt8} {x : Nat} (h : x ∈ natsOf b) : x < 256 := by
  obtain ⟨c, _, rfl⟩ := List.mem_map.mp h
  exact c.toNat_lt
theorem natsOf_len (b : Array UInt8) : (natsOf b).length = b.size := by simp [natsOf]
noncomputable def ddOf (ds : List Int) : List (Int × Nat) := (List.range ds.length).map fun (i : Nat) => (2 * (i : Int) + 2, (ds.getD i 0).toNat)
theorem nth_ok (B : Array UInt8) (ds : List Int) (h : KBw.bInts B = ds) (i : Nat) (hi : i < ds.length) : ∃ c : Nat, c < 256 ∧ (ddOf ds)[i]? = some (2 * (i : Int) + 2, c) ∧ ds[i]? = some (c : Int) ∧ (natsOf B)[i]? = some c := by
  have hB : i < B.size := by rw [← h, KBw.ints_length] at hi; exact hi
  have e : ds[i]? = some ((B[i].toNat : Nat) : Int) := by rw [← h]; simp [KBw.bInts, hB]
  refine ⟨B[i].toNat, B[i].toNat_lt, ?_, e, by simp [natsOf, hB]⟩
  unfold ddOf
  rw [List.getElem?_map, List.getElem?_range hi, Option.map_some, List.getD_eq_getElem?_getD, e]
  simp
theorem fig_ok (B : Array UInt8) (ds : List Int) (h : KBw.bInts B = ds) (h0 : B.size ≠ 0) (h48 : B.size ≤ 48) : Fig B (natsOf (b16 B)) (ddOf ds) ds.length := by
  have hn : ds.length = B.size := by rw [← h, KBw.ints_length]
  have hl : (natsOf (b16 B)).length = 2 * ds.length := by rw [b16_fl, flat2_len hexN hexN_len, natsOf_len, hn]
  have hs : (b16 B).size = 2 * ds.length := by rw [← natsOf_len, hl]
  refine ⟨h48, fun x hx => ?_, by lia, by lia, rfl, by lia, by lia, by simp [ddOf], hl, fun i hi => ?_⟩
  · have hm : x.toNat ∈ natsOf (b16 B) := List.mem_map_of_mem hx
    rw [b16_fl] at hm
    obtain ⟨b, hb, hm⟩ := List.mem_flatMap.mp hm
    exact ((hexN_ok ⟨b, natsOf_lt hb⟩).1 _ hm).2
  · obtain ⟨c, hc, hd, _, hN⟩ := nth_ok B ds h i hi
    have hp := pairs_at hexN hexN_len (natsOf B) i c hN
    refine ⟨c, hd, ?_, ?_, hc⟩
    · rw [b16_fl, hp]
      exact fun x hx => ((hexN_ok ⟨c, hc⟩).1 x hx).1
    · rw [b16_fl, hp]
      exact (hexN_ok ⟨c, hc⟩).2
end
section
set_option maxHeartbeats 4000000
open PySem.Calls
noncomputable def ordN : List Nat → List Nat → Ordering
  | [], [] => .eq
  | [], _ :: _ => .lt
  | _ :: _, [] => .gt
  | x :: xs, y :: ys => if x < y then .lt else if y < x then .gt else ordN xs ys
theorem ordN_cc (x y : Nat) (xs ys : List Nat) : ordN (x :: xs) (y :: ys) = if x < y then .lt else if y < x then .gt else ordN xs ys := rfl
theorem ord_ordN (a : List UInt8) : ∀ b : List UInt8, PySem.Builtin.Bytes.order a b = ordN (a.map UInt8.toNat) (b.map UInt8.toNat) := by
  induction a with
  | nil => intro b; cases b <;> rfl
  | cons x xs ih =>
    intro b
    cases b with
    | nil => rfl
    | cons y ys =>
      rw [List.map_cons, List.map_cons, ordN_cc, ← ih]
      rfl
theorem ordN_refl (a : List Nat) : ordN a a = .eq := by
  induction a with
  | nil => rfl
  | cons x xs ih => rw [ordN_cc, if_neg (Nat.lt_irrefl _), if_neg (Nat.lt_irrefl _), ih]
theorem ordN_swap (a : List Nat) : ∀ b, ordN a b = .lt → ordN b a = .gt := by
  induction a with
  | nil => intro b h; cases b with
    | nil => cases h
    | cons => rfl
  | cons x xs ih =>
    intro b h
    cases b with
    | nil => cases h
    | cons y ys =>
      rw [ordN_cc] at h ⊢
      by_cases h1 : x < y
      · rw [if_neg (Nat.lt_asymm h1), if_pos h1]
      · rw [if_neg h1] at h ⊢
        by_cases h2 : y < x
        · rw [if_pos h2] at h; cases h
        · rw [if_neg h2] at h ⊢; exact ih ys h
theorem upN_lt {a b : Nat} (ha : a < 16) (hb : b < 16) : (upN a < upN b ↔ a < b) :=
  have key : ∀ a b : Fin 16, (upN a.1 < upN b.1 ↔ a.1 < b.1) := by decide +kernel
  key ⟨a, ha⟩ ⟨b, hb⟩
theorem dm_lt {k x y : Nat} (h : x / k = y / k) : x % k < y % k ↔ x < y := by
  conv => rhs; rw [← Nat.div_add_mod x k, ← Nat.div_add_mod y k, h]
  exact Nat.add_lt_add_iff_left.symm
theorem ifc {α : Type} {p q : Prop} [Decidable p] [Decidable q] {a b b' : α} (h : p ↔ q) (e : b = b') : (if p then a else b) = if q then a else b' := by
  by_cases k : p
  · rw [if_pos k, if_pos (h.mp k)]
  · rw [if_neg k, if_neg fun c => k (h.mpr c), e]
theorem ordN_hex (a : List Nat) : ∀ b : List Nat, (∀ x ∈ a, x < 256) → (∀ x ∈ b, x < 256) → ordN (a.flatMap hexN) (b.flatMap hexN) = ordN a b := by
  induction a with
  | nil => intro b _ _; cases b <;> rfl
  | cons x xs ih =>
    intro b ha hb
    cases b with
    | nil => rfl
    | cons y ys =>
      have dx : x / 16 < 16 := Nat.div_lt_of_lt_mul (ha x (.head _))
      have dy : y / 16 < 16 := Nat.div_lt_of_lt_mul (hb y (.head _))
      have mx := Nat.mod_lt x (show 16 > 0 by decide)
      have my := Nat.mod_lt y (show 16 > 0 by decide)
      rw [List.flatMap_cons, List.flatMap_cons]
      show ordN (upN (x / 16) :: upN (x % 16) :: xs.flatMap hexN) (upN (y / 16) :: upN (y % 16) :: ys.flatMap hexN) = _
      rw [ordN_cc, ordN_cc, ordN_cc, ih ys (fun z hz => ha z (.tail _ hz)) (fun z hz => hb z (.tail _ hz)), ifc (upN_lt dx dy) (ifc (upN_lt dy dx) (ifc (upN_lt mx my) (ifc (upN_lt my mx) rfl)))]
      rcases Nat.lt_trichotomy (x / 16) (y / 16) with h | h | h
      · rw [if_pos h, if_pos (Nat.lt_of_div_lt_div h)]
      · rw [if_neg (h ▸ Nat.lt_irrefl _), if_neg (h ▸ Nat.lt_irrefl _), ifc (dm_lt h) (ifc (dm_lt h.symm) rfl)]
      · have g := Nat.lt_of_div_lt_div h
        rw [if_neg (Nat.lt_asymm h), if_pos h, if_neg (Nat.lt_asymm g), if_pos g]
theorem ordN_lt {a b : Nat} {l r : List Nat} (h : a < b) : ordN (a :: l) (b :: r) = .lt := if_pos h
theorem ordN_same (u v : Nat) (h : u < v) (l : List Nat) : ordN (l ++ [u]) (l ++ [v]) = .lt := by
  induction l with
  | nil => exact ordN_lt h
  | cons x l ih => rw [List.cons_append, List.cons_append, ordN_cc, if_neg (Nat.lt_irrefl x), if_neg (Nat.lt_irrefl x)]; exact ih
theorem ordN_snoc (u v : Nat) (a : List Nat) : ∀ b : List Nat, a.length = b.length → ordN a b = .lt → ordN (a ++ [u]) (b ++ [v]) = .lt := by
  induction a with
  | nil => intro b e h; cases b with
    | nil => cases h
    | cons => cases e
  | cons x xs ih =>
    intro b e h
    cases b with
    | nil => cases e
    | cons y ys =>
      rw [List.cons_append, List.cons_append, ordN_cc]
      rw [ordN_cc] at h
      by_cases h1 : x < y
      · rw [if_pos h1]
      · rw [if_neg h1] at h ⊢
        by_cases h2 : y < x
        · rw [if_pos h2] at h; cases h
        · rw [if_neg h2] at h ⊢
          exact ih ys (Nat.succ.inj e) h
noncomputable def digs (base : Nat) : Nat → Nat → List Nat
  | 0, z => [base + z]
  | k + 1, z => digs base k (z / 64) ++ [128 + z % 64]
theorem digs_len (base : Nat) (k : Nat) : ∀ z, (digs base k z).length = k + 1 := by
  induction k with
  | zero => exact fun _ => rfl
  | succ k ih => intro z; exact (List.length_append ..).trans (congrArg (· + 1) (ih _))
theorem digs_lt (base : Nat) (k : Nat) : ∀ x y, x < y → ordN (digs base k x) (digs base k y) = .lt := by
  induction k with
  | zero => exact fun x y h => ordN_lt (Nat.add_lt_add_left h base)
  | succ k ih =>
    intro x y h
    show ordN (digs base k (x / 64) ++ [128 + x % 64]) (digs base k (y / 64) ++ [128 + y % 64]) = .lt
    rcases Nat.lt_or_ge (x / 64) (y / 64) with h1 | h1
    · exact ordN_snoc _ _ _ _ (by rw [digs_len, digs_len]) (ih _ _ h1)
    · have e : x / 64 = y / 64 := Nat.le_antisymm (Nat.div_le_div_right (Nat.le_of_lt h)) h1
      rw [e]
      exact ordN_same _ _ (Nat.add_lt_add_left ((dm_lt e).mpr h) 128) _
theorem oct2 (c : Nat) : [192 + c / 64, 128 + c % 64] = digs 192 1 c := rfl
theorem oct3 (c : Nat) : [224 + c / 4096, 128 + c / 64 % 64, 128 + c % 64] = digs 224 2 c := by
  show _ = [224 + c / 64 / 64, 128 + c / 64 % 64, 128 + c % 64]
  rw [Nat.div_div_eq_div_mul]
theorem oct4 (c : Nat) : [240 + c / 262144, 128 + c / 4096 % 64, 128 + c / 64 % 64, 128 + c % 64] = digs 240 3 c := by
  show _ = [240 + c / 64 / 64 / 64, 128 + c / 64 / 64 % 64, 128 + c / 64 % 64, 128 + c % 64]
  rw [Nat.div_div_eq_div_mul c 64 64, Nat.div_div_eq_div_mul]
theorem ordN_oct {x y : Nat} (h : x < y) (hy : y < 1114112) : ordN (octN x) (octN y) = .lt := by
  unfold octN
  by_cases y1 : y < 128
  · rw [if_pos y1, if_pos (Nat.lt_trans h y1)]; exact ordN_lt h
  · rw [if_neg y1]
    by_cases y2 : y < 2048
    · rw [if_pos y2]
      by_cases x1 : x < 128
      · rw [if_pos x1]; exact ordN_lt (Nat.lt_of_lt_of_le x1 (Nat.le_trans (by decide) (Nat.le_add_right 192 _)))
      · rw [if_neg x1, if_pos (Nat.lt_trans h y2), oct2, oct2]; exact digs_lt _ _ _ _ h
    · rw [if_neg y2]
      by_cases y3 : y < 65536
      · rw [if_pos y3]
        by_cases x1 : x < 128
        · rw [if_pos x1]; exact ordN_lt (Nat.lt_of_lt_of_le x1 (Nat.le_trans (by decide) (Nat.le_add_right 224 _)))
        · rw [if_neg x1]
          by_cases x2 : x < 2048
          · rw [if_pos x2]; exact ordN_lt (Nat.lt_of_lt_of_le (Nat.add_lt_add_left (show x / 64 < 32 from Nat.div_lt_of_lt_mul x2) 192) (Nat.le_add_right 224 _))
          · rw [if_neg x2, if_pos (Nat.lt_trans h y3), oct3, oct3]; exact digs_lt _ _ _ _ h
      · rw [if_neg y3]
        by_cases x1 : x < 128
        · rw [if_pos x1]; exact ordN_lt (Nat.lt_of_lt_of_le x1 (Nat.le_trans (by decide) (Nat.le_add_right 240 _)))
        · rw [if_neg x1]
          by_cases x2 : x < 2048
          · rw [if_pos x2]; exact ordN_lt (Nat.lt_of_lt_of_le (Nat.add_lt_add_left (show x / 64 < 32 from Nat.div_lt_of_lt_mul x2) 192) (Nat.le_trans (by decide) (Nat.le_add_right 240 _)))
          · rw [if_neg x2]
            by_cases x3 : x < 65536
            · rw [if_pos x3]; exact ordN_lt (Nat.lt_of_lt_of_le (Nat.add_lt_add_left (show x / 4096 < 16 from Nat.div_lt_of_lt_mul x3) 224) (Nat.le_add_right 240 _))
            · rw [if_neg x3, oct4, oct4]; exact digs_lt _ _ _ _ h
theorem wrt_ord (x y : Nat) (hx : x < 1114112) (hy : y < 1114112) : PySem.Builtin.Bytes.order (wrt x).toList (wrt y).toList = ordN (octN x) (octN y) := by
  have e : ∀ c, c < 1114112 → (wrt c).toList.map UInt8.toNat = (octN c).flatMap hexN := fun c hc => by
    have := b16_fl (utf8B [c])
    unfold natsOf at this
    rw [utf8B_list] at this
    simp only [List.flatMap_cons, List.flatMap_nil, List.append_nil] at this
    rw [utf8_octN c hc] at this
    exact this
  rw [ord_ordN, e x hx, e y hy, ordN_hex _ _ (octN_byte x hx) (octN_byte y hy)]
theorem cmpW_lt (x y : Nat) (hx : x < 1114112) (hy : y < 1114112) : cmpW (wrt x) (wrt y) < 0 ↔ x < y := by
  unfold cmpW
  rw [wrt_ord x y hx hy]
  rcases Nat.lt_trichotomy x y with h | h | h
  · rw [ordN_oct h hy]; exact iff_of_true (by decide) h
  · subst h; rw [ordN_refl]; exact iff_of_false (by decide) (Nat.lt_irrefl _)
  · rw [ordN_swap _ _ (ordN_oct h hx)]; exact iff_of_false (by decide) (Nat.lt_asymm h)
theorem ord_ok (cs : List Nat) (h : ∀ c ∈ cs, c < 1114112) (i j : Nat) : cmpC cs i j < 0 ↔ keyC cs i < keyC cs j := by
  have g : ∀ i, cs.getD i 0 < 1114112 := fun i => by
    rw [List.getD_eq_getElem?_getD]
    cases e : cs[i]? with
    | none => decide
    | some c => exact h c (List.mem_of_getElem? e)
  unfold cmpC keyC
  rw [cmpW_lt _ _ (g i) (g j)]
  exact Int.ofNat_lt.symm
end
section
set_option maxHeartbeats 4000000
open PySem.Calls
abbrev Srt (l : List Int) : Prop := l.Pairwise (· ≤ ·)
theorem srt_perm_eq : ∀ {a b : List Int}, a.Perm b → Srt a → Srt b → a = b
  | [], b, p, _, _ => by rw [List.nil_perm.mp p]
  | x :: xs, [], p, _, _ => absurd p.length_eq (by simp)
  | x :: xs, y :: ys, p, ha, hb => by
    have hx := List.pairwise_cons.mp ha
    have hy := List.pairwise_cons.mp hb
    have e : x = y := by
      have h1 : x ∈ y :: ys := p.mem_iff.mp (.head _)
      have h2 : y ∈ x :: xs := p.mem_iff.mpr (.head _)
      rcases List.mem_cons.mp h1 with h1 | h1
      · exact h1
      · rcases List.mem_cons.mp h2 with h2 | h2
        · exact h2.symm
        · have := hx.1 y h2
          have := hy.1 x h1
          lia
    subst e
    rw [srt_perm_eq (List.Perm.cons_inv p) hx.2 hy.2]
theorem srt_split : ∀ (told : List Int) (n : Int), Srt told → (∀ x ∈ told.take (told.filter (fun x => decide (x ≤ n))).length, x ≤ n) ∧ (∀ x ∈ told.drop (told.filter (fun x => decide (x ≤ n))).length, n < x)
  | [], n, _ => ⟨fun _ h => (by simp at h), fun _ h => (by simp at h)⟩
  | a :: l, n, h => by
    have hc := List.pairwise_cons.mp h
    obtain ⟨i1, i2⟩ := srt_split l n hc.2
    by_cases ha : a ≤ n
    · rw [List.filter_cons_of_pos (p := fun x => decide (x ≤ n)) (decide_eq_true ha), List.length_cons, List.take_succ_cons, List.drop_succ_cons]
      refine ⟨fun x hx => ?_, i2⟩
      rcases List.mem_cons.mp hx with rfl | hx
      · exact ha
      · exact i1 x hx
    · have hall : l.filter (fun x => decide (x ≤ n)) = [] := by
        rw [List.filter_eq_nil_iff]
        intro x hx
        have := hc.1 x hx
        simp; lia
      rw [List.filter_cons_of_neg (p := fun x => decide (x ≤ n)) (by simpa using ha), hall]
      refine ⟨fun x hx => by simp at hx, fun x hx => ?_⟩
      rw [List.length_nil, List.drop_zero] at hx
      rcases List.mem_cons.mp hx with rfl | hx
      · lia
      · have := hc.1 x hx; lia
theorem rise_step (told : List Int) (n : Int) (h : Srt told) : Srt (riseStep told n) ∧ (riseStep told n).Perm (told ++ [n]) := by
  obtain ⟨i1, i2⟩ := srt_split told n h
  unfold riseStep
  generalize (told.filter (fun x => decide (x ≤ n))).length = k at i1 i2
  have hs : Srt (told.take k ++ told.drop k) := by rw [List.take_append_drop]; exact h
  have hp := List.pairwise_append.mp hs
  refine ⟨?_, ?_⟩
  · rw [List.append_assoc]
    refine List.pairwise_append.mpr ⟨hp.1, List.pairwise_append.mpr ⟨List.pairwise_singleton _ _, hp.2.1, fun a ha b hb => ?_⟩, fun a ha b hb => ?_⟩
    · have := i2 b hb
      rw [List.mem_singleton.mp ha]; lia
    · rcases List.mem_append.mp hb with hb | hb
      · rw [List.mem_singleton.mp hb]; exact i1 a ha
      · exact hp.2.2 a ha b hb
  · have e : told.take k ++ [n] ++ told.drop k = told.take k ++ ([n] ++ told.drop k) := List.append_assoc _ _ _
    rw [e]
    refine (List.Perm.append_left _ List.perm_append_comm).trans ?_
    rw [← List.append_assoc, List.take_append_drop]
theorem rising_ok (ns : List Int) : Srt (rising ns) ∧ (rising ns).Perm ns := by
  have key : ∀ (ns told : List Int), Srt told → Srt (ns.foldl riseStep told) ∧ (ns.foldl riseStep told).Perm (told ++ ns) := by
    intro ns
    induction ns with
    | nil => intro told h; exact ⟨h, by simp⟩
    | cons a l ih =>
      intro told h
      obtain ⟨h1, h2⟩ := rise_step told a h
      obtain ⟨h3, h4⟩ := ih _ h1
      refine ⟨h3, h4.trans ?_⟩
      have := h2.append_right l
      rwa [List.append_assoc] at this
  simpa [rising] using key ns [] List.Pairwise.nil
theorem map_range_getD (l : List Int) : (List.range l.length).map (fun i => l.getD i 0) = l := by
  apply List.ext_getElem
  · simp
  · intro i h1 h2
    simp at h1
    simp [List.getD_eq_getElem?_getD, h1]
theorem srt_ok (cs : List Nat) (tns : List Int) (hl : tns.length = cs.length) (hk : ∀ i, tns.getD i 0 = keyC cs i) (p : Array Nat) (S : Stt cs.length p cs.length) (A : Asc (keyC cs) p cs.length) :
    p.toList.map (fun i => tns.getD i 0) = rising tns ∧ ∀ (k i j : Nat), p.toList[k]? = some i → p.toList[k + 1]? = some j → ¬ (tns.getD i 0 = tns.getD j 0 ∧ j < i) := by
  have hg : ∀ k i, p.toList[k]? = some i → gP p k = i ∧ k < cs.length := fun k i h => by
    rw [Array.getElem?_toList] at h
    refine ⟨by rw [gP_eq, h]; rfl, ?_⟩
    have := (Array.getElem?_eq_some_iff.mp h).1
    rw [S.size] at this; exact this
  constructor
  · refine srt_perm_eq ?_ ?_ (rising_ok tns).1
    · refine ((S.perm.map fun i => tns.getD i 0).trans ?_).trans (rising_ok tns).2.symm
      rw [← hl, map_range_getD]
    · refine List.pairwise_iff_getElem.mpr fun i j hi hj hij => ?_
      have hi' : i < p.toList.length := by simpa using hi
      have hj' : j < p.toList.length := by simpa using hj
      obtain ⟨e1, _⟩ := hg i _ (List.getElem?_eq_getElem hi')
      obtain ⟨e2, hjn⟩ := hg j _ (List.getElem?_eq_getElem hj')
      have := A i j hij hjn
      rw [List.getElem_map, List.getElem_map, hk, hk, ← e1, ← e2]
      unfold RK at this
      lia
  · intro k i j h1 h2
    obtain ⟨e1, _⟩ := hg k i h1
    obtain ⟨e2, hkn⟩ := hg (k + 1) j h2
    have := A k (k + 1) (Nat.lt_succ_self _) hkn
    rw [hk, hk]
    rw [e1, e2] at this
    unfold RK at this
    lia
end
section
set_option maxHeartbeats 4000000
open PySem.Calls
theorem nums_rng (ns : List Int) : ∀ x ∈ numsOf ns, 0 ≤ x ∧ x < 1114112 := by
  intro x hx
  obtain ⟨y, _, rfl⟩ := List.mem_map.mp hx
  exact ⟨Int.fmod_nonneg_of_pos _ (by decide), Int.fmod_lt_of_pos _ (by decide)⟩
theorem nums_len (ns : List Int) : (numsOf ns).length ≤ 12 := by
  unfold numsOf
  rw [List.length_map, List.length_append, List.length_take]
  simp only [List.length_cons, List.length_nil]; lia
theorem nums_filter (ns : List Int) : (numsOf ns).filter fitB = ((List.take 5 ns).map fun (n : Int) => n.fmod 1114112).filter fitB ++ [97, 8364, 128512, 233, 57344, 233] := by
  unfold numsOf
  rw [List.map_append, List.filter_append]
  congr 1
theorem codes_len (ns : List Int) : (codesOf (numsOf ns)).length = ((numsOf ns).filter fitB).length := by unfold codesOf; rw [List.length_map]
theorem codes_rng (ns : List Int) : ∀ c ∈ codesOf (numsOf ns), c < 1114112 ∧ PySem.Str.isSurrogate c = false := by
  intro c hc
  obtain ⟨x, hx, rfl⟩ := List.mem_map.mp hc
  obtain ⟨hx, hf⟩ := List.mem_filter.mp hx
  have := nums_rng ns x hx
  refine ⟨by lia, ?_⟩
  unfold fitB at hf
  simp only [Bool.or_eq_true, decide_eq_true_eq] at hf
  unfold PySem.Str.isSurrogate
  simp only [Bool.and_eq_false_iff, decide_eq_false_iff_not]
  lia
theorem octs_ne (x : Int) : 1 ≤ (octs x).length := by unfold octs; (repeat' split) <;> simp
theorem due_len (ns : List Int) : (dueOf (numsOf ns)).length ≤ 48 ∧ (dueOf (numsOf ns)).length ≠ 0 := by
  constructor
  · have h1 := octs_all_len ((numsOf ns).filter fitB)
    have h2 := List.length_filter_le fitB (numsOf ns)
    have h3 := nums_len ns
    unfold dueOf
    lia
  · unfold dueOf
    rw [nums_filter, List.flatMap_append, List.length_append, List.flatMap_cons, List.length_append]
    have := octs_ne 97
    lia
theorem key_eq (ns : List Int) (i : Nat) : ((numsOf ns).filter fitB).getD i 0 = keyC (codesOf (numsOf ns)) i := by
  unfold keyC codesOf
  rw [List.getD_eq_getElem?_getD, List.getD_eq_getElem?_getD, List.getElem?_map]
  cases e : ((numsOf ns).filter fitB)[i]? with
  | none => rfl
  | some x =>
    have := nums_rng ns x (List.mem_filter.mp (List.mem_of_getElem? e)).1
    show x = ((x.toNat : Nat) : Int)
    lia
theorem plain_all (ns : List Int) : ∃ cs B fl dd n, Plain (numsOf ns) cs B fl dd n := by
  have hb := bts_due (numsOf ns) (nums_rng ns)
  have hs : (utf8B (codesOf (numsOf ns))).size = (dueOf (numsOf ns)).length := by rw [← hb, KBw.ints_length]
  obtain ⟨d1, d2⟩ := due_len ns
  have cl : (codesOf (numsOf ns)).length ≤ 12 := by rw [codes_len]; exact Nat.le_trans (List.length_filter_le _ _) (nums_len ns)
  have cl2 : 2 ≤ (codesOf (numsOf ns)).length := by
    rw [codes_len, nums_filter, List.length_append]; simp only [List.length_cons, List.length_nil]; lia
  refine ⟨codesOf (numsOf ns), utf8B (codesOf (numsOf ns)), _, _, _, nums_len ns, nums_rng ns, rfl, cl, cl2, fun c hc => (codes_rng ns c hc).2, rfl, oct_ok _ _ hb (by lia) (by lia), fig_ok _ _ hb (by lia) (by lia), rfl, fun i hi => ?_, ord_ok _ fun c hc => (codes_rng ns c hc).1, (codes_len ns).symm, fun p S A => srt_ok _ _ (codes_len ns).symm (key_eq ns) p S A⟩
  obtain ⟨c, h1, h2, h3, _⟩ := nth_ok _ _ hb i hi
  exact ⟨c, h1, h2, h3⟩
end
end
end
section
set_option maxHeartbeats 4000000
theorem fill_hl : kk = kk ∧ PySem.Challenge.rw_kq0052_01 = PySem.Challenge.rw_kq0052_01 := by
  k_fill
  exact ⟨rfl, rfl⟩
theorem ne_c {L c : Nat} (h : 208 < L) (hc : c ≤ 208) (k : Nat) : ¬ L + k = c := fun e => absurd (Nat.lt_of_lt_of_le h (Nat.le_trans (Nat.le_add_right L k) (Nat.le_of_eq e))) (Nat.not_lt.mpr hc)
theorem ne_k {L k m : Nat} (h : k ≠ m) : ¬ L + k = L + m := fun e => h (Nat.add_left_cancel e)
theorem nm {a b : Nat} {l : List Nat} (h : ¬ a = b) (t : a ∉ l) : a ∉ b :: l := fun m => (List.mem_cons.mp m).elim h t
theorem nm0 {a : Nat} : a ∉ ([] : List Nat) := List.not_mem_nil
theorem nd_c {L : Nat} (h : 208 < L) (k : Nat) : L + k ∉ [47, 158, 208] := nm (ne_c h (by decide) k) (nm (ne_c h (by decide) k) (nm (ne_c h (by decide) k) nm0))
theorem nodup_cells (L : Nat) (h : 208 < L) : ([L + 1 + 1 + 1 + 1, L + 1 + 1 + 1, L + 1 + 1, L + 1, 47, 158, 208] : List Nat).Nodup :=
  List.nodup_cons.mpr ⟨nm (ne_k (k := 4) (m := 3) (by decide)) (nm (ne_k (k := 4) (m := 2) (by decide)) (nm (ne_k (k := 4) (m := 1) (by decide)) (nd_c h 4))),
    List.nodup_cons.mpr ⟨nm (ne_k (k := 3) (m := 2) (by decide)) (nm (ne_k (k := 3) (m := 1) (by decide)) (nd_c h 3)),
      List.nodup_cons.mpr ⟨nm (ne_k (k := 2) (m := 1) (by decide)) (nd_c h 2), List.nodup_cons.mpr ⟨nd_c h 1, by decide⟩⟩⟩⟩
theorem plain_of {vs : List Value} {ns : List Int} (_ : IntsAre vs ns) : ∃ cs B fl dd n, Plain (numsOf ns) cs B fl dd n := plain_all ns
local macro_rules
  | `(tactic| kn_ghosts $F $T) => `(tactic| (
    rename News _ _ _ _ => N
    rename Frag.In _ _ => X
    rename TabsAt _ _ => hT
    have l0 := ghost_lt hT $F
    have C' := ghost_code hT
    have X' := ghost_K8 hT X (by kernel_rfl)
    have T' := ghost_top hT $T
    have K' := ghost_below hT
    have N' := ghost_news hT $F N
    have F' := ghost_fr hT $F
    kn_lists hT
    kn_codes C'
    simp only [tabNews, List.map_cons, List.map_nil, List.nil_append, List.cons_append] at N'
    simp only [tabNews, List.map_cons, List.map_nil] at l0
    k_lt l0
    clear N X $F C'))
theorem kq0052_01_holds_parts : PySem.Challenge.rw_kq0052_01.Holds := by
  refine holds_law said_ok fun said => ?_
  refine holds_open (q := qv) (loose := lo) (Xt := XT) (XP := XL qv lv) (Yf := Hook.obs HH) (Ya := Hook.val HH) (YP := Hook.says HH) (N := 5000) ?hl (Hook.of HH) (Hook.keeps HH) (fun s e => xl_of s (Bool.and_eq_true_iff.mp e).1) XL.keeps (by rfl) (by rfl) (by rfl) (fun s e => recFacts_of (Bool.and_eq_true_iff.mp e).2) (by rfl) (by assumption) (by decide +kernel) ⟨rfl, rfl, rfl, rfl, rfl, by decide +kernel⟩ ?hw ?hc
  case hl => exact left_ok
  case hw => w_witness2
  k_go0
  all_goals (try k_fold)
  rename CellsAre _ _ _ => X0
  rename Frag.In _ _ => X'
  rename Top _ _ _ _ _ _ => T'
  rename Below _ _ _ _ => K'
  rename Fr _ _ _ _ => F'
  rename News _ _ _ _ => N'
  rename IntsAre _ _ => hI
  rename Heap.IsList _ _ _ => hL
  rename (¬ _ < _) => hc63
  rename (_ < _ ∧ _ < _ ∧ _ < _) => hl0
  rename (_ = #[]) => hg
  obtain ⟨cs, B, fl, dd, n, P⟩ := plain_of hI
  refine law_all _ _ _ _ _ _ _ _ _ _ _ _ _ hI ?hn hL cs B fl dd n P X' T' (by assumption) (by assumption) (by assumption) K' ?hE _ _ _ _ ?hW ?hF ?hD ?hT F' N' ?D ?next
  case hn => omega
  case hE => passes_own
  case hW => refine Eq.trans (by assumption) ?_; kernel_rfl
  case hF => refine Eq.trans (by assumption) ?_; kernel_rfl
  case hD => refine Eq.trans (by assumption) ?_; kernel_rfl
  case hT => refine Eq.trans (by assumption) ?_; kernel_rfl
  case D =>
    exact nodup_cells _ hl0.2.2
  case next =>
    clear N' F' P
    intro h' tk m' ps m1 m2 N' F'
    k_steps
end
end
end Mine
set_option maxRecDepth 100000 in
theorem PySem.Challenge.cw_kq0052_01_holds : PySem.Challenge.rw_kq0052_01.Holds := by
  exact Mine.kq0052_01_holds_parts


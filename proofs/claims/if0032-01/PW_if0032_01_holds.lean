import PyProof.Rows.All
import Wide.All
import OpenK.AllK
import Wide.FinOn
import PySem.Challenge.RW_if0032_01
open PySem PySem.W PySem.Calls PyProof.Rows
open PySem.PyData (keyHash)
set_option Elab.async false
set_option maxRecDepth 100000
set_option compiler.extract_closed false
namespace Mine
def hdNth : List Stmt → Nat → Option Stmt
  | [], _ => none
  | x :: _, 0 => some x
  | _ :: l, n + 1 => hdNth l n
def hdFn : Option Stmt → Option (Arguments × List Stmt × Scope)
  | some (.FunctionDef _ p b _ _ _ s _ _ _) => some (p, b, s)
  | _ => none
def hdFn1 (i : Nat) : Option (Arguments × List Stmt × Scope) := hdFn (hdNth PySem.Challenge.rw_if0032_01.row.toRowW.1.main.body i)
def hdFn2 (i : Nat) : Option (Arguments × List Stmt × Scope) := match hdNth PySem.Challenge.rw_if0032_01.row.toRowW.1.main.body 2 with
  | some (.ClassDef _ _ _ b _ _ _ _ _ _ _) => hdFn (hdNth b i)
  | _ => none
end Mine
noncomputable def hdA.heap_39 : Params → Frag := by
  refine' (?f : (p45 : Arguments) → (b45 : List Stmt) → (s45 : Scope) → (Mine.hdFn2 0 = some (p45, b45, s45)) → (p52 : Arguments) → (b52 : List Stmt) → (s52 : Scope) → (Mine.hdFn2 1 = some (p52, b52, s52)) → (p66 : Arguments) → (b66 : List Stmt) → (s66 : Scope) → (Mine.hdFn1 3 = some (p66, b66, s66)) → (p73 : Arguments) → (b73 : List Stmt) → (s73 : Scope) → (Mine.hdFn1 4 = some (p73, b73, s73)) → (p80 : Arguments) → (b80 : List Stmt) → (s80 : Scope) → (Mine.hdFn1 5 = some (p80, b80, s80)) → (p88 : Arguments) → (b88 : List Stmt) → (s88 : Scope) → (Mine.hdFn1 7 = some (p88, b88, s88)) → (p95 : Arguments) → (b95 : List Stmt) → (s95 : Scope) → (Mine.hdFn1 8 = some (p95, b95, s95)) → (p102 : Arguments) → (b102 : List Stmt) → (s102 : Scope) → (Mine.hdFn1 9 = some (p102, b102, s102)) → (p109 : Arguments) → (b109 : List Stmt) → (s109 : Scope) → (Mine.hdFn1 10 = some (p109, b109, s109)) → (p137 : Arguments) → (b137 : List Stmt) → (s137 : Scope) → (Mine.hdFn1 23 = some (p137, b137, s137)) → (p145 : Arguments) → (b145 : List Stmt) → (s145 : Scope) → (Mine.hdFn1 24 = some (p145, b145, s145)) → (p157 : Arguments) → (b157 : List Stmt) → (s157 : Scope) → (Mine.hdFn1 28 = some (p157, b157, s157)) → (p164 : Arguments) → (b164 : List Stmt) → (s164 : Scope) → (Mine.hdFn1 29 = some (p164, b164, s164)) → (p171 : Arguments) → (b171 : List Stmt) → (s171 : Scope) → (Mine.hdFn1 31 = some (p171, b171, s171)) → (p178 : Arguments) → (b178 : List Stmt) → (s178 : Scope) → (Mine.hdFn1 32 = some (p178, b178, s178)) → (p183 : Arguments) → (b183 : List Stmt) → (s183 : Scope) → (Mine.hdFn1 34 = some (p183, b183, s183)) → (p188 : Arguments) → (b188 : List Stmt) → (s188 : Scope) → (Mine.hdFn1 35 = some (p188, b188, s188)) → (p195 : Arguments) → (b195 : List Stmt) → (s195 : Scope) → (Mine.hdFn1 36 = some (p195, b195, s195)) → (p200 : Arguments) → (b200 : List Stmt) → (s200 : Scope) → (Mine.hdFn1 37 = some (p200, b200, s200)) → (p205 : Arguments) → (b205 : List Stmt) → (s205 : Scope) → (Mine.hdFn1 38 = some (p205, b205, s205)) → (p210 : Arguments) → (b210 : List Stmt) → (s210 : Scope) → (Mine.hdFn1 39 = some (p210, b210, s210)) → (p215 : Arguments) → (b215 : List Stmt) → (s215 : Scope) → (Mine.hdFn1 40 = some (p215, b215, s215)) → (p220 : Arguments) → (b220 : List Stmt) → (s220 : Scope) → (Mine.hdFn1 41 = some (p220, b220, s220)) → (p225 : Arguments) → (b225 : List Stmt) → (s225 : Scope) → (Mine.hdFn1 42 = some (p225, b225, s225)) → (p230 : Arguments) → (b230 : List Stmt) → (s230 : Scope) → (Mine.hdFn1 43 = some (p230, b230, s230)) → Params → Frag) _ _ _ rfl _ _ _ rfl _ _ _ rfl _ _ _ rfl _ _ _ rfl _ _ _ rfl _ _ _ rfl _ _ _ rfl _ _ _ rfl _ _ _ rfl _ _ _ rfl _ _ _ rfl _ _ _ rfl _ _ _ rfl _ _ _ rfl _ _ _ rfl _ _ _ rfl _ _ _ rfl _ _ _ rfl _ _ _ rfl _ _ _ rfl _ _ _ rfl _ _ _ rfl _ _ _ rfl _ _ _ rfl
  exact fun p45 b45 s45 _ p52 b52 s52 _ p66 b66 s66 _ p73 b73 s73 _ p80 b80 s80 _ p88 b88 s88 _ p95 b95 s95 _ p102 b102 s102 _ p109 b109 s109 _ p137 b137 s137 _ p145 b145 s145 _ p157 b157 s157 _ p164 b164 s164 _ p171 b171 s171 _ p178 b178 s178 _ p183 b183 s183 _ p188 b188 s188 _ p195 b195 s195 _ p200 b200 s200 _ p205 b205 s205 _ p210 b210 s210 _ p215 b215 s215 _ p220 b220 s220 _ p225 b225 s225 _ p230 b230 s230 _ P =>
 (nat_lit 2, (⟨.none, .none, .dict #[⟨keyHash P "\x69mport.loaded._sre", .str "\x69mport.loaded._sre" 183, .bool .true⟩, ⟨keyHash P "class._frozen_importlib.BuiltinImporter", .str "class._frozen_importlib.BuiltinImporter" 185, .ref 14⟩, ⟨keyHash P "watched.\x69mport", .str "watched.\x69mport" 206, .ref 18⟩, ⟨keyHash P "class._frozen_importlib.ModuleSpec", .str "class._frozen_importlib.ModuleSpec" 216, .ref 22⟩, ⟨keyHash P "sys.modules.booked-epoch", .str "sys.modules.booked-epoch" 245, .int 3 0⟩, ⟨keyHash P "\x69mport.later-laid._sre", .str "\x69mport.later-laid._sre" 270, .bool .true⟩, ⟨keyHash P "watched.library", .str "watched.library" 272, .ref 27⟩, ⟨keyHash P "watched.library-objects", .str "watched.library-objects" 0, .str "\x0c" 0⟩, ⟨keyHash P "watched.library-deep._sre", .str "watched.library-deep._sre" 273, .str "\x04\x00\x00\x0b\x04\x00\x00\x0b\x04\x00\x00\x03\x04\x00\x00\x0b\x08\x04dict\x02" 0⟩] 9, #[]⟩ : Obj)) ::
 (nat_lit 3, (⟨.type "dict", .none, .dict #[⟨keyHash P "__name__", .str "__name__" 165, .str "law_if0032_01" 2047⟩, ⟨keyHash P "__doc__", .str "__doc__" 166, .none⟩, ⟨keyHash P "__package__", .str "__package__" 167, .none⟩, ⟨keyHash P "__loader__", .str "__loader__" 168, .builtin "__main__.__loader__#opaque"⟩, ⟨keyHash P "__spec__", .str "__spec__" 169, .none⟩, ⟨keyHash P "__annotations__", .str "__annotations__" 170, .ref 6⟩, ⟨keyHash P "__builtins__", .str "__builtins__" 171, .ref 4⟩, ⟨keyHash P "__file__", .str "__file__" 173, .str "/claim/cut.py" 172⟩, ⟨keyHash P "__cached__", .str "__cached__" 174, .none⟩, ⟨keyHash P "_sre", .str "_sre" 275, .ref 12⟩, ⟨keyHash P "TupleComp", .str "TupleComp" 325, .ref 55⟩, ⟨keyHash P "add_func_stats", .str "add_func_stats" 343, .ref 66⟩, ⟨keyHash P "add_callers", .str "add_callers" 354, .ref 73⟩, ⟨keyHash P "count_calls", .str "count_calls" 363, .ref 80⟩, ⟨keyHash P "compute_powers", .str "compute_powers" 385, .ref 88⟩, ⟨keyHash P "_str_to_int_inner", .str "_str_to_int_inner" 396, .ref 95⟩, ⟨keyHash P "int_from_string", .str "int_from_string" 403, .ref 102⟩, ⟨keyHash P "_int2digits", .str "_int2digits" 414, .ref 109⟩, ⟨keyHash P "_twin_re_1", .str "_twin_re_1" 449, .ref 114⟩, ⟨keyHash P "_QUOPRI_MAP", .str "_QUOPRI_MAP" 1477, .ref 117⟩, ⟨keyHash P "_QUOPRI_HEADER_MAP", .str "_QUOPRI_HEADER_MAP" 1478, .ref 122⟩, ⟨keyHash P "_QUOPRI_BODY_MAP", .str "_QUOPRI_BODY_MAP" 1479, .ref 124⟩, ⟨keyHash P "ascii_lowercase", .str "ascii_lowercase" 1481, .str "abcdefghijklmnopqrstuvwxyz" 1480⟩, ⟨keyHash P "ascii_uppercase", .str "ascii_uppercase" 1483, .str "ABCDEFGHIJKLMNOPQRSTUVWXYZ" 1482⟩, ⟨keyHash P "ascii_letters", .str "ascii_letters" 1485, .str "abcdefghijklmnopqrstuvwxyzABCDEFGHIJKLMNOPQRSTUVWXYZ" 1484⟩, ⟨keyHash P "digits", .str "digits" 1487, .str "0123456789" 1486⟩, ⟨keyHash P "unquote", .str "unquote" 1993, .ref 137⟩, ⟨keyHash P "header_encode", .str "header_encode" 2003, .ref 145⟩, ⟨keyHash P "_QUOPRI_BODY_ENCODE_MAP", .str "_QUOPRI_BODY_ENCODE_MAP" 2004, .ref 147⟩, ⟨keyHash P "_unquote_match", .str "_unquote_match" 2019, .ref 157⟩, ⟨keyHash P "header_decode", .str "header_decode" 2026, .ref 164⟩, ⟨keyHash P "ge", .str "ge" 2036, .ref 171⟩, ⟨keyHash P "indexOf", .str "indexOf" 2046, .ref 178⟩, ⟨keyHash P "_law_cells", .str "_law_cells" 2054, .ref 183⟩, ⟨keyHash P "_law_orders", .str "_law_orders" 2060, .ref 188⟩, ⟨keyHash P "_law_kings", .str "_law_kings" 2068, .ref 195⟩, ⟨keyHash P "_law_lies", .str "_law_lies" 2074, .ref 200⟩, ⟨keyHash P "_law_vote", .str "_law_vote" 2080, .ref 205⟩, ⟨keyHash P "_law_view", .str "_law_view" 2086, .ref 210⟩, ⟨keyHash P "_law_held", .str "_law_held" 2092, .ref 215⟩, ⟨keyHash P "_law_most", .str "_law_most" 2098, .ref 220⟩, ⟨keyHash P "_law_due", .str "_law_due" 2104, .ref 225⟩, ⟨keyHash P "law", .str "law" 2110, .ref 230⟩] 45, #[]⟩ : Obj)) ::
 (nat_lit 39, (⟨.type "tuple", .none, .seq #[] 0, #[]⟩ : Obj)) ::
 (nat_lit 41, (⟨.type "tuple", .none, .seq #[.str "self" 299, .str "comp_select_list" 300] 0, #[]⟩ : Obj)) ::
 (nat_lit 42, (⟨.type "tuple", .none, .seq #[] 0, #[]⟩ : Obj)) ::
 (nat_lit 44, (⟨.type "code", .none, .fields #[.str "__init__" 296, .str "TupleComp.__init__" 297, .str "/claim/cut.py" 298, .int 5 0, .int 2 0, .int 0 0, .int 0 0, .int 3 0, .ref 39, .bool .true, .int 276 0, .ref 40, .none, .ref 41, .ref 42, .ref 43, .int 301 0, .int 5 0, .str "/claim/cut.py" 302], #[]⟩ : Obj)) ::
 (nat_lit 45, (⟨.type "function", .none, .func ⟨"__init__", "TupleComp.__init__", p45, .stmts b45, s45, 3, [], .none, .none, .none, .str "cpy313.pstats" 282, .none, .ref 44, .none, 0⟩, #[]⟩ : Obj)) ::
 (nat_lit 46, (⟨.type "tuple", .none, .seq #[] 0, #[]⟩ : Obj)) ::
 (nat_lit 48, (⟨.type "tuple", .none, .seq #[.str "self" 307, .str "left" 308, .str "right" 309, .str "index" 310, .str "direction" 311, .str "l" 312, .str "r" 313] 0, #[]⟩ : Obj)) ::
 (nat_lit 49, (⟨.type "tuple", .none, .seq #[] 0, #[]⟩ : Obj)) ::
 (nat_lit 51, (⟨.type "code", .none, .fields #[.str "compare" 304, .str "TupleComp.compare" 305, .str "/claim/cut.py" 306, .int 8 0, .int 3 0, .int 0 0, .int 0 0, .int 3 0, .ref 46, .bool .true, .int 276 0, .ref 47, .none, .ref 48, .ref 49, .ref 50, .int 314 0, .int 8 0, .str "/claim/cut.py" 315], #[]⟩ : Obj)) ::
 (nat_lit 52, (⟨.type "function", .none, .func ⟨"compare", "TupleComp.compare", p52, .stmts b52, s52, 3, [], .none, .none, .none, .str "cpy313.pstats" 282, .none, .ref 51, .none, 0⟩, #[]⟩ : Obj)) ::
 (nat_lit 53, (⟨.type "tuple", .none, .seq #[.str "comp_select_list" 317] 0, #[]⟩ : Obj)) ::
 (nat_lit 54, (⟨.type "dict", .none, .dict #[⟨keyHash P "__module__", .str "__module__" 291, .str "cpy313.pstats" 282⟩, ⟨keyHash P "__firstlineno__", .str "__firstlineno__" 295, .int 3 294⟩, ⟨keyHash P "__init__", .str "__init__" 303, .ref 45⟩, ⟨keyHash P "compare", .str "compare" 316, .ref 52⟩, ⟨keyHash P "__static_attributes__", .str "__static_attributes__" 318, .ref 53⟩, ⟨keyHash P "__dict__", .str "__dict__" 320, .ref 56⟩, ⟨keyHash P "__weakref__", .str "__weakref__" 322, .ref 57⟩, ⟨keyHash P "__doc__", .str "__doc__" 323, .none⟩] 4, #[]⟩ : Obj)) ::
 (nat_lit 55, (⟨.type "type", .none, .cls ⟨"TupleComp", [.type "object"], [.ref 55, .type "object"], 54, "TupleComp", .true, [], [], .false, .none, .false⟩, #[.none, .none, .some (.str "TupleComp" 284), .some (.str "TupleComp" 292), .some (.builtin "object.__new__"), .some (.bool .true)]⟩ : Obj)) ::
 (nat_lit 56, (⟨.type "getset_descriptor", .none, .fields #[.str "__dict__" 319, .ref 55, .builtin "function.__dict__", .builtin "function.__dict__#set"], #[]⟩ : Obj)) ::
 (nat_lit 57, (⟨.type "getset_descriptor", .none, .fields #[.str "__weakref__" 321, .ref 55, .builtin "ExceptionGroup.__weakref__", .none], #[]⟩ : Obj)) ::
 (nat_lit 60, (⟨.type "tuple", .none, .seq #[] 0, #[]⟩ : Obj)) ::
 (nat_lit 62, (⟨.type "tuple", .none, .seq #[.str "target" 329, .str "source" 330, .str "cc" 331, .str "nc" 332, .str "tt" 333, .str "ct" 334, .str "callers" 335, .str "t_cc" 336, .str "t_nc" 337, .str "t_tt" 338, .str "t_ct" 339, .str "t_callers" 340] 0, #[]⟩ : Obj)) ::
 (nat_lit 63, (⟨.type "tuple", .none, .seq #[] 0, #[]⟩ : Obj)) ::
 (nat_lit 65, (⟨.type "code", .none, .fields #[.str "add_func_stats" 326, .str "add_func_stats" 327, .str "/claim/cut.py" 328, .int 17 0, .int 2 0, .int 0 0, .int 0 0, .int 3 0, .ref 60, .bool .true, .int 276 0, .ref 61, .none, .ref 62, .ref 63, .ref 64, .int 341 0, .int 17 0, .str "/claim/cut.py" 342], #[]⟩ : Obj)) ::
 (nat_lit 66, (⟨.type "function", .none, .func ⟨"add_func_stats", "add_func_stats", p66, .stmts b66, s66, 3, [], .none, .none, .none, .str "cpy313.pstats" 282, .none, .ref 65, .none, 0⟩, #[]⟩ : Obj)) ::
 (nat_lit 67, (⟨.type "tuple", .none, .seq #[] 0, #[]⟩ : Obj)) ::
 (nat_lit 69, (⟨.type "tuple", .none, .seq #[.str "target" 347, .str "source" 348, .str "new_callers" 349, .str "func" 350, .str "caller" 351] 0, #[]⟩ : Obj)) ::
 (nat_lit 70, (⟨.type "tuple", .none, .seq #[] 0, #[]⟩ : Obj)) ::
 (nat_lit 72, (⟨.type "code", .none, .fields #[.str "add_callers" 344, .str "add_callers" 345, .str "/claim/cut.py" 346, .int 21 0, .int 2 0, .int 0 0, .int 0 0, .int 3 0, .ref 67, .bool .true, .int 276 0, .ref 68, .none, .ref 69, .ref 70, .ref 71, .int 352 0, .int 21 0, .str "/claim/cut.py" 353], #[]⟩ : Obj)) ::
 (nat_lit 73, (⟨.type "function", .none, .func ⟨"add_callers", "add_callers", p73, .stmts b73, s73, 3, [], .none, .none, .none, .str "cpy313.pstats" 282, .none, .ref 72, .none, 0⟩, #[]⟩ : Obj)) ::
 (nat_lit 74, (⟨.type "tuple", .none, .seq #[] 0, #[]⟩ : Obj)) ::
 (nat_lit 76, (⟨.type "tuple", .none, .seq #[.str "callers" 358, .str "nc" 359, .str "calls" 360] 0, #[]⟩ : Obj)) ::
 (nat_lit 77, (⟨.type "tuple", .none, .seq #[] 0, #[]⟩ : Obj)) ::
 (nat_lit 79, (⟨.type "code", .none, .fields #[.str "count_calls" 355, .str "count_calls" 356, .str "/claim/cut.py" 357, .int 34 0, .int 1 0, .int 0 0, .int 0 0, .int 3 0, .ref 74, .bool .true, .int 276 0, .ref 75, .none, .ref 76, .ref 77, .ref 78, .int 361 0, .int 34 0, .str "/claim/cut.py" 362], #[]⟩ : Obj)) ::
 (nat_lit 80, (⟨.type "function", .none, .func ⟨"count_calls", "count_calls", p80, .stmts b80, s80, 3, [], .none, .none, .none, .str "cpy313.pstats" 282, .none, .ref 79, .none, 0⟩, #[]⟩ : Obj)) ::
 (nat_lit 81, (⟨.type "tuple", .none, .seq #[.bool .false] 0, #[]⟩ : Obj)) ::
 (nat_lit 82, (⟨.type "tuple", .none, .seq #[] 0, #[]⟩ : Obj)) ::
 (nat_lit 84, (⟨.type "tuple", .none, .seq #[.str "w" 369, .str "base" 370, .str "more_than" 371, .str "show" 372, .str "seen" 373, .str "need" 374, .str "ws" 375, .str "lo" 376, .str "d" 377, .str "it" 378, .str "first" 379, .str "this" 380, .str "hi" 381, .str "sq" 382] 0, #[]⟩ : Obj)) ::
 (nat_lit 85, (⟨.type "tuple", .none, .seq #[] 0, #[]⟩ : Obj)) ::
 (nat_lit 87, (⟨.type "code", .none, .fields #[.str "compute_powers" 366, .str "compute_powers" 367, .str "/claim/cut.py" 368, .int 40 0, .int 4 0, .int 0 0, .int 0 0, .int 3 0, .ref 82, .bool .true, .int 276 0, .ref 83, .none, .ref 84, .ref 85, .ref 86, .int 383 0, .int 40 0, .str "/claim/cut.py" 384], #[]⟩ : Obj)) ::
 (nat_lit 88, (⟨.type "function", .none, .func ⟨"compute_powers", "compute_powers", p88, .stmts b88, s88, 3, [], .ref 81, .none, .none, .str "cpy313._pylong" 364, .none, .ref 87, .none, 0⟩, #[]⟩ : Obj)) ::
 (nat_lit 89, (⟨.type "tuple", .none, .seq #[] 0, #[]⟩ : Obj)) ::
 (nat_lit 91, (⟨.type "tuple", .none, .seq #[.str "s" 389] 0, #[]⟩ : Obj)) ::
 (nat_lit 92, (⟨.type "tuple", .none, .seq #[.str "s" 390, .str "DIGLIM" 391, .str "inner" 392, .str "w5pow" 393] 0, #[]⟩ : Obj)) ::
 (nat_lit 94, (⟨.type "code", .none, .fields #[.str "_str_to_int_inner" 386, .str "_str_to_int_inner" 387, .str "/claim/cut.py" 388, .int 81 0, .int 1 0, .int 0 0, .int 0 0, .int 3 0, .ref 89, .bool .true, .int 276 0, .ref 90, .none, .ref 91, .ref 92, .ref 93, .int 394 0, .int 81 0, .str "/claim/cut.py" 395], #[]⟩ : Obj)) ::
 (nat_lit 95, (⟨.type "function", .none, .func ⟨"_str_to_int_inner", "_str_to_int_inner", p95, .stmts b95, s95, 3, [], .none, .none, .none, .str "cpy313._pylong" 364, .none, .ref 94, .none, 0⟩, #[]⟩ : Obj)) ::
 (nat_lit 96, (⟨.type "tuple", .none, .seq #[] 0, #[]⟩ : Obj)) ::
 (nat_lit 98, (⟨.type "tuple", .none, .seq #[.str "s" 400] 0, #[]⟩ : Obj)) ::
 (nat_lit 99, (⟨.type "tuple", .none, .seq #[] 0, #[]⟩ : Obj)) ::
 (nat_lit 101, (⟨.type "code", .none, .fields #[.str "int_from_string" 397, .str "int_from_string" 398, .str "/claim/cut.py" 399, .int 91 0, .int 1 0, .int 0 0, .int 0 0, .int 3 0, .ref 96, .bool .true, .int 276 0, .ref 97, .none, .ref 98, .ref 99, .ref 100, .int 401 0, .int 91 0, .str "/claim/cut.py" 402], #[]⟩ : Obj)) ::
 (nat_lit 102, (⟨.type "function", .none, .func ⟨"int_from_string", "int_from_string", p102, .stmts b102, s102, 3, [], .none, .none, .none, .str "cpy313._pylong" 364, .none, .ref 101, .none, 0⟩, #[]⟩ : Obj)) ::
 (nat_lit 103, (⟨.type "tuple", .none, .seq #[] 0, #[]⟩ : Obj)) ::
 (nat_lit 105, (⟨.type "tuple", .none, .seq #[.str "a" 407, .str "n" 408] 0, #[]⟩ : Obj)) ::
 (nat_lit 106, (⟨.type "tuple", .none, .seq #[.str "n" 409, .str "a_digits" 410, .str "inner" 411] 0, #[]⟩ : Obj)) ::
 (nat_lit 108, (⟨.type "code", .none, .fields #[.str "_int2digits" 404, .str "_int2digits" 405, .str "/claim/cut.py" 406, .int 94 0, .int 2 0, .int 0 0, .int 0 0, .int 3 0, .ref 103, .bool .true, .int 276 0, .ref 104, .none, .ref 105, .ref 106, .ref 107, .int 412 0, .int 94 0, .str "/claim/cut.py" 413], #[]⟩ : Obj)) ::
 (nat_lit 109, (⟨.type "function", .none, .func ⟨"_int2digits", "_int2digits", p109, .stmts b109, s109, 3, [], .none, .none, .none, .str "cpy313._pylong" 364, .none, .ref 108, .none, 0⟩, #[]⟩ : Obj)) ::
 (nat_lit 113, (⟨.type "tuple", .none, .seq #[.int 14 0, .int 8 0, .int 1 0, .int 3 0, .int 3 0, .int 1 0, .int 1 0, .int 61 0, .int 0 0, .int 16 0, .int 61 0, .int 24 0, .int 16 0, .int 2 0, .int 2 0, .int 13 0, .int 11 0, .int 9 0, .int 0 0, .int 67043328 0, .int 126 0, .int 126 0, .int 0 0, .int 0 0, .int 0 0, .int 0 0, .int 0 0, .int 1 0, .int 1 0] 0, #[]⟩ : Obj)) ::
 (nat_lit 114, (⟨.type "re.Pattern", .none, .fields #[.str "=[a-fA-F0-9]{2}" 416, .int 256 448, .int 0 0, .none, .none, .ref 113, .int 0 0], #[]⟩ : Obj)) ::
 (nat_lit 122, (⟨.type "list", .none, .seq (List.toArray (.str "=00" 456 :: .str "=01" 460 :: .str "=02" 464 :: .str "=03" 468 :: .str "=04" 472 :: .str "=05" 476 :: .str "=06" 480 :: .str "=07" 484 :: .str "=08" 488 :: .str "=09" 492 :: .str "=0A" 496 :: .str "=0B" 500 :: .str "=0C" 504 :: .str "=0D" 508 :: .str "=0E" 512 :: .str "=0F" 516 :: .str "=10" 520 :: .str "=11" 524 :: .str "=12" 528 :: .str "=13" 532 :: .str "=14" 536 :: .str "=15" 540 :: .str "=16" 544 :: .str "=17" 548 :: .str "=18" 552 :: .str "=19" 556 :: .str "=1A" 560 :: .str "=1B" 564 :: .str "=1C" 568 :: .str "=1D" 572 :: .str "=1E" 576 :: .str "=1F" 580 :: .str "_" 1698 :: .str "!" 1502 :: .str "=22" 592 :: .str "=23" 596 :: .str "=24" 600 :: .str "=25" 604 :: .str "=26" 608 :: .str "=27" 612 :: .str "=28" 616 :: .str "=29" 620 :: .str "*" 1505 :: .str "+" 1508 :: .str "=2C" 632 :: .str "-" 1499 :: .str "=2E" 640 :: .str "/" 1511 :: .str "0" 1670 :: .str "1" 1673 :: .str "2" 1676 :: .str "3" 1679 :: .str "4" 1682 :: .str "5" 1685 :: .str "6" 1688 :: .str "7" 1691 :: .str "8" 1694 :: .str "9" 1697 :: .str "=3A" 688 :: .str "=3B" 692 :: .str "=3C" 696 :: .str "=3D" 700 :: .str "=3E" 704 :: .str "=3F" 708 :: .str "=40" 712 :: .str "A" 1592 :: .str "B" 1595 :: .str "C" 1598 :: .str "D" 1601 :: .str "E" 1604 :: .str "F" 1607 :: .str "G" 1610 :: .str "H" 1613 :: .str "I" 1616 :: .str "J" 1619 :: .str "K" 1622 :: .str "L" 1625 :: .str "M" 1628 :: .str "N" 1631 :: .str "O" 1634 :: .str "P" 1637 :: .str "Q" 1640 :: .str "R" 1643 :: .str "S" 1646 :: .str "T" 1649 :: .str "U" 1652 :: .str "V" 1655 :: .str "W" 1658 :: .str "X" 1661 :: .str "Y" 1664 :: .str "Z" 1667 :: .str "=5B" 820 :: .str "=5C" 824 :: .str "=5D" 828 :: .str "=5E" 832 :: .str "=5F" 836 :: .str "=60" 840 :: .str "a" 1514 :: .str "b" 1517 :: .str "c" 1520 :: .str "d" 1523 :: .str "e" 1526 :: .str "f" 1529 :: .str "g" 1532 :: .str "h" 1535 :: .str "i" 1538 :: .str "j" 1541 :: .str "k" 1544 :: .str "l" 1547 :: .str "m" 1550 :: .str "n" 1553 :: .str "o" 1556 :: .str "p" 1559 :: .str "q" 1562 :: .str "r" 1565 :: .str "s" 1568 :: .str "t" 1571 :: .str "u" 1574 :: .str "v" 1577 :: .str "w" 1580 :: .str "x" 1583 :: .str "y" 1586 :: .str "z" 1589 :: .str "=7B" 948 :: .str "=7C" 952 :: .str "=7D" 956 :: .str "=7E" 960 :: .str "=7F" 964 :: .str "=80" 968 :: .str "=81" 972 :: .str "=82" 976 :: .str "=83" 980 :: .str "=84" 984 :: .str "=85" 988 :: .str "=86" 992 :: .str "=87" 996 :: .str "=88" 1000 :: .str "=89" 1004 :: .str "=8A" 1008 :: .str "=8B" 1012 :: .str "=8C" 1016 :: .str "=8D" 1020 :: .str "=8E" 1024 :: .str "=8F" 1028 :: .str "=90" 1032 :: .str "=91" 1036 :: .str "=92" 1040 :: .str "=93" 1044 :: .str "=94" 1048 :: .str "=95" 1052 :: .str "=96" 1056 :: .str "=97" 1060 :: .str "=98" 1064 :: .str "=99" 1068 :: .str "=9A" 1072 :: .str "=9B" 1076 :: .str "=9C" 1080 :: .str "=9D" 1084 :: .str "=9E" 1088 :: .str "=9F" 1092 :: .str "=A0" 1096 :: .str "=A1" 1100 :: .str "=A2" 1104 :: .str "=A3" 1108 :: .str "=A4" 1112 :: .str "=A5" 1116 :: .str "=A6" 1120 :: .str "=A7" 1124 :: .str "=A8" 1128 :: .str "=A9" 1132 :: .str "=AA" 1136 :: .str "=AB" 1140 :: .str "=AC" 1144 :: .str "=AD" 1148 :: .str "=AE" 1152 :: .str "=AF" 1156 :: .str "=B0" 1160 :: .str "=B1" 1164 :: .str "=B2" 1168 :: .str "=B3" 1172 :: .str "=B4" 1176 :: .str "=B5" 1180 :: .str "=B6" 1184 :: .str "=B7" 1188 :: .str "=B8" 1192 :: .str "=B9" 1196 :: .str "=BA" 1200 :: .str "=BB" 1204 :: .str "=BC" 1208 :: .str "=BD" 1212 :: .str "=BE" 1216 :: .str "=BF" 1220 :: .str "=C0" 1224 :: .str "=C1" 1228 :: .str "=C2" 1232 :: .str "=C3" 1236 :: .str "=C4" 1240 :: .str "=C5" 1244 :: .str "=C6" 1248 :: .str "=C7" 1252 :: .str "=C8" 1256 :: .str "=C9" 1260 :: .str "=CA" 1264 :: .str "=CB" 1268 :: .str "=CC" 1272 :: .str "=CD" 1276 :: .str "=CE" 1280 :: .str "=CF" 1284 :: .str "=D0" 1288 :: .str "=D1" 1292 :: .str "=D2" 1296 :: .str "=D3" 1300 :: .str "=D4" 1304 :: .str "=D5" 1308 :: .str "=D6" 1312 :: .str "=D7" 1316 :: .str "=D8" 1320 :: .str "=D9" 1324 :: .str "=DA" 1328 :: .str "=DB" 1332 :: .str "=DC" 1336 :: .str "=DD" 1340 :: .str "=DE" 1344 :: .str "=DF" 1348 :: .str "=E0" 1352 :: .str "=E1" 1356 :: .str "=E2" 1360 :: .str "=E3" 1364 :: .str "=E4" 1368 :: .str "=E5" 1372 :: .str "=E6" 1376 :: .str "=E7" 1380 :: .str "=E8" 1384 :: .str "=E9" 1388 :: .str "=EA" 1392 :: .str "=EB" 1396 :: .str "=EC" 1400 :: .str "=ED" 1404 :: .str "=EE" 1408 :: .str "=EF" 1412 :: .str "=F0" 1416 :: .str "=F1" 1420 :: .str "=F2" 1424 :: .str "=F3" 1428 :: .str "=F4" 1432 :: .str "=F5" 1436 :: .str "=F6" 1440 :: .str "=F7" 1444 :: .str "=F8" 1448 :: .str "=F9" 1452 :: .str "=FA" 1456 :: .str "=FB" 1460 :: .str "=FC" 1464 :: .str "=FD" 1468 :: .str "=FE" 1472 :: .str "=FF" 1476 :: [])) 0, #[]⟩ : Obj)) ::
 (nat_lit 131, (⟨.type "tuple", .none, .seq #[] 0, #[]⟩ : Obj)) ::
 (nat_lit 133, (⟨.type "tuple", .none, .seq #[.str "s" 1990] 0, #[]⟩ : Obj)) ::
 (nat_lit 134, (⟨.type "tuple", .none, .seq #[] 0, #[]⟩ : Obj)) ::
 (nat_lit 136, (⟨.type "code", .none, .fields #[.str "unquote" 1987, .str "unquote" 1988, .str "/claim/cut.py" 1989, .int 124 0, .int 1 0, .int 0 0, .int 0 0, .int 3 0, .ref 131, .bool .true, .int 276 0, .ref 132, .none, .ref 133, .ref 134, .ref 135, .int 1991 0, .int 124 0, .str "/claim/cut.py" 1992], #[]⟩ : Obj)) ::
 (nat_lit 137, (⟨.type "function", .none, .func ⟨"unquote", "unquote", p137, .stmts b137, s137, 3, [], .none, .none, .none, .str "cpy313.email.quoprimime" 1488, .none, .ref 136, .none, 0⟩, #[]⟩ : Obj)) ::
 (nat_lit 138, (⟨.type "tuple", .none, .seq #[.str "iso-8859-1" 1994] 0, #[]⟩ : Obj)) ::
 (nat_lit 139, (⟨.type "tuple", .none, .seq #[] 0, #[]⟩ : Obj)) ::
 (nat_lit 141, (⟨.type "tuple", .none, .seq #[.str "header_bytes" 1998, .str "charset" 1999, .str "encoded" 2000] 0, #[]⟩ : Obj)) ::
 (nat_lit 142, (⟨.type "tuple", .none, .seq #[] 0, #[]⟩ : Obj)) ::
 (nat_lit 144, (⟨.type "code", .none, .fields #[.str "header_encode" 1995, .str "header_encode" 1996, .str "/claim/cut.py" 1997, .int 126 0, .int 2 0, .int 0 0, .int 0 0, .int 3 0, .ref 139, .bool .true, .int 276 0, .ref 140, .none, .ref 141, .ref 142, .ref 143, .int 2001 0, .int 126 0, .str "/claim/cut.py" 2002], #[]⟩ : Obj)) ::
 (nat_lit 145, (⟨.type "function", .none, .func ⟨"header_encode", "header_encode", p145, .stmts b145, s145, 3, [], .ref 138, .none, .none, .str "cpy313.email.quoprimime" 1488, .none, .ref 144, .none, 0⟩, #[]⟩ : Obj)) ::
 (nat_lit 151, (⟨.type "tuple", .none, .seq #[] 0, #[]⟩ : Obj)) ::
 (nat_lit 153, (⟨.type "tuple", .none, .seq #[.str "match" 2015, .str "s" 2016] 0, #[]⟩ : Obj)) ::
 (nat_lit 154, (⟨.type "tuple", .none, .seq #[] 0, #[]⟩ : Obj)) ::
 (nat_lit 156, (⟨.type "code", .none, .fields #[.str "_unquote_match" 2012, .str "_unquote_match" 2013, .str "/claim/cut.py" 2014, .int 135 0, .int 1 0, .int 0 0, .int 0 0, .int 3 0, .ref 151, .bool .true, .int 276 0, .ref 152, .none, .ref 153, .ref 154, .ref 155, .int 2017 0, .int 135 0, .str "/claim/cut.py" 2018], #[]⟩ : Obj)) ::
 (nat_lit 157, (⟨.type "function", .none, .func ⟨"_unquote_match", "_unquote_match", p157, .stmts b157, s157, 3, [], .none, .none, .none, .str "cpy313.email.quoprimime" 1488, .none, .ref 156, .none, 0⟩, #[]⟩ : Obj)) ::
 (nat_lit 158, (⟨.type "tuple", .none, .seq #[] 0, #[]⟩ : Obj)) ::
 (nat_lit 160, (⟨.type "tuple", .none, .seq #[.str "s" 2023] 0, #[]⟩ : Obj)) ::
 (nat_lit 161, (⟨.type "tuple", .none, .seq #[] 0, #[]⟩ : Obj)) ::
 (nat_lit 163, (⟨.type "code", .none, .fields #[.str "header_decode" 2020, .str "header_decode" 2021, .str "/claim/cut.py" 2022, .int 138 0, .int 1 0, .int 0 0, .int 0 0, .int 3 0, .ref 158, .bool .true, .int 276 0, .ref 159, .none, .ref 160, .ref 161, .ref 162, .int 2024 0, .int 138 0, .str "/claim/cut.py" 2025], #[]⟩ : Obj)) ::
 (nat_lit 164, (⟨.type "function", .none, .func ⟨"header_decode", "header_decode", p164, .stmts b164, s164, 3, [], .none, .none, .none, .str "cpy313.email.quoprimime" 1488, .none, .ref 163, .none, 0⟩, #[]⟩ : Obj)) ::
 (nat_lit 165, (⟨.type "tuple", .none, .seq #[] 0, #[]⟩ : Obj)) ::
 (nat_lit 167, (⟨.type "tuple", .none, .seq #[.str "a" 2032, .str "b" 2033] 0, #[]⟩ : Obj)) ::
 (nat_lit 168, (⟨.type "tuple", .none, .seq #[] 0, #[]⟩ : Obj)) ::
 (nat_lit 170, (⟨.type "code", .none, .fields #[.str "ge" 2029, .str "ge" 2030, .str "/claim/cut.py" 2031, .int 142 0, .int 2 0, .int 0 0, .int 0 0, .int 3 0, .ref 165, .bool .true, .int 276 0, .ref 166, .none, .ref 167, .ref 168, .ref 169, .int 2034 0, .int 142 0, .str "/claim/cut.py" 2035], #[]⟩ : Obj)) ::
 (nat_lit 171, (⟨.type "function", .none, .func ⟨"ge", "ge", p171, .stmts b171, s171, 3, [], .none, .none, .none, .str "cpy313.operator" 2027, .none, .ref 170, .none, 0⟩, #[]⟩ : Obj)) ::
 (nat_lit 172, (⟨.type "tuple", .none, .seq #[] 0, #[]⟩ : Obj)) ::
 (nat_lit 174, (⟨.type "tuple", .none, .seq #[.str "a" 2040, .str "b" 2041, .str "i" 2042, .str "j" 2043] 0, #[]⟩ : Obj)) ::
 (nat_lit 175, (⟨.type "tuple", .none, .seq #[] 0, #[]⟩ : Obj)) ::
 (nat_lit 177, (⟨.type "code", .none, .fields #[.str "indexOf" 2037, .str "indexOf" 2038, .str "/claim/cut.py" 2039, .int 144 0, .int 2 0, .int 0 0, .int 0 0, .int 3 0, .ref 172, .bool .true, .int 276 0, .ref 173, .none, .ref 174, .ref 175, .ref 176, .int 2044 0, .int 144 0, .str "/claim/cut.py" 2045], #[]⟩ : Obj)) ::
 (nat_lit 178, (⟨.type "function", .none, .func ⟨"indexOf", "indexOf", p178, .stmts b178, s178, 3, [], .none, .none, .none, .str "cpy313.operator" 2027, .none, .ref 177, .none, 0⟩, #[]⟩ : Obj)) ::
 (nat_lit 179, (⟨.type "tuple", .none, .seq #[] 0, #[]⟩ : Obj)) ::
 (nat_lit 182, (⟨.type "code", .none, .fields #[.str "_law_cells" 2049, .str "_law_cells" 2050, .str "/claim/cut.py" 2051, .int 151 0, .int 1 0, .int 0 0, .int 0 0, .int 3 0, .ref 179, .bool .true, .int 276 0, .ref 180, .none, .none, .none, .ref 181, .int 2052 0, .int 151 0, .str "/claim/cut.py" 2053], #[]⟩ : Obj)) ::
 (nat_lit 183, (⟨.type "function", .none, .func ⟨"_law_cells", "_law_cells", p183, .stmts b183, s183, 3, [], .none, .none, .none, .str "law_if0032_01" 2047, .none, .ref 182, .none, 0⟩, #[]⟩ : Obj)) ::
 (nat_lit 184, (⟨.type "tuple", .none, .seq #[] 0, #[]⟩ : Obj)) ::
 (nat_lit 187, (⟨.type "code", .none, .fields #[.str "_law_orders" 2055, .str "_law_orders" 2056, .str "/claim/cut.py" 2057, .int 154 0, .int 1 0, .int 0 0, .int 0 0, .int 3 0, .ref 184, .bool .true, .int 276 0, .ref 185, .none, .none, .none, .ref 186, .int 2058 0, .int 154 0, .str "/claim/cut.py" 2059], #[]⟩ : Obj)) ::
 (nat_lit 188, (⟨.type "function", .none, .func ⟨"_law_orders", "_law_orders", p188, .stmts b188, s188, 3, [], .none, .none, .none, .str "law_if0032_01" 2047, .none, .ref 187, .none, 0⟩, #[]⟩ : Obj)) ::
 (nat_lit 189, (⟨.type "tuple", .none, .seq #[] 0, #[]⟩ : Obj)) ::
 (nat_lit 191, (⟨.type "tuple", .none, .seq #[.str "cells" 2064, .str "first" 2065] 0, #[]⟩ : Obj)) ::
 (nat_lit 192, (⟨.type "tuple", .none, .seq #[] 0, #[]⟩ : Obj)) ::
 (nat_lit 194, (⟨.type "code", .none, .fields #[.str "_law_kings" 2061, .str "_law_kings" 2062, .str "/claim/cut.py" 2063, .int 156 0, .int 1 0, .int 0 0, .int 0 0, .int 3 0, .ref 189, .bool .true, .int 276 0, .ref 190, .none, .ref 191, .ref 192, .ref 193, .int 2066 0, .int 156 0, .str "/claim/cut.py" 2067], #[]⟩ : Obj)) ::
 (nat_lit 195, (⟨.type "function", .none, .func ⟨"_law_kings", "_law_kings", p195, .stmts b195, s195, 3, [], .none, .none, .none, .str "law_if0032_01" 2047, .none, .ref 194, .none, 0⟩, #[]⟩ : Obj)) ::
 (nat_lit 196, (⟨.type "tuple", .none, .seq #[] 0, #[]⟩ : Obj)) ::
 (nat_lit 199, (⟨.type "code", .none, .fields #[.str "_law_lies" 2069, .str "_law_lies" 2070, .str "/claim/cut.py" 2071, .int 159 0, .int 2 0, .int 0 0, .int 0 0, .int 3 0, .ref 196, .bool .true, .int 276 0, .ref 197, .none, .none, .none, .ref 198, .int 2072 0, .int 159 0, .str "/claim/cut.py" 2073], #[]⟩ : Obj)) ::
 (nat_lit 200, (⟨.type "function", .none, .func ⟨"_law_lies", "_law_lies", p200, .stmts b200, s200, 3, [], .none, .none, .none, .str "law_if0032_01" 2047, .none, .ref 199, .none, 0⟩, #[]⟩ : Obj)) ::
 (nat_lit 201, (⟨.type "tuple", .none, .seq #[] 0, #[]⟩ : Obj)) ::
 (nat_lit 204, (⟨.type "code", .none, .fields #[.str "_law_vote" 2075, .str "_law_vote" 2076, .str "/claim/cut.py" 2077, .int 161 0, .int 5 0, .int 0 0, .int 0 0, .int 3 0, .ref 201, .bool .true, .int 276 0, .ref 202, .none, .none, .none, .ref 203, .int 2078 0, .int 161 0, .str "/claim/cut.py" 2079], #[]⟩ : Obj)) ::
 (nat_lit 205, (⟨.type "function", .none, .func ⟨"_law_vote", "_law_vote", p205, .stmts b205, s205, 3, [], .none, .none, .none, .str "law_if0032_01" 2047, .none, .ref 204, .none, 0⟩, #[]⟩ : Obj)) ::
 (nat_lit 206, (⟨.type "tuple", .none, .seq #[] 0, #[]⟩ : Obj)) ::
 (nat_lit 209, (⟨.type "code", .none, .fields #[.str "_law_view" 2081, .str "_law_view" 2082, .str "/claim/cut.py" 2083, .int 181 0, .int 4 0, .int 0 0, .int 0 0, .int 3 0, .ref 206, .bool .true, .int 276 0, .ref 207, .none, .none, .none, .ref 208, .int 2084 0, .int 181 0, .str "/claim/cut.py" 2085], #[]⟩ : Obj)) ::
 (nat_lit 210, (⟨.type "function", .none, .func ⟨"_law_view", "_law_view", p210, .stmts b210, s210, 3, [], .none, .none, .none, .str "law_if0032_01" 2047, .none, .ref 209, .none, 0⟩, #[]⟩ : Obj)) ::
 (nat_lit 211, (⟨.type "tuple", .none, .seq #[] 0, #[]⟩ : Obj)) ::
 (nat_lit 214, (⟨.type "code", .none, .fields #[.str "_law_held" 2087, .str "_law_held" 2088, .str "/claim/cut.py" 2089, .int 204 0, .int 1 0, .int 0 0, .int 0 0, .int 3 0, .ref 211, .bool .true, .int 276 0, .ref 212, .none, .none, .none, .ref 213, .int 2090 0, .int 204 0, .str "/claim/cut.py" 2091], #[]⟩ : Obj)) ::
 (nat_lit 215, (⟨.type "function", .none, .func ⟨"_law_held", "_law_held", p215, .stmts b215, s215, 3, [], .none, .none, .none, .str "law_if0032_01" 2047, .none, .ref 214, .none, 0⟩, #[]⟩ : Obj)) ::
 (nat_lit 216, (⟨.type "tuple", .none, .seq #[] 0, #[]⟩ : Obj)) ::
 (nat_lit 219, (⟨.type "code", .none, .fields #[.str "_law_most" 2093, .str "_law_most" 2094, .str "/claim/cut.py" 2095, .int 230 0, .int 2 0, .int 0 0, .int 0 0, .int 3 0, .ref 216, .bool .true, .int 276 0, .ref 217, .none, .none, .none, .ref 218, .int 2096 0, .int 230 0, .str "/claim/cut.py" 2097], #[]⟩ : Obj)) ::
 (nat_lit 220, (⟨.type "function", .none, .func ⟨"_law_most", "_law_most", p220, .stmts b220, s220, 3, [], .none, .none, .none, .str "law_if0032_01" 2047, .none, .ref 219, .none, 0⟩, #[]⟩ : Obj)) ::
 (nat_lit 221, (⟨.type "tuple", .none, .seq #[] 0, #[]⟩ : Obj)) ::
 (nat_lit 224, (⟨.type "code", .none, .fields #[.str "_law_due" 2099, .str "_law_due" 2100, .str "/claim/cut.py" 2101, .int 234 0, .int 1 0, .int 0 0, .int 0 0, .int 3 0, .ref 221, .bool .true, .int 276 0, .ref 222, .none, .none, .none, .ref 223, .int 2102 0, .int 234 0, .str "/claim/cut.py" 2103], #[]⟩ : Obj)) ::
 (nat_lit 225, (⟨.type "function", .none, .func ⟨"_law_due", "_law_due", p225, .stmts b225, s225, 3, [], .none, .none, .none, .str "law_if0032_01" 2047, .none, .ref 224, .none, 0⟩, #[]⟩ : Obj)) ::
 (nat_lit 226, (⟨.type "tuple", .none, .seq #[] 0, #[]⟩ : Obj)) ::
 (nat_lit 229, (⟨.type "code", .none, .fields #[.str "law" 2105, .str "law" 2106, .str "/claim/cut.py" 2107, .int 247 0, .int 1 0, .int 0 0, .int 0 0, .int 3 0, .ref 226, .bool .true, .int 276 0, .ref 227, .none, .none, .none, .ref 228, .int 2108 0, .int 247 0, .str "/claim/cut.py" 2109], #[]⟩ : Obj)) ::
 (nat_lit 230, (⟨.type "function", .none, .func ⟨"law", "law", p230, .stmts b230, s230, 3, [], .none, .none, .none, .str "law_if0032_01" 2047, .none, .ref 229, .none, 0⟩, #[]⟩ : Obj)) :: []
namespace Mine
noncomputable def hdNf (o : Obj) : Obj := match o with | ⟨_, _, .func f, _⟩ => ⟨.none, none, .func ⟨f.name, f.qualname, f.params, f.body, f.scope, 0, [], .none, .none, .none, .none, .none, .none, .none, 0⟩, #[]⟩ | o => o
noncomputable def hdGet : Frag → Nat → Obj | [], _ => default | p :: r, b => match Nat.beq p.1 b with | true => p.2 | false => hdGet r b
noncomputable def hdMrg : Nat → Nat → Frag → List Obj → List Obj
  | 0, _, _, _ => []
  | n + 1, i, [], [] => []
  | n + 1, i, [], o :: l => o :: hdMrg n (i + 1) [] l
  | n + 1, i, p :: K, l => match Nat.beq p.1 i with
    | true => p.2 :: hdMrg n (i + 1) K l
    | false => match l with | [] => [] | o :: l' => o :: hdMrg n (i + 1) (p :: K) l'
noncomputable def hdRest (P : Params) : List Obj :=
  (⟨.type "dict", .none, .dict (List.toArray (⟨keyHash P "__name__", .str "__name__" 1, .str "builtins" 160⟩ :: ⟨keyHash P "__doc__", .str "__doc__" 2, .builtin "builtins.__doc__:str#opaque"⟩ :: ⟨keyHash P "__package__", .str "__package__" 3, .builtin "builtins.__package__:str#opaque"⟩ :: ⟨keyHash P "__loader__", .str "__loader__" 4, .builtin "builtins.__loader__:shared#opaque"⟩ :: ⟨keyHash P "__spec__", .str "__spec__" 5, .builtin "builtins.__spec__#opaque"⟩ :: ⟨keyHash P "__build_class__", .str "__build_class__" 6, .builtin "__build_class__"⟩ :: ⟨keyHash P "__import__", .str "__import__" 7, .builtin "__import__"⟩ :: ⟨keyHash P "abs", .str "abs" 8, .builtin "abs"⟩ :: ⟨keyHash P "all", .str "all" 9, .builtin "all"⟩ :: ⟨keyHash P "any", .str "any" 10, .builtin "any"⟩ :: ⟨keyHash P "ascii", .str "ascii" 11, .builtin "ascii"⟩ :: ⟨keyHash P "bin", .str "bin" 12, .builtin "bin"⟩ :: ⟨keyHash P "breakpoint", .str "breakpoint" 13, .builtin "breakpoint"⟩ :: ⟨keyHash P "callable", .str "callable" 14, .builtin "callable"⟩ :: ⟨keyHash P "chr", .str "chr" 15, .builtin "chr"⟩ :: ⟨keyHash P "compile", .str "compile" 16, .builtin "compile"⟩ :: ⟨keyHash P "delattr", .str "delattr" 17, .builtin "delattr"⟩ :: ⟨keyHash P "dir", .str "dir" 18, .builtin "dir"⟩ :: ⟨keyHash P "divmod", .str "divmod" 19, .builtin "divmod"⟩ :: ⟨keyHash P "eval", .str "eval" 20, .builtin "eval"⟩ :: ⟨keyHash P "exec", .str "exec" 21, .builtin "exec"⟩ :: ⟨keyHash P "format", .str "format" 22, .builtin "format"⟩ :: ⟨keyHash P "getattr", .str "getattr" 23, .builtin "getattr"⟩ :: ⟨keyHash P "globals", .str "globals" 24, .builtin "globals"⟩ :: ⟨keyHash P "hasattr", .str "hasattr" 25, .builtin "hasattr"⟩ :: ⟨keyHash P "hash", .str "hash" 26, .builtin "hash"⟩ :: ⟨keyHash P "hex", .str "hex" 27, .builtin "hex"⟩ :: ⟨keyHash P "id", .str "id" 28, .builtin "id"⟩ :: ⟨keyHash P "input", .str "input" 29, .builtin "input"⟩ :: ⟨keyHash P "isinstance", .str "isinstance" 30, .builtin "isinstance"⟩ :: ⟨keyHash P "issubclass", .str "issubclass" 31, .builtin "issubclass"⟩ :: ⟨keyHash P "iter", .str "iter" 32, .builtin "iter"⟩ :: ⟨keyHash P "aiter", .str "aiter" 33, .builtin "aiter"⟩ :: ⟨keyHash P "len", .str "len" 34, .builtin "len"⟩ :: ⟨keyHash P "locals", .str "locals" 35, .builtin "locals"⟩ :: ⟨keyHash P "max", .str "max" 36, .builtin "max"⟩ :: ⟨keyHash P "min", .str "min" 37, .builtin "min"⟩ :: ⟨keyHash P "next", .str "next" 38, .builtin "next"⟩ :: ⟨keyHash P "anext", .str "anext" 39, .builtin "anext"⟩ :: ⟨keyHash P "oct", .str "oct" 40, .builtin "oct"⟩ :: ⟨keyHash P "ord", .str "ord" 41, .builtin "ord"⟩ :: ⟨keyHash P "pow", .str "pow" 42, .builtin "pow"⟩ :: ⟨keyHash P "print", .str "print" 43, .builtin "print"⟩ :: ⟨keyHash P "repr", .str "repr" 44, .builtin "repr"⟩ :: ⟨keyHash P "round", .str "round" 45, .builtin "round"⟩ :: ⟨keyHash P "setattr", .str "setattr" 46, .builtin "setattr"⟩ :: ⟨keyHash P "sorted", .str "sorted" 47, .builtin "sorted"⟩ :: ⟨keyHash P "sum", .str "sum" 48, .builtin "sum"⟩ :: ⟨keyHash P "vars", .str "vars" 49, .builtin "vars"⟩ :: ⟨keyHash P "None", .str "None" 50, .none⟩ :: ⟨keyHash P "Ellipsis", .str "Ellipsis" 51, .ellipsis⟩ :: ⟨keyHash P "NotImplemented", .str "NotImplemented" 52, .notImplemented⟩ :: ⟨keyHash P "False", .str "False" 53, .bool .false⟩ :: ⟨keyHash P "True", .str "True" 54, .bool .true⟩ :: ⟨keyHash P "bool", .str "bool" 55, .type "bool"⟩ :: ⟨keyHash P "memoryview", .str "memoryview" 56, .type "memoryview"⟩ :: ⟨keyHash P "bytearray", .str "bytearray" 57, .type "bytearray"⟩ :: ⟨keyHash P "bytes", .str "bytes" 58, .type "bytes"⟩ :: ⟨keyHash P "classmethod", .str "classmethod" 59, .type "classmethod"⟩ :: ⟨keyHash P "complex", .str "complex" 60, .type "complex"⟩ :: ⟨keyHash P "dict", .str "dict" 61, .type "dict"⟩ :: ⟨keyHash P "enumerate", .str "enumerate" 62, .type "enumerate"⟩ :: ⟨keyHash P "filter", .str "filter" 63, .type "filter"⟩ :: ⟨keyHash P "float", .str "float" 64, .type "float"⟩ :: ⟨keyHash P "frozenset", .str "frozenset" 65, .type "frozenset"⟩ :: ⟨keyHash P "property", .str "property" 66, .type "property"⟩ :: ⟨keyHash P "int", .str "int" 67, .type "int"⟩ :: ⟨keyHash P "list", .str "list" 68, .type "list"⟩ :: ⟨keyHash P "map", .str "map" 69, .type "map"⟩ :: ⟨keyHash P "object", .str "object" 70, .type "object"⟩ :: ⟨keyHash P "range", .str "range" 71, .type "range"⟩ :: ⟨keyHash P "reversed", .str "reversed" 72, .type "reversed"⟩ :: ⟨keyHash P "set", .str "set" 73, .type "set"⟩ :: ⟨keyHash P "slice", .str "slice" 74, .type "slice"⟩ :: ⟨keyHash P "staticmethod", .str "staticmethod" 75, .type "staticmethod"⟩ :: ⟨keyHash P "str", .str "str" 76, .type "str"⟩ :: ⟨keyHash P "super", .str "super" 77, .type "super"⟩ :: ⟨keyHash P "tuple", .str "tuple" 78, .type "tuple"⟩ :: ⟨keyHash P "type", .str "type" 79, .type "type"⟩ :: ⟨keyHash P "zip", .str "zip" 80, .type "zip"⟩ :: ⟨keyHash P "__debug__", .str "__debug__" 81, .bool .true⟩ :: ⟨keyHash P "BaseException", .str "BaseException" 82, .type "BaseException"⟩ :: ⟨keyHash P "BaseExceptionGroup", .str "BaseExceptionGroup" 83, .type "BaseExceptionGroup"⟩ :: ⟨keyHash P "Exception", .str "Exception" 84, .type "Exception"⟩ :: ⟨keyHash P "GeneratorExit", .str "GeneratorExit" 85, .type "GeneratorExit"⟩ :: ⟨keyHash P "KeyboardInterrupt", .str "KeyboardInterrupt" 86, .type "KeyboardInterrupt"⟩ :: ⟨keyHash P "SystemExit", .str "SystemExit" 87, .type "SystemExit"⟩ :: ⟨keyHash P "ArithmeticError", .str "ArithmeticError" 88, .type "ArithmeticError"⟩ :: ⟨keyHash P "AssertionError", .str "AssertionError" 89, .type "AssertionError"⟩ :: ⟨keyHash P "AttributeError", .str "AttributeError" 90, .type "AttributeError"⟩ :: ⟨keyHash P "BufferError", .str "BufferError" 91, .type "BufferError"⟩ :: ⟨keyHash P "EOFError", .str "EOFError" 92, .type "EOFError"⟩ :: ⟨keyHash P "ImportError", .str "ImportError" 93, .type "ImportError"⟩ :: ⟨keyHash P "LookupError", .str "LookupError" 94, .type "LookupError"⟩ :: ⟨keyHash P "MemoryError", .str "MemoryError" 95, .type "MemoryError"⟩ :: ⟨keyHash P "NameError", .str "NameError" 96, .type "NameError"⟩ :: ⟨keyHash P "OSError", .str "OSError" 97, .type "OSError"⟩ :: ⟨keyHash P "ReferenceError", .str "ReferenceError" 98, .type "ReferenceError"⟩ :: ⟨keyHash P "RuntimeError", .str "RuntimeError" 99, .type "RuntimeError"⟩ :: ⟨keyHash P "StopAsyncIteration", .str "StopAsyncIteration" 100, .type "StopAsyncIteration"⟩ :: ⟨keyHash P "StopIteration", .str "StopIteration" 101, .type "StopIteration"⟩ :: ⟨keyHash P "SyntaxError", .str "SyntaxError" 102, .type "SyntaxError"⟩ :: ⟨keyHash P "SystemError", .str "SystemError" 103, .type "SystemError"⟩ :: ⟨keyHash P "TypeError", .str "TypeError" 104, .type "TypeError"⟩ :: ⟨keyHash P "ValueError", .str "ValueError" 105, .type "ValueError"⟩ :: ⟨keyHash P "Warning", .str "Warning" 106, .type "Warning"⟩ :: ⟨keyHash P "FloatingPointError", .str "FloatingPointError" 107, .type "FloatingPointError"⟩ :: ⟨keyHash P "OverflowError", .str "OverflowError" 108, .type "OverflowError"⟩ :: ⟨keyHash P "ZeroDivisionError", .str "ZeroDivisionError" 109, .type "ZeroDivisionError"⟩ :: ⟨keyHash P "BytesWarning", .str "BytesWarning" 110, .type "BytesWarning"⟩ :: ⟨keyHash P "DeprecationWarning", .str "DeprecationWarning" 111, .type "DeprecationWarning"⟩ :: ⟨keyHash P "EncodingWarning", .str "EncodingWarning" 112, .type "EncodingWarning"⟩ :: ⟨keyHash P "FutureWarning", .str "FutureWarning" 113, .type "FutureWarning"⟩ :: ⟨keyHash P "ImportWarning", .str "ImportWarning" 114, .type "ImportWarning"⟩ :: ⟨keyHash P "PendingDeprecationWarning", .str "PendingDeprecationWarning" 115, .type "PendingDeprecationWarning"⟩ :: ⟨keyHash P "ResourceWarning", .str "ResourceWarning" 116, .type "ResourceWarning"⟩ :: ⟨keyHash P "RuntimeWarning", .str "RuntimeWarning" 117, .type "RuntimeWarning"⟩ :: ⟨keyHash P "SyntaxWarning", .str "SyntaxWarning" 118, .type "SyntaxWarning"⟩ :: ⟨keyHash P "UnicodeWarning", .str "UnicodeWarning" 119, .type "UnicodeWarning"⟩ :: ⟨keyHash P "UserWarning", .str "UserWarning" 120, .type "UserWarning"⟩ :: ⟨keyHash P "BlockingIOError", .str "BlockingIOError" 121, .type "BlockingIOError"⟩ :: ⟨keyHash P "ChildProcessError", .str "ChildProcessError" 122, .type "ChildProcessError"⟩ :: ⟨keyHash P "ConnectionError", .str "ConnectionError" 123, .type "ConnectionError"⟩ :: ⟨keyHash P "FileExistsError", .str "FileExistsError" 124, .type "FileExistsError"⟩ :: ⟨keyHash P "FileNotFoundError", .str "FileNotFoundError" 125, .type "FileNotFoundError"⟩ :: ⟨keyHash P "InterruptedError", .str "InterruptedError" 126, .type "InterruptedError"⟩ :: ⟨keyHash P "IsADirectoryError", .str "IsADirectoryError" 127, .type "IsADirectoryError"⟩ :: ⟨keyHash P "NotADirectoryError", .str "NotADirectoryError" 128, .type "NotADirectoryError"⟩ :: ⟨keyHash P "PermissionError", .str "PermissionError" 129, .type "PermissionError"⟩ :: ⟨keyHash P "ProcessLookupError", .str "ProcessLookupError" 130, .type "ProcessLookupError"⟩ :: ⟨keyHash P "TimeoutError", .str "TimeoutError" 131, .type "TimeoutError"⟩ :: ⟨keyHash P "IndentationError", .str "IndentationError" 132, .type "IndentationError"⟩ :: ⟨keyHash P "_IncompleteInputError", .str "_IncompleteInputError" 133, .type "_IncompleteInputError"⟩ :: ⟨keyHash P "IndexError", .str "IndexError" 134, .type "IndexError"⟩ :: ⟨keyHash P "KeyError", .str "KeyError" 135, .type "KeyError"⟩ :: ⟨keyHash P "ModuleNotFoundError", .str "ModuleNotFoundError" 136, .type "ModuleNotFoundError"⟩ :: ⟨keyHash P "NotImplementedError", .str "NotImplementedError" 137, .type "NotImplementedError"⟩ :: ⟨keyHash P "PythonFinalizationError", .str "PythonFinalizationError" 138, .type "PythonFinalizationError"⟩ :: ⟨keyHash P "RecursionError", .str "RecursionError" 139, .type "RecursionError"⟩ :: ⟨keyHash P "UnboundLocalError", .str "UnboundLocalError" 140, .type "UnboundLocalError"⟩ :: ⟨keyHash P "UnicodeError", .str "UnicodeError" 141, .type "UnicodeError"⟩ :: ⟨keyHash P "BrokenPipeError", .str "BrokenPipeError" 142, .type "BrokenPipeError"⟩ :: ⟨keyHash P "ConnectionAbortedError", .str "ConnectionAbortedError" 143, .type "ConnectionAbortedError"⟩ :: ⟨keyHash P "ConnectionRefusedError", .str "ConnectionRefusedError" 144, .type "ConnectionRefusedError"⟩ :: ⟨keyHash P "ConnectionResetError", .str "ConnectionResetError" 145, .type "ConnectionResetError"⟩ :: ⟨keyHash P "TabError", .str "TabError" 146, .type "TabError"⟩ :: ⟨keyHash P "UnicodeDecodeError", .str "UnicodeDecodeError" 147, .type "UnicodeDecodeError"⟩ :: ⟨keyHash P "UnicodeEncodeError", .str "UnicodeEncodeError" 148, .type "UnicodeEncodeError"⟩ :: ⟨keyHash P "UnicodeTranslateError", .str "UnicodeTranslateError" 149, .type "UnicodeTranslateError"⟩ :: ⟨keyHash P "ExceptionGroup", .str "ExceptionGroup" 150, .type "ExceptionGroup"⟩ :: ⟨keyHash P "EnvironmentError", .str "EnvironmentError" 151, .type "OSError"⟩ :: ⟨keyHash P "IOError", .str "IOError" 152, .type "OSError"⟩ :: ⟨keyHash P "open", .str "open" 153, .builtin "open"⟩ :: ⟨keyHash P "quit", .str "quit" 154, .builtin "builtins.quit#opaque"⟩ :: ⟨keyHash P "exit", .str "exit" 155, .builtin "builtins.exit#opaque"⟩ :: ⟨keyHash P "copyright", .str "copyright" 156, .builtin "builtins.copyright#opaque"⟩ :: ⟨keyHash P "credits", .str "credits" 157, .builtin "builtins.credits#opaque"⟩ :: ⟨keyHash P "license", .str "license" 158, .builtin "builtins.license#opaque"⟩ :: ⟨keyHash P "help", .str "help" 159, .builtin "builtins.help#opaque"⟩ :: [])) 159, #[]⟩ : Obj) ::
  (⟨.type "dict", .none, .dict #[⟨keyHash P "builtins", .str "builtins" 162, .ref 4⟩, ⟨keyHash P "__main__", .str "__main__" 163, .ref 5⟩, ⟨keyHash P "_sre", .str "_sre" 244, .ref 12⟩] 3, #[]⟩ : Obj) ::
  (⟨.type "module", .some 0, .plain, #[]⟩ : Obj) ::
  (⟨.type "module", .some 3, .plain, #[]⟩ : Obj) ::
  (⟨.type "dict", .none, .dict #[] 0, #[]⟩ : Obj) ::
  (⟨.type "tuple", .none, .seq #[] 0, #[]⟩ : Obj) ::
  (⟨.none, .none, .fields #[], #[]⟩ : Obj) ::
  (⟨.type "code", .none, .fields #[.str "<module>" 176, .str "<module>" 177, .str "/claim/cut.py" 178, .int 1 0, .int 0 0, .int 0 0, .int 0 0, .int 0 0, .ref 7, .bool .false, .int 175 0, .ref 8, .none, .none, .none, .none, .int 179 0, .int 1 0, .str "/claim/cut.py" 180], #[]⟩ : Obj) ::
  (⟨.type "frame", .none, .plain, #[.some (.ref 9), .some (.ref 3), .some (.ref 3), .none, .some (.str "__main__" 164), .none, .some (.ref 0)]⟩ : Obj) ::
  (⟨.type "dict", .none, .dict #[⟨keyHash P "__name__", .str "__name__" 247, .str "_sre" 246⟩, ⟨keyHash P "__doc__", .str "__doc__" 248, .none⟩, ⟨keyHash P "__package__", .str "__package__" 250, .str "" 249⟩, ⟨keyHash P "__loader__", .str "__loader__" 251, .builtin "off-the-table:_sre.__loader__:shared#opaque"⟩, ⟨keyHash P "__spec__", .str "__spec__" 252, .builtin "off-the-table:_sre.__spec__:shared#opaque"⟩, ⟨keyHash P "compile", .str "compile" 253, .builtin "_sre.compile"⟩, ⟨keyHash P "template", .str "template" 254, .builtin "off-the-table:_sre.template:shared#opaque"⟩, ⟨keyHash P "getcodesize", .str "getcodesize" 255, .builtin "off-the-table:_sre.getcodesize:shared#opaque"⟩, ⟨keyHash P "ascii_iscased", .str "ascii_iscased" 256, .builtin "off-the-table:_sre.ascii_iscased:shared#opaque"⟩, ⟨keyHash P "unicode_iscased", .str "unicode_iscased" 257, .builtin "off-the-table:_sre.unicode_iscased:shared#opaque"⟩, ⟨keyHash P "ascii_tolower", .str "ascii_tolower" 258, .builtin "off-the-table:_sre.ascii_tolower:shared#opaque"⟩, ⟨keyHash P "unicode_tolower", .str "unicode_tolower" 259, .builtin "off-the-table:_sre.unicode_tolower:shared#opaque"⟩, ⟨keyHash P "MAGIC", .str "MAGIC" 261, .int 20230612 260⟩, ⟨keyHash P "CODESIZE", .str "CODESIZE" 263, .int 4 262⟩, ⟨keyHash P "MAXREPEAT", .str "MAXREPEAT" 265, .int 4294967295 264⟩, ⟨keyHash P "MAXGROUPS", .str "MAXGROUPS" 267, .int 1073741823 266⟩, ⟨keyHash P "copyright", .str "copyright" 269, .str " SRE 2.2.2 Copyright (c) 1997-2002 by Secret Labs AB " 268⟩] 17, #[]⟩ : Obj) ::
  (⟨.type "module", .some 11, .plain, #[]⟩ : Obj) ::
  (⟨.type "dict", .none, .dict #[⟨keyHash P "__module__", .str "__module__" 189, .str "_frozen_importlib" 186⟩, ⟨keyHash P "__firstlineno__", .str "__firstlineno__" 190, .int 971 187⟩, ⟨keyHash P "__doc__", .str "__doc__" 191, .builtin "_frozen_importlib.BuiltinImporter.__doc__:str#opaque"⟩, ⟨keyHash P "_ORIGIN", .str "_ORIGIN" 192, .str "built-in" 188⟩, ⟨keyHash P "find_spec", .str "find_spec" 193, .builtin "_frozen_importlib.BuiltinImporter.find_spec#opaque"⟩, ⟨keyHash P "create_module", .str "create_module" 194, .builtin "_frozen_importlib.BuiltinImporter.create_module#opaque"⟩, ⟨keyHash P "exec_module", .str "exec_module" 195, .builtin "_frozen_importlib.BuiltinImporter.exec_module#opaque"⟩, ⟨keyHash P "get_code", .str "get_code" 196, .builtin "_frozen_importlib.BuiltinImporter.get_code#opaque"⟩, ⟨keyHash P "get_source", .str "get_source" 197, .builtin "_frozen_importlib.BuiltinImporter.get_source#opaque"⟩, ⟨keyHash P "is_package", .str "is_package" 198, .builtin "_frozen_importlib.BuiltinImporter.is_package#opaque"⟩, ⟨keyHash P "load_module", .str "load_module" 199, .builtin "_frozen_importlib.BuiltinImporter.load_module#opaque"⟩, ⟨keyHash P "__static_attributes__", .str "__static_attributes__" 200, .ref 15⟩, ⟨keyHash P "__dict__", .str "__dict__" 202, .ref 16⟩, ⟨keyHash P "__weakref__", .str "__weakref__" 204, .ref 17⟩] 14, #[]⟩ : Obj) ::
  (⟨.type "type", .none, .cls ⟨"BuiltinImporter", [.type "object"], [.ref 14, .type "object"], 13, "BuiltinImporter", .true, [], [], .false, .none, .false⟩, #[]⟩ : Obj) ::
  (⟨.type "tuple", .none, .seq #[] 0, #[]⟩ : Obj) ::
  (⟨.type "getset_descriptor", .none, .fields #[.str "__dict__" 201, .ref 14, .builtin "function.__dict__", .builtin "function.__dict__#set"], #[]⟩ : Obj) ::
  (⟨.type "getset_descriptor", .none, .fields #[.str "__weakref__" 203, .ref 14, .builtin "ExceptionGroup.__weakref__", .none], #[]⟩ : Obj) ::
  (⟨.none, .none, .seq #[.int 13 0, .str "\x06\xbd\n__module__\x06\xba\x11_frozen_importlib\x06\xbe\x0f__firstlineno__\x04\xbb\x00\u03cb\x06\xbf\x07__doc__\t4_frozen_importlib.BuiltinImporter.__doc__:str#opaque\x06\xc0\x07_ORIGIN\x06\xbc\x08built-in\x06\xc1\tfind_spec\t2_frozen_importlib.BuiltinImporter.find_spec#opaque\x06\xc2\rcreate_module\t6_frozen_importlib.BuiltinImporter.create_module#opaque\x06\xc3\x0bexec_module\t4_frozen_importlib.BuiltinImporter.exec_module#opaque\x06\xc4\x08get_code\t1_frozen_importlib.BuiltinImporter.get_code#opaque\x06\xc5\nget_source\t3_frozen_importlib.BuiltinImporter.get_source#opaque\x06\xc6\nis_package\t3_frozen_importlib.BuiltinImporter.is_package#opaque\x06\xc7\x0bload_module\t4_frozen_importlib.BuiltinImporter.load_module#opaque\x06\xc8\x15__static_attributes__\x04\x00\x00\x0f\x06\xca\x08__dict__\x04\x00\x00\x10\x06\xcc\x0b__weakref__\x04\x00\x00\x11" 0, .bool .true, .bool .true, .str "" 205, .int 21 0, .str "\x06\xe3\n__module__\x06\xd9\x11_frozen_importlib\x06\xe4\x0f__firstlineno__\x04\xda\x00\u0232\x06\xe5\x07__doc__\t/_frozen_importlib.ModuleSpec.__doc__:str#opaque\x06\xe6\x08__init__\t,_frozen_importlib.ModuleSpec.__init__#opaque\x06\xe7\x08__repr__\t,_frozen_importlib.ModuleSpec.__repr__#opaque\x06\xe8\x06__eq__\t*_frozen_importlib.ModuleSpec.__eq__#opaque\x06\xe9\x06cached\t*_frozen_importlib.ModuleSpec.cached#opaque\x06\xea\x06parent\t*_frozen_importlib.ModuleSpec.parent#opaque\x06\xeb\x0chas_location\t0_frozen_importlib.ModuleSpec.has_location#opaque\x06\xec\x15__static_attributes__\x04\x00\x00\x17\x06\xee\x08__dict__\x04\x00\x00\x18\x06\xf0\x0b__weakref__\x04\x00\x00\x19\x06\xf1\x08__hash__\x00" 0, .bool .true, .bool .true, .str "" 242] 1, #[]⟩ : Obj) ::
  (⟨.type "list", .none, .seq #[] 0, #[]⟩ : Obj) ::
  (⟨.type "dict", .none, .dict #[⟨keyHash P "name", .str "name" 208, .str "_sre" 207⟩, ⟨keyHash P "loader", .str "loader" 209, .ref 14⟩, ⟨keyHash P "origin", .str "origin" 210, .str "built-in" 184⟩, ⟨keyHash P "loader_state", .str "loader_state" 211, .none⟩, ⟨keyHash P "submodule_search_locations", .str "submodule_search_locations" 212, .none⟩, ⟨keyHash P "_uninitialized_submodules", .str "_uninitialized_submodules" 213, .ref 19⟩, ⟨keyHash P "_set_fileattr", .str "_set_fileattr" 214, .bool .false⟩, ⟨keyHash P "_cached", .str "_cached" 215, .none⟩, ⟨keyHash P "_initializing", .str "_initializing" 243, .bool .false⟩] 9, #[]⟩ : Obj) ::
  (⟨.type "dict", .none, .dict #[⟨keyHash P "__module__", .str "__module__" 227, .str "_frozen_importlib" 217⟩, ⟨keyHash P "__firstlineno__", .str "__firstlineno__" 228, .int 562 218⟩, ⟨keyHash P "__doc__", .str "__doc__" 229, .builtin "_frozen_importlib.ModuleSpec.__doc__:str#opaque"⟩, ⟨keyHash P "__init__", .str "__init__" 230, .builtin "_frozen_importlib.ModuleSpec.__init__#opaque"⟩, ⟨keyHash P "__repr__", .str "__repr__" 231, .builtin "_frozen_importlib.ModuleSpec.__repr__#opaque"⟩, ⟨keyHash P "__eq__", .str "__eq__" 232, .builtin "_frozen_importlib.ModuleSpec.__eq__#opaque"⟩, ⟨keyHash P "cached", .str "cached" 233, .builtin "_frozen_importlib.ModuleSpec.cached#opaque"⟩, ⟨keyHash P "parent", .str "parent" 234, .builtin "_frozen_importlib.ModuleSpec.parent#opaque"⟩, ⟨keyHash P "has_location", .str "has_location" 235, .builtin "_frozen_importlib.ModuleSpec.has_location#opaque"⟩, ⟨keyHash P "__static_attributes__", .str "__static_attributes__" 236, .ref 23⟩, ⟨keyHash P "__dict__", .str "__dict__" 238, .ref 24⟩, ⟨keyHash P "__weakref__", .str "__weakref__" 240, .ref 25⟩, ⟨keyHash P "__hash__", .str "__hash__" 241, .none⟩] 13, #[]⟩ : Obj) ::
  (⟨.type "type", .none, .cls ⟨"ModuleSpec", [.type "object"], [.ref 22, .type "object"], 21, "ModuleSpec", .true, [], [], .false, .none, .false⟩, #[]⟩ : Obj) ::
  (⟨.type "tuple", .none, .seq #[.str "_cached" 219, .str "_set_fileattr" 220, .str "_uninitialized_submodules" 221, .str "loader" 222, .str "loader_state" 223, .str "name" 224, .str "origin" 225, .str "submodule_search_locations" 226] 0, #[]⟩ : Obj) ::
  (⟨.type "getset_descriptor", .none, .fields #[.str "__dict__" 237, .ref 22, .builtin "function.__dict__", .builtin "function.__dict__#set"], #[]⟩ : Obj) ::
  (⟨.type "getset_descriptor", .none, .fields #[.str "__weakref__" 239, .ref 22, .builtin "ExceptionGroup.__weakref__", .none], #[]⟩ : Obj) ::
  (⟨.ref 22, .some 20, .plain, #[]⟩ : Obj) ::
  (⟨.none, .none, .seq #[.int 11 0, .str ⟨(List.toArray (6 :: 247 :: 8 :: 95 :: 95 :: 110 :: 97 :: 109 :: 101 :: 95 :: 95 :: 6 :: 246 :: 4 :: 95 :: 115 :: 114 :: 101 :: 6 :: 248 :: 7 :: 95 :: 95 :: 100 :: 111 :: 99 :: 95 :: 95 :: 0 :: 6 :: 250 :: 11 :: 95 :: 95 :: 112 :: 97 :: 99 :: 107 :: 97 :: 103 :: 101 :: 95 :: 95 :: 6 :: 249 :: 0 :: 6 :: 251 :: 10 :: 95 :: 95 :: 108 :: 111 :: 97 :: 100 :: 101 :: 114 :: 95 :: 95 :: 4 :: 0 :: 0 :: 14 :: 6 :: 252 :: 8 :: 95 :: 95 :: 115 :: 112 :: 101 :: 99 :: 95 :: 95 :: 4 :: 0 :: 0 :: 26 :: 6 :: 253 :: 7 :: 99 :: 111 :: 109 :: 112 :: 105 :: 108 :: 101 :: 9 :: 12 :: 95 :: 115 :: 114 :: 101 :: 46 :: 99 :: 111 :: 109 :: 112 :: 105 :: 108 :: 101 :: 6 :: 254 :: 8 :: 116 :: 101 :: 109 :: 112 :: 108 :: 97 :: 116 :: 101 :: 9 :: 13 :: 95 :: 115 :: 114 :: 101 :: 46 :: 116 :: 101 :: 109 :: 112 :: 108 :: 97 :: 116 :: 101 :: 6 :: 255 :: 11 :: 103 :: 101 :: 116 :: 99 :: 111 :: 100 :: 101 :: 115 :: 105 :: 122 :: 101 :: 9 :: 16 :: 95 :: 115 :: 114 :: 101 :: 46 :: 103 :: 101 :: 116 :: 99 :: 111 :: 100 :: 101 :: 115 :: 105 :: 122 :: 101 :: 6 :: 256 :: 13 :: 97 :: 115 :: 99 :: 105 :: 105 :: 95 :: 105 :: 115 :: 99 :: 97 :: 115 :: 101 :: 100 :: 9 :: 18 :: 95 :: 115 :: 114 :: 101 :: 46 :: 97 :: 115 :: 99 :: 105 :: 105 :: 95 :: 105 :: 115 :: 99 :: 97 :: 115 :: 101 :: 100 :: 6 :: 257 :: 15 :: 117 :: 110 :: 105 :: 99 :: 111 :: 100 :: 101 :: 95 :: 105 :: 115 :: 99 :: 97 :: 115 :: 101 :: 100 :: 9 :: 20 :: 95 :: 115 :: 114 :: 101 :: 46 :: 117 :: 110 :: 105 :: 99 :: 111 :: 100 :: 101 :: 95 :: 105 :: 115 :: 99 :: 97 :: 115 :: 101 :: 100 :: 6 :: 258 :: 13 :: 97 :: 115 :: 99 :: 105 :: 105 :: 95 :: 116 :: 111 :: 108 :: 111 :: 119 :: 101 :: 114 :: 9 :: 18 :: 95 :: 115 :: 114 :: 101 :: 46 :: 97 :: 115 :: 99 :: 105 :: 105 :: 95 :: 116 :: 111 :: 108 :: 111 :: 119 :: 101 :: 114 :: 6 :: 259 :: 15 :: 117 :: 110 :: 105 :: 99 :: 111 :: 100 :: 101 :: 95 :: 116 :: 111 :: 108 :: 111 :: 119 :: 101 :: 114 :: 9 :: 20 :: 95 :: 115 :: 114 :: 101 :: 46 :: 117 :: 110 :: 105 :: 99 :: 111 :: 100 :: 101 :: 95 :: 116 :: 111 :: 108 :: 111 :: 119 :: 101 :: 114 :: 6 :: 261 :: 5 :: 77 :: 65 :: 71 :: 73 :: 67 :: 4 :: 260 :: 0 :: 20230612 :: 6 :: 263 :: 8 :: 67 :: 79 :: 68 :: 69 :: 83 :: 73 :: 90 :: 69 :: 4 :: 262 :: 0 :: 4 :: 6 :: 265 :: 9 :: 77 :: 65 :: 88 :: 82 :: 69 :: 80 :: 69 :: 65 :: 84 :: 4 :: 264 :: 0 :: 4294967295 :: 6 :: 267 :: 9 :: 77 :: 65 :: 88 :: 71 :: 82 :: 79 :: 85 :: 80 :: 83 :: 4 :: 266 :: 0 :: 1073741823 :: 6 :: 269 :: 9 :: 99 :: 111 :: 112 :: 121 :: 114 :: 105 :: 103 :: 104 :: 116 :: 6 :: 268 :: 53 :: 32 :: 83 :: 82 :: 69 :: 32 :: 50 :: 46 :: 50 :: 46 :: 50 :: 32 :: 67 :: 111 :: 112 :: 121 :: 114 :: 105 :: 103 :: 104 :: 116 :: 32 :: 40 :: 99 :: 41 :: 32 :: 49 :: 57 :: 57 :: 55 :: 45 :: 50 :: 48 :: 48 :: 50 :: 32 :: 98 :: 121 :: 32 :: 83 :: 101 :: 99 :: 114 :: 101 :: 116 :: 32 :: 76 :: 97 :: 98 :: 115 :: 32 :: 65 :: 66 :: 32 :: []))⟩ 0, .bool .true, .bool .false, .str "_sre" 271] 0, #[]⟩ : Obj) ::
  (⟨.type "tuple", .none, .seq #[] 0, #[]⟩ : Obj) ::
  (⟨.none, .none, .fields (List.toArray (.int 3 0 :: .int 0 0 :: .ref 37 :: .int 17 0 :: .int 0 0 :: .ref 65 :: .int 21 0 :: .int 0 0 :: .ref 72 :: .int 34 0 :: .int 0 0 :: .ref 79 :: .int 40 0 :: .int 0 0 :: .ref 87 :: .int 81 0 :: .int 0 0 :: .ref 94 :: .int 91 0 :: .int 0 0 :: .ref 101 :: .int 94 0 :: .int 0 0 :: .ref 108 :: .int 124 0 :: .int 0 0 :: .ref 136 :: .int 126 0 :: .int 0 0 :: .ref 144 :: .int 135 0 :: .int 0 0 :: .ref 156 :: .int 138 0 :: .int 0 0 :: .ref 163 :: .int 142 0 :: .int 0 0 :: .ref 170 :: .int 144 0 :: .int 0 0 :: .ref 177 :: .int 151 0 :: .int 0 0 :: .ref 182 :: .int 154 0 :: .int 0 0 :: .ref 187 :: .int 156 0 :: .int 0 0 :: .ref 194 :: .int 159 0 :: .int 0 0 :: .ref 199 :: .int 161 0 :: .int 0 0 :: .ref 204 :: .int 181 0 :: .int 0 0 :: .ref 209 :: .int 204 0 :: .int 0 0 :: .ref 214 :: .int 230 0 :: .int 0 0 :: .ref 219 :: .int 234 0 :: .int 0 0 :: .ref 224 :: .int 247 0 :: .int 0 0 :: .ref 229 :: [])), #[]⟩ : Obj) ::
  (⟨.type "code", .none, .fields #[.str "<module>" 277, .str "<module>" 278, .str "/claim/cut.py" 279, .int 1 0, .int 0 0, .int 0 0, .int 0 0, .int 0 0, .ref 28, .bool .false, .int 276 0, .ref 29, .none, .none, .none, .none, .int 280 0, .int 1 0, .str "/claim/cut.py" 281], #[]⟩ : Obj) ::
  (⟨.type "frame", .none, .plain, #[.some (.ref 30), .some (.ref 3), .some (.ref 3), .none, .some (.str "__main__" 164), .none, .some (.ref 0)]⟩ : Obj) ::
  (⟨.type "tuple", .none, .seq #[] 0, #[]⟩ : Obj) ::
  (⟨.type "builtin_function_or_method", .none, .fields #[.builtin "type.__prepare__", .type "type"], #[]⟩ : Obj) ::
  (⟨.type "dict", .none, .dict #[⟨keyHash P "__module__", .str "__module__" 291, .str "cpy313.pstats" 282⟩, ⟨keyHash P "__qualname__", .str "__qualname__" 293, .str "TupleComp" 292⟩, ⟨keyHash P "__firstlineno__", .str "__firstlineno__" 295, .int 3 294⟩, ⟨keyHash P "__init__", .str "__init__" 303, .ref 45⟩, ⟨keyHash P "compare", .str "compare" 316, .ref 52⟩, ⟨keyHash P "__static_attributes__", .str "__static_attributes__" 318, .ref 53⟩] 6, #[]⟩ : Obj) ::
  (⟨.type "tuple", .none, .seq #[] 0, #[]⟩ : Obj) ::
  (⟨.none, .none, .fields #[.int 5 0, .int 4 0, .ref 44, .int 8 0, .int 4 0, .ref 51], #[]⟩ : Obj) ::
  (⟨.type "code", .none, .fields #[.str "TupleComp" 286, .str "TupleComp" 287, .str "/claim/cut.py" 288, .int 3 0, .int 0 0, .int 0 0, .int 0 0, .int 0 0, .ref 35, .bool .false, .int 276 0, .ref 36, .none, .none, .none, .none, .int 289 0, .int 3 0, .str "/claim/cut.py" 290], #[]⟩ : Obj) ::
  (⟨.type "frame", .none, .plain, #[.some (.ref 37), .some (.ref 3), .some (.ref 34), .none, .some (.str "cpy313.pstats" 282), .none, .some (.ref 0)]⟩ : Obj) ::
  (⟨.none, .none, .fields #[], #[]⟩ : Obj) ::
  hdNf (hdGet (hdA.heap_39 P) 45) ::
  (⟨.none, .none, .fields #[], #[]⟩ : Obj) ::
  hdNf (hdGet (hdA.heap_39 P) 52) ::
  (⟨.type "super", .none, .fields #[.ref 55, .ref 55, .ref 55], #[]⟩ : Obj) ::
  (⟨.type "builtin_function_or_method", .none, .fields #[.builtin "object.__init_subclass__", .ref 55], #[]⟩ : Obj) ::
  (⟨.none, .none, .fields #[], #[]⟩ : Obj) ::
  hdNf (hdGet (hdA.heap_39 P) 66) ::
  (⟨.none, .none, .fields #[], #[]⟩ : Obj) ::
  hdNf (hdGet (hdA.heap_39 P) 73) ::
  (⟨.none, .none, .fields #[], #[]⟩ : Obj) ::
  hdNf (hdGet (hdA.heap_39 P) 80) ::
  (⟨.none, .none, .fields #[], #[]⟩ : Obj) ::
  hdNf (hdGet (hdA.heap_39 P) 88) ::
  (⟨.none, .none, .fields #[], #[]⟩ : Obj) ::
  hdNf (hdGet (hdA.heap_39 P) 95) ::
  (⟨.none, .none, .fields #[], #[]⟩ : Obj) ::
  hdNf (hdGet (hdA.heap_39 P) 102) ::
  (⟨.none, .none, .fields #[], #[]⟩ : Obj) ::
  hdNf (hdGet (hdA.heap_39 P) 109) ::
  (⟨.type "list", .none, .seq #[.int 14 418, .int 8 419, .int 1 420, .int 3 421, .int 3 422, .int 1 423, .int 1 424, .int 61 425, .int 0 426, .int 16 427, .int 61 428, .int 24 429, .int 16 430, .int 2 431, .int 2 432, .int 13 433, .int 11 434, .int 9 435, .int 0 436, .int 67043328 437, .int 126 438, .int 126 439, .int 0 440, .int 0 441, .int 0 442, .int 0 443, .int 0 444, .int 1 445, .int 1 446] 0, #[]⟩ : Obj) ::
  (⟨.type "dict", .none, .dict #[] 0, #[]⟩ : Obj) ::
  (⟨.type "tuple", .none, .seq #[.none] 0, #[]⟩ : Obj) ::
  (⟨.type "range", .none, .fields #[.int 0 451, .int 256 450, .int 1 452], #[]⟩ : Obj) ::
  (⟨.type "range_iterator", .none, .fields #[.int 256 0, .int 0 0, .int 1 0], #[]⟩ : Obj) ::
  (⟨.type "list", .none, .seq (List.toArray (.str "=00" 456 :: .str "=01" 460 :: .str "=02" 464 :: .str "=03" 468 :: .str "=04" 472 :: .str "=05" 476 :: .str "=06" 480 :: .str "=07" 484 :: .str "=08" 488 :: .str "=09" 492 :: .str "=0A" 496 :: .str "=0B" 500 :: .str "=0C" 504 :: .str "=0D" 508 :: .str "=0E" 512 :: .str "=0F" 516 :: .str "=10" 520 :: .str "=11" 524 :: .str "=12" 528 :: .str "=13" 532 :: .str "=14" 536 :: .str "=15" 540 :: .str "=16" 544 :: .str "=17" 548 :: .str "=18" 552 :: .str "=19" 556 :: .str "=1A" 560 :: .str "=1B" 564 :: .str "=1C" 568 :: .str "=1D" 572 :: .str "=1E" 576 :: .str "=1F" 580 :: .str "=20" 584 :: .str "=21" 588 :: .str "=22" 592 :: .str "=23" 596 :: .str "=24" 600 :: .str "=25" 604 :: .str "=26" 608 :: .str "=27" 612 :: .str "=28" 616 :: .str "=29" 620 :: .str "=2A" 624 :: .str "=2B" 628 :: .str "=2C" 632 :: .str "=2D" 636 :: .str "=2E" 640 :: .str "=2F" 644 :: .str "=30" 648 :: .str "=31" 652 :: .str "=32" 656 :: .str "=33" 660 :: .str "=34" 664 :: .str "=35" 668 :: .str "=36" 672 :: .str "=37" 676 :: .str "=38" 680 :: .str "=39" 684 :: .str "=3A" 688 :: .str "=3B" 692 :: .str "=3C" 696 :: .str "=3D" 700 :: .str "=3E" 704 :: .str "=3F" 708 :: .str "=40" 712 :: .str "=41" 716 :: .str "=42" 720 :: .str "=43" 724 :: .str "=44" 728 :: .str "=45" 732 :: .str "=46" 736 :: .str "=47" 740 :: .str "=48" 744 :: .str "=49" 748 :: .str "=4A" 752 :: .str "=4B" 756 :: .str "=4C" 760 :: .str "=4D" 764 :: .str "=4E" 768 :: .str "=4F" 772 :: .str "=50" 776 :: .str "=51" 780 :: .str "=52" 784 :: .str "=53" 788 :: .str "=54" 792 :: .str "=55" 796 :: .str "=56" 800 :: .str "=57" 804 :: .str "=58" 808 :: .str "=59" 812 :: .str "=5A" 816 :: .str "=5B" 820 :: .str "=5C" 824 :: .str "=5D" 828 :: .str "=5E" 832 :: .str "=5F" 836 :: .str "=60" 840 :: .str "=61" 844 :: .str "=62" 848 :: .str "=63" 852 :: .str "=64" 856 :: .str "=65" 860 :: .str "=66" 864 :: .str "=67" 868 :: .str "=68" 872 :: .str "=69" 876 :: .str "=6A" 880 :: .str "=6B" 884 :: .str "=6C" 888 :: .str "=6D" 892 :: .str "=6E" 896 :: .str "=6F" 900 :: .str "=70" 904 :: .str "=71" 908 :: .str "=72" 912 :: .str "=73" 916 :: .str "=74" 920 :: .str "=75" 924 :: .str "=76" 928 :: .str "=77" 932 :: .str "=78" 936 :: .str "=79" 940 :: .str "=7A" 944 :: .str "=7B" 948 :: .str "=7C" 952 :: .str "=7D" 956 :: .str "=7E" 960 :: .str "=7F" 964 :: .str "=80" 968 :: .str "=81" 972 :: .str "=82" 976 :: .str "=83" 980 :: .str "=84" 984 :: .str "=85" 988 :: .str "=86" 992 :: .str "=87" 996 :: .str "=88" 1000 :: .str "=89" 1004 :: .str "=8A" 1008 :: .str "=8B" 1012 :: .str "=8C" 1016 :: .str "=8D" 1020 :: .str "=8E" 1024 :: .str "=8F" 1028 :: .str "=90" 1032 :: .str "=91" 1036 :: .str "=92" 1040 :: .str "=93" 1044 :: .str "=94" 1048 :: .str "=95" 1052 :: .str "=96" 1056 :: .str "=97" 1060 :: .str "=98" 1064 :: .str "=99" 1068 :: .str "=9A" 1072 :: .str "=9B" 1076 :: .str "=9C" 1080 :: .str "=9D" 1084 :: .str "=9E" 1088 :: .str "=9F" 1092 :: .str "=A0" 1096 :: .str "=A1" 1100 :: .str "=A2" 1104 :: .str "=A3" 1108 :: .str "=A4" 1112 :: .str "=A5" 1116 :: .str "=A6" 1120 :: .str "=A7" 1124 :: .str "=A8" 1128 :: .str "=A9" 1132 :: .str "=AA" 1136 :: .str "=AB" 1140 :: .str "=AC" 1144 :: .str "=AD" 1148 :: .str "=AE" 1152 :: .str "=AF" 1156 :: .str "=B0" 1160 :: .str "=B1" 1164 :: .str "=B2" 1168 :: .str "=B3" 1172 :: .str "=B4" 1176 :: .str "=B5" 1180 :: .str "=B6" 1184 :: .str "=B7" 1188 :: .str "=B8" 1192 :: .str "=B9" 1196 :: .str "=BA" 1200 :: .str "=BB" 1204 :: .str "=BC" 1208 :: .str "=BD" 1212 :: .str "=BE" 1216 :: .str "=BF" 1220 :: .str "=C0" 1224 :: .str "=C1" 1228 :: .str "=C2" 1232 :: .str "=C3" 1236 :: .str "=C4" 1240 :: .str "=C5" 1244 :: .str "=C6" 1248 :: .str "=C7" 1252 :: .str "=C8" 1256 :: .str "=C9" 1260 :: .str "=CA" 1264 :: .str "=CB" 1268 :: .str "=CC" 1272 :: .str "=CD" 1276 :: .str "=CE" 1280 :: .str "=CF" 1284 :: .str "=D0" 1288 :: .str "=D1" 1292 :: .str "=D2" 1296 :: .str "=D3" 1300 :: .str "=D4" 1304 :: .str "=D5" 1308 :: .str "=D6" 1312 :: .str "=D7" 1316 :: .str "=D8" 1320 :: .str "=D9" 1324 :: .str "=DA" 1328 :: .str "=DB" 1332 :: .str "=DC" 1336 :: .str "=DD" 1340 :: .str "=DE" 1344 :: .str "=DF" 1348 :: .str "=E0" 1352 :: .str "=E1" 1356 :: .str "=E2" 1360 :: .str "=E3" 1364 :: .str "=E4" 1368 :: .str "=E5" 1372 :: .str "=E6" 1376 :: .str "=E7" 1380 :: .str "=E8" 1384 :: .str "=E9" 1388 :: .str "=EA" 1392 :: .str "=EB" 1396 :: .str "=EC" 1400 :: .str "=ED" 1404 :: .str "=EE" 1408 :: .str "=EF" 1412 :: .str "=F0" 1416 :: .str "=F1" 1420 :: .str "=F2" 1424 :: .str "=F3" 1428 :: .str "=F4" 1432 :: .str "=F5" 1436 :: .str "=F6" 1440 :: .str "=F7" 1444 :: .str "=F8" 1448 :: .str "=F9" 1452 :: .str "=FA" 1456 :: .str "=FB" 1460 :: .str "=FC" 1464 :: .str "=FD" 1468 :: .str "=FE" 1472 :: .str "=FF" 1476 :: [])) 256, #[]⟩ : Obj) ::
  (⟨.type "dict", .none, .dict #[] 2, #[]⟩ : Obj) ::
  (⟨.type "tuple", .none, .seq #[] 0, #[]⟩ : Obj) ::
  (⟨.type "StopIteration", .none, .fields #[.ref 119, .none, .none, .none, .bool .false, .none], #[]⟩ : Obj) ::
  (⟨.type "slice", .none, .fields #[.none, .none, .none], #[]⟩ : Obj) ::
  (⟨.type "slice", .none, .fields #[.none, .none, .none], #[]⟩ : Obj) ::
  (⟨.type "list", .none, .seq (List.toArray (.str "=00" 456 :: .str "=01" 460 :: .str "=02" 464 :: .str "=03" 468 :: .str "=04" 472 :: .str "=05" 476 :: .str "=06" 480 :: .str "=07" 484 :: .str "=08" 488 :: .str "\t" 1986 :: .str "=0A" 496 :: .str "=0B" 500 :: .str "=0C" 504 :: .str "=0D" 508 :: .str "=0E" 512 :: .str "=0F" 516 :: .str "=10" 520 :: .str "=11" 524 :: .str "=12" 528 :: .str "=13" 532 :: .str "=14" 536 :: .str "=15" 540 :: .str "=16" 544 :: .str "=17" 548 :: .str "=18" 552 :: .str "=19" 556 :: .str "=1A" 560 :: .str "=1B" 564 :: .str "=1C" 568 :: .str "=1D" 572 :: .str "=1E" 576 :: .str "=1F" 580 :: .str " " 1704 :: .str "!" 1707 :: .str "\"" 1710 :: .str "#" 1713 :: .str "$" 1716 :: .str "%" 1719 :: .str "&" 1722 :: .str "'" 1725 :: .str "(" 1728 :: .str ")" 1731 :: .str "*" 1734 :: .str "+" 1737 :: .str "," 1740 :: .str "-" 1743 :: .str "." 1746 :: .str "/" 1749 :: .str "0" 1752 :: .str "1" 1755 :: .str "2" 1758 :: .str "3" 1761 :: .str "4" 1764 :: .str "5" 1767 :: .str "6" 1770 :: .str "7" 1773 :: .str "8" 1776 :: .str "9" 1779 :: .str ":" 1782 :: .str ";" 1785 :: .str "<" 1788 :: .str "=3D" 700 :: .str ">" 1791 :: .str "?" 1794 :: .str "@" 1797 :: .str "A" 1800 :: .str "B" 1803 :: .str "C" 1806 :: .str "D" 1809 :: .str "E" 1812 :: .str "F" 1815 :: .str "G" 1818 :: .str "H" 1821 :: .str "I" 1824 :: .str "J" 1827 :: .str "K" 1830 :: .str "L" 1833 :: .str "M" 1836 :: .str "N" 1839 :: .str "O" 1842 :: .str "P" 1845 :: .str "Q" 1848 :: .str "R" 1851 :: .str "S" 1854 :: .str "T" 1857 :: .str "U" 1860 :: .str "V" 1863 :: .str "W" 1866 :: .str "X" 1869 :: .str "Y" 1872 :: .str "Z" 1875 :: .str "[" 1878 :: .str "\\" 1881 :: .str "]" 1884 :: .str "^" 1887 :: .str "_" 1890 :: .str "`" 1893 :: .str "a" 1896 :: .str "b" 1899 :: .str "c" 1902 :: .str "d" 1905 :: .str "e" 1908 :: .str "f" 1911 :: .str "g" 1914 :: .str "h" 1917 :: .str "i" 1920 :: .str "j" 1923 :: .str "k" 1926 :: .str "l" 1929 :: .str "m" 1932 :: .str "n" 1935 :: .str "o" 1938 :: .str "p" 1941 :: .str "q" 1944 :: .str "r" 1947 :: .str "s" 1950 :: .str "t" 1953 :: .str "u" 1956 :: .str "v" 1959 :: .str "w" 1962 :: .str "x" 1965 :: .str "y" 1968 :: .str "z" 1971 :: .str "{" 1974 :: .str "|" 1977 :: .str "}" 1980 :: .str "~" 1983 :: .str "=7F" 964 :: .str "=80" 968 :: .str "=81" 972 :: .str "=82" 976 :: .str "=83" 980 :: .str "=84" 984 :: .str "=85" 988 :: .str "=86" 992 :: .str "=87" 996 :: .str "=88" 1000 :: .str "=89" 1004 :: .str "=8A" 1008 :: .str "=8B" 1012 :: .str "=8C" 1016 :: .str "=8D" 1020 :: .str "=8E" 1024 :: .str "=8F" 1028 :: .str "=90" 1032 :: .str "=91" 1036 :: .str "=92" 1040 :: .str "=93" 1044 :: .str "=94" 1048 :: .str "=95" 1052 :: .str "=96" 1056 :: .str "=97" 1060 :: .str "=98" 1064 :: .str "=99" 1068 :: .str "=9A" 1072 :: .str "=9B" 1076 :: .str "=9C" 1080 :: .str "=9D" 1084 :: .str "=9E" 1088 :: .str "=9F" 1092 :: .str "=A0" 1096 :: .str "=A1" 1100 :: .str "=A2" 1104 :: .str "=A3" 1108 :: .str "=A4" 1112 :: .str "=A5" 1116 :: .str "=A6" 1120 :: .str "=A7" 1124 :: .str "=A8" 1128 :: .str "=A9" 1132 :: .str "=AA" 1136 :: .str "=AB" 1140 :: .str "=AC" 1144 :: .str "=AD" 1148 :: .str "=AE" 1152 :: .str "=AF" 1156 :: .str "=B0" 1160 :: .str "=B1" 1164 :: .str "=B2" 1168 :: .str "=B3" 1172 :: .str "=B4" 1176 :: .str "=B5" 1180 :: .str "=B6" 1184 :: .str "=B7" 1188 :: .str "=B8" 1192 :: .str "=B9" 1196 :: .str "=BA" 1200 :: .str "=BB" 1204 :: .str "=BC" 1208 :: .str "=BD" 1212 :: .str "=BE" 1216 :: .str "=BF" 1220 :: .str "=C0" 1224 :: .str "=C1" 1228 :: .str "=C2" 1232 :: .str "=C3" 1236 :: .str "=C4" 1240 :: .str "=C5" 1244 :: .str "=C6" 1248 :: .str "=C7" 1252 :: .str "=C8" 1256 :: .str "=C9" 1260 :: .str "=CA" 1264 :: .str "=CB" 1268 :: .str "=CC" 1272 :: .str "=CD" 1276 :: .str "=CE" 1280 :: .str "=CF" 1284 :: .str "=D0" 1288 :: .str "=D1" 1292 :: .str "=D2" 1296 :: .str "=D3" 1300 :: .str "=D4" 1304 :: .str "=D5" 1308 :: .str "=D6" 1312 :: .str "=D7" 1316 :: .str "=D8" 1320 :: .str "=D9" 1324 :: .str "=DA" 1328 :: .str "=DB" 1332 :: .str "=DC" 1336 :: .str "=DD" 1340 :: .str "=DE" 1344 :: .str "=DF" 1348 :: .str "=E0" 1352 :: .str "=E1" 1356 :: .str "=E2" 1360 :: .str "=E3" 1364 :: .str "=E4" 1368 :: .str "=E5" 1372 :: .str "=E6" 1376 :: .str "=E7" 1380 :: .str "=E8" 1384 :: .str "=E9" 1388 :: .str "=EA" 1392 :: .str "=EB" 1396 :: .str "=EC" 1400 :: .str "=ED" 1404 :: .str "=EE" 1408 :: .str "=EF" 1412 :: .str "=F0" 1416 :: .str "=F1" 1420 :: .str "=F2" 1424 :: .str "=F3" 1428 :: .str "=F4" 1432 :: .str "=F5" 1436 :: .str "=F6" 1440 :: .str "=F7" 1444 :: .str "=F8" 1448 :: .str "=F9" 1452 :: .str "=FA" 1456 :: .str "=FB" 1460 :: .str "=FC" 1464 :: .str "=FD" 1468 :: .str "=FE" 1472 :: .str "=FF" 1476 :: [])) 0, #[]⟩ : Obj) ::
  (⟨.type "bytes_iterator", .none, .fields #[.none, .int 67 0], #[]⟩ : Obj) ::
  (⟨.type "tuple", .none, .seq #[] 0, #[]⟩ : Obj) ::
  (⟨.type "StopIteration", .none, .fields #[.ref 126, .none, .none, .none, .bool .false, .none], #[]⟩ : Obj) ::
  (⟨.type "bytes_iterator", .none, .fields #[.none, .int 95 0], #[]⟩ : Obj) ::
  (⟨.type "tuple", .none, .seq #[] 0, #[]⟩ : Obj) ::
  (⟨.type "StopIteration", .none, .fields #[.ref 129, .none, .none, .none, .bool .false, .none], #[]⟩ : Obj) ::
  (⟨.none, .none, .fields #[], #[]⟩ : Obj) ::
  hdNf (hdGet (hdA.heap_39 P) 137) ::
  (⟨.none, .none, .fields #[], #[]⟩ : Obj) ::
  hdNf (hdGet (hdA.heap_39 P) 145) ::
  (⟨.type "slice", .none, .fields #[.none, .none, .none], #[]⟩ : Obj) ::
  (⟨.type "list", .none, .seq (List.toArray (.str "=00" 456 :: .str "=01" 460 :: .str "=02" 464 :: .str "=03" 468 :: .str "=04" 472 :: .str "=05" 476 :: .str "=06" 480 :: .str "=07" 484 :: .str "=08" 488 :: .str "\t" 1986 :: .str "\n" 2011 :: .str "=0B" 500 :: .str "=0C" 504 :: .str "\r" 2008 :: .str "=0E" 512 :: .str "=0F" 516 :: .str "=10" 520 :: .str "=11" 524 :: .str "=12" 528 :: .str "=13" 532 :: .str "=14" 536 :: .str "=15" 540 :: .str "=16" 544 :: .str "=17" 548 :: .str "=18" 552 :: .str "=19" 556 :: .str "=1A" 560 :: .str "=1B" 564 :: .str "=1C" 568 :: .str "=1D" 572 :: .str "=1E" 576 :: .str "=1F" 580 :: .str " " 1704 :: .str "!" 1707 :: .str "\"" 1710 :: .str "#" 1713 :: .str "$" 1716 :: .str "%" 1719 :: .str "&" 1722 :: .str "'" 1725 :: .str "(" 1728 :: .str ")" 1731 :: .str "*" 1734 :: .str "+" 1737 :: .str "," 1740 :: .str "-" 1743 :: .str "." 1746 :: .str "/" 1749 :: .str "0" 1752 :: .str "1" 1755 :: .str "2" 1758 :: .str "3" 1761 :: .str "4" 1764 :: .str "5" 1767 :: .str "6" 1770 :: .str "7" 1773 :: .str "8" 1776 :: .str "9" 1779 :: .str ":" 1782 :: .str ";" 1785 :: .str "<" 1788 :: .str "=3D" 700 :: .str ">" 1791 :: .str "?" 1794 :: .str "@" 1797 :: .str "A" 1800 :: .str "B" 1803 :: .str "C" 1806 :: .str "D" 1809 :: .str "E" 1812 :: .str "F" 1815 :: .str "G" 1818 :: .str "H" 1821 :: .str "I" 1824 :: .str "J" 1827 :: .str "K" 1830 :: .str "L" 1833 :: .str "M" 1836 :: .str "N" 1839 :: .str "O" 1842 :: .str "P" 1845 :: .str "Q" 1848 :: .str "R" 1851 :: .str "S" 1854 :: .str "T" 1857 :: .str "U" 1860 :: .str "V" 1863 :: .str "W" 1866 :: .str "X" 1869 :: .str "Y" 1872 :: .str "Z" 1875 :: .str "[" 1878 :: .str "\\" 1881 :: .str "]" 1884 :: .str "^" 1887 :: .str "_" 1890 :: .str "`" 1893 :: .str "a" 1896 :: .str "b" 1899 :: .str "c" 1902 :: .str "d" 1905 :: .str "e" 1908 :: .str "f" 1911 :: .str "g" 1914 :: .str "h" 1917 :: .str "i" 1920 :: .str "j" 1923 :: .str "k" 1926 :: .str "l" 1929 :: .str "m" 1932 :: .str "n" 1935 :: .str "o" 1938 :: .str "p" 1941 :: .str "q" 1944 :: .str "r" 1947 :: .str "s" 1950 :: .str "t" 1953 :: .str "u" 1956 :: .str "v" 1959 :: .str "w" 1962 :: .str "x" 1965 :: .str "y" 1968 :: .str "z" 1971 :: .str "{" 1974 :: .str "|" 1977 :: .str "}" 1980 :: .str "~" 1983 :: .str "=7F" 964 :: .str "=80" 968 :: .str "=81" 972 :: .str "=82" 976 :: .str "=83" 980 :: .str "=84" 984 :: .str "=85" 988 :: .str "=86" 992 :: .str "=87" 996 :: .str "=88" 1000 :: .str "=89" 1004 :: .str "=8A" 1008 :: .str "=8B" 1012 :: .str "=8C" 1016 :: .str "=8D" 1020 :: .str "=8E" 1024 :: .str "=8F" 1028 :: .str "=90" 1032 :: .str "=91" 1036 :: .str "=92" 1040 :: .str "=93" 1044 :: .str "=94" 1048 :: .str "=95" 1052 :: .str "=96" 1056 :: .str "=97" 1060 :: .str "=98" 1064 :: .str "=99" 1068 :: .str "=9A" 1072 :: .str "=9B" 1076 :: .str "=9C" 1080 :: .str "=9D" 1084 :: .str "=9E" 1088 :: .str "=9F" 1092 :: .str "=A0" 1096 :: .str "=A1" 1100 :: .str "=A2" 1104 :: .str "=A3" 1108 :: .str "=A4" 1112 :: .str "=A5" 1116 :: .str "=A6" 1120 :: .str "=A7" 1124 :: .str "=A8" 1128 :: .str "=A9" 1132 :: .str "=AA" 1136 :: .str "=AB" 1140 :: .str "=AC" 1144 :: .str "=AD" 1148 :: .str "=AE" 1152 :: .str "=AF" 1156 :: .str "=B0" 1160 :: .str "=B1" 1164 :: .str "=B2" 1168 :: .str "=B3" 1172 :: .str "=B4" 1176 :: .str "=B5" 1180 :: .str "=B6" 1184 :: .str "=B7" 1188 :: .str "=B8" 1192 :: .str "=B9" 1196 :: .str "=BA" 1200 :: .str "=BB" 1204 :: .str "=BC" 1208 :: .str "=BD" 1212 :: .str "=BE" 1216 :: .str "=BF" 1220 :: .str "=C0" 1224 :: .str "=C1" 1228 :: .str "=C2" 1232 :: .str "=C3" 1236 :: .str "=C4" 1240 :: .str "=C5" 1244 :: .str "=C6" 1248 :: .str "=C7" 1252 :: .str "=C8" 1256 :: .str "=C9" 1260 :: .str "=CA" 1264 :: .str "=CB" 1268 :: .str "=CC" 1272 :: .str "=CD" 1276 :: .str "=CE" 1280 :: .str "=CF" 1284 :: .str "=D0" 1288 :: .str "=D1" 1292 :: .str "=D2" 1296 :: .str "=D3" 1300 :: .str "=D4" 1304 :: .str "=D5" 1308 :: .str "=D6" 1312 :: .str "=D7" 1316 :: .str "=D8" 1320 :: .str "=D9" 1324 :: .str "=DA" 1328 :: .str "=DB" 1332 :: .str "=DC" 1336 :: .str "=DD" 1340 :: .str "=DE" 1344 :: .str "=DF" 1348 :: .str "=E0" 1352 :: .str "=E1" 1356 :: .str "=E2" 1360 :: .str "=E3" 1364 :: .str "=E4" 1368 :: .str "=E5" 1372 :: .str "=E6" 1376 :: .str "=E7" 1380 :: .str "=E8" 1384 :: .str "=E9" 1388 :: .str "=EA" 1392 :: .str "=EB" 1396 :: .str "=EC" 1400 :: .str "=ED" 1404 :: .str "=EE" 1408 :: .str "=EF" 1412 :: .str "=F0" 1416 :: .str "=F1" 1420 :: .str "=F2" 1424 :: .str "=F3" 1428 :: .str "=F4" 1432 :: .str "=F5" 1436 :: .str "=F6" 1440 :: .str "=F7" 1444 :: .str "=F8" 1448 :: .str "=F9" 1452 :: .str "=FA" 1456 :: .str "=FB" 1460 :: .str "=FC" 1464 :: .str "=FD" 1468 :: .str "=FE" 1472 :: .str "=FF" 1476 :: [])) 0, #[]⟩ : Obj) ::
  (⟨.type "bytes_iterator", .none, .fields #[.none, .int 2 0], #[]⟩ : Obj) ::
  (⟨.type "tuple", .none, .seq #[] 0, #[]⟩ : Obj) ::
  (⟨.type "StopIteration", .none, .fields #[.ref 149, .none, .none, .none, .bool .false, .none], #[]⟩ : Obj) ::
  (⟨.none, .none, .fields #[], #[]⟩ : Obj) ::
  hdNf (hdGet (hdA.heap_39 P) 157) ::
  (⟨.none, .none, .fields #[], #[]⟩ : Obj) ::
  hdNf (hdGet (hdA.heap_39 P) 164) ::
  (⟨.none, .none, .fields #[], #[]⟩ : Obj) ::
  hdNf (hdGet (hdA.heap_39 P) 171) ::
  (⟨.none, .none, .fields #[], #[]⟩ : Obj) ::
  hdNf (hdGet (hdA.heap_39 P) 178) ::
  (⟨.none, .none, .fields #[], #[]⟩ : Obj) ::
  hdNf (hdGet (hdA.heap_39 P) 183) ::
  (⟨.none, .none, .fields #[], #[]⟩ : Obj) ::
  hdNf (hdGet (hdA.heap_39 P) 188) ::
  (⟨.none, .none, .fields #[], #[]⟩ : Obj) ::
  hdNf (hdGet (hdA.heap_39 P) 195) ::
  (⟨.none, .none, .fields #[], #[]⟩ : Obj) ::
  hdNf (hdGet (hdA.heap_39 P) 200) ::
  (⟨.none, .none, .fields #[], #[]⟩ : Obj) ::
  hdNf (hdGet (hdA.heap_39 P) 205) ::
  (⟨.none, .none, .fields #[], #[]⟩ : Obj) ::
  hdNf (hdGet (hdA.heap_39 P) 210) ::
  (⟨.none, .none, .fields #[], #[]⟩ : Obj) ::
  hdNf (hdGet (hdA.heap_39 P) 215) ::
  (⟨.none, .none, .fields #[], #[]⟩ : Obj) ::
  hdNf (hdGet (hdA.heap_39 P) 220) ::
  (⟨.none, .none, .fields #[], #[]⟩ : Obj) ::
  hdNf (hdGet (hdA.heap_39 P) 225) ::
  (⟨.none, .none, .fields #[], #[]⟩ : Obj) ::
  hdNf (hdGet (hdA.heap_39 P) 230) :: []
noncomputable def hdFin (P : Params) : List Obj := hdMrg 231 0 (hdA.heap_39 P) (hdRest P)
noncomputable def hdS0 (P : Params) : List Obj := ((hdFin P).set 3 (⟨.type "dict", .none, .dict #[⟨keyHash P "__name__", .str "__name__" 165, .str "__main__" 164⟩, ⟨keyHash P "__doc__", .str "__doc__" 166, .none⟩, ⟨keyHash P "__package__", .str "__package__" 167, .none⟩, ⟨keyHash P "__loader__", .str "__loader__" 168, .builtin "__main__.__loader__#opaque"⟩, ⟨keyHash P "__spec__", .str "__spec__" 169, .none⟩, ⟨keyHash P "__annotations__", .str "__annotations__" 170, .ref 6⟩, ⟨keyHash P "__builtins__", .str "__builtins__" 171, .ref 4⟩, ⟨keyHash P "__file__", .str "__file__" 173, .str "/claim/cut.py" 172⟩, ⟨keyHash P "__cached__", .str "__cached__" 174, .none⟩, ⟨keyHash P "_sre", .str "_sre" 275, .ref 12⟩] 10, #[]⟩ : Obj)).take 28
noncomputable def hdSa (P : Params) : List Obj := (((hdFin P).set 3 (⟨.type "dict", .none, .dict #[⟨keyHash P "__name__", .str "__name__" 165, .str "__main__" 164⟩, ⟨keyHash P "__doc__", .str "__doc__" 166, .none⟩, ⟨keyHash P "__package__", .str "__package__" 167, .none⟩, ⟨keyHash P "__loader__", .str "__loader__" 168, .builtin "__main__.__loader__#opaque"⟩, ⟨keyHash P "__spec__", .str "__spec__" 169, .none⟩, ⟨keyHash P "__annotations__", .str "__annotations__" 170, .ref 6⟩, ⟨keyHash P "__builtins__", .str "__builtins__" 171, .ref 4⟩, ⟨keyHash P "__file__", .str "__file__" 173, .str "/claim/cut.py" 172⟩, ⟨keyHash P "__cached__", .str "__cached__" 174, .none⟩, ⟨keyHash P "_sre", .str "_sre" 275, .ref 12⟩] 10, #[]⟩ : Obj)).set 29 (⟨.none, .none, .fields #[], #[]⟩ : Obj)).take 32
noncomputable def hdS1 (P : Params) : List Obj := (((hdFin P).set 3 (⟨.type "dict", .none, .dict #[⟨keyHash P "__name__", .str "__name__" 165, .str "cpy313._pylong" 364⟩, ⟨keyHash P "__doc__", .str "__doc__" 166, .none⟩, ⟨keyHash P "__package__", .str "__package__" 167, .none⟩, ⟨keyHash P "__loader__", .str "__loader__" 168, .builtin "__main__.__loader__#opaque"⟩, ⟨keyHash P "__spec__", .str "__spec__" 169, .none⟩, ⟨keyHash P "__annotations__", .str "__annotations__" 170, .ref 6⟩, ⟨keyHash P "__builtins__", .str "__builtins__" 171, .ref 4⟩, ⟨keyHash P "__file__", .str "__file__" 173, .str "/claim/cut.py" 172⟩, ⟨keyHash P "__cached__", .str "__cached__" 174, .none⟩, ⟨keyHash P "_sre", .str "_sre" 275, .ref 12⟩, ⟨keyHash P "TupleComp", .str "TupleComp" 325, .ref 55⟩, ⟨keyHash P "add_func_stats", .str "add_func_stats" 343, .ref 66⟩, ⟨keyHash P "add_callers", .str "add_callers" 354, .ref 73⟩, ⟨keyHash P "count_calls", .str "count_calls" 363, .ref 80⟩, ⟨keyHash P "compute_powers", .str "compute_powers" 385, .ref 88⟩, ⟨keyHash P "_str_to_int_inner", .str "_str_to_int_inner" 396, .ref 95⟩, ⟨keyHash P "int_from_string", .str "int_from_string" 403, .ref 102⟩, ⟨keyHash P "_int2digits", .str "_int2digits" 414, .ref 109⟩, ⟨keyHash P "_twin_re_1", .str "_twin_re_1" 449, .ref 114⟩] 19, #[]⟩ : Obj)).set 29 (⟨.none, .none, .fields #[.int 3 0, .int 0 0, .ref 37, .int 17 0, .int 0 0, .ref 65, .int 21 0, .int 0 0, .ref 72, .int 34 0, .int 0 0, .ref 79, .int 40 0, .int 0 0, .ref 87, .int 81 0, .int 0 0, .ref 94, .int 91 0, .int 0 0, .ref 101, .int 94 0, .int 0 0, .ref 108], #[]⟩ : Obj)).take 115
noncomputable def hdS2 (P : Params) : List Obj := (((hdFin P).set 3 (⟨.type "dict", .none, .dict #[⟨keyHash P "__name__", .str "__name__" 165, .str "cpy313._pylong" 364⟩, ⟨keyHash P "__doc__", .str "__doc__" 166, .none⟩, ⟨keyHash P "__package__", .str "__package__" 167, .none⟩, ⟨keyHash P "__loader__", .str "__loader__" 168, .builtin "__main__.__loader__#opaque"⟩, ⟨keyHash P "__spec__", .str "__spec__" 169, .none⟩, ⟨keyHash P "__annotations__", .str "__annotations__" 170, .ref 6⟩, ⟨keyHash P "__builtins__", .str "__builtins__" 171, .ref 4⟩, ⟨keyHash P "__file__", .str "__file__" 173, .str "/claim/cut.py" 172⟩, ⟨keyHash P "__cached__", .str "__cached__" 174, .none⟩, ⟨keyHash P "_sre", .str "_sre" 275, .ref 12⟩, ⟨keyHash P "TupleComp", .str "TupleComp" 325, .ref 55⟩, ⟨keyHash P "add_func_stats", .str "add_func_stats" 343, .ref 66⟩, ⟨keyHash P "add_callers", .str "add_callers" 354, .ref 73⟩, ⟨keyHash P "count_calls", .str "count_calls" 363, .ref 80⟩, ⟨keyHash P "compute_powers", .str "compute_powers" 385, .ref 88⟩, ⟨keyHash P "_str_to_int_inner", .str "_str_to_int_inner" 396, .ref 95⟩, ⟨keyHash P "int_from_string", .str "int_from_string" 403, .ref 102⟩, ⟨keyHash P "_int2digits", .str "_int2digits" 414, .ref 109⟩, ⟨keyHash P "_twin_re_1", .str "_twin_re_1" 449, .ref 114⟩, ⟨keyHash P "_QUOPRI_MAP", .str "_QUOPRI_MAP" 1477, .ref 117⟩] 20, #[]⟩ : Obj)).set 29 (⟨.none, .none, .fields #[.int 3 0, .int 0 0, .ref 37, .int 17 0, .int 0 0, .ref 65, .int 21 0, .int 0 0, .ref 72, .int 34 0, .int 0 0, .ref 79, .int 40 0, .int 0 0, .ref 87, .int 81 0, .int 0 0, .ref 94, .int 91 0, .int 0 0, .ref 101, .int 94 0, .int 0 0, .ref 108], #[]⟩ : Obj)).take 121
noncomputable def hdSe (P : Params) : List Obj :=
  (hdFin P).getD 0 default ::
  (hdFin P).getD 1 default ::
  (hdFin P).getD 2 default ::
  (⟨.type "dict", .none, .dict #[⟨keyHash P "__name__", .str "__name__" 165, .str "__main__" 164⟩, ⟨keyHash P "__doc__", .str "__doc__" 166, .none⟩, ⟨keyHash P "__package__", .str "__package__" 167, .none⟩, ⟨keyHash P "__loader__", .str "__loader__" 168, .builtin "__main__.__loader__#opaque"⟩, ⟨keyHash P "__spec__", .str "__spec__" 169, .none⟩, ⟨keyHash P "__annotations__", .str "__annotations__" 170, .ref 6⟩, ⟨keyHash P "__builtins__", .str "__builtins__" 171, .ref 4⟩, ⟨keyHash P "__file__", .str "__file__" 173, .str "/claim/cut.py" 172⟩, ⟨keyHash P "__cached__", .str "__cached__" 174, .none⟩, ⟨keyHash P "_sre", .str "_sre" 275, .ref 12⟩] 10, #[]⟩ : Obj) ::
  (hdFin P).getD 4 default ::
  (hdFin P).getD 5 default ::
  (hdFin P).getD 6 default ::
  (hdFin P).getD 7 default ::
  (hdFin P).getD 8 default ::
  (hdFin P).getD 9 default ::
  (hdFin P).getD 10 default ::
  (⟨.type "dict", .none, .dict #[⟨keyHash P "__name__", .str "__name__" 247, .str "_sre" 246⟩, ⟨keyHash P "__doc__", .str "__doc__" 248, .none⟩, ⟨keyHash P "__package__", .str "__package__" 250, .str "" 249⟩, ⟨keyHash P "__loader__", .str "__loader__" 251, .ref 14⟩, ⟨keyHash P "__spec__", .str "__spec__" 252, .ref 26⟩, ⟨keyHash P "compile", .str "compile" 253, .builtin "_sre.compile"⟩, ⟨keyHash P "template", .str "template" 254, .builtin "_sre.template"⟩, ⟨keyHash P "getcodesize", .str "getcodesize" 255, .builtin "_sre.getcodesize"⟩, ⟨keyHash P "ascii_iscased", .str "ascii_iscased" 256, .builtin "_sre.ascii_iscased"⟩, ⟨keyHash P "unicode_iscased", .str "unicode_iscased" 257, .builtin "_sre.unicode_iscased"⟩, ⟨keyHash P "ascii_tolower", .str "ascii_tolower" 258, .builtin "_sre.ascii_tolower"⟩, ⟨keyHash P "unicode_tolower", .str "unicode_tolower" 259, .builtin "_sre.unicode_tolower"⟩, ⟨keyHash P "MAGIC", .str "MAGIC" 261, .int 20230612 260⟩, ⟨keyHash P "CODESIZE", .str "CODESIZE" 263, .int 4 262⟩, ⟨keyHash P "MAXREPEAT", .str "MAXREPEAT" 265, .int 4294967295 264⟩, ⟨keyHash P "MAXGROUPS", .str "MAXGROUPS" 267, .int 1073741823 266⟩, ⟨keyHash P "copyright", .str "copyright" 269, .str " SRE 2.2.2 Copyright (c) 1997-2002 by Secret Labs AB " 268⟩] 17, #[]⟩ : Obj) ::
  (hdFin P).getD 12 default ::
  (hdFin P).getD 13 default ::
  (hdFin P).getD 14 default ::
  (hdFin P).getD 15 default ::
  (hdFin P).getD 16 default ::
  (hdFin P).getD 17 default ::
  (hdFin P).getD 18 default ::
  (hdFin P).getD 19 default ::
  (hdFin P).getD 20 default ::
  (hdFin P).getD 21 default ::
  (hdFin P).getD 22 default ::
  (hdFin P).getD 23 default ::
  (hdFin P).getD 24 default ::
  (hdFin P).getD 25 default ::
  (hdFin P).getD 26 default ::
  (hdFin P).getD 27 default :: []
noncomputable def hdSz (P : Params) : List Obj :=
  (⟨.type "dict", .none, .dict #[] 0, #[]⟩ : Obj) ::
  (⟨.type "dict", .none, .dict #[] 0, #[]⟩ : Obj) ::
  (⟨.none, .none, .dict #[] 0, #[]⟩ : Obj) :: []
end Mine
namespace Mine
noncomputable def hdOdd : List Obj → List Obj
  | [] => []
  | [x] => [x]
  | x :: _ :: r => x :: hdOdd r
noncomputable def hdEven : List Obj → List Obj
  | [] => []
  | [_] => []
  | _ :: y :: r => y :: hdEven r
noncomputable def hdTree : Nat → List Obj → BT
  | 0, _ => .nil
  | _ + 1, [] => .nil
  | n + 1, x :: l => .node x (hdTree n (hdOdd l)) (hdTree n (hdEven l))
abbrev hpw : Program := PySem.Challenge.rw_if0032_01.row.toRowW.1
abbrev hrow : OpenRow := PySem.Challenge.rw_if0032_01.row
noncomputable abbrev hT (P : Params) (f : Params → List Obj) (n k : Nat) (os : OsState) : SharedT := ⟨hdTree 9 (f P), n, {}, #[], {}, k, os⟩
noncomputable def hImp (tb : String → Option Builtin) (p : Program) (w : World) : Nat → SharedT → Thread → Option SharedT
  | 0, _, _ => none
  | n + 1, s, t => match t.atExitBegin with
    | some [] => some s
    | some _ => none
    | none => match PySem.W.Fast.tw10156331382660048174 (PySem.W.Fast.tw11892475500146522536 tb) p w s t with
      | some (s', t') => hImp tb p w n s' t'
      | none => none
theorem hImp_of {p : Program} {w : World} : ∀ {n : Nat} {s s' : SharedT} {t : Thread}, hImp PySem.W.Fast.tw14364793385576792824 p w n s t = some s' → importEnds treeTable p w n s.abs t = some s'.abs
  | 0, _, _, _, h => by cases h
  | n + 1, s, s', t, h => by
    unfold hImp at h
    unfold importEnds
    cases he : t.atExitBegin with
    | some x => rw [he] at h; cases x with
      | nil => cases h; rfl
      | cons a l => cases h
    | none =>
      rw [he] at h
      dsimp only at h ⊢
      rw [← PySem.W.Fast.te14364793385576792824, ← PySem.W.Fast.te11892475500146522536, ← PySem.W.Fast.te10156331382660048174] at h
      cases hs : stepT (denote treeTable) p w s t with
      | none => rw [hs] at h; cases h
      | some r =>
        obtain ⟨s₂, t₂⟩ := r
        rw [hs] at h
        rw [stepT_spec hs]
        dsimp only at h ⊢
        exact hImp_of (by rw [← PySem.W.Fast.te14364793385576792824]; exact h)
abbrev hQ : Program := opening hpw
theorem h_imp (w : World) : hImp PySem.W.Fast.tw14364793385576792824 hQ w 800 ⟨.nil, 0, {}, #[], {}, 1, (start hQ).1.os⟩ (start hQ).2 = some (hT w.params hdSe 28 276 (start hQ).1.os) := by kernel_rfl
theorem h_open (w : World) : (fencedOpening treeTable hpw w 37000).map (fun s => (s.heap, s.gens, s.drawn, s.toks)) = some ((⟨(hdS0 w.params).toArray, {}⟩ : Heap), #[], {}, 276) :=
  open_cut (p := hpw) (N := 37000) (M := 800) (He := fun P => absHeap (hdTree 9 (hdSe P)) 28 {}) (H₀ := fun P => ⟨(hdS0 P).toArray, {}⟩) (fun w => hImp_of (s := ⟨.nil, 0, {}, #[], {}, 1, (start hQ).1.os⟩) (h_imp w)) (by decide)
    (fun w => by rw [PySem.W.Fast.te14289696077712309145]; kernel_rfl) w
theorem h_size (w : World) : (((⟨(hdS0 w.params).toArray, {}⟩ : Heap)).isNs mainGlobals && (#[] : Array GenState).size == 0, ((⟨(hdS0 w.params).toArray, {}⟩ : Heap)).objs.size, ((⟨(hdS0 w.params).toArray, {}⟩ : Heap)).nsMap mainGlobals "__annotations__") = (true, 28, some (.ref 6)) := by
  rw [PySem.W.Fast.te8920871248978507458]; kernel_rfl
abbrev hpos0 : Pos := ⟨0, 0, 0, 0⟩
noncomputable abbrev hB : List Stmt := behindTheImports hpw
noncomputable def hEnv : Env := { scope := hpw.main.scope, locals := mainNs, globals := mainNs, cells := [], code := .ref 30, frame := some 31 }
noncomputable abbrev hC : Code := .body hB hEnv
abbrev hFr : List Frame := [topFrame hpos0]
theorem h_pre (w : World) (os : OsState) : topGo treeTable hpw w 28 (some (.ref 6)) 12 ⟨⟨(hdS0 w.params).toArray, {}⟩, #[], {}, 276, os⟩ (topStub hpw) = some (⟨⟨(hdSa w.params).toArray, {}⟩, #[], {}, 282, os⟩, ⟨denote treeTable hC, hC, hpos0, hFr⟩) := by
  rw [PySem.W.Fast.te15667345088766844465, PySem.W.Fast.te11892475500146522536, PySem.W.Fast.te14364793385576792824]; kernel_rfl
theorem h_block (w : World) (os : OsState) : segRun treeTable hpw w 28 (some (.ref 6)) 1 1 ⟨⟨(hdSa w.params).toArray, {}⟩, #[], {}, 282, os⟩ (blockOf hB hEnv hC hpos0 hFr) = some (.next, (hT w.params hdSa 32 282 os).abs, hC, hpos0) := by
  rw [PySem.W.Fast.te14374325043358763698, PySem.W.Fast.te14364793385576792824]; kernel_rfl
theorem h_p1 (w : World) (os : OsState) : segRunT treeTable hpw w 28 (some (.ref 6)) 1 700 (hT w.params hdSa 32 282 os) (piecesOf (hB.take 11) hEnv hC hpos0 hFr) = some (.next, hT w.params hdS1 115 450 os, hC, ⟨110, 0, 110, 10⟩) := by
  rw [PySem.W.Fast.te10110043849684766642, PySem.W.Fast.te14364793385576792824]; kernel_rfl
theorem segRun_more {tb : String → Option Builtin} {p : Program} {w : World} {n₀ : Nat} {ann : Option Value} {b : Nat} (k : Nat) : ∀ (n : Nat) (s : Shared) (t : Thread) (r : Flow × Shared × Code × Pos), segRun tb p w n₀ ann b n s t = some r → segRun tb p w n₀ ann b (n + k) s t = some r
  | 0, _, _, _, h => by cases h
  | n + 1, s, t, r, h => by
    rw [Nat.succ_add]
    unfold segRun at h ⊢
    cases e1 : endAt b t with
    | some f => rw [e1] at h; exact h
    | none =>
      rw [e1] at h
      cases e2 : stepOk n₀ ann t with
      | false => rw [e2] at h; cases h
      | true =>
        rw [e2] at h
        cases e3 : step (denote tb) p w s t with
        | halt o s' => rw [e3] at h; cases h
        | go s' t' => rw [e3] at h; exact segRun_more k n s' t' r h
/-- the world with both rows off -/
abbrev hOff (w : World) : World := (w.withFollow "comprehension-iter-twice" false).withFollow "special-get-raises" false
noncomputable abbrev hGo (w : World) (k : Nat) (s : SharedT) (t : Thread) : Option (SharedT × Thread) := PySem.W.Fast.tw10295753902157049106 PySem.W.Fast.tw14364793385576792824 hpw w 28 (some (.ref 6)) 1 k s t
/-- a piece in two: its first steps, where the rows are asked, bring every world to one state -/
theorem h_two {w : World} {s m s' : SharedT} {t u : Thread} {f : Flow} {c : Code} {q : Pos} {N B : Nat} (h : ∃ k, k ≤ B ∧ hGo w k s t = some (m, u)) (r : PySem.W.Fast.tw10110043849684766642 PySem.W.Fast.tw14364793385576792824 hpw w 28 (some (.ref 6)) 1 N m u = some (f, s', c, q)) : segRun treeTable hpw w 28 (some (.ref 6)) 1 (B + N) s.abs t = some (f, s'.abs, c, q) := by
  obtain ⟨k, hk, h⟩ := h
  have h1 : segGoT treeTable hpw w 28 (some (.ref 6)) 1 k s t = some (m, u) := by rw [PySem.W.Fast.te10295753902157049106, PySem.W.Fast.te14364793385576792824]; exact h
  have r1 : segRunT treeTable hpw w 28 (some (.ref 6)) 1 N m u = some (f, s', c, q) := by rw [PySem.W.Fast.te10110043849684766642, PySem.W.Fast.te14364793385576792824]; exact r
  have e := segRun_more (B - k) _ _ _ _ (seg_go (segGo_of h1) (segRun_of r1))
  rwa [show k + N + (B - k) = B + N by omega] at e
noncomputable abbrev hAt2 : Thread := piecesOf ((hB.drop 11).take 1) hEnv hC ⟨110, 0, 110, 10⟩ hFr
noncomputable def hMid2 (w : World) (os : OsState) : SharedT × Thread := (hGo (hOff w) 200 (hT w.params hdS1 115 450 os) hAt2).getD (hT w.params hdS1 115 450 os, hAt2)
abbrev hMeet2 (w : World) (os : OsState) : Prop := ∃ k, k ≤ 200 ∧ hGo w k (hT w.params hdS1 115 450 os) hAt2 = some ((hMid2 w os).1, (hMid2 w os).2)
theorem h_m2a (os : OsState) (w : World) : hMeet2 ((w.withFollow "comprehension-iter-twice" false).withFollow "special-get-raises" false) os := ⟨200, by decide, by kernel_rfl⟩
theorem h_m2b (os : OsState) (w : World) : hMeet2 ((w.withFollow "comprehension-iter-twice" true).withFollow "special-get-raises" false) os := ⟨190, by decide, by kernel_rfl⟩
theorem h_m2c (os : OsState) (w : World) : hMeet2 ((w.withFollow "comprehension-iter-twice" false).withFollow "special-get-raises" true) os := ⟨200, by decide, by kernel_rfl⟩
theorem h_m2d (os : OsState) (w : World) : hMeet2 ((w.withFollow "comprehension-iter-twice" true).withFollow "special-get-raises" true) os := ⟨190, by decide, by kernel_rfl⟩
theorem h_r2 (w : World) (os : OsState) : PySem.W.Fast.tw10110043849684766642 PySem.W.Fast.tw14364793385576792824 hpw w 28 (some (.ref 6)) 1 9400 (hMid2 w os).1 (hMid2 w os).2 = some (.next, hT w.params hdS2 121 1478 os, hC, ⟨111, 0, 111, 11⟩) := by kernel_rfl
theorem h_p2 (w : World) (os : OsState) : segRun treeTable hpw w 28 (some (.ref 6)) 1 9600 (hT w.params hdS1 115 450 os).abs hAt2 = some (.next, (hT w.params hdS2 121 1478 os).abs, hC, ⟨111, 0, 111, 11⟩) :=
  h_two (byRow2 "special-get-raises" (P := fun w => hMeet2 w os)
    (byRow2 "comprehension-iter-twice" (P := fun w => hMeet2 (w.withFollow "special-get-raises" false) os) (h_m2a os) (h_m2b os))
    (byRow2 "comprehension-iter-twice" (P := fun w => hMeet2 (w.withFollow "special-get-raises" true) os) (h_m2c os) (h_m2d os)) w) (h_r2 w os)
noncomputable abbrev hAt3 : Thread := piecesOf ((hB.drop 11).drop 1) hEnv hC ⟨111, 0, 111, 11⟩ hFr
noncomputable def hMid3 (w : World) (os : OsState) : SharedT × Thread := (hGo (w.withFollow "special-get-raises" false) 3400 (hT w.params hdS2 121 1478 os) hAt3).getD (hT w.params hdS2 121 1478 os, hAt3)
noncomputable def hMid4 (w : World) (os : OsState) : SharedT × Thread := (hGo w 4000 (hMid3 w os).1 (hMid3 w os).2).getD (hT w.params hdS2 121 1478 os, hAt3)
theorem h_m3 (w : World) (os : OsState) : (hGo (w.withFollow "special-get-raises" false) 3400 (hT w.params hdS2 121 1478 os) hAt3, hGo (w.withFollow "special-get-raises" true) 3400 (hT w.params hdS2 121 1478 os) hAt3, hGo w 4000 (hMid3 w os).1 (hMid3 w os).2, PySem.W.Fast.tw10110043849684766642 PySem.W.Fast.tw14364793385576792824 hpw (w.withFollow "special-get-raises" false) 28 (some (.ref 6)) 1 1600 (hMid4 w os).1 (hMid4 w os).2, PySem.W.Fast.tw10110043849684766642 PySem.W.Fast.tw14364793385576792824 hpw (w.withFollow "special-get-raises" true) 28 (some (.ref 6)) 1 1600 (hMid4 w os).1 (hMid4 w os).2) =
    (some ((hMid3 w os).1, (hMid3 w os).2), some ((hMid3 w os).1, (hMid3 w os).2), some ((hMid4 w os).1, (hMid4 w os).2), some (.next, hT w.params hdFin 231 2111 os, hC, ⟨247, 0, 250, 63⟩), some (.next, hT w.params hdFin 231 2111 os, hC, ⟨247, 0, 250, 63⟩)) := by kernel_rfl
theorem h_p3 (w : World) (os : OsState) : segRun treeTable hpw w 28 (some (.ref 6)) 1 9000 (hT w.params hdS2 121 1478 os).abs hAt3 = some (.next, (hT w.params hdFin 231 2111 os).abs, hC, ⟨247, 0, 250, 63⟩) := by
  have e1 := Prod.mk.inj (h_m3 w os)
  have e2 := Prod.mk.inj e1.2
  have e3 := Prod.mk.inj e2.2
  have e4 := Prod.mk.inj e3.2
  have h : ∀ b : Bool, hGo (w.withFollow "special-get-raises" b) 3400 (hT w.params hdS2 121 1478 os) hAt3 = some ((hMid3 w os).1, (hMid3 w os).2) ∧ PySem.W.Fast.tw10110043849684766642 PySem.W.Fast.tw14364793385576792824 hpw (w.withFollow "special-get-raises" b) 28 (some (.ref 6)) 1 1600 (hMid4 w os).1 (hMid4 w os).2 = some (.next, hT w.params hdFin 231 2111 os, hC, ⟨247, 0, 250, 63⟩) := fun b => match b with
    | false => ⟨e1.1, e4.1⟩
    | true => ⟨e2.1, e4.2⟩
  have h' := h (w.params.followText "special-get-raises")
  rw [World.withFollow_self] at h'
  have g1 : segGoT treeTable hpw w 28 (some (.ref 6)) 1 3400 (hT w.params hdS2 121 1478 os) hAt3 = some ((hMid3 w os).1, (hMid3 w os).2) := by rw [PySem.W.Fast.te10295753902157049106, PySem.W.Fast.te14364793385576792824]; exact h'.1
  have g2 : segGoT treeTable hpw w 28 (some (.ref 6)) 1 4000 (hMid3 w os).1 (hMid3 w os).2 = some ((hMid4 w os).1, (hMid4 w os).2) := by rw [PySem.W.Fast.te10295753902157049106, PySem.W.Fast.te14364793385576792824]; exact e3.1
  have r : segRunT treeTable hpw w 28 (some (.ref 6)) 1 1600 (hMid4 w os).1 (hMid4 w os).2 = some (.next, hT w.params hdFin 231 2111 os, hC, ⟨247, 0, 250, 63⟩) := by rw [PySem.W.Fast.te10110043849684766642, PySem.W.Fast.te14364793385576792824]; exact h'.2
  exact seg_go (n := 3400) (N := 5600) (segGo_of g1) (seg_go (n := 4000) (N := 1600) (segGo_of g2) (segRun_of r))
theorem h_fin (w : World) (os : OsState) : topRun treeTable hpw w 28 (some (.ref 6)) 2 (hT w.params hdFin 231 2111 os).abs (restOf [] hEnv hC ⟨247, 0, 250, 63⟩ hFr) = some ⟨⟨(hdFin w.params).toArray, {}⟩, #[], {}, 2111, os⟩ := by
  rw [PySem.W.Fast.te14082659384304107361, PySem.W.Fast.te14364793385576792824]; kernel_rfl
theorem h_run (w : World) (os : OsState) : topRun treeTable hpw w 28 (some (.ref 6)) (12 + (1 + (700 + (9600 + (9000 + 2))))) ⟨⟨(hdS0 w.params).toArray, {}⟩, #[], {}, 276, os⟩ (topStub hpw) = some ⟨⟨(hdFin w.params).toArray, {}⟩, #[], {}, 2111, os⟩ := by
  have e : hB = hB.take 11 ++ ((hB.drop 11).take 1 ++ ((hB.drop 11).drop 1 ++ [])) := by
    rw [List.append_nil, List.take_append_drop, List.take_append_drop]
  have k := piece_app (env := hEnv) (h_p3 w os) (h_fin w os)
  have k := piece_app (h_p2 w os) k
  have k := piece_app (segRun_of (h_p1 w os)) k
  rw [← e] at k
  exact go_top (h_pre w os) (piece_block (h_block w os) k)
noncomputable def hView : Program := view hpw [0, 2, 3, 4, 5, 8, 9, 10, 11, 12, 13, 14, 15, 16, 17, 18, 23, 25, 28, 29, 31, 32, 34, 35, 36, 37, 38, 39, 40, 41, 42, 43]
noncomputable def hLoose : List Str := ["compute_powers", "_twin_re_1", "_QUOPRI_MAP", "_QUOPRI_HEADER_MAP", "_QUOPRI_BODY_MAP", "ascii_letters", "header_encode", "_QUOPRI_BODY_ENCODE_MAP"]
noncomputable def hLv : List (Str × WData) := [("ascii_letters", .str "abcdefghijklmnopqrstuvwxyzABCDEFGHIJKLMNOPQRSTUVWXYZ")]
noncomputable abbrev hHook : Hook := kmHook hdA.heap_39 (nat_lit 2 :: nat_lit 3 :: nat_lit 39 :: nat_lit 41 :: nat_lit 42 :: nat_lit 44 :: nat_lit 45 :: nat_lit 46 :: nat_lit 48 :: nat_lit 49 :: nat_lit 51 :: nat_lit 52 :: nat_lit 53 :: nat_lit 54 :: nat_lit 55 :: nat_lit 56 :: nat_lit 57 :: nat_lit 60 :: nat_lit 62 :: nat_lit 63 :: nat_lit 65 :: nat_lit 66 :: nat_lit 67 :: nat_lit 69 :: nat_lit 70 :: nat_lit 72 :: nat_lit 73 :: nat_lit 74 :: nat_lit 76 :: nat_lit 77 :: nat_lit 79 :: nat_lit 80 :: nat_lit 81 :: nat_lit 82 :: nat_lit 84 :: nat_lit 85 :: nat_lit 87 :: nat_lit 88 :: nat_lit 89 :: nat_lit 91 :: nat_lit 92 :: nat_lit 94 :: nat_lit 95 :: nat_lit 96 :: nat_lit 98 :: nat_lit 99 :: nat_lit 101 :: nat_lit 102 :: nat_lit 103 :: nat_lit 105 :: nat_lit 106 :: nat_lit 108 :: nat_lit 109 :: nat_lit 113 :: nat_lit 114 :: nat_lit 122 :: nat_lit 131 :: nat_lit 133 :: nat_lit 134 :: nat_lit 136 :: nat_lit 137 :: nat_lit 138 :: nat_lit 139 :: nat_lit 141 :: nat_lit 142 :: nat_lit 144 :: nat_lit 145 :: nat_lit 151 :: nat_lit 153 :: nat_lit 154 :: nat_lit 156 :: nat_lit 157 :: nat_lit 158 :: nat_lit 160 :: nat_lit 161 :: nat_lit 163 :: nat_lit 164 :: nat_lit 165 :: nat_lit 167 :: nat_lit 168 :: nat_lit 170 :: nat_lit 171 :: nat_lit 172 :: nat_lit 174 :: nat_lit 175 :: nat_lit 177 :: nat_lit 178 :: nat_lit 179 :: nat_lit 182 :: nat_lit 183 :: nat_lit 184 :: nat_lit 187 :: nat_lit 188 :: nat_lit 189 :: nat_lit 191 :: nat_lit 192 :: nat_lit 194 :: nat_lit 195 :: nat_lit 196 :: nat_lit 199 :: nat_lit 200 :: nat_lit 201 :: nat_lit 204 :: nat_lit 205 :: nat_lit 206 :: nat_lit 209 :: nat_lit 210 :: nat_lit 211 :: nat_lit 214 :: nat_lit 215 :: nat_lit 216 :: nat_lit 219 :: nat_lit 220 :: nat_lit 221 :: nat_lit 224 :: nat_lit 225 :: nat_lit 226 :: nat_lit 229 :: nat_lit 230 :: []) (fun _ => by kernel_rfl) [104, 90]
theorem h_seen (w : World) (os : OsState) : openSeen hView hLoose (importedModules hpw.main.body) (fun s => xlAt hView hLv s && recOk (RowW.records hrow.toRowW) s) true ⟨⟨(hdFin w.params).toArray, {}⟩, #[], {}, 2111, os⟩ = openGood hView hLoose := by
  rw [PySem.W.Fast.te4187177175401517315, PySem.W.Fast.te5923862056798008813]; kernel_rfl
theorem h_stat (w : World) (os : OsState) : (staticsOk (importedModules hpw.main.body) ⟨(hdS0 w.params).toArray, {}⟩ ⟨(hdFin w.params).toArray, {}⟩ && namesBound hpw ⟨(hdFin w.params).toArray, {}⟩ && gensDone ⟨⟨(hdFin w.params).toArray, {}⟩, #[], {}, 2111, os⟩ && laidKept ⟨(hdS0 w.params).toArray, {}⟩ ⟨(hdFin w.params).toArray, {}⟩) = true := by
  rw [PySem.W.Fast.te5923862056798008813]; kernel_rfl
theorem h_obs (w : World) (os : OsState) : hHook.obs ⟨⟨(hdFin w.params).toArray, {}⟩, #[], {}, 2111, os⟩ = hHook.val w := by kernel_rfl
theorem h_left : LeftO hpw hView hLoose (fun s => xlAt hView hLv s && recOk (RowW.records hrow.toRowW) s) hHook.obs hHook.val 37000 true :=
  LeftO.of_pieces (H₀ := fun P => ⟨(hdS0 P).toArray, {}⟩) (H₁ := fun P => ⟨(hdFin P).toArray, {}⟩) h_open h_size h_run (by decide) (fun w => funext fun os => by rw [h_stat w os, h_seen w os, h_obs w os])
theorem h_said : PySem.Challenge.rw_if0032_01.wellSaid = true := by
  rw [PySem.W.Fast.te9446332074065402090]; kernel_rfl
theorem hd {d : DefRec} {kwd : List (Str × PySem.Expr)} (h1 : defOf hView hrow.toRowW.name = some (d, kwd)) (h2 : hpw.theDef hrow.toRowW.name = some (d.params, d.body, d.scope)) (h3 : kwWritten? d.params.kwonlyargs d.params.kw_defaults = some kwd)
    (walk : WalkO hView hLoose (XL hView hLv) hHook.says hrow.toRowW d kwd fun f vs => PySem.call f vs) : PySem.Challenge.rw_if0032_01.Holds :=
  holds_law h_said fun said => holds_open (q := hView) (loose := hLoose) (Xt := fun s => xlAt hView hLv s && recOk (RowW.records hrow.toRowW) s) (XP := XL hView hLv) (Yf := hHook.obs) (Ya := hHook.val) (YP := hHook.says) (N := 37000)
    h_left hHook.of hHook.keeps (fun s e => xl_of s (Bool.and_eq_true_iff.mp e).1) XL.keeps h1 h2 h3 (fun s e => recFacts_of (Bool.and_eq_true_iff.mp e).2) rfl said (by decide +kernel) ⟨rfl, rfl, rfl, rfl, rfl, by decide +kernel⟩
    (by w_witness2) walk
end Mine
set_option maxHeartbeats 200000
example : PySem.Challenge.rw_if0032_01 = PySem.Challenge.rw_if0032_01 ∧ hdA.heap_39 = hdA.heap_39 := by k_fill; exact ⟨rfl, rfl⟩
section
theorem Mine.fresh1 {prog : Program} {w : World} {A : Around} {E : Value → Shared → Prop} {s : Shared} {Q : Bool → Shared → Prop} (h : wpAny (model prog w) A (truthy (.bool true)) Q E s) : wpAny (model prog w) A (truthy (.bool true)) Q E s := by
  w_top off
  first | (walk1; fail "no") | exact h
namespace Mine
inductive Ex2.{u0, u1} {t0 : Sort u0} {t1 : Sort u1} (p : t0 → t1 → Prop) : Prop | mk (a0 : t0) (a1 : t1) (h : p a0 a1) : Ex2 p
inductive Ex3.{u0, u1, u2} {t0 : Sort u0} {t1 : Sort u1} {t2 : Sort u2} (p : t0 → t1 → t2 → Prop) : Prop | mk (a0 : t0) (a1 : t1) (a2 : t2) (h : p a0 a1 a2) : Ex3 p
inductive Ex4.{u0, u1, u2, u3} {t0 : Sort u0} {t1 : Sort u1} {t2 : Sort u2} {t3 : Sort u3} (p : t0 → t1 → t2 → t3 → Prop) : Prop | mk (a0 : t0) (a1 : t1) (a2 : t2) (a3 : t3) (h : p a0 a1 a2 a3) : Ex4 p
inductive Ex5.{u0, u1, u2, u3, u4} {t0 : Sort u0} {t1 : Sort u1} {t2 : Sort u2} {t3 : Sort u3} {t4 : Sort u4} (p : t0 → t1 → t2 → t3 → t4 → Prop) : Prop | mk (a0 : t0) (a1 : t1) (a2 : t2) (a3 : t3) (a4 : t4) (h : p a0 a1 a2 a3 a4) : Ex5 p
inductive Ex6.{u0, u1, u2, u3, u4, u5} {t0 : Sort u0} {t1 : Sort u1} {t2 : Sort u2} {t3 : Sort u3} {t4 : Sort u4} {t5 : Sort u5} (p : t0 → t1 → t2 → t3 → t4 → t5 → Prop) : Prop | mk (a0 : t0) (a1 : t1) (a2 : t2) (a3 : t3) (a4 : t4) (a5 : t5) (h : p a0 a1 a2 a3 a4 a5) : Ex6 p
inductive Ex7.{u0, u1, u2, u3, u4, u5, u6} {t0 : Sort u0} {t1 : Sort u1} {t2 : Sort u2} {t3 : Sort u3} {t4 : Sort u4} {t5 : Sort u5} {t6 : Sort u6} (p : t0 → t1 → t2 → t3 → t4 → t5 → t6 → Prop) : Prop | mk (a0 : t0) (a1 : t1) (a2 : t2) (a3 : t3) (a4 : t4) (a5 : t5) (a6 : t6) (h : p a0 a1 a2 a3 a4 a5 a6) : Ex7 p
inductive Ex8.{u0, u1, u2, u3, u4, u5, u6, u7} {t0 : Sort u0} {t1 : Sort u1} {t2 : Sort u2} {t3 : Sort u3} {t4 : Sort u4} {t5 : Sort u5} {t6 : Sort u6} {t7 : Sort u7} (p : t0 → t1 → t2 → t3 → t4 → t5 → t6 → t7 → Prop) : Prop | mk (a0 : t0) (a1 : t1) (a2 : t2) (a3 : t3) (a4 : t4) (a5 : t5) (a6 : t6) (a7 : t7) (h : p a0 a1 a2 a3 a4 a5 a6 a7) : Ex8 p
inductive Ex9.{u0, u1, u2, u3, u4, u5, u6, u7, u8} {t0 : Sort u0} {t1 : Sort u1} {t2 : Sort u2} {t3 : Sort u3} {t4 : Sort u4} {t5 : Sort u5} {t6 : Sort u6} {t7 : Sort u7} {t8 : Sort u8} (p : t0 → t1 → t2 → t3 → t4 → t5 → t6 → t7 → t8 → Prop) : Prop | mk (a0 : t0) (a1 : t1) (a2 : t2) (a3 : t3) (a4 : t4) (a5 : t5) (a6 : t6) (a7 : t7) (a8 : t8) (h : p a0 a1 a2 a3 a4 a5 a6 a7 a8) : Ex9 p
inductive Ex10.{u0, u1, u2, u3, u4, u5, u6, u7, u8, u9} {t0 : Sort u0} {t1 : Sort u1} {t2 : Sort u2} {t3 : Sort u3} {t4 : Sort u4} {t5 : Sort u5} {t6 : Sort u6} {t7 : Sort u7} {t8 : Sort u8} {t9 : Sort u9} (p : t0 → t1 → t2 → t3 → t4 → t5 → t6 → t7 → t8 → t9 → Prop) : Prop | mk (a0 : t0) (a1 : t1) (a2 : t2) (a3 : t3) (a4 : t4) (a5 : t5) (a6 : t6) (a7 : t7) (a8 : t8) (a9 : t9) (h : p a0 a1 a2 a3 a4 a5 a6 a7 a8 a9) : Ex10 p
inductive Ex11.{u0, u1, u2, u3, u4, u5, u6, u7, u8, u9, u10} {t0 : Sort u0} {t1 : Sort u1} {t2 : Sort u2} {t3 : Sort u3} {t4 : Sort u4} {t5 : Sort u5} {t6 : Sort u6} {t7 : Sort u7} {t8 : Sort u8} {t9 : Sort u9} {t10 : Sort u10} (p : t0 → t1 → t2 → t3 → t4 → t5 → t6 → t7 → t8 → t9 → t10 → Prop) : Prop | mk (a0 : t0) (a1 : t1) (a2 : t2) (a3 : t3) (a4 : t4) (a5 : t5) (a6 : t6) (a7 : t7) (a8 : t8) (a9 : t9) (a10 : t10) (h : p a0 a1 a2 a3 a4 a5 a6 a7 a8 a9 a10) : Ex11 p
inductive Ex12.{u0, u1, u2, u3, u4, u5, u6, u7, u8, u9, u10, u11} {t0 : Sort u0} {t1 : Sort u1} {t2 : Sort u2} {t3 : Sort u3} {t4 : Sort u4} {t5 : Sort u5} {t6 : Sort u6} {t7 : Sort u7} {t8 : Sort u8} {t9 : Sort u9} {t10 : Sort u10} {t11 : Sort u11} (p : t0 → t1 → t2 → t3 → t4 → t5 → t6 → t7 → t8 → t9 → t10 → t11 → Prop) : Prop | mk (a0 : t0) (a1 : t1) (a2 : t2) (a3 : t3) (a4 : t4) (a5 : t5) (a6 : t6) (a7 : t7) (a8 : t8) (a9 : t9) (a10 : t10) (a11 : t11) (h : p a0 a1 a2 a3 a4 a5 a6 a7 a8 a9 a10 a11) : Ex12 p
inductive Ex13.{u0, u1, u2, u3, u4, u5, u6, u7, u8, u9, u10, u11, u12} {t0 : Sort u0} {t1 : Sort u1} {t2 : Sort u2} {t3 : Sort u3} {t4 : Sort u4} {t5 : Sort u5} {t6 : Sort u6} {t7 : Sort u7} {t8 : Sort u8} {t9 : Sort u9} {t10 : Sort u10} {t11 : Sort u11} {t12 : Sort u12} (p : t0 → t1 → t2 → t3 → t4 → t5 → t6 → t7 → t8 → t9 → t10 → t11 → t12 → Prop) : Prop | mk (a0 : t0) (a1 : t1) (a2 : t2) (a3 : t3) (a4 : t4) (a5 : t5) (a6 : t6) (a7 : t7) (a8 : t8) (a9 : t9) (a10 : t10) (a11 : t11) (a12 : t12) (h : p a0 a1 a2 a3 a4 a5 a6 a7 a8 a9 a10 a11 a12) : Ex13 p
inductive Ex14.{u0, u1, u2, u3, u4, u5, u6, u7, u8, u9, u10, u11, u12, u13} {t0 : Sort u0} {t1 : Sort u1} {t2 : Sort u2} {t3 : Sort u3} {t4 : Sort u4} {t5 : Sort u5} {t6 : Sort u6} {t7 : Sort u7} {t8 : Sort u8} {t9 : Sort u9} {t10 : Sort u10} {t11 : Sort u11} {t12 : Sort u12} {t13 : Sort u13} (p : t0 → t1 → t2 → t3 → t4 → t5 → t6 → t7 → t8 → t9 → t10 → t11 → t12 → t13 → Prop) : Prop | mk (a0 : t0) (a1 : t1) (a2 : t2) (a3 : t3) (a4 : t4) (a5 : t5) (a6 : t6) (a7 : t7) (a8 : t8) (a9 : t9) (a10 : t10) (a11 : t11) (a12 : t12) (a13 : t13) (h : p a0 a1 a2 a3 a4 a5 a6 a7 a8 a9 a10 a11 a12 a13) : Ex14 p
structure And3 (a0 a1 a2 : Prop) : Prop where
  h0 : a0
  h1 : a1
  h2 : a2
structure And4 (a0 a1 a2 a3 : Prop) : Prop where
  h0 : a0
  h1 : a1
  h2 : a2
  h3 : a3
structure And5 (a0 a1 a2 a3 a4 : Prop) : Prop where
  h0 : a0
  h1 : a1
  h2 : a2
  h3 : a3
  h4 : a4
structure And6 (a0 a1 a2 a3 a4 a5 : Prop) : Prop where
  h0 : a0
  h1 : a1
  h2 : a2
  h3 : a3
  h4 : a4
  h5 : a5
structure And7 (a0 a1 a2 a3 a4 a5 a6 : Prop) : Prop where
  h0 : a0
  h1 : a1
  h2 : a2
  h3 : a3
  h4 : a4
  h5 : a5
  h6 : a6
structure And8 (a0 a1 a2 a3 a4 a5 a6 a7 : Prop) : Prop where
  h0 : a0
  h1 : a1
  h2 : a2
  h3 : a3
  h4 : a4
  h5 : a5
  h6 : a6
  h7 : a7
structure And9 (a0 a1 a2 a3 a4 a5 a6 a7 a8 : Prop) : Prop where
  h0 : a0
  h1 : a1
  h2 : a2
  h3 : a3
  h4 : a4
  h5 : a5
  h6 : a6
  h7 : a7
  h8 : a8
structure And10 (a0 a1 a2 a3 a4 a5 a6 a7 a8 a9 : Prop) : Prop where
  h0 : a0
  h1 : a1
  h2 : a2
  h3 : a3
  h4 : a4
  h5 : a5
  h6 : a6
  h7 : a7
  h8 : a8
  h9 : a9
structure And11 (a0 a1 a2 a3 a4 a5 a6 a7 a8 a9 a10 : Prop) : Prop where
  h0 : a0
  h1 : a1
  h2 : a2
  h3 : a3
  h4 : a4
  h5 : a5
  h6 : a6
  h7 : a7
  h8 : a8
  h9 : a9
  h10 : a10
structure And12 (a0 a1 a2 a3 a4 a5 a6 a7 a8 a9 a10 a11 : Prop) : Prop where
  h0 : a0
  h1 : a1
  h2 : a2
  h3 : a3
  h4 : a4
  h5 : a5
  h6 : a6
  h7 : a7
  h8 : a8
  h9 : a9
  h10 : a10
  h11 : a11
theorem nu1 (n : Nat) : n ≠ n + 1 := Nat.ne_of_lt (Nat.lt_add_of_pos_right (k := 1) (by decide))
theorem nd1 (n : Nat) : n + 1 ≠ n := Ne.symm (nu1 n)
theorem lu1 (n : Nat) : n ≤ n + 1 := Nat.le_add_right n 1
theorem su1 (n : Nat) : n < n + 1 := Nat.lt_add_of_pos_right (k := 1) (by decide)
theorem nu2 (n : Nat) : n ≠ n + 1 + 1 := Nat.ne_of_lt (Nat.lt_add_of_pos_right (k := 2) (by decide))
theorem nd2 (n : Nat) : n + 1 + 1 ≠ n := Ne.symm (nu2 n)
theorem lu2 (n : Nat) : n ≤ n + 1 + 1 := Nat.le_add_right n 2
theorem su2 (n : Nat) : n < n + 1 + 1 := Nat.lt_add_of_pos_right (k := 2) (by decide)
theorem nu3 (n : Nat) : n ≠ n + 1 + 1 + 1 := Nat.ne_of_lt (Nat.lt_add_of_pos_right (k := 3) (by decide))
theorem nd3 (n : Nat) : n + 1 + 1 + 1 ≠ n := Ne.symm (nu3 n)
theorem lu3 (n : Nat) : n ≤ n + 1 + 1 + 1 := Nat.le_add_right n 3
theorem su3 (n : Nat) : n < n + 1 + 1 + 1 := Nat.lt_add_of_pos_right (k := 3) (by decide)
theorem nu4 (n : Nat) : n ≠ n + 1 + 1 + 1 + 1 := Nat.ne_of_lt (Nat.lt_add_of_pos_right (k := 4) (by decide))
theorem nd4 (n : Nat) : n + 1 + 1 + 1 + 1 ≠ n := Ne.symm (nu4 n)
theorem lu4 (n : Nat) : n ≤ n + 1 + 1 + 1 + 1 := Nat.le_add_right n 4
theorem su4 (n : Nat) : n < n + 1 + 1 + 1 + 1 := Nat.lt_add_of_pos_right (k := 4) (by decide)
theorem nu5 (n : Nat) : n ≠ n + 1 + 1 + 1 + 1 + 1 := Nat.ne_of_lt (Nat.lt_add_of_pos_right (k := 5) (by decide))
theorem nd5 (n : Nat) : n + 1 + 1 + 1 + 1 + 1 ≠ n := Ne.symm (nu5 n)
theorem lu5 (n : Nat) : n ≤ n + 1 + 1 + 1 + 1 + 1 := Nat.le_add_right n 5
theorem su5 (n : Nat) : n < n + 1 + 1 + 1 + 1 + 1 := Nat.lt_add_of_pos_right (k := 5) (by decide)
theorem nu6 (n : Nat) : n ≠ n + 1 + 1 + 1 + 1 + 1 + 1 := Nat.ne_of_lt (Nat.lt_add_of_pos_right (k := 6) (by decide))
theorem nd6 (n : Nat) : n + 1 + 1 + 1 + 1 + 1 + 1 ≠ n := Ne.symm (nu6 n)
theorem lu6 (n : Nat) : n ≤ n + 1 + 1 + 1 + 1 + 1 + 1 := Nat.le_add_right n 6
theorem su6 (n : Nat) : n < n + 1 + 1 + 1 + 1 + 1 + 1 := Nat.lt_add_of_pos_right (k := 6) (by decide)
theorem room2 {a b c L : Nat} (h : a + c < L) (e : b ≤ c) : a + b < L := Nat.lt_of_le_of_lt (Nat.add_le_add_left e a) h
theorem room3 {a k b c L : Nat} (h : a + c < L) (e : k + b ≤ c) : a + k + b < L := by rw [Nat.add_assoc]; exact room2 h e
theorem room1 {a c L : Nat} (h : a + c < L) : a < L := Nat.lt_of_le_of_lt (Nat.le_add_right a c) h
theorem room4 {a j k b c L : Nat} (h : a + c < L) (e : j + k + b ≤ c) : a + j + k + b < L := by rw [Nat.add_assoc a, Nat.add_assoc a]; exact room2 h e
theorem ltA {a d : PySem.Addr} {o : PySem.Obj} {l : List (PySem.Addr × PySem.Obj)} (h : ∀ p ∈ l, p.1 < d) (m : (a, o) ∈ l) : @LT.lt Nat _ a d := h _ m
end Mine
namespace Mine
/-- a contract: called with vs from any frame whose ledger is led, f comes back as Ret says -/
def Ctr (prog : Program) (w : World) (d : Nat) (f : Addr) (vs : List Value) (led : List (Addr × Obj)) (Ret : (Value → List (Addr × Obj) → Prop) → Prop) : Prop :=
  ∀ (p : Program) (loose : List Str) (mean : ExcName → Option Value) (mg mb : Str → Option Value) (dp un : Nat) (gd : Option (List Code)) (cn : Str) (cs : Scope) (a : Addr) (ccd : Value) (cl : List (Str × Addr)) (outer : List Env) (A₀ : Around) (base h₀ : Heap) (L : Addr) (m : Str → Option Value) (s : Shared)
    (Q E : Value → Shared → Prop),
    Below A₀ base outer h₀ → Fr h₀ L s.heap m → (hdA.heap_39 w.params).In h₀ → News h₀ L s.heap led → Top p loose mean mg mb h₀ → cs.kind = .function → dp + d < recursionLimit → un + 8 * d < cLine →
    Ret (fun v led' => ∀ h' dr' tk', Fr h₀ L h' m → News h₀ L h' led' → Q v { s with heap := h', drawn := dr', toks := tk' }) →
    wpAny (model prog w) (ktrTop dp un gd cn cs L a ccd cl outer) (call (.ref f) vs) Q E s
theorem Ctr.use {prog : Program} {w : World} {d : Nat} {f : Addr} {vs : List Value} {led : List (Addr × Obj)} {Ret : (Value → List (Addr × Obj) → Prop) → Prop} {p : Program} {loose : List Str} {mean : ExcName → Option Value} {mg mb : Str → Option Value} {dp un : Nat} {gd : Option (List Code)} {cn : Str} {cs : Scope} {a : Addr} {ccd : Value} {cl : List (Str × Addr)} {outer : List Env} {A₀ : Around} {base h₀ : Heap} {L : Addr} {m : Str → Option Value} {s : Shared}
    {Q E : Value → Shared → Prop} (C : Ctr prog w d f vs led Ret) (B : Below A₀ base outer h₀) (F : Fr h₀ L s.heap m) (X : (hdA.heap_39 w.params).In h₀) (N : News h₀ L s.heap led) (T : Top p loose mean mg mb h₀) (hk : cs.kind = .function) (hd : dp + d < recursionLimit) (hu : un + 8 * d < cLine)
    (h : Ret (fun v led' => ∀ h' dr' tk', Fr h₀ L h' m → News h₀ L h' led' → Q v { s with heap := h', drawn := dr', toks := tk' })) :
    wpAny (model prog w) (ktrTop dp un gd cn cs L a ccd cl outer) (call (.ref f) vs) Q E s :=
  C _ _ _ _ _ _ _ _ _ _ _ _ _ _ _ _ _ _ _ _ _ _ B F X N T hk hd hu h
abbrev cellsO (c0 c1 c2 c3 c4 : Int) (t0 t1 t2 t3 t4 : Tok) (n : Nat) : Obj := listOf #[.int c0 t0, .int c1 t1, .int c2 t2, .int c3 t3, .int c4 t4] n
theorem news_add {h₀ h : Heap} {L : Addr} {led : List (Addr × Obj)} {p : Addr × Obj} (N : News h₀ L h led) (hm : p ∈ led) : News h₀ L h (p :: led) := fun q hq => by
  rcases List.mem_cons.mp hq with rfl | hq
  · exact N _ hm
  · exact N _ hq
theorem news_sub {h₀ h : Heap} {L : Addr} {led led' : List (Addr × Obj)} (N : News h₀ L h led) (hs : ∀ p ∈ led', p ∈ led) : News h₀ L h led' := fun q hq => N q (hs q hq)
theorem news_1_2 {h₀ h : Heap} {L : Addr} {led : List (Addr × Obj)} {r p : Addr × Obj} (N : News h₀ L h (r :: p :: led)) : News h₀ L h (r :: led) := fun q hq => by
  rcases List.mem_cons.mp hq with rfl | hq
  · exact N _ (.head _)
  · exact N _ (.tail _ (.tail _ hq))
theorem allLt_mono {a b : Addr} (h : a ≤ b) : ∀ {l : List (Addr × Obj)}, AllLt a l → AllLt b l
  | [], _ => trivial
  | _ :: _, x => ⟨Nat.lt_of_lt_of_le x.1 h, allLt_mono h x.2⟩
theorem allLt_mem {a : Addr} : ∀ {l : List (Addr × Obj)}, AllLt a l → ∀ p ∈ l, p.1 < a
  | [], _, _, h => nomatch h
  | _ :: _, x, _, .head _ => x.1
  | _ :: _, x, _, .tail _ h => allLt_mem x.2 _ h
end Mine
namespace Mine
def Old (L : Addr) (l : List (Addr × Obj)) : Prop := ∀ p ∈ l, p.1 < L
theorem old_of {L : Addr} {l : List (Addr × Obj)} (h : ∀ p ∈ l, p.1 < L) : Old L l := h
theorem Old.tail {L : Addr} {l : List (Addr × Obj)} {e : Addr × Obj} (h : Old L (e :: l)) : Old L l := fun p hp => h p (.tail _ hp)
theorem old_ne {L d : Addr} {l : List (Addr × Obj)} (h : Old L l) (hd : @LE.le Nat _ L d) : ∀ p ∈ l, p.1 ≠ d := fun p hp => Nat.ne_of_lt (Nat.lt_of_lt_of_le (h p hp) hd)
theorem old_ne1 {L d : Addr} {l : List (Addr × Obj)} {e1 : Addr × Obj} (h : Old L (e1 :: l)) (hd : @LE.le Nat _ L d) : ∀ p ∈ l, p.1 ≠ d := old_ne h.tail hd
theorem old_ne2 {L d : Addr} {l : List (Addr × Obj)} {e1 e2 : Addr × Obj} (h : Old L (e1 :: e2 :: l)) (hd : @LE.le Nat _ L d) : ∀ p ∈ l, p.1 ≠ d := old_ne1 h.tail hd
theorem old_ne3 {L d : Addr} {l : List (Addr × Obj)} {e1 e2 e3 : Addr × Obj} (h : Old L (e1 :: e2 :: e3 :: l)) (hd : @LE.le Nat _ L d) : ∀ p ∈ l, p.1 ≠ d := old_ne2 h.tail hd
theorem old_ne4 {L d : Addr} {l : List (Addr × Obj)} {e1 e2 e3 e4 : Addr × Obj} (h : Old L (e1 :: e2 :: e3 :: e4 :: l)) (hd : @LE.le Nat _ L d) : ∀ p ∈ l, p.1 ≠ d := old_ne3 h.tail hd
theorem off_ne {d : Addr} : ∀ {l : List (Addr × Obj)}, LCg.Off1 d l → ∀ p ∈ l, p.1 ≠ d
  | [], _, _, h => nomatch h
  | _ :: _, x, _, .head _ => x.1
  | _ :: _, x, _, .tail _ h => off_ne x.2 _ h
theorem off_of {d : Addr} : ∀ {l : List (Addr × Obj)}, (∀ p ∈ l, p.1 ≠ d) → LCg.Off1 d l
  | [], _ => trivial
  | _ :: _, x => ⟨x _ (.head _), off_of fun p h => x p (.tail _ h)⟩
theorem off_lt {a : Addr} {l : List (Addr × Obj)} (h : AllLt a l) : LCg.Off1 a l := off_of fun p hp => Nat.ne_of_lt (allLt_mem h p hp)
end Mine
namespace Mine
/-- a code object that says it is qual's -/
def CF (oc : Obj) (qual : Str) : Prop := Mine.Ex2 fun (vs : Array Value) (t : Tok) => oc.data = .fields vs ∧ vs[1]? = some (.str qual t)
/-- a code object's table of one inner def's code: empty, or it holds c -/
def TK (pos : Pos) (qual : Str) (x : Obj) (c : Addr) (oc : Obj) : Prop := x = tabObj #[] ∨ (x = tabObj #[rawInt pos.line, rawInt pos.col, .ref c] ∧ CF oc qual)
theorem nest_any {M : Model} {A : Around} {E : Value → Shared → Prop} {s : Shared} {h₀ : Heap} {L a c P : Addr} {m mg mb : Str → Option Value} {cn : Str} {cs : Scope} {ccd : Value} {cl : List (Str × Addr)} {news : List (Addr × Obj)} {g : Obj → List (Addr × Obj)}
    {p : Program} {loose : List Str} {mean : ExcName → Option Value} {name qual : Str} {params : Arguments} {body : List Stmt} {scope : Scope} {pos : Pos} {firstLine : Nat} {clos : List (Str × Addr)} {x oc : Obj} {c₁ : Addr}
    {Q : Value → Shared → Prop} (F : Fr h₀ L s.heap m) (N : News h₀ L s.heap news) (T : Top p loose mean mg mb h₀) (C : CodeHd h₀ c P) (hcd : ccd = .ref c) (U : UpdF P x news g) (hm : (c₁, oc) ∈ news) (hx : TK pos qual x c₁ oc)
    (ht : ∀ c', TriplesOk [rawInt pos.line, rawInt pos.col, .ref c']) (hnf : codeAmong pos ([] : List Value) = none) (hf : ∀ c', codeAmong pos [rawInt pos.line, rawInt pos.col, .ref c'] = some (.ref c'))
    (hcl : closureFor scope (envX cn cs L a ccd cl) = pure clos)
    (h : ∀ f c' oc' ctv doc h' tk, Fr h₀ L h' m → News h₀ L h' ((f, fnMade name qual params body scope clos doc ((mg "__name__").getD .none) c' ctv) :: (c', oc') :: g (tabObj #[rawInt pos.line, rawInt pos.col, .ref c'])) →
      CF oc' qual → (∀ q ∈ news, q.1 < f) → c' < f → ((∀ q ∈ news, q.1 < c') ∨ c' = c₁) → Q (.ref f) { s with heap := h', toks := tk }) :
    wpAny M A (makeFunction name qual params (.stmts body) scope (envX cn cs L a ccd cl) [] [] [] pos firstLine) Q E s := by
  rcases hx with rfl | ⟨rfl, vs, t, hd, hv⟩
  · refine nest_K F N T C hcd U True.intro hnf hcl fun f c' oc' vs t ctv doc h' tk F' N' hd hv l1 l2 => ?_
    exact h f c' oc' ctv doc h' tk F' N' ⟨vs, t, hd, hv⟩ (fun q hq => Nat.lt_trans (l1 q hq) l2) l2 (.inl l1)
  · obtain ⟨own, rest, e, hgr, h1, h2⟩ := U.split
    have hmem : (P, tabObj #[rawInt pos.line, rawInt pos.col, .ref c₁]) ∈ news := by rw [e]; exact List.mem_append_right _ (.head _)
    refine nestHit_K F N T C hcd hmem (ht c₁) (hf c₁) hcl fun f ctv doc h' tk F' N' l1 => ?_
    refine h f c₁ oc ctv doc h' tk F' (fun q hq => ?_) ⟨vs, t, hd, hv⟩ l1 (l1 _ hm) (.inr rfl)
    · rcases List.mem_cons.mp hq with rfl | hq
      · exact N' _ (.head _)
      · rcases List.mem_cons.mp hq with rfl | hq
        · exact N' _ (.tail _ hm)
        · rw [hgr, ← e] at hq
          exact N' _ (.tail _ hq)
end Mine
namespace Mine
/-- what a post says behind a bound of the tokens -/
def TokQ {α : Type} (n : Nat) (Q : α → Shared → Prop) : α → Shared → Prop := fun a s => n ≤ s.toks → Q a s
theorem tokQ {M : Model} {A : Around} {α : Type} {t : Sem α} {Q : α → Shared → Prop} {E : Value → Shared → Prop} {s : Shared} (hn : 1 ≤ s.toks) (h : wpAny M A t (TokQ 1 Q) (TokQ 1 E) s) : wpAny M A t Q E s := wpAny_with_toks hn h
theorem gentoks {M : Model} {A : Around} {α : Type} {t : Sem α} {Q : α → Shared → Prop} {E : Value → Shared → Prop} {hp : Heap} {g : Array GenState} {d : Drawn} {tk : Nat} {os : OsState} (hn : 1 ≤ tk) (h : ∀ tk, 1 ≤ tk → wpAny M A t Q E ⟨hp, g, d, tk, os⟩) : wpAny M A t Q E ⟨hp, g, d, tk, os⟩ := h tk hn
theorem tokQ_in {α : Type} {n : Nat} {Q : α → Shared → Prop} {a : α} {s : Shared} (h : n ≤ s.toks → Q a s) : TokQ n Q a s := h
end Mine
namespace Mine
theorem one_le_add {n k j : Nat} (h : k = j + 1) : 1 ≤ n + k := by omega
end Mine
namespace Mine
theorem lu7 (n : Nat) : n ≤ n + 1 + 1 + 1 + 1 + 1 + 1 + 1 := Nat.le_add_right n 7
theorem lu8 (n : Nat) : n ≤ n + 1 + 1 + 1 + 1 + 1 + 1 + 1 + 1 := Nat.le_add_right n 8
theorem one_s (n : Nat) : 1 ≤ n + 1 := Nat.le_add_left 1 n
theorem s_ne (n : Nat) : n + 1 ≠ 0 := Nat.succ_ne_zero n
section
variable {a d : PySem.Addr} {o : PySem.Obj} {l : List (PySem.Addr × PySem.Obj)}
theorem ltB (h : ∀ p ∈ l, p.1 < d) (m : (a, o) ∈ l) : @Ne Nat a d := Nat.ne_of_lt (h _ m)
theorem gtB (h : ∀ p ∈ l, p.1 < d) (m : (a, o) ∈ l) : @Ne Nat d a := Nat.ne_of_gt (h _ m)
end
section
variable {a d : PySem.Addr} {o : PySem.Obj} {l : List (PySem.Addr × PySem.Obj)}
theorem ltU1 (h : ∀ p ∈ l, p.1 < d) (m : (a, o) ∈ l) : @Ne Nat a (@HAdd.hAdd Nat Nat Nat _ (d) 1) := Nat.ne_of_lt (Nat.lt_of_lt_of_le (h _ m) (Nat.le_add_right d 1))
theorem gtU1 (h : ∀ p ∈ l, p.1 < d) (m : (a, o) ∈ l) : @Ne Nat (@HAdd.hAdd Nat Nat Nat _ (d) 1) a := Ne.symm (ltU1 h m)
theorem ltU2 (h : ∀ p ∈ l, p.1 < d) (m : (a, o) ∈ l) : @Ne Nat a (@HAdd.hAdd Nat Nat Nat _ (@HAdd.hAdd Nat Nat Nat _ (d) 1) 1) := Nat.ne_of_lt (Nat.lt_of_lt_of_le (h _ m) (Nat.le_add_right d 2))
theorem gtU2 (h : ∀ p ∈ l, p.1 < d) (m : (a, o) ∈ l) : @Ne Nat (@HAdd.hAdd Nat Nat Nat _ (@HAdd.hAdd Nat Nat Nat _ (d) 1) 1) a := Ne.symm (ltU2 h m)
theorem ltU3 (h : ∀ p ∈ l, p.1 < d) (m : (a, o) ∈ l) : @Ne Nat a (@HAdd.hAdd Nat Nat Nat _ (@HAdd.hAdd Nat Nat Nat _ (@HAdd.hAdd Nat Nat Nat _ (d) 1) 1) 1) := Nat.ne_of_lt (Nat.lt_of_lt_of_le (h _ m) (Nat.le_add_right d 3))
theorem gtU3 (h : ∀ p ∈ l, p.1 < d) (m : (a, o) ∈ l) : @Ne Nat (@HAdd.hAdd Nat Nat Nat _ (@HAdd.hAdd Nat Nat Nat _ (@HAdd.hAdd Nat Nat Nat _ (d) 1) 1) 1) a := Ne.symm (ltU3 h m)
theorem ltU4 (h : ∀ p ∈ l, p.1 < d) (m : (a, o) ∈ l) : @Ne Nat a (@HAdd.hAdd Nat Nat Nat _ (@HAdd.hAdd Nat Nat Nat _ (@HAdd.hAdd Nat Nat Nat _ (@HAdd.hAdd Nat Nat Nat _ (d) 1) 1) 1) 1) := Nat.ne_of_lt (Nat.lt_of_lt_of_le (h _ m) (Nat.le_add_right d 4))
theorem gtU4 (h : ∀ p ∈ l, p.1 < d) (m : (a, o) ∈ l) : @Ne Nat (@HAdd.hAdd Nat Nat Nat _ (@HAdd.hAdd Nat Nat Nat _ (@HAdd.hAdd Nat Nat Nat _ (@HAdd.hAdd Nat Nat Nat _ (d) 1) 1) 1) 1) a := Ne.symm (ltU4 h m)
theorem ltU5 (h : ∀ p ∈ l, p.1 < d) (m : (a, o) ∈ l) : @Ne Nat a (@HAdd.hAdd Nat Nat Nat _ (@HAdd.hAdd Nat Nat Nat _ (@HAdd.hAdd Nat Nat Nat _ (@HAdd.hAdd Nat Nat Nat _ (@HAdd.hAdd Nat Nat Nat _ (d) 1) 1) 1) 1) 1) := Nat.ne_of_lt (Nat.lt_of_lt_of_le (h _ m) (Nat.le_add_right d 5))
theorem gtU5 (h : ∀ p ∈ l, p.1 < d) (m : (a, o) ∈ l) : @Ne Nat (@HAdd.hAdd Nat Nat Nat _ (@HAdd.hAdd Nat Nat Nat _ (@HAdd.hAdd Nat Nat Nat _ (@HAdd.hAdd Nat Nat Nat _ (@HAdd.hAdd Nat Nat Nat _ (d) 1) 1) 1) 1) 1) a := Ne.symm (ltU5 h m)
theorem ltU6 (h : ∀ p ∈ l, p.1 < d) (m : (a, o) ∈ l) : @Ne Nat a (@HAdd.hAdd Nat Nat Nat _ (@HAdd.hAdd Nat Nat Nat _ (@HAdd.hAdd Nat Nat Nat _ (@HAdd.hAdd Nat Nat Nat _ (@HAdd.hAdd Nat Nat Nat _ (@HAdd.hAdd Nat Nat Nat _ (d) 1) 1) 1) 1) 1) 1) := Nat.ne_of_lt (Nat.lt_of_lt_of_le (h _ m) (Nat.le_add_right d 6))
theorem gtU6 (h : ∀ p ∈ l, p.1 < d) (m : (a, o) ∈ l) : @Ne Nat (@HAdd.hAdd Nat Nat Nat _ (@HAdd.hAdd Nat Nat Nat _ (@HAdd.hAdd Nat Nat Nat _ (@HAdd.hAdd Nat Nat Nat _ (@HAdd.hAdd Nat Nat Nat _ (@HAdd.hAdd Nat Nat Nat _ (d) 1) 1) 1) 1) 1) 1) a := Ne.symm (ltU6 h m)
theorem ltU7 (h : ∀ p ∈ l, p.1 < d) (m : (a, o) ∈ l) : @Ne Nat a (@HAdd.hAdd Nat Nat Nat _ (@HAdd.hAdd Nat Nat Nat _ (@HAdd.hAdd Nat Nat Nat _ (@HAdd.hAdd Nat Nat Nat _ (@HAdd.hAdd Nat Nat Nat _ (@HAdd.hAdd Nat Nat Nat _ (@HAdd.hAdd Nat Nat Nat _ (d) 1) 1) 1) 1) 1) 1) 1) := Nat.ne_of_lt (Nat.lt_of_lt_of_le (h _ m) (Nat.le_add_right d 7))
theorem gtU7 (h : ∀ p ∈ l, p.1 < d) (m : (a, o) ∈ l) : @Ne Nat (@HAdd.hAdd Nat Nat Nat _ (@HAdd.hAdd Nat Nat Nat _ (@HAdd.hAdd Nat Nat Nat _ (@HAdd.hAdd Nat Nat Nat _ (@HAdd.hAdd Nat Nat Nat _ (@HAdd.hAdd Nat Nat Nat _ (@HAdd.hAdd Nat Nat Nat _ (d) 1) 1) 1) 1) 1) 1) 1) a := Ne.symm (ltU7 h m)
theorem ltU8 (h : ∀ p ∈ l, p.1 < d) (m : (a, o) ∈ l) : @Ne Nat a (@HAdd.hAdd Nat Nat Nat _ (@HAdd.hAdd Nat Nat Nat _ (@HAdd.hAdd Nat Nat Nat _ (@HAdd.hAdd Nat Nat Nat _ (@HAdd.hAdd Nat Nat Nat _ (@HAdd.hAdd Nat Nat Nat _ (@HAdd.hAdd Nat Nat Nat _ (@HAdd.hAdd Nat Nat Nat _ (d) 1) 1) 1) 1) 1) 1) 1) 1) := Nat.ne_of_lt (Nat.lt_of_lt_of_le (h _ m) (Nat.le_add_right d 8))
theorem gtU8 (h : ∀ p ∈ l, p.1 < d) (m : (a, o) ∈ l) : @Ne Nat (@HAdd.hAdd Nat Nat Nat _ (@HAdd.hAdd Nat Nat Nat _ (@HAdd.hAdd Nat Nat Nat _ (@HAdd.hAdd Nat Nat Nat _ (@HAdd.hAdd Nat Nat Nat _ (@HAdd.hAdd Nat Nat Nat _ (@HAdd.hAdd Nat Nat Nat _ (@HAdd.hAdd Nat Nat Nat _ (d) 1) 1) 1) 1) 1) 1) 1) 1) a := Ne.symm (ltU8 h m)
end
section
variable {a b x1 x2 x3 x4 x5 x6 x7 x8 x9 x10 x11 : Prop}
theorem cj0 (h : a ∧ b) : a := h.1
theorem cj1 (h : x1 ∧ a ∧ b) : a := h.2.1
theorem cj2 (h : x1 ∧ x2 ∧ a ∧ b) : a := h.2.2.1
theorem cj3 (h : x1 ∧ x2 ∧ x3 ∧ a ∧ b) : a := h.2.2.2.1
theorem cj4 (h : x1 ∧ x2 ∧ x3 ∧ x4 ∧ a ∧ b) : a := h.2.2.2.2.1
theorem cj5 (h : x1 ∧ x2 ∧ x3 ∧ x4 ∧ x5 ∧ a ∧ b) : a := h.2.2.2.2.2.1
theorem cj6 (h : x1 ∧ x2 ∧ x3 ∧ x4 ∧ x5 ∧ x6 ∧ a ∧ b) : a := h.2.2.2.2.2.2.1
theorem cj7 (h : x1 ∧ x2 ∧ x3 ∧ x4 ∧ x5 ∧ x6 ∧ x7 ∧ a ∧ b) : a := h.2.2.2.2.2.2.2.1
theorem cj8 (h : x1 ∧ x2 ∧ x3 ∧ x4 ∧ x5 ∧ x6 ∧ x7 ∧ x8 ∧ a ∧ b) : a := h.2.2.2.2.2.2.2.2.1
theorem cj9 (h : x1 ∧ x2 ∧ x3 ∧ x4 ∧ x5 ∧ x6 ∧ x7 ∧ x8 ∧ x9 ∧ a ∧ b) : a := h.2.2.2.2.2.2.2.2.2.1
theorem cj10 (h : x1 ∧ x2 ∧ x3 ∧ x4 ∧ x5 ∧ x6 ∧ x7 ∧ x8 ∧ x9 ∧ x10 ∧ a ∧ b) : a := h.2.2.2.2.2.2.2.2.2.2.1
theorem cj11 (h : x1 ∧ x2 ∧ x3 ∧ x4 ∧ x5 ∧ x6 ∧ x7 ∧ x8 ∧ x9 ∧ x10 ∧ x11 ∧ a ∧ b) : a := h.2.2.2.2.2.2.2.2.2.2.2.1
theorem ck1 (h : a ∧ b) : b := h.2
theorem cl1 (h : (a ∧ b) ∧ x1) : a := h.1.1
theorem cl2 (h : (a ∧ b) ∧ x1) : b := h.1.2
end
section
variable {a c d : PySem.Addr} {o : PySem.Obj} {l : List (PySem.Addr × PySem.Obj)}
theorem offB (h : PyProof.Rows.LCg.Off1 d l) (m : (a, o) ∈ l) : @Ne Nat a d := Mine.off_ne h _ m
theorem offC (h : PyProof.Rows.LCg.Off1 d l) (m : (a, o) ∈ l) : @Ne Nat d a := Ne.symm (Mine.off_ne h _ m)
theorem sepB (h : (∀ p ∈ l, p.1 < c) ∨ c = d) (m : (a, o) ∈ l) (e : @Ne Nat d a) : @Ne Nat c a := h.elim (fun h => gtB h m) fun h => h ▸ e
theorem sepC (h : (∀ p ∈ l, p.1 < c) ∨ c = d) (m : (a, o) ∈ l) (e : @Ne Nat d a) : @Ne Nat a c := Ne.symm (sepB h m e)
theorem nvB (h : ∀ p ∈ l, p.1 ≠ d) (m : (a, o) ∈ l) : @Ne Nat a d := h _ m
theorem nvC (h : ∀ p ∈ l, p.1 ≠ d) (m : (a, o) ∈ l) : @Ne Nat d a := Ne.symm (h _ m)
theorem allSub {l' : List (PySem.Addr × PySem.Obj)} (h : ∀ p ∈ l', p.1 < d) (s : ∀ p ∈ l, p ∈ l') : ∀ p ∈ l, p.1 < d := fun p hp => h p (s p hp)
theorem leU1 {L d : Nat} (h : L + 1 < d) : L ≤ d := Nat.le_of_lt (Nat.lt_of_succ_lt h)
theorem leU2 {L d : Nat} (h : L + 1 + 1 < d) : L ≤ d := leU1 (Nat.lt_of_succ_lt h)
end
theorem ilen {k m : Int} {n N : Nat} (h : n = N) (h2 : k < m) (e : m ≤ (N : Int)) : k < (n : Int) := by subst h; exact Int.lt_of_lt_of_le h2 e
theorem mAt {α : Type} {a : α} {l : List α} (i : Nat) (h : l[i]? = some a) : a ∈ l := List.mem_of_getElem? h
theorem sub_nil {α : Type} {l' : List α} : ∀ p, p ∈ ([] : List α) → p ∈ l' := fun _ h => nomatch h
theorem sub_cons {α : Type} {a : α} {l l' : List α} (h : a ∈ l') (t : ∀ p, p ∈ l → p ∈ l') : ∀ p, p ∈ a :: l → p ∈ l' := List.forall_mem_cons.mpr ⟨h, t⟩
theorem sub_app {α : Type} {a b l' : List α} (h : ∀ p, p ∈ a → p ∈ l') (t : ∀ p, p ∈ b → p ∈ l') : ∀ p, p ∈ a ++ b → p ∈ l' := fun p hp => (List.mem_append.mp hp).elim (h p) (t p)
theorem nat5 {i : Nat} (h : i < 5) : 0 ≤ (i : Int) ∧ (i : Int) < 5 := ⟨Int.natCast_nonneg i, Int.ofNat_lt.mpr h⟩
theorem cs2 {i : Nat} (h : i < 2) : i = 0 ∨ i = 1 := by lia
theorem cs3 {i : Nat} (h : i < 3) : i = 0 ∨ i = 1 ∨ i = 2 := by lia
theorem cs5 {i : Nat} (h : i < 5) : i = 0 ∨ i = 1 ∨ i = 2 ∨ i = 3 ∨ i = 4 := by lia
theorem ci3 {a : Int} (h : 0 ≤ a ∧ a ≤ 2) : a = 0 ∨ a = 1 ∨ a = 2 := by lia
theorem m0 {α : Type} {a : α} {l : List α} : a ∈ a :: l := .head _
theorem m1 {α : Type} {x0 a : α} {l : List α} : a ∈ x0 :: a :: l := .tail _ m0
theorem m2 {α : Type} {x0 x1 a : α} {l : List α} : a ∈ x0 :: x1 :: a :: l := .tail _ m1
theorem m3 {α : Type} {x0 x1 x2 a : α} {l : List α} : a ∈ x0 :: x1 :: x2 :: a :: l := .tail _ m2
theorem m4 {α : Type} {x0 x1 x2 x3 a : α} {l : List α} : a ∈ x0 :: x1 :: x2 :: x3 :: a :: l := .tail _ m3
theorem m5 {α : Type} {x0 x1 x2 x3 x4 a : α} {l : List α} : a ∈ x0 :: x1 :: x2 :: x3 :: x4 :: a :: l := .tail _ m4
theorem m6 {α : Type} {x0 x1 x2 x3 x4 x5 a : α} {l : List α} : a ∈ x0 :: x1 :: x2 :: x3 :: x4 :: x5 :: a :: l := .tail _ m5
theorem m7 {α : Type} {x0 x1 x2 x3 x4 x5 x6 a : α} {l : List α} : a ∈ x0 :: x1 :: x2 :: x3 :: x4 :: x5 :: x6 :: a :: l := .tail _ m6
theorem m8 {α : Type} {x0 x1 x2 x3 x4 x5 x6 x7 a : α} {l : List α} : a ∈ x0 :: x1 :: x2 :: x3 :: x4 :: x5 :: x6 :: x7 :: a :: l := .tail _ m7
theorem m9 {α : Type} {x0 x1 x2 x3 x4 x5 x6 x7 x8 a : α} {l : List α} : a ∈ x0 :: x1 :: x2 :: x3 :: x4 :: x5 :: x6 :: x7 :: x8 :: a :: l := .tail _ m8
theorem m10 {α : Type} {x0 x1 x2 x3 x4 x5 x6 x7 x8 x9 a : α} {l : List α} : a ∈ x0 :: x1 :: x2 :: x3 :: x4 :: x5 :: x6 :: x7 :: x8 :: x9 :: a :: l := .tail _ m9
theorem m11 {α : Type} {x0 x1 x2 x3 x4 x5 x6 x7 x8 x9 x10 a : α} {l : List α} : a ∈ x0 :: x1 :: x2 :: x3 :: x4 :: x5 :: x6 :: x7 :: x8 :: x9 :: x10 :: a :: l := .tail _ m10
theorem m12 {α : Type} {x0 x1 x2 x3 x4 x5 x6 x7 x8 x9 x10 x11 a : α} {l : List α} : a ∈ x0 :: x1 :: x2 :: x3 :: x4 :: x5 :: x6 :: x7 :: x8 :: x9 :: x10 :: x11 :: a :: l := .tail _ m11
end Mine
namespace Mine
theorem pow3_ne (k : Int) : (3 : Int) ^ k.toNat ≠ 0 := Int.pow_ne_zero (by decide)
theorem pow18_ne (k : Int) : (18 : Int) ^ k.toNat ≠ 0 := Int.pow_ne_zero (by decide)
theorem log2_pow {b e n : Nat} (hb : b ≤ 32) (he : e ≤ 30) (h : n = b ^ e) : n.log2 < 9000 := by
  by_cases h0 : n = 0
  · rw [h0]; decide
  · refine (Nat.log2_lt h0).mpr (Nat.lt_of_le_of_lt (m := 2 ^ 150) ?_ (Nat.pow_lt_pow_right (by decide) (by decide)))
    rw [h]
    exact Nat.le_trans (Nat.pow_le_pow_left hb e) (Nat.le_trans (Nat.pow_le_pow_right (by decide) he) (by decide))
theorem nat_pow_abs (b : Nat) (e : Nat) : ((b : Int) ^ e).natAbs = b ^ e := by rw [Int.natAbs_pow]; rfl
theorem py3 {k : Int} (h : k ≤ 30) : ((3 : Int) ^ k.toNat).natAbs.log2 < 9000 := log2_pow (b := 3) (e := k.toNat) (by decide) (by omega) (nat_pow_abs 3 _)
theorem py18 {k : Int} (h : k ≤ 30) : ((18 : Int) ^ k.toNat).natAbs.log2 < 9000 := log2_pow (b := 18) (e := k.toNat) (by decide) (by omega) (nat_pow_abs 18 _)
theorem ints5 {ys : List Value} {a b c d e : Int} (h : IntsAre ys [a, b, c, d, e]) : Mine.Ex5 fun t0 t1 t2 t3 t4 => ys = [.int a t0, .int b t1, .int c t2, .int d t3, .int e t4] := by
  cases h with | cons _ t0 h => cases h with | cons _ t1 h => cases h with | cons _ t2 h => cases h with | cons _ t3 h => cases h with | cons _ t4 h => cases h; exact ⟨_, _, _, _, _, rfl⟩
end Mine
namespace Mine
open PyProof in
theorem sum_pick {prog : Program} {w : World} {A : Around} {E : Value → Shared → Prop} {s : Shared} {h₀ : Heap} {L : Addr} {m : Str → Option Value} {news : List (Addr × Obj)} {l : Addr} {vs : List Value} {ns : List Int} {lo hi st : Option Int} {Q : Value → Shared → Prop} (hh : A.handled = none) (F : Fr h₀ L s.heap m) (N : News h₀ L s.heap news) (hl : s.heap.IsList l (slicePick vs.toArray lo hi st)) (hv : IntsAre vs ns)
    (h : ∀ h' tk t', Fr h₀ L h' m → News h₀ L h' news → Q (.int (pickNums ns lo hi st).sum t') { s with heap := h', toks := tk }) :
    wpAny (model prog w) A (call (.builtin "sum") [.ref l]) Q E s :=
  sumK (vs := (slicePick vs.toArray lo hi st).toList) hh F N (by simpa using hl) (hv.pick lo hi st) h
end Mine
namespace Mine
structure DigN (e k : Int) : Prop where
  eq : e = k
end Mine
namespace Mine
theorem rep1 (v : Value) : (List.replicate (Int.toNat 1) [v]).flatten.toArray = #[v] := rfl
theorem rep2 (v : Value) : (List.replicate (Int.toNat 2) [v]).flatten.toArray = #[v, v] := rfl
theorem rep3 (v : Value) : (List.replicate (Int.toNat 3) [v]).flatten.toArray = #[v, v, v] := rfl
end Mine
namespace Mine
theorem eqN {a b : Nat} (h : a = b) : a = b := h
end Mine
namespace Mine
structure ShR (a n q : Int) : Prop where
  nn : 0 ≤ n
  eq : a.fdiv (2 ^ n.toNat) = q
structure ShL (a n q : Int) : Prop where
  nn : 0 ≤ n
  hi : n ≤ 1000000
  sm : a.natAbs < 2 ^ 64
  eq : a * 2 ^ n.toNat = q
structure Xr (a b q : Int) : Prop where
  eq : Builtin.bitXor a b = q
section
variable {prog : Program} {w : World} {A : Around} {E : Value → Shared → Prop} {s : Shared} {a n q : Int} {t u : Tok} {Q : Value → Shared → Prop}
theorem rshR (f : ShR a n q) (h : Q (.int q s.toks) { s with toks := s.toks + 1 }) : wpAny (model prog w) A (binaryOp .RShift (.int a t) (.int n u)) Q E s := rshift_int f.nn (f.eq ▸ h)
theorem lshR (f : ShL a n q) (h : Q (.int q s.toks) { s with toks := s.toks + 1 }) : wpAny (model prog w) A (binaryOp .LShift (.int a t) (.int n u)) Q E s := lshift_int_small f.nn f.hi f.sm (f.eq ▸ h)
theorem xorR (f : Xr a n q) (h : Q (.int q s.toks) { s with toks := s.toks + 1 }) : wpAny (model prog w) A (binaryOp .BitXor (.int a t) (.int n u)) Q E s := xor_int (by rw [f.eq]; exact h)
end
end Mine
namespace Mine
section
variable {prog : Program} {w : World} {A : Around} {E : Value → Shared → Prop} {s : Shared} {h₀ : Heap} {L : Addr} {m : Str → Option Value} {news : List (Addr × Obj)} {l : Addr} {v : Value} {u : Tok} {Q : Value → Shared → Prop}
theorem mulZ1 (F : Fr h₀ L s.heap m) (N : News h₀ L s.heap news) (hl : s.heap.IsList l #[v]) (h : ∀ D h', Fr h₀ L h' m → News h₀ L h' ((D, listOf #[v] 0) :: news) → (∀ p ∈ news, p.1 < D) → Q (.ref D) { s with heap := h' }) : wpAny (model prog w) A (binaryOp .Mult (.ref l) (.int 1 u)) Q E s :=
  KMa.mul (vs := [v]) (ws := [v]) F N hl (by decide) (by decide) (Nat.le_of_ble_eq_true rfl) rfl h
theorem mulZ2 (F : Fr h₀ L s.heap m) (N : News h₀ L s.heap news) (hl : s.heap.IsList l #[v]) (h : ∀ D h', Fr h₀ L h' m → News h₀ L h' ((D, listOf #[v, v] 0) :: news) → (∀ p ∈ news, p.1 < D) → Q (.ref D) { s with heap := h' }) : wpAny (model prog w) A (binaryOp .Mult (.ref l) (.int 2 u)) Q E s :=
  KMa.mul (vs := [v]) (ws := [v, v]) F N hl (by decide) (by decide) (Nat.le_of_ble_eq_true rfl) rfl h
theorem mulZ3 (F : Fr h₀ L s.heap m) (N : News h₀ L s.heap news) (hl : s.heap.IsList l #[v]) (h : ∀ D h', Fr h₀ L h' m → News h₀ L h' ((D, listOf #[v, v, v] 0) :: news) → (∀ p ∈ news, p.1 < D) → Q (.ref D) { s with heap := h' }) : wpAny (model prog w) A (binaryOp .Mult (.ref l) (.int 3 u)) Q E s :=
  KMa.mul (vs := [v]) (ws := [v, v, v]) F N hl (by decide) (by decide) (Nat.le_of_ble_eq_true rfl) rfl h
end
theorem ints_cons {vs : List Value} {n : Int} {ns : List Int} (h : IntsAre vs (n :: ns)) : Mine.Ex2 fun t r => vs = .int n t :: r ∧ IntsAre r ns := by
  cases h with
  | cons _ t h => exact ⟨t, _, rfl, h⟩
theorem ints_nil {vs : List Value} (h : IntsAre vs []) : vs = [] := by
  cases h; rfl
end Mine
namespace Mine
def SetNow (o : Obj) (es : Array (Int × Value)) : Prop := o.ExactSet ∧ Mine.Ex2 fun ep t => Mine.And3 (o.data = .set es ep t) (t.place.size = es.size) (t.fill ≤ t.mask)
theorem setNow_of {prog : Program} {w : World} {o : Obj} {S : Int → Bool} {n : Nat} (h : o.SetObjOf (PySem.intKind prog w) S n) : ∃ es : Array (Int × Value), SetNow o es ∧ es.size = n ∧ ElemsOf (PySem.intKind prog w) es.toList ∧ (∀ k, S k = true ↔ ∃ e ∈ es.toList, (PySem.intKind prog w).is k e.2 = true) := by
  obtain ⟨hex, es, ep, t, hd, hel, hS, hn, hf⟩ := h
  simp only [SetTable.fits, Bool.and_eq_true, decide_eq_true_eq, beq_iff_eq] at hf
  exact ⟨es, ⟨hex, ep, t, hd, hf.1, hf.2⟩, hn, hel, hS⟩
section
variable {prog : Program} {w : World} {A : Around} {E : Value → Shared → Prop} {s : Shared} {a : Addr} {o : Obj} {es : Array (Int × Value)}
theorem setState_now {M : Model} {Q : Array (Int × Value) × Nat × SetTable → Shared → Prop} (ho : s.heap.get? a = some o) (hs : SetNow o es) (h : ∀ ep t, o.data = .set es ep t → t.place.size = es.size → t.fill ≤ t.mask → Q (es, ep, t) s) : wpAny M A (setState a) Q E s := by
  obtain ⟨hex, ep, t, hd, hp, hf⟩ := hs
  unfold setState
  refine wpAny_bind (wpAny_load ho ?_)
  rw [hd]
  dsimp only
  have e : (t.place.size != es.size || decide (t.fill > t.mask)) = false := by simp [hp]; lia
  rw [e]
  exact wpAny_pure (h ep t hd hp hf)
theorem len_set_now {Q : Value → Shared → Prop} (ho : s.heap.get? a = some o) (hs : SetNow o es) (hfit : (es.size : Int) < 2 ^ 63)
    (h : Q (.int es.size (s.toks + 1)) { s with toks := s.toks + 1 + 1 }) : wpAny (model prog w) A (Builtin.«len» ⟨[.ref a], []⟩) (fun fin s' => ∃ r, fin = .done (.ret r) ∧ Q r s') E s := by
  have hT : s.TypeIs (.ref a) "set" := ⟨o, ho, hs.1.1⟩
  unfold Builtin.«len»
  refine wpAny_bind (m := oneArg "len" _) (wpAny_pure ?_)
  refine wpAny_bind (m := callSpecial? (.ref a) (Str.ofString "__len__")) (wpAny_callSpecial?_slot (name := Str.ofString "__len__") hT F.slot_set_len
    (wpAny_call_entry F.slot_set_len hT entry_set_len ?_ (F.args_set_len_1 _)))
  · unfold Builtin.«frozenset.__len__» Builtin.Frozenset.slot0 slotArgs
    simp only [List.isEmpty_nil, Bool.not_true, Bool.false_eq_true, ↓reduceIte, bind_assoc, List.length_nil, bne_self_eq_false]
    unfold Builtin.Frozenset.addrOf Builtin.Frozenset.sizeOf
    refine wpAny_bind (wpAny_pure ?_)
    try dsimp only
    refine wpAny_bind (wpAny_pure ?_)
    unfold setEntries
    refine wpAny_bind (wpAny_bind (wpAny_bind (setState_now ho hs fun ep t _ _ _ => wpAny_pure (wpAny_pure ?_))))
    show wpAny _ _ (retInt _) _ _ _
    unfold retInt
    refine wpAny_bind (wpAny_mkInt (wpAny_pure ⟨_, rfl, ?_⟩))
    refine wpAny_bind (wpAny_holding (wpAny_pure ?_))
    refine wpAny_bind (wpAny_letGo ?_)
    show wpAny _ _ (if ((es.size : Nat) : Int) < 0 then _ else _) _ _ _
    rw [if_neg (by lia)]
    show wpAny _ _ (if ((es.size : Nat) : Int) ≥ 2 ^ 63 then _ else _) _ _ _
    rw [if_neg (by lia)]
    exact wpAny_bind (wpAny_mkInt (wpAny_pure ⟨_, rfl, h⟩))
theorem noBool_set : typeLookup (.type "set") "__bool__" = pure none := by rw [typeLookup_type, builtinLookup_eq_fast]; kernel_rfl
theorem truthy_set_now {Q : Bool → Shared → Prop} (ho : s.heap.get? a = some o) (hs : SetNow o es) (hfit : (es.size : Int) < 2 ^ 63)
    (h : Q ((es.size : Int) != 0) { s with toks := s.toks + 1 + 1 }) : wpAny (model prog w) A (truthy (.ref a)) Q E s := by
  have hT : s.TypeIs (.ref a) "set" := ⟨o, ho, hs.1.1⟩
  have key : wpAny (model prog w) A (runValue (.builtin "len" ⟨[.ref a], []⟩)) (fun r s' => r = .int es.size (s.toks + 1) ∧ Q ((es.size : Int) != 0) s') E s := by
    refine wpAny_runValue (codeAny_builtin entry_len ?_)
    rw [Around.under_plainId plain_len _]
    exact wpAny_mono (len_set_now (Q := fun r s' => r = .int es.size (s.toks + 1) ∧ Q ((es.size : Int) != 0) s') ho hs hfit ⟨rfl, h⟩)
      (fun fin s' h' => by obtain ⟨r, rfl, hq⟩ := h'; exact hq) fun _ _ e => e
  unfold truthy
  first
    | refine wpAny_bind (wpAny_callSpecial?_none (name := Str.ofString "__bool__") hT noBool_set ?_)
    | refine wpAny_bind (wpAny_pure (wpAny_bind (wpAny_callSpecial?_none (name := Str.ofString "__bool__") hT noBool_set ?_)))
  first
    | refine wpAny_bind (wpAny_specialOf (name := Str.ofString "__len__") hT F.slot_set_len.lookup ?_)
    | refine wpAny_bind (wpAny_pure (wpAny_bind (wpAny_specialOf (name := Str.ofString "__len__") hT F.slot_set_len.lookup ?_)))
  first
    | exact wpAny_bind (wpAny_mono key (fun r s' h' => by obtain ⟨rfl, hq⟩ := h'; exact wpAny_pure hq) fun _ _ e => e)
    | exact wpAny_bind (wpAny_pure (wpAny_bind (wpAny_mono key (fun r s' h' => by obtain ⟨rfl, hq⟩ := h'; exact wpAny_pure hq) fun _ _ e => e)))
theorem wpAny_choose' {M : Model} {src : Source} {n : Nat} {Q : Nat → Shared → Prop} (hn : n ≠ 0) (h : Q (M.w.draws src (s.drawn.get src) % n) { s with drawn := s.drawn.bump src }) : wpAny M A (choose src n) Q E s := fun _ _ _ => ⟨hn, h⟩
theorem eraseAt_one {α : Type} (x : α) : SetTable.eraseAt #[x] 0 = #[] := rfl
theorem popPlace_one {t : SetTable} (h : t.place.size = 1) : t.popPlace = some 0 := by
  unfold SetTable.popPlace
  have h0 : t.place.isEmpty = false := by simp [Array.isEmpty, h]
  rw [h0]
  simp only [Bool.false_eq_true, if_false, h]
  split
  · rename_i q; congr 1; lia
  · rfl
theorem popped_one {t : SetTable} (h : t.place.size = 1) (hf : t.fill ≤ t.mask) : (t.popped 0).place.size = 0 ∧ (t.popped 0).fill ≤ (t.popped 0).mask := by
  have h0 : t.place[0]? = some (t.place[0]'(by lia)) := Array.getElem?_eq_getElem (by lia)
  have e : (t.drop 0).place.size = 0 ∧ (t.drop 0).dummies.size = t.dummies.size + 1 ∧ (t.drop 0).mask = t.mask := by
    unfold SetTable.drop
    rw [h0]
    refine ⟨?_, ?_, rfl⟩
    · simp [SetTable.eraseAt, h]
    · simp [SetTable.insertAt]
      lia
  unfold SetTable.popped SetTable.fill at *
  obtain ⟨e1, e2, e3⟩ := e
  dsimp only at *
  refine ⟨e1, ?_⟩
  rw [e1, e2, e3]
  lia
theorem call_set_pop1 {e : Int × Value} {Q : Value → Shared → Prop} (ho : s.heap.get? a = some o) (hs : SetNow o #[e])
    (h : ∀ dr o', SetNow o' #[] → ∀ h', Heap.SameBut a s.heap h' → h'.get? a = some o' → Q e.2 { s with heap := h', drawn := dr }) : wpAny (model prog w) A (call (.builtin "set.pop") [.ref a]) Q E s := by
  have hT : s.TypeIs (.ref a) "set" := ⟨o, ho, hs.1.1⟩
  refine wpAny_call_entry F.slot_set_pop hT F.entry_set_pop ?_ (F.args_set_pop_1 _)
  unfold Builtin.«set.pop» Builtin.Frozenset.noArgs Builtin.Frozenset.addrOf
  obtain ⟨hex, ep, t, hd, hp, hf⟩ := hs
  have hpp := popPlace_one (t := t) hp
  obtain ⟨hq1, hq2⟩ := popped_one (t := t) hp hf
  have fin : ∀ (dr : Drawn), wpAny (model prog w) A.in1 (do
      storeSet a (SetTable.eraseAt #[e] 0) (t.popped 0)
      pure (some e.2)) (fun r s' => ∃ v, r = some v ∧ Q v s') E { s with drawn := dr } := fun dr => by
    unfold storeSet
    refine wpAny_bind (wpAny_bind (wpAny_load ho ?_))
    rw [hd]
    dsimp only
    rw [if_neg (by rw [eraseAt_one, sizeLine_eq]; decide)]
    refine wpAny_update ho (wpAny_pure ⟨_, rfl, ?_⟩)
    obtain ⟨cls, dct, dat, sl⟩ := o
    dsimp only at hd
    subst hd
    refine h dr (Obj.putSet (SetTable.eraseAt #[e] 0) (t.popped 0) ⟨cls, dct, .set #[e] ep t, sl⟩) ⟨⟨hex.1, hex.2.1, hex.2.2⟩, ep + 1, t.popped 0, rfl, hq1, hq2⟩ _ ⟨?_, fun b hb => Heap.get?_update_ne _ _ _ _ hb⟩ (Heap.get?_update_self _ ho rfl)
    exact Heap.size_after_update ..
  wp_walk
  rw [hd]
  dsimp only
  have e0 : (t.place.size != (#[e] : Array (Int × Value)).size || decide (t.fill > t.mask)) = false := by simp [hp]; lia
  rw [e0]
  refine wpAny_pure ?_
  dsimp only
  rw [hpp]
  dsimp only
  unfold setsByText
  refine wpAny_bind (wpAny_bind (wpAny_askSetting (wpAny_pure ?_)))
  dsimp only
  split
  · refine wpAny_bind (wpAny_choose' Nat.one_ne_zero ?_)
    have e1 : (model prog w).w.draws .order (s.drawn.get .order) % (#[e] : Array (Int × Value)).size = 0 := Nat.mod_one _
    rw [e1]
    exact wpAny_mono (fin (s.drawn.bump .order)) (fun r s' hr => by obtain ⟨v, rfl, hv⟩ := hr; exact wpAny_pure (a := Fin.done (Flow.ret v)) ⟨v, rfl, hv⟩) (fun _ _ z => z)
  · have e2 : (!t.led && decide ((#[e] : Array (Int × Value)).size > 1)) = false := by simp
    refine wpAny_bind (show wpAny _ _ (if (!t.led && decide ((#[e] : Array (Int × Value)).size > 1)) = true then unsupported "set:maker-not-led" else pure ()) _ _ _ from ?_)
    rw [e2]
    refine wpAny_pure ?_
    refine wpAny_bind (wpAny_pure ?_)
    exact wpAny_mono (fin s.drawn) (fun r s' hr => by obtain ⟨v, rfl, hv⟩ := hr; exact wpAny_pure (a := Fin.done (Flow.ret v)) ⟨v, rfl, hv⟩) (fun _ _ z => z)
theorem set_pop_K {h₀ : Heap} {L : Addr} {m : Str → Option Value} {news : List (Addr × Obj)} {g : Obj → List (Addr × Obj)} {e : Int × Value} {Q : Value → Shared → Prop} (F : Fr h₀ L s.heap m) (N : News h₀ L s.heap news) (U : UpdF a o news g) (hs : SetNow o #[e])
    (h : ∀ dr o' h', SetNow o' #[] → Fr h₀ L h' m → News h₀ L h' (g o') → Q e.2 { s with heap := h', drawn := dr }) : wpAny (model prog w) A (call (.builtin "set.pop") [.ref a]) Q E s := by
  obtain ⟨pre, post, rfl, hg, h1, h2⟩ := U.split
  have hm := N _ (List.mem_append_right _ (.head _))
  refine call_set_pop1 hm.1 hs fun dr o' hs' h' hsb ho' => ?_
  exact h dr o' h' hs' (F.change hsb hm.2.1 hm.2.2) (hg o' ▸ N.setIn h1 h2 hsb ho')
theorem set_popM_K {h₀ : Heap} {L : Addr} {news : List (Addr × Obj)} {pl : Sem Bool} {Q : Value × List Value → Shared → Prop} (N : News h₀ L s.heap news) (hm : (a, o) ∈ news) (hs : SetNow o es) (h : Q (.builtin "set.pop", [.ref a]) s) :
    wpAny (model prog w) A (getMethod (.ref a) "pop" pl) Q E s :=
  getMethod_builtin ⟨o, (N _ hm).1, hs.1.1⟩ F.plainAttrs_set F.slot_set_pop F.type_set_pop (fun b hb => by cases hb; exact ⟨o, (N _ hm).1, hs.1.2.1⟩) h
theorem truthy_set_K {h₀ : Heap} {L : Addr} {news : List (Addr × Obj)} {Q : Bool → Shared → Prop} (N : News h₀ L s.heap news) (hm : (a, o) ∈ news) (hs : SetNow o es) (hz : es.size ≤ 1) (h : Q ((es.size : Int) != 0) { s with toks := s.toks + 1 + 1 }) : wpAny (model prog w) A (truthy (.ref a)) Q E s :=
  truthy_set_now (N _ hm).1 hs (by lia) h
theorem setNow_one {prog : Program} {w : World} {o : Obj} {S : Int → Bool} {k : Int} (h : o.SetObjOf (PySem.intKind prog w) S 1) (hk : ∀ j, S j = true ↔ j = k) : Mine.Ex2 fun hh t => SetNow o #[(hh, .int k t)] := by
  obtain ⟨es, hs, hz, hel, hS⟩ := setNow_of h
  obtain ⟨l⟩ := es
  match l, hz with
  | [(hh, v)], _ =>
    obtain ⟨e, he, hv⟩ := (hS k).mp ((hk k).mpr rfl)
    simp at he
    subst he
    have : ∃ t, v = .int k t := by
      have hv' : Value.isInt k v = true := hv
      clear hv hS hel hs hk
      cases v <;> simp [Value.isInt] at hv'
      exact ⟨_, by rw [hv']⟩
    obtain ⟨t, rfl⟩ := this
    exact ⟨hh, t, hs⟩
  | [], hz => simp at hz
  | _ :: _ :: _, hz => simp at hz
theorem setNow_nil {prog : Program} {w : World} {o : Obj} {S : Int → Bool} (h : o.SetObjOf (PySem.intKind prog w) S 0) : SetNow o #[] := by
  obtain ⟨es, hs, hz, _⟩ := setNow_of h
  rwa [Array.eq_empty_of_size_eq_zero hz] at hs
theorem setNow_fresh (led : Bool) : SetNow { cls := .type "set", dict := none, data := .set #[] 0 (.fresh 0 0 led) } #[] := ⟨⟨rfl, rfl, rfl⟩, 0, _, rfl, rfl, Nat.le_of_ble_eq_true rfl⟩
end
end Mine
namespace Mine
open PySem.NumText
theorem wp_text16 {M : Model} {A : Around} {E : Value → Shared → Prop} {s : Shared} {Q : Value → Shared → Prop} {v : Value} {text : List Nat} {n : Int}
    (hs : (text.takeWhile (· != 0)).length ≤ 640) (hr : (int_private% "readNumeral") 0 16 (text.takeWhile (· != 0)) = (int_private% "Numeral.value") n)
    (ha : ((text.takeWhile (· != 0)).length == text.length) = true) (h : Q (.int n s.toks) { s with toks := s.toks + 1 }) :
    wpAny M A ((int_private% "intFromText") v text 16) Q E s := by
  obtain ⟨hp, g, d, tk, os⟩ := s
  repeat (any_goals (first
    | assumption
    | (with_reducible refine wpAny_ite_true (decide_eq_true hs) ?_)
    | (with_reducible refine wpAny_ite_true (decide_eq_true ha) ?_)
    | wp_step))
  all_goals (try rw [hr])
  all_goals (try dsimp only)
  repeat (any_goals (first
    | assumption
    | (with_reducible refine wpAny_ite_true (decide_eq_true hs) ?_)
    | (with_reducible refine wpAny_ite_true (decide_eq_true ha) ?_)
    | wp_step))
structure Hex (x : PySem.Str) (n : Int) : Prop where
  len : (numSeenOf x).length ≤ 640
  val : (int_private% "readNumeral") 0 16 (numSeenOf x) = (int_private% "Numeral.value") n
  all : ((numSeenOf x).length == (numTextOf x).length) = true
set_option maxHeartbeats 4000000 in
theorem gives_hex {x : PySem.Str} {u v : Tok} {n : Int} (hk : Hex x n) : Gives (Builtin.«int.__new__» ⟨[.type "int", .str x u, .int 16 v], []⟩) (.int n) :=
  .of_wp fun M A E s Q h => by
    obtain ⟨hp, g, d, tk, os⟩ := s
    have f1 := F.conv_sub_int
    have f2 := F.madeHere_int
    have f3 := KIN.str_int
    have f4 := KIN.str_idx
    have f5 := KIN.str_trunc
    have f6 : typeOf (.str x u) = pure (.type "str") := rfl
    repeat (any_goals (first
      | assumption
      | ((with_reducible show wpAny _ _ ((int_private% "intFromText") _ _ _) _ _ _); refine wp_text16 hk.len hk.val hk.all ?_)
      | wp_step))
    all_goals first | exact ⟨_, rfl, h⟩ | skip
theorem typeCall_int_2 (a b : Value) : checkTypeCall "int" ⟨[a, b], []⟩ = pure () := by kernel_rfl
theorem newCall_int_2 (a b : Value) : checkBuiltinCall "int.__new__" ⟨[.type "int", a, b], []⟩ = pure () := by kernel_rfl
section
variable {prog : Program} {w : World} {A : Around} {E : Value → Shared → Prop} {s : Shared} {Q : Value → Shared → Prop} {x : PySem.Str} {t u : Tok} {n : Int}
theorem call_hex (hn : Hex x n) (h : Q (.int n s.toks) { s with toks := s.toks + 1 }) : wpAny (model prog w) A (call (.type "int") [.str x t, .int 16 u]) Q E s := by
  have g := gives_hex (u := t) (v := u) hn
  refine callType_new F.called_int F.newNe_int (typeCall_int_2 _ _) (newCall_int_2 _ _) (fun obj => F.args_object_init_3 obj _ _) F.entry_int_new g.meets ?_
  exact (show (Made.int n).post _ s from ⟨rfl, h⟩)
end
end Mine
namespace Mine
theorem plainAttrs_reMatch : PlainAttrs "re.Match" :=
  ⟨⟨"object.__getattribute__", by rw [typeLookup_type, builtinLookup_eq_fast]; kernel_rfl, by decide +kernel⟩, by rw [typeLookup_type, builtinLookup_eq_fast]; kernel_rfl⟩
theorem plainAttrs_rePattern : PlainAttrs "re.Pattern" :=
  ⟨⟨"object.__getattribute__", by rw [typeLookup_type, builtinLookup_eq_fast]; kernel_rfl, by decide +kernel⟩, by rw [typeLookup_type, builtinLookup_eq_fast]; kernel_rfl⟩
theorem owner_reMatch : Manifest.owners.lookup (String.ofList ['h', 'c', 't', 'a', 'M', '.', 'e', 'r'].reverse) = some Manifest.sig_re_Match := by kernel_rfl
theorem owner_rePattern : Manifest.owners.lookup (String.ofList ['n', 'r', 'e', 't', 't', 'a', 'P', '.', 'e', 'r'].reverse) = some Manifest.sig_re_Pattern := by kernel_rfl
theorem slot_group : Slot "re.Match" "group" "re.Match.group" :=
  .of (owner := "re.Match") (n := "group") (by rw [typeLookup_type, builtinLookup_eq_fast]; kernel_rfl) (by decide +kernel) (by decide +kernel) (by decide +kernel)
    (by first | exact .inl (by decide +kernel) | exact .inr (by decide +kernel)) (by rw [isSubtype_type]; kernel_rfl)
theorem type_group : typeOf (.builtin "re.Match.group") = pure (.type "method_descriptor") := by show builtinType _ = _; rw [builtinType_eq_fast]; kernel_rfl
theorem entry_group : entryFor table "re.Match.group" = some Builtin.«re.Match.group» := entryFor_of_tree (by kernel_rfl)
theorem args_group (a b : Value) : argsOk "re.Match.group" ⟨[a, b], []⟩ := by
  unfold argsOk; rw [signature?_of (id := "re.Match.group") (n := ['p', 'u', 'o', 'r', 'g']) (o := ['h', 'c', 't', 'a', 'M', '.', 'e', 'r']) (by kernel_rfl) owner_reMatch]; kernel_rfl
theorem slot_sub : Slot "re.Pattern" "sub" "re.Pattern.sub" :=
  .of (owner := "re.Pattern") (n := "sub") (by rw [typeLookup_type, builtinLookup_eq_fast]; kernel_rfl) (by decide +kernel) (by decide +kernel) (by decide +kernel)
    (by first | exact .inl (by decide +kernel) | exact .inr (by decide +kernel)) (by rw [isSubtype_type]; kernel_rfl)
theorem type_sub : typeOf (.builtin "re.Pattern.sub") = pure (.type "method_descriptor") := by show builtinType _ = _; rw [builtinType_eq_fast]; kernel_rfl
theorem entry_sub : entryFor table "re.Pattern.sub" = some Builtin.«re.Pattern.sub» := entryFor_of_tree (by kernel_rfl)
theorem entry_subloop : entryFor table "re.Pattern.sub.loop" = some Builtin.«re.Pattern.sub.loop» := entryFor_of_tree (by kernel_rfl)
theorem args_sub (a b c : Value) : argsOk "re.Pattern.sub" ⟨[a, b, c], []⟩ := by
  unfold argsOk; rw [signature?_of (id := "re.Pattern.sub") (n := ['b', 'u', 's']) (o := ['n', 'r', 'e', 't', 't', 'a', 'P', '.', 'e', 'r']) (by kernel_rfl) owner_rePattern]; kernel_rfl
theorem slot_translate : Slot "str" "translate" "str.translate" :=
  .of (owner := "str") (n := "translate") (by rw [typeLookup_type, builtinLookup_eq_fast]; kernel_rfl) (by decide +kernel) (by decide +kernel) (by decide +kernel)
    (by first | exact .inl (by decide +kernel) | exact .inr (by decide +kernel)) (by rw [isSubtype_type]; kernel_rfl)
theorem type_translate : typeOf (.builtin "str.translate") = pure (.type "method_descriptor") := by show builtinType _ = _; rw [builtinType_eq_fast]; kernel_rfl
theorem entry_translate : entryFor table "str.translate" = some Builtin.«str.translate» := entryFor_of_tree (by kernel_rfl)
theorem args_translate (a b : Value) : argsOk "str.translate" ⟨[a, b], []⟩ := by
  unfold argsOk; rw [signature?_of (id := "str.translate") (n := ['e', 't', 'a', 'l', 's', 'n', 'a', 'r', 't']) (o := ['r', 't', 's']) (by kernel_rfl) F.owner_str]; kernel_rfl
end Mine
end
set_option hygiene false in
local macro_rules | `(tactic| k_all) => `(tactic| first | assumption | exact Mine.off_ne (by assumption) | exact Mine.old_ne (by assumption) (by omega) | exact Mine.old_ne1 (by assumption) (by omega))
local macro_rules | `(tactic| walk_at "eval Name") => `(tactic| (k_here; k_dflt (refine' nameX_L ?F ?v ?_ ?a ?b; (case F => k_asm); (case a => rfl); (case b => rfl); (case v => first | exact Eq.refl (some _) | assumption); k_whole)))
section
theorem Mine.fresh2 {prog : Program} {w : World} {A : Around} {E : Value → Shared → Prop} {s : Shared} {Q : Bool → Shared → Prop} (h : wpAny (model prog w) A (truthy (.bool true)) Q E s) : wpAny (model prog w) A (truthy (.bool true)) Q E s := by
  w_top off
  first | (walk1; fail "no") | exact h
namespace Mine
abbrev matchO (x : Str) (t : Tok) (pat p l li : Value) (sp : Addr) : Obj := { cls := .type "re.Match", data := .fields #[.str x t, pat, p, l, li, .ref sp] }
abbrev spanO (b e : Nat) : Obj := { cls := .type "tuple", data := .seq #[rawInt b, rawInt e] }
section
variable {prog : Program} {w : World} {A : Around} {E : Value → Shared → Prop} {s : Shared} {a sp : Addr} {x : Str} {t u : Tok} {pat p l li : Value} {b e : Nat} {Q : Value → Shared → Prop}
theorem call_group (ha : s.heap.get? a = some (matchO x t pat p l li sp)) (hsp : s.heap.get? sp = some (spanO b e)) (hx : x.length ≤ 100) (h : Q (.str ⟨x.cps.extract b e⟩ s.toks) { s with toks := s.toks + 1 }) :
    wpAny (model prog w) A (call (.builtin "re.Match.group") [.ref a, .int 0 u]) Q E s := by
  have hT : s.TypeIs (.ref a) "re.Match" := ⟨_, ha, rfl⟩
  refine wpAny_call_entry slot_group hT entry_group ?_ (args_group _ _)
  unfold Builtin.«re.Match.group»
  obtain ⟨hp, g, d, tk, os⟩ := s
  dsimp only at ha hsp h ⊢
  wp_walk
  have km : Array.map Builtin.Re.reRawOf ((some #[rawInt (b : Int), rawInt (e : Int)]).getD #[]) = #[(b : Int), (e : Int)] := by simp [Builtin.Re.reRawOf, rawInt]
  have g0 : (#[(b : Int), (e : Int)]).getD (2 * Int.toNat 0) (-1) = b := rfl
  have g1 : (#[(b : Int), (e : Int)]).getD (2 * Int.toNat 0 + 1) (-1) = e := rfl
  have e1 : (decide (((b : Nat) : Int) < 0) || decide (((e : Nat) : Int) < 0)) = false := by
    rw [decide_eq_false (by omega), decide_eq_false (by omega)]; rfl
  simp only [km, g0, g1, e1]
  (with_reducible refine wpAny_ite_false ?zc ?_)
  case zc => rfl
  wp_walk
  simp only [Int.toNat_natCast]
  have hz : ¬ ((⟨x.cps.extract b e⟩ : Str).length > sizeLine) := by
    rw [sizeLine_eq]
    show ¬ ((x.cps.extract b e).size > _)
    have : x.cps.size ≤ 100 := hx
    simp
    omega
  rw [if_neg hz]
  wp_walk
  exact ⟨_, rfl, h⟩
end
end Mine
namespace Mine
set_option maxHeartbeats 4000000 in
theorem unq_ctr {prog : Program} {w : World} {x : Str} {t : Tok} {n : Int} {led : List (Addr × Obj)} (hx : x.length ≤ 100) (hn : Hex (Txt.slice x (some 1) (some 3)) n) (h0 : 0 ≤ n) (h1 : n < 128) :
    Ctr prog w 3 137 [.str x t] led fun k => ∀ t', k (.str ⟨#[n.toNat]⟩ t') led := by
  unfold Ctr
  intro p loose mean mg mb dp un gd cn cs a ccd cl outer A₀ base h₀ L m s Q E B F X N T hk hd hu hret
  refine wpAny_call ?_
  (first | k_dflt ((refine' code_def ?k1z1 ?k2z1 ?k3z1 ?k4z1 ?k5z1 ?kAz1 ?kFz1 ?kKz1 ?k6z1 ?k7z1 ?k8z1 ?k9z1 ?kBz1 ?_ ?c2z1 ?c3z1 ?c4z1 ?c5z1; (case kAz1 => exact rfl); (case kFz1 => exact rfl); (case kKz1 => assumption); (case k1z1 => k_asm); (case k2z1 => k_asm); (case k3z1 => k_asm); (case k4z1 => k_asm); (case k5z1 => k_asm); (case k6z1 => k_is); (case k7z1 => k_is); (case k8z1 => ktr_room); (case k9z1 => first | exact BindsTo.of_eq rfl | exact binds_K (by k_in) rfl (by k_is) rfl rfl rfl); (case c5z1 => decide); (case kBz1 => exact locs rfl); (case c2z1 => exact rfl); (case c3z1 => exact rfl); (case c4z1 => exact rfl); k_whole; intro g' L' h' FG' F' N' B' X' T'; (try dsimp only); (try k_lift B'); (try k_fold))) | k_dflt ((refine' code_defC ?k1z2 ?k2z2 ?k3z2 ?k4z2 ?k5z2 ?kAz2 ?kFz2 ?kKz2 ?k6z2 ?k7z2 ?k8z2 ?k9z2 ?kBz2 ?kDz2 ?_ ?c2z2 ?c3z2 ?c4z2; (case kAz2 => exact rfl); (case kFz2 => exact rfl); (case kKz2 => assumption); (case k1z2 => k_asm); (case k2z2 => k_asm); (case k3z2 => k_asm); (case k4z2 => k_asm); (case k5z2 => k_asm); (case k6z2 => k_is); (case k7z2 => k_is); (case k8z2 => ktr_room); (case k9z2 => first | exact BindsTo.of_eq rfl | exact binds_K (by k_in) rfl (by k_is) rfl rfl rfl); (case kBz2 => exact rfl); (case kDz2 => decide +kernel); (case c2z2 => exact rfl); (case c3z2 => exact rfl); (case c4z2 => exact rfl); k_whole; intro g' L' h' tk' cells' FG' F' N' Y' B' X' T' l1; (have hO := Mine.old_of l1); (try k_lt l1); k_cells Y'; (try simp only [List.cons_append, List.nil_append] at N'); (try dsimp only); (try k_lift B'); (try k_fold))))
  (repeat' (first | ((fail_if_success (fail_if_success k_unfold)); (first | refine (let s9 := _; (?_ : wpAny _ _ _ _ _ s9)) | k_unfold)) | (k_end; wrow_close) | ((fail_if_success (fail_if_success k_fold)); (refine (let q9 := _; (?_ : wpAny _ _ _ q9 _ _))); (first | ((with_reducible show wpAny _ _ (call (Value.type "int") [Value.str _ _, Value.int _ _]) _ _ _); k_dflt (refine Mine.call_hex (by assumption) ?_)) | walk1)) | (first | ((with_reducible show wpAny _ _ (call (Value.type "int") [Value.str _ _, Value.int _ _]) _ _ _); k_dflt (refine Mine.call_hex (by assumption) ?_)) | walk1) | (dsimp only [List.nil_append, List.cons_append]; (first | ((with_reducible show wpAny _ _ (call (Value.type "int") [Value.str _ _, Value.int _ _]) _ _ _); k_dflt (refine Mine.call_hex (by assumption) ?_)) | walk1)) | (leave1; walk_say "STEP leave1"; try dsimp only) | fail "no step"))
  exact hret _ _ _ _ (by assumption) (by assumption)
end Mine
namespace Mine
theorem getm_group {prog : Program} {w : World} {A : Around} {E : Value → Shared → Prop} {s : Shared} {h₀ : Heap} {L a sp : Addr} {news : List (Addr × Obj)} {x : Str} {t : Tok} {pat p l li : Value} {pl : Sem Bool} {Q : Value × List Value → Shared → Prop}
    (N : News h₀ L s.heap news) (hm : (a, matchO x t pat p l li sp) ∈ news) (h : Q (.builtin "re.Match.group", [.ref a]) s) : wpAny (model prog w) A (getMethod (.ref a) "group" pl) Q E s :=
  getMethod_builtin ⟨_, (N _ hm).1, rfl⟩ plainAttrs_reMatch slot_group type_group (fun a e => by cases e; exact ⟨_, (N _ hm).1, rfl⟩) h
theorem callm_group {prog : Program} {w : World} {A : Around} {E : Value → Shared → Prop} {s : Shared} {h₀ : Heap} {L a sp : Addr} {news : List (Addr × Obj)} {x : Str} {t u : Tok} {pat p l li : Value} {b e : Nat} {Q : Value → Shared → Prop}
    (N : News h₀ L s.heap news) (hm : (a, matchO x t pat p l li sp) ∈ news) (hs : (sp, spanO b e) ∈ news) (hx : x.length ≤ 100) (h : Q (.str ⟨x.cps.extract b e⟩ s.toks) { s with toks := s.toks + 1 }) :
    wpAny (model prog w) A (call (.builtin "re.Match.group") [.ref a, .int 0 u]) Q E s := call_group (N _ hm).1 (N _ hs).1 hx h
theorem ext_len {x : Str} {b e : Nat} (h : x.length ≤ 100) : (⟨x.cps.extract b e⟩ : Str).length ≤ 100 := by
  show (x.cps.extract b e).size ≤ 100
  have : x.cps.size ≤ 100 := h
  simp; omega
end Mine
namespace Mine
set_option maxHeartbeats 4000000 in
theorem unqm_ctr {prog : Program} {w : World} {x : Str} {t : Tok} {n : Int} {a sp : Addr} {pat p l li : Value} {b e : Nat} {led : List (Addr × Obj)}
    (hm : (a, matchO x t pat p l li sp) ∈ led) (hs : (sp, spanO b e) ∈ led)
    (hx : x.length ≤ 100) (hn : Hex (Txt.slice ⟨x.cps.extract b e⟩ (some 1) (some 3)) n) (h0 : 0 ≤ n) (h1 : n < 128) :
    Ctr prog w 4 157 [.ref a] led fun k => ∀ t', k (.str ⟨#[n.toNat]⟩ t') led := by
  unfold Ctr
  intro p loose mean mg mb dp un gd cn cs a ccd cl outer A₀ base h₀ L m s Q E B F X N T hk hd hu hret
  refine wpAny_call ?_
  (first | k_dflt ((refine' code_def ?k1z3 ?k2z3 ?k3z3 ?k4z3 ?k5z3 ?kAz3 ?kFz3 ?kKz3 ?k6z3 ?k7z3 ?k8z3 ?k9z3 ?kBz3 ?_ ?c2z3 ?c3z3 ?c4z3 ?c5z3; (case kAz3 => exact rfl); (case kFz3 => exact rfl); (case kKz3 => assumption); (case k1z3 => k_asm); (case k2z3 => k_asm); (case k3z3 => k_asm); (case k4z3 => k_asm); (case k5z3 => k_asm); (case k6z3 => k_is); (case k7z3 => k_is); (case k8z3 => ktr_room); (case k9z3 => first | exact BindsTo.of_eq rfl | exact binds_K (by k_in) rfl (by k_is) rfl rfl rfl); (case c5z3 => decide); (case kBz3 => exact locs rfl); (case c2z3 => exact rfl); (case c3z3 => exact rfl); (case c4z3 => exact rfl); k_whole; intro g' L' h' FG' F' N' B' X' T'; (try dsimp only); (try k_lift B'); (try k_fold))) | k_dflt ((refine' code_defC ?k1z4 ?k2z4 ?k3z4 ?k4z4 ?k5z4 ?kAz4 ?kFz4 ?kKz4 ?k6z4 ?k7z4 ?k8z4 ?k9z4 ?kBz4 ?kDz4 ?_ ?c2z4 ?c3z4 ?c4z4; (case kAz4 => exact rfl); (case kFz4 => exact rfl); (case kKz4 => assumption); (case k1z4 => k_asm); (case k2z4 => k_asm); (case k3z4 => k_asm); (case k4z4 => k_asm); (case k5z4 => k_asm); (case k6z4 => k_is); (case k7z4 => k_is); (case k8z4 => ktr_room); (case k9z4 => first | exact BindsTo.of_eq rfl | exact binds_K (by k_in) rfl (by k_is) rfl rfl rfl); (case kBz4 => exact rfl); (case kDz4 => decide +kernel); (case c2z4 => exact rfl); (case c3z4 => exact rfl); (case c4z4 => exact rfl); k_whole; intro g' L' h' tk' cells' FG' F' N' Y' B' X' T' l1; (have hO := Mine.old_of l1); (try k_lt l1); k_cells Y'; (try simp only [List.cons_append, List.nil_append] at N'); (try dsimp only); (try k_lift B'); (try k_fold))))
  (repeat' (first | ((fail_if_success (fail_if_success k_unfold)); (first | refine (let s9 := _; (?_ : wpAny _ _ _ _ _ s9)) | k_unfold)) | (k_end; wrow_close) | ((fail_if_success (fail_if_success k_fold)); (refine (let q9 := _; (?_ : wpAny _ _ _ q9 _ _))); (first | ((with_reducible show wpAny _ _ (call (Value.type "int") [Value.str _ _, Value.int _ _]) _ _ _); k_dflt (refine Mine.call_hex (by assumption) ?_)) | (with_reducible refine Mine.getm_group (by k_asm) (by assumption) ?_) | (with_reducible refine Mine.callm_group (by k_asm) (by assumption) (by assumption) (by assumption) ?_) | ((with_reducible show wpAny _ _ (call (Value.ref _) _) _ _ _); k_dflt refine Mine.Ctr.use (Mine.unq_ctr (Mine.ext_len (by assumption)) (by assumption) (by assumption) (by assumption)) (by k_asm) (by k_asm) (by k_asm) (by k_asm) (by k_asm) (by first | exact rfl | assumption) (by ktr_room) (by ktr_units) ?_; intro t' h' dr' tk' F' N'; (try dsimp only); (try k_fold); (try k_sweep)) | walk1)) | (first | ((with_reducible show wpAny _ _ (call (Value.type "int") [Value.str _ _, Value.int _ _]) _ _ _); k_dflt (refine Mine.call_hex (by assumption) ?_)) | (with_reducible refine Mine.getm_group (by k_asm) (by assumption) ?_) | (with_reducible refine Mine.callm_group (by k_asm) (by assumption) (by assumption) (by assumption) ?_) | ((with_reducible show wpAny _ _ (call (Value.ref _) _) _ _ _); k_dflt refine Mine.Ctr.use (Mine.unq_ctr (Mine.ext_len (by assumption)) (by assumption) (by assumption) (by assumption)) (by k_asm) (by k_asm) (by k_asm) (by k_asm) (by k_asm) (by first | exact rfl | assumption) (by ktr_room) (by ktr_units) ?_; intro t' h' dr' tk' F' N'; (try dsimp only); (try k_fold); (try k_sweep)) | walk1) | (dsimp only [List.nil_append, List.cons_append]; (first | ((with_reducible show wpAny _ _ (call (Value.type "int") [Value.str _ _, Value.int _ _]) _ _ _); k_dflt (refine Mine.call_hex (by assumption) ?_)) | (with_reducible refine Mine.getm_group (by k_asm) (by assumption) ?_) | (with_reducible refine Mine.callm_group (by k_asm) (by assumption) (by assumption) (by assumption) ?_) | ((with_reducible show wpAny _ _ (call (Value.ref _) _) _ _ _); k_dflt refine Mine.Ctr.use (Mine.unq_ctr (Mine.ext_len (by assumption)) (by assumption) (by assumption) (by assumption)) (by k_asm) (by k_asm) (by k_asm) (by k_asm) (by k_asm) (by first | exact rfl | assumption) (by ktr_room) (by ktr_units) ?_; intro t' h' dr' tk' F' N'; (try dsimp only); (try k_fold); (try k_sweep)) | walk1)) | (leave1; walk_say "STEP leave1"; try dsimp only) | fail "no step"))
  exact hret _ _ _ _ (by assumption) (by assumption)
end Mine
namespace Mine
open PySem.Builtin.Re
abbrev reC : Array Nat := #[14, 8, 1, 3, 3, 1, 1, 61, 0, 16, 61, 24, 16, 2, 2, 13, 11, 9, 0, 67043328, 126, 126, 0, 0, 0, 0, 0, 1, 1]
theorem run_done : ∀ (n : Nat) {m : Sre.M}, m.outcome.isSome = true → m.runFor n = m
  | 0, _, _ => rfl
  | n + 1, m, h => by show (if m.outcome.isSome then m else Sre.M.runFor n m.step) = m; rw [if_pos h]
theorem run_add : ∀ (a b : Nat) (m : Sre.M), m.runFor (a + b) = (m.runFor a).runFor b
  | 0, b, m => by rw [Nat.zero_add]; rfl
  | a + 1, b, m => by
    have e : a + 1 + b = (a + b) + 1 := by lia
    rw [e]
    show (if m.outcome.isSome then m else Sre.M.runFor (a + b) m.step) = (if m.outcome.isSome then m else Sre.M.runFor a m.step).runFor b
    by_cases h : m.outcome.isSome = true
    · rw [if_pos h, if_pos h, run_done b h]
    · rw [if_neg h, if_neg h]; exact run_add a b m.step
section
variable {M : Model} {A : Around} {E : Value → Shared → Prop} {s : Shared}
theorem drive_wp : ∀ (k turns : Nat) {m : Sre.M} {Q : Sre.M → Shared → Prop}, (m.runFor (4 * k)).outcome.isSome = true → k < turns → Q (m.runFor (4 * k)) s → wpAny M A (reDrive turns m) Q E s
  | k, 0, _, _, _, hk, _ => absurd hk (Nat.not_lt_zero _)
  | 0, t + 1, m, Q, h, _, hq => by
    have h0 : m.outcome.isSome = true := h
    show wpAny M A (let m := m.runFor 4; if m.outcome.isSome then pure m else do rule "sre.turn"; reDrive t m) Q E s
    rw [run_done 4 h0]
    dsimp only
    rw [if_pos h0]
    exact wpAny_pure hq
  | k + 1, t + 1, m, Q, h, hk, hq => by
    show wpAny M A (let m := m.runFor 4; if m.outcome.isSome then pure m else do rule "sre.turn"; reDrive t m) Q E s
    have e : 4 * (k + 1) = 4 + 4 * k := by lia
    rw [e, run_add] at h hq
    dsimp only
    by_cases h4 : (m.runFor 4).outcome.isSome = true
    · rw [if_pos h4]
      rw [run_done _ h4] at hq
      exact wpAny_pure hq
    · rw [if_neg h4]
      exact wpAny_bind (wpAny_rule (drive_wp k t h (by lia) hq))
theorem rules_wp {f : Nat → Bool} {g : Nat → String} : ∀ (l : List Nat) {Q : PUnit → Shared → Prop}, Q ⟨⟩ s → wpAny M A (forIn l PUnit.unit fun i _ => if f i = true then (do rule (g i); pure (ForInStep.yield PUnit.unit)) else pure (ForInStep.yield PUnit.unit)) Q E s
  | [], Q, h => by rw [List.forIn_nil]; exact wpAny_pure h
  | a :: l, Q, h => by
    rw [List.forIn_cons]
    refine wpAny_bind ?_
    by_cases hf : f a = true
    · rw [if_pos hf]; exact wpAny_bind (wpAny_rule (wpAny_pure (rules_wp l h)))
    · rw [if_neg hf]; exact wpAny_pure (rules_wp l h)
theorem toEnd_wp {m : Sre.M} {Q : Option Sre.M → Shared → Prop} {r : Option Sre.M} (h : ((m.runFor 200).outcome = some .matched ∧ r = some (m.runFor 200)) ∨ ((m.runFor 200).outcome = some .failed ∧ r = none)) (hq : Q r s) : wpAny M A (reRunToEnd m) Q E s := by
  unfold reRunToEnd
  refine wpAny_bind (drive_wp 50 _ (by rcases h with h | h <;> · show (Sre.M.runFor 200 m).outcome.isSome = true; rw [h.1]; rfl) (by decide) ?_)
  refine wpAny_bind (rules_wp _ ?_)
  show wpAny M A (match (Sre.M.runFor 200 m).outcome with | some .matched => _ | some .failed => _ | some (.stuck why) => _ | none => _) Q E s
  rcases h with ⟨h, rfl⟩ | ⟨h, rfl⟩ <;> · rw [h]; exact wpAny_pure hq
end
end Mine
namespace Mine
open PySem.Builtin.Re
abbrev patO : Obj := { cls := .type "re.Pattern", data := .fields #[.str (Str.ofString "=[a-fA-F0-9]{2}") 416, .int 256 448, .int 0 0, .none, .none, .ref 113, .int 0 0] }
abbrev codO : Obj := { cls := .type "tuple", data := .seq #[.int 14 0, .int 8 0, .int 1 0, .int 3 0, .int 3 0, .int 1 0, .int 1 0, .int 61 0, .int 0 0, .int 16 0, .int 61 0, .int 24 0, .int 16 0, .int 2 0, .int 2 0, .int 13 0, .int 11 0, .int 9 0, .int 0 0, .int 67043328 0, .int 126 0, .int 126 0, .int 0 0, .int 0 0, .int 0 0, .int 0 0, .int 0 0, .int 1 0, .int 1 0] }
theorem pat_K {w : World} {h : Heap} (X : (hdA.heap_39 w.params).In h) : h.get? 114 = some patO := X _ _ rfl
theorem cod_K {w : World} {h : Heap} (X : (hdA.heap_39 w.params).In h) : h.get? 113 = some codO := X _ _ rfl
section
variable {prog : Program} {w : World} {A : Around} {E : Value → Shared → Prop} {s : Shared}
theorem target_wp {x : Str} {t : Tok} {Q : ReTarget → Shared → Prop} (hp : s.heap.get? 114 = some patO) (hc : s.heap.get? 113 = some codO)
    (hq : Q { pattern := .ref 114, string := .str x t, code := reC, text := x.cps, kind := 0, groups := 0, pos := 0, lim := x.cps.size } s) : wpAny (model prog w) A (reWholeTarget (.ref 114) (.str x t)) Q E s := by
  unfold reWholeTarget
  obtain ⟨hp', g, d, tk, os⟩ := s
  dsimp only at hp hc hq
  wp_walk
  have km : Array.map (fun (x : Int) => x.toNat) (Array.map reRawOf ((some #[Value.int 14 0, .int 8 0, .int 1 0, .int 3 0, .int 3 0, .int 1 0, .int 1 0, .int 61 0, .int 0 0, .int 16 0, .int 61 0, .int 24 0, .int 16 0, .int 2 0, .int 2 0, .int 13 0, .int 11 0, .int 9 0, .int 0 0, .int 67043328 0, .int 126 0, .int 126 0, .int 0 0, .int 0 0, .int 0 0, .int 0 0, .int 0 0, .int 1 0, .int 1 0]).getD #[])) = reC := by decide +kernel
  rw [km]
  exact hq
end
end Mine
namespace Mine
open PySem.Builtin.Re
def hexT : List (List Nat × Nat) := [([61, 51, 48], 48), ([61, 51, 49], 49), ([61, 51, 50], 50), ([61, 51, 51], 51), ([61, 51, 52], 52), ([61, 51, 53], 53), ([61, 51, 54], 54), ([61, 51, 55], 55), ([61, 51, 56], 56), ([61, 51, 57], 57), ([61, 53, 102], 95), ([61, 50, 48], 32), ([61, 53, 70], 95)]
def hexN (l : List Nat) : Option Nat := (hexT.find? (fun p => p.1 == l)).map (·.2)
def subOk (text : Array Nat) : Nat → Nat → Option (List PySem.Str)
  | 0, _ => none
  | f + 1, st =>
    let m := (Sre.forSearch reC text 0 st text.size false).runFor 200
    match m.outcome with
    | some .matched =>
      if st ≤ m.start ∧ m.start < m.handed ∧ m.start - st ≤ 16 then
        match hexN (text.extract m.start m.handed).toList, subOk text f m.handed with
        | some n, some r => some ((if st < m.start then [⟨text.extract st m.start⟩] else []) ++ ⟨#[n]⟩ :: r)
        | _, _ => none
      else none
    | some .failed => if text.size - st ≤ 16 then some (if st < text.size then [⟨text.extract st text.size⟩] else []) else none
    | _ => none
theorem hexT_hex : ∀ p ∈ hexT, Hex (Txt.slice ⟨p.1.toArray⟩ (some 1) (some 3)) p.2 ∧ p.2 < 128 := by
  intro p hp
  simp only [hexT, List.mem_cons, List.not_mem_nil, or_false] at hp
  rcases hp with rfl | rfl | rfl | rfl | rfl | rfl | rfl | rfl | rfl | rfl | rfl | rfl | rfl <;> exact ⟨⟨by decide +kernel, by kernel_rfl, by decide +kernel⟩, by decide⟩
theorem hexN_hex {l : List Nat} {n : Nat} (h : hexN l = some n) : Hex (Txt.slice ⟨l.toArray⟩ (some 1) (some 3)) n ∧ n < 128 := by
  unfold hexN at h
  cases e : hexT.find? (fun p => p.1 == l) with
  | none => rw [e] at h; exact nomatch h
  | some p =>
    rw [e] at h
    injection h with h
    subst h
    have h1 := List.find?_some e
    have h2 : p.1 = l := by simpa using h1
    rw [← h2]
    exact hexT_hex p (List.mem_of_find?_eq_some e)
open PySem.Builtin.Str in
theorem push_news {h₀ h : Heap} {L D : Addr} {m : PySem.Str → Option Value} {k : Nat} {led : List (Addr × Obj)} {pcs : List (PySem.Str × Tok)} {y : PySem.Str} {u : Tok} (F : Fr h₀ L h m) (N : News h₀ L h ((D, listOf (strValues pcs).toArray k) :: led)) (hap : ∀ p ∈ led, p.1 ≠ D) :
    Fr h₀ L (h.update D (Obj.mapSeq (·.push (.str y u)))) m ∧ News h₀ L (h.update D (Obj.mapSeq (·.push (.str y u)))) ((D, listOf (strValues (pcs ++ [(y, u)])).toArray (k + 1)) :: led) := by
  have hn := N _ (.head _)
  refine ⟨F.change (Heap.SameBut.update ..) hn.2.1 hn.2.2, N.setHead hap (Heap.SameBut.update ..) ?_⟩
  rw [Heap.get?_update_self _ hn.1 rfl]
  simp [Obj.mapSeq, strValues]
open PySem.Builtin.Str in
theorem push_piece {prog : Program} {w : World} {A : Around} {E : Value → Shared → Prop} {s : Shared} {Q : Fin → Shared → Prop} {JP : PUnit → Sem Fin} {x : PySem.Str} {st e k : Nat} {h₀ : Heap} {L D : Addr} {m : PySem.Str → Option Value} {led : List (Addr × Obj)} {pcs : List (PySem.Str × Tok)}
    (F : Fr h₀ L s.heap m) (N : News h₀ L s.heap ((D, listOf (strValues pcs).toArray k) :: led)) (hap : ∀ p ∈ led, p.1 ≠ D) (hsz : pcs.length ≤ 1000) (he : e - st ≤ 16)
    (H : ∀ h' tk' pcs' k', Fr h₀ L h' m → News h₀ L h' ((D, listOf (strValues pcs').toArray k') :: led) → pcs'.map (·.1) = pcs.map (·.1) ++ (if st < e then [⟨x.cps.extract st e⟩] else []) → wpAny (model prog w) A (JP ⟨⟩) Q E { s with heap := h', toks := tk' }) :
    wpAny (model prog w) A (if st < e then do let v ← reSlice x.cps 0 st e; let r ← updateSeq D fun y => y.push v; JP r else JP ⟨⟩) Q E s := by
  by_cases hc : st < e
  · rw [if_pos hc]
    show wpAny (model prog w) A (do let v ← mkStr ⟨x.cps.extract st e⟩; let r ← updateSeq D fun y => y.push v; JP r) Q E s
    refine wpAny_bind (wpAny_mkStr ?_ ?_)
    · refine wpAny_bind (wpAny_updateSeq (N _ (.head _)).1 rfl ?_ ?_ ?_)
      · obtain ⟨F', N'⟩ := push_news (y := ⟨x.cps.extract st e⟩) (u := s.toks) F N hap
        exact H _ (s.toks + 1) _ _ F' N' (by rw [if_pos hc]; simp)
      · show ((strValues pcs).toArray).size ≤ _
        rw [sizeLine_eq]; simp [strValues]; lia
      · rw [sizeLine_eq]; simp [strValues]; lia
    · show (x.cps.extract st e).size ≤ _
      rw [sizeLine_eq]; simp; lia
  · rw [if_neg hc]
    exact H s.heap s.toks pcs k F N (by rw [if_neg hc]; simp)
theorem newMatch_wp {M : Model} {A : Around} {E : Value → Shared → Prop} {s : Shared} {Q : Value → Shared → Prop} {x : PySem.Str} {t : Tok} {pos lim : Nat} {mm : Sre.M}
    (h : Q (.ref (s.heap.objs.size + 1)) { s with heap := (s.heap.push (spanO mm.start mm.handed)).push (matchO x t (.ref 114) (rawInt pos) (rawInt lim) (rawInt mm.lastindex) s.heap.objs.size) }) :
    wpAny M A (reNewMatch (.ref 114) (.str x t) 0 pos lim mm) Q E s := by
  unfold reNewMatch newFields
  obtain ⟨hp', g, d, tk, os⟩ := s
  wp_walk
  have hsz : (hp'.push (spanO mm.start mm.handed)).objs.size = hp'.objs.size + 1 := by simp [Heap.push]
  dsimp only at h
  rw [← hsz] at h
  exact h
end Mine
namespace Mine
open PySem.Builtin.Re PySem.Builtin.Str
section
variable {prog : Program} {w : World} {A : Around} {E : Value → Shared → Prop}
variable {p : Program} {loose : List PySem.Str} {mean : ExcName → Option Value} {mg mb : PySem.Str → Option Value} {dp un : Nat} {gd : Option (List Code)} {cn : PySem.Str} {cs : Scope} {a : Addr} {ccd : Value} {cl : List (PySem.Str × Addr)} {outer : List Env} {A₀ : Around} {base h₀ : Heap} {L D : Addr} {m : PySem.Str → Option Value}
variable {x : PySem.Str} {t : Tok} {led : List (Addr × Obj)}
theorem sub_hit {n st k nn : Nat} {Q : Fin → Shared → Prop} {s : Shared} {mm : Sre.M} {pcs : List (PySem.Str × Tok)} (hmm : mm = (Sre.forSearch reC x.cps 0 st x.cps.size false).runFor 200) (ho : mm.outcome = some .matched)
    (h2 : mm.start < mm.handed) (h3 : mm.start - st ≤ 16) (hn : hexN (x.cps.extract mm.start mm.handed).toList = some nn)
    (B : Below A₀ base outer h₀) (F : Fr h₀ L s.heap m) (X : (hdA.heap_39 w.params).In h₀) (N : News h₀ L s.heap ((D, listOf (strValues pcs).toArray k) :: led)) (T : Top p loose mean mg mb h₀) (hk : cs.kind = .function) (hd : dp + 4 < recursionLimit) (hu : un + 32 < cLine)
    (hap : ∀ p ∈ led, p.1 ≠ D) (hsz : pcs.length ≤ 900) (hx : x.length ≤ 100) 
    (H : ∀ h' dr' tk' pcs' k', Fr h₀ L h' m → News h₀ L h' ((D, listOf (strValues pcs').toArray k') :: led) → pcs'.map (·.1) = pcs.map (·.1) ++ ((if st < mm.start then [⟨x.cps.extract st mm.start⟩] else []) ++ [⟨#[nn]⟩]) →
      Q (.again (.builtin "re.Pattern.sub.loop" ⟨[.ref 114, .str x t, .ref 157, rawInt 1, rawInt 0, rawInt (n + 1 : Nat), rawInt mm.handed, rawInt mm.handed, .bool false, .ref D, .bool false], []⟩)) { s with heap := h', drawn := dr', toks := tk' }) :
    wpAny (model prog w) (ktrTop dp un gd cn cs L a ccd cl outer) (Builtin.«re.Pattern.sub.loop» ⟨[.ref 114, .str x t, .ref 157, rawInt 1, rawInt 0, rawInt n, rawInt st, rawInt st, .bool false, .ref D, .bool false], []⟩) Q E s := by
  unfold Builtin.«re.Pattern.sub.loop»
  have hp := F.keep _ _ (pat_K X)
  have hc := F.keep _ _ (cod_K X)
  obtain ⟨hp', g, d, tk, os⟩ := s
  dsimp only at hp hc F N
  refine wpAny_bind (target_wp hp hc ?_)
  generalize hnf : reNextFound = nf
  wp_walk
  subst hnf
  refine toEnd_wp (r := some mm) (.inl ⟨?_, ?_⟩) ?_
  · rw [hmm] at ho; exact ho
  · rw [hmm]; rfl
  generalize hnm : reNewMatch = nm
  wp_walk
  dsimp only
  simp only [Int.toNat_natCast]
  refine push_piece F N hap (by lia) h3 ?_
  intro h1 tk1 pcs1 k1 F1 N1 e1
  dsimp only
  wp_walk
  subst hnm
  refine newMatch_wp ?_
  generalize hcl : @call = cc
  wp_walk
  subst hcl
  dsimp only
  have N2 := News.push F1 N1 (spanO mm.start mm.handed)
  have F2 := F1.push (spanO mm.start mm.handed)
  have N3 := News.push F2 N2 (matchO x t (Value.ref 114) (rawInt ↑0) (rawInt ↑x.cps.size) (rawInt mm.lastindex) h1.objs.size)
  have F3 := F2.push (matchO x t (Value.ref 114) (rawInt ↑0) (rawInt ↑x.cps.size) (rawInt mm.lastindex) h1.objs.size)
  have hs1 : (h1.push (spanO mm.start mm.handed)).objs.size = h1.objs.size + 1 := by simp [Heap.push]
  rw [hs1] at N3
  have hh := hexN_hex hn
  rw [Array.toArray_toList] at hh
  refine Ctr.use (unqm_ctr (n := (nn : Int)) (.head _) (.tail _ (.head _)) hx hh.1 (by lia) (by lia)) B F3 X N3 T hk (by lia) (by lia) ?_
  intro t' h' dr' tk' F' N'
  dsimp only
  have N4 := news_sub N' (led' := (D, listOf (strValues pcs1).toArray k1) :: led) (fun p hp => .tail _ (.tail _ hp))
  have hnn : ((nn : Int).toNat) = nn := rfl
  rw [hnn]
  refine wpAny_ite_true (by rfl) ?_
  have hl : pcs1.length ≤ 901 := by
    have := congrArg List.length e1
    simp only [List.length_map, List.length_append] at this
    split at this <;> simp at this <;> lia
  obtain ⟨F5, N5⟩ := push_news (y := ⟨#[nn]⟩) (u := t') F' N4 hap
  refine wpAny_bind (wpAny_updateSeq (N4 _ (.head _)).1 rfl ?_ ?_ ?_)
  · have hb : (mm.handed == mm.start) = false := by rw [beq_eq_false_iff_ne]; lia
    rw [hb]
    exact wpAny_pure (H _ _ _ _ _ F5 N5 (by simp [e1]))
  · rw [sizeLine_eq]; simp [strValues]; lia
  · rw [sizeLine_eq]; simp [strValues]; lia
end
end Mine
namespace Mine
open PySem.Builtin.Re PySem.Builtin.Str
section
variable {prog : Program} {w : World} {A : Around} {E : Value → Shared → Prop}
variable {p : Program} {loose : List PySem.Str} {mean : ExcName → Option Value} {mg mb : PySem.Str → Option Value} {dp un : Nat} {gd : Option (List Code)} {cn : PySem.Str} {cs : Scope} {a : Addr} {ccd : Value} {cl : List (PySem.Str × Addr)} {outer : List Env} {A₀ : Around} {base h₀ : Heap} {L D : Addr} {m : PySem.Str → Option Value}
variable {x : PySem.Str} {t : Tok} {led : List (Addr × Obj)}
theorem joined_nil : Txt.join (Str.ofString "") [] = Str.ofString "" := by decide +kernel
theorem carried_strs : ∀ (l : List (PySem.Str × Tok)), CarriedAll (strValues l) ((l.map (·.1)).map PyData.str)
  | [] => .nil
  | p :: l => .cons (.str _ _) (carried_strs l)
theorem sub_end {n st k : Nat} {Q : Fin → Shared → Prop} {s : Shared} {pcs : List (PySem.Str × Tok)} (ho : ((Sre.forSearch reC x.cps 0 st x.cps.size false).runFor 200).outcome = some .failed)
    (h3 : x.cps.size - st ≤ 16)
    (F : Fr h₀ L s.heap m) (X : (hdA.heap_39 w.params).In h₀) (N : News h₀ L s.heap ((D, listOf (strValues pcs).toArray k) :: led))
    (hap : ∀ p ∈ led, p.1 ≠ D) (hsz : pcs.length ≤ 900) (hx : x.length ≤ 100) (h16 : ∀ p ∈ pcs, p.1.length ≤ 16)
    (H : ∀ t' h' tk', Fr h₀ L h' m → News h₀ L h' led →
      Q (.done (.ret (.str (Txt.join (Str.ofString "") (pcs.map (·.1) ++ (if st < x.cps.size then [⟨x.cps.extract st x.cps.size⟩] else []))) t'))) { s with heap := h', toks := tk' }) :
    wpAny (model prog w) (ktrTop dp un gd cn cs L a ccd cl outer) (Builtin.«re.Pattern.sub.loop» ⟨[.ref 114, .str x t, .ref 157, rawInt 1, rawInt 0, rawInt n, rawInt st, rawInt st, .bool false, .ref D, .bool false], []⟩) Q E s := by
  unfold Builtin.«re.Pattern.sub.loop»
  have hp := F.keep _ _ (pat_K X)
  have hc := F.keep _ _ (cod_K X)
  obtain ⟨hp', g, d, tk, os⟩ := s
  dsimp only at hp hc F N
  refine wpAny_bind (target_wp hp hc ?_)
  generalize hnf : reNextFound = nf
  wp_walk
  subst hnf
  refine toEnd_wp (r := none) (.inr ⟨?_, rfl⟩) ?_
  · exact ho
  wp_walk
  dsimp only
  simp only [Int.toNat_natCast]
  refine push_piece F N hap (by lia) h3 ?_
  intro h1 tk1 pcs1 k1 F1 N1 e1
  dsimp only
  have hD := (N1 _ (.head _)).1
  dsimp only at hD
  generalize hcl : @call = cc
  wp_walk
  have e0 : (⟨x.cps.extract 0 0⟩ : PySem.Str) = Str.ofString "" := by rw [show Str.ofString "" = (⟨#[]⟩ : PySem.Str) by decide +kernel]; simp
  simp only [e0]
  rw [if_neg (by rw [sizeLine_eq]; decide +kernel)]
  wp_walk
  subst hcl
  have N2 := news_sub N1 (led' := led) (fun p hp => .tail _ hp)
  by_cases hm : pcs1 = []
  · subst hm
    rw [List.map_nil] at e1
    refine wpAny_ite_true (by rfl) ?_
    wp_walk
    have := H tk1 h1 (tk1 + 1) F1 N2
    rw [← e1, joined_nil] at this
    exact this
  · refine wpAny_ite_false ?_ ?_
    · cases pcs1 with
      | nil => exact absurd rfl hm
      | cons a b => rfl
    refine wpAny_bind ?_
    show wpAny _ _ (call (Value.builtin "str.join") [Value.str (Str.ofString "") tk1, Value.ref D]) _ _ _
    have hl : pcs1.length ≤ 901 := by
      have := congrArg List.length e1
      simp only [List.length_map, List.length_append] at this
      split at this <;> simp at this <;> lia
    refine join_madeW (l := pcs1) (g := (·.1)) 16 ⟨_, hD, rfl, _, rfl⟩ (by show CarriedAll (strValues pcs1) _; exact carried_strs pcs1) ?_ (by lia) (by decide +kernel) ?_
    · intro q hq
      have h1 : q.1 ∈ pcs1.map (·.1) := List.mem_map_of_mem hq
      rw [e1] at h1
      rcases List.mem_append.mp h1 with h1 | h1
      · obtain ⟨r, hr, er⟩ := List.mem_map.mp h1
        have := h16 r hr
        rwa [← er]
      · split at h1
        · rw [List.mem_singleton.mp h1]
          show (x.cps.extract st x.cps.size).size ≤ 16
          simp; lia
        · exact nomatch h1
    · intro t' kk
      dsimp only
      refine wpAny_ite_false rfl ?_
      have := H t' h1 kk F1 N2
      rw [← e1] at this
      exact wpAny_pure this
theorem sub_loop (B : Below A₀ base outer h₀) (X : (hdA.heap_39 w.params).In h₀) (T : Top p loose mean mg mb h₀) (hk : cs.kind = .function) (hd : dp + 4 < recursionLimit) (hu : un + 32 < cLine) (hx : x.length ≤ 100)
    {A : Around} (hA : A.in1 = ktrTop dp un gd cn cs L a ccd cl outer) (hap : ∀ p ∈ led, p.1 ≠ D) {R : Except Value Flow → Shared → Prop} :
    ∀ (f st n k : Nat) (pcs : List (PySem.Str × Tok)) (s : Shared) (out : List PySem.Str), subOk x.cps f st = some out → Fr h₀ L s.heap m → News h₀ L s.heap ((D, listOf (strValues pcs).toArray k) :: led) →
      pcs.length + 2 * f ≤ 900 → (∀ p ∈ pcs, p.1.length ≤ 16) →
      (∀ t' h' dr' tk', Fr h₀ L h' m → News h₀ L h' led → R (.ok (.ret (.str (Txt.join (Str.ofString "") (pcs.map (·.1) ++ out)) t'))) { s with heap := h', drawn := dr', toks := tk' }) →
      codeAny (model prog w) A (.builtin "re.Pattern.sub.loop" ⟨[.ref 114, .str x t, .ref 157, rawInt 1, rawInt 0, rawInt n, rawInt st, rawInt st, .bool false, .ref D, .bool false], []⟩) R s
  | 0, _, _, _, _, _, _, h, _, _, _, _, _ => nomatch h
  | f + 1, st, n, k, pcs, s, out, h, F, N, hl, h16, H => by
    refine codeAny_builtin entry_subloop ?_
    rw [Around.under_plainId (by decide +kernel) _, hA]
    simp only [subOk] at h
    generalize hmm : Sre.M.runFor 200 (Sre.forSearch reC x.cps 0 st x.cps.size false) = mm at h
    cases ho : mm.outcome with
    | none => rw [ho] at h; exact nomatch h
    | some o =>
      rw [ho] at h
      cases o with
      | stuck => exact nomatch h
      | failed =>
        dsimp only at h
        by_cases h3 : x.cps.size - st ≤ 16
        · rw [if_pos h3] at h
          injection h with h
          subst h
          refine sub_end (by rw [hmm]; exact ho) h3 F X N hap (by lia) hx h16 ?_
          intro t' h' tk' F' N'
          exact H t' h' s.drawn tk' F' N'
        · rw [if_neg h3] at h; exact nomatch h
      | matched =>
        dsimp only at h
        by_cases hc : st ≤ mm.start ∧ mm.start < mm.handed ∧ mm.start - st ≤ 16
        · rw [if_pos hc] at h
          cases hn : hexN (x.cps.extract mm.start mm.handed).toList with
          | none => rw [hn] at h; exact nomatch h
          | some nn =>
            cases hr : subOk x.cps f mm.handed with
            | none => rw [hn, hr] at h; exact nomatch h
            | some r =>
              rw [hn, hr] at h
              injection h with h
              subst h
              refine sub_hit hmm.symm ho hc.2.1 hc.2.2 hn B F X N T hk hd hu hap (by lia) hx ?_
              intro h' dr' tk' pcs' k' F' N' e'
              refine ⟨plainId_quiet (by decide +kernel) _, ?_⟩
              have hl' : pcs'.length ≤ pcs.length + 2 := by
                have := congrArg List.length e'
                simp only [List.length_map, List.length_append] at this
                split at this <;> simp at this <;> lia
              refine sub_loop B X T hk hd hu hx hA hap f mm.handed (n + 1) k' pcs' _ r hr F' N' (by lia) ?_ ?_
              · intro q hq
                have h1 : q.1 ∈ pcs'.map (·.1) := List.mem_map_of_mem hq
                rw [e'] at h1
                rcases List.mem_append.mp h1 with h1 | h1
                · obtain ⟨r, hr, er⟩ := List.mem_map.mp h1
                  have := h16 r hr
                  rwa [← er]
                · rcases List.mem_append.mp h1 with h1 | h1
                  · split at h1
                    · rw [List.mem_singleton.mp h1]
                      show (x.cps.extract st mm.start).size ≤ 16
                      simp; lia
                    · exact nomatch h1
                  · rw [List.mem_singleton.mp h1]; exact (by decide : (1 : Nat) ≤ 16)
              · intro t2 h2 dr2 tk2 F2 N2
                have := H t2 h2 dr2 tk2 F2 N2
                rw [e']
                simpa [List.append_assoc] using this
        · rw [if_neg hc] at h; exact nomatch h
end
end Mine
namespace Mine
open PySem.Builtin.Re PySem.Builtin.Str
section
variable {prog : Program} {w : World} {A : Around} {E : Value → Shared → Prop}
variable {p : Program} {loose : List PySem.Str} {mean : ExcName → Option Value} {mg mb : PySem.Str → Option Value} {dp un : Nat} {gd : Option (List Code)} {cn : PySem.Str} {cs : Scope} {a : Addr} {ccd : Value} {cl : List (PySem.Str × Addr)} {outer : List Env} {A₀ : Around} {base h₀ : Heap} {L D : Addr} {m : PySem.Str → Option Value}
variable {x : PySem.Str} {t : Tok} {led : List (Addr × Obj)}
theorem look_call : typeLookup (.type "function") (Str.ofString "__call__") = pure (some (Value.builtin "function.__call__")) := by rw [typeLookup_type, builtinLookup_eq_fast]; kernel_rfl
theorem look_sub : isSubtype (.type "str") (.type "bytearray") = pure false := by rw [isSubtype_type]; kernel_rfl
theorem wp_sub {s : Shared} {Q : Fin → Shared → Prop} {of : Obj} (F : Fr h₀ L s.heap m) (X : (hdA.heap_39 w.params).In h₀) (hx : x.length ≤ 100) (hf : s.heap.get? 157 = some of) (hfc : of.cls = .type "function")
    (H : Q (.again (.builtin "re.Pattern.sub.loop" ⟨[.ref 114, .str x t, .ref 157, rawInt 1, rawInt 0, rawInt 0, rawInt 0, rawInt 0, .bool false, .ref s.heap.objs.size, .bool false], []⟩)) { s with heap := s.heap.push (listOf #[] 0) }) :
    wpAny (model prog w) A (Builtin.«re.Pattern.sub» ⟨[.ref 114, .ref 157, .str x t], []⟩) Q E s := by
  unfold Builtin.«re.Pattern.sub» reSubstitute
  have hp := F.keep _ _ (pat_K X)
  have hc := F.keep _ _ (cod_K X)
  obtain ⟨hp', g, d, tk, os⟩ := s
  obtain ⟨ofc, ofd, oft, ofs⟩ := of
  dsimp only at hfc
  subst hfc
  dsimp only at hp hc F hf H
  generalize htg : reWholeTarget = tg
  wp_walk
  refine wpAny_of_eq look_call ?_
  wp_walk
  subst htg
  refine target_wp hp hc ?_
  wp_walk
  refine wpAny_of_eq look_sub ?_
  wp_walk
  exact H
theorem call_sub {s : Shared} {Q : Value → Shared → Prop} {of : Obj} {out : List PySem.Str} (B : Below A₀ base outer h₀) (X : (hdA.heap_39 w.params).In h₀) (T : Top p loose mean mg mb h₀) (hk : cs.kind = .function) (hd : dp + 4 < recursionLimit) (hu : un + 33 < cLine)
    (hx : x.length ≤ 100) (hf : s.heap.get? 157 = some of) (hfc : of.cls = .type "function") (F : Fr h₀ L s.heap m) (N : News h₀ L s.heap led) (hs : subOk x.cps 60 0 = some out)
    (H : ∀ t' h' dr' tk', Fr h₀ L h' m → News h₀ L h' led → Q (.str (Txt.join (Str.ofString "") out) t') { s with heap := h', drawn := dr', toks := tk' }) :
    wpAny (model prog w) (ktrTop dp un gd cn cs L a ccd cl outer) (call (.builtin "re.Pattern.sub") [.ref 114, .ref 157, .str x t]) Q E s := by
  have hT : s.TypeIs (.ref 114) "re.Pattern" := ⟨_, F.keep _ _ (pat_K X), rfl⟩
  refine wpAny_call (codeAny_call_builtin slot_sub.plain entry_sub (slot_sub.check _ _ _ _ _ _ _ _ hT (args_sub _ _ _) ?_))
  refine wp_sub F X hx hf hfc ⟨plainId_quiet (by decide +kernel) _, ?_⟩
  have N1 := News.push F N (listOf #[] 0)
  have F1 := F.push (listOf #[] 0)
  refine sub_loop (un := un + 1) B X T hk hd (by lia) hx rfl (N.ne_size) 60 0 0 0 [] _ out hs F1 N1 (by decide) (fun _ hp => nomatch hp) ?_
  intro t' h' dr' tk' F' N'
  exact H t' h' dr' tk' F' N'
end
end Mine
namespace Mine
open PySem.Builtin PySem.Builtin._codecs
theorem iter_steps {β : Type} {n : Nat} {body : Nat → β → Sem (ForInStep β)} (f : Nat → β) (h : ∀ i k, k < n → body i (f k) = pure (.yield (f (k + 1)))) : ∀ (l : List Nat) (k : Nat), k + l.length = n → forIn l (f k) body = pure (f n)
  | [], k, e => by
    rw [List.forIn_nil]
    have : k = n := e
    rw [this]
  | a :: l, k, e => by
    rw [List.length_cons] at e
    rw [List.forIn_cons, h a k (by lia)]
    show forIn l (f (k + 1)) body = pure (f n)
    exact iter_steps f h l (k + 1) (by lia)
theorem run_latin {id : String} {b : Array UInt8} (hb : b.size ≤ 100) : runDecoder id latin1Decoder none true b 0 [] = pure (b.map (·.toNat), b.size) := by
  unfold runDecoder
  simp only [Std.Legacy.Range.forIn_eq_forIn_range']
  have e0 : ((0 : Nat), (#[] : Array Nat), ({ held := [] } : Faults)) = (fun k => (k, (b.map (·.toNat)).extract 0 k, ({ held := [] } : Faults))) 0 := by simp
  rw [e0, iter_steps (n := b.size) (fun k => (k, (b.map (·.toNat)).extract 0 k, ({ held := [] } : Faults)))]
  · have e1 : (b.map (·.toNat)).extract 0 b.size = b.map (·.toNat) := by rw [← Array.size_map (f := (·.toNat)) (xs := b)]; exact Array.extract_size
    simp only [e1]
    rfl
  · intro i k hk
    dsimp only
    rw [if_neg (by rw [sizeLine_eq]; simp; lia), if_neg (by lia)]
    show (pure (ForInStep.yield (k + 1, (b.map (·.toNat)).extract 0 k ++ [(b.getD k 0).toNat].toArray, ({ held := [] } : Faults))) : Sem (ForInStep (Nat × Array Nat × Faults))) = _
    have e2 : (b.map (·.toNat)).extract 0 k ++ [(b.getD k 0).toNat].toArray = (b.map (·.toNat)).extract 0 (k + 1) := by
      rw [Array.getD_eq_getD_getElem?, Array.getElem?_eq_getElem hk, Option.getD_some]
      apply Array.toList_inj.mp
      simp only [Array.toList_append, Array.toList_extract, List.extract_eq_take_drop, List.drop_zero, Nat.sub_zero]
      rw [List.take_succ_eq_append_getElem (by simp; exact hk)]
      simp
    rw [e2]
  · simp [Std.Legacy.Range.size]
end Mine
namespace Mine
open PySem.Builtin PySem.Builtin._codecs PySem.W.KBd
theorem args_dec2 (a b : Value) : argsOk "bytes.decode" ⟨[a, b], []⟩ := by
  unfold argsOk; rw [signature?_of (id := "bytes.decode") (n := ['e', 'd', 'o', 'c', 'e', 'd']) (o := ['s', 'e', 't', 'y', 'b']) (by kernel_rfl) FB.owner_bytes]; kernel_rfl
section
variable {b : Array UInt8} {c : UInt8} {cs : List UInt8} {t : Tok} {x : PySem.Str} {n : Nat}
theorem road_l1 {id : String} : _codecs.decodeRoad id b (PySem.Str.ofString "latin1") none [] = (_codecs.runDecoder id _codecs.latin1Decoder none true b 0 [] >>= fun r => mkStr ⟨r.1⟩) := by kernel_rfl
theorem meets_l1 {t1 t2 : Tok} {d : PySem.Str} (hd : ∀ id, _codecs.runDecoder id _codecs.latin1Decoder none true b 0 [] = pure (x.cps, n)) :
    Meets («_codecs.decode.text» ⟨[.bytes b t, .str (PySem.Str.ofString "latin1") t1, .none, .str d t2], []⟩) (fun _ R s => x.length ≤ sizeLine ∧ R (.ok (.ret (.str x s.toks))) { s with toks := s.toks + 1 }) := by
  refine .of_wp fun prog w A R s hS => ?_
  obtain ⟨hsz, h⟩ := hS
  show wpAny _ _ (Bytes.bytesLike _ (.bytes b t) >>= fun r => _) _ _ s
  refine wpAny_bind (wpAny_of_eq like_eq ?_)
  refine wpAny_bind (wpAny_of_eq held_eq ?_)
  show wpAny _ _ (_codecs.decodeRoad _ b (PySem.Str.ofString "latin1") none [] >>= fun v => _) _ _ s
  rw [road_l1, hd]
  refine wpAny_bind (wpAny_bind (wpAny_pure ?_))
  exact wpAny_mkStr (wpAny_pure ⟨_, rfl, h⟩) hsz
theorem entry_l1 {u : Tok} : «bytes.decode» ⟨[.bytes (c :: cs).toArray t, .str (PySem.Str.ofString "latin1") u], []⟩ = (mkStr (PySem.Str.ofString "utf-8") >>= fun _ => mkStr (PySem.Str.ofString "latin1") >>= fun e => mkStr (PySem.Str.ofString "bytes.decode") >>= fun d =>
    call (.builtin "_codecs.decode.text") [.bytes (c :: cs).toArray t, e, .none, d] >>= fun v => ret v) := by kernel_rfl
theorem meets_dec1 {u : Tok} (hd : ∀ id, _codecs.runDecoder id _codecs.latin1Decoder none true (c :: cs).toArray 0 [] = pure (x.cps, n)) :
    Meets («bytes.decode» ⟨[.bytes (c :: cs).toArray t, .str (PySem.Str.ofString "latin1") u], []⟩) (fun _ R s => x.length ≤ sizeLine ∧ ∀ t' k, R (.ok (.ret (.str x t'))) { s with toks := k }) := by
  refine .of_wp fun prog w A R s hS => ?_
  obtain ⟨hsz, h⟩ := hS
  rw [entry_l1]
  refine wpAny_bind (wpAny_mkStr ?_ (by decide))
  refine wpAny_bind (wpAny_mkStr ?_ (by decide))
  refine wpAny_bind (wpAny_mkStr ?_ (by decide))
  exact wpAny_bind (call_function_meets kind_text plain_text entry_text (args_text _ _ _ _) (meets_l1 hd) ⟨hsz, wpAny_pure ⟨_, rfl, h _ _⟩⟩)
end
theorem call_latin {prog : Program} {w : World} {A : Around} {E : Value → Shared → Prop} {s : Shared} {b : Array UInt8} {t u : Tok} {Q : Value → Shared → Prop} (h0 : 0 < b.size) (hb : b.size ≤ 100) (h : ∀ t' k, Q (.str ⟨b.map (·.toNat)⟩ t') { s with toks := k }) :
    wpAny (model prog w) A (call (.builtin "bytes.decode") [.bytes b t, .str (PySem.Str.ofString "latin1") u]) Q E s := by
  obtain ⟨l⟩ := b
  cases l with
  | nil => exact absurd h0 (by decide)
  | cons c cs =>
    exact call_meets FB.slot_bytes_decode (typeIs_bytes _ _ _) FB.entry_bytes_decode (args_dec2 _ _) (meets_dec1 (x := ⟨(c :: cs).toArray.map (·.toNat)⟩) fun id => run_latin hb) ⟨by rw [sizeLine_eq]; show ((c :: cs).toArray.map (·.toNat)).size ≤ _; rw [Array.size_map]; exact Nat.le_trans hb (by decide), h⟩
end Mine
namespace Mine
open PySem.Builtin PySem.Builtin.Str
def trC (c : Nat) : List Nat := if c = 95 then [61, 53, 70] else if c = 32 then [95] else [c]
def TrOk (c : Nat) : Prop := c = 95 ∨ c = 32 ∨ (48 ≤ c ∧ c ≤ 57)
theorem map_K {w : World} {h : Heap} (X : (hdA.heap_39 w.params).In h) : Mine.Ex2 fun its n => h.get? 122 = some (listOf its n) ∧ ∀ c, TrOk c → Mine.Ex2 fun x u => its[c]? = some (.str x u) ∧ x = ⟨(trC c).toArray⟩ := by
  refine ⟨_, _, X _ _ rfl, ?_⟩
  intro c hc
  have : c = 95 ∨ c = 32 ∨ c = 48 ∨ c = 49 ∨ c = 50 ∨ c = 51 ∨ c = 52 ∨ c = 53 ∨ c = 54 ∨ c = 55 ∨ c = 56 ∨ c = 57 := by
    rcases hc with h | h | ⟨h1, h2⟩
    · exact .inl h
    · exact .inr (.inl h)
    · exact .inr (.inr ((by decide : ∀ c : Fin 58, 48 ≤ c.val → c.val = 48 ∨ c.val = 49 ∨ c.val = 50 ∨ c.val = 51 ∨ c.val = 52 ∨ c.val = 53 ∨ c.val = 54 ∨ c.val = 55 ∨ c.val = 56 ∨ c.val = 57) ⟨c, Nat.lt_succ_of_le h2⟩ h1))
  rcases this with rfl | rfl | rfl | rfl | rfl | rfl | rfl | rfl | rfl | rfl | rfl | rfl <;> exact ⟨_, _, rfl, by decide +kernel⟩
section
variable {prog : Program} {w : World} {A : Around} {E : Value → Shared → Prop} {s : Shared}
theorem tlook_wp {its : Array Value} {n c : Nat} {y : PySem.Str} {u : Tok} {Q : Mapped → Shared → Prop} (hm : s.heap.get? 122 = some (listOf its n)) (hcz : c ≤ 1000) (hc : its[c]? = some (.str y u)) (h : Q (.text y) { s with toks := s.toks + 1 }) :
    wpAny (model prog w) A (tableLookup (.ref 122) c) Q E s := by
  unfold tableLookup
  obtain ⟨hp', g, d, tk, os⟩ := s
  dsimp only at hm h
  generalize hgi : @getItem = gi
  wp_walk
  subst hgi
  have hlt : c < its.size := (Array.getElem?_eq_some_iff.mp hc).1
  refine wpAny_getItem_list ⟨_, hm, rfl, _, rfl⟩ (by lia) ?_ (by rw [Int.toNat_natCast]; exact hc) ?_
  · show (c : Int) < 9223372036854775808
    lia
  wp_walk
  exact h
theorem forIn_wp {M : Model} {β : Type} {body : Nat → β → Sem (ForInStep β)} {Q : β → Shared → Prop} (Inv : List Nat → β → Shared → Prop)
    (step : ∀ c l b s, Inv (c :: l) b s → wpAny M A (body c b) (fun r s' => ∃ b', r = .yield b' ∧ Inv l b' s') E s) : ∀ (l : List Nat) (b : β) (s : Shared), Inv l b s → (∀ b' s', Inv [] b' s' → Q b' s') → wpAny M A (forIn l b body) Q E s
  | [], b, s, hi, hq => by rw [List.forIn_nil]; exact wpAny_pure (hq _ _ hi)
  | c :: l, b, s, hi, hq => by
    rw [List.forIn_cons]
    refine wpAny_bind (wpAny_mono (step c l b s hi) ?_ fun _ _ h => h)
    rintro r s' ⟨b', rfl, h'⟩
    exact forIn_wp Inv step l b' s' h' hq
abbrev TrSt : Type := List PySem.Str × Nat × Bool × List (Nat × Option Nat) × Bool
structure TrInv (s0 : Shared) (whole l : List Nat) (b : TrSt) (s : Shared) : Prop where
  sh : ∃ k, s = { s0 with toks := k }
  ad : b.2.2.2.2 = false
  ok : ∀ c ∈ l, TrOk c
  tot : b.2.1 + 3 * l.length ≤ 300
  out : b.1.reverse.flatMap (fun y : PySem.Str => y.cps.toList) ++ l.flatMap trC = whole
  kn : ∀ c a, b.2.2.2.1.lookup c = some a → ∃ d, a = some d ∧ trC c = [d]
theorem trans_try {x : PySem.Str} {t : Tok} {its : Array Value} {n : Nat} {Q : Fin → Shared → Prop} (hm : s.heap.get? 122 = some (listOf its n)) (hx : x.length ≤ 100) (h0 : 0 < x.length) (hok : ∀ c ∈ x.cps.toList, TrOk c) (hz : (x.cps.toList.flatMap trC).length ≤ 1000) (hits : ∀ c, TrOk c → Mine.Ex2 fun x u => its[c]? = some (.str x u) ∧ x = ⟨(trC c).toArray⟩)
    (H : ∀ t' k, Q (.done (.ret (.str ⟨(x.cps.toList.flatMap trC).toArray⟩ t'))) { s with toks := k }) :
    wpAny (model prog w) A (Builtin.«str.translate» ⟨[.str x t, .ref 122], []⟩) Q E s := by
  unfold Builtin.«str.translate»
  obtain ⟨hp', g, d, tk, os⟩ := s
  dsimp only at hm H
  generalize hgi : @tableLookup = gi
  wp_walk
  refine wpAny_ite_false (by rw [decide_eq_false_iff_not, beq_iff_eq]; lia) ?_
  dsimp only
  refine wpAny_bind ?_
  rw [← Array.forIn_toList]
  subst hgi
  refine (let bd := _; (?_ : wpAny _ _ (forIn _ _ bd) _ _ _))
  refine forIn_wp (TrInv ⟨hp', g, d, tk, os⟩ (x.cps.toList.flatMap trC)) ?_ _ _ _ ⟨⟨tk, rfl⟩, rfl, hok, ?_, rfl, fun _ _ h => nomatch h⟩ ?_
  · rintro c l ⟨pieces, total, fast, known, ad⟩ s1 ⟨⟨k, rfl⟩, had, hok1, htot, hout, hkn⟩
    dsimp only at had htot hout hkn
    subst had
    obtain ⟨y, u, hy, ey⟩ := hits c (hok1 c (.head _))
    rw [List.length_cons] at htot
    dsimp only [bd]
    rw [if_neg (show ¬ (tooLong total = true) by simp only [tooLong, decide_eq_true_eq, sizeLine_eq]; lia)]
    have hcz : c ≤ 1000 := by have := hok1 c (.head _); unfold TrOk at this; lia
    have hok2 : ∀ c ∈ l, TrOk c := fun c hc => hok1 c (.tail _ hc)
    have hyl : y.length ≤ 3 := by
      rw [ey]
      unfold trC
      split
      · exact (by decide : (3 : Nat) ≤ 3)
      · split <;> exact (by decide : (1 : Nat) ≤ 3)
    have eyl : y.cps.toList = trC c := by rw [ey]
    have hfin : ∀ (kk : Nat) (kn2 : List (Nat × Option Nat)) (f2 : Bool), (∀ c a, kn2.lookup c = some a → ∃ d, a = some d ∧ trC c = [d]) → ∃ b', ForInStep.yield ((y :: pieces, total + y.length, f2, kn2, false) : TrSt) = ForInStep.yield b' ∧ TrInv ⟨hp', g, d, tk, os⟩ (x.cps.toList.flatMap trC) l b' { heap := hp', gens := g, drawn := d, toks := kk, os := os } := by
      intro kk kn2 f2 hkn2
      refine ⟨_, rfl, ⟨⟨kk, rfl⟩, rfl, hok2, by dsimp only; lia, ?_, hkn2⟩⟩
      rw [← hout]
      simp [eyl]
    cases fast with
    | false =>
      refine wpAny_ite_false (by rfl) ?_
      refine wpAny_ite_false (by rfl) ?_
      refine wpAny_bind ?_
      refine tlook_wp hm hcz hy ?_
      exact wpAny_pure (hfin _ _ _ hkn)
    | true =>
      refine wpAny_ite_true (by rfl) ?_
      cases hk : known.lookup c with
      | some a =>
        obtain ⟨dd, rfl, ed⟩ := hkn c a hk
        have ey1 : y = ⟨#[dd]⟩ := by rw [ey, ed]
        have h1 := hfin k known true hkn
        rw [ey1] at h1
        exact wpAny_bind (wpAny_pure (wpAny_pure h1))
      | none =>
        dsimp only
        refine wpAny_bind ?_
        refine tlook_wp hm hcz hy ?_
        by_cases h95 : c = 95
        · have ey1 : y = ⟨#[61, 53, 70]⟩ := by rw [ey, h95]; rfl
          have h1 := hfin (k + 1 + 1) known false hkn
          rw [ey1] at h1 hy
          rw [ey1]
          refine wpAny_bind (wpAny_pure ?_)
          refine wpAny_bind (wpAny_rule ?_)
          refine wpAny_ite_false (by rfl) ?_
          refine wpAny_bind ?_
          refine tlook_wp hm hcz hy ?_
          exact wpAny_pure h1
        · obtain ⟨dd, ed, hd⟩ : ∃ dd, trC c = [dd] ∧ dd < 128 := by
            unfold trC
            rw [if_neg h95]
            have := hok1 c (.head _)
            unfold TrOk at this
            split
            · exact ⟨95, rfl, by decide⟩
            · exact ⟨c, rfl, by lia⟩
          have ey1 : y = ⟨#[dd]⟩ := by rw [ey, ed]
          have h1 := hfin (k + 1) ((c, some dd) :: known) true (by
            intro c2 a h
            rw [List.lookup_cons] at h
            split at h
            · rename_i hb
              injection h with h
              exact ⟨dd, h.symm, by rw [beq_iff_eq] at hb; rw [hb, ed]⟩
            · exact hkn c2 a h)
          rw [ey1] at h1
          rw [ey1]
          have e1 : ((⟨#[dd]⟩ : PySem.Str).length == 1 && (⟨#[dd]⟩ : PySem.Str).cps.all fun x => decide (x < 128)) = true := by simp [hd]; rfl
          have e2 : (⟨#[dd]⟩ : PySem.Str).cps[0]? = some dd := rfl
          simp only [e1, e2, ↓reduceIte]
          exact wpAny_bind (wpAny_pure (wpAny_pure h1))
  · show 0 + 3 * x.cps.size ≤ 300
    have : x.cps.size ≤ 100 := hx
    lia
  · rintro ⟨pieces, total, fast, known, ad⟩ s1 ⟨⟨k, rfl⟩, had, hok1, htot, hout, hkn⟩
    dsimp only at had htot hout hkn ⊢
    rw [if_neg (show ¬ (tooLong total = true) by simp only [tooLong, decide_eq_true_eq, sizeLine_eq]; lia)]
    have e1 : ∀ (l : List PySem.Str) (a : Array Nat), (l.foldl (fun acc p => acc ++ p.cps) a).toList = a.toList ++ l.flatMap (fun y : PySem.Str => y.cps.toList) := by
      intro l
      induction l with
      | nil => intro a; simp
      | cons y l ih => intro a; rw [List.foldl_cons, ih]; simp
    have e2 : pieces.reverse.foldl (fun acc p => acc ++ p.cps) #[] = (x.cps.toList.flatMap trC).toArray := by
      apply Array.toList_inj.mp
      rw [e1, ← hout]
      simp
    rw [e2]
    refine wpAny_bind (wpAny_mkStr ?_ ?_)
    · exact wpAny_pure (H _ _)
    · rw [sizeLine_eq]
      show (x.cps.toList.flatMap trC).length ≤ _
      lia
theorem call_trans {x : PySem.Str} {t : Tok} {h₀ : Heap} {L : Addr} {m : PySem.Str → Option Value} {Q : Value → Shared → Prop} (F : Fr h₀ L s.heap m) (X : (hdA.heap_39 w.params).In h₀) (hx : x.length ≤ 100) (h0 : 0 < x.length) (hok : ∀ c ∈ x.cps.toList, TrOk c) (hz : (x.cps.toList.flatMap trC).length ≤ 1000)
    (H : ∀ t' k, Q (.str ⟨(x.cps.toList.flatMap trC).toArray⟩ t') { s with toks := k }) :
    wpAny (model prog w) A (call (.builtin "str.translate") [.str x t, .ref 122]) Q E s := by
  obtain ⟨its, n, hm, hits⟩ := map_K X
  exact wpAny_call_entry slot_translate (typeIs_str _ _ _) entry_translate (trans_try (F.keep _ _ hm) hx h0 hok hz hits fun t' k => ⟨_, rfl, H t' k⟩) (args_translate _ _)
end
end Mine
end
set_option hygiene false in
local macro_rules | `(tactic| k_lt $h:ident) => `(tactic| skip)
set_option hygiene false in
local macro_rules | `(tactic| k_mem) => `(tactic| first | exact Mine.m0 | exact Mine.m1 | exact Mine.m2 | exact Mine.m3 | exact Mine.m4 | exact Mine.m5 | exact Mine.m6 | exact Mine.m7 | exact Mine.m8 | exact Mine.m9 | exact Mine.m10 | exact Mine.m11 | exact Mine.m12)
set_option hygiene false in
local macro_rules | `(tactic| walk_at "LTX") => `(tactic| ((iterate 10 (try (first | exact Nat.lt_succ_self _ | exact Mine.ltA (by assumption) (by k_dflt k_mem) | refine Nat.lt_succ_of_lt ?_))); done))
set_option hygiene false in
local macro_rules | `(tactic| omega) => `(tactic| first | decide | with_reducible (first | assumption | (refine (?_ : @Ne Nat _ _); (first | exact Mine.s_ne _ | exact Mine.offB (by assumption) (by k_dflt k_mem) | exact Mine.offC (by assumption) (by k_dflt k_mem) | exact Mine.nvB (by assumption) (by k_dflt k_mem) | exact Mine.nvC (by assumption) (by k_dflt k_mem) | (refine Nat.ne_of_lt ?_; walk_at "LTX") | (refine Nat.ne_of_gt ?_; walk_at "LTX") | exact Nat.ne_of_lt (by assumption) | exact Nat.ne_of_gt (by assumption) | exact Mine.cj0 (by assumption) | exact Mine.sepB (by assumption) (by k_dflt k_mem) (by omega) | exact Mine.sepC (by assumption) (by k_dflt k_mem) (by omega))) | (refine (?_ : @LE.le Nat _ _ _); (first | exact Mine.one_s _ | ((iterate 9 (try (first | exact Nat.le_refl _ | refine Nat.le_succ_of_le ?_))); done) | exact Nat.le_trans (by assumption) (by decide) | (refine Nat.le_of_lt ?_; first | assumption | walk_at "LTX") | exact Mine.leU1 (Mine.ltA (by assumption) (by k_dflt k_mem)))) | (refine (?_ : @LT.lt Nat _ _ _); (first | walk_at "LTX" | exact Mine.room2 (by assumption) (by decide) | exact Mine.room3 (by assumption) (by decide) | exact Mine.room1 (by assumption))) | exact Mine.nat5 (by assumption) | exact Mine.cs3 (by assumption) | exact Mine.cs5 (by assumption) | exact Mine.ci3 (by assumption) | exact Mine.cs2 (by assumption) | exact Mine.cj0 (by assumption) | exact Mine.ck1 (by assumption) | exact Mine.cl1 (by assumption) | exact Mine.cl2 (by assumption) | exact Mine.ilen (by assumption) (by first | assumption | exact Mine.ck1 (by assumption) | exact Mine.cl2 (by assumption)) (by decide) | exact Int.lt_of_lt_of_le (by first | assumption | exact Mine.ck1 (by assumption) | exact Mine.cl2 (by assumption)) (by decide)) | ((fail_if_success (with_reducible refine (?_ : @Ne Nat _ _))); with_reducible (repeat (first | (rename @Ne Nat _ _ ∧ _ => z9; clear z9) | (rename (@Ne Nat _ _ ∧ _) ∧ _ => z9; clear z9))); omega +splitNatSub) | omega +splitNatSub)
section
theorem Mine.fresh3 {prog : Program} {w : World} {A : Around} {E : Value → Shared → Prop} {s : Shared} {Q : Bool → Shared → Prop} (h : wpAny (model prog w) A (truthy (.bool true)) Q E s) : wpAny (model prog w) A (truthy (.bool true)) Q E s := by
  w_top off
  first | (walk1; fail "no") | exact h
namespace Mine
theorem Ctr.use2 {prog : Program} {w : World} {d : Nat} {f : Addr} {vs : List Value} {led : List (Addr × Obj)} {Ret : (Value → List (Addr × Obj) → Prop) → Prop} {p : Program} {loose : List Str} {mean : ExcName → Option Value} {mg mb : Str → Option Value} {dp un : Nat} {gd : Option (List Code)} {cn : Str} {cs : Scope} {a : Addr} {ccd : Value} {cl : List (Str × Addr)} {outer : List Env} {A₀ : Around} {base h₀ : Heap} {L : Addr} {m : Str → Option Value} {s : Shared}
    {Q E : Value → Shared → Prop} (C : Ctr prog w d f vs led Ret) (B : Below A₀ base outer h₀) (F : Fr h₀ L s.heap m) (X : (hdA.heap_39 w.params).In h₀) (N : News h₀ L s.heap led) (T : Top p loose mean mg mb h₀) (hk : cs.kind = .function) (hd : dp + d < recursionLimit) (hu : un + 8 * d < cLine)
    (h : Ret (fun v led' => ∀ h' dr' tk', Fr h₀ L h' m → News h₀ L h' led' → s.toks ≤ tk' → Q v { s with heap := h', drawn := dr', toks := tk' })) :
    wpAny (model prog w) (ktrTop dp un gd cn cs L a ccd cl outer) (call (.ref f) vs) Q E s :=
  wpAny_with_toks (Nat.le_refl s.toks) (C _ _ _ _ _ _ _ _ _ _ _ _ _ _ _ _ _ _ _ _ _ _ B F X N T hk hd hu h)
/-- a contract whose promise also sees the token counter before and after -/
def CtrT (prog : Program) (w : World) (d : Nat) (f : Addr) (vs : List Value) (led : List (Addr × Obj)) (Ret : Nat → (Value → List (Addr × Obj) → Nat → Prop) → Prop) : Prop :=
  ∀ (p : Program) (loose : List Str) (mean : ExcName → Option Value) (mg mb : Str → Option Value) (dp un : Nat) (gd : Option (List Code)) (cn : Str) (cs : Scope) (a : Addr) (ccd : Value) (cl : List (Str × Addr)) (outer : List Env) (A₀ : Around) (base h₀ : Heap) (L : Addr) (m : Str → Option Value) (s : Shared)
    (Q E : Value → Shared → Prop),
    Below A₀ base outer h₀ → Fr h₀ L s.heap m → (hdA.heap_39 w.params).In h₀ → News h₀ L s.heap led → Top p loose mean mg mb h₀ → cs.kind = .function → dp + d < recursionLimit → un + 8 * d < cLine →
    Ret s.toks (fun v led' tk' => ∀ h' dr', Fr h₀ L h' m → News h₀ L h' led' → Q v { s with heap := h', drawn := dr', toks := tk' }) →
    wpAny (model prog w) (ktrTop dp un gd cn cs L a ccd cl outer) (call (.ref f) vs) Q E s
theorem CtrT.use {prog : Program} {w : World} {d : Nat} {f : Addr} {vs : List Value} {led : List (Addr × Obj)} {Ret : Nat → (Value → List (Addr × Obj) → Nat → Prop) → Prop} {p : Program} {loose : List Str} {mean : ExcName → Option Value} {mg mb : Str → Option Value} {dp un : Nat} {gd : Option (List Code)} {cn : Str} {cs : Scope} {a : Addr} {ccd : Value} {cl : List (Str × Addr)} {outer : List Env} {A₀ : Around} {base h₀ : Heap} {L : Addr} {m : Str → Option Value} {s : Shared}
    {Q E : Value → Shared → Prop} (C : CtrT prog w d f vs led Ret) (B : Below A₀ base outer h₀) (F : Fr h₀ L s.heap m) (X : (hdA.heap_39 w.params).In h₀) (N : News h₀ L s.heap led) (T : Top p loose mean mg mb h₀) (hk : cs.kind = .function) (hd : dp + d < recursionLimit) (hu : un + 8 * d < cLine)
    (h : Ret s.toks (fun v led' tk' => ∀ h' dr', Fr h₀ L h' m → News h₀ L h' led' → s.toks ≤ tk' → Q v { s with heap := h', drawn := dr', toks := tk' })) :
    wpAny (model prog w) (ktrTop dp un gd cn cs L a ccd cl outer) (call (.ref f) vs) Q E s :=
  wpAny_with_toks (Nat.le_refl s.toks) (C _ _ _ _ _ _ _ _ _ _ _ _ _ _ _ _ _ _ _ _ _ _ B F X N T hk hd hu h)
theorem gentoks3 {M : Model} {A : Around} {α : Type} {t : Sem α} {Q : α → Shared → Prop} {E : Value → Shared → Prop} {hp : Heap} {g : Array GenState} {d : Drawn} {tk : Nat} {os : OsState} (h : ∀ tk', tk + 1 ≤ tk' → wpAny M A t Q E ⟨hp, g, d, tk', os⟩) : wpAny M A t Q E ⟨hp, g, d, tk + 1, os⟩ := h _ (Nat.le_refl _)
end Mine
namespace Mine
theorem tokQn {M : Model} {A : Around} {α : Type} {t : Sem α} {Q : α → Shared → Prop} {E : Value → Shared → Prop} {s : Shared} (h : wpAny M A t (TokQ s.toks Q) (TokQ s.toks E) s) : wpAny M A t Q E s := wpAny_with_toks (Nat.le_refl s.toks) h
end Mine
namespace Mine
/-- a held goal: K's walk stops at it -/
structure Hold (P : Prop) : Prop where
  h : P
section
variable {M : Model} {A : Around} {E : Value → Shared → Prop} {s : Shared} {env : Env} {Q : Flow → Shared → Prop}
theorem execs_app {Γ : _} {Q' : _} {E' : _} : ∀ (pre post : List Stmt) (p : _) (s : Shared), Sem.wp M Γ (execs pre env) (fun f p' s' => match f with | .next => Sem.wp M Γ (execs post env) Q' E' p' s' | f => Q' f p' s') E' p s → Sem.wp M Γ (execs (pre ++ post) env) Q' E' p s
  | [], post, p, s, h => h
  | st :: pre, post, p, s, h => by
    rw [List.cons_append, execs_cons, Sem.wp_bind']
    rw [execs_cons, Sem.wp_bind'] at h
    refine Sem.wp_mono M Γ _ (fun f p' s' h' => ?_) (fun _ _ _ h' => h') _ _ h
    cases f with
    | next => exact execs_app pre post p' s' h'
    | ret v => exact h'
    | brk => exact h'
    | cont => exact h'
theorem cut_execs (n : Nat) {l : List Stmt} (h : wpAny M A (execs (l.take n) env) (fun f s' => match f with | .next => Hold (wpAny M A (execs (l.drop n) env) Q E s') | f => Q f s') E s) : wpAny M A (execs l env) Q E s := fun Γ p hΓ => by
  have := h Γ p hΓ
  rw [← List.take_append_drop n l]
  refine execs_app _ _ _ _ (Sem.wp_mono M Γ _ (fun f p' s' h' => ?_) (fun _ _ _ h' => h') _ _ this)
  cases f with
  | next => exact h'.h Γ p' hΓ
  | ret v => exact h'
  | brk => exact h'
  | cont => exact h'
theorem cut_set (n : Nat) {l : List Stmt} {h₀ : Heap} {L : Addr} {m : Str → Option Value} {led : List (Addr × Obj)} (x : Str) (v : Tok → Value) (_F : Fr h₀ L s.heap m) (_N : News h₀ L s.heap led)
    (h1 : wpAny M A (execs (l.take n) env) (fun f s' => Hold (f = .next ∧ Mine.Ex4 fun h' dr tk t' => Mine.And3 (s' = { s with heap := h', drawn := dr, toks := tk }) (Fr h₀ L h' (fun y => if y = x then some (v t') else m y)) (News h₀ L h' led))) E s)
    (h2 : ∀ h' dr tk t', Fr h₀ L h' (fun y => if y = x then some (v t') else m y) → News h₀ L h' led → wpAny M A (execs (l.drop n) env) Q E { s with heap := h', drawn := dr, toks := tk }) : wpAny M A (execs l env) Q E s :=
  cut_execs n (wpAny_mono h1 (by
    rintro f s' ⟨rfl, h', dr, tk, t', rfl, F, N⟩
    exact ⟨h2 h' dr tk t' F N⟩) fun _ _ e => e)
end
theorem fr_over' {h₀ h : Heap} {L : Addr} {m m' : Str → Option Value} (F : Fr h₀ L h m') (e : ∀ y, m' y = m y) : Fr h₀ L h m := by
  have : m' = m := funext e
  rw [← this]; exact F
theorem hold_set {s : Shared} {h₀ h₁ : Heap} {L : Addr} {m m' : Str → Option Value} {led led' : List (Addr × Obj)} {x : Str} {v : Tok → Value} {t : Tok} {dr : Drawn} {tk : Nat} (F : Fr h₀ L h₁ m') (N : News h₀ L h₁ led') (hx : m' x = some (v t)) (hm : ∀ y, y ≠ x → m' y = m y) (hs : ∀ p ∈ led, p ∈ led') :
    Hold (Flow.next = Flow.next ∧ Mine.Ex4 fun h' dr' tk' t' => Mine.And3 (({ s with heap := h₁, drawn := dr, toks := tk } : Shared) = { s with heap := h', drawn := dr', toks := tk' }) (Fr h₀ L h' (fun y => if y = x then some (v t') else m y)) (News h₀ L h' led)) := by
  refine ⟨rfl, h₁, dr, tk, t, rfl, ?_, fun p hp => N p (hs p hp)⟩
  have : m' = fun y => if y = x then some (v t) else m y := by
    funext y
    by_cases h : y = x
    · subst h; simp [hx]
    · simp [h, hm y h]
  rw [← this]; exact F
theorem cut_read {M : Model} {A : Around} {E : Value → Shared → Prop} {s : Shared} {env : Env} {Q : Flow → Shared → Prop} (n : Nat) {l : List Stmt} {h₀ : Heap} {L c1 : Addr} {x o1 : Obj} {m : Str → Option Value} {led : List (Addr × Obj)} (P : Addr → Obj → Prop) (tab : Addr → Obj) (z : Addr) (nm : Str) (v : Int) (_F : Fr h₀ L s.heap m) (_N : News h₀ L s.heap ((z, x) :: (c1, o1) :: led))
    (h1 : wpAny M A (execs (l.take n) env) (fun f s' => Hold (f = .next ∧ Mine.Ex6 fun h' dr tk t' c' o' => Mine.And5 (s' = { s with heap := h', drawn := dr, toks := tk }) (Fr h₀ L h' (fun y => if y = nm then some (.int v t') else m y)) (News h₀ L h' ((z, tab c') :: (c', o') :: led)) (P c' o') (((∀ p ∈ (z, x) :: led, p.1 < c') ∨ c' = c1)))) E s)
    (h2 : ∀ h' dr tk t' c' o', Fr h₀ L h' (fun y => if y = nm then some (.int v t') else m y) → News h₀ L h' ((z, tab c') :: (c', o') :: led) → P c' o' → ((∀ p ∈ (z, x) :: led, p.1 < c') ∨ c' = c1) → wpAny M A (execs (l.drop n) env) Q E { s with heap := h', drawn := dr, toks := tk }) : wpAny M A (execs l env) Q E s :=
  cut_execs n (wpAny_mono h1 (by
    rintro f s' ⟨rfl, h', dr, tk, t', c', o', rfl, F, N, hP, hs⟩
    exact ⟨h2 h' dr tk t' c' o' F N hP hs⟩) fun _ _ e => e)
theorem hold_read {s : Shared} {h₀ h₁ : Heap} {L c1 : Addr} {x o1 : Obj} {m m' : Str → Option Value} {led led' : List (Addr × Obj)} {P : Addr → Obj → Prop} {tab : Addr → Obj} {z : Addr} {nm : Str} {v : Int} {t : Tok} {dr : Drawn} {tk : Nat} {c' : Addr} {o' : Obj} (F : Fr h₀ L h₁ m') (N : News h₀ L h₁ led') (hx : m' nm = some (.int v t)) (hm : ∀ y, y ≠ nm → m' y = m y)
    (hs : ∀ p ∈ (z, tab c') :: (c', o') :: led, p ∈ led') (hP : P c' o') (hsep : (∀ p ∈ (z, x) :: led, p.1 < c') ∨ c' = c1) :
    Hold (Flow.next = Flow.next ∧ Mine.Ex6 fun h' dr' tk' t' c' o' => Mine.And5 (({ s with heap := h₁, drawn := dr, toks := tk } : Shared) = { s with heap := h', drawn := dr', toks := tk' }) (Fr h₀ L h' (fun y => if y = nm then some (.int v t') else m y)) (News h₀ L h' ((z, tab c') :: (c', o') :: led)) (P c' o') (((∀ p ∈ (z, x) :: led, p.1 < c') ∨ c' = c1))) := by
  refine ⟨rfl, h₁, dr, tk, t, c', o', rfl, ?_, fun p hp => N p (hs p hp), hP, hsep⟩
  refine fr_over' F fun y => ?_
  by_cases h : y = nm
  · subst h; simp [hx]
  · simp [h, hm y h]
theorem fr_same {h₀ h : Heap} {L : Addr} {m : Str → Option Value} {x : Str} {v : Value} (F : Fr h₀ L h m) (e : m x = some v) : Fr h₀ L h (fun y => if y = x then some v else m y) := by
  have : (fun y => if y = x then some v else m y) = m := by
    funext y
    by_cases h : y = x
    · subst h; simp [e]
    · simp [h]
  rw [this]; exact F
theorem fr_over {h₀ h : Heap} {L : Addr} {m m' : Str → Option Value} (F : Fr h₀ L h m') (e : ∀ y, m' y = m y) : Fr h₀ L h m := by
  have : m' = m := funext e
  rw [← this]; exact F
end Mine
namespace Mine
open PyProof.Rows.LCg
section
variable {prog : Program} {w : World} {A : Around} {E : Value → Shared → Prop} {s : Shared} {h₀ : Heap} {L : Addr} {m : Str → Option Value} {env : Env}
theorem CompEnd.mono {I C D : Addr} {oI oC oD : Obj} {S : List (Addr × Obj) → Prop} {R R' : Value → List (Addr × Obj) → Prop} {s₁ s₂ : Shared} {y : Value} (h : LCg.CompEnd h₀ L m s₁ I oI C oC D oD S R y s₂) (hr : ∀ y n, R y n → R' y n) : LCg.CompEnd h₀ L m s₁ I oI C oC D oD S R' y s₂ :=
  let ⟨h', tk, news', e, F, N, o, hS, r⟩ := h
  ⟨h', tk, news', e, F, N, o, hS, hr _ _ r⟩
/-- a block over a list of any length, by an invariant -/
theorem comp_inv {elt : PySem.Expr} {x : Str} {scope : Scope} {cl : List (Str × Addr)} {S : List (Addr × Obj) → Prop} {P : Nat → Value → Prop} {Fin : List Value → List (Addr × Obj) → Prop} (J : Nat → List Value → List (Addr × Obj) → Prop) (n : Nat)
    (step : ∀ i ys news, i < n → J i ys news → ∀ v I oI C oC D m₂ h tk (E' : Value → Shared → Prop), P i v → NsObj oC m₂ → m₂ x = some v → Fr h₀ L h m → News h₀ L h ((I, oI) :: (C, oC) :: (D, lst ys) :: news) → Off3 I C D news → ((@Ne Nat I C) ∧ (@Ne Nat I D) ∧ (@Ne Nat C D)) →
      wpAny (model prog w) A (eval elt (compEnvC scope cl C env)) (LCg.CompEnd h₀ L m { s with heap := h, toks := tk } I oI C oC D (lst ys) S (fun y news' => J (i + 1) (ys ++ [y]) news')) E' { s with heap := h, toks := tk })
    (fin : ∀ ys news, J n ys news → Fin ys news) : ∀ (k i : Nat) (ys : List Value) (news : List (Addr × Obj)), i + k = n → J i ys news → CompRest prog w A h₀ L m env elt x scope cl s S P Fin k i ys news
  | 0, i, ys, news, e, j => by
    have : i = n := by lia
    subst this
    exact fin _ _ j
  | k + 1, i, ys, news, e, j => by
    intro v I oI C oC D m₂ h tk E' hv hC hx F N off ne
    exact wpAny_mono (step i ys news (by lia) j v I oI C oC D m₂ h tk E' hv hC hx F N off ne) (fun y s' h' => CompEnd.mono h' fun y nw r => comp_inv J n step fin k (i + 1) _ _ (by lia) r) fun _ _ e => e
/-- the same where the ledger stays as it was -/
theorem comp_same {elt : PySem.Expr} {x : Str} {scope : Scope} {cl : List (Str × Addr)} {S : List (Addr × Obj) → Prop} {P : Nat → Value → Prop} {Fin : List Value → List (Addr × Obj) → Prop} {led₀ : List (Addr × Obj)} {n : Nat} (K : Nat → List Value → Prop)
    (h0 : K 0 [])
    (step : ∀ i ys, i < n → K i ys → ∀ v I oI C oC D m₂ h tk (E' : Value → Shared → Prop), P i v → NsObj oC m₂ → m₂ x = some v → Fr h₀ L h m → News h₀ L h ((I, oI) :: (C, oC) :: (D, lst ys) :: led₀) → Off3 I C D led₀ → ((@Ne Nat I C) ∧ (@Ne Nat I D) ∧ (@Ne Nat C D)) →
      wpAny (model prog w) A (eval elt (compEnvC scope cl C env)) (LCg.CompEnd h₀ L m { s with heap := h, toks := tk } I oI C oC D (lst ys) S (fun y news' => news' = led₀ ∧ K (i + 1) (ys ++ [y]))) E' { s with heap := h, toks := tk })
    (fin : ∀ ys, K n ys → Fin ys led₀) : CompRest prog w A h₀ L m env elt x scope cl s S P Fin n 0 [] led₀ :=
  comp_inv (fun i ys nw => nw = led₀ ∧ K i ys) n (fun i ys nw hi hJ => by obtain ⟨rfl, hK⟩ := hJ; exact step i ys hi hK) (fun ys nw hJ => by obtain ⟨rfl, hK⟩ := hJ; exact fin ys hK) n 0 [] led₀ (Nat.zero_add n) ⟨rfl, h0⟩
theorem comp_end {I C D : Addr} {oI oC oD : Obj} {S : List (Addr × Obj) → Prop} {R : Value → List (Addr × Obj) → Prop} {s₁ : Shared} {y : Value} {h' : Heap} {tk : Nat} {nw : List (Addr × Obj)} (F : Fr h₀ L h' m) (N : News h₀ L h' ((I, oI) :: (C, oC) :: (D, oD) :: nw)) (off : Off3 I C D nw) (hS : S nw) (r : R y nw) :
    LCg.CompEnd h₀ L m s₁ I oI C oC D oD S R y { s₁ with heap := h', toks := tk } := LCg.CompEnd.intro F N nw (fun p hp => hp) off hS r
theorem ints_snoc {ys : List Value} {ns : List Int} {n : Int} {t : Tok} (h : IntsAre ys ns) : IntsAre (ys ++ [.int n t]) (ns ++ [n]) := by
  induction h with
  | nil => exact .cons _ _ .nil
  | cons a u _ ih => exact .cons _ _ ih
theorem strs_snoc {ys : List Value} {ns : List Str} {n : Str} {t : Tok} (h : StrsAre ys ns) : StrsAre (ys ++ [.str n t]) (ns ++ [n]) := by
  induction h with
  | nil => exact .cons _ _ .nil
  | cons a u _ ih => exact .cons _ _ ih
theorem take_snoc {α β : Type} {l : List α} {f : α → β} {i : Nat} {a : α} (h : l[i]? = some a) : (l.take (i + 1)).map f = (l.take i).map f ++ [f a] := by
  rw [List.take_add_one, h, List.map_append]; rfl
theorem take_cps {β : Type} (X : Str) (f : Nat → β) : (X.cps.toList.take X.cps.size).map f = X.cps.toList.map f := by
  rw [List.take_of_length_le (by simp)]
theorem bytes_back {l : List Nat} (h : ∀ c ∈ l, c < 256) : ((byteArr (l.map fun c : Nat => ((c : Nat) : Int))).map (·.toNat)) = l.toArray := by
  apply Array.toList_inj.mp
  unfold byteArr
  simp only [Array.toList_map, List.map_map, List.toList_toArray]
  rw [show l = l.map id by simp]
  rw [List.map_map]
  refine List.map_congr_left fun c hc => ?_
  have := h c hc
  simp [UInt8.toNat_ofNat']
  lia
theorem lst_at {h : Heap} {D : Addr} {ys : List Value} {led : List (Addr × Obj)} (N : News h₀ L h led) (hm : (D, LCg.lst ys) ∈ led) : h.IsList D ys.toArray := ⟨_, (N _ hm).1, rfl, _, rfl⟩
theorem str_st {I : Addr} {ty : String} {y : Str} {t : Tok} : ∀ i (h h' : Heap) (o : Obj) (nw : List (Addr × Obj)), h.IsStrIter I ty y t i → h.get? I = some o → h'.get? I = some o → (∀ b o, h₀.get? b = some o → h'.get? b = some o) → News h₀ L h' nw → True → h'.IsStrIter I ty y t i :=
  fun i h h' o nw st e e' _ _ _ => by obtain ⟨o', q, r⟩ := st; rw [e] at q; cases q; exact ⟨o, e', r⟩
/-- a block over the signs of a text -/
theorem ListComp_S {elt iter : PySem.Expr} {x : Str} {px : Pos} {scope : Scope} {cl : List (Str × Addr)} {pos : Pos} {Q : Value → Shared → Prop} (_F₀ : Fr h₀ L s.heap m) (hclos : closureFor scope env = pure cl) (hcell : ∀ y ∈ scope.names, y.2 ≠ .cell) (hkind : scope.kind = .function)
    (hnames : ∀ y ∈ scope.names, y.2 = .local → scope.names.lookup y.1 = some .local) (hx : scope.names.lookup x = some .local)
    (h : wpAny (model prog w) A (eval iter env) (fun xv s₁ => Mine.Ex3 fun y t news => Mine.And6 (xv = .str y t) (A.handled = none) (y.cps.size ≤ sizeLine) (Fr h₀ L s₁.heap m) (News h₀ L s₁.heap news) (∀ s₂ : Shared, (∃ h, s₂ = { s₁ with heap := h }) → CompRest prog w A h₀ L m env elt x scope cl s₂ (fun _ => True) (SignAt y) (FinE h₀ L m s₂ Q) y.cps.size 0 [] news)) E s)
    (hs : ∀ x, foldedSetIterable iter env x = pure x := by intro _; rfl) :
    wpAny (model prog w) A (eval (.ListComp elt [⟨.Name x px, iter, [], 0⟩] scope pos) env) Q E s := by
  rw [eval_ListComp]
  refine wpAny_comprehension_free (use := none) rfl hs hclos hkind hnames (wpAny_mono h (fun xv s₁ h₁ => ?_) fun _ _ e => e)
  obtain ⟨y, t, news, rfl, hh, hsz, F, N, R⟩ := h₁
  have key : ∀ (ty : String) (o : Obj) (RR : Value → Addr → Result → Shared → Prop), (∀ A' : Around, A'.handled = none → Walks prog w A' s₁.heap.objs.size [s₁.heap.objs.size] [s₁.heap.objs.size] y.cps.size (SignAt y) (fun i h => h.IsStrIter s₁.heap.objs.size ty y t i)) → (s₁.heap.push o).IsStrIter s₁.heap.objs.size ty y t 0 →
      (∀ D C h tk m' ys news', Fr h₀ L h m → News h₀ L h ((D, lst ys) :: news') → Off1 D news' → h.Ns C m' → h₀.get? C = none → h₀.get? D = none → C ≠ L → D ≠ L → C ≠ D → (∀ p ∈ news', p.1 ≠ C) → FinE h₀ L m { s₁ with heap := s₁.heap.push o } Q ys news' → RR (.ref D) C (.ok .next) { s₁ with heap := h, toks := tk }) →
      wpAny (model prog w) A (newList []) (fun acc s₃ => wpAny (model prog w) A (newFunctionEnv scope env.globals cl [] env.qual none .none (some env)) (fun cenv s₄ =>
      codeAny (model prog w) A (.compStart (.ListComp elt [⟨.Name x px, iter, [], 0⟩] scope pos) 0 (.ref s₁.heap.objs.size) acc { cenv with scope := relabel scope env }) (RR acc cenv.locals) s₄) E s₃) E { s₁ with heap := s₁.heap.push o } := by
    intro ty o RR W hst hRR
    refine block_U (W A hh) hsz (fun i h st => by obtain ⟨o, e, _⟩ := st; exact ⟨o, e⟩) str_st hcell hkind hx hst (fun b hb => ?_)
      (F.push o) (N.grown fun _ _ e => Heap.get?_push_of_some _ e) (Nat.ne_of_lt F.ns.lt) (next_is_new F) (fun p hp => Nat.ne_of_lt (Heap.lt_size (N p hp).1)) trivial (R _ ⟨_, rfl⟩) hRR
    rw [List.mem_singleton.mp hb]
    show s₁.heap.objs.size < (s₁.heap.push _).objs.size
    rw [Heap.size_push]; exact Nat.lt_succ_self _
  cases ha : y.cps.all (· < 128)
  · refine wpAny_pyIter_wide ha ?_
    refine key "str_iterator" _ _ (fun A' hA => Walks.strWide hA _ y t) ⟨_, Heap.get?_push_size _ rfl, rfl, rfl⟩ ?_
    intro D C h' tk m' ys news' F' N' o1 hn hC₀ hD₀ hCL hDL hCD offC fin
    refine ⟨m', hn, fun h'' hs'' => fin D h'' tk (F'.change hs'' hCL hC₀) (fun p hp => ?_) o1⟩
    refine ⟨hs''.extBut _ _ ?_ (N' p hp).1, (N' p hp).2⟩
    rcases List.mem_cons.mp hp with rfl | hp
    · exact Ne.symm hCD
    · exact offC p hp
  · refine wpAny_pyIter_ascii ha ?_
    refine key "str_ascii_iterator" _ _ (fun A' hA => Walks.strAscii hA _ y t) ⟨_, Heap.get?_push_size _ rfl, rfl, rfl⟩ ?_
    intro D C h' tk m' ys news' F' N' o1 hn hC₀ hD₀ hCL hDL hCD offC fin
    refine ⟨m', hn, fun h'' hs'' => fin D h'' tk (F'.change hs'' hCL hC₀) (fun p hp => ?_) o1⟩
    refine ⟨hs''.extBut _ _ ?_ (N' p hp).1, (N' p hp).2⟩
    rcases List.mem_cons.mp hp with rfl | hp
    · exact Ne.symm hCD
    · exact offC p hp
end
end Mine
namespace Mine
open PyProof.Rows.LCg
section
variable {prog : Program} {w : World} {A : Around} {E : Value → Shared → Prop} {s : Shared} {h₀ : Heap} {L : Addr} {m : Str → Option Value} {env : Env}
theorem Assign_ListComp_S {elt iter : PySem.Expr} {x y : Str} {px py : Pos} {scope : Scope} {cl : List (Str × Addr)} {pos spos : Pos} {Q : Flow → Shared → Prop} (_F₀ : Fr h₀ L s.heap m) (hLe : env.locals = L)
    (hsw : swapsWith (.ListComp elt [⟨.Name x px, iter, [], 0⟩] scope pos) (some (.Name y py)) spos.line env = pure true)
    (hclos : closureFor scope env = pure cl) (hcell : ∀ z ∈ scope.names, z.2 ≠ .cell) (hkind : scope.kind = .function)
    (hnames : ∀ z ∈ scope.names, z.2 = .local → scope.names.lookup z.1 = some .local) (hx : scope.names.lookup x = some .local)
    (hy : env.kindOf y = some .local) (hp : (env.scope.kind == .class || (env.scope.kind == .module && env.locals != env.globals)) = false)
    (h : wpAny (model prog w) A (eval iter env) (fun xv s₁ => Mine.Ex3 fun y' t news => Mine.And6 (xv = .str y' t) (A.handled = none) (y'.cps.size ≤ sizeLine) (Fr h₀ L s₁.heap m) (News h₀ L s₁.heap news) (∀ s₂ : Shared, (∃ h, s₂ = { s₁ with heap := h }) → CompRest prog w A h₀ L m env elt x scope cl s₂ (fun _ => True) (SignAt y') (FinA h₀ L m s₂ y Q) y'.cps.size 0 [] news)) E s)
    (hs : ∀ x, foldedSetIterable iter env x = pure x := by intro _; rfl) :
    wpAny (model prog w) A (exec (.Assign [.Name y py] (.ListComp elt [⟨.Name x px, iter, [], 0⟩] scope pos) spos) env) Q E s := by
  subst hLe
  rw [exec_Assign_Name_used _ _ _ _ hsw]
  refine wpAny_bind (wpAny_standAt (wpAny_bind ?_))
  show wpAny _ A (do let _ ← comprehension (.ListComp elt [⟨.Name x px, iter, [], 0⟩] scope pos) scope env _ (newList []) false (eval iter env) (some (assign (.Name y py) env))) _ _ s
  refine wpAny_bind (wpAny_mono (wpAny_comprehension_free (use := some (assign (.Name y py) env)) (Q := fun _ s' => Q .next s') rfl hs hclos hkind hnames
    (wpAny_mono h (fun xv s₁ h₁ => ?_) fun _ _ e => e)) (fun _ s' hq => wpAny_pure (wpAny_pure hq)) fun _ _ e => e)
  obtain ⟨y', t, news, rfl, hh, hsz, F, N, R⟩ := h₁
  have key : ∀ (ty : String) (o : Obj) (RR : Value → Addr → Result → Shared → Prop), (∀ A' : Around, A'.handled = none → Walks prog w A' s₁.heap.objs.size [s₁.heap.objs.size] [s₁.heap.objs.size] y'.cps.size (SignAt y') (fun i h => h.IsStrIter s₁.heap.objs.size ty y' t i)) → (s₁.heap.push o).IsStrIter s₁.heap.objs.size ty y' t 0 →
      (∀ D C h tk m' ys news', Fr h₀ env.locals h m → News h₀ env.locals h ((D, lst ys) :: news') → Off1 D news' → h.Ns C m' → h₀.get? C = none → h₀.get? D = none → C ≠ env.locals → D ≠ env.locals → C ≠ D → (∀ p ∈ news', p.1 ≠ C) → FinA h₀ env.locals m { s₁ with heap := s₁.heap.push o } y Q ys news' → RR (.ref D) C (.ok .next) { s₁ with heap := h, toks := tk }) →
      wpAny (model prog w) A (newList []) (fun acc s₃ => wpAny (model prog w) A (newFunctionEnv scope env.globals cl [] env.qual none .none (some env)) (fun cenv s₄ =>
      codeAny (model prog w) A (.compStart (.ListComp elt [⟨.Name x px, iter, [], 0⟩] scope pos) 0 (.ref s₁.heap.objs.size) acc { cenv with scope := relabel scope env }) (RR acc cenv.locals) s₄) E s₃) E { s₁ with heap := s₁.heap.push o } := by
    intro ty o RR W hst hRR
    refine block_U (W A hh) hsz (fun i h st => by obtain ⟨o, e, _⟩ := st; exact ⟨o, e⟩) str_st hcell hkind hx hst (fun b hb => ?_)
      (F.push o) (N.grown fun _ _ e => Heap.get?_push_of_some _ e) (Nat.ne_of_lt F.ns.lt) (next_is_new F) (fun p hp => Nat.ne_of_lt (Heap.lt_size (N p hp).1)) trivial (R _ ⟨_, rfl⟩) hRR
    rw [List.mem_singleton.mp hb]
    show s₁.heap.objs.size < (s₁.heap.push _).objs.size
    rw [Heap.size_push]; exact Nat.lt_succ_self _
  have fin2 : ∀ {o : Obj} D C h' tk m' ys news', Fr h₀ env.locals h' m → News h₀ env.locals h' ((D, lst ys) :: news') → Off1 D news' → h'.Ns C m' → h₀.get? C = none → h₀.get? D = none → C ≠ env.locals → D ≠ env.locals → C ≠ D → (∀ p ∈ news', p.1 ≠ C) → FinA h₀ env.locals m { s₁ with heap := s₁.heap.push o } y Q ys news' →
      wpAny (model prog w) A (assign (.Name y py) env (.ref D)) (fun _ s' => ∃ m', s'.heap.Ns C m' ∧ ∀ h'', Heap.SameBut C s'.heap h'' → Q .next { s' with heap := h'' }) E { s₁ with heap := h', toks := tk } := by
    intro o D C h' tk m' ys news' F' N' o1 hn hC₀ hD₀ hCL hDL hCD offC fin
    refine wpAny_assign_Name (wpAny_storeName_local hy F'.ns (fun h₂ hn₂ hs₂ => ?_) hp)
    have hL₀ : h₀.get? env.locals = none := Heap.get?_none_of_le F'.above
    have F₂ : Fr h₀ env.locals h₂ (fun z => if z = y then some (.ref D) else m z) := ⟨hn₂, fun b o e => hs₂.extBut b o (fun q => by rw [q, hL₀] at e; cases e) (F'.keep b o e), F'.above⟩
    refine ⟨m', hn.sameBut hs₂ hCL, fun h'' hs'' => fin D h'' _ (F₂.change hs'' hCL hC₀) (fun p hp => ?_) o1⟩
    have z : h₂.get? p.1 = some p.2 := hs₂.extBut _ _ (N' p hp).2.1 (N' p hp).1
    refine ⟨hs''.extBut _ _ ?_ z, (N' p hp).2⟩
    rcases List.mem_cons.mp hp with rfl | hp
    · exact Ne.symm hCD
    · exact offC p hp
  cases ha : y'.cps.all (· < 128)
  · refine wpAny_pyIter_wide ha ?_
    refine key "str_iterator" _ _ (fun A' hA => Walks.strWide hA _ y' t) ⟨_, Heap.get?_push_size _ rfl, rfl, rfl⟩ ?_
    exact fin2
  · refine wpAny_pyIter_ascii ha ?_
    refine key "str_ascii_iterator" _ _ (fun A' hA => Walks.strAscii hA _ y' t) ⟨_, Heap.get?_push_size _ rfl, rfl, rfl⟩ ?_
    exact fin2
end
end Mine
namespace Mine
open PySem.Builtin.Str
theorem slice_neg {x : Str} {i : Int} (h : 2 ≤ x.length) : Txt.slice x (some i) (some (-2)) = Txt.slice x (some i) (some ((x.length : Int) - 2)) := by
  unfold Txt.slice
  have e : strSliceIndices (some i) (some (-2)) 1 x.length = strSliceIndices (some i) (some ((x.length : Int) - 2)) 1 x.length := by
    unfold strSliceIndices
    have h1 : ¬ ((x.length : Int) - 2 < 0) := by omega
    simp only [if_neg h1]
    have h2 : ((-2 : Int) < 0) := by decide
    simp only [if_pos h2]
    have : (-2 : Int) + x.length = (x.length : Int) - 2 := by omega
    rw [this]
  simp only [e]
theorem empty_app (x : Str) : Str.empty ++ x = x := by
  cases x with | mk c => show (⟨#[] ++ c⟩ : Str) = ⟨c⟩; simp
theorem app_cps (x y : Str) : (x ++ y).cps = x.cps ++ y.cps := rfl
theorem word_slice {nm e : Str} (hn : nm.length = 1) : Txt.slice (Str.empty ++ Str.ofString "=?" ++ nm ++ Str.ofString "?q?" ++ e ++ Str.ofString "?=") (some 6) (some (-2)) = e := by
  have h0 : (Str.ofString "=?") = ⟨#[61, 63]⟩ := by decide +kernel
  have h1 : (Str.ofString "?q?") = ⟨#[63, 113, 63]⟩ := by decide +kernel
  have h2 : (Str.ofString "?=") = ⟨#[63, 61]⟩ := by decide +kernel
  have hW : (Str.empty ++ Str.ofString "=?" ++ nm ++ Str.ofString "?q?" ++ e ++ Str.ofString "?=") = ⟨([61, 63, nm.cps.getD 0 0, 63, 113, 63] ++ e.cps.toList ++ [63, 61]).toArray⟩ := by
    rw [h0, h1, h2, empty_app]
    have hc : nm = ⟨#[nm.cps.getD 0 0]⟩ := one_sign hn
    generalize nm.cps.getD 0 0 = c at hc
    subst hc
    cases e with | mk a =>
    show (⟨_⟩ : Str) = ⟨_⟩
    congr 1
    apply Array.toList_inj.mp
    simp [app_cps]
  rw [hW]
  generalize hw : (⟨([61, 63, nm.cps.getD 0 0, 63, 113, 63] ++ e.cps.toList ++ [63, 61]).toArray⟩ : Str) = W
  have hl : W.length = e.cps.toList.length + 8 := by rw [← hw]; show (Array.size _) = _; simp
  rw [slice_neg (by omega)]
  have := eq_of_beq (slice_closesL (x := W) (i := 6) (j := (W.length : Int) - 2) (by decide) (by omega) (by omega))
  rw [this, hl]
  have e1 : ((((e.cps.toList.length + 8 : Nat) : Int) - 2 - 6).toNat) = e.cps.toList.length := by omega
  rw [e1, ← hw]
  have e2 : ((([61, 63, nm.cps.getD 0 0, 63, 113, 63] ++ e.cps.toList ++ [63, 61]).toArray.toList.drop (6 : Int).toNat).take e.cps.toList.length) = e.cps.toList := by
    rw [List.toList_toArray, show (6 : Int).toNat = 6 from rfl]
    simp
  cases e with | mk a =>
  exact congrArg (fun l : List Nat => (⟨l.toArray⟩ : Str)) e2
theorem app_len (x y : Str) : (x ++ y).length = x.length + y.length := by
  show (x.cps ++ y.cps).size = _
  rw [Array.size_append]; rfl
theorem word_len {nm e : Str} (hn : nm.length = 1) (he : e.length ≤ 39) : (Str.empty ++ Str.ofString "=?" ++ nm ++ Str.ofString "?q?" ++ e ++ Str.ofString "?=").length ≤ 100 := by
  have e1 : (Str.ofString "=?").length = 2 := by decide +kernel
  have e2 : (Str.ofString "?q?").length = 3 := by decide +kernel
  have e3 : (Str.ofString "?=").length = 2 := by decide +kernel
  simp only [app_len, empty_app, e1, e2, e3, hn]
  omega
theorem ne_str_no {prog : Program} {w : World} {A : Around} {E : Value → Shared → Prop} {s : Shared} {x y : Str} {t u : Tok} {Q : Value → Shared → Prop} (e : x = y) (h : Q (.bool false) s) : wpAny (model prog w) A (compareOp .NotEq (.str x t) (.str y u)) Q E s :=
  PyProof.Rows.ne_str (by rw [e, bne_self_eq_false]; exact h)
end Mine
namespace Mine
section
variable {width num : Int} (h5 : 3 ≤ width) (h6 : width ≤ 6)
include h5 h6
theorem wid4 : width = 3 ∨ width = 4 ∨ width = 5 ∨ width = 6 := by lia
theorem dig0 (hn : num = (2 : Int) ^ (width * 0).toNat) : num = 1 ∧ DigN (Int.fdiv (((Builtin.Int.intBits num : Nat) : Int) + width - 1) width) 1 := by
  subst hn
  rcases wid4 h5 h6 with rfl | rfl | rfl | rfl <;> exact ⟨by decide +kernel, ⟨by decide +kernel⟩⟩
theorem dig1 (hn : num = (2 : Int) ^ (width * 1).toNat) : num ≠ 0 ∧ DigN (Int.fdiv (((Builtin.Int.intBits num : Nat) : Int) + width - 1) width) 2 ∧
    ShR num ((Int.fdiv (0 + 2) (2 ^ Int.toNat 1) - 0) * width) 1 ∧ ShL 1 ((Int.fdiv (0 + 2) (2 ^ Int.toNat 1) - 0) * width) num ∧ Xr num num 0 := by
  subst hn
  rcases wid4 h5 h6 with rfl | rfl | rfl | rfl <;> exact ⟨by decide +kernel, ⟨by decide +kernel⟩, ⟨by decide +kernel, by decide +kernel⟩, ⟨by decide +kernel, by decide +kernel, by decide +kernel, by decide +kernel⟩, ⟨by decide +kernel⟩⟩
theorem dig2 (hn : num = (2 : Int) ^ (width * 2).toNat) : num ≠ 0 ∧ DigN (Int.fdiv (((Builtin.Int.intBits num : Nat) : Int) + width - 1) width) 3 ∧
    ShR num ((Int.fdiv (0 + 3) (2 ^ Int.toNat 1) - 0) * width) (2 ^ width.toNat) ∧ ShL (2 ^ width.toNat) ((Int.fdiv (0 + 3) (2 ^ Int.toNat 1) - 0) * width) num ∧ Xr num num 0 ∧
    ShR (2 ^ width.toNat) ((Int.fdiv (Int.fdiv (0 + 3) (2 ^ Int.toNat 1) + 3) (2 ^ Int.toNat 1) - Int.fdiv (0 + 3) (2 ^ Int.toNat 1)) * width) 1 ∧ ShL 1 ((Int.fdiv (Int.fdiv (0 + 3) (2 ^ Int.toNat 1) + 3) (2 ^ Int.toNat 1) - Int.fdiv (0 + 3) (2 ^ Int.toNat 1)) * width) (2 ^ width.toNat) ∧ Xr (2 ^ width.toNat) (2 ^ width.toNat) 0 := by
  subst hn
  rcases wid4 h5 h6 with rfl | rfl | rfl | rfl <;> exact ⟨by decide +kernel, ⟨by decide +kernel⟩, ⟨by decide +kernel, by decide +kernel⟩, ⟨by decide +kernel, by decide +kernel, by decide +kernel, by decide +kernel⟩, ⟨by decide +kernel⟩, ⟨by decide +kernel, by decide +kernel⟩, ⟨by decide +kernel, by decide +kernel, by decide +kernel, by decide +kernel⟩, ⟨by decide +kernel⟩⟩
end
end Mine
namespace Mine
/-- a sign of one number under another -/
def at5 (os : List Int) (k : Int) : Int := os.getD k.toNat 0
def seenL (os ls : List Int) (liar k : Int) : List Int := [0, 1, 2, 3, 4].map fun o : Int => if o = liar then at5 ls k else at5 os o
def ct (s : List Int) (o : Int) : Int := (s.map fun x => if x = o then 1 else 0).sum
def most (s : List Int) (way : Int) : Int :=
  if way = 1 then (if ct s 1 ≤ ct s 0 ∧ ct s 2 ≤ ct s 0 then 0 else if ct s 2 ≤ ct s 1 then 1 else 2)
  else (if ct s 0 ≤ ct s 2 ∧ ct s 1 ≤ ct s 2 then 2 else if ct s 0 ≤ ct s 1 then 1 else 0)
def stepK (os ls : List Int) (liar king way k : Int) : Int :=
  if 4 ≤ ct (seenL os ls liar k) (most (seenL os ls liar k) way) then most (seenL os ls liar k) way
  else if king = liar then at5 ls (5 + k) else most (seenL os ls liar king) way
def B3 (os : List Int) : Prop := ∀ k : Int, 0 ≤ at5 os k ∧ at5 os k ≤ 2
/-- what the loyal ones hold -/
def loy (os : List Int) (liar o : Int) : Int := ([0, 1, 2, 3, 4].map fun j : Int => if j = liar then 0 else if at5 os j = o then 1 else 0).sum
theorem ite01 (c : Prop) [Decidable c] : (if c then (1 : Int) else 0) = 0 ∨ (if c then (1 : Int) else 0) = 1 := by by_cases h : c <;> simp [h]
theorem ct_seen {os ls : List Int} {liar k o : Int} : ct (seenL os ls liar k) o = loy os liar o + (if 0 ≤ liar ∧ liar ≤ 4 then (if at5 ls k = o then 1 else 0) else 0) := by
  unfold ct seenL loy
  simp only [List.map_cons, List.map_nil, List.sum_cons, List.sum_nil]
  by_cases h0 : (0 : Int) = liar
  · subst h0; simp; lia
  by_cases h1 : (1 : Int) = liar
  · subst h1; simp; lia
  by_cases h2 : (2 : Int) = liar
  · subst h2; simp; lia
  by_cases h3 : (3 : Int) = liar
  · subst h3; simp; lia
  by_cases h4 : (4 : Int) = liar
  · subst h4; simp; lia
  have : ¬ (0 ≤ liar ∧ liar ≤ 4) := by lia
  simp only [if_neg h0, if_neg h1, if_neg h2, if_neg h3, if_neg h4, if_neg this]
  lia
theorem one3 {x : Int} (h : 0 ≤ x ∧ x ≤ 2) : (if x = 0 then (1 : Int) else 0) + (if x = 1 then 1 else 0) + (if x = 2 then 1 else 0) = 1 := by
  by_cases h0 : x = 0
  · subst h0; decide
  by_cases h1 : x = 1
  · subst h1; decide
  have h2 : x = 2 := by lia
  subst h2; decide
/-- the counts, as numbers: what k sees -/
theorem most_cases (s : List Int) (way : Int) : (most s way = 0 ∧ ct s 1 ≤ ct s 0 ∧ ct s 2 ≤ ct s 0) ∨ (most s way = 1 ∧ ct s 0 ≤ ct s 1 ∧ ct s 2 ≤ ct s 1) ∨ (most s way = 2 ∧ ct s 0 ≤ ct s 2 ∧ ct s 1 ≤ ct s 2) := by
  unfold most
  generalize ct s 0 = a
  generalize ct s 1 = b
  generalize ct s 2 = c
  split <;> split <;> (try split) <;> lia
theorem ct_nn (s : List Int) (o : Int) : 0 ≤ ct s o := by
  unfold ct
  induction s with
  | nil => exact Int.le_refl 0
  | cons x r ih => rw [List.map_cons, List.sum_cons]; exact Int.add_nonneg (by split <;> decide) ih
theorem ct_sum3 {s : List Int} (h : ∀ x ∈ s, 0 ≤ x ∧ x ≤ 2) : ct s 0 + ct s 1 + ct s 2 = (s.length : Int) := by
  unfold ct
  induction s with
  | nil => rfl
  | cons x r ih =>
    have e := one3 (h x (.head _))
    have ih := ih fun y hy => h y (.tail _ hy)
    simp only [List.map_cons, List.sum_cons, List.length_cons]
    lia
theorem seen5 {os ls : List Int} {liar k : Int} (ho : B3 os) (hl : B3 ls) : ct (seenL os ls liar k) 0 + ct (seenL os ls liar k) 1 + ct (seenL os ls liar k) 2 = 5 := by
  refine ct_sum3 (s := seenL os ls liar k) fun x hx => ?_
  obtain ⟨o, _, rfl⟩ := List.mem_map.mp hx
  by_cases e : o = liar
  · rw [if_pos e]; exact hl k
  · rw [if_neg e]; exact ho o
theorem seen_loy {os ls : List Int} {liar k o : Int} : loy os liar o ≤ ct (seenL os ls liar k) o ∧ ct (seenL os ls liar k) o ≤ loy os liar o + 1 := by
  rw [ct_seen]
  split
  · split <;> lia
  · lia
theorem most_of {s : List Int} {way j : Int} (hj : 0 ≤ j ∧ j ≤ 2) (h : 3 ≤ ct s j) (h5 : ct s 0 + ct s 1 + ct s 2 = 5) : most s way = j := by
  have n0 := ct_nn s 0
  have n1 := ct_nn s 1
  have n2 := ct_nn s 2
  have h3 : j = 0 ∨ j = 1 ∨ j = 2 := by lia
  have m := most_cases s way
  rcases h3 with rfl | rfl | rfl <;> rcases m with ⟨e, c, d⟩ | ⟨e, c, d⟩ | ⟨e, c, d⟩ <;> first | exact e | (exfalso; lia)
theorem most_b (s : List Int) (way : Int) : 0 ≤ most s way ∧ most s way ≤ 2 := by
  rcases most_cases s way with ⟨e, _⟩ | ⟨e, _⟩ | ⟨e, _⟩ <;> rw [e] <;> decide
theorem step_king {os ls : List Int} {liar king way k : Int} (ho : B3 os) (hl : B3 ls) (hk : king ≠ liar) : stepK os ls liar king way k = most (seenL os ls liar king) way := by
  unfold stepK
  rw [if_neg hk]
  by_cases h4 : 4 ≤ ct (seenL os ls liar k) (most (seenL os ls liar k) way)
  · rw [if_pos h4]
    have a := (seen_loy (os := os) (ls := ls) (liar := liar) (k := k) (o := most (seenL os ls liar k) way)).2
    have b := (seen_loy (os := os) (ls := ls) (liar := liar) (k := king) (o := most (seenL os ls liar k) way)).1
    exact (most_of (most_b _ _) (by lia) (seen5 ho hl)).symm
  · rw [if_neg h4]
theorem loy_all {os : List Int} {liar v : Int} (h : ∀ j : Int, 0 ≤ j → j ≤ 4 → j ≠ liar → at5 os j = v) : loy os liar v = if 0 ≤ liar ∧ liar ≤ 4 then 4 else 5 := by
  unfold loy
  simp only [List.map_cons, List.map_nil, List.sum_cons, List.sum_nil]
  by_cases h0 : (0 : Int) = liar
  · subst h0; simp [h 1, h 2, h 3, h 4]
  by_cases h1 : (1 : Int) = liar
  · subst h1; simp [h 0, h 2, h 3, h 4]
  by_cases h2 : (2 : Int) = liar
  · subst h2; simp [h 0, h 1, h 3, h 4]
  by_cases h3 : (3 : Int) = liar
  · subst h3; simp [h 0, h 1, h 2, h 4]
  by_cases h4 : (4 : Int) = liar
  · subst h4; simp [h 0, h 1, h 2, h 3]
  have : ¬ (0 ≤ liar ∧ liar ≤ 4) := by lia
  simp only [if_neg h0, if_neg h1, if_neg h2, if_neg h3, if_neg h4, if_neg this, h 0 (by decide) (by decide) h0, h 1 (by decide) (by decide) h1, h 2 (by decide) (by decide) h2, h 3 (by decide) (by decide) h3, h 4 (by decide) (by decide) h4, if_true]
  decide
theorem step_agree {os ls : List Int} {liar king way k v : Int} (ho : B3 os) (hl : B3 ls) (hv : 0 ≤ v ∧ v ≤ 2) (h : ∀ j : Int, 0 ≤ j → j ≤ 4 → j ≠ liar → at5 os j = v) : stepK os ls liar king way k = v := by
  have hA := loy_all h
  have a := (seen_loy (os := os) (ls := ls) (liar := liar) (k := k) (o := v)).1
  have h4 : 4 ≤ ct (seenL os ls liar k) v := by
    refine Int.le_trans ?_ a
    rw [hA]
    split <;> decide
  have key : most (seenL os ls liar k) way = v := most_of hv (Int.le_trans (by decide) h4) (seen5 ho hl)
  unfold stepK
  rw [key, if_pos h4]
theorem seen_congr {os os' ls : List Int} {liar k : Int} (h : ∀ j : Int, 0 ≤ j → j ≤ 4 → j ≠ liar → at5 os j = at5 os' j) : seenL os ls liar k = seenL os' ls liar k := by
  unfold seenL
  refine List.map_congr_left fun o ho => ?_
  by_cases e : o = liar
  · rw [if_pos e, if_pos e]
  · rw [if_neg e, if_neg e]
    simp at ho
    exact h o (by lia) (by lia) e
/-- two rounds: os1 behind the first, os2 behind the second -/
theorem two_rounds {os os1 os2 ls0 ls1 after : List Int} {liar k0 k1 way : Int} (ho : B3 os) (hl0 : B3 ls0) (hl1 : B3 ls1) (ho1 : B3 os1) (hk : k0 ≠ k1)
    (h1 : ∀ j : Int, 0 ≤ j → j ≤ 4 → j ≠ liar → at5 os1 j = stepK os ls0 liar k0 way j) (h2 : ∀ j : Int, 0 ≤ j → j ≤ 4 → j ≠ liar → at5 os2 j = stepK os1 ls1 liar k1 way j)
    (ha : ∀ j : Int, 0 ≤ j → j ≤ 4 → at5 after j = if 4 ≤ ct (seenL os ls0 liar j) (most (seenL os ls0 liar j) way) then most (seenL os ls0 liar j) way else at5 ls0 (5 + j)) :
    ∀ j : Int, 0 ≤ j → j ≤ 4 → j ≠ liar → at5 os2 j = if k0 ≠ liar then most (seenL os ls0 liar k0) way else most (seenL after ls1 liar k1) way := by
  intro j hj0 hj4 hj
  by_cases hk0 : k0 = liar
  · rw [if_neg (by simpa using hk0), h2 j hj0 hj4 hj, step_king ho1 hl1 (by lia)]
    rw [seen_congr (os' := after)]
    intro i hi0 hi4 hi
    rw [h1 i hi0 hi4 hi, ha i hi0 hi4]
    unfold stepK
    rw [if_pos hk0]
  · rw [if_pos hk0, h2 j hj0 hj4 hj]
    refine step_agree ho1 hl1 (most_b _ _) ?_
    intro i hi0 hi4 hi
    rw [h1 i hi0 hi4 hi]
    exact step_king ho hl0 hk0
end Mine
namespace Mine
/-- a dict of ints under ints -/
def KD (prog : Program) (w : World) (o : Obj) (c : List (Int × Int)) : Prop := ∃ kvs, o.IsDictOf (PySem.intKind prog w) kvs ∧ PyProof.V.FlatPairs PyData.int kvs (kdfD c)
abbrev tupO (vs : List Value) : Obj := { cls := .type "tuple", data := .seq vs.toArray }
end Mine
namespace Mine
section
variable {prog : Program} {w : World} {A : Around} {E : Value → Shared → Prop} {s : Shared} {env : Env} {h₀ : Heap} {target : PySem.Expr} {body : List Stmt} {Q : Flow → Shared → Prop}
abbrev itO (I : Addr) : List (Addr × String) := [(I, "dict_itemiterator")]
/-- a loop over the items of a dict of ints, by an invariant of what is taken -/
theorem items_inv {I d : Addr} {od : Obj} (J : List (Int × Int) → (Str → Option Value) → List (Addr × Obj) → Prop) (c : List (Int × Int))
    (step : ∀ pre k v post, c = pre ++ (k, v) :: post → ∀ m news, J pre m news → ∀ T t t2 h tk oI, IsTup h T #[.int k t, .int v t2] → Fr h₀ env.locals h m → News h₀ env.locals h ((I, oI) :: news) →
      wpAny (model prog w) A (assign target env (.ref T)) (fun _ s₂ => wpAny (model prog w) A (execs body env) (fun f s₃ => match f with
        | .ret v => Q (.ret v) s₃
        | .brk => Q .next s₃
        | _ => Mine.Ex4 fun h' tk' m' news' => Mine.And6 (s₃ = { s with heap := h', toks := tk' }) (Fr h₀ env.locals h' m') (News h₀ env.locals h' ((I, oI) :: news')) ((∀ p ∈ news', p.1 ≠ I)) ((d, od) ∈ news') (J (pre ++ [(k, v)]) m' news')) E s₂) E { s with heap := h, toks := tk })
    (fin : ∀ m news h tk, J c m news → Fr h₀ env.locals h m → News h₀ env.locals h news → Q .next { s with heap := h, toks := tk }) :
    ∀ (post pre : List (Int × Int)) (m : Str → Option Value) (news : List (Addr × Obj)), c = pre ++ post → J pre m news → ItemsRest prog w A E h₀ env target body Q s (itO I) [(d, od)] (post.map fun p => Itm.pairF (fun t => .int p.1 t) (.int p.2)) m news
  | [], pre, m, news, e, j => by
    rw [List.append_nil] at e
    subst e
    exact fun h tk F N => fin m news h tk j F N
  | (k, v) :: post, pre, m, news, e, j => by
    rintro u h tk ⟨T, t, x, rfl, hx, hT⟩ F oI _ N
    obtain ⟨t2, rfl⟩ := PyProof.V.Flat.int_inv hx
    refine wpAny_mono (step pre k v post e m news j T t t2 h tk oI hT F N) (fun _ s₂ h₂ => wpAny_mono h₂ (fun f s₃ h₃ => ?_) fun _ _ e => e) fun _ _ e => e
    have key : (Mine.Ex4 fun h' tk' m' news' => Mine.And6 (s₃ = { s with heap := h', toks := tk' }) (Fr h₀ env.locals h' m') (News h₀ env.locals h' ((I, oI) :: news')) ((∀ p ∈ news', p.1 ≠ I)) ((d, od) ∈ news') (J (pre ++ [(k, v)]) m' news')) →
        UnrEndW h₀ env.locals { s with heap := h, toks := tk } [(I, oI)] (fun m' n' => SubL [(d, od)] n' ∧ ItemsRest prog w A E h₀ env target body Q s (itO I) [(d, od)] (post.map fun p => Itm.pairF (fun t => .int p.1 t) (.int p.2)) m' n') s₃ := by
      rintro ⟨h', tk', m', news', e', F', N', off, hd, j'⟩
      exact ⟨h', tk', m', news', e', F', N', fun p hp q hq => by rw [List.mem_singleton.mp hq]; exact off p hp, ⟨hd, trivial⟩, items_inv J c step fin post (pre ++ [(k, v)]) m' news' (by rw [e]; simp) j'⟩
    cases f with
    | ret v => exact h₃
    | brk => exact h₃
    | next => exact key h₃
    | cont => exact key h₃
theorem flat_of {c : List (Int × Int)} : (kdfD c).map (fun p => Itm.pairF (kyVal p.1) p.2) = c.map fun p => Itm.pairF (fun t => .int p.1 t) (.int p.2) := by
  unfold kdfD
  rw [List.map_map]
  rfl
theorem tab_of {L d : Addr} {o : Obj} {c : List (Int × Int)} {news : List (Addr × Obj)} {h : Heap} (K : KD prog w o c) (N : News h₀ L h news) (hm : (d, o) ∈ news) (lo : (d == sysModules) = false) : TabAt (PySem.intKind prog w) PyData.int h d (kdfD c) :=
  let ⟨_, hd, hf⟩ := K
  TabAt.ofNews N hm lo hd hf
end
end Mine
namespace Mine
section
variable {prog : Program} {w : World} {A : Around} {E : Value → Shared → Prop} {s : Shared} {env : Env} {h₀ : Heap} {target : PySem.Expr} {body : List Stmt} {Q : Flow → Shared → Prop}
abbrev two (m : Str → Option Value) (x y : Str) (u1 u2 : Option Value) : Str → Option Value := fun z => if z = y then u1 else if z = x then u2 else m z
def TurnEnd (prog : Program) (w : World) (s : Shared) (h₀ : Heap) (L : Addr) (m : Str → Option Value) (x y : Str) (I : Addr) (oI : Obj) (r : Addr) (led : List (Addr × Obj)) (c : List (Int × Int)) (s₃ : Shared) : Prop :=
  Mine.Ex5 fun h' tk' o' u1 u2 => Mine.And4 (s₃ = { s with heap := h', toks := tk' }) (KD prog w o' c) (Fr h₀ L h' (two m x y u1 u2)) (News h₀ L h' ((I, oI) :: (r, o') :: led))
/-- a loop over the items of a dict that turns one other dict alone -/
theorem items_fold {I d r : Addr} {od o₀ : Obj} {led : List (Addr × Obj)} {m : Str → Option Value} {c a₀ : List (Int × Int)} (x y : Str) (f : List (Int × Int) → Int × Int → List (Int × Int)) (hd : (d, od) ∈ led) (hI : ∀ p ∈ (r, o₀) :: led, p.1 < I) (hxy : y ≠ x) (K₀ : KD prog w o₀ a₀)
    (step : ∀ pre k v post acc acc', c = pre ++ (k, v) :: post → acc = pre.foldl f a₀ → acc' = f acc (k, v) → ∀ o kvs u1 u2 T t t2 h tk oI, o.IsDictOf (PySem.intKind prog w) kvs → PyProof.V.FlatPairs PyData.int kvs (kdfD acc) → IsTup h T #[.int k t, .int v t2] → Fr h₀ env.locals h (two m x y u1 u2) → News h₀ env.locals h ((I, oI) :: (r, o) :: led) →
      wpAny (model prog w) A (assign target env (.ref T)) (fun _ s₂ => wpAny (model prog w) A (execs body env) (fun g s₃ => Hold (g = .next ∧ TurnEnd prog w s h₀ env.locals m x y I oI r led acc' s₃)) E s₂) E { s with heap := h, toks := tk })
    (fin : ∀ o h tk u1 u2, KD prog w o (c.foldl f a₀) → Fr h₀ env.locals h (two m x y u1 u2) → News h₀ env.locals h ((r, o) :: led) → Q .next { s with heap := h, toks := tk }) :
    ItemsRest prog w A E h₀ env target body Q s (itO I) [(d, od)] (c.map fun p => Itm.pairF (fun t => .int p.1 t) (.int p.2)) m ((r, o₀) :: led) := by
  refine items_inv (fun pre m' news => Mine.Ex3 fun o u1 u2 => Mine.And3 (KD prog w o (pre.foldl f a₀)) (m' = two m x y u1 u2) (news = (r, o) :: led)) c ?_ ?_ c [] m _ rfl ⟨o₀, m y, m x, K₀, ?_, rfl⟩
  · rintro pre k v post e m' news ⟨o, u1, u2, ⟨kvs, h1, h2⟩, rfl, rfl⟩ T t t2 h tk oI hT F N
    refine wpAny_mono (step pre k v post _ _ e rfl rfl o kvs u1 u2 T t t2 h tk oI h1 h2 hT F N) (fun _ s₂ h₂ => wpAny_mono h₂ (fun g s₃ h₃ => ?_) fun _ _ e => e) fun _ _ e => e
    obtain ⟨rfl, h', tk', o', u1', u2', rfl, K', F', N'⟩ := h₃
    refine ⟨h', tk', _, _, rfl, F', N', ?_, .tail _ hd, o', u1', u2', ?_, rfl, rfl⟩
    · intro p hp
      rcases List.mem_cons.mp hp with rfl | hp
      · exact Nat.ne_of_lt (hI (r, o₀) (.head _))
      · exact Nat.ne_of_lt (hI p (.tail _ hp))
    · rw [List.foldl_append]; exact K'
  · rintro m' news h tk ⟨o, u1, u2, K', rfl, rfl⟩ F N
    exact fin o h tk u1 u2 K' F N
  · funext z
    by_cases h1 : z = y
    · subst h1; simp [two]
    · by_cases h2 : z = x
      · subst h2; simp [two, h1]
      · simp [two, h1, h2]
theorem turn_end {L I r : Addr} {oI o' : Obj} {led : List (Addr × Obj)} {m m' : Str → Option Value} {x y : Str} {c : List (Int × Int)} {h' : Heap} {tk : Nat} (K : KD prog w o' c) (F : Fr h₀ L h' m') (N : News h₀ L h' ((I, oI) :: (r, o') :: led)) (hm : ∀ z, z ≠ x → z ≠ y → m' z = m z) (hxy : y ≠ x) :
    Hold (Flow.next = Flow.next ∧ TurnEnd prog w s h₀ L m x y I oI r led c { s with heap := h', toks := tk }) :=
  ⟨rfl, h', tk, o', m' y, m' x, rfl, K, fr_over F fun z => by
    by_cases h1 : z = y
    · subst h1; simp [two]
    · by_cases h2 : z = x
      · subst h2; simp [two, h1]
      · simp [two, h1, h2, hm z h2 h1], N⟩
end
end Mine
namespace Mine
open PyProof.Rows.LCg
/-- a block's turn at its end, where calls may also have drawn -/
def EndD (h₀ : Heap) (L : Addr) (m : Str → Option Value) (s₁ : Shared) (I : Addr) (oI : Obj) (C : Addr) (oC : Obj) (D : Addr) (oD : Obj) (R : Value → List (Addr × Obj) → Prop) (y : Value) (s₂ : Shared) : Prop :=
  Mine.Ex4 fun h' dr tk nw => Mine.And5 (s₂ = { s₁ with heap := h', drawn := dr, toks := tk }) (Fr h₀ L h' m) (News h₀ L h' ((I, oI) :: (C, oC) :: (D, oD) :: nw)) (Off3 I C D nw) (R y nw)
section
variable {prog : Program} {w : World} {A : Around} {E : Value → Shared → Prop} {s : Shared} {h₀ : Heap} {L : Addr} {m : Str → Option Value} {env : Env}
theorem end_d {I C D : Addr} {oI oC oD : Obj} {R : Value → List (Addr × Obj) → Prop} {s₁ : Shared} {y : Value} {h' : Heap} {dr : Drawn} {tk : Nat} {nw : List (Addr × Obj)} (F : Fr h₀ L h' m) (N : News h₀ L h' ((I, oI) :: (C, oC) :: (D, oD) :: nw)) (off : Off3 I C D nw) (r : R y nw) :
    EndD h₀ L m s₁ I oI C oC D oD R y { s₁ with heap := h', drawn := dr, toks := tk } := ⟨h', dr, tk, nw, rfl, F, N, off, r⟩
abbrev testsOf (prog : Program) (w : World) (A : Around) (ifs : List PySem.Expr) (env : Env) (Q : Bool → Shared → Prop) (E : Value → Shared → Prop) (s : Shared) : Prop :=
  wpAny (model prog w) A (forIn ifs true fun c r => if r = true then do let ok ← isTrue c env (eval c env); pure (ForInStep.yield ok) else pure (ForInStep.yield r)) Q E s
/-- what one turn of a block is to show -/
def TurnD (prog : Program) (w : World) (A : Around) (h₀ : Heap) (L : Addr) (m : Str → Option Value) (env : Env) (ifs : List PySem.Expr) (elt : PySem.Expr) (x : Str) (scope : Scope) (cl : List (Str × Addr)) (s : Shared) (n : Nat) (P : Nat → Value → Prop) (J : Nat → List Value → List (Addr × Obj) → Prop) : Prop :=
  ∀ i ys nw, i < n → J i ys nw → ∀ v I oI C oC D m₂ h dr tk (E' : Value → Shared → Prop), P i v → NsObj oC m₂ → m₂ x = some v → Fr h₀ L h m → News h₀ L h ((I, oI) :: (C, oC) :: (D, lst ys) :: nw) → Off3 I C D nw → ((@Ne Nat I C) ∧ (@Ne Nat I D) ∧ (@Ne Nat C D)) →
    testsOf prog w A ifs (compEnvC scope cl C env) (fun ok s' => if ok = true then
      wpAny (model prog w) A (eval elt (compEnvC scope cl C env)) (EndD h₀ L m { s with heap := h, drawn := dr, toks := tk } I oI C oC D (lst ys) (fun y nw' => J (i + 1) (ys ++ [y]) nw')) E' s'
      else EndD h₀ L m { s with heap := h, drawn := dr, toks := tk } I oI C oC D (lst ys) (fun _ nw' => J (i + 1) ys nw') Value.none s') E' { s with heap := h, drawn := dr, toks := tk }
theorem block_d {elt iter : PySem.Expr} {ifs : List PySem.Expr} {x : Str} {px : Pos} {scope : Scope} {cl : List (Str × Addr)} {pos : Pos} {s₂ : Shared} {I : Addr} {fp : List Addr} {n : Nat} {P : Nat → Value → Prop} {St : Nat → Heap → Prop} {news : List (Addr × Obj)}
    {J : Nat → List Value → List (Addr × Obj) → Prop} {RR : Value → Addr → Result → Shared → Prop}
    (W : Walks prog w A I fp [I] n P St) (hsz : n ≤ sizeLine) (hIo : ∀ i h, St i h → ∃ o, h.get? I = some o)
    (hSt : ∀ i h h' o nw ys, St i h → h.get? I = some o → h'.get? I = some o → (∀ b o, h₀.get? b = some o → h'.get? b = some o) → News h₀ L h' nw → J i ys nw → St i h')
    (hcell : ∀ y ∈ scope.names, y.2 ≠ .cell) (hkind : scope.kind = .function) (hx : scope.names.lookup x = some .local) (hst : St 0 s₂.heap) (hfp : ∀ b ∈ fp, b < s₂.heap.objs.size)
    (F : Fr h₀ L s₂.heap m) (N : News h₀ L s₂.heap news) (hIL : L ≠ I) (hI₀ : h₀.get? I = none) (off : ∀ p ∈ news, p.1 ≠ I) (hJ : J 0 [] news)
    (R : TurnD prog w A h₀ L m env ifs elt x scope cl s₂ n P J)
    (hRR : ∀ D C h dr tk m' ys nw, Fr h₀ L h m → News h₀ L h ((D, lst ys) :: nw) → Off1 D nw → h.Ns C m' → h₀.get? C = none → h₀.get? D = none → C ≠ L → D ≠ L → C ≠ D → (∀ p ∈ nw, p.1 ≠ C) → J n ys nw → RR (.ref D) C (.ok .next) { s₂ with heap := h, drawn := dr, toks := tk }) :
    wpAny (model prog w) A (newList []) (fun acc s₃ => wpAny (model prog w) A (newFunctionEnv scope env.globals cl [] env.qual none .none (some env)) (fun cenv s₄ =>
      codeAny (model prog w) A (.compStart (.ListComp elt [⟨.Name x px, iter, ifs, 0⟩] scope pos) 0 (.ref I) acc { cenv with scope := relabel scope env }) (RR acc cenv.locals) s₄) E s₃) E s₂ := by
  refine wpAny_newObj_type (wpAny_newFunctionEnv hcell (by intro y hy; simp at hy) (fun h₁ hns₁ hsb₁ => ?_) hkind)
  dsimp only at hns₁ hsb₁ ⊢
  generalize hH2 : s₂.heap.push { cls := .type "list", dict := none, data := .seq ([] : List Value).toArray } = H2 at hns₁ hsb₁ ⊢
  have hC : H2.objs.size = s₂.heap.objs.size + 1 := by rw [← hH2, Heap.size_push]
  have hDC : s₂.heap.objs.size ≠ H2.objs.size := by rw [hC]; exact Nat.ne_of_lt (Nat.lt_succ_self _)
  have below : ∀ b, b < s₂.heap.objs.size → b ≠ H2.objs.size ∧ b ≠ s₂.heap.objs.size := fun b hb => ⟨by rw [hC]; exact Nat.ne_of_lt (Nat.lt_succ_of_lt hb), Nat.ne_of_lt hb⟩
  have hDf : s₂.heap.objs.size ∉ fp := fun hm => Nat.lt_irrefl _ (hfp _ hm)
  have hCf : H2.objs.size ∉ fp := fun hm => by have := hfp _ hm; rw [hC] at this; exact Nat.lt_irrefl _ (Nat.lt_of_succ_lt this)
  have hIlt : I < s₂.heap.objs.size := hfp I (W.sub I (List.mem_singleton.mpr rfl))
  have old : ∀ b o, s₂.heap.get? b = some o → h₁.get? b = some o := fun b o e => hsb₁.extBut b o (below b (Heap.lt_size e)).1 (Heap.get?_push_of_some _ (hH2 ▸ Heap.get?_push_of_some _ e))
  have hacc : h₁.get? s₂.heap.objs.size = some (lst []) := hsb₁.extBut _ _ hDC (Heap.get?_push_of_some _ (hH2 ▸ Heap.get?_push_size _ rfl))
  have hst₁ : St 0 h₁ := W.frame _ _ _ hst fun b _ o e => old b o e
  have none_ge : ∀ a, s₂.heap.objs.size ≤ a → h₀.get? a = none := fun a ha => by
    cases e : h₀.get? a with
    | none => rfl
    | some o' => exact absurd (Heap.lt_size (F.keep a o' e)) (Nat.not_lt.mpr ha)
  have hD₀ : h₀.get? s₂.heap.objs.size = none := none_ge _ (Nat.le_refl _)
  have hC₀ : h₀.get? H2.objs.size = none := none_ge _ (by rw [hC]; exact Nat.le_succ _)
  have hLlt : L < s₂.heap.objs.size := F.ns.lt
  have hDL : s₂.heap.objs.size ≠ L := Ne.symm (below L hLlt).2
  have hCL : H2.objs.size ≠ L := Ne.symm (below L hLlt).1
  have hCI : I ≠ H2.objs.size := (below I hIlt).1
  have hDI : I ≠ s₂.heap.objs.size := (below I hIlt).2
  have off₀ : Off3 I H2.objs.size s₂.heap.objs.size news := Off3.of fun p hp => ⟨off p hp, (below _ (Heap.lt_size (N p hp).1)).1, (below _ (Heap.lt_size (N p hp).1)).2⟩
  let Inv : Nat → Shared → Prop := fun k s' => Mine.Ex7 fun h' dr tk i ys m' nw => Mine.And10 (s' = { s₂ with heap := h', drawn := dr, toks := tk }) (i ≤ n) (k = n + 1 - i) (ys.length ≤ i) (St i h') (Fr h₀ L h' m) (h'.Ns H2.objs.size m') (News h₀ L h' ((s₂.heap.objs.size, lst ys) :: nw)) (Off3 I H2.objs.size s₂.heap.objs.size nw) (J i ys nw)
  have loop : ∀ s₃ : Shared, Inv (n + 1) s₃ →
      codeAny (model prog w) A (.compLoop (.ListComp elt [⟨.Name x px, iter, ifs, 0⟩] scope pos) 0 (.ref I) (.ref s₂.heap.objs.size) (compEnvC scope cl H2.objs.size env))
        (RR (.ref s₂.heap.objs.size) H2.objs.size) s₃ := by
    intro s₃ hI₃
    refine codeAny_compLoop_tests Inv ?_ (n + 1) hI₃
    rintro k s' ⟨h', dr, tk, i, ys, m', nw, rfl, hi, rfl, hyl, hst', F', hn', N', off', hJ'⟩
    have off3 := off'.mem
    by_cases hlt : i < n
    · refine W.item i _ _ _ hlt hst' fun v h₂ tk₂ hPv hst₂ hk₂ => ?_
      refine wpAny_assign_Name (wpAny_storeName_local (lookup_relabel_local hx) (hn'.at' fun o e => hk₂ _ o (by simpa using Ne.symm hCI) e) (fun h₃ hn₃ hs₃ => ?_) (by simp [compEnvC, relabel, hkind]))
      have hst₃ : St (i + 1) h₃ := W.frame _ _ _ hst₂ fun b hb o e => hs₃.extBut b o (fun q => hCf (by have q' : b = H2.objs.size := q; rw [← q']; exact hb)) e
      obtain ⟨oI, heI⟩ := hIo _ _ hst₃
      obtain ⟨oC, heC, hoC⟩ := ns_obj hn₃
      have F₃ : Fr h₀ L h₃ m := (fr_but F' hk₂ hIL hI₀).change hs₃ hCL hC₀
      have N₂ : News h₀ L h₂ ((s₂.heap.objs.size, lst ys) :: nw) := news_but N' hk₂ (List.forall_mem_cons.mpr ⟨Ne.symm hDI, fun p hp => (off3 p hp).1⟩)
      have N₃' : News h₀ L h₃ ((s₂.heap.objs.size, lst ys) :: nw) := fun p hp => by
        refine ⟨hs₃.extBut _ _ ?_ (N₂ p hp).1, (N₂ p hp).2⟩
        rcases List.mem_cons.mp hp with rfl | hp
        · exact hDC
        · exact (off3 p hp).2.1
      have N₃ : News h₀ L h₃ ((I, oI) :: (H2.objs.size, oC) :: (s₂.heap.objs.size, lst ys) :: nw) :=
        List.forall_mem_cons.mpr ⟨⟨heI, Ne.symm hIL, hI₀⟩, List.forall_mem_cons.mpr ⟨⟨heC, hCL, hC₀⟩, N₃'⟩⟩
      have back : ∀ {R' : Value → List (Addr × Obj) → Prop} {y : Value} {s₄ : Shared} {Z : Shared → Prop}, EndD h₀ L m { s₂ with heap := h₃, drawn := dr, toks := tk₂ + 1 } I oI H2.objs.size oC s₂.heap.objs.size (lst ys) R' y s₄ →
          (∀ h₄ dr₄ tk₄ nw₄, s₄ = { s₂ with heap := h₄, drawn := dr₄, toks := tk₄ } → Fr h₀ L h₄ m → h₄.Ns H2.objs.size (fun y => if y = x then some v else m' y) → News h₀ L h₄ ((s₂.heap.objs.size, lst ys) :: nw₄) → Off3 I H2.objs.size s₂.heap.objs.size nw₄ → (∀ {ys'}, J (i + 1) ys' nw₄ → St (i + 1) h₄) → R' y nw₄ → Z s₄) → Z s₄ := by
        rintro R' y s₄ Z ⟨h₄, dr₄, tk₄, nw₄, rfl, F₄, N₄, off₄, R₄⟩ hZ
        have zI := (N₄ _ (.head _)).1
        have zC := (N₄ _ (.tail _ (.head _))).1
        have N₄' : News h₀ L h₄ nw₄ := fun p hp => N₄ p (.tail _ (.tail _ (.tail _ hp)))
        exact hZ h₄ dr₄ tk₄ nw₄ rfl F₄ (hoC.ns zC) (fun p hp => N₄ p (.tail _ (.tail _ hp))) off₄ (fun hj => hSt _ _ _ _ _ _ hst₃ heI zI F₄.keep N₄' hj) R₄
      refine wpAny_mono (R i ys nw hlt hJ' v I oI H2.objs.size oC s₂.heap.objs.size _ h₃ dr _ _ hPv hoC (by simp) F₃ N₃ off' ⟨hCI, hDI, Ne.symm hDC⟩) (fun ok s₄ h₄ => ?_) fun _ _ e => e
      cases ok with
      | true =>
        simp only [if_true] at h₄ ⊢
        refine wpAny_mono h₄ (fun y s₅ h₅ => ?_) fun _ _ e => e
        refine back h₅ fun h₄ dr₄ tk₄ nw₄ e₄ F₄ n₄ N₄ off₄ st₄ R₄ => ?_
        subst e₄
        have off4 := off₄.mem
        refine append_at (hsz := by show ys.toArray.size ≤ sizeLine; rw [List.size_toArray]; exact Nat.le_trans (Nat.le_trans hyl hi) hsz) (N₄ _ (.head _)).1 fun h₅ hs₅ hD₅ => ?_
        refine ⟨n + 1 - (i + 1), by lia, h₅, dr₄, tk₄, i + 1, ys ++ [y], _, nw₄, rfl, hlt, rfl, by rw [List.length_append, List.length_singleton]; lia, W.frame _ _ _ (st₄ R₄) fun b hb o e => hs₅.extBut b o (fun q => hDf (q ▸ hb)) e, F₄.change hs₅ hDL hD₀,
          n₄.sameBut hs₅ (Ne.symm hDC), List.forall_mem_cons.mpr ⟨⟨hD₅.trans (congrArg some (lst_snoc ys y)), hDL, hD₀⟩, fun p hp => ⟨hs₅.extBut _ _ (off4 p hp).2.2 (N₄ p (.tail _ hp)).1, (N₄ p (.tail _ hp)).2⟩⟩, off₄, R₄⟩
      | false =>
        simp only [Bool.false_eq_true, if_false] at h₄ ⊢
        refine back (Z := fun s₄ => ∃ k, k < n + 1 - i ∧ Inv k s₄) h₄ fun h₄ dr₄ tk₄ nw₄ e₄ F₄ n₄ N₄ off₄ st₄ R₄ => ?_
        exact ⟨n + 1 - (i + 1), by lia, h₄, dr₄, tk₄, i + 1, ys, _, nw₄, e₄, hlt, rfl, by lia, st₄ R₄, F₄, n₄, N₄, off₄, R₄⟩
    · obtain rfl : i = n := Nat.le_antisymm hi (Nat.not_lt.mp hlt)
      refine W.done _ _ _ hst' fun h₂ tk₂ hk₂ => ?_
      exact hRR _ _ h₂ dr tk₂ _ ys nw (fr_but F' hk₂ hIL hI₀) (news_but N' hk₂ (List.forall_mem_cons.mpr ⟨Ne.symm hDI, fun p hp => (off3 p hp).1⟩)) off'.one (hn'.at' fun o e => hk₂ _ o (by simpa using Ne.symm hCI) e) hC₀ hD₀ hCL hDL (Ne.symm hDC) (fun p hp => (off3 p hp).2.1) hJ'
  have start : Inv (n + 1) { s₂ with heap := h₁, toks := s₂.toks + ([] : List (Str × Value)).length } :=
    ⟨h₁, s₂.drawn, _, 0, [], _, news, rfl, Nat.zero_le _, rfl, Nat.le_refl _, hst₁, F.keeps old, hns₁, List.forall_mem_cons.mpr ⟨⟨hacc, hDL, hD₀⟩, fun p hp => ⟨old _ _ (N p hp).1, (N p hp).2⟩⟩, off₀, hJ⟩
  exact codeAny_compStart_list (loop _ start) (W.self 0 _ _ _ hst₁ (loop _ start))
end
end Mine
namespace Mine
open PyProof.Rows.LCg
section
variable {prog : Program} {w : World} {A : Around} {E : Value → Shared → Prop} {s : Shared} {h₀ : Heap} {L : Addr} {m : Str → Option Value} {env : Env}
/-- where a block's items come from -/
def FromD (prog : Program) (w : World) (A : Around) (h₀ : Heap) (L : Addr) (m : Str → Option Value) (J : Nat → List Value → List (Addr × Obj) → Prop) (n : Nat) (P : Nat → Value → Prop) (xv : Value) (s₁ : Shared) : Prop :=
  ∃ news, A.handled = none ∧ Fr h₀ L s₁.heap m ∧ News h₀ L s₁.heap news ∧ n ≤ sizeLine ∧ J 0 [] news ∧
    ((Mine.Ex2 fun ax its => Mine.And4 (xv = .ref ax) (n = its.size) (P = (fun i v => its[i]? = some v)) (∀ i ys nw, J i ys nw → SrcAt h₀ ax its nw)) ∨
     (Mine.Ex6 fun r a b t u v => Mine.And5 (xv = .ref r) (IsRange s₁.heap r a b 1 t u v) (Builtin.Range.small a b 1 = true) (Builtin.Range.rangeSize a b 1 = ((n : Nat) : Int)) (P = (fun i v => ∃ t, v = .int (a + (i : Int)) t))))
theorem from_list {J : Nat → List Value → List (Addr × Obj) → Prop} {s₁ : Shared} {ax : Addr} {its : Array Value} {k : Nat} {news : List (Addr × Obj)} (hh : A.handled = none) (F : Fr h₀ L s₁.heap m) (N : News h₀ L s₁.heap news) (hsz : its.size ≤ sizeLine) (hJ : J 0 [] news)
    (hm : ∀ i ys nw, J i ys nw → (ax, ({ cls := .type "list", data := .seq its k } : Obj)) ∈ nw) : FromD prog w A h₀ L m J its.size (fun i v => its[i]? = some v) (.ref ax) s₁ :=
  ⟨news, hh, F, N, hsz, hJ, .inl ⟨ax, its, rfl, rfl, rfl, fun i ys nw hj => .inr ⟨_, hm i ys nw hj, rfl, _, rfl⟩⟩⟩
theorem from_range {J : Nat → List Value → List (Addr × Obj) → Prop} {s₁ : Shared} {r : Addr} {a b : Int} {t u v : Tok} {n : Nat} {news : List (Addr × Obj)} (hh : A.handled = none) (F : Fr h₀ L s₁.heap m) (N : News h₀ L s₁.heap news) (hsz : n ≤ sizeLine) (hJ : J 0 [] news)
    (hr : IsRange s₁.heap r a b 1 t u v) (hsm : Builtin.Range.small a b 1 = true) (hn : Builtin.Range.rangeSize a b 1 = ((n : Nat) : Int)) : FromD prog w A h₀ L m J n (fun i v => ∃ t, v = .int (a + (i : Int)) t) (.ref r) s₁ :=
  ⟨news, hh, F, N, hsz, hJ, .inr ⟨r, a, b, t, u, v, rfl, hr, hsm, hn, rfl⟩⟩
theorem src_d {elt iter : PySem.Expr} {ifs : List PySem.Expr} {x : Str} {px : Pos} {scope : Scope} {cl : List (Str × Addr)} {pos : Pos} {J : Nat → List Value → List (Addr × Obj) → Prop} {n : Nat} {P : Nat → Value → Prop} {RR : Value → Addr → Result → Shared → Prop} {xv : Value} {s₁ : Shared}
    (hcell : ∀ z ∈ scope.names, z.2 ≠ .cell) (hkind : scope.kind = .function) (hx : scope.names.lookup x = some .local)
    (hfrom : FromD prog w A h₀ L m J n P xv s₁) (turn : TurnD prog w A h₀ L m env ifs elt x scope cl s₁ n P J)
    (hRR : ∀ D C h dr tk m' ys nw, Fr h₀ L h m → News h₀ L h ((D, lst ys) :: nw) → Off1 D nw → h.Ns C m' → h₀.get? C = none → h₀.get? D = none → C ≠ L → D ≠ L → C ≠ D → (∀ p ∈ nw, p.1 ≠ C) → J n ys nw → RR (.ref D) C (.ok .next) { s₁ with heap := h, drawn := dr, toks := tk }) :
    wpAny (model prog w) A (pyIter xv) (fun it s₂ => wpAny (model prog w) A (newList []) (fun acc s₃ => wpAny (model prog w) A (newFunctionEnv scope env.globals cl [] env.qual none .none (some env)) (fun cenv s₄ =>
      codeAny (model prog w) A (.compStart (.ListComp elt [⟨.Name x px, iter, ifs, 0⟩] scope pos) 0 it acc { cenv with scope := relabel scope env }) (RR acc cenv.locals) s₄) E s₃) E s₂) E s₁ := by
  obtain ⟨news, hh, F, N, hsz, hJ, hs⟩ := hfrom
  have offI : ∀ p ∈ news, p.1 ≠ s₁.heap.objs.size := fun p hp => Nat.ne_of_lt (Heap.lt_size (N p hp).1)
  rcases hs with ⟨ax, its, rfl, rfl, rfl, hS⟩ | ⟨r, a, b, t, u, v, rfl, hr, hsm, hn, rfl⟩
  · have hl := (hS 0 [] news hJ).list F.keep N
    have hlt : ax < s₁.heap.objs.size := by obtain ⟨_, e, _⟩ := hl; exact Heap.lt_size e
    refine wpAny_pyIter_list hl ?_
    have up : ∀ b o, s₁.heap.get? b = some o → (s₁.heap.push { cls := .type "list_iterator", data := .fields #[.ref ax, .int 0 0] }).get? b = some o := fun b o e => Heap.get?_push_of_some _ e
    refine block_d (Walks.list hh s₁.heap.objs.size ax (Nat.ne_of_lt hlt) its) hsz (fun i h st => by obtain ⟨o, e, _⟩ := st.1; exact ⟨o, e⟩)
      (fun i h h' o nw ys st e e' k N' hj => ⟨by obtain ⟨o', q, r⟩ := st.1; rw [e] at q; cases q; exact ⟨o, e', r⟩, (hS i ys nw hj).list k N'⟩) hcell hkind hx ⟨⟨_, Heap.get?_push_size _ rfl, rfl, rfl⟩, hl.push _⟩ (fun b hb => ?_)
      (F.keeps up) (N.grown up) (Nat.ne_of_lt F.ns.lt) (next_is_new F) offI hJ turn hRR
    show b < (s₁.heap.push _).objs.size
    rw [Heap.size_push]
    rcases List.mem_cons.mp hb with rfl | hb
    · exact Nat.lt_succ_self _
    · rw [List.mem_singleton.mp hb]; exact Nat.lt_succ_of_lt hlt
  · refine wpAny_pyIter_range hr hsm ?_
    refine block_d (range_walks hh a n) hsz (fun i h st => ⟨_, st⟩)
      (fun i h h' o nw ys st e e' k N' hj => by
        have st' : h.get? s₁.heap.objs.size = some _ := st
        show h'.get? s₁.heap.objs.size = some _
        rw [e', ← e]; exact st') hcell hkind hx (by show IsRangeIter _ _ _ _ _; rw [hn]; simpa using Heap.get?_push_size _ rfl) (fun b hb => ?_)
      (F.keeps fun _ _ e => Heap.get?_push_of_some _ e) (N.grown fun _ _ e => Heap.get?_push_of_some _ e) (Nat.ne_of_lt F.ns.lt) (next_is_new F) offI hJ turn hRR
    rw [List.mem_singleton.mp hb]
    show s₁.heap.objs.size < (s₁.heap.push _).objs.size
    rw [Heap.size_push]; exact Nat.lt_succ_self _
/-- a block as a value -/
theorem ListComp_D {elt iter : PySem.Expr} {ifs : List PySem.Expr} {x : Str} {px : Pos} {scope : Scope} {cl : List (Str × Addr)} {pos : Pos} {Q : Value → Shared → Prop} (J : Nat → List Value → List (Addr × Obj) → Prop) (_F₀ : Fr h₀ L s.heap m)
    (hclos : closureFor scope env = pure cl) (hcell : ∀ z ∈ scope.names, z.2 ≠ .cell) (hkind : scope.kind = .function)
    (hnames : ∀ z ∈ scope.names, z.2 = .local → scope.names.lookup z.1 = some .local) (hx : scope.names.lookup x = some .local)
    (h : wpAny (model prog w) A (eval iter env) (fun xv s₁ => Hold (Mine.Ex2 fun n P => Mine.And3 (FromD prog w A h₀ L m J n P xv s₁) (TurnD prog w A h₀ L m env ifs elt x scope cl s₁ n P J) (∀ D h dr tk ys nw, Fr h₀ L h m → News h₀ L h ((D, lst ys) :: nw) → Off1 D nw → J n ys nw → Q (.ref D) { s₁ with heap := h, drawn := dr, toks := tk }))) E s)
    (hs : ∀ x, foldedSetIterable iter env x = pure x := by intro _; rfl) :
    wpAny (model prog w) A (eval (.ListComp elt [⟨.Name x px, iter, ifs, 0⟩] scope pos) env) Q E s := by
  rw [eval_ListComp]
  refine wpAny_comprehension_free (use := none) rfl hs hclos hkind hnames (wpAny_mono h (fun xv s₁ h₁ => ?_) fun _ _ e => e)
  obtain ⟨n, P, hfrom, turn, fin⟩ := h₁.h
  refine src_d hcell hkind hx hfrom turn ?_
  intro D C h' dr tk m' ys nw F' N' o1 hn hC₀ hD₀ hCL hDL hCD offC hj
  refine ⟨m', hn, fun h'' hs'' => fin D h'' dr tk ys nw (F'.change hs'' hCL hC₀) (List.forall_mem_cons.mpr ⟨?_, fun p hp => ?_⟩) o1 hj⟩
  · exact ⟨hs''.extBut _ _ (Ne.symm hCD) (N' _ (.head _)).1, (N' _ (.head _)).2⟩
  · exact ⟨hs''.extBut _ _ (offC p hp) (N' p (.tail _ hp)).1, (N' p (.tail _ hp)).2⟩
/-- a block bound to a name -/
theorem Assign_ListComp_D {elt iter : PySem.Expr} {ifs : List PySem.Expr} {x y : Str} {px py : Pos} {scope : Scope} {cl : List (Str × Addr)} {pos spos : Pos} {Q : Flow → Shared → Prop} (J : Nat → List Value → List (Addr × Obj) → Prop) (_F₀ : Fr h₀ L s.heap m) (hLe : env.locals = L)
    (hsw : swapsWith (.ListComp elt [⟨.Name x px, iter, ifs, 0⟩] scope pos) (some (.Name y py)) spos.line env = pure true)
    (hclos : closureFor scope env = pure cl) (hcell : ∀ z ∈ scope.names, z.2 ≠ .cell) (hkind : scope.kind = .function)
    (hnames : ∀ z ∈ scope.names, z.2 = .local → scope.names.lookup z.1 = some .local) (hx : scope.names.lookup x = some .local)
    (hy : env.kindOf y = some .local) (hp : (env.scope.kind == .class || (env.scope.kind == .module && env.locals != env.globals)) = false)
    (h : wpAny (model prog w) A (eval iter env) (fun xv s₁ => Hold (Mine.Ex2 fun n P => Mine.And3 (FromD prog w A h₀ L m J n P xv s₁) (TurnD prog w A h₀ L m env ifs elt x scope cl s₁ n P J) (∀ D h dr tk ys nw, Fr h₀ L h (fun z => if z = y then some (.ref D) else m z) → News h₀ L h ((D, lst ys) :: nw) → Off1 D nw → J n ys nw → Q .next { s₁ with heap := h, drawn := dr, toks := tk }))) E s)
    (hs : ∀ x, foldedSetIterable iter env x = pure x := by intro _; rfl) :
    wpAny (model prog w) A (exec (.Assign [.Name y py] (.ListComp elt [⟨.Name x px, iter, ifs, 0⟩] scope pos) spos) env) Q E s := by
  subst hLe
  rw [exec_Assign_Name_used _ _ _ _ hsw]
  refine wpAny_bind (wpAny_standAt (wpAny_bind ?_))
  show wpAny _ A (do let _ ← comprehension (.ListComp elt [⟨.Name x px, iter, ifs, 0⟩] scope pos) scope env _ (newList []) false (eval iter env) (some (assign (.Name y py) env))) _ _ s
  refine wpAny_bind (wpAny_mono (wpAny_comprehension_free (use := some (assign (.Name y py) env)) (Q := fun _ s' => Q .next s') rfl hs hclos hkind hnames
    (wpAny_mono h (fun xv s₁ h₁ => ?_) fun _ _ e => e)) (fun _ s' hq => wpAny_pure (wpAny_pure hq)) fun _ _ e => e)
  obtain ⟨n, P, hfrom, turn, fin⟩ := h₁.h
  refine src_d hcell hkind hx hfrom turn ?_
  intro D C h' dr tk m' ys nw F' N' o1 hn hC₀ hD₀ hCL hDL hCD offC hj
  show wpAny _ A (assign (.Name y py) env (.ref D)) _ _ _
  refine wpAny_assign_Name (wpAny_storeName_local hy F'.ns (fun h₂ hn₂ hs₂ => ?_) hp)
  have hL₀ : h₀.get? env.locals = none := Heap.get?_none_of_le F'.above
  have F₂ : Fr h₀ env.locals h₂ (fun z => if z = y then some (.ref D) else m z) := ⟨hn₂, fun b o e => hs₂.extBut b o (fun q => by rw [q, hL₀] at e; cases e) (F'.keep b o e), F'.above⟩
  have up : ∀ {p : Addr × Obj} {h'' : Heap}, Heap.SameBut C h₂ h'' → p.1 ≠ C → (h'.get? p.1 = some p.2 ∧ p.1 ≠ env.locals ∧ h₀.get? p.1 = none) → (h''.get? p.1 = some p.2 ∧ p.1 ≠ env.locals ∧ h₀.get? p.1 = none) :=
    fun hs'' hne hp => ⟨hs''.extBut _ _ hne (hs₂.extBut _ _ hp.2.1 hp.1), hp.2⟩
  exact ⟨m', hn.sameBut hs₂ hCL, fun h'' hs'' => fin D h'' dr _ ys nw (F₂.change hs'' hCL hC₀) (List.forall_mem_cons.mpr ⟨up hs'' (Ne.symm hCD) (N' _ (.head _)), fun p hp => up hs'' (offC p hp) (N' p (.tail _ hp))⟩) o1 hj⟩
end
end Mine
namespace Mine
open PyProof.Rows.LCg
section
variable {prog : Program} {w : World} {A : Around} {E : Value → Shared → Prop} {s : Shared} {env : Env} {h₀ : Heap} {target : PySem.Expr} {body : List Stmt} {Q : Flow → Shared → Prop}
theorem cls_ne {a b : String} (h : a ≠ b) : Value.type a ≠ Value.type b := fun e => by injection e with e; exact h e
def EndF (h₀ : Heap) (L : Addr) (J : (Str → Option Value) → List (Addr × Obj) → Prop) (I : Addr) (oI : Obj) (s₁ s₃ : Shared) : Prop :=
  Mine.Ex5 fun h' dr tk m' nw => Mine.And5 (s₃ = { s₁ with heap := h', drawn := dr, toks := tk }) (Fr h₀ L h' m') (News h₀ L h' ((I, oI) :: nw)) ((∀ p ∈ nw, p.1 ≠ I)) (J m' nw)
def PostF (h₀ : Heap) (L : Addr) (J : (Str → Option Value) → List (Addr × Obj) → Prop) (I : Addr) (oI : Obj) (s₁ : Shared) (Q : Flow → Shared → Prop) (f : Flow) (s₃ : Shared) : Prop :=
  match f with
  | .ret v => Q (.ret v) s₃
  | .brk => Q .next s₃
  | _ => Hold (EndF h₀ L J I oI s₁ s₃)
def FromF (prog : Program) (w : World) (A : Around) (h₀ : Heap) (L : Addr) (J : Nat → (Str → Option Value) → List (Addr × Obj) → Prop) (n : Nat) (P : Nat → Value → Prop) (xv : Value) (s₁ : Shared) : Prop :=
  Mine.Ex2 fun m news => Mine.And5 (A.handled = none) (Fr h₀ L s₁.heap m) (News h₀ L s₁.heap news) (J 0 m news) (((Mine.Ex2 fun ax its => Mine.And4 (xv = .ref ax) (n = its.size) (P = (fun i v => its[i]? = some v)) (∀ i m nw, J i m nw → SrcAt h₀ ax its nw)) ∨
     (Mine.Ex6 fun r a b t u v => Mine.And5 (xv = .ref r) (IsRange s₁.heap r a b 1 t u v) (Builtin.Range.small a b 1 = true) (Builtin.Range.rangeSize a b 1 = ((n : Nat) : Int)) (P = (fun i v => ∃ t, v = .int (a + (i : Int)) t)))))
theorem fromF_list {L : Addr} {m : Str → Option Value} {J : Nat → (Str → Option Value) → List (Addr × Obj) → Prop} {s₁ : Shared} {ax : Addr} {its : Array Value} {k : Nat} {news : List (Addr × Obj)} (hh : A.handled = none) (F : Fr h₀ L s₁.heap m) (N : News h₀ L s₁.heap news) (hJ : J 0 m news)
    (hm : ∀ i m nw, J i m nw → (ax, ({ cls := .type "list", data := .seq its k } : Obj)) ∈ nw) : FromF prog w A h₀ L J its.size (fun i v => its[i]? = some v) (.ref ax) s₁ :=
  ⟨m, news, hh, F, N, hJ, .inl ⟨ax, its, rfl, rfl, rfl, fun i m nw hj => .inr ⟨_, hm i m nw hj, rfl, _, rfl⟩⟩⟩
theorem fromF_range {L : Addr} {m : Str → Option Value} {J : Nat → (Str → Option Value) → List (Addr × Obj) → Prop} {s₁ : Shared} {r : Addr} {a b : Int} {t u v : Tok} {n : Nat} {news : List (Addr × Obj)} (hh : A.handled = none) (F : Fr h₀ L s₁.heap m) (N : News h₀ L s₁.heap news) (hJ : J 0 m news)
    (hr : IsRange s₁.heap r a b 1 t u v) (hsm : Builtin.Range.small a b 1 = true) (hn : Builtin.Range.rangeSize a b 1 = ((n : Nat) : Int)) : FromF prog w A h₀ L J n (fun i v => ∃ t, v = .int (a + (i : Int)) t) (.ref r) s₁ :=
  ⟨m, news, hh, F, N, hJ, .inr ⟨r, a, b, t, u, v, rfl, hr, hsm, hn, rfl⟩⟩
def TurnF (prog : Program) (w : World) (A : Around) (h₀ : Heap) (env : Env) (target : PySem.Expr) (body : List Stmt) (Q : Flow → Shared → Prop) (E : Value → Shared → Prop) (s₁ : Shared) (n : Nat) (P : Nat → Value → Prop) (J : Nat → (Str → Option Value) → List (Addr × Obj) → Prop) : Prop :=
  ∀ i v m₁ nw h dr tk I oI, i < n → P i v → J i m₁ nw → Fr h₀ env.locals h m₁ → News h₀ env.locals h ((I, oI) :: nw) → (∀ p ∈ nw, p.1 ≠ I) → oI.cls ≠ .type "tuple" →
    wpAny (model prog w) A (assign target env v) (fun _ s₂ => wpAny (model prog w) A (execs body env) (PostF h₀ env.locals (J (i + 1)) I oI { s₁ with heap := h, drawn := dr, toks := tk } Q) E s₂) E { s₁ with heap := h, drawn := dr, toks := tk }
theorem loop_d {R : Result → Shared → Prop} {I : Addr} {fp : List Addr} {n : Nat} {P : Nat → Value → Prop} {St : Nat → Heap → Prop} {m : Str → Option Value} {news : List (Addr × Obj)} {J : Nat → (Str → Option Value) → List (Addr × Obj) → Prop} (ht : ∀ it v, letOwnedTupleGo target it v = pure ())
    (W : Walks prog w A I fp [I] n P St) (hIo : ∀ i h, St i h → ∃ o, h.get? I = some o ∧ o.cls ≠ .type "tuple")
    (hSt : ∀ i h h' o m' nw, St i h → h.get? I = some o → h'.get? I = some o → (∀ b o, h₀.get? b = some o → h'.get? b = some o) → News h₀ env.locals h' nw → J i m' nw → St i h')
    (hL : env.locals ≠ I) (hI₀ : h₀.get? I = none) (off : ∀ p ∈ news, p.1 ≠ I) (hst : St 0 s.heap) (F : Fr h₀ env.locals s.heap m) (N : News h₀ env.locals s.heap news) (hJ : J 0 m news)
    (turn : TurnF prog w A h₀ env target body (fun f s' => R (.ok f) s') (notedBy (model prog w) A env fun e s' => R (.error e) s') s n P J)
    (fin : ∀ h dr tk m nw, J n m nw → Fr h₀ env.locals h m → News h₀ env.locals h nw → R (.ok .next) { s with heap := h, drawn := dr, toks := tk }) :
    codeAny (model prog w) A (.forLoop target (.ref I) body [] env) R s := by
  refine codeAny_forLoop_any (fun k s' => Mine.Ex6 fun h' dr tk m' nw i => Mine.And8 (s' = { s with heap := h', drawn := dr, toks := tk }) (St i h') (Fr h₀ env.locals h' m') (News h₀ env.locals h' nw) ((∀ p ∈ nw, p.1 ≠ I)) (J i m' nw) (i ≤ n) (k = n + 1 - i)) ?_ (n + 1)
    ⟨s.heap, s.drawn, s.toks, m, news, 0, rfl, hst, F, N, off, hJ, Nat.zero_le _, rfl⟩
  rintro k s' ⟨h', dr, tk, m', nw, i, rfl, hst', F', N', off', hJ', hi, rfl⟩
  by_cases hlt : i < n
  · refine W.item i _ _ _ hlt hst' fun v h₁ tk₁ hP hst₁ hk₁ => ?_
    dsimp only
    rw [ht]
    refine wpAny_pure ?_
    have F₁ := fr_but F' hk₁ hL hI₀
    have N₁ := news_but N' hk₁ off'
    obtain ⟨oI, hoI, hcI⟩ := hIo _ _ hst₁
    refine wpAny_mono (turn i v m' nw h₁ dr tk₁ I oI hlt hP hJ' F₁ (List.forall_mem_cons.mpr ⟨⟨hoI, Ne.symm hL, hI₀⟩, N₁⟩) off' hcI) (fun _ s₂ h₂ => wpAny_mono h₂ (fun f s₃ h₃ => ?_) fun _ _ e => e) fun _ _ e => e
    have key : Hold (EndF h₀ env.locals (J (i + 1)) I oI { s with heap := h₁, drawn := dr, toks := tk₁ } s₃) → ∃ k, k < n + 1 - i ∧ Mine.Ex6 fun h' dr tk m' nw i => Mine.And8 (s₃ = { s with heap := h', drawn := dr, toks := tk }) (St i h') (Fr h₀ env.locals h' m') (News h₀ env.locals h' nw) ((∀ p ∈ nw, p.1 ≠ I)) (J i m' nw) (i ≤ n) (k = n + 1 - i) := by
      rintro ⟨h₃, dr₃, tk₃, m₃, nw₃, e₃, F₃, N₃, off₃, J₃⟩
      have N₃' : News h₀ env.locals h₃ nw₃ := fun p hp => N₃ p (.tail _ hp)
      exact ⟨n + 1 - (i + 1), by lia, h₃, dr₃, tk₃, m₃, nw₃, i + 1, e₃, hSt _ _ _ _ _ _ hst₁ hoI (N₃ _ (.head _)).1 F₃.keep N₃' J₃, F₃, N₃', off₃, J₃, hlt, rfl⟩
    cases f with
    | ret v => exact h₃
    | brk => exact h₃
    | next => exact key h₃
    | cont => exact key h₃
  · have hin : i = n := by lia
    subst hin
    refine W.done _ _ _ hst' fun h₁ tk₁ hk₁ => wpAny_execs_nil ?_
    exact fin h₁ dr tk₁ m' nw hJ' (fr_but F' hk₁ hL hI₀) (news_but N' hk₁ off')
/-- a for whose turns call what draws -/
theorem For_D {iter : PySem.Expr} {pos : Pos} (J : Nat → (Str → Option Value) → List (Addr × Obj) → Prop) {m : Str → Option Value} (_F₀ : Fr h₀ env.locals s.heap m)
    (h : wpAny (model prog w) A (eval iter env) (fun xv s₁ => Hold (Mine.Ex2 fun n P => Mine.And3 (FromF prog w A h₀ env.locals J n P xv s₁) (TurnF prog w A h₀ env target body Q E s₁ n P J) (∀ h dr tk m nw, J n m nw → Fr h₀ env.locals h m → News h₀ env.locals h nw → Q .next { s₁ with heap := h, drawn := dr, toks := tk }))) E s)
    (ht : ∀ it v, letOwnedTupleGo target it v = pure () := by intro _ _; rfl)
    (hs : ∀ x, foldedSetIterable iter env x = pure x := by intro _; rfl)
    (hE : PassesOwn (model prog w) A env E := by passes_own) :
    wpAny (model prog w) A (exec (.For target iter body [] pos) env) Q E s := by
  have up : ∀ {s₁ : Shared} {n : Nat} {P : Nat → Value → Prop}, TurnF prog w A h₀ env target body Q E s₁ n P J →
      TurnF prog w A h₀ env target body (fun f s' => (match (Except.ok f : Result) with | .ok f => Q f s' | .error e => cameBackBy (model prog w) A env E e s')) (notedBy (model prog w) A env fun e s' => cameBackBy (model prog w) A env E e s') s₁ n P J :=
    fun ht i v m₁ nw h dr tk I oI a b c d e f g => wpAny_mono (ht i v m₁ nw h dr tk I oI a b c d e f g) (fun _ _ x => wpAny_passesOwn hE x) hE
  refine wpAny_For (wpAny_mono h (fun xv s₁ h₁ => ?_) fun _ _ e => e) hs
  obtain ⟨n, P, ⟨m, news, hh, F, N, hJ, hsrc⟩, turn, fin⟩ := h₁.h
  have offI : ∀ p ∈ news, p.1 ≠ s₁.heap.objs.size := fun p hp => Nat.ne_of_lt (Heap.lt_size (N p hp).1)
  rcases hsrc with ⟨ax, its, rfl, rfl, rfl, hS⟩ | ⟨r, a, b, t, u, v, rfl, hr, hsm, hn, rfl⟩
  · have hl := (hS 0 m news hJ).list F.keep N
    have hlt : ax < s₁.heap.objs.size := by obtain ⟨_, e, _⟩ := hl; exact Heap.lt_size e
    refine wpAny_pyIter_list hl ?_
    have up2 : ∀ b o, s₁.heap.get? b = some o → (s₁.heap.push { cls := .type "list_iterator", data := .fields #[.ref ax, .int 0 0] }).get? b = some o := fun b o e => Heap.get?_push_of_some _ e
    exact loop_d (R := fun r s' => match r with | .ok f => Q f s' | .error e => cameBackBy (model prog w) A env E e s') ht (Walks.list hh s₁.heap.objs.size ax (Nat.ne_of_lt hlt) its) (fun i h st => by obtain ⟨o, e, hc, _⟩ := st.1; exact ⟨o, e, by rw [hc]; exact cls_ne (by decide)⟩)
      (fun i h h' o m' nw st e e' k N' hj => ⟨by obtain ⟨o', q, r⟩ := st.1; rw [e] at q; cases q; exact ⟨o, e', r⟩, (hS i m' nw hj).list k N'⟩) (Nat.ne_of_lt F.ns.lt) (next_is_new F) offI ⟨⟨_, Heap.get?_push_size _ rfl, rfl, rfl⟩, hl.push _⟩
      (F.keeps up2) (N.grown up2) hJ (up turn) fin
  · refine wpAny_pyIter_range hr hsm ?_
    exact loop_d (R := fun r s' => match r with | .ok f => Q f s' | .error e => cameBackBy (model prog w) A env E e s') ht (range_walks hh a n) (fun i h st => ⟨_, st, cls_ne (by decide)⟩)
      (fun i h h' o m' nw st e e' k N' hj => by
        have st' : h.get? s₁.heap.objs.size = some _ := st
        show h'.get? s₁.heap.objs.size = some _
        rw [e', ← e]; exact st') (Nat.ne_of_lt F.ns.lt) (next_is_new F) offI (by show IsRangeIter _ _ _ _ _; rw [hn]; simpa using Heap.get?_push_size _ rfl)
      (F.keeps fun _ _ e => Heap.get?_push_of_some _ e) (N.grown fun _ _ e => Heap.get?_push_of_some _ e) hJ (up turn) fin
theorem end_f {L I : Addr} {oI : Obj} {J : (Str → Option Value) → List (Addr × Obj) → Prop} {s₁ : Shared} {h' : Heap} {dr : Drawn} {tk : Nat} {m' : Str → Option Value} {nw : List (Addr × Obj)} (F : Fr h₀ L h' m') (N : News h₀ L h' ((I, oI) :: nw)) (off : ∀ p ∈ nw, p.1 ≠ I) (j : J m' nw) :
    Hold (EndF h₀ L J I oI s₁ { s₁ with heap := h', drawn := dr, toks := tk }) := ⟨h', dr, tk, m', nw, rfl, F, N, off, j⟩
end
end Mine
namespace Mine
section
variable {prog : Program} {w : World} {A : Around} {E : Value → Shared → Prop} {s : Shared} {env : Env} {h₀ : Heap} {target : PySem.Expr} {body : List Stmt} {Q : Flow → Shared → Prop}
/-- a loop over a list (or another walk whose items are told), by an invariant of the place -/
theorem list_inv {I d : Addr} {od : Obj} {ty : String} (J : Nat → (Str → Option Value) → List (Addr × Obj) → Prop) (vs : List Value)
    (step : ∀ i v, vs[i]? = some v → ∀ m news, J i m news → ∀ h tk oI, Fr h₀ env.locals h m → News h₀ env.locals h ((I, oI) :: news) →
      wpAny (model prog w) A (assign target env v) (fun _ s₂ => wpAny (model prog w) A (execs body env) (fun f s₃ => match f with
        | .ret v => Q (.ret v) s₃
        | .brk => Q .next s₃
        | _ => Mine.Ex4 fun h' tk' m' news' => Mine.And6 (s₃ = { s with heap := h', toks := tk' }) (Fr h₀ env.locals h' m') (News h₀ env.locals h' ((I, oI) :: news')) ((∀ p ∈ news', p.1 ≠ I)) ((d, od) ∈ news') (J (i + 1) m' news')) E s₂) E { s with heap := h, toks := tk })
    (fin : ∀ m news h tk, J vs.length m news → Fr h₀ env.locals h m → News h₀ env.locals h news → Q .next { s with heap := h, toks := tk }) :
    ∀ (post pre : List Value) (m : Str → Option Value) (news : List (Addr × Obj)), vs = pre ++ post → J pre.length m news → ItemsRest prog w A E h₀ env target body Q s [(I, ty)] [(d, od)] (post.map .val) m news
  | [], pre, m, news, e, j => by
    rw [List.append_nil] at e
    subst e
    exact fun h tk F N => fin m news h tk j F N
  | v :: post, pre, m, news, e, j => by
    rintro u h tk rfl F oI _ N
    have hv : vs[pre.length]? = some u := by rw [e]; simp
    refine wpAny_mono (step pre.length u hv m news j h tk oI F N) (fun _ s₂ h₂ => wpAny_mono h₂ (fun f s₃ h₃ => ?_) fun _ _ e => e) fun _ _ e => e
    have key : (Mine.Ex4 fun h' tk' m' news' => Mine.And6 (s₃ = { s with heap := h', toks := tk' }) (Fr h₀ env.locals h' m') (News h₀ env.locals h' ((I, oI) :: news')) ((∀ p ∈ news', p.1 ≠ I)) ((d, od) ∈ news') (J (pre.length + 1) m' news')) →
        UnrEndW h₀ env.locals { s with heap := h, toks := tk } [(I, oI)] (fun m' n' => SubL [(d, od)] n' ∧ ItemsRest prog w A E h₀ env target body Q s [(I, ty)] [(d, od)] (post.map .val) m' n') s₃ := by
      rintro ⟨h', tk', m', news', e', F', N', off, hd, j'⟩
      exact ⟨h', tk', m', news', e', F', N', fun p hp q hq => by rw [List.mem_singleton.mp hq]; exact off p hp, ⟨hd, trivial⟩, list_inv J vs step fin post (pre ++ [u]) m' news' (by rw [e]; simp) (by rw [List.length_append]; exact j')⟩
    cases f with
    | ret v => exact h₃
    | brk => exact h₃
    | next => exact key h₃
    | cont => exact key h₃
end
end Mine
namespace Mine
abbrev mapOf {h₀ h : Heap} {L : Addr} {m : Str → Option Value} (_ : Fr h₀ L h m) : Str → Option Value := m
abbrev ledOf {h₀ h : Heap} {L : Addr} {led : List (Addr × Obj)} (_ : News h₀ L h led) : List (Addr × Obj) := led
theorem two_self {m : Str → Option Value} {x y : Str} {u1 : Option Value} (hy : m y = u1) : m = two m x y u1 (m x) := by
  funext z
  by_cases h1 : z = y
  · subst h1; simp [two, hy]
  · by_cases h2 : z = x
    · subst h2; simp [two, h1]
    · simp [two, h1, h2]
theorem two_of {h₀ h : Heap} {L : Addr} {m m' : Str → Option Value} {x y : Str} (F : Fr h₀ L h m') (hm : ∀ z, z ≠ x → z ≠ y → m' z = m z) (hxy : y ≠ x) : Fr h₀ L h (two m x y (m' y) (m' x)) :=
  fr_over F fun z => by
    by_cases h1 : z = y
    · subst h1; simp [two]
    · by_cases h2 : z = x
      · subst h2; simp [two, h1]
      · simp [two, h1, h2, hm z h2 h1]
theorem two_eq {m m' : Str → Option Value} {x y : Str} (hm : ∀ z, z ≠ x → z ≠ y → m' z = m z) (hxy : y ≠ x) : m' = two m x y (m' y) (m' x) := by
  funext z
  by_cases h1 : z = y
  · subst h1; simp [two]
  · by_cases h2 : z = x
    · subst h2; simp [two, h1]
    · simp [two, h1, h2, hm z h2 h1]
theorem news_add2 {h₀ h : Heap} {L : Addr} {led : List (Addr × Obj)} {a b : Addr × Obj} (N : News h₀ L h led) (ha : a ∈ led) (hb : b ∈ led) : News h₀ L h (a :: b :: led) := news_add (news_add N hb) (.tail _ ha)
end Mine
end
section
theorem Mine.fresh4 {prog : Program} {w : World} {A : Around} {E : Value → Shared → Prop} {s : Shared} {Q : Bool → Shared → Prop} (h : wpAny (model prog w) A (truthy (.bool true)) Q E s) : wpAny (model prog w) A (truthy (.bool true)) Q E s := by
  w_top off
  first | (walk1; fail "no") | exact h
set_option hygiene false in
local macro_rules | `(tactic| walk_at "execs cons") => `(tactic| (k_here; (with_reducible refine Mine.gentoks3 ?_); intro tk htk3; (try dsimp only at htk3)))
set_option hygiene false in
local macro_rules | `(tactic| walk_at "execs nil") => `(tactic| (k_here; (with_reducible refine Mine.gentoks3 ?_); intro tk htk3; (try dsimp only at htk3)))
set_option hygiene false in
local macro_rules | `(tactic| walk_at "TokQ") => `(tactic| (refine Mine.tokQ_in ?_; intro htk9; (try dsimp only at htk9)))
set_option hygiene false in
local macro_rules | `(tactic| walk_at $s) => if ("|call ref|setItem ref int|".splitOn ("|" ++ s.getString ++ "|")).length = 2 then `(tactic| (with_reducible refine Mine.Hold.h ?_)) else Lean.Macro.throwUnsupported
namespace Mine
abbrev q104 : Str := Str.ofString "_int2digits.<locals>.inner"
abbrev p104 : Pos := ⟨97, 4, 106, 28⟩
abbrev tab104 (c : Addr) : Obj := tabObj #[rawInt p104.line, rawInt p104.col, .ref c]
/-- the def inside, read off the row -/
def inO : Option (Arguments × List Stmt × Scope) := (hdFn1 10).bind fun x => hdFn (hdNth x.2.1 1)
abbrev inCl (cI cA cN : Addr) : List (Str × Addr) := [(Str.ofString "n", cN), (Str.ofString "inner", cI), (Str.ofString "a_digits", cA)]
abbrev inL (f c' D cI cA cN : Addr) (fo oc' oI oA oN : Obj) (rest : List (Addr × Obj)) (vs : List Value) (n : Nat) : List (Addr × Obj) := (f, fo) :: (c', oc') :: (D, listOf vs.toArray n) :: (cI, oI) :: (cA, oA) :: (cN, oN) :: rest
structure InH (j : Int) (f c' D cI cA cN : Addr) (fo oc' oI oA oN : Obj) (rest : List (Addr × Obj)) : Prop where
  fn : ∃ ps bd sc doc pm ctv, inO = some (ps, bd, sc) ∧ fo = fnMade (Str.ofString "inner") q104 ps bd sc (inCl cI cA cN) doc pm c' ctv
  cf : CF oc' q104
  dI : oI.data = .cell (some (.ref f))
  dA : oA.data = .cell (some (.ref D))
  dN : ∃ t, oN.data = .cell (some (.int j t))
  off : LCg.Off1 D ((f, fo) :: (c', oc') :: (cI, oI) :: (cA, oA) :: (cN, oN) :: [])
  offr : ∀ p ∈ rest, p.1 ≠ D
/-- what a call of the def inside does to the list -/
def InC (prog : Program) (w : World) (d : Nat) (f : Addr) (led : List Value → Nat → List (Addr × Obj)) (x l r : Int) (vs : List Value) (R : Nat → Nat → Nat → List Value → Prop) : Prop :=
  ∀ n t tl tr, CtrT prog w d f [.int x t, .int l tl, .int r tr] (led vs n) fun n0 k => ∀ n' vs' tkz, R t n0 tkz vs' → k .none (led vs' n') tkz
section
variable {prog : Program} {w : World} {A : Around} {E : Value → Shared → Prop} {s : Shared} {h₀ : Heap} {L D : Addr} {m : Str → Option Value} {news : List (Addr × Obj)} {g : Obj → List (Addr × Obj)}
theorem set_at {vs : List Value} {k x : Int} {t u : Tok} {n : Nat} {Q : Unit → Shared → Prop} (F : Fr h₀ L s.heap m) (N : News h₀ L s.heap news) (U : UpdF D (listOf vs.toArray n) news g) (h0 : 0 ≤ k) (h1 : k < vs.length) (hz : vs.length ≤ 100)
    (h : ∀ h' n', Fr h₀ L h' m → News h₀ L h' (g (listOf (vs.set k.toNat (.int x u)).toArray n')) → Q () { s with heap := h' }) : wpAny (model prog w) A (setItem (.ref D) (.int k t) (.int x u)) Q E s := by
  obtain ⟨pre, post, rfl, hg, a, b⟩ := U.split
  have z := N (D, listOf vs.toArray n) (List.mem_append.mpr (.inr (.head _)))
  have NN := ki_turn (its' := (vs.set k.toNat (.int x u)).toArray) (fun a => a.setIfInBounds k.toNat (.int x u)) N a b (by simp) rfl
  rw [← hg] at NN
  exact ki_setAt z.1 h0 (by omega) (by simp only [List.size_toArray]; omega) (h _ _ (F.change (Heap.SameBut.update ..) z.2.1 z.2.2) NN)
theorem mulZk {v : Value} {l : Addr} {u : Tok} {kk : Nat} {Q : Value → Shared → Prop} (F : Fr h₀ L s.heap m) (N : News h₀ L s.heap news) (hl : s.heap.IsList l #[v]) (hk : kk ≤ 100) (h : ∀ D h', Fr h₀ L h' m → News h₀ L h' ((D, listOf (List.replicate kk v).toArray 0) :: news) → (∀ p ∈ news, p.1 < D) → Q (.ref D) { s with heap := h' }) : wpAny (model prog w) A (binaryOp .Mult (.ref l) (.int (kk : Int) u)) Q E s :=
  KMa.mul (vs := [v]) (ws := List.replicate kk v) F N hl (by lia) (by lia) (by simp; omega) (by simp [List.flatten_replicate_singleton]) h
theorem eq_int_t {a b : Int} {t u : Tok} {Q : Value → Shared → Prop} (e : a = b) (h : Q (.bool true) s) : wpAny (model prog w) A (compareOp .Eq (.int a t) (.int b u)) Q E s := eq_int (by rw [beq_iff_eq.mpr e]; exact h)
theorem eq_int_f {a b : Int} {t u : Tok} {Q : Value → Shared → Prop} (e : a ≠ b) (h : Q (.bool false) s) : wpAny (model prog w) A (compareOp .Eq (.int a t) (.int b u)) Q E s := eq_int (by rw [beq_eq_false_iff_ne.mpr e]; exact h)
end
set_option maxHeartbeats 8000000 in
theorem in_leaf {prog : Program} {w : World} {j x l r : Int} {f c' D cI cA cN : Addr} {fo oc' oI oA oN : Obj} {rest : List (Addr × Obj)} {vs : List Value} (H : InH j f c' D cI cA cN fo oc' oI oA oN rest) (hr : l + 1 = r) (h0 : 0 ≤ l) (h1 : l < vs.length) (hz : vs.length ≤ 100) :
    InC prog w 2 f (inL f c' D cI cA cN fo oc' oI oA oN rest) x l r vs fun t _ _ vs' => vs' = vs.set l.toNat (.int x t) := by
  intro n t tl tr
  unfold CtrT
  intro p loose mean mg mb dp un gd cn cs a ccd cl outer A₀ base h₀ L m s Q E B F X N T hk hd hu hret
  obtain ⟨⟨ps, bd, sc, doc, pm, ctv, hin, rfl⟩, hCF, dI, dA, ⟨tn, dN⟩, off, offr⟩ := H
  obtain ⟨vs9, t9, hvs9, ht9⟩ := id hCF
  have hin' : inO = some (_, _, _) := rfl
  rw [hin'] at hin
  injection hin with hin
  injection hin with e1 e2
  injection e2 with e2 e3
  subst e1 e2 e3
  clear hin'
  dsimp only [inL, inCl] at N hret
  have C8 := codeHd_of_K (c := 108) (P := 104) X (by kernel_rfl)
  refine wpAny_call ?_
  k_dflt ((refine' code_nest ?k1z5 ?k2z5 ?k3z5 ?k4z5 ?k5z5 ?kAz5 ?kFz5 ?kKz5 ?k6z5 ?k7z5 ?k8z5 ?k9z5 ?kBz5 ?_ ?c2z5 ?c3z5 ?c4z5 ?c5z5; (case kAz5 => exact rfl); (case kFz5 => exact rfl); (case kKz5 => first | exact rfl | assumption); (case k1z5 => k_asm); (case k2z5 => k_asm); (case k3z5 => k_asm); (case k4z5 => k_asm); (case k5z5 => k_asm); (case k6z5 => k_mem); (case k7z5 => exact codeRec_news (by k_asm) (by k_mem) (by assumption) (by assumption)); (case k8z5 => ktr_room); (case k9z5 => exact BindsTo.of_eq rfl); (case c5z5 => decide); (case kBz5 => exact locs rfl); (case c2z5 => exact rfl); (case c3z5 => exact rfl); (case c4z5 => exact rfl); k_whole; intro g' L' h' FG' F' N' B' X' T'; (try dsimp only); (try k_lift B'); (try k_fold)))
  (repeat' (first | (k_unfold; (try dsimp only)) | (k_end; wrow_close) | (first | (with_reducible refine Mine.eq_int_t (by assumption) ?_) | (with_reducible refine Mine.eq_int_f (by assumption) ?_) | walk1) | (dsimp only; (first | (with_reducible refine Mine.eq_int_t (by assumption) ?_) | (with_reducible refine Mine.eq_int_f (by assumption) ?_) | walk1)) | (leave1; walk_say "STEP leave1"; try dsimp only) | fail "no step"))
  refine Hold.mk ?_
  rename Fr _ _ _ _ => F9
  rename News _ _ _ _ => N9
  refine' set_at F9 N9 ?zU h0 h1 hz ?_
  case zU => k_updF
  intro h' n' F' N'
  try dsimp only at N'
  (repeat' (first | (k_unfold; (try dsimp only)) | (k_end; wrow_close) | (first | (with_reducible refine Mine.eq_int_t (by assumption) ?_) | (with_reducible refine Mine.eq_int_f (by assumption) ?_) | walk1) | (dsimp only; (first | (with_reducible refine Mine.eq_int_t (by assumption) ?_) | (with_reducible refine Mine.eq_int_f (by assumption) ?_) | walk1)) | (leave1; walk_say "STEP leave1"; try dsimp only) | fail "no step"))
  exact hret _ _ _ rfl _ _ (by assumption) (by assumption)
def NodeR (R1 : Nat → Nat → Nat → List Value → Prop) (R2 : List Value → Nat → Nat → Nat → List Value → Prop) (n0 z : Nat) (vs' : List Value) : Prop :=
  Mine.Ex7 fun a b n1 z1 n2 z2 vs1 => Mine.And3 (@Ne Nat a 0 ∧ a < n1 ∧ @Ne Nat b 0 ∧ b < n1 ∧ n1 ≤ z1 ∧ z1 ≤ n2 ∧ n2 ≤ z2 ∧ z2 ≤ z) (R1 a n1 z1 vs1) (R2 vs1 b n2 z2 vs')
set_option maxHeartbeats 8000000 in
theorem in_node {prog : Program} {w : World} {j x l r mid up v lo : Int} {d : Nat} {f c' D cI cA cN : Addr} {fo oc' oI oA oN : Obj} {rest : List (Addr × Obj)} {vs : List Value} {R1 : Nat → Nat → Nat → List Value → Prop} {R2 : List Value → Nat → Nat → Nat → List Value → Prop} (H : InH j f c' D cI cA cN fo oc' oI oA oN rest) (hr : l + 1 ≠ r) (hM : ShR (l + r) 1 mid) (hR : ShR x ((mid - l) * j) up) (hL : ShL up ((mid - l) * j) v) (hX : Xr x v lo) (hm : IntMulOk (mid - l) j) (hd4 : d ≤ 4)
    (left : InC prog w d f (inL f c' D cI cA cN fo oc' oI oA oN rest) lo l mid vs R1) (right : ∀ a n1 z1 vs1, R1 a n1 z1 vs1 → InC prog w d f (inL f c' D cI cA cN fo oc' oI oA oN rest) up mid r vs1 (R2 vs1)) :
    InC prog w (d + 1) f (inL f c' D cI cA cN fo oc' oI oA oN rest) x l r vs fun _ n0 z vs' => NodeR R1 R2 n0 z vs' := by
  intro n t tl tr
  unfold CtrT
  intro p loose mean mg mb dp un gd cn cs a ccd cl outer A₀ base h₀ L m s Q E B F X N T hk hd hu hret
  obtain ⟨⟨ps, bd, sc, doc, pm, ctv, hin, rfl⟩, hCF, dI, dA, ⟨tn, dN⟩, off, offr⟩ := H
  obtain ⟨vs9, t9, hvs9, ht9⟩ := id hCF
  have hin' : inO = some (_, _, _) := rfl
  rw [hin'] at hin
  injection hin with hin
  injection hin with e1 e2
  injection e2 with e2 e3
  subst e1 e2 e3
  clear hin'
  dsimp only [inL, inCl] at N hret left right
  have C8 := codeHd_of_K (c := 108) (P := 104) X (by kernel_rfl)
  refine wpAny_call ?_
  k_dflt ((refine' code_nest ?k1z6 ?k2z6 ?k3z6 ?k4z6 ?k5z6 ?kAz6 ?kFz6 ?kKz6 ?k6z6 ?k7z6 ?k8z6 ?k9z6 ?kBz6 ?_ ?c2z6 ?c3z6 ?c4z6 ?c5z6; (case kAz6 => exact rfl); (case kFz6 => exact rfl); (case kKz6 => first | exact rfl | assumption); (case k1z6 => k_asm); (case k2z6 => k_asm); (case k3z6 => k_asm); (case k4z6 => k_asm); (case k5z6 => k_asm); (case k6z6 => k_mem); (case k7z6 => exact codeRec_news (by k_asm) (by k_mem) (by assumption) (by assumption)); (case k8z6 => ktr_room); (case k9z6 => exact BindsTo.of_eq rfl); (case c5z6 => decide); (case kBz6 => exact locs rfl); (case c2z6 => exact rfl); (case c3z6 => exact rfl); (case c4z6 => exact rfl); k_whole; intro g' L' h' FG' F' N' B' X' T'; (try dsimp only); (try k_lift B'); (try k_fold)))
  (repeat' (first | (k_unfold; (try dsimp only)) | (k_end; wrow_close) | (first | (with_reducible refine Mine.eq_int_t (by assumption) ?_) | (with_reducible refine Mine.eq_int_f (by assumption) ?_) | ((with_reducible show wpAny _ _ (binaryOp Operator.RShift (Value.int _ _) (Value.int _ _)) _ _ _); with_reducible refine Mine.rshR (by k_dflt assumption) ?_) | ((with_reducible show wpAny _ _ (binaryOp Operator.LShift (Value.int _ _) (Value.int _ _)) _ _ _); with_reducible refine Mine.lshR (by k_dflt assumption) ?_) | ((with_reducible show wpAny _ _ (binaryOp Operator.BitXor (Value.int _ _) (Value.int _ _)) _ _ _); with_reducible refine Mine.xorR (by k_dflt assumption) ?_) | (with_reducible refine mul_int ?_ (by assumption)) | walk1) | (dsimp only; (first | (with_reducible refine Mine.eq_int_t (by assumption) ?_) | (with_reducible refine Mine.eq_int_f (by assumption) ?_) | ((with_reducible show wpAny _ _ (binaryOp Operator.RShift (Value.int _ _) (Value.int _ _)) _ _ _); with_reducible refine Mine.rshR (by k_dflt assumption) ?_) | ((with_reducible show wpAny _ _ (binaryOp Operator.LShift (Value.int _ _) (Value.int _ _)) _ _ _); with_reducible refine Mine.lshR (by k_dflt assumption) ?_) | ((with_reducible show wpAny _ _ (binaryOp Operator.BitXor (Value.int _ _) (Value.int _ _)) _ _ _); with_reducible refine Mine.xorR (by k_dflt assumption) ?_) | (with_reducible refine mul_int ?_ (by assumption)) | walk1)) | (leave1; walk_say "STEP leave1"; try dsimp only) | fail "no step"))
  refine Hold.mk ?_
  rename Fr _ _ _ _ => F9
  rename News _ _ _ _ => N9
  refine' CtrT.use (left _ _ _ _) ?zB F9 ?zX N9 ?zT ?zk ?zd ?zu ?_
  case zB => k_asm
  case zX => k_asm
  case zT => k_asm
  case zk => exact rfl
  case zd => ktr_room
  case zu => ktr_units
  intro n1 vs1 z1 hR1 h' dr F' N' ht1
  try dsimp only at N' ht1 hR1
  clear F9 N9 left
  (repeat' (first | (k_unfold; (try dsimp only)) | (k_end; wrow_close) | (first | (with_reducible refine Mine.eq_int_t (by assumption) ?_) | (with_reducible refine Mine.eq_int_f (by assumption) ?_) | ((with_reducible show wpAny _ _ (binaryOp Operator.RShift (Value.int _ _) (Value.int _ _)) _ _ _); with_reducible refine Mine.rshR (by k_dflt assumption) ?_) | ((with_reducible show wpAny _ _ (binaryOp Operator.LShift (Value.int _ _) (Value.int _ _)) _ _ _); with_reducible refine Mine.lshR (by k_dflt assumption) ?_) | ((with_reducible show wpAny _ _ (binaryOp Operator.BitXor (Value.int _ _) (Value.int _ _)) _ _ _); with_reducible refine Mine.xorR (by k_dflt assumption) ?_) | (with_reducible refine mul_int ?_ (by assumption)) | walk1) | (dsimp only; (first | (with_reducible refine Mine.eq_int_t (by assumption) ?_) | (with_reducible refine Mine.eq_int_f (by assumption) ?_) | ((with_reducible show wpAny _ _ (binaryOp Operator.RShift (Value.int _ _) (Value.int _ _)) _ _ _); with_reducible refine Mine.rshR (by k_dflt assumption) ?_) | ((with_reducible show wpAny _ _ (binaryOp Operator.LShift (Value.int _ _) (Value.int _ _)) _ _ _); with_reducible refine Mine.lshR (by k_dflt assumption) ?_) | ((with_reducible show wpAny _ _ (binaryOp Operator.BitXor (Value.int _ _) (Value.int _ _)) _ _ _); with_reducible refine Mine.xorR (by k_dflt assumption) ?_) | (with_reducible refine mul_int ?_ (by assumption)) | walk1)) | (leave1; walk_say "STEP leave1"; try dsimp only) | fail "no step"))
  refine Hold.mk ?_
  rename Fr _ _ _ _ => F9
  rename News _ _ _ _ => N9
  refine' CtrT.use (right _ _ _ _ hR1 _ _ _ _) ?zB2 F9 ?zX2 N9 ?zT2 ?zk2 ?zd2 ?zu2 ?_
  case zB2 => k_asm
  case zX2 => k_asm
  case zT2 => k_asm
  case zk2 => exact rfl
  case zd2 => ktr_room
  case zu2 => ktr_units
  intro n2 vs2 z2 hR2 h2' dr2 F2' N2' ht2
  try dsimp only at N2' ht2 hR2
  clear F9 N9 right
  (repeat' (first | (k_unfold; (try dsimp only)) | (k_end; wrow_close) | (first | (with_reducible refine Mine.eq_int_t (by assumption) ?_) | (with_reducible refine Mine.eq_int_f (by assumption) ?_) | ((with_reducible show wpAny _ _ (binaryOp Operator.RShift (Value.int _ _) (Value.int _ _)) _ _ _); with_reducible refine Mine.rshR (by k_dflt assumption) ?_) | ((with_reducible show wpAny _ _ (binaryOp Operator.LShift (Value.int _ _) (Value.int _ _)) _ _ _); with_reducible refine Mine.lshR (by k_dflt assumption) ?_) | ((with_reducible show wpAny _ _ (binaryOp Operator.BitXor (Value.int _ _) (Value.int _ _)) _ _ _); with_reducible refine Mine.xorR (by k_dflt assumption) ?_) | (with_reducible refine mul_int ?_ (by assumption)) | walk1) | (dsimp only; (first | (with_reducible refine Mine.eq_int_t (by assumption) ?_) | (with_reducible refine Mine.eq_int_f (by assumption) ?_) | ((with_reducible show wpAny _ _ (binaryOp Operator.RShift (Value.int _ _) (Value.int _ _)) _ _ _); with_reducible refine Mine.rshR (by k_dflt assumption) ?_) | ((with_reducible show wpAny _ _ (binaryOp Operator.LShift (Value.int _ _) (Value.int _ _)) _ _ _); with_reducible refine Mine.lshR (by k_dflt assumption) ?_) | ((with_reducible show wpAny _ _ (binaryOp Operator.BitXor (Value.int _ _) (Value.int _ _)) _ _ _); with_reducible refine Mine.xorR (by k_dflt assumption) ?_) | (with_reducible refine mul_int ?_ (by assumption)) | walk1)) | (leave1; walk_say "STEP leave1"; try dsimp only) | fail "no step"))
  exact hret _ _ _ ⟨_, _, _, _, _, _, _, ⟨by omega, by omega, by omega, by omega, by omega, by omega, by omega, by omega⟩, hR1, hR2⟩ _ _ (by assumption) (by assumption)
theorem InC.mono {prog : Program} {w : World} {d d' : Nat} (hdd : d ≤ d') {f : Addr} {led : List Value → Nat → List (Addr × Obj)} {x l r : Int} {vs : List Value} {R R' : Nat → Nat → Nat → List Value → Prop} (C : InC prog w d f led x l r vs R) (h : ∀ t n0 z vs', R t n0 z vs' → R' t n0 z vs') : InC prog w d' f led x l r vs R' :=
  fun n t tl tr _ _ _ _ _ _ _ _ _ _ _ _ _ _ _ _ _ _ _ _ _ _ B F X N T hk hd hu hret => C n t tl tr _ _ _ _ _ _ _ _ _ _ _ _ _ _ _ _ _ _ _ _ _ _ B F X N T hk (Nat.lt_of_le_of_lt (Nat.add_le_add_left hdd _) hd) (Nat.lt_of_le_of_lt (Nat.add_le_add_left (Nat.mul_le_mul_left 8 hdd) _) hu) fun n' vs' tkz hR => hret n' vs' tkz (h _ _ _ _ hR)
theorem drop4 {h₀ h : Heap} {L : Addr} {a b c d : Addr × Obj} {led : List (Addr × Obj)} (N : News h₀ L h (a :: b :: c :: d :: led)) : News h₀ L h (a :: b :: c :: led) := news_sub N (List.forall_mem_cons.mpr ⟨.head _, List.forall_mem_cons.mpr ⟨.tail _ (.head _), List.forall_mem_cons.mpr ⟨.tail _ (.tail _ (.head _)), fun _ hp => .tail _ (.tail _ (.tail _ (.tail _ hp)))⟩⟩⟩)
set_option maxHeartbeats 8000000 in
theorem i2d_core {prog : Program} {w : World} {i j : Int} {t t1 : Tok} {x oc : Obj} {c1 : Addr} {kk : Nat} (hkk : kk ≤ 100) (hj : 3 ≤ j) (hj1 : j ≤ 6) (hdig : DigN (Int.fdiv (((Builtin.Int.intBits i : Nat) : Int) + j - 1) j) kk) (hi0 : i ≠ 0) {led : List (Addr × Obj)} {R : Nat → Nat → Nat → List Value → Prop}
    (HC : ∀ {z : Tok} {f c' D cI cA cN : Addr} {fo oc' oI oA oN : Obj} {rest : List (Addr × Obj)}, InH j f c' D cI cA cN fo oc' oI oA oN rest → InC prog w 5 f (inL f c' D cI cA cN fo oc' oI oA oN rest) i 0 kk (List.replicate kk (.int 0 z)) R)
    (hT : TK p104 q104 x c1 oc) (hc1 : (@Ne Nat c1 104)) (hled : ∀ p ∈ led, p.1 ≠ 104) :
    CtrT prog w 8 109 [.int i t, .int j t1] ((104, x) :: (c1, oc) :: led) fun n0 k => ∀ r n vs n1 z1 c' oc' tkz, R t n1 z1 vs → z1 ≤ tkz → CF oc' q104 → (@Ne Nat r 104) → LCg.Off1 r ((c1, oc) :: led) → ((∀ p ∈ (104, x) :: led, p.1 < c') ∨ c' = c1) → (@Ne Nat r c') →
      k (.ref r) ((r, listOf vs.toArray n) :: (104, tab104 c') :: (c', oc') :: led) tkz := by
  unfold CtrT
  intro p loose mean mg mb dp un gd cn cs a ccd cl outer A₀ base h₀ L m s Q E B F X N T hk hd hu hret
  refine wpAny_call ?_
  (first | k_dflt ((refine' code_def ?k1z7 ?k2z7 ?k3z7 ?k4z7 ?k5z7 ?kAz7 ?kFz7 ?kKz7 ?k6z7 ?k7z7 ?k8z7 ?k9z7 ?kBz7 ?_ ?c2z7 ?c3z7 ?c4z7 ?c5z7; (case kAz7 => exact rfl); (case kFz7 => exact rfl); (case kKz7 => assumption); (case k1z7 => k_asm); (case k2z7 => k_asm); (case k3z7 => k_asm); (case k4z7 => k_asm); (case k5z7 => k_asm); (case k6z7 => k_is); (case k7z7 => k_is); (case k8z7 => ktr_room); (case k9z7 => first | exact BindsTo.of_eq rfl | exact binds_K (by k_in) rfl (by k_is) rfl rfl rfl); (case c5z7 => decide); (case kBz7 => exact locs rfl); (case c2z7 => exact rfl); (case c3z7 => exact rfl); (case c4z7 => exact rfl); k_whole; intro g' L' h' FG' F' N' B' X' T'; (try dsimp only); (try k_lift B'); (try k_fold))) | k_dflt ((refine' code_defC ?k1z8 ?k2z8 ?k3z8 ?k4z8 ?k5z8 ?kAz8 ?kFz8 ?kKz8 ?k6z8 ?k7z8 ?k8z8 ?k9z8 ?kBz8 ?kDz8 ?_ ?c2z8 ?c3z8 ?c4z8; (case kAz8 => exact rfl); (case kFz8 => exact rfl); (case kKz8 => assumption); (case k1z8 => k_asm); (case k2z8 => k_asm); (case k3z8 => k_asm); (case k4z8 => k_asm); (case k5z8 => k_asm); (case k6z8 => k_is); (case k7z8 => k_is); (case k8z8 => ktr_room); (case k9z8 => first | exact BindsTo.of_eq rfl | exact binds_K (by k_in) rfl (by k_is) rfl rfl rfl); (case kBz8 => exact rfl); (case kDz8 => decide +kernel); (case c2z8 => exact rfl); (case c3z8 => exact rfl); (case c4z8 => exact rfl); k_whole; intro g' L' h' tk' cells' FG' F' N' Y' B' X' T' l1; (have hO := Mine.old_of l1); (try k_lt l1); k_cells Y'; (try simp only [List.cons_append, List.nil_append] at N'); (try dsimp only); (try k_lift B'); (try k_fold))))
  have C8 := codeHd_of_K (c := 108) (P := 104) (by assumption) (by kernel_rfl)
  (repeat' (first | (k_unfold; (try dsimp only)) | (k_end; wrow_close) | (first | ((with_reducible show wpAny _ _ (binaryOp Operator.Mult (Value.ref _) (Value.int _ _)) _ _ _); (rename Mine.DigN _ _ => hD9); (rw [Mine.DigN.eq hD9]); k_dflt refine Mine.mulZk (kk := kk) (by k_asm) (by k_asm) (by is_list) hkk ?_; intro D' h' F' N' l1; (try k_sweep)) | ((with_reducible show wpAny _ _ (call (Value.builtin "len") [Value.ref _]) _ _ _); k_dflt refine kun_lenL (k := (kk : Int)) (News.isList (by k_asm) (by k_mem)) (by simp) (by lia) ?_) | walk1) | (dsimp only; (first | ((with_reducible show wpAny _ _ (binaryOp Operator.Mult (Value.ref _) (Value.int _ _)) _ _ _); (rename Mine.DigN _ _ => hD9); (rw [Mine.DigN.eq hD9]); k_dflt refine Mine.mulZk (kk := kk) (by k_asm) (by k_asm) (by is_list) hkk ?_; intro D' h' F' N' l1; (try k_sweep)) | ((with_reducible show wpAny _ _ (call (Value.builtin "len") [Value.ref _]) _ _ _); k_dflt refine kun_lenL (k := (kk : Int)) (News.isList (by k_asm) (by k_mem)) (by simp) (by lia) ?_) | walk1)) | (leave1; walk_say "STEP leave1"; try dsimp only) | fail "no step"))
  (first | k_dflt (refine' nestDef_K ?d0 ?k0 ?a0 ?_; (case d0 => exact rfl); (case k0 => exact rfl); (case a0 => exact rfl)) | fail "nest")
  (first | k_dflt (refine' nest_any ?zF ?zN ?zT ?zC ?zcd ?zU ?zm hT ?zt ?zn ?zh ?zcl ?_; (case zF => k_asm); (case zN => k_asm); (case zT => k_asm); (case zcd => exact rfl); (case zC => exact C8); (case zU => k_updF); (case zm => k_mem); (case zt => exact fun c' => by kn_triples); (case zn => kn_among); (case zh => exact fun c' => by kn_hit); (case zcl => exact rfl); k_whole) | fail "nest2")
  intro f c' oc' ctv doc h' tk F' N' hCF l1 l2 hsep
  obtain ⟨vs9, t9, hvs9, ht9⟩ := id hCF
  replace l2 := ltN l2
  try dsimp only at N'
  (repeat' (first | (k_unfold; (try dsimp only)) | (k_end; wrow_close) | (first | ((with_reducible show wpAny _ _ (binaryOp Operator.Mult (Value.ref _) (Value.int _ _)) _ _ _); (rename Mine.DigN _ _ => hD9); (rw [Mine.DigN.eq hD9]); k_dflt refine Mine.mulZk (kk := kk) (by k_asm) (by k_asm) (by is_list) hkk ?_; intro D' h' F' N' l1; (try k_sweep)) | ((with_reducible show wpAny _ _ (call (Value.builtin "len") [Value.ref _]) _ _ _); k_dflt refine kun_lenL (k := (kk : Int)) (News.isList (by k_asm) (by k_mem)) (by simp) (by lia) ?_) | walk1) | (dsimp only; (first | ((with_reducible show wpAny _ _ (binaryOp Operator.Mult (Value.ref _) (Value.int _ _)) _ _ _); (rename Mine.DigN _ _ => hD9); (rw [Mine.DigN.eq hD9]); k_dflt refine Mine.mulZk (kk := kk) (by k_asm) (by k_asm) (by is_list) hkk ?_; intro D' h' F' N' l1; (try k_sweep)) | ((with_reducible show wpAny _ _ (call (Value.builtin "len") [Value.ref _]) _ _ _); k_dflt refine kun_lenL (k := (kk : Int)) (News.isList (by k_asm) (by k_mem)) (by simp) (by lia) ?_) | walk1)) | (leave1; walk_say "STEP leave1"; try dsimp only) | fail "no step"))
  · refine Hold.mk ?_
    rename Fr _ _ _ _ => F9
    rename News _ _ _ _ => N9
    refine' CtrT.use (HC ?H _ _ _ _) ?zB F9 ?zX (drop4 N9) ?zT ?zk ?zd ?zu ?_
    case H => exact ⟨⟨_, _, _, _, _, _, rfl, rfl⟩, hCF, by assumption, by assumption, ⟨_, by assumption⟩, ⟨by k_ne, by k_ne, by k_ne, by k_ne, by k_ne, trivial⟩, by k_all⟩
    case zB => k_asm
    case zX => k_asm
    case zT => k_asm
    case zk => exact rfl
    case zd => ktr_room
    case zu => ktr_units
    intro n1 vs1 z1 hR h' dr F' N' ht1
    try dsimp only at N' ht1 hR
    clear F9 N9
    (repeat' (first | (k_unfold; (try dsimp only)) | (k_end; wrow_close) | (first | ((with_reducible show wpAny _ _ (binaryOp Operator.Mult (Value.ref _) (Value.int _ _)) _ _ _); (rename Mine.DigN _ _ => hD9); (rw [Mine.DigN.eq hD9]); k_dflt refine Mine.mulZk (kk := kk) (by k_asm) (by k_asm) (by is_list) hkk ?_; intro D' h' F' N' l1; (try k_sweep)) | ((with_reducible show wpAny _ _ (call (Value.builtin "len") [Value.ref _]) _ _ _); k_dflt refine kun_lenL (k := (kk : Int)) (News.isList (by k_asm) (by k_mem)) (by simp) (by lia) ?_) | walk1) | (dsimp only; (first | ((with_reducible show wpAny _ _ (binaryOp Operator.Mult (Value.ref _) (Value.int _ _)) _ _ _); (rename Mine.DigN _ _ => hD9); (rw [Mine.DigN.eq hD9]); k_dflt refine Mine.mulZk (kk := kk) (by k_asm) (by k_asm) (by is_list) hkk ?_; intro D' h' F' N' l1; (try k_sweep)) | ((with_reducible show wpAny _ _ (call (Value.builtin "len") [Value.ref _]) _ _ _); k_dflt refine kun_lenL (k := (kk : Int)) (News.isList (by k_asm) (by k_mem)) (by simp) (by lia) ?_) | walk1)) | (leave1; walk_say "STEP leave1"; try dsimp only) | fail "no step"))
    refine' hret _ _ _ _ _ _ _ _ hR ?y0 hCF ?y3 ?y4 ?y5 ?y6 _ _ (by assumption) ?y7
    case y7 => exact (news_sub (by assumption) (List.forall_mem_cons.mpr ⟨by k_mem, List.forall_mem_cons.mpr ⟨by k_mem, List.forall_mem_cons.mpr ⟨by k_mem, fun p hp => by (repeat (first | exact hp | apply List.mem_cons_of_mem))⟩⟩⟩))
    case y0 => omega
    case y3 => omega
    case y4 => exact (off_of (old_ne1 (by assumption) (by omega)))
    case y5 => exact (hsep.imp (fun h p hp => h p (by simp only [List.mem_cons] at hp ⊢; rcases hp with hp | hp <;> simp only [hp, true_or, or_true])) id)
    case y6 => omega
  · exfalso
    omega
theorem CtrT.mono {prog : Program} {w : World} {d : Nat} {f : Addr} {vs : List Value} {led : List (Addr × Obj)} {Ret Ret' : Nat → (Value → List (Addr × Obj) → Nat → Prop) → Prop} (C : CtrT prog w d f vs led Ret) (h : ∀ n0 k, Ret' n0 k → Ret n0 k) : CtrT prog w d f vs led Ret' :=
  fun _ _ _ _ _ _ _ _ _ _ _ _ _ _ _ _ _ _ _ _ _ _ B F X N T hk hd hu hret => C _ _ _ _ _ _ _ _ _ _ _ _ _ _ _ _ _ _ _ _ _ _ B F X N T hk hd hu (h _ _ hret)
theorem i2d1_walk {prog : Program} {w : World} {i j   : Int} {t t1 : Tok} {x oc : Obj} {c1 : Addr} (hj : 3 ≤ j) (hj1 : j ≤ 6) (hdig : DigN (Int.fdiv (((Builtin.Int.intBits i : Nat) : Int) + j - 1) j) 1) (hi0 : i ≠ 0) {led : List (Addr × Obj)}
    (hT : TK p104 q104 x c1 oc) (hc1 : (@Ne Nat c1 104)) (hled : ∀ p ∈ led, p.1 ≠ 104) :
    CtrT prog w 8 109 [.int i t, .int j t1] ((104, x) :: (c1, oc) :: led) fun n0 k => ∀ r n  c' oc' tkz, CF oc' q104 → (@Ne Nat r 104) → LCg.Off1 r ((c1, oc) :: led) → ((∀ p ∈ (104, x) :: led, p.1 < c') ∨ c' = c1) → (@Ne Nat r c') →
      k (.ref r) ((r, listOf #[.int i t] n) :: (104, tab104 c') :: (c', oc') :: led) tkz :=
  (i2d_core (kk := 1) (R := fun t _ _ vs => vs = [.int i t]) (by decide) hj hj1 hdig hi0 (fun H => by
    refine' InC.mono (d := 2) (by decide) ?c ?m
    case c => exact in_leaf H (by decide) (by decide) (by simp) (by simp)
    exact fun _ _ _ _ h => h) hT hc1 hled).mono fun _ _ h r n vs _ _ c' oc' tkz hR _ a1 a2 a3 a4 a5 => by subst hR; exact h r n c' oc' tkz a1 a2 a3 a4 a5
theorem i2d2_walk {prog : Program} {w : World} {i j d0 d1 v1 : Int} {t t1 : Tok} {x oc : Obj} {c1 : Addr} (hj : 3 ≤ j) (hj1 : j ≤ 6) (hdig : DigN (Int.fdiv (((Builtin.Int.intBits i : Nat) : Int) + j - 1) j) 2) (hi0 : i ≠ 0) {led : List (Addr × Obj)}
    (hR1 : ShR i ((Int.fdiv (0 + 2) (2 ^ Int.toNat 1) - 0) * j) d1) (hL1 : ShL d1 ((Int.fdiv (0 + 2) (2 ^ Int.toNat 1) - 0) * j) v1) (hX1 : Xr i v1 d0)
    (hT : TK p104 q104 x c1 oc) (hc1 : (@Ne Nat c1 104)) (hled : ∀ p ∈ led, p.1 ≠ 104) :
    CtrT prog w 8 109 [.int i t, .int j t1] ((104, x) :: (c1, oc) :: led) fun n0 k => ∀ r n a0 a1 c' oc' tkz, (1 ≤ n0 → @Ne Nat a0 0 ∧ @Ne Nat a1 0) → (@LT.lt Nat _ a0 tkz ∧ @LT.lt Nat _ a1 tkz) → CF oc' q104 → (@Ne Nat r 104) → LCg.Off1 r ((c1, oc) :: led) → ((∀ p ∈ (104, x) :: led, p.1 < c') ∨ c' = c1) → (@Ne Nat r c') →
      k (.ref r) ((r, listOf #[.int d0 a0, .int d1 a1] n) :: (104, tab104 c') :: (c', oc') :: led) tkz :=
  (i2d_core (kk := 2) (R := fun _ _ z vs => Mine.Ex2 fun a b => (@Ne Nat a 0 ∧ a < z ∧ @Ne Nat b 0 ∧ b < z) ∧ vs = [.int d0 a, .int d1 b]) (by decide) hj hj1 hdig hi0 (fun H => by
    refine' InC.mono (d := 3) (by decide) ?c ?m
    case c =>
      refine in_node (R2 := fun vs1 b _ _ vs' => vs' = vs1.set (Int.fdiv (0 + 2) (2 ^ Int.toNat 1)).toNat (.int d1 b)) H (by decide) ⟨by decide, rfl⟩ hR1 hL1 hX1 (by mul_fits) (by decide) (in_leaf H (by decide) (by decide) (by first | (show _ < ((2 : Nat) : Int); decide) | (show _ < ((3 : Nat) : Int); decide)) (Nat.le_of_ble_eq_true rfl)) ?_
      intro a _ _ vs1 e
      subst e
      exact in_leaf H (by decide) (by decide) (by first | (show _ < ((2 : Nat) : Int); decide) | (show _ < ((3 : Nat) : Int); decide)) (Nat.le_of_ble_eq_true rfl)
    rintro _ _ z vs ⟨a, b, n1, z1, n2, z2, vs1, ⟨f1, f2, f3, f4, f5, f6, f7, f8⟩, rfl, rfl⟩
    exact ⟨a, b, ⟨f1, by omega, f3, by omega⟩, rfl⟩) hT hc1 hled).mono fun _ _ h r n vs _ _ c' oc' tkz hR hz a1 a2 a3 a4 a5 => by
    obtain ⟨a, b, ⟨f1, f2, f3, f4⟩, rfl⟩ := hR
    exact h r n a b c' oc' tkz (fun _ => ⟨f1, f3⟩) ⟨Nat.lt_of_lt_of_le f2 hz, Nat.lt_of_lt_of_le f4 hz⟩ a1 a2 a3 a4 a5
theorem i2d3_walk {prog : Program} {w : World} {i j d0 d1 d2 u1 v1 v2 : Int} {t t1 : Tok} {x oc : Obj} {c1 : Addr} (hj : 3 ≤ j) (hj1 : j ≤ 6) (hdig : DigN (Int.fdiv (((Builtin.Int.intBits i : Nat) : Int) + j - 1) j) 3) (hi0 : i ≠ 0) {led : List (Addr × Obj)}
    (hR1 : ShR i ((Int.fdiv (0 + 3) (2 ^ Int.toNat 1) - 0) * j) u1) (hL1 : ShL u1 ((Int.fdiv (0 + 3) (2 ^ Int.toNat 1) - 0) * j) v1) (hX1 : Xr i v1 d0)
    (hR2 : ShR u1 ((Int.fdiv (Int.fdiv (0 + 3) (2 ^ Int.toNat 1) + 3) (2 ^ Int.toNat 1) - Int.fdiv (0 + 3) (2 ^ Int.toNat 1)) * j) d2) (hL2 : ShL d2 ((Int.fdiv (Int.fdiv (0 + 3) (2 ^ Int.toNat 1) + 3) (2 ^ Int.toNat 1) - Int.fdiv (0 + 3) (2 ^ Int.toNat 1)) * j) v2) (hX2 : Xr u1 v2 d1)
    (hT : TK p104 q104 x c1 oc) (hc1 : (@Ne Nat c1 104)) (hled : ∀ p ∈ led, p.1 ≠ 104) :
    CtrT prog w 8 109 [.int i t, .int j t1] ((104, x) :: (c1, oc) :: led) fun n0 k => ∀ r n a0 a1 a2 c' oc' tkz, (1 ≤ n0 → @Ne Nat a0 0 ∧ @Ne Nat a1 0 ∧ @Ne Nat a2 0) → (@LT.lt Nat _ a0 tkz ∧ @LT.lt Nat _ a1 tkz ∧ @LT.lt Nat _ a2 tkz) → CF oc' q104 → (@Ne Nat r 104) → LCg.Off1 r ((c1, oc) :: led) → ((∀ p ∈ (104, x) :: led, p.1 < c') ∨ c' = c1) → (@Ne Nat r c') →
      k (.ref r) ((r, listOf #[.int d0 a0, .int d1 a1, .int d2 a2] n) :: (104, tab104 c') :: (c', oc') :: led) tkz :=
  (i2d_core (kk := 3) (R := fun _ _ z vs => Mine.Ex3 fun a b c => (@Ne Nat a 0 ∧ a < z ∧ @Ne Nat b 0 ∧ b < z ∧ @Ne Nat c 0 ∧ c < z) ∧ vs = [.int d0 a, .int d1 b, .int d2 c]) (by decide) hj hj1 hdig hi0 (fun H => by
    refine' InC.mono (d := 4) (by decide) ?c ?m
    case c =>
      refine in_node (R2 := fun vs1 _ n0 z vs' => NodeR (fun a _ _ v => v = vs1.set (Int.fdiv (0 + 3) (2 ^ Int.toNat 1)).toNat (.int d1 a)) (fun v b _ _ v' => v' = v.set (Int.fdiv (Int.fdiv (0 + 3) (2 ^ Int.toNat 1) + 3) (2 ^ Int.toNat 1)).toNat (.int d2 b)) n0 z vs') H (by decide) ⟨by decide, rfl⟩ hR1 hL1 hX1 (by mul_fits) (by decide) (InC.mono (by decide) (in_leaf H (by decide) (by decide) (by first | (show _ < ((2 : Nat) : Int); decide) | (show _ < ((3 : Nat) : Int); decide)) (Nat.le_of_ble_eq_true rfl)) fun _ _ _ _ h => h) ?_
      intro a _ _ vs1 e
      subst e
      refine in_node H (by decide) ⟨by decide, rfl⟩ hR2 hL2 hX2 (by mul_fits) (by decide) (in_leaf H (by decide) (by decide) (by first | (show _ < ((2 : Nat) : Int); decide) | (show _ < ((3 : Nat) : Int); decide)) (Nat.le_of_ble_eq_true rfl)) ?_
      intro b _ _ vs2 e
      subst e
      exact in_leaf H (by decide) (by decide) (by first | (show _ < ((2 : Nat) : Int); decide) | (show _ < ((3 : Nat) : Int); decide)) (Nat.le_of_ble_eq_true rfl)
    rintro _ _ z vs ⟨a, b, n1, z1, n2, z2, vs1, ⟨f1, f2, f3, f4, f5, f6, f7, f8⟩, rfl, ⟨a', b', n1', z1', n2', z2', vs1', ⟨g1, g2, g3, g4, g5, g6, g7, g8⟩, rfl, rfl⟩⟩
    exact ⟨a, a', b', ⟨f1, by omega, g1, by omega, g3, by omega⟩, rfl⟩) hT hc1 hled).mono fun _ _ h r n vs _ _ c' oc' tkz hR hz a1 a2 a3 a4 a5 => by
    obtain ⟨a, b, c, ⟨f1, f2, f3, f4, f5, f6⟩, rfl⟩ := hR
    exact h r n a b c c' oc' tkz (fun _ => ⟨f1, f3, f5⟩) ⟨Nat.lt_of_lt_of_le f2 hz, Nat.lt_of_lt_of_le f4 hz, Nat.lt_of_lt_of_le f6 hz⟩ a1 a2 a3 a4 a5
end Mine
end
section
theorem Mine.fresh5 {prog : Program} {w : World} {A : Around} {E : Value → Shared → Prop} {s : Shared} {Q : Bool → Shared → Prop} (h : wpAny (model prog w) A (truthy (.bool true)) Q E s) : wpAny (model prog w) A (truthy (.bool true)) Q E s := by
  w_top off
  first | (walk1; fail "no") | exact h
namespace Mine
set_option maxHeartbeats 4000000 in
theorem cpw_ctr {prog : Program} {w : World} {i : Int} {t t1 t2 : Tok} {led : List (Addr × Obj)} (hi : i ≤ 2048) :
    Ctr prog w 4 88 [.int i t, .int 5 t1, .int 2048 t2] led fun k => ∀ r o, LCg.Off1 r led → k (.ref r) ((r, o) :: led) := by
  unfold Ctr
  intro p loose mean mg mb dp un gd cn cs a ccd cl outer A₀ base h₀ L m s Q E B F X N T hk hd hu hret
  refine wpAny_call ?_
  (first | k_dflt ((refine' code_def ?k1z9 ?k2z9 ?k3z9 ?k4z9 ?k5z9 ?kAz9 ?kFz9 ?kKz9 ?k6z9 ?k7z9 ?k8z9 ?k9z9 ?kBz9 ?_ ?c2z9 ?c3z9 ?c4z9 ?c5z9; (case kAz9 => exact rfl); (case kFz9 => exact rfl); (case kKz9 => assumption); (case k1z9 => k_asm); (case k2z9 => k_asm); (case k3z9 => k_asm); (case k4z9 => k_asm); (case k5z9 => k_asm); (case k6z9 => k_is); (case k7z9 => k_is); (case k8z9 => ktr_room); (case k9z9 => first | exact BindsTo.of_eq rfl | exact binds_K (by k_in) rfl (by k_is) rfl rfl rfl); (case c5z9 => decide); (case kBz9 => exact locs rfl); (case c2z9 => exact rfl); (case c3z9 => exact rfl); (case c4z9 => exact rfl); k_whole; intro g' L' h' FG' F' N' B' X' T'; (try dsimp only); (try k_lift B'); (try k_fold))) | k_dflt ((refine' code_defC ?k1z10 ?k2z10 ?k3z10 ?k4z10 ?k5z10 ?kAz10 ?kFz10 ?kKz10 ?k6z10 ?k7z10 ?k8z10 ?k9z10 ?kBz10 ?kDz10 ?_ ?c2z10 ?c3z10 ?c4z10; (case kAz10 => exact rfl); (case kFz10 => exact rfl); (case kKz10 => assumption); (case k1z10 => k_asm); (case k2z10 => k_asm); (case k3z10 => k_asm); (case k4z10 => k_asm); (case k5z10 => k_asm); (case k6z10 => k_is); (case k7z10 => k_is); (case k8z10 => ktr_room); (case k9z10 => first | exact BindsTo.of_eq rfl | exact binds_K (by k_in) rfl (by k_is) rfl rfl rfl); (case kBz10 => exact rfl); (case kDz10 => decide +kernel); (case c2z10 => exact rfl); (case c3z10 => exact rfl); (case c4z10 => exact rfl); k_whole; intro g' L' h' tk' cells' FG' F' N' Y' B' X' T' l1; (have hO := Mine.old_of l1); (try k_lt l1); k_cells Y'; (try simp only [List.cons_append, List.nil_append] at N'); (try dsimp only); (try k_lift B'); (try k_fold))))
  (repeat' (first | ((fail_if_success (fail_if_success k_unfold)); (first | refine (let s9 := _; (?_ : wpAny _ _ _ _ _ s9)) | k_unfold)) | (k_end; wrow_close) | ((fail_if_success (fail_if_success k_fold)); (refine (let q9 := _; (?_ : wpAny _ _ _ q9 _ _))); (first | ((with_reducible show wpAny _ _ (truthy (Value.ref _)) _ _ _); k_dflt refine Mine.truthy_set_K (by k_asm) (by k_mem) (by first | assumption | exact Mine.setNow_fresh _) (Nat.le_of_ble_eq_true rfl) ?_) | ((with_reducible show wpAny _ _ (getMethod (Value.ref _) (Str.ofString "pop") _) _ _ _); k_dflt refine Mine.set_popM_K (by k_asm) (by k_mem) (by assumption) ?_) | ((with_reducible show wpAny _ _ (call (Value.builtin "set.pop") _) _ _ _); k_dflt refine Mine.set_pop_K (by k_asm) (by k_asm) (by k_updF) (by assumption) ?_; intro dr' o' h' hs' F' N'; (try dsimp only at N'); (try dsimp only); (try k_sweep)) | walk1)) | (first | ((with_reducible show wpAny _ _ (truthy (Value.ref _)) _ _ _); k_dflt refine Mine.truthy_set_K (by k_asm) (by k_mem) (by first | assumption | exact Mine.setNow_fresh _) (Nat.le_of_ble_eq_true rfl) ?_) | ((with_reducible show wpAny _ _ (getMethod (Value.ref _) (Str.ofString "pop") _) _ _ _); k_dflt refine Mine.set_popM_K (by k_asm) (by k_mem) (by assumption) ?_) | ((with_reducible show wpAny _ _ (call (Value.builtin "set.pop") _) _ _ _); k_dflt refine Mine.set_pop_K (by k_asm) (by k_asm) (by k_updF) (by assumption) ?_; intro dr' o' h' hs' F' N'; (try dsimp only at N'); (try dsimp only); (try k_sweep)) | walk1) | (dsimp only [List.nil_append, List.cons_append]; (first | ((with_reducible show wpAny _ _ (truthy (Value.ref _)) _ _ _); k_dflt refine Mine.truthy_set_K (by k_asm) (by k_mem) (by first | assumption | exact Mine.setNow_fresh _) (Nat.le_of_ble_eq_true rfl) ?_) | ((with_reducible show wpAny _ _ (getMethod (Value.ref _) (Str.ofString "pop") _) _ _ _); k_dflt refine Mine.set_popM_K (by k_asm) (by k_mem) (by assumption) ?_) | ((with_reducible show wpAny _ _ (call (Value.builtin "set.pop") _) _ _ _); k_dflt refine Mine.set_pop_K (by k_asm) (by k_asm) (by k_updF) (by assumption) ?_; intro dr' o' h' hs' F' N'; (try dsimp only at N'); (try dsimp only); (try k_sweep)) | walk1)) | (leave1; walk_say "STEP leave1"; try dsimp only) | fail "no step"))
  rename Obj.SetObjOf (intKind _ _) _ (fun j => _) 1 => hs9
  obtain ⟨hh, tt, sn⟩ := setNow_one (k := i) hs9 (fun j => by simp)
  (repeat' (first | ((fail_if_success (fail_if_success k_unfold)); (first | refine (let s9 := _; (?_ : wpAny _ _ _ _ _ s9)) | k_unfold)) | (k_end; wrow_close) | ((fail_if_success (fail_if_success k_fold)); (refine (let q9 := _; (?_ : wpAny _ _ _ q9 _ _))); (first | ((with_reducible show wpAny _ _ (truthy (Value.ref _)) _ _ _); k_dflt refine Mine.truthy_set_K (by k_asm) (by k_mem) (by first | assumption | exact Mine.setNow_fresh _) (Nat.le_of_ble_eq_true rfl) ?_) | ((with_reducible show wpAny _ _ (getMethod (Value.ref _) (Str.ofString "pop") _) _ _ _); k_dflt refine Mine.set_popM_K (by k_asm) (by k_mem) (by assumption) ?_) | ((with_reducible show wpAny _ _ (call (Value.builtin "set.pop") _) _ _ _); k_dflt refine Mine.set_pop_K (by k_asm) (by k_asm) (by k_updF) (by assumption) ?_; intro dr' o' h' hs' F' N'; (try dsimp only at N'); (try dsimp only); (try k_sweep)) | walk1)) | (first | ((with_reducible show wpAny _ _ (truthy (Value.ref _)) _ _ _); k_dflt refine Mine.truthy_set_K (by k_asm) (by k_mem) (by first | assumption | exact Mine.setNow_fresh _) (Nat.le_of_ble_eq_true rfl) ?_) | ((with_reducible show wpAny _ _ (getMethod (Value.ref _) (Str.ofString "pop") _) _ _ _); k_dflt refine Mine.set_popM_K (by k_asm) (by k_mem) (by assumption) ?_) | ((with_reducible show wpAny _ _ (call (Value.builtin "set.pop") _) _ _ _); k_dflt refine Mine.set_pop_K (by k_asm) (by k_asm) (by k_updF) (by assumption) ?_; intro dr' o' h' hs' F' N'; (try dsimp only at N'); (try dsimp only); (try k_sweep)) | walk1) | (dsimp only [List.nil_append, List.cons_append]; (first | ((with_reducible show wpAny _ _ (truthy (Value.ref _)) _ _ _); k_dflt refine Mine.truthy_set_K (by k_asm) (by k_mem) (by first | assumption | exact Mine.setNow_fresh _) (Nat.le_of_ble_eq_true rfl) ?_) | ((with_reducible show wpAny _ _ (getMethod (Value.ref _) (Str.ofString "pop") _) _ _ _); k_dflt refine Mine.set_popM_K (by k_asm) (by k_mem) (by assumption) ?_) | ((with_reducible show wpAny _ _ (call (Value.builtin "set.pop") _) _ _ _); k_dflt refine Mine.set_pop_K (by k_asm) (by k_asm) (by k_updF) (by assumption) ?_; intro dr' o' h' hs' F' N'; (try dsimp only at N'); (try dsimp only); (try k_sweep)) | walk1)) | (leave1; walk_say "STEP leave1"; try dsimp only) | fail "no step"))
  exact hret _ _ (off_of (by k_all)) _ _ _ (by assumption) (news_sub (by assumption) (List.forall_mem_cons.mpr ⟨by k_mem, fun p hp => by (repeat (first | exact hp | apply List.mem_cons_of_mem))⟩))
end Mine
set_option hygiene false in
local macro_rules | `(tactic| walk_at "execs cons") => `(tactic| (k_here; (with_reducible refine Mine.gentoks3 ?_); intro tk htk3; (try dsimp only at htk3)))
set_option hygiene false in
local macro_rules | `(tactic| walk_at "execs nil") => `(tactic| (k_here; (with_reducible refine Mine.gentoks3 ?_); intro tk htk3; (try dsimp only at htk3)))
set_option hygiene false in
local macro_rules | `(tactic| walk_at "TokQ") => `(tactic| (refine Mine.tokQ_in ?_; intro htk9; (try dsimp only at htk9)))
set_option hygiene false in
local macro_rules | `(tactic| walk_at "call ref") => `(tactic| (with_reducible refine Mine.Hold.h ?_))
namespace Mine
abbrev q90 : Str := Str.ofString "_str_to_int_inner.<locals>.inner"
abbrev p90 : Pos := ⟨84, 4, 88, 74⟩
abbrev tab90 (c : Addr) : Obj := tabObj #[rawInt p90.line, rawInt p90.col, .ref c]
set_option maxHeartbeats 4000000 in
theorem sis_ctr {prog : Program} {w : World} {x : Str} {v : Int} {t : Tok} {y oc : Obj} {c1 : Addr} {led : List (Addr × Obj)} (hx : x.length ≤ 100) (hn : PySem.intText? (Txt.slice x (some 0) (some x.length)) = some v)
    (hT : TK p90 q90 y c1 oc) (hc1 : (@Ne Nat c1 90)) (hled : ∀ p ∈ led, p.1 ≠ 90) :
    Ctr prog w 8 95 [.str x t] ((90, y) :: (c1, oc) :: led) fun k => ∀ t' c' oc', (@Ne Nat t' 0) → CF oc' q90 → ((∀ p ∈ (90, y) :: led, p.1 < c') ∨ c' = c1) → k (.int v t') ((90, tab90 c') :: (c', oc') :: led) := by
  unfold Ctr
  intro p loose mean mg mb dp un gd cn cs a ccd cl outer A₀ base h₀ L m s Q E B F X N T hk hd hu hret
  refine wpAny_call ?_
  (first | k_dflt ((refine' code_def ?k1z11 ?k2z11 ?k3z11 ?k4z11 ?k5z11 ?kAz11 ?kFz11 ?kKz11 ?k6z11 ?k7z11 ?k8z11 ?k9z11 ?kBz11 ?_ ?c2z11 ?c3z11 ?c4z11 ?c5z11; (case kAz11 => exact rfl); (case kFz11 => exact rfl); (case kKz11 => assumption); (case k1z11 => k_asm); (case k2z11 => k_asm); (case k3z11 => k_asm); (case k4z11 => k_asm); (case k5z11 => k_asm); (case k6z11 => k_is); (case k7z11 => k_is); (case k8z11 => ktr_room); (case k9z11 => first | exact BindsTo.of_eq rfl | exact binds_K (by k_in) rfl (by k_is) rfl rfl rfl); (case c5z11 => decide); (case kBz11 => exact locs rfl); (case c2z11 => exact rfl); (case c3z11 => exact rfl); (case c4z11 => exact rfl); k_whole; intro g' L' h' FG' F' N' B' X' T'; (try dsimp only); (try k_lift B'); (try k_fold))) | k_dflt ((refine' code_defC ?k1z12 ?k2z12 ?k3z12 ?k4z12 ?k5z12 ?kAz12 ?kFz12 ?kKz12 ?k6z12 ?k7z12 ?k8z12 ?k9z12 ?kBz12 ?kDz12 ?_ ?c2z12 ?c3z12 ?c4z12; (case kAz12 => exact rfl); (case kFz12 => exact rfl); (case kKz12 => assumption); (case k1z12 => k_asm); (case k2z12 => k_asm); (case k3z12 => k_asm); (case k4z12 => k_asm); (case k5z12 => k_asm); (case k6z12 => k_is); (case k7z12 => k_is); (case k8z12 => ktr_room); (case k9z12 => first | exact BindsTo.of_eq rfl | exact binds_K (by k_in) rfl (by k_is) rfl rfl rfl); (case kBz12 => exact rfl); (case kDz12 => decide +kernel); (case c2z12 => exact rfl); (case c3z12 => exact rfl); (case c4z12 => exact rfl); k_whole; intro g' L' h' tk' cells' FG' F' N' Y' B' X' T' l1; (have hO := Mine.old_of l1); (try k_lt l1); k_cells Y'; (try simp only [List.cons_append, List.nil_append] at N'); (try dsimp only); (try k_lift B'); (try k_fold))))
  have C8 := codeHd_of_K (c := 94) (P := 90) (by assumption) (by kernel_rfl)
  (repeat' (first | (k_unfold; (try dsimp only)) | (k_end; wrow_close) | (first | ((with_reducible show wpAny _ _ (call (Value.ref _) _) _ _ _); k_dflt refine Mine.Ctr.use (Mine.cpw_ctr (by omega)) (by k_asm) (by k_asm) (by k_asm) (by k_asm) (by k_asm) (by first | exact rfl | assumption) (by ktr_room) (by ktr_units) ?_; intro r' o' of' h' dr' tk' F' N'; (try dsimp only); (try k_fold); (try k_sweep)) | walk1) | (dsimp only; (first | ((with_reducible show wpAny _ _ (call (Value.ref _) _) _ _ _); k_dflt refine Mine.Ctr.use (Mine.cpw_ctr (by omega)) (by k_asm) (by k_asm) (by k_asm) (by k_asm) (by k_asm) (by first | exact rfl | assumption) (by ktr_room) (by ktr_units) ?_; intro r' o' of' h' dr' tk' F' N'; (try dsimp only); (try k_fold); (try k_sweep)) | walk1)) | (leave1; walk_say "STEP leave1"; try dsimp only) | fail "no step"))
  (first | k_dflt (refine' nestDef_K ?d0 ?k0 ?a0 ?_; (case d0 => exact rfl); (case k0 => exact rfl); (case a0 => exact rfl)) | fail "nest")
  (first | k_dflt (refine' nest_any ?zF ?zN ?zT ?zC ?zcd ?zU ?zm hT ?zt ?zn ?zh ?zcl ?_; (case zF => k_asm); (case zN => k_asm); (case zT => k_asm); (case zcd => exact rfl); (case zC => exact C8); (case zU => k_updF); (case zm => k_mem); (case zt => exact fun c' => by kn_triples); (case zn => kn_among); (case zh => exact fun c' => by kn_hit); (case zcl => exact rfl); k_whole) | fail "nest2")
  intro f c' oc' ctv doc h' tk F' N' hCF l1 l2 hsep
  obtain ⟨vs9, t9, hvs9, ht9⟩ := id hCF
  replace l2 := ltN l2
  try dsimp only at N'
  (repeat' (first | (k_unfold; (try dsimp only)) | (k_end; wrow_close) | (first | ((with_reducible show wpAny _ _ (call (Value.ref _) _) _ _ _); k_dflt refine Mine.Ctr.use (Mine.cpw_ctr (by omega)) (by k_asm) (by k_asm) (by k_asm) (by k_asm) (by k_asm) (by first | exact rfl | assumption) (by ktr_room) (by ktr_units) ?_; intro r' o' of' h' dr' tk' F' N'; (try dsimp only); (try k_fold); (try k_sweep)) | walk1) | (dsimp only; (first | ((with_reducible show wpAny _ _ (call (Value.ref _) _) _ _ _); k_dflt refine Mine.Ctr.use (Mine.cpw_ctr (by omega)) (by k_asm) (by k_asm) (by k_asm) (by k_asm) (by k_asm) (by first | exact rfl | assumption) (by ktr_room) (by ktr_units) ?_; intro r' o' of' h' dr' tk' F' N'; (try dsimp only); (try k_fold); (try k_sweep)) | walk1)) | (leave1; walk_say "STEP leave1"; try dsimp only) | fail "no step"))
  refine Hold.mk ?_
  refine Mine.tokQn ?_
  refine wpAny_call ?_
  k_dflt ((refine' code_nest ?k1z13 ?k2z13 ?k3z13 ?k4z13 ?k5z13 ?kAz13 ?kFz13 ?kKz13 ?k6z13 ?k7z13 ?k8z13 ?k9z13 ?kBz13 ?_ ?c2z13 ?c3z13 ?c4z13 ?c5z13; (case kAz13 => exact rfl); (case kFz13 => exact rfl); (case kKz13 => first | exact rfl | assumption); (case k1z13 => k_asm); (case k2z13 => k_asm); (case k3z13 => k_asm); (case k4z13 => k_asm); (case k5z13 => k_asm); (case k6z13 => k_mem); (case k7z13 => exact codeRec_news (by k_asm) (by k_mem) (by assumption) (by assumption)); (case k8z13 => ktr_room); (case k9z13 => exact BindsTo.of_eq rfl); (case c5z13 => decide); (case kBz13 => exact locs rfl); (case c2z13 => exact rfl); (case c3z13 => exact rfl); (case c4z13 => exact rfl); k_whole; intro g' L' h' FG' F' N' B' X' T'; (try dsimp only); (try k_lift B'); (try k_fold)))
  (repeat' (first | (k_unfold; (try dsimp only)) | (k_end; wrow_close) | (first | ((with_reducible show wpAny _ _ (call (Value.ref _) _) _ _ _); k_dflt refine Mine.Ctr.use (Mine.cpw_ctr (by omega)) (by k_asm) (by k_asm) (by k_asm) (by k_asm) (by k_asm) (by first | exact rfl | assumption) (by ktr_room) (by ktr_units) ?_; intro r' o' of' h' dr' tk' F' N'; (try dsimp only); (try k_fold); (try k_sweep)) | walk1) | (dsimp only; (first | ((with_reducible show wpAny _ _ (call (Value.ref _) _) _ _ _); k_dflt refine Mine.Ctr.use (Mine.cpw_ctr (by omega)) (by k_asm) (by k_asm) (by k_asm) (by k_asm) (by k_asm) (by first | exact rfl | assumption) (by ktr_room) (by ktr_units) ?_; intro r' o' of' h' dr' tk' F' N'; (try dsimp only); (try k_fold); (try k_sweep)) | walk1)) | (leave1; walk_say "STEP leave1"; try dsimp only) | fail "no step"))
  refine' hret _ _ _ ?y1 hCF (hsep.imp (fun h p hp => h p (by simp only [List.mem_cons] at hp ⊢; rcases hp with hp | hp <;> simp only [hp, true_or, or_true])) id) _ _ _ ?y2
    (news_sub (by assumption) (List.forall_mem_cons.mpr ⟨by k_mem, List.forall_mem_cons.mpr ⟨by k_mem, fun p hp => by (repeat (first | exact hp | apply List.mem_cons_of_mem))⟩⟩))
  case y2 => assumption
  case y1 => (try dsimp only); (try simp only [ne_eq]); omega
end Mine
local macro_rules | `(tactic| walk_at "execs cons") => `(tactic| (k_here; (with_reducible refine' Mine.gentoks ?h1 ?_); (case h1 => ((fail_if_success assumption); first | omega | ((try dsimp only); omega) | k_dflt (exact Mine.one_le_add rfl))); intro tk htk9))
set_option hygiene false in
local macro_rules | `(tactic| walk_at "TokQ") => `(tactic| (refine Mine.tokQ_in ?_; intro htk9; (try dsimp only at htk9)))
local macro_rules | `(tactic| walk_at "call builtin:str.rstrip") => `(tactic| (k_here; (fail_if_success (with_reducible show wpAny _ _ _ (Mine.TokQ _ _) _ _)); (with_reducible refine' Mine.tokQ ?h1 ?_); (case h1 => ((try dsimp only); omega))))
local macro_rules | `(tactic| walk_at "call builtin:str.replace") => `(tactic| (k_here; (with_reducible refine' SC.replaceW ?zu ?zv ?zuv ?zyz ?zx ?zz ?_); (case zu => k_ne); (case zv => k_ne); (case zuv => k_ne); (case zyz => decide +kernel); (case zx => first | omega | assumption); (case zz => decide +kernel); intro t' k'))
namespace Mine
abbrev ifsT (x : Str) : Str := Txt.replace (Txt.rstrip x) (Str.ofString "_") (Str.ofString "")
set_option maxHeartbeats 4000000 in
theorem ifs_ctr {prog : Program} {w : World} {x : Str} {v : Int} {t : Tok} {y oc : Obj} {c1 : Addr} {led : List (Addr × Obj)} (hx : x.length ≤ 100) (hl : (ifsT x).length ≤ 100) (hn : PySem.intText? (Txt.slice (ifsT x) (some 0) (some (ifsT x).length)) = some v)
    (hT : TK p90 q90 y c1 oc) (hc1 : (@Ne Nat c1 90)) (hled : ∀ p ∈ led, p.1 ≠ 90) :
    Ctr prog w 10 102 [.str x t] ((90, y) :: (c1, oc) :: led) fun k => ∀ t' c' oc', (@Ne Nat t' 0) → CF oc' q90 → ((∀ p ∈ (90, y) :: led, p.1 < c') ∨ c' = c1) → k (.int v t') ((90, tab90 c') :: (c', oc') :: led) := by
  unfold Ctr
  intro p loose mean mg mb dp un gd cn cs a ccd cl outer A₀ base h₀ L m s Q E B F X N T hk hd hu hret
  refine wpAny_call ?_
  (first | k_dflt ((refine' code_def ?k1z14 ?k2z14 ?k3z14 ?k4z14 ?k5z14 ?kAz14 ?kFz14 ?kKz14 ?k6z14 ?k7z14 ?k8z14 ?k9z14 ?kBz14 ?_ ?c2z14 ?c3z14 ?c4z14 ?c5z14; (case kAz14 => exact rfl); (case kFz14 => exact rfl); (case kKz14 => assumption); (case k1z14 => k_asm); (case k2z14 => k_asm); (case k3z14 => k_asm); (case k4z14 => k_asm); (case k5z14 => k_asm); (case k6z14 => k_is); (case k7z14 => k_is); (case k8z14 => ktr_room); (case k9z14 => first | exact BindsTo.of_eq rfl | exact binds_K (by k_in) rfl (by k_is) rfl rfl rfl); (case c5z14 => decide); (case kBz14 => exact locs rfl); (case c2z14 => exact rfl); (case c3z14 => exact rfl); (case c4z14 => exact rfl); k_whole; intro g' L' h' FG' F' N' B' X' T'; (try dsimp only); (try k_lift B'); (try k_fold))) | k_dflt ((refine' code_defC ?k1z15 ?k2z15 ?k3z15 ?k4z15 ?k5z15 ?kAz15 ?kFz15 ?kKz15 ?k6z15 ?k7z15 ?k8z15 ?k9z15 ?kBz15 ?kDz15 ?_ ?c2z15 ?c3z15 ?c4z15; (case kAz15 => exact rfl); (case kFz15 => exact rfl); (case kKz15 => assumption); (case k1z15 => k_asm); (case k2z15 => k_asm); (case k3z15 => k_asm); (case k4z15 => k_asm); (case k5z15 => k_asm); (case k6z15 => k_is); (case k7z15 => k_is); (case k8z15 => ktr_room); (case k9z15 => first | exact BindsTo.of_eq rfl | exact binds_K (by k_in) rfl (by k_is) rfl rfl rfl); (case kBz15 => exact rfl); (case kDz15 => decide +kernel); (case c2z15 => exact rfl); (case c3z15 => exact rfl); (case c4z15 => exact rfl); k_whole; intro g' L' h' tk' cells' FG' F' N' Y' B' X' T' l1; (have hO := Mine.old_of l1); (try k_lt l1); k_cells Y'; (try simp only [List.cons_append, List.nil_append] at N'); (try dsimp only); (try k_lift B'); (try k_fold))))
  (repeat' (first | (k_unfold; (try dsimp only)) | (k_end; wrow_close) | (first | ((with_reducible show wpAny _ _ (call (Value.ref _) _) _ _ _); k_dflt refine Mine.Ctr.use (Mine.cpw_ctr (by omega)) (by k_asm) (by k_asm) (by k_asm) (by k_asm) (by k_asm) (by first | exact rfl | assumption) (by ktr_room) (by ktr_units) ?_; intro r' o' of' h' dr' tk' F' N'; (try dsimp only); (try k_fold); (try k_sweep)) | walk1) | (dsimp only; (first | ((with_reducible show wpAny _ _ (call (Value.ref _) _) _ _ _); k_dflt refine Mine.Ctr.use (Mine.cpw_ctr (by omega)) (by k_asm) (by k_asm) (by k_asm) (by k_asm) (by k_asm) (by first | exact rfl | assumption) (by ktr_room) (by ktr_units) ?_; intro r' o' of' h' dr' tk' F' N'; (try dsimp only); (try k_fold); (try k_sweep)) | walk1)) | (leave1; walk_say "STEP leave1"; try dsimp only) | fail "no step"))
  refine Hold.mk ?_
  refine' Ctr.use (sis_ctr hl hn hT hc1 hled) ?zB ?zF ?zX ?zN ?zT ?zk ?zd ?zu ?_
  case zB => k_asm
  case zF => k_asm
  case zX => k_asm
  case zN => k_asm
  case zT => k_asm
  case zk => exact rfl
  case zd => ktr_room
  case zu => ktr_units
  intro t' c' oc' ht0 hCF hsep h' dr' tk' F' N'
  (repeat' (first | (k_unfold; (try dsimp only)) | (k_end; wrow_close) | (first | ((with_reducible show wpAny _ _ (call (Value.ref _) _) _ _ _); k_dflt refine Mine.Ctr.use (Mine.cpw_ctr (by omega)) (by k_asm) (by k_asm) (by k_asm) (by k_asm) (by k_asm) (by first | exact rfl | assumption) (by ktr_room) (by ktr_units) ?_; intro r' o' of' h' dr' tk' F' N'; (try dsimp only); (try k_fold); (try k_sweep)) | walk1) | (dsimp only; (first | ((with_reducible show wpAny _ _ (call (Value.ref _) _) _ _ _); k_dflt refine Mine.Ctr.use (Mine.cpw_ctr (by omega)) (by k_asm) (by k_asm) (by k_asm) (by k_asm) (by k_asm) (by first | exact rfl | assumption) (by ktr_room) (by ktr_units) ?_; intro r' o' of' h' dr' tk' F' N'; (try dsimp only); (try k_fold); (try k_sweep)) | walk1)) | (leave1; walk_say "STEP leave1"; try dsimp only) | fail "no step"))
  exact hret _ _ _ ht0 hCF hsep _ _ _ (by assumption) (by assumption)
end Mine
end
section
theorem Mine.fresh6 {prog : Program} {w : World} {A : Around} {E : Value → Shared → Prop} {s : Shared} {Q : Bool → Shared → Prop} (h : wpAny (model prog w) A (truthy (.bool true)) Q E s) : wpAny (model prog w) A (truthy (.bool true)) Q E s := by
  w_top off
  first | (walk1; fail "no") | exact h
namespace Mine
abbrev NoNext (Q : Flow → Shared → Prop) (f : Flow) (s : Shared) : Prop := match f with | .next => False | g => Q g s
section
variable {prog : Program} {w : World} {A : Around} {E : Value → Shared → Prop} {s : Shared} {env : Env} {h₀ : Heap} {target : PySem.Expr} {body orelse : List Stmt} {Q : Flow → Shared → Prop}
theorem forE {it : Value} (h : TurnsAt prog w A h₀ env target body (NoNext Q) E it s) (hE : PassesOwn (model prog w) A env E) :
    codeAny (model prog w) A (.forLoop target it body orelse env) (fun r s' => match r with | .ok f => Q f s' | .error e => cameBackBy (model prog w) A env E e s') s := by
  obtain ⟨I, fp, wr, n, P, Md, St, m, news, J, rfl, W, hLf, hwr, hnw, hst, F, N, h0, step, hQ⟩ := h
  have hLw : env.locals ∉ wr := fun h => hLf (W.sub _ h)
  have keepF : ∀ {h' h₁ : Heap} {m' : Str → Option Value} {news' : List (Addr × Obj)}, Fr h₀ env.locals h' m' → News h₀ env.locals h' news' → (∀ p ∈ news', p.1 ∉ wr) → (∀ b o, b ∉ wr → h'.get? b = some o → h₁.get? b = some o) → Fr h₀ env.locals h₁ m' ∧ News h₀ env.locals h₁ news' := by
    intro h' h₁ m' news' F' N' hn' hk
    refine ⟨⟨F'.ns.at' fun o e => hk _ o hLw e, fun b o e => hk b o (fun hb => ?_) (F'.keep b o e), F'.above⟩, fun p hp => ⟨hk _ _ (hn' p hp) (N' p hp).1, (N' p hp).2⟩⟩
    rw [hwr b hb] at e
    cases e
  refine codeAny_forLoop_any (fun k s' => Mine.Ex5 fun i h' tk m' news' => Mine.And8 (k + i = n + 1) (s' = { s with heap := h', toks := tk }) (St i h') (Fr h₀ env.locals h' m') (News h₀ env.locals h' news') ((∀ p ∈ news', p.1 ∉ wr)) (J i m' news') (i ≤ n)) ?_ (n + 1)
    ⟨0, s.heap, s.toks, m, news, rfl, rfl, hst, F, N, hnw, h0, Nat.zero_le _⟩
  rintro k s' ⟨i, h', tk, m', news', hki, rfl, hst', F', N', hnw', hJ, hin⟩
  by_cases hlt : i < n
  · refine W.item i _ _ _ hlt hst' fun v h₁ tk₁ hMd hk₁ => ?_
    refine W.go i v _ _ _ hMd fun h₂ hP hst₂ hk₂ => ?_
    obtain ⟨F₂, N₂⟩ := keepF F' N' hnw' fun b o hb x => hk₂ b o hb (hk₁ b o hb x)
    have No : News h₀ env.locals h₂ (PyProof.Rows.ownOf h₀ fp h₂) := news_ownOf hLf
    have more : ∀ (m₂ : Str → Option Value) (news₂ : List (Addr × Obj)) (h₃ : Heap) (tk₃ : Nat), Fr h₀ env.locals h₃ m₂ → News h₀ env.locals h₃ (PyProof.Rows.ownOf h₀ fp h₂ ++ news₂) → (∀ p ∈ news₂, p.1 ∉ wr) → J (i + 1) m₂ news₂ →
        ∃ k', k' < k ∧ Mine.Ex5 fun i h' tk m' news' => Mine.And8 (k' + i = n + 1) (({ s with heap := h₃, toks := tk₃ } : Shared) = { s with heap := h', toks := tk }) (St i h') (Fr h₀ env.locals h' m') (News h₀ env.locals h' news') ((∀ p ∈ news', p.1 ∉ wr)) (J i m' news') (i ≤ n) := by
      intro m₂ news₂ h₃ tk₃ F₃ N₃ ha hJ₃
      refine ⟨k - 1, by lia, i + 1, h₃, tk₃, m₂, news₂, by lia, rfl, W.frame _ _ _ hst₂ fun b hb o e => ?_, F₃, N₃.right, ha, hJ₃, hlt⟩
      cases hn : h₀.get? b with
      | some o₀ =>
        have q := F₂.keep b o₀ hn
        rw [e] at q
        rw [Option.some.inj q]
        exact F₃.keep b o₀ hn
      | none => exact (N₃ _ (List.mem_append_left _ (mem_ownOf hb hn e))).1
    refine wpAny_mono (step i v m' news' h₂ tk₁ _ hlt hP hJ hnw' ownOf_sub (fun p hp => (No p hp).1) (fun b hb hn o e => mem_ownOf hb hn e) hst₂ F₂ (No.append N₂)) (fun _ s₂ hb => wpAny_mono hb (fun f s₃ h₃ => ?_) ?_) ?_
    · cases f with
      | ret v => exact h₃
      | brk => exact h₃.elim
      | cont => obtain ⟨_, h₃', tk₃, m₂, news₂, rfl, F₃, N₃, ha₃, hJ₃⟩ := h₃; exact more m₂ news₂ h₃' tk₃ F₃ N₃ ha₃ hJ₃
      | next => obtain ⟨_, h₃', tk₃, m₂, news₂, rfl, F₃, N₃, ha₃, hJ₃⟩ := h₃; exact more m₂ news₂ h₃' tk₃ F₃ N₃ ha₃ hJ₃
    · exact hE
    · exact hE
  · have hin' : i = n := by lia
    subst hin'
    refine W.done _ _ _ hst' fun h₁ tk₁ hk₁ => ?_
    obtain ⟨F₁, N₁⟩ := keepF F' N' hnw' hk₁
    exact (hQ h₁ tk₁ m' news' F₁ N₁ hnw' hJ).elim
theorem For_E {iter : PySem.Expr} {pos : Pos} {m : Str → Option Value} (_F : Fr h₀ env.locals s.heap m)
    (h : wpAny (model prog w) A (eval iter env) (fun xv s₁ => wpAny (model prog w) A (pyIter xv) (fun it s₂ => TurnsAt prog w A h₀ env target body (NoNext Q) E it s₂) E s₁) E s)
    (hs : ∀ x, foldedSetIterable iter env x = pure x := by intro _; rfl)
    (hE : PassesOwn (model prog w) A env E := by passes_own) :
    wpAny (model prog w) A (exec (.For target iter body orelse pos) env) Q E s :=
  wpAny_For (wpAny_mono h (fun xv s₁ h₁ => wpAny_mono h₁ (fun it s₂ h₂ => forE h₂ hE) fun _ _ e => e) fun _ _ e => e) hs
end
end Mine
namespace Mine
section
variable {M : Model} {A : Around} {E : Value → Shared → Prop} {s : Shared}
theorem is_int_same {p : Int} {t u : Tok} {Q : Value → Shared → Prop} (ht : @Ne Nat t 0) (hu : @Ne Nat u 0) (hp : smallInt p = true) (h : Q (.bool true) s) : wpAny M A (compareOp .Is (.int p t) (.int p u)) Q E s := by
  unfold compareOp
  obtain ⟨hp', g, d, tk, os⟩ := s
  wp_walk
  exact h
theorem is_int_other {p q : Int} {t u : Tok} {Q : Value → Shared → Prop} (ht : @Ne Nat t 0) (hu : @Ne Nat u 0) (htu : @Ne Nat t u) (hpq : (p == q) = false) (h : Q (.bool false) s) : wpAny M A (compareOp .Is (.int p t) (.int q u)) Q E s := by
  unfold compareOp
  obtain ⟨hp', g, d, tk, os⟩ := s
  wp_walk
  exact h
end
end Mine
namespace Mine
theorem unr_tail {g h : Heap} {L i l : Addr} {o1 o0 o : Obj} {m' : Str → Option Value} {led : List (Addr × Obj)} {rest : (Str → Option Value) → List (Addr × Obj) → Prop} {s₁ : Shared} {tk : Nat} (F : Fr g L h m') (N : News g L h ((i + 1, o1) :: (i, o0) :: (l, o) :: led)) (hl : ∀ p ∈ (l, o) :: led, p.1 < i)
    (r : rest m' ((l, o) :: led)) : UnrEndW g L s₁ [(i + 1, o1), (i, o0)] rest { s₁ with heap := h, toks := tk } := by
  refine ⟨h, tk, m', (l, o) :: led, rfl, F, N, ?_, r⟩
  intro p hp q hq
  have h1 : @LT.lt Nat _ p.1 i := hl p hp
  rcases List.mem_cons.mp hq with rfl | hq
  · exact Nat.ne_of_lt (Nat.lt_succ_of_lt h1)
  · rw [List.mem_singleton.mp hq]
    exact Nat.ne_of_lt h1
end Mine
set_option hygiene false in
local macro_rules | `(tactic| walk_at "exec For") => `(tactic| (k_here; (rename Fr _ _ _ _ => lF'); (with_unfolding_all refine' Mine.For_E lF' ?_; k_whole)))
set_option hygiene false in
local macro_rules | `(tactic| walk_at "compareOp Is int int") => `(tactic| (k_here; first | (with_reducible refine Mine.is_int_same (by assumption) (by assumption) (by decide) ?_) | (with_reducible refine Mine.is_int_other (by assumption) (by assumption) (by assumption) (by decide) ?_)))
namespace Mine
set_option maxHeartbeats 8000000 in
theorem ixo0_ctr {prog : Program} {w : World} {l n : Nat} {t0 t1 tb : Tok} {led : List (Addr × Obj)} (h0 : @Ne Nat t0 0) (hb : @Ne Nat tb 0)  :
    Ctr prog w 3 178 [.ref l, .int 1 tb] ((l, listOf #[.int 1 t0, .int 1 t1] n) :: led) fun k => ∀ t', k (.int 0 t') ((l, listOf #[.int 1 t0, .int 1 t1] n) :: led) := by
  unfold Ctr
  intro p loose mean mg mb dp un gd cn cs a ccd cl outer A₀ base h₀ L m s Q E B F X N T hk hd hu hret
  refine wpAny_call ?_
  (first | k_dflt ((refine' code_def ?k1z16 ?k2z16 ?k3z16 ?k4z16 ?k5z16 ?kAz16 ?kFz16 ?kKz16 ?k6z16 ?k7z16 ?k8z16 ?k9z16 ?kBz16 ?_ ?c2z16 ?c3z16 ?c4z16 ?c5z16; (case kAz16 => exact rfl); (case kFz16 => exact rfl); (case kKz16 => assumption); (case k1z16 => k_asm); (case k2z16 => k_asm); (case k3z16 => k_asm); (case k4z16 => k_asm); (case k5z16 => k_asm); (case k6z16 => k_is); (case k7z16 => k_is); (case k8z16 => ktr_room); (case k9z16 => first | exact BindsTo.of_eq rfl | exact binds_K (by k_in) rfl (by k_is) rfl rfl rfl); (case c5z16 => decide); (case kBz16 => exact locs rfl); (case c2z16 => exact rfl); (case c3z16 => exact rfl); (case c4z16 => exact rfl); k_whole; intro g' L' h' FG' F' N' B' X' T'; (try dsimp only); (try k_lift B'); (try k_fold))) | k_dflt ((refine' code_defC ?k1z17 ?k2z17 ?k3z17 ?k4z17 ?k5z17 ?kAz17 ?kFz17 ?kKz17 ?k6z17 ?k7z17 ?k8z17 ?k9z17 ?kBz17 ?kDz17 ?_ ?c2z17 ?c3z17 ?c4z17; (case kAz17 => exact rfl); (case kFz17 => exact rfl); (case kKz17 => assumption); (case k1z17 => k_asm); (case k2z17 => k_asm); (case k3z17 => k_asm); (case k4z17 => k_asm); (case k5z17 => k_asm); (case k6z17 => k_is); (case k7z17 => k_is); (case k8z17 => ktr_room); (case k9z17 => first | exact BindsTo.of_eq rfl | exact binds_K (by k_in) rfl (by k_is) rfl rfl rfl); (case kBz17 => exact rfl); (case kDz17 => decide +kernel); (case c2z17 => exact rfl); (case c3z17 => exact rfl); (case c4z17 => exact rfl); k_whole; intro g' L' h' tk' cells' FG' F' N' Y' B' X' T' l1; (have hO := Mine.old_of l1); (try k_lt l1); k_cells Y'; (try simp only [List.cons_append, List.nil_append] at N'); (try dsimp only); (try k_lift B'); (try k_fold))))
  (repeat' (first | ((fail_if_success (fail_if_success k_unfold)); (first | refine (let s9 := _; (?_ : wpAny _ _ _ _ _ s9)) | k_unfold)) | (k_end; wrow_close) | ((fail_if_success (fail_if_success k_fold)); (refine (let q9 := _; (?_ : wpAny _ _ _ q9 _ _))); (first | ((with_reducible show UnrEndW _ _ _ _ _ _); k_dflt (refine Mine.unr_tail (by k_asm) (by k_asm) (by assumption) ⟨⟨.head _, trivial⟩, ?_⟩)) | ((with_reducible show wpAny _ _ (call (Value.type "enumerate") _) _ _ _); (rename Fr _ _ _ _ => lF'); (rename News _ _ _ _ => lN'); (with_unfolding_all refine ktu_enum (lo := PySem.W.listOf #[.int 1 _, .int 1 _] _) (vs := [.int 1 _, .int 1 _]) (xs := [Itm.pair (fun t => Value.int (0 : Int) t) (.int 1 _), Itm.pair (fun t => Value.int (1 : Int) t) (.int 1 _)]) (by rfl) lF' lN' (by k_mem) (by rfl) (by rfl) (by rfl) ?_); clear lF'; intro i' l1; (try k_lt l1)) | walk1)) | (first | ((with_reducible show UnrEndW _ _ _ _ _ _); k_dflt (refine Mine.unr_tail (by k_asm) (by k_asm) (by assumption) ⟨⟨.head _, trivial⟩, ?_⟩)) | ((with_reducible show wpAny _ _ (call (Value.type "enumerate") _) _ _ _); (rename Fr _ _ _ _ => lF'); (rename News _ _ _ _ => lN'); (with_unfolding_all refine ktu_enum (lo := PySem.W.listOf #[.int 1 _, .int 1 _] _) (vs := [.int 1 _, .int 1 _]) (xs := [Itm.pair (fun t => Value.int (0 : Int) t) (.int 1 _), Itm.pair (fun t => Value.int (1 : Int) t) (.int 1 _)]) (by rfl) lF' lN' (by k_mem) (by rfl) (by rfl) (by rfl) ?_); clear lF'; intro i' l1; (try k_lt l1)) | walk1) | (dsimp only [List.nil_append, List.cons_append]; (first | ((with_reducible show UnrEndW _ _ _ _ _ _); k_dflt (refine Mine.unr_tail (by k_asm) (by k_asm) (by assumption) ⟨⟨.head _, trivial⟩, ?_⟩)) | ((with_reducible show wpAny _ _ (call (Value.type "enumerate") _) _ _ _); (rename Fr _ _ _ _ => lF'); (rename News _ _ _ _ => lN'); (with_unfolding_all refine ktu_enum (lo := PySem.W.listOf #[.int 1 _, .int 1 _] _) (vs := [.int 1 _, .int 1 _]) (xs := [Itm.pair (fun t => Value.int (0 : Int) t) (.int 1 _), Itm.pair (fun t => Value.int (1 : Int) t) (.int 1 _)]) (by rfl) lF' lN' (by k_mem) (by rfl) (by rfl) (by rfl) ?_); clear lF'; intro i' l1; (try k_lt l1)) | walk1)) | (leave1; walk_say "STEP leave1"; try dsimp only) | fail "no step"))
  exact hret _ _ _ _ (by assumption) (news_sub (by assumption) (fun p hp => by (repeat (first | exact hp | apply List.mem_cons_of_mem))))
end Mine
namespace Mine
set_option maxHeartbeats 8000000 in
theorem ixo1_ctr {prog : Program} {w : World} {l n : Nat} {t0 t1 t2 tb : Tok} {led : List (Addr × Obj)} (h0 : @Ne Nat t0 0) (h1 : @Ne Nat t1 0) (hb : @Ne Nat tb 0) (g0 : @Ne Nat t0 tb) :
    Ctr prog w 3 178 [.ref l, .int 1 tb] ((l, listOf #[.int 0 t0, .int 1 t1, .int 1 t2] n) :: led) fun k => ∀ t', k (.int 1 t') ((l, listOf #[.int 0 t0, .int 1 t1, .int 1 t2] n) :: led) := by
  unfold Ctr
  intro p loose mean mg mb dp un gd cn cs a ccd cl outer A₀ base h₀ L m s Q E B F X N T hk hd hu hret
  refine wpAny_call ?_
  (first | k_dflt ((refine' code_def ?k1z18 ?k2z18 ?k3z18 ?k4z18 ?k5z18 ?kAz18 ?kFz18 ?kKz18 ?k6z18 ?k7z18 ?k8z18 ?k9z18 ?kBz18 ?_ ?c2z18 ?c3z18 ?c4z18 ?c5z18; (case kAz18 => exact rfl); (case kFz18 => exact rfl); (case kKz18 => assumption); (case k1z18 => k_asm); (case k2z18 => k_asm); (case k3z18 => k_asm); (case k4z18 => k_asm); (case k5z18 => k_asm); (case k6z18 => k_is); (case k7z18 => k_is); (case k8z18 => ktr_room); (case k9z18 => first | exact BindsTo.of_eq rfl | exact binds_K (by k_in) rfl (by k_is) rfl rfl rfl); (case c5z18 => decide); (case kBz18 => exact locs rfl); (case c2z18 => exact rfl); (case c3z18 => exact rfl); (case c4z18 => exact rfl); k_whole; intro g' L' h' FG' F' N' B' X' T'; (try dsimp only); (try k_lift B'); (try k_fold))) | k_dflt ((refine' code_defC ?k1z19 ?k2z19 ?k3z19 ?k4z19 ?k5z19 ?kAz19 ?kFz19 ?kKz19 ?k6z19 ?k7z19 ?k8z19 ?k9z19 ?kBz19 ?kDz19 ?_ ?c2z19 ?c3z19 ?c4z19; (case kAz19 => exact rfl); (case kFz19 => exact rfl); (case kKz19 => assumption); (case k1z19 => k_asm); (case k2z19 => k_asm); (case k3z19 => k_asm); (case k4z19 => k_asm); (case k5z19 => k_asm); (case k6z19 => k_is); (case k7z19 => k_is); (case k8z19 => ktr_room); (case k9z19 => first | exact BindsTo.of_eq rfl | exact binds_K (by k_in) rfl (by k_is) rfl rfl rfl); (case kBz19 => exact rfl); (case kDz19 => decide +kernel); (case c2z19 => exact rfl); (case c3z19 => exact rfl); (case c4z19 => exact rfl); k_whole; intro g' L' h' tk' cells' FG' F' N' Y' B' X' T' l1; (have hO := Mine.old_of l1); (try k_lt l1); k_cells Y'; (try simp only [List.cons_append, List.nil_append] at N'); (try dsimp only); (try k_lift B'); (try k_fold))))
  (repeat' (first | ((fail_if_success (fail_if_success k_unfold)); (first | refine (let s9 := _; (?_ : wpAny _ _ _ _ _ s9)) | k_unfold)) | (k_end; wrow_close) | ((fail_if_success (fail_if_success k_fold)); (refine (let q9 := _; (?_ : wpAny _ _ _ q9 _ _))); (first | ((with_reducible show UnrEndW _ _ _ _ _ _); k_dflt (refine Mine.unr_tail (by k_asm) (by k_asm) (by assumption) ⟨⟨.head _, trivial⟩, ?_⟩)) | ((with_reducible show wpAny _ _ (call (Value.type "enumerate") _) _ _ _); (rename Fr _ _ _ _ => lF'); (rename News _ _ _ _ => lN'); (with_unfolding_all refine ktu_enum (lo := PySem.W.listOf #[.int 0 _, .int 1 _, .int 1 _] _) (vs := [.int 0 _, .int 1 _, .int 1 _]) (xs := [Itm.pair (fun t => Value.int (0 : Int) t) (.int 0 _), Itm.pair (fun t => Value.int (1 : Int) t) (.int 1 _), Itm.pair (fun t => Value.int (2 : Int) t) (.int 1 _)]) (by rfl) lF' lN' (by k_mem) (by rfl) (by rfl) (by rfl) ?_); clear lF'; intro i' l1; (try k_lt l1)) | walk1)) | (first | ((with_reducible show UnrEndW _ _ _ _ _ _); k_dflt (refine Mine.unr_tail (by k_asm) (by k_asm) (by assumption) ⟨⟨.head _, trivial⟩, ?_⟩)) | ((with_reducible show wpAny _ _ (call (Value.type "enumerate") _) _ _ _); (rename Fr _ _ _ _ => lF'); (rename News _ _ _ _ => lN'); (with_unfolding_all refine ktu_enum (lo := PySem.W.listOf #[.int 0 _, .int 1 _, .int 1 _] _) (vs := [.int 0 _, .int 1 _, .int 1 _]) (xs := [Itm.pair (fun t => Value.int (0 : Int) t) (.int 0 _), Itm.pair (fun t => Value.int (1 : Int) t) (.int 1 _), Itm.pair (fun t => Value.int (2 : Int) t) (.int 1 _)]) (by rfl) lF' lN' (by k_mem) (by rfl) (by rfl) (by rfl) ?_); clear lF'; intro i' l1; (try k_lt l1)) | walk1) | (dsimp only [List.nil_append, List.cons_append]; (first | ((with_reducible show UnrEndW _ _ _ _ _ _); k_dflt (refine Mine.unr_tail (by k_asm) (by k_asm) (by assumption) ⟨⟨.head _, trivial⟩, ?_⟩)) | ((with_reducible show wpAny _ _ (call (Value.type "enumerate") _) _ _ _); (rename Fr _ _ _ _ => lF'); (rename News _ _ _ _ => lN'); (with_unfolding_all refine ktu_enum (lo := PySem.W.listOf #[.int 0 _, .int 1 _, .int 1 _] _) (vs := [.int 0 _, .int 1 _, .int 1 _]) (xs := [Itm.pair (fun t => Value.int (0 : Int) t) (.int 0 _), Itm.pair (fun t => Value.int (1 : Int) t) (.int 1 _), Itm.pair (fun t => Value.int (2 : Int) t) (.int 1 _)]) (by rfl) lF' lN' (by k_mem) (by rfl) (by rfl) (by rfl) ?_); clear lF'; intro i' l1; (try k_lt l1)) | walk1)) | (leave1; walk_say "STEP leave1"; try dsimp only) | fail "no step"))
  exact hret _ _ _ _ (by assumption) (news_sub (by assumption) (fun p hp => by (repeat (first | exact hp | apply List.mem_cons_of_mem))))
end Mine
namespace Mine
set_option maxHeartbeats 8000000 in
theorem ixo2_ctr {prog : Program} {w : World} {l n : Nat} {t0 t1 t2 t3 tb : Tok} {led : List (Addr × Obj)} (h0 : @Ne Nat t0 0) (h1 : @Ne Nat t1 0) (h2 : @Ne Nat t2 0) (hb : @Ne Nat tb 0) (g0 : @Ne Nat t0 tb) (g1 : @Ne Nat t1 tb) :
    Ctr prog w 3 178 [.ref l, .int 1 tb] ((l, listOf #[.int 0 t0, .int 0 t1, .int 1 t2, .int 1 t3] n) :: led) fun k => ∀ t', k (.int 2 t') ((l, listOf #[.int 0 t0, .int 0 t1, .int 1 t2, .int 1 t3] n) :: led) := by
  unfold Ctr
  intro p loose mean mg mb dp un gd cn cs a ccd cl outer A₀ base h₀ L m s Q E B F X N T hk hd hu hret
  refine wpAny_call ?_
  (first | k_dflt ((refine' code_def ?k1z20 ?k2z20 ?k3z20 ?k4z20 ?k5z20 ?kAz20 ?kFz20 ?kKz20 ?k6z20 ?k7z20 ?k8z20 ?k9z20 ?kBz20 ?_ ?c2z20 ?c3z20 ?c4z20 ?c5z20; (case kAz20 => exact rfl); (case kFz20 => exact rfl); (case kKz20 => assumption); (case k1z20 => k_asm); (case k2z20 => k_asm); (case k3z20 => k_asm); (case k4z20 => k_asm); (case k5z20 => k_asm); (case k6z20 => k_is); (case k7z20 => k_is); (case k8z20 => ktr_room); (case k9z20 => first | exact BindsTo.of_eq rfl | exact binds_K (by k_in) rfl (by k_is) rfl rfl rfl); (case c5z20 => decide); (case kBz20 => exact locs rfl); (case c2z20 => exact rfl); (case c3z20 => exact rfl); (case c4z20 => exact rfl); k_whole; intro g' L' h' FG' F' N' B' X' T'; (try dsimp only); (try k_lift B'); (try k_fold))) | k_dflt ((refine' code_defC ?k1z21 ?k2z21 ?k3z21 ?k4z21 ?k5z21 ?kAz21 ?kFz21 ?kKz21 ?k6z21 ?k7z21 ?k8z21 ?k9z21 ?kBz21 ?kDz21 ?_ ?c2z21 ?c3z21 ?c4z21; (case kAz21 => exact rfl); (case kFz21 => exact rfl); (case kKz21 => assumption); (case k1z21 => k_asm); (case k2z21 => k_asm); (case k3z21 => k_asm); (case k4z21 => k_asm); (case k5z21 => k_asm); (case k6z21 => k_is); (case k7z21 => k_is); (case k8z21 => ktr_room); (case k9z21 => first | exact BindsTo.of_eq rfl | exact binds_K (by k_in) rfl (by k_is) rfl rfl rfl); (case kBz21 => exact rfl); (case kDz21 => decide +kernel); (case c2z21 => exact rfl); (case c3z21 => exact rfl); (case c4z21 => exact rfl); k_whole; intro g' L' h' tk' cells' FG' F' N' Y' B' X' T' l1; (have hO := Mine.old_of l1); (try k_lt l1); k_cells Y'; (try simp only [List.cons_append, List.nil_append] at N'); (try dsimp only); (try k_lift B'); (try k_fold))))
  (repeat' (first | ((fail_if_success (fail_if_success k_unfold)); (first | refine (let s9 := _; (?_ : wpAny _ _ _ _ _ s9)) | k_unfold)) | (k_end; wrow_close) | ((fail_if_success (fail_if_success k_fold)); (refine (let q9 := _; (?_ : wpAny _ _ _ q9 _ _))); (first | ((with_reducible show UnrEndW _ _ _ _ _ _); k_dflt (refine Mine.unr_tail (by k_asm) (by k_asm) (by assumption) ⟨⟨.head _, trivial⟩, ?_⟩)) | ((with_reducible show wpAny _ _ (call (Value.type "enumerate") _) _ _ _); (rename Fr _ _ _ _ => lF'); (rename News _ _ _ _ => lN'); (with_unfolding_all refine ktu_enum (lo := PySem.W.listOf #[.int 0 _, .int 0 _, .int 1 _, .int 1 _] _) (vs := [.int 0 _, .int 0 _, .int 1 _, .int 1 _]) (xs := [Itm.pair (fun t => Value.int (0 : Int) t) (.int 0 _), Itm.pair (fun t => Value.int (1 : Int) t) (.int 0 _), Itm.pair (fun t => Value.int (2 : Int) t) (.int 1 _), Itm.pair (fun t => Value.int (3 : Int) t) (.int 1 _)]) (by rfl) lF' lN' (by k_mem) (by rfl) (by rfl) (by rfl) ?_); clear lF'; intro i' l1; (try k_lt l1)) | walk1)) | (first | ((with_reducible show UnrEndW _ _ _ _ _ _); k_dflt (refine Mine.unr_tail (by k_asm) (by k_asm) (by assumption) ⟨⟨.head _, trivial⟩, ?_⟩)) | ((with_reducible show wpAny _ _ (call (Value.type "enumerate") _) _ _ _); (rename Fr _ _ _ _ => lF'); (rename News _ _ _ _ => lN'); (with_unfolding_all refine ktu_enum (lo := PySem.W.listOf #[.int 0 _, .int 0 _, .int 1 _, .int 1 _] _) (vs := [.int 0 _, .int 0 _, .int 1 _, .int 1 _]) (xs := [Itm.pair (fun t => Value.int (0 : Int) t) (.int 0 _), Itm.pair (fun t => Value.int (1 : Int) t) (.int 0 _), Itm.pair (fun t => Value.int (2 : Int) t) (.int 1 _), Itm.pair (fun t => Value.int (3 : Int) t) (.int 1 _)]) (by rfl) lF' lN' (by k_mem) (by rfl) (by rfl) (by rfl) ?_); clear lF'; intro i' l1; (try k_lt l1)) | walk1) | (dsimp only [List.nil_append, List.cons_append]; (first | ((with_reducible show UnrEndW _ _ _ _ _ _); k_dflt (refine Mine.unr_tail (by k_asm) (by k_asm) (by assumption) ⟨⟨.head _, trivial⟩, ?_⟩)) | ((with_reducible show wpAny _ _ (call (Value.type "enumerate") _) _ _ _); (rename Fr _ _ _ _ => lF'); (rename News _ _ _ _ => lN'); (with_unfolding_all refine ktu_enum (lo := PySem.W.listOf #[.int 0 _, .int 0 _, .int 1 _, .int 1 _] _) (vs := [.int 0 _, .int 0 _, .int 1 _, .int 1 _]) (xs := [Itm.pair (fun t => Value.int (0 : Int) t) (.int 0 _), Itm.pair (fun t => Value.int (1 : Int) t) (.int 0 _), Itm.pair (fun t => Value.int (2 : Int) t) (.int 1 _), Itm.pair (fun t => Value.int (3 : Int) t) (.int 1 _)]) (by rfl) lF' lN' (by k_mem) (by rfl) (by rfl) (by rfl) ?_); clear lF'; intro i' l1; (try k_lt l1)) | walk1)) | (leave1; walk_say "STEP leave1"; try dsimp only) | fail "no step"))
  exact hret _ _ _ _ (by assumption) (news_sub (by assumption) (fun p hp => by (repeat (first | exact hp | apply List.mem_cons_of_mem))))
end Mine
namespace Mine
set_option maxHeartbeats 4000000 in
theorem gee_ctr {prog : Program} {w : World} {i j : Int} {t u : Tok} {led : List (Addr × Obj)} :
    Ctr prog w 3 171 [.int i t, .int j u] led fun k => k (.bool (decide (j ≤ i))) led := by
  unfold Ctr
  intro p loose mean mg mb dp un gd cn cs a ccd cl outer A₀ base h₀ L m s Q E B F X N T hk hd hu hret
  refine wpAny_call ?_
  (first | k_dflt ((refine' code_def ?k1z22 ?k2z22 ?k3z22 ?k4z22 ?k5z22 ?kAz22 ?kFz22 ?kKz22 ?k6z22 ?k7z22 ?k8z22 ?k9z22 ?kBz22 ?_ ?c2z22 ?c3z22 ?c4z22 ?c5z22; (case kAz22 => exact rfl); (case kFz22 => exact rfl); (case kKz22 => assumption); (case k1z22 => k_asm); (case k2z22 => k_asm); (case k3z22 => k_asm); (case k4z22 => k_asm); (case k5z22 => k_asm); (case k6z22 => k_is); (case k7z22 => k_is); (case k8z22 => ktr_room); (case k9z22 => first | exact BindsTo.of_eq rfl | exact binds_K (by k_in) rfl (by k_is) rfl rfl rfl); (case c5z22 => decide); (case kBz22 => exact locs rfl); (case c2z22 => exact rfl); (case c3z22 => exact rfl); (case c4z22 => exact rfl); k_whole; intro g' L' h' FG' F' N' B' X' T'; (try dsimp only); (try k_lift B'); (try k_fold))) | k_dflt ((refine' code_defC ?k1z23 ?k2z23 ?k3z23 ?k4z23 ?k5z23 ?kAz23 ?kFz23 ?kKz23 ?k6z23 ?k7z23 ?k8z23 ?k9z23 ?kBz23 ?kDz23 ?_ ?c2z23 ?c3z23 ?c4z23; (case kAz23 => exact rfl); (case kFz23 => exact rfl); (case kKz23 => assumption); (case k1z23 => k_asm); (case k2z23 => k_asm); (case k3z23 => k_asm); (case k4z23 => k_asm); (case k5z23 => k_asm); (case k6z23 => k_is); (case k7z23 => k_is); (case k8z23 => ktr_room); (case k9z23 => first | exact BindsTo.of_eq rfl | exact binds_K (by k_in) rfl (by k_is) rfl rfl rfl); (case kBz23 => exact rfl); (case kDz23 => decide +kernel); (case c2z23 => exact rfl); (case c3z23 => exact rfl); (case c4z23 => exact rfl); k_whole; intro g' L' h' tk' cells' FG' F' N' Y' B' X' T' l1; (have hO := Mine.old_of l1); (try k_lt l1); k_cells Y'; (try simp only [List.cons_append, List.nil_append] at N'); (try dsimp only); (try k_lift B'); (try k_fold))))
  (repeat' (first | ((fail_if_success (fail_if_success k_unfold)); (first | refine (let s9 := _; (?_ : wpAny _ _ _ _ _ s9)) | k_unfold)) | (k_end; wrow_close) | ((fail_if_success (fail_if_success k_fold)); (refine (let q9 := _; (?_ : wpAny _ _ _ q9 _ _))); walk1) | walk1 | (dsimp only [List.nil_append, List.cons_append]; walk1) | (leave1; walk_say "STEP leave1"; try dsimp only) | fail "no step"))
  exact hret _ _ _ (by assumption) (by assumption)
end Mine
end
section
theorem Mine.fresh7 {prog : Program} {w : World} {A : Around} {E : Value → Shared → Prop} {s : Shared} {Q : Bool → Shared → Prop} (h : wpAny (model prog w) A (truthy (.bool true)) Q E s) : wpAny (model prog w) A (truthy (.bool true)) Q E s := by
  w_top off
  first | (walk1; fail "no") | exact h
namespace Mine
theorem getm_sub {prog : Program} {w : World} {A : Around} {E : Value → Shared → Prop} {s : Shared} {h₀ : Heap} {L : Addr} {m : Str → Option Value} {pl : Sem Bool} {Q : Value × List Value → Shared → Prop}
    (F : Fr h₀ L s.heap m) (X : (hdA.heap_39 w.params).In h₀) (h : Q (.builtin "re.Pattern.sub", [.ref 114]) s) : wpAny (model prog w) A (getMethod (.ref 114) "sub" pl) Q E s :=
  getMethod_builtin ⟨_, F.keep _ _ (pat_K X), rfl⟩ plainAttrs_rePattern slot_sub type_sub (fun a e => by cases e; exact ⟨_, F.keep _ _ (pat_K X), rfl⟩) h
theorem fn157 {w : World} {h : Heap} (X : (hdA.heap_39 w.params).In h) : ∃ o, h.get? 157 = some o ∧ o.cls = .type "function" := ⟨_, X _ _ rfl, rfl⟩
theorem callk_sub {prog : Program} {w : World} {E : Value → Shared → Prop} {p : Program} {loose : List Str} {mean : ExcName → Option Value} {mg mb : Str → Option Value} {dp un : Nat} {gd : Option (List Code)} {cn : Str} {cs : Scope} {a : Addr} {ccd : Value} {cl : List (Str × Addr)} {outer : List Env} {A₀ : Around} {base h₀ : Heap} {L : Addr} {m : Str → Option Value}
    {x : Str} {t : Tok} {led : List (Addr × Obj)} {s : Shared} {Q : Value → Shared → Prop} {out : List Str} (B : Below A₀ base outer h₀) (F : Fr h₀ L s.heap m) (X : (hdA.heap_39 w.params).In h₀) (N : News h₀ L s.heap led) (T : Top p loose mean mg mb h₀) (hk : cs.kind = .function) (hd : dp + 4 < recursionLimit) (hu : un + 33 < cLine)
    (hx : x.length ≤ 100) (hs : subOk x.cps 60 0 = some out)
    (H : ∀ t' h' dr' tk', Fr h₀ L h' m → News h₀ L h' led → Q (.str (Txt.join (Str.ofString "") out) t') { s with heap := h', drawn := dr', toks := tk' }) :
    wpAny (model prog w) (ktrTop dp un gd cn cs L a ccd cl outer) (call (.builtin "re.Pattern.sub") [.ref 114, .ref 157, .str x t]) Q E s := by
  obtain ⟨o, ho, hc⟩ := fn157 X
  exact call_sub B X T hk hd hu hx (F.keep _ _ ho) hc F N hs H
end Mine
namespace Mine
set_option maxHeartbeats 4000000 in
theorem hdec_ctr {prog : Program} {w : World} {x : Str} {t : Tok} {out : List Str} {led : List (Addr × Obj)} (hx : x.length ≤ 100) (hr : (Txt.replace x (Str.ofString "_") (Str.ofString " ")).length ≤ 100) (hs : subOk (Txt.replace x (Str.ofString "_") (Str.ofString " ")).cps 60 0 = some out) :
    Ctr prog w 6 164 [.str x t] led fun k => ∀ t', k (.str (Txt.join (Str.ofString "") out) t') led := by
  unfold Ctr
  intro p loose mean mg mb dp un gd cn cs a ccd cl outer A₀ base h₀ L m s Q E B F X N T hk hd hu hret
  refine wpAny_call ?_
  (first | k_dflt ((refine' code_def ?k1z24 ?k2z24 ?k3z24 ?k4z24 ?k5z24 ?kAz24 ?kFz24 ?kKz24 ?k6z24 ?k7z24 ?k8z24 ?k9z24 ?kBz24 ?_ ?c2z24 ?c3z24 ?c4z24 ?c5z24; (case kAz24 => exact rfl); (case kFz24 => exact rfl); (case kKz24 => assumption); (case k1z24 => k_asm); (case k2z24 => k_asm); (case k3z24 => k_asm); (case k4z24 => k_asm); (case k5z24 => k_asm); (case k6z24 => k_is); (case k7z24 => k_is); (case k8z24 => ktr_room); (case k9z24 => first | exact BindsTo.of_eq rfl | exact binds_K (by k_in) rfl (by k_is) rfl rfl rfl); (case c5z24 => decide); (case kBz24 => exact locs rfl); (case c2z24 => exact rfl); (case c3z24 => exact rfl); (case c4z24 => exact rfl); k_whole; intro g' L' h' FG' F' N' B' X' T'; (try dsimp only); (try k_lift B'); (try k_fold))) | k_dflt ((refine' code_defC ?k1z25 ?k2z25 ?k3z25 ?k4z25 ?k5z25 ?kAz25 ?kFz25 ?kKz25 ?k6z25 ?k7z25 ?k8z25 ?k9z25 ?kBz25 ?kDz25 ?_ ?c2z25 ?c3z25 ?c4z25; (case kAz25 => exact rfl); (case kFz25 => exact rfl); (case kKz25 => assumption); (case k1z25 => k_asm); (case k2z25 => k_asm); (case k3z25 => k_asm); (case k4z25 => k_asm); (case k5z25 => k_asm); (case k6z25 => k_is); (case k7z25 => k_is); (case k8z25 => ktr_room); (case k9z25 => first | exact BindsTo.of_eq rfl | exact binds_K (by k_in) rfl (by k_is) rfl rfl rfl); (case kBz25 => exact rfl); (case kDz25 => decide +kernel); (case c2z25 => exact rfl); (case c3z25 => exact rfl); (case c4z25 => exact rfl); k_whole; intro g' L' h' tk' cells' FG' F' N' Y' B' X' T' l1; (have hO := Mine.old_of l1); (try k_lt l1); k_cells Y'; (try simp only [List.cons_append, List.nil_append] at N'); (try dsimp only); (try k_lift B'); (try k_fold))))
  (repeat' (first | ((fail_if_success (fail_if_success k_unfold)); (refine (?_ : wpAny _ _ _ _ _ _)); (try dsimp only [List.nil_append, List.cons_append])) | (k_unfold; (try dsimp only [List.nil_append, List.cons_append])) | (k_end; wrow_close) | ((fail_if_success (fail_if_success k_fold)); (refine (let q9 := _; (?_ : wpAny _ _ _ q9 _ _))); (first | (with_reducible refine Mine.getm_sub (by k_asm) (by k_asm) ?_) | ((with_reducible show wpAny _ _ (call (Value.builtin "re.Pattern.sub") _) _ _ _); k_dflt refine Mine.callk_sub (by k_asm) (by k_asm) (by k_asm) (by k_asm) (by k_asm) (by first | exact rfl | assumption) (by ktr_room) (by ktr_units) (by assumption) (by assumption) ?_; intro t' h' dr' tk' F' N'; (try dsimp only); (try k_fold); (try k_sweep)) | ((with_reducible show wpAny _ _ (call (Value.builtin "str.replace") _ _) _ _ _); (with_reducible refine SC.replaceW (by k_dflt k_ne) (by k_dflt k_ne) (by k_dflt k_ne) (by decide +kernel) (by first | omega | assumption) (by decide +kernel) ?_); intro t' k') | ((with_reducible show wpAny _ _ (call (Value.builtin "str.rstrip") _ _) _ _ _); (fail_if_success (with_reducible show wpAny _ _ _ (Mine.TokQ _ _) _ _)); (with_reducible refine Mine.tokQ (by k_dflt ((try dsimp only); omega)) ?_)) | ((with_reducible refine Mine.tokQ_in ?_); intro htk9; (try dsimp only at htk9)) | ((with_reducible show wpAny _ _ (execs (_ :: _) _) _ _ _); (with_reducible refine Mine.gentoks (by k_dflt ((fail_if_success assumption); first | omega | ((try dsimp only); omega) | exact Mine.one_le_add rfl)) ?_); intro tk htk9) | walk1)) | (first | (with_reducible refine Mine.getm_sub (by k_asm) (by k_asm) ?_) | ((with_reducible show wpAny _ _ (call (Value.builtin "re.Pattern.sub") _) _ _ _); k_dflt refine Mine.callk_sub (by k_asm) (by k_asm) (by k_asm) (by k_asm) (by k_asm) (by first | exact rfl | assumption) (by ktr_room) (by ktr_units) (by assumption) (by assumption) ?_; intro t' h' dr' tk' F' N'; (try dsimp only); (try k_fold); (try k_sweep)) | ((with_reducible show wpAny _ _ (call (Value.builtin "str.replace") _ _) _ _ _); (with_reducible refine SC.replaceW (by k_dflt k_ne) (by k_dflt k_ne) (by k_dflt k_ne) (by decide +kernel) (by first | omega | assumption) (by decide +kernel) ?_); intro t' k') | ((with_reducible show wpAny _ _ (call (Value.builtin "str.rstrip") _ _) _ _ _); (fail_if_success (with_reducible show wpAny _ _ _ (Mine.TokQ _ _) _ _)); (with_reducible refine Mine.tokQ (by k_dflt ((try dsimp only); omega)) ?_)) | ((with_reducible refine Mine.tokQ_in ?_); intro htk9; (try dsimp only at htk9)) | ((with_reducible show wpAny _ _ (execs (_ :: _) _) _ _ _); (with_reducible refine Mine.gentoks (by k_dflt ((fail_if_success assumption); first | omega | ((try dsimp only); omega) | exact Mine.one_le_add rfl)) ?_); intro tk htk9) | walk1) | (dsimp only; (first | (with_reducible refine Mine.getm_sub (by k_asm) (by k_asm) ?_) | ((with_reducible show wpAny _ _ (call (Value.builtin "re.Pattern.sub") _) _ _ _); k_dflt refine Mine.callk_sub (by k_asm) (by k_asm) (by k_asm) (by k_asm) (by k_asm) (by first | exact rfl | assumption) (by ktr_room) (by ktr_units) (by assumption) (by assumption) ?_; intro t' h' dr' tk' F' N'; (try dsimp only); (try k_fold); (try k_sweep)) | ((with_reducible show wpAny _ _ (call (Value.builtin "str.replace") _ _) _ _ _); (with_reducible refine SC.replaceW (by k_dflt k_ne) (by k_dflt k_ne) (by k_dflt k_ne) (by decide +kernel) (by first | omega | assumption) (by decide +kernel) ?_); intro t' k') | ((with_reducible show wpAny _ _ (call (Value.builtin "str.rstrip") _ _) _ _ _); (fail_if_success (with_reducible show wpAny _ _ _ (Mine.TokQ _ _) _ _)); (with_reducible refine Mine.tokQ (by k_dflt ((try dsimp only); omega)) ?_)) | ((with_reducible refine Mine.tokQ_in ?_); intro htk9; (try dsimp only at htk9)) | ((with_reducible show wpAny _ _ (execs (_ :: _) _) _ _ _); (with_reducible refine Mine.gentoks (by k_dflt ((fail_if_success assumption); first | omega | ((try dsimp only); omega) | exact Mine.one_le_add rfl)) ?_); intro tk htk9) | walk1)) | (leave1; walk_say "STEP leave1"; try dsimp only) | fail "no step"))
  exact hret _ _ _ _ (by assumption) (by assumption)
end Mine
namespace Mine
theorem getm_trans {prog : Program} {w : World} {A : Around} {E : Value → Shared → Prop} {s : Shared} {x : Str} {t : Tok} {pl : Sem Bool} {Q : Value × List Value → Shared → Prop}
    (h : Q (.builtin "str.translate", [.str x t]) s) : wpAny (model prog w) A (getMethod (.str x t) "translate" pl) Q E s :=
  by with_reducible exact GM.of (.str x t) (typeIs_str _ _ _) slot_translate type_translate GM.noRef h
end Mine
namespace Mine
set_option maxHeartbeats 4000000 in
theorem henc_ctr {prog : Program} {w : World} {b : Array UInt8} {x : Str} {t t2 : Tok} {led : List (Addr × Obj)} (hx : x.length ≤ 100) (h0 : 0 < b.size) (hb : b.size ≤ 100)
    (hq1 : (⟨b.map (·.toNat)⟩ : Str).length ≤ 100) (hq2 : 0 < (⟨b.map (·.toNat)⟩ : Str).length) (hq3 : ∀ c ∈ (⟨b.map (·.toNat)⟩ : Str).cps.toList, TrOk c) (hq4 : ((⟨b.map (·.toNat)⟩ : Str).cps.toList.flatMap trC).length ≤ 1000) :
    Ctr prog w 5 145 [.bytes b t, .str x t2] led fun k => ∀ t', k (.str (Str.empty ++ Str.ofString "=?" ++ x ++ Str.ofString "?q?" ++ ⟨(List.flatMap trC (Array.map (fun x => x.toNat) b).toList).toArray⟩ ++ Str.ofString "?=") t') led := by
  unfold Ctr
  intro p loose mean mg mb dp un gd cn cs a ccd cl outer A₀ base h₀ L m s Q E B F X N T hk hd hu hret
  refine wpAny_call ?_
  (first | k_dflt ((refine' code_def ?k1z26 ?k2z26 ?k3z26 ?k4z26 ?k5z26 ?kAz26 ?kFz26 ?kKz26 ?k6z26 ?k7z26 ?k8z26 ?k9z26 ?kBz26 ?_ ?c2z26 ?c3z26 ?c4z26 ?c5z26; (case kAz26 => exact rfl); (case kFz26 => exact rfl); (case kKz26 => assumption); (case k1z26 => k_asm); (case k2z26 => k_asm); (case k3z26 => k_asm); (case k4z26 => k_asm); (case k5z26 => k_asm); (case k6z26 => k_is); (case k7z26 => k_is); (case k8z26 => ktr_room); (case k9z26 => first | exact BindsTo.of_eq rfl | exact binds_K (by k_in) rfl (by k_is) rfl rfl rfl); (case c5z26 => decide); (case kBz26 => exact locs rfl); (case c2z26 => exact rfl); (case c3z26 => exact rfl); (case c4z26 => exact rfl); k_whole; intro g' L' h' FG' F' N' B' X' T'; (try dsimp only); (try k_lift B'); (try k_fold))) | k_dflt ((refine' code_defC ?k1z27 ?k2z27 ?k3z27 ?k4z27 ?k5z27 ?kAz27 ?kFz27 ?kKz27 ?k6z27 ?k7z27 ?k8z27 ?k9z27 ?kBz27 ?kDz27 ?_ ?c2z27 ?c3z27 ?c4z27; (case kAz27 => exact rfl); (case kFz27 => exact rfl); (case kKz27 => assumption); (case k1z27 => k_asm); (case k2z27 => k_asm); (case k3z27 => k_asm); (case k4z27 => k_asm); (case k5z27 => k_asm); (case k6z27 => k_is); (case k7z27 => k_is); (case k8z27 => ktr_room); (case k9z27 => first | exact BindsTo.of_eq rfl | exact binds_K (by k_in) rfl (by k_is) rfl rfl rfl); (case kBz27 => exact rfl); (case kDz27 => decide +kernel); (case c2z27 => exact rfl); (case c3z27 => exact rfl); (case c4z27 => exact rfl); k_whole; intro g' L' h' tk' cells' FG' F' N' Y' B' X' T' l1; (have hO := Mine.old_of l1); (try k_lt l1); k_cells Y'; (try simp only [List.cons_append, List.nil_append] at N'); (try dsimp only); (try k_lift B'); (try k_fold))))
  (repeat' (first | ((fail_if_success (fail_if_success k_unfold)); (refine (?_ : wpAny _ _ _ _ _ _)); (try dsimp only [List.nil_append, List.cons_append])) | (k_unfold; (try dsimp only [List.nil_append, List.cons_append])) | (k_end; wrow_close) | ((fail_if_success (fail_if_success k_fold)); (refine (let q9 := _; (?_ : wpAny _ _ _ q9 _ _))); (first | (with_reducible refine Mine.getm_trans ?_) | ((with_reducible refine Mine.call_latin (by assumption) (by assumption) ?_); intro t' k') | ((with_reducible refine Mine.call_trans (by k_asm) (by k_asm) (by assumption) (by assumption) (by assumption) (by assumption) ?_); intro t' k') | ((with_reducible show wpAny _ _ (call (Value.builtin "str.replace") _ _) _ _ _); (with_reducible refine SC.replaceW (by k_dflt k_ne) (by k_dflt k_ne) (by k_dflt k_ne) (by decide +kernel) (by first | omega | assumption) (by decide +kernel) ?_); intro t' k') | ((with_reducible show wpAny _ _ (call (Value.builtin "str.rstrip") _ _) _ _ _); (fail_if_success (with_reducible show wpAny _ _ _ (Mine.TokQ _ _) _ _)); (with_reducible refine Mine.tokQ (by k_dflt ((try dsimp only); omega)) ?_)) | ((with_reducible refine Mine.tokQ_in ?_); intro htk9; (try dsimp only at htk9)) | ((with_reducible show wpAny _ _ (execs (_ :: _) _) _ _ _); (with_reducible refine Mine.gentoks (by k_dflt ((fail_if_success assumption); first | omega | ((try dsimp only); omega) | exact Mine.one_le_add rfl)) ?_); intro tk htk9) | walk1)) | (first | (with_reducible refine Mine.getm_trans ?_) | ((with_reducible refine Mine.call_latin (by assumption) (by assumption) ?_); intro t' k') | ((with_reducible refine Mine.call_trans (by k_asm) (by k_asm) (by assumption) (by assumption) (by assumption) (by assumption) ?_); intro t' k') | ((with_reducible show wpAny _ _ (call (Value.builtin "str.replace") _ _) _ _ _); (with_reducible refine SC.replaceW (by k_dflt k_ne) (by k_dflt k_ne) (by k_dflt k_ne) (by decide +kernel) (by first | omega | assumption) (by decide +kernel) ?_); intro t' k') | ((with_reducible show wpAny _ _ (call (Value.builtin "str.rstrip") _ _) _ _ _); (fail_if_success (with_reducible show wpAny _ _ _ (Mine.TokQ _ _) _ _)); (with_reducible refine Mine.tokQ (by k_dflt ((try dsimp only); omega)) ?_)) | ((with_reducible refine Mine.tokQ_in ?_); intro htk9; (try dsimp only at htk9)) | ((with_reducible show wpAny _ _ (execs (_ :: _) _) _ _ _); (with_reducible refine Mine.gentoks (by k_dflt ((fail_if_success assumption); first | omega | ((try dsimp only); omega) | exact Mine.one_le_add rfl)) ?_); intro tk htk9) | walk1) | (dsimp only; (first | (with_reducible refine Mine.getm_trans ?_) | ((with_reducible refine Mine.call_latin (by assumption) (by assumption) ?_); intro t' k') | ((with_reducible refine Mine.call_trans (by k_asm) (by k_asm) (by assumption) (by assumption) (by assumption) (by assumption) ?_); intro t' k') | ((with_reducible show wpAny _ _ (call (Value.builtin "str.replace") _ _) _ _ _); (with_reducible refine SC.replaceW (by k_dflt k_ne) (by k_dflt k_ne) (by k_dflt k_ne) (by decide +kernel) (by first | omega | assumption) (by decide +kernel) ?_); intro t' k') | ((with_reducible show wpAny _ _ (call (Value.builtin "str.rstrip") _ _) _ _ _); (fail_if_success (with_reducible show wpAny _ _ _ (Mine.TokQ _ _) _ _)); (with_reducible refine Mine.tokQ (by k_dflt ((try dsimp only); omega)) ?_)) | ((with_reducible refine Mine.tokQ_in ?_); intro htk9; (try dsimp only at htk9)) | ((with_reducible show wpAny _ _ (execs (_ :: _) _) _ _ _); (with_reducible refine Mine.gentoks (by k_dflt ((fail_if_success assumption); first | omega | ((try dsimp only); omega) | exact Mine.one_le_add rfl)) ?_); intro tk htk9) | walk1)) | (leave1; walk_say "STEP leave1"; try dsimp only) | fail "no step"))
  all_goals first | exact hret _ _ _ _ (by assumption) (by assumption) | (exfalso; simp_all; done) | (exfalso; simp_all; omega)
end Mine
namespace Mine
abbrev encS (X : Str) : Str := ⟨(X.cps.toList.flatMap trC).toArray⟩
theorem trC_len (c : Nat) : (trC c).length ≤ 3 := by
  unfold trC
  split
  · decide
  · split <;> exact Nat.le_of_ble_eq_true rfl
theorem flat_len : ∀ l : List Nat, (l.flatMap trC).length ≤ 3 * l.length
  | [] => Nat.le_refl _
  | c :: l => by
    have := flat_len l
    have := trC_len c
    rw [List.flatMap_cons, List.length_append, List.length_cons]
    omega
theorem hencx_ctr {prog : Program} {w : World} {X nm : Str} {t t2 : Tok} {led : List (Addr × Obj)} (hx : nm.length ≤ 100) (h0 : 0 < X.length) (hb : X.length ≤ 13) (hok : ∀ c ∈ X.cps.toList, TrOk c) :
    Ctr prog w 5 145 [.bytes (byteArr (X.cps.toList.map fun c : Nat => ((c : Nat) : Int))) t, .str nm t2] led fun k => ∀ t', k (.str (Str.empty ++ Str.ofString "=?" ++ nm ++ Str.ofString "?q?" ++ encS X ++ Str.ofString "?=") t') led := by
  have e : (byteArr (X.cps.toList.map fun c : Nat => ((c : Nat) : Int))).map (·.toNat) = X.cps := by
    rw [bytes_back (fun c hc => by have := hok c hc; unfold TrOk at this; omega), Array.toArray_toList]
  have hl : X.cps.size = X.length := rfl
  have hz : (byteArr (X.cps.toList.map fun c : Nat => ((c : Nat) : Int))).size = X.length := by
    have := congrArg Array.size e
    rwa [Array.size_map] at this
  have := henc_ctr (prog := prog) (w := w) (b := byteArr (X.cps.toList.map fun c : Nat => ((c : Nat) : Int))) (x := nm) (t := t) (t2 := t2) (led := led) hx (by omega) (by omega) (by rw [e]; show X.cps.size ≤ 100; omega) (by rw [e]; show 0 < X.cps.size; omega) (by rw [e]; exact hok) (by
    rw [e]
    have := flat_len X.cps.toList
    have : X.cps.toList.length = X.cps.size := Array.length_toList
    show (X.cps.toList.flatMap trC).length ≤ 1000
    omega)
  rw [e] at this
  exact this
end Mine
end
section
theorem Mine.fresh8 {prog : Program} {w : World} {A : Around} {E : Value → Shared → Prop} {s : Shared} {Q : Bool → Shared → Prop} (h : wpAny (model prog w) A (truthy (.bool true)) Q E s) : wpAny (model prog w) A (truthy (.bool true)) Q E s := by
  w_top off
  first | (walk1; fail "no") | exact h
local macro_rules | `(tactic| walk_at "binaryOp Add str str") => `(tactic| (k_here; (refine' PyProof.Rows.add_str ?zh ?zs; (case zs => (rw [sizeLine_eq]; omega))); intro t' k'))
local macro_rules | `(tactic| walk_at "execs cons") => `(tactic| (k_here; (with_reducible refine' Mine.gentoks ?h1 ?_); (case h1 => ((fail_if_success assumption); first | omega | ((try dsimp only); omega) | k_dflt (exact Mine.one_le_add rfl))); intro tk htk9))
set_option hygiene false in
local macro_rules | `(tactic| walk_at "TokQ") => `(tactic| (refine Mine.tokQ_in ?_; intro htk9; (try dsimp only at htk9)))
local macro_rules | `(tactic| walk_at "call builtin:str.rstrip") => `(tactic| (k_here; (fail_if_success (with_reducible show wpAny _ _ _ (Mine.TokQ _ _) _ _)); (with_reducible refine' Mine.tokQ ?h1 ?_); (case h1 => ((try dsimp only); omega))))
local macro_rules | `(tactic| walk_at "call builtin:str.replace") => `(tactic| (k_here; (with_reducible refine' SC.replaceW ?zu ?zv ?zuv ?zyz ?zx ?zz ?_); (case zu => k_ne); (case zv => k_ne); (case zuv => k_ne); (case zyz => decide +kernel); (case zx => first | omega | assumption); (case zz => decide +kernel); intro t' k'))
local macro_rules | `(tactic| walk_at "binaryOp Add str str") => `(tactic| (k_here; (fail_if_success (with_reducible show wpAny _ _ _ (Mine.TokQ _ _) _ _)); (with_reducible refine' Mine.tokQ ?h1 ?_); (case h1 => ((try dsimp only); omega))))
local macro_rules | `(tactic| walk_at "call builtin:str.replace") => `(tactic| (k_here; (fail_if_success (with_reducible show wpAny _ _ _ (Mine.TokQ _ _) _ _)); (with_reducible refine' Mine.tokQ ?h1 ?_); (case h1 => ((try dsimp only); omega))))
local macro_rules | `(tactic| walk_at "execs nil") => `(tactic| (k_here; (with_reducible refine' Mine.gentoks ?h1 ?_); (case h1 => ((fail_if_success assumption); first | omega | ((try dsimp only); omega) | k_dflt (exact Mine.one_le_add rfl))); intro tk htk9))
set_option hygiene false in
local macro_rules | `(tactic| walk_at $s) => if ("|eval ListComp|call ref|call type:bytes|exec Assign cons ListComp|call builtin:str.join|eval Dict|".splitOn ("|" ++ s.getString ++ "|")).length = 2 then `(tactic| (with_reducible refine Mine.Hold.h ?_)) else Lean.Macro.throwUnsupported
local macro_rules | `(tactic| walk_at "compareOp NotEq str str") => `(tactic| (k_here; (with_reducible refine' Mine.ne_str_no ?zq1 ?_); (case zq1 => first | assumption | exact rfl)))
namespace Mine
abbrev toldC (c : Nat) : Str := Str.ofString "=" ++ Txt.item (Str.ofString "0123456789abcdef") ((c : Int).fdiv 16) ++ Txt.item (Str.ofString "0123456789abcdef") ((c : Int).fmod 16)
abbrev toldS (X : Str) : Str := Txt.join (Str.ofString "") (X.cps.toList.map toldC)
structure TxtOk (X : Str) (num : Int) : Prop where
  len : X.length ≤ 13
  pos : 0 < X.length
  ok : ∀ c ∈ X.cps.toList, TrOk c
  r1 : (Txt.replace X (Str.ofString "_") (Str.ofString "=5F")).length ≤ 39
  r2 : Txt.replace (Txt.replace X (Str.ofString "_") (Str.ofString "=5F")) (Str.ofString " ") (Str.ofString "_") = encS X
  r3 : (Txt.replace (encS X) (Str.ofString "_") (Str.ofString " ")).length ≤ 100
  dec : ∃ out, subOk (Txt.replace (encS X) (Str.ofString "_") (Str.ofString " ")).cps 60 0 = some out ∧ Txt.join (Str.ofString "") out = X
  tl : (toldS X).length ≤ 39
  t3 : (Txt.replace (toldS X) (Str.ofString "_") (Str.ofString " ")).length ≤ 100
  tec : ∃ out, subOk (Txt.replace (toldS X) (Str.ofString "_") (Str.ofString " ")).cps 60 0 = some out ∧ Txt.join (Str.ofString "") out = X
  il : (ifsT X).length ≤ 100
  iv : PySem.intText? (Txt.slice (ifsT X) (some 0) (some (ifsT X).length)) = some num
theorem toldC_len (c : Nat) (hc : TrOk c) : (toldC c).length = 3 := by
  have h : ∀ c : Fin 100, (c.val = 95 ∨ c.val = 32 ∨ 48 ≤ c.val ∧ c.val ≤ 57) → (toldC c.val).length = 3 := by decide +kernel
  have hb : c < 100 := by unfold TrOk at hc; lia
  exact h ⟨c, hb⟩ hc
theorem told_sum : ∀ l : List Nat, (∀ c ∈ l, TrOk c) → ((l.map toldC).map (·.length)).sum = 3 * l.length
  | [], _ => rfl
  | c :: l, h => by
    rw [List.map_cons, List.map_cons, List.sum_cons, told_sum l (fun d hd => h d (.tail _ hd)), toldC_len c (h c (.head _)), List.length_cons]
    omega
theorem told_ok {X : Str} (h : X.length ≤ 13) (hk : ∀ c ∈ X.cps.toList, TrOk c) : ((X.cps.toList.map toldC).map (·.length)).sum + (X.cps.toList.map toldC).length * (Str.ofString "").length ≤ 16777216 := by
  have e1 := told_sum _ hk
  have e2 : X.cps.toList.length = X.cps.size := Array.length_toList
  have e3 : (Str.ofString "").length = 0 := by decide +kernel
  have e4 : X.cps.size ≤ 13 := h
  rw [e1, e3, Nat.mul_zero, e2]
  omega
theorem drop1 {h₀ h : Heap} {L : Addr} {a : Addr × Obj} {led : List (Addr × Obj)} (N : News h₀ L h (a :: led)) : News h₀ L h led := fun p hp => N p (.tail _ hp)
theorem ones_sum : ∀ l : List Nat, ((l.map fun c : Nat => (⟨#[c]⟩ : Str)).map (·.length)).sum = l.length
  | [] => rfl
  | c :: l => by
    rw [List.map_cons, List.map_cons, List.sum_cons, ones_sum l, List.length_cons]
    show 1 + l.length = _
    omega
theorem signs_ok {X : Str} (h : X.length ≤ 6) : ((X.cps.toList.map fun c : Nat => (⟨#[c]⟩ : Str)).map (·.length)).sum + (X.cps.toList.map fun c : Nat => (⟨#[c]⟩ : Str)).length * (Str.ofString "_").length ≤ 16777216 := by
  have e1 := ones_sum X.cps.toList
  have e2 : X.cps.toList.length = X.cps.size := Array.length_toList
  have e3 : (Str.ofString "_").length = 1 := by decide +kernel
  have e4 : X.cps.size ≤ 6 := h
  rw [e1, e3, List.length_map, e2]
  omega
theorem signs_join_len {X : Str} (h : X.length ≤ 6) : (Txt.join (Str.ofString "_") (X.cps.toList.map fun c : Nat => (⟨#[c]⟩ : Str))).length ≤ 12 := by
  have e3 : (Str.ofString "_").length = 1 := by decide +kernel
  have := len_join_signs (Str.ofString "_") X
  rw [e3] at this
  show (Txt.join (Str.ofString "_") (signs X)).length ≤ 12
  rw [this]
  split <;> omega
abbrev vT1 (how : Int) (T0 : Str) : Str := if (how.fdiv 3).fmod 2 = 1 then Txt.join (Str.ofString "_") (T0.cps.toList.map fun c : Nat => (⟨#[c]⟩ : Str)) else T0
/-- the word: written, sent, read -/
theorem cut_heard {M : Model} {A : Around} {E : Value → Shared → Prop} {s : Shared} {env : Env} {Q : Flow → Shared → Prop} {l : List Stmt} {h₀ : Heap} {L c : Addr} {o : Obj} {m : Str → Option Value} {led : List (Addr × Obj)} (X : Str) (_F : Fr h₀ L s.heap m) (_N : News h₀ L s.heap ((c, o) :: led))
    (h1 : wpAny M A (execs (l.take 2) env) (fun f s' => Hold (f = .next ∧ Mine.Ex7 fun h' dr tk t' u1 u2 o' => Mine.And3 (s' = { s with heap := h', drawn := dr, toks := tk }) (Fr h₀ L h' (fun y => if y = Str.ofString "heard" then some (.str X t') else if y = Str.ofString "word" then u1 else if y = Str.ofString "told" then u2 else m y)) (News h₀ L h' ((c, o') :: led)))) E s)
    (h2 : ∀ h' dr tk t' u1 u2 o', Fr h₀ L h' (fun y => if y = Str.ofString "heard" then some (.str X t') else if y = Str.ofString "word" then u1 else if y = Str.ofString "told" then u2 else m y) → News h₀ L h' ((c, o') :: led) → wpAny M A (execs (l.drop 2) env) Q E { s with heap := h', drawn := dr, toks := tk }) : wpAny M A (execs l env) Q E s :=
  cut_execs 2 (wpAny_mono h1 (by
    rintro f s' ⟨rfl, h', dr, tk, t', u1, u2, o', rfl, F, N⟩
    exact ⟨h2 h' dr tk t' u1 u2 o' F N⟩) fun _ _ e => e)
theorem hold_heard {s : Shared} {h₀ h₁ : Heap} {L c : Addr} {o : Obj} {m m' : Str → Option Value} {led led' : List (Addr × Obj)} {X : Str} {t : Tok} {dr : Drawn} {tk : Nat} (F : Fr h₀ L h₁ m') (N : News h₀ L h₁ led') (hx : m' (Str.ofString "heard") = some (.str X t)) (hm : ∀ y, y ≠ Str.ofString "heard" → y ≠ Str.ofString "word" → y ≠ Str.ofString "told" → m' y = m y) (hs : ∀ p ∈ (c, o) :: led, p ∈ led') :
    Hold (Flow.next = Flow.next ∧ Mine.Ex7 fun h' dr' tk' t' u1 u2 o' => Mine.And3 (({ s with heap := h₁, drawn := dr, toks := tk } : Shared) = { s with heap := h', drawn := dr', toks := tk' }) (Fr h₀ L h' (fun y => if y = Str.ofString "heard" then some (.str X t') else if y = Str.ofString "word" then u1 else if y = Str.ofString "told" then u2 else m y)) (News h₀ L h' ((c, o') :: led))) := by
  refine ⟨rfl, h₁, dr, tk, t, m' (Str.ofString "word"), m' (Str.ofString "told"), o, rfl, ?_, fun p hp => N p (hs p hp)⟩
  refine fr_over F fun y => ?_
  by_cases h1 : y = Str.ofString "heard"
  · subst h1; simp [hx]
  by_cases h2 : y = Str.ofString "word"
  · subst h2; rw [if_neg h1, if_pos rfl]
  by_cases h3 : y = Str.ofString "told"
  · subst h3; rw [if_neg h1, if_neg h2, if_pos rfl]
  rw [if_neg h1, if_neg h2, if_neg h3, hm y h1 h2 h3]
theorem perm5 {h₀ h : Heap} {L : Addr} {a b c d e : Addr × Obj} {led : List (Addr × Obj)} (N : News h₀ L h (a :: b :: c :: d :: e :: led)) : News h₀ L h (d :: e :: a :: b :: c :: led) :=
  news_sub N fun p hp => by ((revert hp; revert p; (repeat (first | exact Mine.sub_nil | (refine Mine.sub_cons ?_ ?_; focus (first | exact Mine.m0 | exact Mine.m1 | exact Mine.m2 | exact Mine.m3 | exact Mine.m4 | exact Mine.m5 | exact Mine.m6 | exact Mine.mAt 7 rfl | exact Mine.mAt 8 rfl | exact Mine.mAt 9 rfl | exact Mine.mAt 10 rfl | exact Mine.mAt 11 rfl | exact Mine.mAt 12 rfl | exact Mine.mAt 13 rfl | exact Mine.mAt 14 rfl | exact Mine.mAt 15 rfl | exact Mine.mAt 16 rfl | exact Mine.mAt 17 rfl | exact Mine.mAt 18 rfl | exact Mine.mAt 19 rfl | exact Mine.mAt 20 rfl | exact Mine.mAt 21 rfl | exact Mine.mAt 22 rfl | exact Mine.mAt 23 rfl | (repeat (first | exact List.Mem.head _ | apply List.mem_cons_of_mem | apply List.mem_append_right)))) | (refine Mine.sub_app ?_ ?_) | (intro p9 hp9; (repeat (first | exact hp9 | exact List.mem_append_left _ hp9 | apply List.mem_cons_of_mem | apply List.mem_append_right)))))))
theorem drop6 {h₀ h : Heap} {L : Addr} {a b c d e f z : Addr × Obj} {led : List (Addr × Obj)} (N : News h₀ L h (a :: b :: c :: d :: e :: f :: z :: led)) : News h₀ L h (a :: b :: c :: d :: e :: f :: led) :=
  news_sub N fun p hp => by ((revert hp; revert p; (repeat (first | exact Mine.sub_nil | (refine Mine.sub_cons ?_ ?_; focus (first | exact Mine.m0 | exact Mine.m1 | exact Mine.m2 | exact Mine.m3 | exact Mine.m4 | exact Mine.m5 | exact Mine.m6 | exact Mine.mAt 7 rfl | exact Mine.mAt 8 rfl | exact Mine.mAt 9 rfl | exact Mine.mAt 10 rfl | exact Mine.mAt 11 rfl | exact Mine.mAt 12 rfl | exact Mine.mAt 13 rfl | exact Mine.mAt 14 rfl | exact Mine.mAt 15 rfl | exact Mine.mAt 16 rfl | exact Mine.mAt 17 rfl | exact Mine.mAt 18 rfl | exact Mine.mAt 19 rfl | exact Mine.mAt 20 rfl | exact Mine.mAt 21 rfl | exact Mine.mAt 22 rfl | exact Mine.mAt 23 rfl | (repeat (first | exact List.Mem.head _ | apply List.mem_cons_of_mem | apply List.mem_append_right)))) | (refine Mine.sub_app ?_ ?_) | (intro p9 hp9; (repeat (first | exact hp9 | exact List.mem_append_left _ hp9 | apply List.mem_cons_of_mem | apply List.mem_append_right)))))))
theorem off104 {y' : Obj} {c2 c' cell : Addr} {o2 o' oo : Obj} {led : List (Addr × Obj)} (h1 : @Ne Nat c' 104) (h2 : @Ne Nat cell 104) (h : ∀ p ∈ (c2, o2) :: led, p.1 ≠ 104) : ∀ p ∈ (90, y') :: (c', o') :: (cell, oo) :: led, p.1 ≠ 104 :=
  List.forall_mem_cons.mpr ⟨(by decide : (90 : Nat) ≠ 104), List.forall_mem_cons.mpr ⟨h1, List.forall_mem_cons.mpr ⟨h2, fun p hp => h p (.tail _ hp)⟩⟩⟩
set_option maxHeartbeats 8000000 in
theorem vote_walk {prog : Program} {w : World} {order writer how width num : Int} {lies : Bool} {t1 t2 t3 t4 : Tok} {x y o1 o2 : Obj} {c1 c2 : Addr} {led : List (Addr × Obj)} (h1 : 0 ≤ order) (h2 : order ≤ 2) (h3 : 0 ≤ writer) (h4 : writer ≤ 4) (h5 : 3 ≤ width) (h6 : width ≤ 6) (h7 : 0 ≤ how)
    (he0 : 0 ≤ width * order) (he1 : width * order ≤ 12) (hm1 : (Txt.mul (Str.ofString "0") (how.fmod 3)).length ≤ 2) (hm2 : (Str.ofString (toString ((2 : Int) ^ (width * order).toNat))).length ≤ 4)
    (hm3 : (Txt.mul (Str.ofString " ") ((how.fdiv 6).fmod 3)).length ≤ 2) (hm4 : (Txt.mul (Str.ofString "0") (how.fmod 3) ++ Str.ofString (toString ((2 : Int) ^ (width * order).toNat))).length ≤ 6)
    (hp0 : 0 ≤ (2 : Int) ^ (width * order).toNat) (hp1 : (2 : Int) ^ (width * order).toNat ≤ 4096) (hnum : num = (2 : Int) ^ (width * order).toNat)
    (hT : TK p104 q104 x c1 o1) (hc1 : (@Ne Nat c1 104)) (hT2 : TK p90 q90 y c2 o2) (hc2 : (@Ne Nat c2 90)) (h104 : ∀ p ∈ (c2, o2) :: led, p.1 ≠ 104) (h90 : ∀ p ∈ (c1, o1) :: led, p.1 ≠ 90)
    (hX : TxtOk (vT1 how (Txt.mul (Str.ofString "0") (how.fmod 3) ++ Str.ofString (toString ((2 : Int) ^ (width * order).toNat))) ++ Txt.mul (Str.ofString " ") ((how.fdiv 6).fmod 3)) num) :
    Ctr prog w 20 205 [.int order t1, .int writer t2, .int how t3, .int width t4, .bool lies] ((104, x) :: (c1, o1) :: (90, y) :: (c2, o2) :: led) fun k => ∀ T D u1 u2 u3 u4 od c' o' c'' o'', KD prog w od [(order, 1), (3, num)] → (∀ p ∈ (104, x) :: (90, y) :: led, p.1 < D) → D < T → CF o' q104 → ((∀ p ∈ (104, x) :: (90, y) :: led, p.1 < c') ∨ c' = c1) → CF o'' q90 → ((∀ p ∈ (90, y) :: (104, x) :: led, p.1 < c'') ∨ c'' = c2) → c' < D → c'' < D →
      k (.ref T) ((T, tupO [.int (writer + 1) u1, .int num u2, .int order u3, .int (order * order) u4, .ref D]) :: (D, od) :: (104, tab104 c') :: (c', o') :: (90, tab90 c'') :: (c'', o'') :: led) := by
  unfold Ctr
  intro p loose mean mg mb dp un gd cn cs a ccd cl outer A₀ base h₀ L m s Q E B F X N T hk hd hu hret
  refine wpAny_call ?_
  (first | k_dflt ((refine' code_def ?k1z28 ?k2z28 ?k3z28 ?k4z28 ?k5z28 ?kAz28 ?kFz28 ?kKz28 ?k6z28 ?k7z28 ?k8z28 ?k9z28 ?kBz28 ?_ ?c2z28 ?c3z28 ?c4z28 ?c5z28; (case kAz28 => exact rfl); (case kFz28 => exact rfl); (case kKz28 => assumption); (case k1z28 => k_asm); (case k2z28 => k_asm); (case k3z28 => k_asm); (case k4z28 => k_asm); (case k5z28 => k_asm); (case k6z28 => k_is); (case k7z28 => k_is); (case k8z28 => ktr_room); (case k9z28 => first | exact BindsTo.of_eq rfl | exact binds_K (by k_in) rfl (by k_is) rfl rfl rfl); (case c5z28 => decide); (case kBz28 => exact locs rfl); (case c2z28 => exact rfl); (case c3z28 => exact rfl); (case c4z28 => exact rfl); k_whole; intro g' L' h' FG' F' N' B' X' T'; (try dsimp only); (try k_lift B'); (try k_fold))) | k_dflt ((refine' code_defC ?k1z29 ?k2z29 ?k3z29 ?k4z29 ?k5z29 ?kAz29 ?kFz29 ?kKz29 ?k6z29 ?k7z29 ?k8z29 ?k9z29 ?kBz29 ?kDz29 ?_ ?c2z29 ?c3z29 ?c4z29; (case kAz29 => exact rfl); (case kFz29 => exact rfl); (case kKz29 => assumption); (case k1z29 => k_asm); (case k2z29 => k_asm); (case k3z29 => k_asm); (case k4z29 => k_asm); (case k5z29 => k_asm); (case k6z29 => k_is); (case k7z29 => k_is); (case k8z29 => ktr_room); (case k9z29 => first | exact BindsTo.of_eq rfl | exact binds_K (by k_in) rfl (by k_is) rfl rfl rfl); (case kBz29 => exact rfl); (case kDz29 => decide +kernel); (case c2z29 => exact rfl); (case c3z29 => exact rfl); (case c4z29 => exact rfl); k_whole; intro g' L' h' tk' cells' FG' F' N' Y' B' X' T' l1; (have hO := Mine.old_of l1); (try k_lt l1); k_cells Y'; (try simp only [List.cons_append, List.nil_append] at N'); (try dsimp only); (try k_lift B'); (try k_fold))))
  refine cut_execs 2 ?_
  dsimp only [List.take, List.drop]
  (repeat' (first | ((fail_if_success (fail_if_success k_unfold)); (refine (?_ : wpAny _ _ _ _ _ _)); (try dsimp only [List.nil_append, List.cons_append])) | (k_unfold; (try dsimp only [List.nil_append, List.cons_append])) | (k_end; wrow_close) | ((fail_if_success (fail_if_success k_fold)); (refine (let q9 := _; (?_ : wpAny _ _ _ q9 _ _))); walk1) | walk1 | (dsimp only; walk1) | (leave1; walk_say "STEP leave1"; try dsimp only) | fail "no step"))
  refine Hold.mk ?_
  rename Fr _ _ _ _ => FX
  rename News _ _ _ _ => NX
  try dsimp only at FX NX ⊢
  generalize Txt.item (Str.ofString "abcde") writer = nm at *
  generalize Txt.mul (Str.ofString "0") (how.fmod 3) ++ Str.ofString (toString ((2 : Int) ^ (width * order).toNat)) = T0 at *
  refine cut_set 2 (Str.ofString "text") (fun t => .str (vT1 how T0 ++ Txt.mul (Str.ofString " ") ((how.fdiv 6).fmod 3)) t) FX NX ?_ ?_
  · --BLK text
    dsimp only [List.take]
    refine cut_execs 1 ?_
    dsimp only [List.take, List.drop]
    (repeat' (first | ((fail_if_success (fail_if_success k_unfold)); (refine (?_ : wpAny _ _ _ _ _ _)); (try dsimp only [List.nil_append, List.cons_append])) | (k_unfold; (try dsimp only [List.nil_append, List.cons_append])) | (k_end; wrow_close) | ((fail_if_success (fail_if_success k_fold)); (refine (let q9 := _; (?_ : wpAny _ _ _ q9 _ _))); walk1) | walk1 | (dsimp only; walk1) | (leave1; walk_say "STEP leave1"; try dsimp only) | fail "no step"))
    · refine Hold.mk ?_
      k_dflt refine ListComp_S FX (by rfl) (by decide) (by rfl) (by decide) (by rfl) ?_
      k_dflt (refine' nameX_L FX ?v ?_ ?a ?b; (case a => rfl); (case b => rfl); (case v => rfl))
      refine ⟨T0, _, _, rfl, rfl, by rw [sizeLine_eq]; show T0.length ≤ _; omega, FX, NX, ?_⟩
      rintro s₂ ⟨hh, rfl⟩
      refine comp_same (fun i ys => StrsAre ys ((T0.cps.toList.take i).map fun c : Nat => (⟨#[c]⟩ : Str))) .nil ?step ?fin
      case step =>
        intro i ys hi hys v I oI C oC D m₂ h tk E' hv hC hx F' N' off ne
        obtain ⟨c, u, hc, rfl⟩ := hv
        (repeat' (first | ((fail_if_success (fail_if_success k_unfold)); (refine (?_ : wpAny _ _ _ _ _ _)); (try dsimp only [List.nil_append, List.cons_append])) | (k_unfold; (try dsimp only [List.nil_append, List.cons_append])) | (k_end; wrow_close) | ((fail_if_success (fail_if_success k_fold)); (refine (let q9 := _; (?_ : wpAny _ _ _ q9 _ _))); walk1) | walk1 | (dsimp only; walk1) | (leave1; walk_say "STEP leave1"; try dsimp only) | fail "no step"))
        refine comp_end F' N' off trivial ⟨rfl, ?_⟩
        rw [take_snoc (by simpa using hc)]
        exact strs_snoc hys
      case fin =>
        intro ys hys
        unfold LCg.FinE
        intro D h' tk F' N' o1
        try dsimp only
        rw [take_cps] at hys
        (repeat' (first | ((fail_if_success (fail_if_success k_unfold)); (refine (?_ : wpAny _ _ _ _ _ _)); (try dsimp only [List.nil_append, List.cons_append])) | (k_unfold; (try dsimp only [List.nil_append, List.cons_append])) | (k_end; wrow_close) | ((fail_if_success (fail_if_success k_fold)); (refine (let q9 := _; (?_ : wpAny _ _ _ q9 _ _))); walk1) | walk1 | (dsimp only; walk1) | (leave1; walk_say "STEP leave1"; try dsimp only) | fail "no step"))
        refine Hold.mk ?_
        refine join_list (lst_at N' (.head _)) hys (signs_ok hm4) ?_
        intro t' k'
        have hjl := signs_join_len hm4
        replace N' := drop1 N'
        try dsimp only
        (repeat' (first | ((fail_if_success (fail_if_success k_unfold)); (refine (?_ : wpAny _ _ _ _ _ _)); (try dsimp only [List.nil_append, List.cons_append])) | (k_unfold; (try dsimp only [List.nil_append, List.cons_append])) | (k_end; wrow_close) | ((fail_if_success (fail_if_success k_fold)); (refine (let q9 := _; (?_ : wpAny _ _ _ q9 _ _))); walk1) | walk1 | (dsimp only; walk1) | (leave1; walk_say "STEP leave1"; try dsimp only) | fail "no step"))
        refine Hold.mk ?_
        have e : vT1 how T0 = _ := if_pos (by assumption)
        rw [e]
        (repeat' (first | ((fail_if_success (fail_if_success k_unfold)); (refine (?_ : wpAny _ _ _ _ _ _)); (try dsimp only [List.nil_append, List.cons_append])) | (k_unfold; (try dsimp only [List.nil_append, List.cons_append])) | (k_end; wrow_close) | ((fail_if_success (fail_if_success k_fold)); (refine (let q9 := _; (?_ : wpAny _ _ _ q9 _ _))); walk1) | walk1 | (dsimp only; walk1) | (leave1; walk_say "STEP leave1"; try dsimp only) | fail "no step"))
        rename Fr _ _ _ _ => FW
        rename News _ _ _ _ => NW
        exact hold_set FW NW (by rfl) (fun y hy => by simp only [if_neg hy]) (fun p hp => hp)
    · refine Hold.mk ?_
      have e : vT1 how T0 = _ := if_neg (by assumption)
      rw [e]
      (repeat' (first | ((fail_if_success (fail_if_success k_unfold)); (refine (?_ : wpAny _ _ _ _ _ _)); (try dsimp only [List.nil_append, List.cons_append])) | (k_unfold; (try dsimp only [List.nil_append, List.cons_append])) | (k_end; wrow_close) | ((fail_if_success (fail_if_success k_fold)); (refine (let q9 := _; (?_ : wpAny _ _ _ q9 _ _))); walk1) | walk1 | (dsimp only; walk1) | (leave1; walk_say "STEP leave1"; try dsimp only) | fail "no step"))
      rename Fr _ _ _ _ => FW
      rename News _ _ _ _ => NW
      exact hold_set FW NW (by rfl) (fun y hy => by simp only [if_neg hy]) (fun p hp => hp)
  intro h' dr tk t' FY NY
  dsimp only [List.drop]
  generalize vT1 how T0 ++ Txt.mul (Str.ofString " ") ((how.fdiv 6).fmod 3) = X at *
  clear FX NX
  have hXl := hX.len
  refine cut_heard X FY NY ?_ ?_
  · --BLK heard
    dsimp only [List.take]
    cases lies with
    | false =>
      (repeat' (first | ((fail_if_success (fail_if_success k_unfold)); (refine (?_ : wpAny _ _ _ _ _ _)); (try dsimp only [List.nil_append, List.cons_append])) | (k_unfold; (try dsimp only [List.nil_append, List.cons_append])) | (k_end; wrow_close) | ((fail_if_success (fail_if_success k_fold)); (refine (let q9 := _; (?_ : wpAny _ _ _ q9 _ _))); walk1) | walk1 | (dsimp only; walk1) | (leave1; walk_say "STEP leave1"; try dsimp only) | fail "no step"))
      refine Hold.mk ?_
      k_dflt refine ListComp_S FY (by rfl) (by decide) (by rfl) (by decide) (by rfl) ?_
      k_dflt (refine' nameX_L FY ?v ?_ ?a ?b; (case a => rfl); (case b => rfl); (case v => rfl))
      refine ⟨X, _, _, rfl, rfl, by rw [sizeLine_eq]; show X.length ≤ _; omega, FY, NY, ?_⟩
      rintro s₂ ⟨hh, rfl⟩
      refine comp_same (fun i ys => IntsAre ys ((X.cps.toList.take i).map fun c : Nat => ((c : Nat) : Int))) .nil ?step ?fin
      case step =>
        intro i ys hi hys v I oI C oC D m₂ h tk E' hv hC hx F' N' off ne
        obtain ⟨c, u, hc, rfl⟩ := hv
        (repeat' (first | ((fail_if_success (fail_if_success k_unfold)); (refine (?_ : wpAny _ _ _ _ _ _)); (try dsimp only [List.nil_append, List.cons_append])) | (k_unfold; (try dsimp only [List.nil_append, List.cons_append])) | (k_end; wrow_close) | ((fail_if_success (fail_if_success k_fold)); (refine (let q9 := _; (?_ : wpAny _ _ _ q9 _ _))); walk1) | walk1 | (dsimp only; walk1) | (leave1; walk_say "STEP leave1"; try dsimp only) | fail "no step"))
        refine comp_end F' N' off trivial ⟨rfl, ?_⟩
        rw [take_snoc (by simpa using hc)]
        exact ints_snoc hys
      case fin =>
        intro ys hys
        unfold LCg.FinE
        intro D h' tk F' N' o1
        try dsimp only
        rw [take_cps] at hys
        have hIn : KBa.In (X.cps.toList.map fun c : Nat => ((c : Nat) : Int)) := by
          intro n hn
          obtain ⟨c, hc, rfl⟩ := List.mem_map.mp hn
          have := hX.ok c hc
          unfold TrOk at this
          omega
        (repeat' (first | ((fail_if_success (fail_if_success k_unfold)); (refine (?_ : wpAny _ _ _ _ _ _)); (try dsimp only [List.nil_append, List.cons_append])) | (k_unfold; (try dsimp only [List.nil_append, List.cons_append])) | (k_end; wrow_close) | ((fail_if_success (fail_if_success k_fold)); (refine (let q9 := _; (?_ : wpAny _ _ _ q9 _ _))); walk1) | walk1 | (dsimp only; walk1) | (leave1; walk_say "STEP leave1"; try dsimp only) | fail "no step"))
        refine Hold.mk ?_
        refine KBa.make_K F' N' rfl (lst_at N' (.head _)) hys hIn (by have := hX.len; rw [List.length_map, Array.length_toList]; show X.length ≤ _; omega) ?_
        clear F' N'
        intro h' t' tk F' N' _
        replace N' := news_sub N' (led' := _ :: _ :: _ :: _ :: _ :: led) (fun p hp => .tail _ hp)
        try dsimp only
        (repeat' (first | ((fail_if_success (fail_if_success k_unfold)); (refine (?_ : wpAny _ _ _ _ _ _)); (try dsimp only [List.nil_append, List.cons_append])) | (k_unfold; (try dsimp only [List.nil_append, List.cons_append])) | (k_end; wrow_close) | ((fail_if_success (fail_if_success k_fold)); (refine (let q9 := _; (?_ : wpAny _ _ _ q9 _ _))); walk1) | walk1 | (dsimp only; walk1) | (leave1; walk_say "STEP leave1"; try dsimp only) | fail "no step"))
        refine Hold.mk ?_
        refine' Ctr.use (hencx_ctr ?q1 hX.pos hX.len hX.ok) ?zB F' ?zX N' ?zT ?zk ?zd ?zu ?_
        case q1 => omega
        case zB => k_asm
        case zX => k_asm
        case zT => k_asm
        case zk => exact rfl
        case zd => ktr_room
        case zu => ktr_units
        clear F' N'
        intro t' h' dr tk F' N'
        have hw1 : (encS X).length ≤ 39 := by
          have := flat_len X.cps.toList
          have e : X.cps.toList.length = X.cps.size := Array.length_toList
          have := hX.len
          show (X.cps.toList.flatMap trC).length ≤ 39
          have : X.cps.size ≤ 13 := this
          omega
        have hr1 := hX.r1
        have hr2 : (Txt.replace (Txt.replace X (Str.ofString "_") (Str.ofString "=5F")) (Str.ofString " ") (Str.ofString "_")).length ≤ 39 := by rw [hX.r2]; exact hw1
        have hWY : Str.empty ++ Str.ofString "=?" ++ nm ++ Str.ofString "?q?" ++ encS X ++ Str.ofString "?=" = Str.ofString "=?" ++ nm ++ Str.ofString "?q?" ++ Txt.replace (Txt.replace X (Str.ofString "_") (Str.ofString "=5F")) (Str.ofString " ") (Str.ofString "_") ++ Str.ofString "?=" := by rw [hX.r2, empty_app]
        have hWs := word_slice (nm := nm) (e := encS X) (by assumption)
        have hWl := word_len (nm := nm) (e := encS X) (by assumption) hw1
        generalize Str.empty ++ Str.ofString "=?" ++ nm ++ Str.ofString "?q?" ++ encS X ++ Str.ofString "?=" = W at *
        have hec := hX.dec
        try dsimp only
        (repeat' (first | ((fail_if_success (fail_if_success k_unfold)); (refine (?_ : wpAny _ _ _ _ _ _)); (try dsimp only [List.nil_append, List.cons_append])) | (k_unfold; (try dsimp only [List.nil_append, List.cons_append])) | (k_end; wrow_close) | ((fail_if_success (fail_if_success k_fold)); (refine (let q9 := _; (?_ : wpAny _ _ _ q9 _ _))); walk1) | walk1 | (dsimp only; walk1) | (leave1; walk_say "STEP leave1"; try dsimp only) | fail "no step"))
        refine Hold.mk ?_
        rw [hWs]
        obtain ⟨out, hs, ho⟩ := hec
        rename Fr _ _ _ _ => F'
        rename News _ _ _ _ => N'
        refine' Ctr.use (hdec_ctr (by omega) hX.r3 hs) ?zB F' ?zX N' ?zT ?zk ?zd ?zu ?_
        case zB => k_asm
        case zX => k_asm
        case zT => k_asm
        case zk => exact rfl
        case zd => ktr_room
        case zu => ktr_units
        clear F' N'
        rw [ho]
        intro t' h' dr tk F' N'
        try dsimp only
        (repeat' (first | ((fail_if_success (fail_if_success k_unfold)); (refine (?_ : wpAny _ _ _ _ _ _)); (try dsimp only [List.nil_append, List.cons_append])) | (k_unfold; (try dsimp only [List.nil_append, List.cons_append])) | (k_end; wrow_close) | ((fail_if_success (fail_if_success k_fold)); (refine (let q9 := _; (?_ : wpAny _ _ _ q9 _ _))); walk1) | walk1 | (dsimp only; walk1) | (leave1; walk_say "STEP leave1"; try dsimp only) | fail "no step"))
        rename Fr _ _ _ _ => F'
        rename News _ _ _ _ => N'
        exact hold_heard F' N' (by rfl) (fun y h1 h2 h3 => by simp only [if_neg h1, if_neg h2, if_neg h3]) (fun p hp => hp)
    | true =>
      (repeat' (first | ((fail_if_success (fail_if_success k_unfold)); (refine (?_ : wpAny _ _ _ _ _ _)); (try dsimp only [List.nil_append, List.cons_append])) | (k_unfold; (try dsimp only [List.nil_append, List.cons_append])) | (k_end; wrow_close) | ((fail_if_success (fail_if_success k_fold)); (refine (let q9 := _; (?_ : wpAny _ _ _ q9 _ _))); walk1) | walk1 | (dsimp only; walk1) | (leave1; walk_say "STEP leave1"; try dsimp only) | fail "no step"))
      refine Hold.mk ?_
      rename Fr _ _ _ _ => FL
      rename News _ _ _ _ => NL
      k_dflt refine Assign_ListComp_S FL (by rfl) (by with_unfolding_all rfl) (by with_unfolding_all rfl) (by decide) (by rfl) (by decide) (by rfl) (by rfl) (by rfl) ?_
      k_dflt (refine' nameX_L FL ?v ?_ ?a ?b; (case a => rfl); (case b => rfl); (case v => rfl))
      refine ⟨X, _, _, rfl, rfl, by rw [sizeLine_eq]; show X.length ≤ _; omega, FL, NL, ?_⟩
      rintro s₂ ⟨hh, rfl⟩
      refine comp_same (fun i ys => StrsAre ys ((X.cps.toList.take i).map toldC)) .nil ?step ?fin
      case step =>
        intro i ys hi hys v I oI C oC D m₂ h tk E' hv hC hx F' N' off ne
        obtain ⟨c, u, hc, rfl⟩ := hv
        have hcb : 0 ≤ ((c : Nat) : Int) ∧ ((c : Nat) : Int) ≤ 95 := by
          have := hX.ok c (Array.mem_toList_iff.mpr (Array.mem_of_getElem? hc))
          unfold TrOk at this
          omega
        (repeat' (first | ((fail_if_success (fail_if_success k_unfold)); (refine (?_ : wpAny _ _ _ _ _ _)); (try dsimp only [List.nil_append, List.cons_append])) | (k_unfold; (try dsimp only [List.nil_append, List.cons_append])) | (k_end; wrow_close) | ((fail_if_success (fail_if_success k_fold)); (refine (let q9 := _; (?_ : wpAny _ _ _ q9 _ _))); walk1) | walk1 | (dsimp only; walk1) | (leave1; walk_say "STEP leave1"; try dsimp only) | fail "no step"))
        refine comp_end F' N' off trivial ⟨rfl, ?_⟩
        rw [take_snoc (by simpa using hc)]
        exact strs_snoc hys
      case fin =>
        intro ys hys
        unfold LCg.FinA
        intro D h' tk F' N' o1
        try dsimp only
        rw [take_cps] at hys
        (repeat' (first | ((fail_if_success (fail_if_success k_unfold)); (refine (?_ : wpAny _ _ _ _ _ _)); (try dsimp only [List.nil_append, List.cons_append])) | (k_unfold; (try dsimp only [List.nil_append, List.cons_append])) | (k_end; wrow_close) | ((fail_if_success (fail_if_success k_fold)); (refine (let q9 := _; (?_ : wpAny _ _ _ q9 _ _))); walk1) | walk1 | (dsimp only; walk1) | (leave1; walk_say "STEP leave1"; try dsimp only) | fail "no step"))
        refine Hold.mk ?_
        refine join_list (lst_at N' (.head _)) hys (told_ok hXl hX.ok) ?_
        intro t' k'
        have htl : (Txt.join (Str.ofString "") (X.cps.toList.map toldC)).length ≤ 39 := hX.tl
        have ht3 : (Txt.replace (Txt.join (Str.ofString "") (X.cps.toList.map toldC)) (Str.ofString "_") (Str.ofString " ")).length ≤ 100 := hX.t3
        have hec : ∃ out, subOk (Txt.replace (Txt.join (Str.ofString "") (X.cps.toList.map toldC)) (Str.ofString "_") (Str.ofString " ")).cps 60 0 = some out ∧ Txt.join (Str.ofString "") out = X := hX.tec
        generalize Txt.join (Str.ofString "") (X.cps.toList.map toldC) = TT at *
        have hWs := word_slice (nm := nm) (e := TT) (by assumption)
        rw [empty_app] at hWs
        try dsimp only
        (repeat' (first | ((fail_if_success (fail_if_success k_unfold)); (refine (?_ : wpAny _ _ _ _ _ _)); (try dsimp only [List.nil_append, List.cons_append])) | (k_unfold; (try dsimp only [List.nil_append, List.cons_append])) | (k_end; wrow_close) | ((fail_if_success (fail_if_success k_fold)); (refine (let q9 := _; (?_ : wpAny _ _ _ q9 _ _))); walk1) | walk1 | (dsimp only; walk1) | (leave1; walk_say "STEP leave1"; try dsimp only) | fail "no step"))
        refine Hold.mk ?_
        rw [hWs]
        obtain ⟨out, hs, ho⟩ := hec
        rename Fr _ _ _ _ => F'
        rename News _ _ _ _ => N'
        refine' Ctr.use (hdec_ctr (by omega) ht3 hs) ?zB F' ?zX N' ?zT ?zk ?zd ?zu ?_
        case zB => k_asm
        case zX => k_asm
        case zT => k_asm
        case zk => exact rfl
        case zd => ktr_room
        case zu => ktr_units
        clear F' N'
        rw [ho]
        intro t' h' dr tk F' N'
        try dsimp only
        (repeat' (first | ((fail_if_success (fail_if_success k_unfold)); (refine (?_ : wpAny _ _ _ _ _ _)); (try dsimp only [List.nil_append, List.cons_append])) | (k_unfold; (try dsimp only [List.nil_append, List.cons_append])) | (k_end; wrow_close) | ((fail_if_success (fail_if_success k_fold)); (refine (let q9 := _; (?_ : wpAny _ _ _ q9 _ _))); walk1) | walk1 | (dsimp only; walk1) | (leave1; walk_say "STEP leave1"; try dsimp only) | fail "no step"))
        rename Fr _ _ _ _ => F'
        rename News _ _ _ _ => N'
        exact hold_heard F' N' (by rfl) (fun y h1 h2 h3 => by simp only [if_neg h1, if_neg h2, if_neg h3]) (fun p hp => .tail _ hp)
  intro h' dr tk t' u1 u2 oo FZ NZ
  dsimp only [List.drop]
  clear FY NY
  refine cut_execs 1 ?_
  dsimp only [List.take, List.drop]
  (repeat' (first | ((fail_if_success (fail_if_success k_unfold)); (refine (?_ : wpAny _ _ _ _ _ _)); (try dsimp only [List.nil_append, List.cons_append])) | (k_unfold; (try dsimp only [List.nil_append, List.cons_append])) | (k_end; wrow_close) | ((fail_if_success (fail_if_success k_fold)); (refine (let q9 := _; (?_ : wpAny _ _ _ q9 _ _))); walk1) | walk1 | (dsimp only; walk1) | (leave1; walk_say "STEP leave1"; try dsimp only) | fail "no step"))
  refine Hold.mk ?_
  replace NZ := perm5 NZ
  refine cut_execs 1 ?_
  dsimp only [List.take, List.drop]
  (repeat' (first | ((fail_if_success (fail_if_success k_unfold)); (refine (?_ : wpAny _ _ _ _ _ _)); (try dsimp only [List.nil_append, List.cons_append])) | (k_unfold; (try dsimp only [List.nil_append, List.cons_append])) | (k_end; wrow_close) | ((fail_if_success (fail_if_success k_fold)); (refine (let q9 := _; (?_ : wpAny _ _ _ q9 _ _))); walk1) | walk1 | (dsimp only; walk1) | (leave1; walk_say "STEP leave1"; try dsimp only) | fail "no step"))
  refine Hold.mk ?_
  rename Old _ _ => hO
  have hL90 := hO (90, y) (.tail _ (.tail _ (.head _)))
  have hL104 := hO (104, x) (.head _)
  refine' Ctr.use (ifs_ctr (by omega) hX.il hX.iv hT2 hc2 ?zq) ?zB FZ ?zX NZ ?zT ?zk ?zd ?zu ?_
  case zq => exact List.forall_mem_cons.mpr ⟨Nat.ne_of_gt (Nat.lt_succ_of_lt hL90), List.forall_mem_cons.mpr ⟨(by decide : (104 : Nat) ≠ 90), h90⟩⟩
  case zB => k_asm
  case zX => k_asm
  case zT => k_asm
  case zk => exact rfl
  case zd => ktr_room
  case zu => ktr_units
  intro t' c' o' ht0 hCF hsep h' dr tk F' N'
  try dsimp only
  (repeat' (first | ((fail_if_success (fail_if_success k_unfold)); (refine (?_ : wpAny _ _ _ _ _ _)); (try dsimp only [List.nil_append, List.cons_append])) | (k_unfold; (try dsimp only [List.nil_append, List.cons_append])) | (k_end; wrow_close) | ((fail_if_success (fail_if_success k_fold)); (refine (let q9 := _; (?_ : wpAny _ _ _ q9 _ _))); walk1) | walk1 | (dsimp only; walk1) | (leave1; walk_say "STEP leave1"; try dsimp only) | fail "no step"))
  refine Hold.mk ?_
  rename Fr _ _ _ _ => FZ
  rename News _ _ _ _ => NZ
  replace NZ := perm5 NZ
  have hc104 : @Ne Nat c' 104 := by
    rcases hsep with h | h
    · exact Nat.ne_of_gt (h (104, x) (.tail _ (.tail _ (.head _))))
    · rw [h]
      exact h104 (c2, o2) (.head _)
  refine cut_read 1 (fun _ o => CF o q104) tab104 104 (Str.ofString "read") order FZ NZ ?_ ?_
  · --BLK read
    dsimp only [List.take]
    have h3o : order = 0 ∨ order = 1 ∨ order = 2 := by omega
    rcases h3o with rfl | rfl | rfl
    · obtain ⟨rfl, hdg⟩ := dig0 h5 h6 hnum
      (repeat' (first | ((fail_if_success (fail_if_success k_unfold)); (refine (?_ : wpAny _ _ _ _ _ _)); (try dsimp only [List.nil_append, List.cons_append])) | (k_unfold; (try dsimp only [List.nil_append, List.cons_append])) | (k_end; wrow_close) | ((fail_if_success (fail_if_success k_fold)); (refine (let q9 := _; (?_ : wpAny _ _ _ q9 _ _))); walk1) | walk1 | (dsimp only; walk1) | (leave1; walk_say "STEP leave1"; try dsimp only) | fail "no step"))
      refine Hold.mk ?_
      refine' CtrT.use (i2d1_walk h5 h6 hdg (by decide) hT hc1 (off104 hc104 (Nat.ne_of_gt (Nat.lt_succ_of_lt hL104)) h104)) ?zB FZ ?zX NZ ?zT ?zk ?zd ?zu ?_
      case zB => k_asm
      case zX => k_asm
      case zT => k_asm
      case zk => exact rfl
      case zd => ktr_room
      case zu => ktr_units
      intro r n ca oa tkz hCFa hr4 hro hsepa hrc h' dr F' N' htz
      try dsimp only
      (repeat' (first | ((fail_if_success (fail_if_success k_unfold)); (refine (?_ : wpAny _ _ _ _ _ _)); (try dsimp only [List.nil_append, List.cons_append])) | (k_unfold; (try dsimp only [List.nil_append, List.cons_append])) | (k_end; wrow_close) | ((fail_if_success (fail_if_success k_fold)); (refine (let q9 := _; (?_ : wpAny _ _ _ q9 _ _))); walk1) | walk1 | (dsimp only; walk1) | (leave1; walk_say "STEP leave1"; try dsimp only) | fail "no step"))
      refine Hold.mk ?_
      rename Fr _ _ _ _ => F9
      rename News _ _ _ _ => N9
      refine' Ctr.use (ixo0_ctr ht0 (by k_ne)) ?zB F9 ?zX N9 ?zT ?zk ?zd ?zu ?_
      case zB => k_asm
      case zX => k_asm
      case zT => k_asm
      case zk => exact rfl
      case zd => ktr_room
      case zu => ktr_units
      intro t9 h9 dr9 tk9 F9 N9
      try dsimp only
      (repeat' (first | ((fail_if_success (fail_if_success k_unfold)); (refine (?_ : wpAny _ _ _ _ _ _)); (try dsimp only [List.nil_append, List.cons_append])) | (k_unfold; (try dsimp only [List.nil_append, List.cons_append])) | (k_end; wrow_close) | ((fail_if_success (fail_if_success k_fold)); (refine (let q9 := _; (?_ : wpAny _ _ _ q9 _ _))); walk1) | walk1 | (dsimp only; walk1) | (leave1; walk_say "STEP leave1"; try dsimp only) | fail "no step"))
      rename Fr _ _ _ _ => F9
      rename News _ _ _ _ => N9
      exact hold_read (o1 := o1) F9 N9 (by rfl) (fun y hy => by simp only [if_neg hy]) (fun p hp => .tail _ (.tail _ (.tail _ hp))) hCFa hsepa
    · obtain ⟨hn0, hdg, f1, f2, f3⟩ := dig1 h5 h6 hnum
      (repeat' (first | ((fail_if_success (fail_if_success k_unfold)); (refine (?_ : wpAny _ _ _ _ _ _)); (try dsimp only [List.nil_append, List.cons_append])) | (k_unfold; (try dsimp only [List.nil_append, List.cons_append])) | (k_end; wrow_close) | ((fail_if_success (fail_if_success k_fold)); (refine (let q9 := _; (?_ : wpAny _ _ _ q9 _ _))); walk1) | walk1 | (dsimp only; walk1) | (leave1; walk_say "STEP leave1"; try dsimp only) | fail "no step"))
      refine Hold.mk ?_
      refine' CtrT.use (i2d2_walk h5 h6 hdg hn0 f1 f2 f3 hT hc1 (off104 hc104 (Nat.ne_of_gt (Nat.lt_succ_of_lt hL104)) h104)) ?zB FZ ?zX NZ ?zT ?zk ?zd ?zu ?_
      case zB => k_asm
      case zX => k_asm
      case zT => k_asm
      case zk => exact rfl
      case zd => ktr_room
      case zu => ktr_units
      intro r n a0 a1 ca oa tkz hz hy hCFa hr4 hro hsepa hrc h' dr F' N' htz
      dsimp only at hz htz
      obtain ⟨hz0, hz1⟩ := hz (by omega)
      try dsimp only
      (repeat' (first | ((fail_if_success (fail_if_success k_unfold)); (refine (?_ : wpAny _ _ _ _ _ _)); (try dsimp only [List.nil_append, List.cons_append])) | (k_unfold; (try dsimp only [List.nil_append, List.cons_append])) | (k_end; wrow_close) | ((fail_if_success (fail_if_success k_fold)); (refine (let q9 := _; (?_ : wpAny _ _ _ q9 _ _))); walk1) | walk1 | (dsimp only; walk1) | (leave1; walk_say "STEP leave1"; try dsimp only) | fail "no step"))
      refine Hold.mk ?_
      rename Fr _ _ _ _ => F9
      rename News _ _ _ _ => N9
      refine' Ctr.use (ixo1_ctr hz0 hz1 (by k_ne) (by k_ne)) ?zB F9 ?zX N9 ?zT ?zk ?zd ?zu ?_
      case zB => k_asm
      case zX => k_asm
      case zT => k_asm
      case zk => exact rfl
      case zd => ktr_room
      case zu => ktr_units
      intro t9 h9 dr9 tk9 F9 N9
      try dsimp only
      (repeat' (first | ((fail_if_success (fail_if_success k_unfold)); (refine (?_ : wpAny _ _ _ _ _ _)); (try dsimp only [List.nil_append, List.cons_append])) | (k_unfold; (try dsimp only [List.nil_append, List.cons_append])) | (k_end; wrow_close) | ((fail_if_success (fail_if_success k_fold)); (refine (let q9 := _; (?_ : wpAny _ _ _ q9 _ _))); walk1) | walk1 | (dsimp only; walk1) | (leave1; walk_say "STEP leave1"; try dsimp only) | fail "no step"))
      rename Fr _ _ _ _ => F9
      rename News _ _ _ _ => N9
      exact hold_read (o1 := o1) F9 N9 (by rfl) (fun y hy => by simp only [if_neg hy]) (fun p hp => .tail _ (.tail _ (.tail _ hp))) hCFa hsepa
    · obtain ⟨hn0, hdg, f1, f2, f3, f4, f5, f6⟩ := dig2 h5 h6 hnum
      (repeat' (first | ((fail_if_success (fail_if_success k_unfold)); (refine (?_ : wpAny _ _ _ _ _ _)); (try dsimp only [List.nil_append, List.cons_append])) | (k_unfold; (try dsimp only [List.nil_append, List.cons_append])) | (k_end; wrow_close) | ((fail_if_success (fail_if_success k_fold)); (refine (let q9 := _; (?_ : wpAny _ _ _ q9 _ _))); walk1) | walk1 | (dsimp only; walk1) | (leave1; walk_say "STEP leave1"; try dsimp only) | fail "no step"))
      refine Hold.mk ?_
      refine' CtrT.use (i2d3_walk h5 h6 hdg hn0 f1 f2 f3 f4 f5 f6 hT hc1 (off104 hc104 (Nat.ne_of_gt (Nat.lt_succ_of_lt hL104)) h104)) ?zB FZ ?zX NZ ?zT ?zk ?zd ?zu ?_
      case zB => k_asm
      case zX => k_asm
      case zT => k_asm
      case zk => exact rfl
      case zd => ktr_room
      case zu => ktr_units
      intro r n a0 a1 a2 ca oa tkz hz hy hCFa hr4 hro hsepa hrc h' dr F' N' htz
      dsimp only at hz htz
      obtain ⟨hz0, hz1, hz2⟩ := hz (by omega)
      try dsimp only
      (repeat' (first | ((fail_if_success (fail_if_success k_unfold)); (refine (?_ : wpAny _ _ _ _ _ _)); (try dsimp only [List.nil_append, List.cons_append])) | (k_unfold; (try dsimp only [List.nil_append, List.cons_append])) | (k_end; wrow_close) | ((fail_if_success (fail_if_success k_fold)); (refine (let q9 := _; (?_ : wpAny _ _ _ q9 _ _))); walk1) | walk1 | (dsimp only; walk1) | (leave1; walk_say "STEP leave1"; try dsimp only) | fail "no step"))
      refine Hold.mk ?_
      rename Fr _ _ _ _ => F9
      rename News _ _ _ _ => N9
      refine' Ctr.use (ixo2_ctr hz0 hz1 hz2 (by k_ne) (by k_ne) (by k_ne)) ?zB F9 ?zX N9 ?zT ?zk ?zd ?zu ?_
      case zB => k_asm
      case zX => k_asm
      case zT => k_asm
      case zk => exact rfl
      case zd => ktr_room
      case zu => ktr_units
      intro t9 h9 dr9 tk9 F9 N9
      try dsimp only
      (repeat' (first | ((fail_if_success (fail_if_success k_unfold)); (refine (?_ : wpAny _ _ _ _ _ _)); (try dsimp only [List.nil_append, List.cons_append])) | (k_unfold; (try dsimp only [List.nil_append, List.cons_append])) | (k_end; wrow_close) | ((fail_if_success (fail_if_success k_fold)); (refine (let q9 := _; (?_ : wpAny _ _ _ q9 _ _))); walk1) | walk1 | (dsimp only; walk1) | (leave1; walk_say "STEP leave1"; try dsimp only) | fail "no step"))
      rename Fr _ _ _ _ => F9
      rename News _ _ _ _ => N9
      exact hold_read (o1 := o1) F9 N9 (by rfl) (fun y hy => by simp only [if_neg hy]) (fun p hp => .tail _ (.tail _ (.tail _ hp))) hCFa hsepa
  intro h' dr tk t' c'' o'' FR NR hCF2 hsep2
  dsimp only [List.drop]
  (repeat' (first | ((fail_if_success (fail_if_success k_unfold)); (refine (?_ : wpAny _ _ _ _ _ _)); (try dsimp only [List.nil_append, List.cons_append])) | (k_unfold; (try dsimp only [List.nil_append, List.cons_append])) | (k_end; wrow_close) | ((fail_if_success (fail_if_success k_fold)); (refine (let q9 := _; (?_ : wpAny _ _ _ q9 _ _))); walk1) | walk1 | (dsimp only; walk1) | (leave1; walk_say "STEP leave1"; try dsimp only) | fail "no step"))
  refine Hold.mk ?_
  rename Top _ _ _ _ _ _ => TT
  k_dflt refine kdn_eval (knd := PySem.intKind prog w) FR NR (Top.nolimit TT) rfl rfl (List.cons_ne_nil _ _) (by decide) ?_
  intro d h' o FD ND ld lo hd
  (repeat' (first | ((fail_if_success (fail_if_success k_unfold)); (refine (?_ : wpAny _ _ _ _ _ _)); (try dsimp only [List.nil_append, List.cons_append])) | (k_unfold; (try dsimp only [List.nil_append, List.cons_append])) | (k_end; wrow_close) | ((fail_if_success (fail_if_success k_fold)); (refine (let q9 := _; (?_ : wpAny _ _ _ q9 _ _))); walk1) | walk1 | (dsimp only; walk1) | (leave1; walk_say "STEP leave1"; try dsimp only) | fail "no step"))
  k_dflt refine kdn_made_intF FD ND (UpdF.head (fun p hp => Nat.ne_of_lt (ld p hp))) hd (by rfl) ?nd (by rfl) ?_
  case nd =>
    show List.Nodup [order, 3]
    simp only [List.nodup_cons, List.mem_singleton, List.not_mem_nil, not_false_eq_true, List.nodup_nil, and_true]
    omega
  intro h' oD F' N' hd' hf'
  (repeat' (first | ((fail_if_success (fail_if_success k_unfold)); (refine (?_ : wpAny _ _ _ _ _ _)); (try dsimp only [List.nil_append, List.cons_append])) | (k_unfold; (try dsimp only [List.nil_append, List.cons_append])) | (k_end; wrow_close) | ((fail_if_success (fail_if_success k_fold)); (refine (let q9 := _; (?_ : wpAny _ _ _ q9 _ _))); walk1) | walk1 | (dsimp only; walk1) | (leave1; walk_say "STEP leave1"; try dsimp only) | fail "no step"))
  rename Fr h₀ _ _ _ => kF
  rename News h₀ _ _ _ => kN
  rename ∀ p ∈ (d, oD) :: _, p.1 < _ => lT
  refine hret _ d _ _ _ _ oD c'' o'' c' o' ⟨_, hd', hf'⟩ ?r1 (lT _ (.head _)) hCF2 ?r2 hCF ?r3 (ld (c'', o'') (.tail _ (.head _))) (ld (c', o') (.tail _ (.tail _ (.tail _ (.head _))))) _ _ _ kF (drop6 kN)
  case r1 =>
    intro p hp
    rcases List.mem_cons.mp hp with rfl | hp
    · exact ld (104, tab104 c'') (.head _)
    rcases List.mem_cons.mp hp with rfl | hp
    · exact ld (90, tab90 c') (.tail _ (.tail _ (.head _)))
    exact ld p (.tail _ (.tail _ (.tail _ (.tail _ (.tail _ hp)))))
  case r2 =>
    refine hsep2.imp (fun h p hp => ?_) id
    rcases List.mem_cons.mp hp with rfl | hp
    · exact h _ (.head _)
    rcases List.mem_cons.mp hp with rfl | hp
    · exact h (90, tab90 c') (.tail _ (.head _))
    exact h p (.tail _ (.tail _ (.tail _ (.tail _ hp))))
  case r3 =>
    refine hsep.imp (fun h p hp => ?_) id
    rcases List.mem_cons.mp hp with rfl | hp
    · exact h _ (.head _)
    rcases List.mem_cons.mp hp with rfl | hp
    · exact h _ (.tail _ (.tail _ (.head _)))
    exact h p (.tail _ (.tail _ (.tail _ (.tail _ hp))))
end Mine
end
section
theorem Mine.fresh9 {prog : Program} {w : World} {A : Around} {E : Value → Shared → Prop} {s : Shared} {Q : Bool → Shared → Prop} (h : wpAny (model prog w) A (truthy (.bool true)) Q E s) : wpAny (model prog w) A (truthy (.bool true)) Q E s := by
  w_top off
  first | (walk1; fail "no") | exact h
namespace Mine
def chkT (X : Str) (num : Int) : Bool :=
  decide (X.length ≤ 13) && decide (0 < X.length) && X.cps.toList.all (fun c => decide (c = 95 ∨ c = 32 ∨ (48 ≤ c ∧ c ≤ 57))) &&
  decide ((Txt.replace X (Str.ofString "_") (Str.ofString "=5F")).length ≤ 39) &&
  decide (Txt.replace (Txt.replace X (Str.ofString "_") (Str.ofString "=5F")) (Str.ofString " ") (Str.ofString "_") = encS X) &&
  decide ((Txt.replace (encS X) (Str.ofString "_") (Str.ofString " ")).length ≤ 100) &&
  (match subOk (Txt.replace (encS X) (Str.ofString "_") (Str.ofString " ")).cps 60 0 with | some out => decide (Txt.join (Str.ofString "") out = X) | none => false) &&
  decide ((toldS X).length ≤ 39) && decide ((Txt.replace (toldS X) (Str.ofString "_") (Str.ofString " ")).length ≤ 100) &&
  (match subOk (Txt.replace (toldS X) (Str.ofString "_") (Str.ofString " ")).cps 60 0 with | some out => decide (Txt.join (Str.ofString "") out = X) | none => false) &&
  decide ((ifsT X).length ≤ 100) && decide (PySem.intText? (Txt.slice (ifsT X) (some 0) (some (ifsT X).length)) = some num)
theorem sub_of {x X : Str} (h : (match subOk x.cps 60 0 with | some out => decide (Txt.join (Str.ofString "") out = X) | none => false) = true) : ∃ out, subOk x.cps 60 0 = some out ∧ Txt.join (Str.ofString "") out = X := by
  cases e : subOk x.cps 60 0 with
  | none => rw [e] at h; cases h
  | some out => rw [e] at h; exact ⟨out, rfl, of_decide_eq_true h⟩
theorem txt_of {X : Str} {num : Int} (h : chkT X num = true) : TxtOk X num := by
  unfold chkT at h
  simp only [Bool.and_eq_true] at h
  obtain ⟨⟨⟨⟨⟨⟨⟨⟨⟨⟨⟨h1, h2⟩, h3⟩, h4⟩, h5⟩, h6⟩, h7⟩, h8⟩, h9⟩, h10⟩, h11⟩, h12⟩ := h
  exact ⟨of_decide_eq_true h1, of_decide_eq_true h2, fun c hc => by have := of_decide_eq_true (List.all_eq_true.mp h3 c hc); exact this, of_decide_eq_true h4, of_decide_eq_true h5, of_decide_eq_true h6, sub_of h7, of_decide_eq_true h8, of_decide_eq_true h9, sub_of h10, of_decide_eq_true h11, of_decide_eq_true h12⟩
/-- the text of one numeral -/
def vN (num : Nat) (how : Int) : Str := vT1 how (Txt.mul (Str.ofString "0") (how.fmod 3) ++ Str.ofString (toString (num : Int))) ++ Txt.mul (Str.ofString " ") ((how.fdiv 6).fmod 3)
def chkN (num : Nat) : Bool := (List.range 18).all fun h => chkT (vN num h) num
set_option maxRecDepth 100000 in
theorem chk1 : chkN 1 = true := by kernel_rfl
set_option maxRecDepth 100000 in
theorem chk8 : chkN 8 = true := by kernel_rfl
set_option maxRecDepth 100000 in
theorem chk16 : chkN 16 = true := by kernel_rfl
set_option maxRecDepth 100000 in
theorem chk32 : chkN 32 = true := by kernel_rfl
set_option maxRecDepth 100000 in
theorem chk64 : chkN 64 = true := by kernel_rfl
set_option maxRecDepth 100000 in
theorem chk256 : chkN 256 = true := by kernel_rfl
set_option maxRecDepth 100000 in
theorem chk1024 : chkN 1024 = true := by kernel_rfl
set_option maxRecDepth 100000 in
theorem chk4096 : chkN 4096 = true := by kernel_rfl
theorem fm_nn {a b : Int} (hb : 0 < b) : Int.fmod a b = a % b := Int.fmod_eq_emod_of_nonneg _ (Int.le_of_lt hb)
theorem fd_nn {a b : Int} (hb : 0 < b) : Int.fdiv a b = a / b := Int.fdiv_eq_ediv_of_nonneg _ (Int.le_of_lt hb)
theorem vN_mod (num : Nat) (how : Int) : vN num how = vN num (((how % 18).toNat : Nat) : Int) := by
  have e : (((how % 18).toNat : Nat) : Int) = how % 18 := by lia
  rw [e]
  have e1 : how.fmod 3 = (how % 18).fmod 3 := by rw [fm_nn (by decide), fm_nn (by decide)]; lia
  have e2 : (how.fdiv 3).fmod 2 = ((how % 18).fdiv 3).fmod 2 := by rw [fm_nn (by decide), fm_nn (by decide), fd_nn (by decide), fd_nn (by decide)]; lia
  have e3 : (how.fdiv 6).fmod 3 = ((how % 18).fdiv 6).fmod 3 := by rw [fm_nn (by decide), fm_nn (by decide), fd_nn (by decide), fd_nn (by decide)]; lia
  unfold vN vT1
  rw [← e1, ← e2, ← e3]
theorem txt_at {num : Nat} (h : chkN num = true) (how : Int) : TxtOk (vN num how) num := by
  rw [vN_mod]
  exact txt_of (List.all_eq_true.mp h (how % 18).toNat (by rw [List.mem_range]; lia))
theorem num8 {order width : Int} (h1 : 0 ≤ order) (h2 : order ≤ 2) (h5 : 3 ≤ width) (h6 : width ≤ 6) : ∃ num : Nat, (2 : Int) ^ (width * order).toNat = num ∧ chkN num = true ∧ num ≤ 4096 ∧ 1 ≤ num ∧ (Str.ofString (toString (num : Int))).length ≤ 4 := by
  have ho : order = 0 ∨ order = 1 ∨ order = 2 := by lia
  have hw := wid4 h5 h6
  rcases ho with rfl | rfl | rfl
  · exact ⟨1, by rw [Int.mul_zero]; rfl, chk1, by decide, by decide, by decide +kernel⟩
  · rcases hw with rfl | rfl | rfl | rfl
    · exact ⟨8, by decide +kernel, chk8, by decide, by decide, by decide +kernel⟩
    · exact ⟨16, by decide +kernel, chk16, by decide, by decide, by decide +kernel⟩
    · exact ⟨32, by decide +kernel, chk32, by decide, by decide, by decide +kernel⟩
    · exact ⟨64, by decide +kernel, chk64, by decide, by decide, by decide +kernel⟩
  · rcases hw with rfl | rfl | rfl | rfl
    · exact ⟨64, by decide +kernel, chk64, by decide, by decide, by decide +kernel⟩
    · exact ⟨256, by decide +kernel, chk256, by decide, by decide, by decide +kernel⟩
    · exact ⟨1024, by decide +kernel, chk1024, by decide, by decide, by decide +kernel⟩
    · exact ⟨4096, by decide +kernel, chk4096, by decide, by decide, by decide +kernel⟩
end Mine
namespace Mine
theorem mul_len {c : Str} (hc : ∀ k : Int, k = 0 ∨ k = 1 ∨ k = 2 → (Txt.mul c k).length ≤ 2) {a : Int} : (Txt.mul c (a.fmod 3)).length ≤ 2 := hc _ (by rw [fm_nn (by decide)]; omega)
theorem vote_ctr {prog : Program} {w : World} {order writer how width : Int} {lies : Bool} {t1 t2 t3 t4 : Tok} {x y o1 o2 : Obj} {c1 c2 : Addr} {led : List (Addr × Obj)} (h1 : 0 ≤ order) (h2 : order ≤ 2) (h3 : 0 ≤ writer) (h4 : writer ≤ 4) (h5 : 3 ≤ width) (h6 : width ≤ 6) (h7 : 0 ≤ how)
    (hT : TK p104 q104 x c1 o1) (hc1 : (@Ne Nat c1 104)) (hT2 : TK p90 q90 y c2 o2) (hc2 : (@Ne Nat c2 90)) (h104 : ∀ p ∈ (c2, o2) :: led, p.1 ≠ 104) (h90 : ∀ p ∈ (c1, o1) :: led, p.1 ≠ 90) :
    Ctr prog w 20 205 [.int order t1, .int writer t2, .int how t3, .int width t4, .bool lies] ((104, x) :: (c1, o1) :: (90, y) :: (c2, o2) :: led) fun k => ∀ T D u1 u2 u3 u4 od c' o' c'' o'', KD prog w od [(order, 1), (3, 2 ^ (width * order).toNat)] → (∀ p ∈ (104, x) :: (90, y) :: led, p.1 < D) → D < T → CF o' q104 → ((∀ p ∈ (104, x) :: (90, y) :: led, p.1 < c') ∨ c' = c1) → CF o'' q90 → ((∀ p ∈ (90, y) :: (104, x) :: led, p.1 < c'') ∨ c'' = c2) → c' < D → c'' < D →
      k (.ref T) ((T, tupO [.int (writer + 1) u1, .int (2 ^ (width * order).toNat) u2, .int order u3, .int (order * order) u4, .ref D]) :: (D, od) :: (104, tab104 c') :: (c', o') :: (90, tab90 c'') :: (c'', o'') :: led) := by
  obtain ⟨num, hn, hc, hn1, hn2, hn3⟩ := num8 h1 h2 h5 h6
  have hw : 0 ≤ width * order ∧ width * order ≤ 12 := by
    have ho : order = 0 ∨ order = 1 ∨ order = 2 := by omega
    rcases ho with rfl | rfl | rfl <;> omega
  have e0 : ∀ k : Int, k = 0 ∨ k = 1 ∨ k = 2 → (Txt.mul (Str.ofString "0") k).length ≤ 2 := by
    intro k hk; rcases hk with rfl | rfl | rfl <;> decide +kernel
  have e1 : ∀ k : Int, k = 0 ∨ k = 1 ∨ k = 2 → (Txt.mul (Str.ofString " ") k).length ≤ 2 := by
    intro k hk; rcases hk with rfl | rfl | rfl <;> decide +kernel
  have m1 : (Txt.mul (Str.ofString "0") (how.fmod 3)).length ≤ 2 := mul_len e0
  have hX := txt_at hc how
  unfold vN at hX
  rw [← hn] at hX hn3
  exact vote_walk h1 h2 h3 h4 h5 h6 h7 hw.1 hw.2 m1 hn3 (mul_len e1) (by rw [app_len]; omega) (by omega) (by omega) rfl hT hc1 hT2 hc2 h104 h90 hX
end Mine
end
section
theorem Mine.fresh10 {prog : Program} {w : World} {A : Around} {E : Value → Shared → Prop} {s : Shared} {Q : Bool → Shared → Prop} (h : wpAny (model prog w) A (truthy (.bool true)) Q E s) : wpAny (model prog w) A (truthy (.bool true)) Q E s := by
  w_top off
  first | (walk1; fail "no") | exact h
section
set_option hygiene false in
local macro_rules | `(tactic| walk_at "exec For") => `(tactic| (with_reducible refine Mine.Hold.h ?_))
namespace Mine
def cpC (c : List (Int × Int)) : List (Int × Int) := c.foldl (fun a p => kdfPut a p.1 p.2) []
def adP (a : List (Int × Int)) (p : Int × Int) : List (Int × Int) := if kdfHas a p.1 then kdfPut a p.1 (kdfLook a p.1 0 + p.2) else kdfPut a p.1 p.2
def addC (a c : List (Int × Int)) : List (Int × Int) := c.foldl adP a
theorem fold_len {f : List (Int × Int) → Int × Int → List (Int × Int)} (hf : ∀ a p, (f a p).length ≤ a.length + 1) : ∀ (c a : List (Int × Int)), (c.foldl f a).length ≤ a.length + c.length
  | [], a => Nat.le_refl _
  | p :: c, a => by
    have := fold_len hf c (f a p)
    have := hf a p
    rw [List.foldl_cons, List.length_cons]
    omega
theorem adP_len (a : List (Int × Int)) (p : Int × Int) : (adP a p).length ≤ a.length + 1 := by
  unfold adP
  split <;> exact kdfPut_len _ _ _
theorem fold_snoc {α β : Type} (f : α → β → α) (a : α) (l : List β) (b : β) : (l ++ [b]).foldl f a = f (l.foldl f a) b := by rw [List.foldl_append]; rfl
theorem pre_len {α : Type} {c pre post : List α} {x : α} {n : Nat} (e : c = pre ++ x :: post) (h : c.length ≤ n) : pre.length < n := by
  subst e
  rw [List.length_append, List.length_cons] at h
  omega
theorem kdf_getItem {prog : Program} {w : World} {A : Around} {E : Value → Shared → Prop} {s : Shared} {d : Addr} {c : List (Int × Int)} {k : Int} {tk : Tok} {Q : Value → Shared → Prop} (T : IntTab prog w s.heap d (kdfD c)) (hk : kdfHas c k = true) (h : ∀ t, Q (.int (kdfLook c k 0) t) { s with toks := s.toks + 1 }) :
    wpAny (model prog w) A (getItem (.ref d) (.int k tk)) Q E s :=
  getItem_tab PyProof.V.same_int (intKind_is _ _ _ _) T (kdfD_item hk) fun v hv => by
    obtain ⟨t, rfl⟩ := PyProof.V.Flat.int_inv hv
    exact h t
theorem upd2 {I r : Addr} {oI o : Obj} {led : List (Addr × Obj)} (h1 : @Ne Nat I r) (h2 : ∀ p ∈ led, p.1 ≠ r) : UpdF r o ((I, oI) :: (r, o) :: led) (fun o' => (I, oI) :: (r, o') :: led) := .tail h1 (.head h2)
/-- the frame behind a turn: the two names anew -/
theorem fr_two {h₀ h : Heap} {L : Addr} {m : Str → Option Value} {x y : Str} {v u : Value} {a b : Option Value} (F : Fr h₀ L h (fun z => if z = x then some v else if z = y then some u else if z = x then a else if z = y then b else m z)) : Fr h₀ L h (fun z => if z = x then some v else if z = y then some u else m z) :=
  fr_over F fun z => by
    by_cases h1 : z = x
    · simp [h1]
    · by_cases h2 : z = y
      · simp [h1, h2]
      · simp [h1, h2]
set_option maxHeartbeats 8000000 in
theorem adc_ctr {prog : Program} {w : World} {l l2 : Addr} {o1 o2 : Obj} {c1 c2 : List (Int × Int)} {led : List (Addr × Obj)} (hm1 : (l, o1) ∈ led) (hm2 : (l2, o2) ∈ led) (K1 : KD prog w o1 c1) (K2 : KD prog w o2 c2) (lo1 : (l == sysModules) = false) (lo2 : (l2 == sysModules) = false) (hc1 : c1.length ≤ 10) (hc2 : c2.length ≤ 10) :
    Ctr prog w 4 73 [.ref l, .ref l2] led fun k => ∀ r o, KD prog w o (addC (cpC c1) c2) → (∀ p ∈ led, p.1 < r) → k (.ref r) ((r, o) :: led) := by
  unfold Ctr
  intro p loose mean mg mb dp un gd cn cs a ccd cl outer A₀ base h₀ L m s Q E B F X N T hk hd hu hret
  refine wpAny_call ?_
  (first | k_dflt ((refine' code_def ?k1z30 ?k2z30 ?k3z30 ?k4z30 ?k5z30 ?kAz30 ?kFz30 ?kKz30 ?k6z30 ?k7z30 ?k8z30 ?k9z30 ?kBz30 ?_ ?c2z30 ?c3z30 ?c4z30 ?c5z30; (case kAz30 => exact rfl); (case kFz30 => exact rfl); (case kKz30 => assumption); (case k1z30 => k_asm); (case k2z30 => k_asm); (case k3z30 => k_asm); (case k4z30 => k_asm); (case k5z30 => k_asm); (case k6z30 => k_is); (case k7z30 => k_is); (case k8z30 => ktr_room); (case k9z30 => first | exact BindsTo.of_eq rfl | exact binds_K (by k_in) rfl (by k_is) rfl rfl rfl); (case c5z30 => decide); (case kBz30 => exact locs rfl); (case c2z30 => exact rfl); (case c3z30 => exact rfl); (case c4z30 => exact rfl); k_whole; intro g' L' h' FG' F' N' B' X' T'; (try dsimp only); (try k_lift B'); (try k_fold))) | k_dflt ((refine' code_defC ?k1z31 ?k2z31 ?k3z31 ?k4z31 ?k5z31 ?kAz31 ?kFz31 ?kKz31 ?k6z31 ?k7z31 ?k8z31 ?k9z31 ?kBz31 ?kDz31 ?_ ?c2z31 ?c3z31 ?c4z31; (case kAz31 => exact rfl); (case kFz31 => exact rfl); (case kKz31 => assumption); (case k1z31 => k_asm); (case k2z31 => k_asm); (case k3z31 => k_asm); (case k4z31 => k_asm); (case k5z31 => k_asm); (case k6z31 => k_is); (case k7z31 => k_is); (case k8z31 => ktr_room); (case k9z31 => first | exact BindsTo.of_eq rfl | exact binds_K (by k_in) rfl (by k_is) rfl rfl rfl); (case kBz31 => exact rfl); (case kDz31 => decide +kernel); (case c2z31 => exact rfl); (case c3z31 => exact rfl); (case c4z31 => exact rfl); k_whole; intro g' L' h' tk' cells' FG' F' N' Y' B' X' T' l1; (have hO := Mine.old_of l1); (try k_lt l1); k_cells Y'; (try simp only [List.cons_append, List.nil_append] at N'); (try dsimp only); (try k_lift B'); (try k_fold))))
  refine cut_execs 1 ?_
  dsimp only [List.take, List.drop]
  (repeat' (first | ((fail_if_success (fail_if_success k_unfold)); (first | refine (let s9 := _; (?_ : wpAny _ _ _ _ _ s9)) | k_unfold)) | (k_end; wrow_close) | ((fail_if_success (fail_if_success k_fold)); (refine (let q9 := _; (?_ : wpAny _ _ _ q9 _ _))); walk1) | walk1 | (dsimp only [List.nil_append, List.cons_append]; walk1) | (leave1; walk_say "STEP leave1"; try dsimp only) | fail "no step"))
  refine Hold.mk ?_
  rename Fr _ _ _ _ => FZ
  rename News _ _ _ _ => NZ
  rename PyProof.V.FlatPairs PyData.int _ _ => hf
  rename Obj.IsDictOf (PySem.intKind _ _) _ _ => hdi
  rename ∀ p ∈ led, p.1 < _ => l1
  refine cut_execs 1 ?_
  dsimp only [List.take, List.drop]
  (repeat' (first | ((fail_if_success (fail_if_success k_unfold)); (first | refine (let s9 := _; (?_ : wpAny _ _ _ _ _ s9)) | k_unfold)) | (k_end; wrow_close) | ((fail_if_success (fail_if_success k_fold)); (refine (let q9 := _; (?_ : wpAny _ _ _ q9 _ _))); walk1) | walk1 | (dsimp only [List.nil_append, List.cons_append]; walk1) | (leave1; walk_say "STEP leave1"; try dsimp only) | fail "no step"))
  refine Hold.mk ?_
  with_unfolding_all refine' For_turns FZ ?_
  k_whole
  with_unfolding_all refine MethodCall_ ?_
  k_dflt (refine' nameX_L FZ ?v ?_ ?a ?b; (case a => rfl); (case b => rfl); (case v => rfl))
  refine getMethod_tab (knd := PySem.intKind _ _) (enc := PyData.int) PySem.F.slot_dict_items PySem.F.type_dict_items (tab_of K1 NZ (.tail _ hm1) lo1) ?_
  with_unfolding_all refine callWith_method0 ?_
  refine call_items_tab (knd := PySem.intKind _ _) (enc := PyData.int) (tab_of K1 NZ (.tail _ hm1) lo1) FZ NZ ?_
  intro h' o' hv' F' N'
  replace N' := kti_tail N'
  refine kti_items (knd := PySem.intKind _ _) (enc := PyData.int) rfl F' N' hv' (tab_of K1 N' (.tail _ hm1) lo1) (.tail _ hm1) (fun _ _ h => Value.isInt_shape h) flat_of ?_
  intro I lI
  refine items_fold (Str.ofString "func") (Str.ofString "caller") (fun a p => kdfPut a p.1 p.2) hm1 lI (by decide +kernel) (a₀ := []) ⟨_, hdi, hf⟩ ?step ?fin
  case step =>
    intro pre k v post acc acc' e ea ea' o kvs u1 u2 T t t2 h tk oI hd1 hf1 hT F N
    have hb3 : acc.length ≤ 10 := by
      have hb := pre_len e hc1
      have hb2 := fold_len (f := fun a p => kdfPut a p.1 p.2) (fun a p => kdfPut_len a p.1 p.2) pre []
      rw [ea]
      simp only [List.length_nil] at hb2
      omega
    clear ea e
    (repeat' (first | ((fail_if_success (fail_if_success k_unfold)); (first | refine (let s9 := _; (?_ : wpAny _ _ _ _ _ s9)) | k_unfold)) | (k_end; wrow_close) | ((fail_if_success (fail_if_success k_fold)); (refine (let q9 := _; (?_ : wpAny _ _ _ q9 _ _))); walk1) | walk1 | (dsimp only [List.nil_append, List.cons_append]; walk1) | (leave1; walk_say "STEP leave1"; try dsimp only) | fail "no step"))
    rename Fr _ _ _ _ => F'
    rename News _ _ _ _ => N'
    rename Obj.IsDictOf _ _ _ => hd'
    rename PyProof.V.FlatPairs PyData.int _ _ => hf'
    exact turn_end ⟨_, hd', by rw [ea']; exact hf'⟩ F' N' (fun z h1 h2 => by simp only [two, if_neg h1, if_neg h2]) (by decide +kernel)
  case fin =>
    intro o h tk u1 u2 K' F N
    try dsimp only
    clear FZ NZ hdi hf
    (repeat' (first | ((fail_if_success (fail_if_success k_unfold)); (first | refine (let s9 := _; (?_ : wpAny _ _ _ _ _ s9)) | k_unfold)) | (k_end; wrow_close) | ((fail_if_success (fail_if_success k_fold)); (refine (let q9 := _; (?_ : wpAny _ _ _ q9 _ _))); walk1) | walk1 | (dsimp only [List.nil_append, List.cons_append]; walk1) | (leave1; walk_say "STEP leave1"; try dsimp only) | fail "no step"))
    refine Hold.mk ?_
    refine cut_execs 1 ?_
    dsimp only [List.take, List.drop]
    (repeat' (first | ((fail_if_success (fail_if_success k_unfold)); (first | refine (let s9 := _; (?_ : wpAny _ _ _ _ _ s9)) | k_unfold)) | (k_end; wrow_close) | ((fail_if_success (fail_if_success k_fold)); (refine (let q9 := _; (?_ : wpAny _ _ _ q9 _ _))); walk1) | walk1 | (dsimp only [List.nil_append, List.cons_append]; walk1) | (leave1; walk_say "STEP leave1"; try dsimp only) | fail "no step"))
    refine Hold.mk ?_
    rename Fr _ _ _ _ => FZ
    rename News _ _ _ _ => NZ
    with_unfolding_all refine' For_turns FZ ?_
    k_whole
    with_unfolding_all refine MethodCall_ ?_
    k_dflt (refine' nameX_L FZ ?v ?_ ?a ?b; (case a => rfl); (case b => rfl); (case v => rfl))
    refine getMethod_tab (knd := PySem.intKind _ _) (enc := PyData.int) PySem.F.slot_dict_items PySem.F.type_dict_items (tab_of K2 NZ (.tail _ hm2) lo2) ?_
    with_unfolding_all refine callWith_method0 ?_
    refine call_items_tab (knd := PySem.intKind _ _) (enc := PyData.int) (tab_of K2 NZ (.tail _ hm2) lo2) FZ NZ ?_
    intro h' o' hv' F' N'
    replace N' := kti_tail N'
    refine kti_items (knd := PySem.intKind _ _) (enc := PyData.int) rfl F' N' hv' (tab_of K2 N' (.tail _ hm2) lo2) (.tail _ hm2) (fun _ _ h => Value.isInt_shape h) flat_of ?_
    intro I lI
    have hb4 := fold_len (f := fun a p => kdfPut a p.1 p.2) (fun a p => kdfPut_len a p.1 p.2) c1 []
    have hb5 : (cpC c1).length ≤ 10 := by simp only [List.length_nil] at hb4; unfold cpC; omega
    refine items_fold (Str.ofString "func") (Str.ofString "caller") adP hm2 lI (by decide +kernel) K' ?step ?fin
    case step =>
      intro pre k v post acc acc' e ea ea' o kvs u1 u2 T t t2 h tk oI hd1 hf1 hT F N
      have hb3 : acc.length ≤ 20 := by
        have hb := pre_len e hc2
        have hb2 := fold_len adP_len pre (cpC c1)
        have e2 : acc = pre.foldl adP (cpC c1) := ea
        rw [e2]
        omega
      clear ea e
      replace ea' : acc' = if kdfHas acc k then kdfPut acc k (kdfLook acc k 0 + v) else kdfPut acc k v := ea'
      (repeat' (first | ((fail_if_success (fail_if_success k_unfold)); (first | refine (let s9 := _; (?_ : wpAny _ _ _ _ _ s9)) | k_unfold)) | (k_end; wrow_close) | ((fail_if_success (fail_if_success k_fold)); (refine (let q9 := _; (?_ : wpAny _ _ _ q9 _ _))); walk1) | walk1 | (dsimp only [List.nil_append, List.cons_append]; walk1) | (leave1; walk_say "STEP leave1"; try dsimp only) | fail "no step"))
      · rename Fr _ _ _ _ => F9
        rename News _ _ _ _ => N9
        have hh : kdfHas acc k = true := by assumption
        refine kdf_getItem (TabAt.ofNews N9 (.tail _ (.head _)) (by assumption) hd1 hf1) hh ?_
        intro t9
        (repeat' (first | ((fail_if_success (fail_if_success k_unfold)); (first | refine (let s9 := _; (?_ : wpAny _ _ _ _ _ s9)) | k_unfold)) | (k_end; wrow_close) | ((fail_if_success (fail_if_success k_fold)); (refine (let q9 := _; (?_ : wpAny _ _ _ q9 _ _))); walk1) | walk1 | (dsimp only [List.nil_append, List.cons_append]; walk1) | (leave1; walk_say "STEP leave1"; try dsimp only) | fail "no step"))
        rename Fr _ _ _ _ => F'
        rename News _ _ _ _ => N'
        rename Obj.IsDictOf _ _ _ => hd'
        rename PyProof.V.FlatPairs PyData.int _ _ => hf'
        refine turn_end ⟨_, hd', ?_⟩ F' N' (fun z h1 h2 => by simp only [two, if_neg h1, if_neg h2]) (by decide +kernel)
        rw [ea', if_pos hh]
        exact hf'
      · rename Fr _ _ _ _ => F'
        rename News _ _ _ _ => N'
        rename Obj.IsDictOf _ _ _ => hd'
        rename PyProof.V.FlatPairs PyData.int _ _ => hf'
        have hh : ¬ kdfHas acc k = true := by first | assumption | simp_all
        refine turn_end ⟨_, hd', ?_⟩ F' N' (fun z h1 h2 => by simp only [two, if_neg h1, if_neg h2]) (by decide +kernel)
        rw [ea', if_neg hh]
        exact hf'
    case fin =>
      intro o h tk u1 u2 K' F N
      try dsimp only
      (repeat' (first | ((fail_if_success (fail_if_success k_unfold)); (first | refine (let s9 := _; (?_ : wpAny _ _ _ _ _ s9)) | k_unfold)) | (k_end; wrow_close) | ((fail_if_success (fail_if_success k_fold)); (refine (let q9 := _; (?_ : wpAny _ _ _ q9 _ _))); walk1) | walk1 | (dsimp only [List.nil_append, List.cons_append]; walk1) | (leave1; walk_say "STEP leave1"; try dsimp only) | fail "no step"))
      refine Hold.mk ?_
      (repeat' (first | ((fail_if_success (fail_if_success k_unfold)); (first | refine (let s9 := _; (?_ : wpAny _ _ _ _ _ s9)) | k_unfold)) | (k_end; wrow_close) | ((fail_if_success (fail_if_success k_fold)); (refine (let q9 := _; (?_ : wpAny _ _ _ q9 _ _))); walk1) | walk1 | (dsimp only [List.nil_append, List.cons_append]; walk1) | (leave1; walk_say "STEP leave1"; try dsimp only) | fail "no step"))
      rename Fr h₀ _ _ _ => kF
      rename News h₀ _ _ _ => kN
      exact hret _ _ K' l1 _ _ _ kF kN
end Mine
end
section
set_option hygiene false in
local macro_rules | `(tactic| walk_at "call ref") => `(tactic| (with_reducible refine Mine.Hold.h ?_))
namespace Mine
abbrev statO (a b c d : Int) (t1 t2 t3 t4 : Tok) (D : Addr) : Obj := tupO [.int a t1, .int b t2, .int c t3, .int d t4, .ref D]
theorem drop34 {h₀ h : Heap} {L : Addr} {a b c d : Addr × Obj} {led : List (Addr × Obj)} (N : News h₀ L h (a :: b :: c :: d :: led)) : News h₀ L h (a :: b :: led) :=
  news_sub N fun p hp => by ((revert hp; revert p; (repeat (first | exact Mine.sub_nil | (refine Mine.sub_cons ?_ ?_; focus (first | exact Mine.m0 | exact Mine.m1 | exact Mine.m2 | exact Mine.m3 | exact Mine.m4 | exact Mine.m5 | exact Mine.m6 | exact Mine.mAt 7 rfl | exact Mine.mAt 8 rfl | exact Mine.mAt 9 rfl | exact Mine.mAt 10 rfl | exact Mine.mAt 11 rfl | exact Mine.mAt 12 rfl | exact Mine.mAt 13 rfl | exact Mine.mAt 14 rfl | exact Mine.mAt 15 rfl | exact Mine.mAt 16 rfl | exact Mine.mAt 17 rfl | exact Mine.mAt 18 rfl | exact Mine.mAt 19 rfl | exact Mine.mAt 20 rfl | exact Mine.mAt 21 rfl | exact Mine.mAt 22 rfl | exact Mine.mAt 23 rfl | (repeat (first | exact List.Mem.head _ | apply List.mem_cons_of_mem | apply List.mem_append_right)))) | (refine Mine.sub_app ?_ ?_) | (intro p9 hp9; (repeat (first | exact hp9 | exact List.mem_append_left _ hp9 | apply List.mem_cons_of_mem | apply List.mem_append_right)))))))
set_option maxHeartbeats 8000000 in
theorem afs_ctr {prog : Program} {w : World} {x y l l2 : Addr} {a1 a2 a3 a4 b1 b2 b3 b4 : Int} {t1 t2 t3 t4 v1 v2 v3 v4 : Tok} {o1 o2 : Obj} {c1 c2 : List (Int × Int)} {led : List (Addr × Obj)} (hx : (x, statO a1 a2 a3 a4 t1 t2 t3 t4 l) ∈ led) (hy : (y, statO b1 b2 b3 b4 v1 v2 v3 v4 l2) ∈ led)
    (hm1 : (l, o1) ∈ led) (hm2 : (l2, o2) ∈ led) (K1 : KD prog w o1 c1) (K2 : KD prog w o2 c2) (lo1 : (l == sysModules) = false) (lo2 : (l2 == sysModules) = false) (hc1 : c1.length ≤ 10) (hc2 : c2.length ≤ 10) :
    Ctr prog w 8 66 [.ref x, .ref y] led fun k => ∀ T D o u1 u2 u3 u4, KD prog w o (addC (cpC c1) c2) → (∀ p ∈ led, p.1 < D) → D < T → k (.ref T) ((T, statO (b1 + a1) (b2 + a2) (b3 + a3) (b4 + a4) u1 u2 u3 u4 D) :: (D, o) :: led) := by
  unfold Ctr
  intro p loose mean mg mb dp un gd cn cs a ccd cl outer A₀ base h₀ L m s Q E B F X N T hk hd hu hret
  replace N := news_add N hy
  replace N := news_add N (List.mem_cons_of_mem _ hx)
  refine wpAny_call ?_
  (first | k_dflt ((refine' code_def ?k1z32 ?k2z32 ?k3z32 ?k4z32 ?k5z32 ?kAz32 ?kFz32 ?kKz32 ?k6z32 ?k7z32 ?k8z32 ?k9z32 ?kBz32 ?_ ?c2z32 ?c3z32 ?c4z32 ?c5z32; (case kAz32 => exact rfl); (case kFz32 => exact rfl); (case kKz32 => assumption); (case k1z32 => k_asm); (case k2z32 => k_asm); (case k3z32 => k_asm); (case k4z32 => k_asm); (case k5z32 => k_asm); (case k6z32 => k_is); (case k7z32 => k_is); (case k8z32 => ktr_room); (case k9z32 => first | exact BindsTo.of_eq rfl | exact binds_K (by k_in) rfl (by k_is) rfl rfl rfl); (case c5z32 => decide); (case kBz32 => exact locs rfl); (case c2z32 => exact rfl); (case c3z32 => exact rfl); (case c4z32 => exact rfl); k_whole; intro g' L' h' FG' F' N' B' X' T'; (try dsimp only); (try k_lift B'); (try k_fold))) | k_dflt ((refine' code_defC ?k1z33 ?k2z33 ?k3z33 ?k4z33 ?k5z33 ?kAz33 ?kFz33 ?kKz33 ?k6z33 ?k7z33 ?k8z33 ?k9z33 ?kBz33 ?kDz33 ?_ ?c2z33 ?c3z33 ?c4z33; (case kAz33 => exact rfl); (case kFz33 => exact rfl); (case kKz33 => assumption); (case k1z33 => k_asm); (case k2z33 => k_asm); (case k3z33 => k_asm); (case k4z33 => k_asm); (case k5z33 => k_asm); (case k6z33 => k_is); (case k7z33 => k_is); (case k8z33 => ktr_room); (case k9z33 => first | exact BindsTo.of_eq rfl | exact binds_K (by k_in) rfl (by k_is) rfl rfl rfl); (case kBz33 => exact rfl); (case kDz33 => decide +kernel); (case c2z33 => exact rfl); (case c3z33 => exact rfl); (case c4z33 => exact rfl); k_whole; intro g' L' h' tk' cells' FG' F' N' Y' B' X' T' l1; (have hO := Mine.old_of l1); (try k_lt l1); k_cells Y'; (try simp only [List.cons_append, List.nil_append] at N'); (try dsimp only); (try k_lift B'); (try k_fold))))
  (repeat' (first | ((fail_if_success (fail_if_success k_unfold)); (first | refine (let s9 := _; (?_ : wpAny _ _ _ _ _ s9)) | k_unfold)) | (k_end; wrow_close) | ((fail_if_success (fail_if_success k_fold)); (refine (let q9 := _; (?_ : wpAny _ _ _ q9 _ _))); walk1) | walk1 | (dsimp only [List.nil_append, List.cons_append]; walk1) | (leave1; walk_say "STEP leave1"; try dsimp only) | fail "no step"))
  refine Hold.mk ?_
  rename Fr _ _ _ _ => F9
  rename News _ _ _ _ => N9
  refine' Ctr.use (adc_ctr (.tail _ (.tail _ hm1)) (.tail _ (.tail _ hm2)) K1 K2 lo1 lo2 hc1 hc2) ?zB F9 ?zX N9 ?zT ?zk ?zd ?zu ?_
  case zB => k_asm
  case zX => k_asm
  case zT => k_asm
  case zk => exact rfl
  case zd => ktr_room
  case zu => ktr_units
  intro D o hK hD h' dr tk F' N'
  try dsimp only
  (repeat' (first | ((fail_if_success (fail_if_success k_unfold)); (first | refine (let s9 := _; (?_ : wpAny _ _ _ _ _ s9)) | k_unfold)) | (k_end; wrow_close) | ((fail_if_success (fail_if_success k_fold)); (refine (let q9 := _; (?_ : wpAny _ _ _ q9 _ _))); walk1) | walk1 | (dsimp only [List.nil_append, List.cons_append]; walk1) | (leave1; walk_say "STEP leave1"; try dsimp only) | fail "no step"))
  rename Fr h₀ _ _ _ => kF
  rename News h₀ _ _ _ => kN
  rename ∀ p ∈ (D, o) :: _, p.1 < _ => lT
  exact hret _ D o _ _ _ _ hK (fun p hp => hD p (.tail _ (.tail _ hp))) (lT _ (.head _)) _ _ _ kF (drop34 kN)
end Mine
end
section
set_option hygiene false in
local macro_rules | `(tactic| walk_at "exec For Name Call cons nil") => `(tactic| (with_reducible refine Mine.Hold.h ?_))
namespace Mine
section
variable {prog : Program} {w : World} {A : Around} {E : Value → Shared → Prop} {s : Shared} {env : Env} {h₀ : Heap} {target : PySem.Expr} {body : List Stmt} {Q : Flow → Shared → Prop}
def ValEnd (s : Shared) (h₀ : Heap) (L : Addr) (m : Str → Option Value) (x y : Str) (I : Addr) (oI : Obj) (led : List (Addr × Obj)) (a : Int) (s₃ : Shared) : Prop :=
  Mine.Ex4 fun h' tk' t u => Mine.And3 (s₃ = { s with heap := h', toks := tk' }) (Fr h₀ L h' (two m x y (some (.int a t)) u)) (News h₀ L h' ((I, oI) :: led))
/-- a loop over the values of a dict of ints that turns one int -/
theorem vals_fold {I d : Addr} {od : Obj} {led : List (Addr × Obj)} {m : Str → Option Value} {c : List (Int × Int)} {a₀ : Int} {t₀ : Tok} (x y : Str) (f : Int → Int → Int) (ty : String) (hd : (d, od) ∈ led) (hI : ∀ p ∈ led, p.1 < I) (hxy : y ≠ x) (hy : m y = some (.int a₀ t₀))
    (step : ∀ v acc acc', acc' = f acc v → ∀ u t t2 h tk oI, Fr h₀ env.locals h (two m x y (some (.int acc t)) u) → News h₀ env.locals h ((I, oI) :: led) →
      wpAny (model prog w) A (assign target env (.int v t2)) (fun _ s₂ => wpAny (model prog w) A (execs body env) (fun g s₃ => Hold (g = .next ∧ ValEnd s h₀ env.locals m x y I oI led acc' s₃)) E s₂) E { s with heap := h, toks := tk })
    (fin : ∀ h tk t u, Fr h₀ env.locals h (two m x y (some (.int ((c.map (·.2)).foldl f a₀) t)) u) → News h₀ env.locals h led → Q .next { s with heap := h, toks := tk }) :
    ItemsRest prog w A E h₀ env target body Q s [(I, ty)] [(d, od)] (c.map fun p => Itm.flat (.int p.2)) m led := by
  have key : ∀ (post : List (Int × Int)) (acc : Int) (t : Tok) (u : Option Value), (c.map (·.2)).foldl f a₀ = (post.map (·.2)).foldl f acc → ItemsRest prog w A E h₀ env target body Q s [(I, ty)] [(d, od)] (post.map fun p => Itm.flat (.int p.2)) (two m x y (some (.int acc t)) u) led := by
    intro post
    induction post with
    | nil =>
      intro acc t u e h tk F N
      rw [List.map_nil, List.foldl_nil] at e
      rw [e] at fin
      exact fin h tk t u F N
    | cons p post ih =>
      obtain ⟨k, v⟩ := p
      intro acc t u e vv h tk hv F oI _ N
      obtain ⟨t2, rfl⟩ := PyProof.V.Flat.int_inv hv
      refine wpAny_mono (step v acc _ rfl u t t2 h tk oI F N) (fun _ s₂ h₂ => wpAny_mono h₂ (fun g s₃ h₃ => ?_) fun _ _ e => e) fun _ _ e => e
      obtain ⟨rfl, h', tk', t', u', rfl, F', N'⟩ := h₃
      exact ⟨h', tk', _, _, rfl, F', N', fun p hp q hq => by rw [List.mem_singleton.mp hq]; exact Nat.ne_of_lt (hI p hp), ⟨hd, trivial⟩, ih (f acc v) t' u' e⟩
  have e : m = two m x y (some (.int a₀ t₀)) (m x) := by
    funext z
    by_cases h1 : z = y
    · subst h1; simp [two, hy]
    · by_cases h2 : z = x
      · subst h2; simp [two, h1]
      · simp [two, h1, h2]
  have := key c a₀ t₀ (m x) rfl
  rw [← e] at this
  exact this
theorem val_end {L I : Addr} {oI : Obj} {led : List (Addr × Obj)} {m m' : Str → Option Value} {x y : Str} {a : Int} {t : Tok} {h' : Heap} {tk : Nat} (F : Fr h₀ L h' m') (N : News h₀ L h' ((I, oI) :: led)) (hy : m' y = some (.int a t)) (hm : ∀ z, z ≠ x → z ≠ y → m' z = m z) :
    Hold (Flow.next = Flow.next ∧ ValEnd s h₀ L m x y I oI led a { s with heap := h', toks := tk }) :=
  ⟨rfl, h', tk, t, m' x, rfl, fr_over F fun z => by
    by_cases h1 : z = y
    · subst h1; simp [two, hy]
    · by_cases h2 : z = x
      · subst h2; simp [two, h1]
      · simp [two, h1, h2, hm z h2 h1], N⟩
theorem flat_ofV {c : List (Int × Int)} : (kdfD c).map (fun p => Itm.flat p.2) = c.map fun p => Itm.flat (.int p.2) := by
  unfold kdfD
  rw [List.map_map]
  rfl
end
set_option maxHeartbeats 8000000 in
theorem ccl_ctr {prog : Program} {w : World} {l : Addr} {o1 : Obj} {c : List (Int × Int)} {led : List (Addr × Obj)} (hm1 : (l, o1) ∈ led) (K1 : KD prog w o1 c) (lo1 : (l == sysModules) = false) :
    Ctr prog w 4 80 [.ref l] led fun k => ∀ t, k (.int ((c.map (·.2)).foldl (fun a b => a + b) 0) t) led := by
  unfold Ctr
  intro p loose mean mg mb dp un gd cn cs a ccd cl outer A₀ base h₀ L m s Q E B F X N T hk hd hu hret
  refine wpAny_call ?_
  (first | k_dflt ((refine' code_def ?k1z34 ?k2z34 ?k3z34 ?k4z34 ?k5z34 ?kAz34 ?kFz34 ?kKz34 ?k6z34 ?k7z34 ?k8z34 ?k9z34 ?kBz34 ?_ ?c2z34 ?c3z34 ?c4z34 ?c5z34; (case kAz34 => exact rfl); (case kFz34 => exact rfl); (case kKz34 => assumption); (case k1z34 => k_asm); (case k2z34 => k_asm); (case k3z34 => k_asm); (case k4z34 => k_asm); (case k5z34 => k_asm); (case k6z34 => k_is); (case k7z34 => k_is); (case k8z34 => ktr_room); (case k9z34 => first | exact BindsTo.of_eq rfl | exact binds_K (by k_in) rfl (by k_is) rfl rfl rfl); (case c5z34 => decide); (case kBz34 => exact locs rfl); (case c2z34 => exact rfl); (case c3z34 => exact rfl); (case c4z34 => exact rfl); k_whole; intro g' L' h' FG' F' N' B' X' T'; (try dsimp only); (try k_lift B'); (try k_fold))) | k_dflt ((refine' code_defC ?k1z35 ?k2z35 ?k3z35 ?k4z35 ?k5z35 ?kAz35 ?kFz35 ?kKz35 ?k6z35 ?k7z35 ?k8z35 ?k9z35 ?kBz35 ?kDz35 ?_ ?c2z35 ?c3z35 ?c4z35; (case kAz35 => exact rfl); (case kFz35 => exact rfl); (case kKz35 => assumption); (case k1z35 => k_asm); (case k2z35 => k_asm); (case k3z35 => k_asm); (case k4z35 => k_asm); (case k5z35 => k_asm); (case k6z35 => k_is); (case k7z35 => k_is); (case k8z35 => ktr_room); (case k9z35 => first | exact BindsTo.of_eq rfl | exact binds_K (by k_in) rfl (by k_is) rfl rfl rfl); (case kBz35 => exact rfl); (case kDz35 => decide +kernel); (case c2z35 => exact rfl); (case c3z35 => exact rfl); (case c4z35 => exact rfl); k_whole; intro g' L' h' tk' cells' FG' F' N' Y' B' X' T' l1; (have hO := Mine.old_of l1); (try k_lt l1); k_cells Y'; (try simp only [List.cons_append, List.nil_append] at N'); (try dsimp only); (try k_lift B'); (try k_fold))))
  refine cut_execs 2 ?_
  dsimp only [List.take, List.drop]
  (repeat' (first | ((fail_if_success (fail_if_success k_unfold)); (first | refine (let s9 := _; (?_ : wpAny _ _ _ _ _ s9)) | k_unfold)) | (k_end; wrow_close) | ((fail_if_success (fail_if_success k_fold)); (refine (let q9 := _; (?_ : wpAny _ _ _ q9 _ _))); walk1) | walk1 | (dsimp only [List.nil_append, List.cons_append]; walk1) | (leave1; walk_say "STEP leave1"; try dsimp only) | fail "no step"))
  refine Hold.mk ?_
  rename Fr _ _ _ _ => FZ
  rename News _ _ _ _ => NZ
  with_unfolding_all refine' For_turns FZ ?_
  k_whole
  with_unfolding_all refine MethodCall_ ?_
  k_dflt (refine' nameX_L FZ ?v ?_ ?a ?b; (case a => rfl); (case b => rfl); (case v => rfl))
  refine getMethod_tab (knd := PySem.intKind _ _) (enc := PyData.int) PySem.F.slot_dict_values PySem.F.type_dict_values (tab_of K1 NZ hm1 lo1) ?_
  with_unfolding_all refine callWith_method0 ?_
  refine call_values_tab (knd := PySem.intKind _ _) (enc := PyData.int) (tab_of K1 NZ hm1 lo1) FZ NZ ?_
  intro h' o' hv' F' N'
  replace N' := kti_tail N'
  refine kti_vals (knd := PySem.intKind _ _) (enc := PyData.int) rfl F' N' hv' (tab_of K1 N' hm1 lo1) hm1 flat_ofV ?_
  intro I lI
  refine vals_fold (Str.ofString "calls") (Str.ofString "nc") (fun a b => a + b) _ hm1 lI (by decide +kernel) (by rfl) ?step ?fin
  case step =>
    intro v acc acc' ea u t t2 h tk oI F N
    (repeat' (first | ((fail_if_success (fail_if_success k_unfold)); (first | refine (let s9 := _; (?_ : wpAny _ _ _ _ _ s9)) | k_unfold)) | (k_end; wrow_close) | ((fail_if_success (fail_if_success k_fold)); (refine (let q9 := _; (?_ : wpAny _ _ _ q9 _ _))); walk1) | walk1 | (dsimp only [List.nil_append, List.cons_append]; walk1) | (leave1; walk_say "STEP leave1"; try dsimp only) | fail "no step"))
    rename Fr _ _ _ _ => F9
    rename News _ _ _ _ => N9
    rw [ea]
    exact val_end F9 N9 (by rfl) (fun z h1 h2 => by simp only [two, if_neg h1, if_neg h2])
  case fin =>
    intro h tk t u F N
    try dsimp only
    (repeat' (first | ((fail_if_success (fail_if_success k_unfold)); (first | refine (let s9 := _; (?_ : wpAny _ _ _ _ _ s9)) | k_unfold)) | (k_end; wrow_close) | ((fail_if_success (fail_if_success k_fold)); (refine (let q9 := _; (?_ : wpAny _ _ _ q9 _ _))); walk1) | walk1 | (dsimp only [List.nil_append, List.cons_append]; walk1) | (leave1; walk_say "STEP leave1"; try dsimp only) | fail "no step"))
    refine Hold.mk ?_
    (repeat' (first | ((fail_if_success (fail_if_success k_unfold)); (first | refine (let s9 := _; (?_ : wpAny _ _ _ _ _ s9)) | k_unfold)) | (k_end; wrow_close) | ((fail_if_success (fail_if_success k_fold)); (refine (let q9 := _; (?_ : wpAny _ _ _ q9 _ _))); walk1) | walk1 | (dsimp only [List.nil_append, List.cons_append]; walk1) | (leave1; walk_say "STEP leave1"; try dsimp only) | fail "no step"))
    rename Fr h₀ _ _ _ => kF
    rename News h₀ _ _ _ => kN
    exact hret _ _ _ _ kF kN
end Mine
end
section
set_option hygiene false in
local macro_rules | `(tactic| walk_at $s) => if ("|exec For Tuple Attribute cons nil|pyIter ref|".splitOn ("|" ++ s.getString ++ "|")).length = 2 then `(tactic| (with_reducible refine Mine.Hold.h ?_)) else Lean.Macro.throwUnsupported
namespace Mine
abbrev rowO (o n : Int) (t u : Tok) : Obj := tupO [.int o t, .int n u]
def cmpI (p1 n1 p2 n2 way : Int) : Int := if n1 < n2 then 1 else if n2 < n1 then -1 else if p1 < p2 then -way else if p2 < p1 then way else 0
set_option maxHeartbeats 8000000 in
theorem cmp_ctr {prog : Program} {w : World} {x dx S A1 A2 l r : Addr} {hh : Int} {tt : Tok} {way p1 n1 p2 n2 : Int} {e1 e2 e3 e4 s1 s2 s3 s4 : Tok} {led : List (Addr × Obj)} :
    Ctr prog w 4 52 [.ref x, .ref l, .ref r] ((x, instObj 55 dx) :: (dx, dictOf [⟨hh, .str (Str.ofString "comp_select_list") tt, .ref S⟩] 1) :: (S, tupO [.ref A1, .ref A2]) :: (A1, rowO 1 (-1) e1 e2) :: (A2, rowO 0 way e3 e4) :: (l, rowO p1 n1 s1 s2) :: (r, rowO p2 n2 s3 s4) :: led) fun k => ∀ v t, v = cmpI p1 n1 p2 n2 way → k (.int v t) ((x, instObj 55 dx) :: (dx, dictOf [⟨hh, .str (Str.ofString "comp_select_list") tt, .ref S⟩] 1) :: (S, tupO [.ref A1, .ref A2]) :: (A1, rowO 1 (-1) e1 e2) :: (A2, rowO 0 way e3 e4) :: (l, rowO p1 n1 s1 s2) :: (r, rowO p2 n2 s3 s4) :: led) := by
  unfold Ctr
  intro p loose mean mg mb dp un gd cn cs a ccd cl outer A₀ base h₀ L m s Q E B F X N T hk hd hu hret
  refine wpAny_call ?_
  (first | k_dflt ((refine' code_def ?k1z36 ?k2z36 ?k3z36 ?k4z36 ?k5z36 ?kAz36 ?kFz36 ?kKz36 ?k6z36 ?k7z36 ?k8z36 ?k9z36 ?kBz36 ?_ ?c2z36 ?c3z36 ?c4z36 ?c5z36; (case kAz36 => exact rfl); (case kFz36 => exact rfl); (case kKz36 => assumption); (case k1z36 => k_asm); (case k2z36 => k_asm); (case k3z36 => k_asm); (case k4z36 => k_asm); (case k5z36 => k_asm); (case k6z36 => k_is); (case k7z36 => k_is); (case k8z36 => ktr_room); (case k9z36 => first | exact BindsTo.of_eq rfl | exact binds_K (by k_in) rfl (by k_is) rfl rfl rfl); (case c5z36 => decide); (case kBz36 => exact locs rfl); (case c2z36 => exact rfl); (case c3z36 => exact rfl); (case c4z36 => exact rfl); k_whole; intro g' L' h' FG' F' N' B' X' T'; (try dsimp only); (try k_lift B'); (try k_fold))) | k_dflt ((refine' code_defC ?k1z37 ?k2z37 ?k3z37 ?k4z37 ?k5z37 ?kAz37 ?kFz37 ?kKz37 ?k6z37 ?k7z37 ?k8z37 ?k9z37 ?kBz37 ?kDz37 ?_ ?c2z37 ?c3z37 ?c4z37; (case kAz37 => exact rfl); (case kFz37 => exact rfl); (case kKz37 => assumption); (case k1z37 => k_asm); (case k2z37 => k_asm); (case k3z37 => k_asm); (case k4z37 => k_asm); (case k5z37 => k_asm); (case k6z37 => k_is); (case k7z37 => k_is); (case k8z37 => ktr_room); (case k9z37 => first | exact BindsTo.of_eq rfl | exact binds_K (by k_in) rfl (by k_is) rfl rfl rfl); (case kBz37 => exact rfl); (case kDz37 => decide +kernel); (case c2z37 => exact rfl); (case c3z37 => exact rfl); (case c4z37 => exact rfl); k_whole; intro g' L' h' tk' cells' FG' F' N' Y' B' X' T' l1; (have hO := Mine.old_of l1); (try k_lt l1); k_cells Y'; (try simp only [List.cons_append, List.nil_append] at N'); (try dsimp only); (try k_lift B'); (try k_fold))))
  refine cut_execs 1 ?_
  dsimp only [List.take, List.drop]
  (repeat' (first | ((fail_if_success (fail_if_success k_unfold)); (first | refine (let s9 := _; (?_ : wpAny _ _ _ _ _ s9)) | k_unfold)) | (k_end; wrow_close) | ((fail_if_success (fail_if_success k_fold)); (refine (let q9 := _; (?_ : wpAny _ _ _ q9 _ _))); walk1) | walk1 | (dsimp only [List.nil_append, List.cons_append]; walk1) | (leave1; walk_say "STEP leave1"; try dsimp only) | fail "no step"))
  refine Hold.mk ?_
  rename Fr _ _ _ _ => FZ
  rename News _ _ _ _ => NZ
  with_unfolding_all refine' For_turns FZ ?_
  k_whole
  (repeat' (first | ((fail_if_success (fail_if_success k_unfold)); (first | refine (let s9 := _; (?_ : wpAny _ _ _ _ _ s9)) | k_unfold)) | (k_end; wrow_close) | ((fail_if_success (fail_if_success k_fold)); (refine (let q9 := _; (?_ : wpAny _ _ _ q9 _ _))); walk1) | walk1 | (dsimp only [List.nil_append, List.cons_append]; walk1) | (leave1; walk_say "STEP leave1"; try dsimp only) | fail "no step"))
  refine Hold.mk ?_
  rename Fr _ _ _ _ => FZ
  rename News _ _ _ _ => NZ
  refine iter_tupTurns rfl FZ NZ (vs := [.ref A1, .ref A2]) (by k_mem) rfl rfl ?_
  intro I lI
  try dsimp only [List.map]
  refine ItemsRest.val ?_
  intro h1 tk1 F1
  refine AllObj.cons ?_
  intro oI hoI
  refine AllObj.nil ?_
  intro N1
  try simp only [List.cons_append, List.nil_append] at N1
  (repeat' (first | ((fail_if_success (fail_if_success k_unfold)); (first | refine (let s9 := _; (?_ : wpAny _ _ _ _ _ s9)) | k_unfold)) | (k_end; wrow_close) | ((fail_if_success (fail_if_success k_fold)); (refine (let q9 := _; (?_ : wpAny _ _ _ q9 _ _))); walk1) | walk1 | (dsimp only [List.nil_append, List.cons_append]; walk1) | (leave1; walk_say "STEP leave1"; try dsimp only) | fail "no step"))
  · rename Fr h₀ _ _ _ => kF
    rename News h₀ _ _ _ => kN
    exact hret _ _ (by unfold cmpI; (repeat' split) <;> omega) _ _ _ kF (fun p hp => kN p (by first | exact hp | exact .tail _ hp))
  · rename Fr h₀ _ _ _ => kF
    rename News h₀ _ _ _ => kN
    exact hret _ _ (by unfold cmpI; (repeat' split) <;> omega) _ _ _ kF (fun p hp => kN p (by first | exact hp | exact .tail _ hp))
  rename Fr _ _ _ _ => F9
  rename News _ _ _ _ => N9
  refine ⟨_, _, _, _, rfl, F9, N9, fun p hp q hq => by rw [List.mem_singleton.mp hq]; exact Nat.ne_of_lt (lI p hp), ⟨by k_mem, trivial⟩, ?_⟩
  refine ItemsRest.val ?_
  intro h2 tk2 F2
  refine AllObj.cons ?_
  intro oI2 hoI2
  refine AllObj.nil ?_
  intro N2
  try simp only [List.cons_append, List.nil_append] at N2
  (repeat' (first | ((fail_if_success (fail_if_success k_unfold)); (first | refine (let s9 := _; (?_ : wpAny _ _ _ _ _ s9)) | k_unfold)) | (k_end; wrow_close) | ((fail_if_success (fail_if_success k_fold)); (refine (let q9 := _; (?_ : wpAny _ _ _ q9 _ _))); walk1) | walk1 | (dsimp only [List.nil_append, List.cons_append]; walk1) | (leave1; walk_say "STEP leave1"; try dsimp only) | fail "no step"))
  · rename Fr h₀ _ _ _ => kF
    rename News h₀ _ _ _ => kN
    exact hret _ _ (by unfold cmpI; (repeat' split) <;> omega) _ _ _ kF (fun p hp => kN p (by first | exact hp | exact .tail _ hp))
  · rename Fr h₀ _ _ _ => kF
    rename News h₀ _ _ _ => kN
    exact hret _ _ (by unfold cmpI; (repeat' split) <;> omega) _ _ _ kF (fun p hp => kN p (by first | exact hp | exact .tail _ hp))
  rename Fr _ _ _ _ => F9
  rename News _ _ _ _ => N9
  refine ⟨_, _, _, _, rfl, F9, N9, fun p hp q hq => by rw [List.mem_singleton.mp hq]; exact Nat.ne_of_lt (lI p hp), ⟨by k_mem, trivial⟩, ?_⟩
  refine ItemsRest.zero ?_
  intro h3 tk3 F3 N3
  (repeat' (first | ((fail_if_success (fail_if_success k_unfold)); (first | refine (let s9 := _; (?_ : wpAny _ _ _ _ _ s9)) | k_unfold)) | (k_end; wrow_close) | ((fail_if_success (fail_if_success k_fold)); (refine (let q9 := _; (?_ : wpAny _ _ _ q9 _ _))); walk1) | walk1 | (dsimp only [List.nil_append, List.cons_append]; walk1) | (leave1; walk_say "STEP leave1"; try dsimp only) | fail "no step"))
  refine Hold.mk ?_
  (repeat' (first | ((fail_if_success (fail_if_success k_unfold)); (first | refine (let s9 := _; (?_ : wpAny _ _ _ _ _ s9)) | k_unfold)) | (k_end; wrow_close) | ((fail_if_success (fail_if_success k_fold)); (refine (let q9 := _; (?_ : wpAny _ _ _ q9 _ _))); walk1) | walk1 | (dsimp only [List.nil_append, List.cons_append]; walk1) | (leave1; walk_say "STEP leave1"; try dsimp only) | fail "no step"))
  rename Fr h₀ _ _ _ => kF
  rename News h₀ _ _ _ => kN
  exact hret _ _ (by unfold cmpI; (repeat' split) <;> omega) _ _ _ kF (fun p hp => kN p (by first | exact hp | exact .tail _ hp))
end Mine
end
namespace Mine
open PySem.SeqAt
section
variable {prog prog' : Program} {w w' : World} {A : Around} {E : Value → Shared → Prop} {s : Shared} {h₀ : Heap} {L : Addr} {led : List (Addr × Obj)}
theorem kd_any {o : Obj} {c : List (Int × Int)} (K : KD prog w o c) : KD prog' w' o c := by
  obtain ⟨kvs, ⟨es, ep, hx, hd, hk, hp, hn⟩, hf⟩ := K
  refine ⟨kvs, ⟨es, ep, hx, hd, hk, ?_, hn⟩, hf⟩
  clear hx hd hk hn hf
  revert hp
  generalize es.toList = l
  intro hp
  induction hp with
  | nil => exact .nil
  | cons h1 h2 _ ih => exact .cons h1 h2 ih
/-- the rows of one dict of ints in another -/
theorem rows_of {cb : List (Int × Int)} : ∀ {ca : List (Int × Int)}, (∀ p ∈ ca, kdfHas cb p.1 = true ∧ kdfLook cb p.1 0 = p.2) → KeqRows (kdfD cb) (kdfD ca) true
  | [], _ => .nil
  | p :: ca, h => by
    obtain ⟨h1, h2⟩ := h p (.head _)
    have := KeqRows.hit (v := PyData.int p.2) (kdfD_item h1) (rows_of fun q hq => h q (.tail _ hq))
    rw [h2] at this
    have e : PyData.eqv (PyData.int p.2) (PyData.int p.2) = true := by simp [PyData.eqv]
    rw [e, Bool.true_and] at this
    exact this
theorem eq_dicts {a b : Addr} {oa ob : Obj} {ca cb : List (Int × Int)} (N : News h₀ L s.heap led) (ha : (a, oa) ∈ led) (hb : (b, ob) ∈ led) (Ka : KD prog w oa ca) (Kb : KD prog w ob cb) (la : (a == sysModules) = false) (lb : (b == sysModules) = false) (hne : a ≠ b) (hl : ca.length = cb.length) (hr : ∀ p ∈ ca, kdfHas cb p.1 = true ∧ kdfLook cb p.1 0 = p.2) (hu : A.units < cLine) :
    EqAt A s (.ref a) (.ref b) true :=
  EqAt.of_refs hne fun prog' w' E Q hq => keq_tabs (A := A) (E := E) (knd := PySem.intKind prog' w') PyProof.V.same_int (tab_of (kd_any Ka) N ha la) (tab_of (kd_any Kb) N hb lb) (by rw [kdfD_length, kdfD_length, hl]) hu (rows_of hr) hq
theorem eq_ints {a b : Int} {t u : Tok} (h : a = b) : EqAt A s (.int a t) (.int b u) true := by
  have := keq_flat (A := A) (s := s) (PyProof.V.Flat.int a t) (PyProof.V.Flat.int b u)
  subst h
  simpa [PyData.eqv] using this
theorem ne_stats {x y D D' : Addr} {a1 a2 a3 a4 b1 b2 b3 b4 : Int} {t1 t2 t3 t4 u1 u2 u3 u4 : Tok} {Q : Value → Shared → Prop} (N : News h₀ L s.heap led) (hx : (x, statO a1 a2 a3 a4 t1 t2 t3 t4 D) ∈ led) (hy : (y, statO b1 b2 b3 b4 u1 u2 u3 u4 D') ∈ led)
    (e1 : a1 = b1) (e2 : a2 = b2) (e3 : a3 = b3) (e4 : a4 = b4) (e5 : EqAt A.in1 s (.ref D) (.ref D') true) (hu : A.units < cLine) (h : Q (.bool false) s) :
    wpAny (model prog w) A (compareOp .NotEq (.ref x) (.ref y)) Q E s := by
  refine RcNeAt.tuples (e := fun _ => true) (items := #[.int a1 t1, .int a2 t2, .int a3 t3, .int a4 t4, .ref D]) (items2 := #[.int b1 u1, .int b2 u2, .int b3 u3, .int b4 u4, .ref D']) ⟨_, (N _ hx).1, rfl, _, rfl⟩ ⟨_, (N _ hy).1, rfl, _, rfl⟩ hu ?_ prog w E Q h
  intro j h1 h2
  match j, h1, h2 with
  | 0, _, _ => exact eq_ints e1
  | 1, _, _ => exact eq_ints e2
  | 2, _, _ => exact eq_ints e3
  | 3, _, _ => exact eq_ints e4
  | 4, _, _ => exact e5
  | n + 5, h1, _ => exact absurd h1 (by simp)
theorem ne_empty {a b : Addr} {oa ob : Obj} {Q : Value → Shared → Prop} (N : News h₀ L s.heap led) (ha : (a, oa) ∈ led) (hb : (b, ob) ∈ led) (Ka : KD prog w oa []) (Kb : KD prog w ob []) (la : (a == sysModules) = false) (lb : (b == sysModules) = false) (hu : A.units < cLine) (h : Q (.bool false) s) :
    wpAny (model prog w) A (compareOp .NotEq (.ref a) (.ref b)) Q E s :=
  kne_tabs (r := true) (knd := PySem.intKind prog w) PyProof.V.same_int (tab_of Ka N ha la) (tab_of Kb N hb lb) rfl hu .nil h
end
end Mine
namespace Mine
section
variable {prog : Program} {w : World} {A : Around} {E : Value → Shared → Prop} {s : Shared} {h₀ : Heap} {L : Addr} {m : Str → Option Value} {env : Env}
def bookC (f : Int → Int) (ns : List Int) : List (Int × Int) := ns.foldl (fun c k => kdfPut c k (f k)) []
theorem putAll_book (f : Int → Int) (ns : List Int) : putAll PyData.int (fun k : Int => k) (fun k : Int => PyData.int (f k)) ns = kdfD (bookC f ns) := by
  unfold putAll bookC
  have key : ∀ (l : List Int) (c : List (Int × Int)), l.foldl (fun acc a => PyProof.V.putD (PyData.int a) (PyData.int (f a)) acc) (kdfD c) = kdfD (l.foldl (fun c k => kdfPut c k (f k)) c) := by
    intro l
    induction l with
    | nil => intro c; rfl
    | cons a l ih => intro c; rw [List.foldl_cons, List.foldl_cons, kdfD_put, ih]
  exact key ns []
/-- what one turn of a dict block is to show: its key and its value, the heap as it stands -/
def TurnK (prog : Program) (w : World) (A : Around) (h₀ : Heap) (L : Addr) (m : Str → Option Value) (env : Env) (kx vx : PySem.Expr) (x : Str) (scope : Scope) (cl : List (Str × Addr)) (s : Shared) (ns : List Int) (f : Int → Int) (news : List (Addr × Obj)) : Prop :=
  ∀ C a t h tk m₂ (E' : Value → Shared → Prop), a ∈ ns → h.Ns C m₂ → m₂ x = some (.int a t) → Fr h₀ L h m → News h₀ L h news →
    wpAny (model prog w) A (eval kx (compEnvC scope cl C env)) (fun r s₄ => Hold (Mine.Ex2 fun t' tk' => Mine.And3 (r = .int a t') (s₄ = { s with heap := h, toks := tk' }) (wpAny (model prog w) A (eval vx (compEnvC scope cl C env)) (fun r s₅ => Hold (Mine.Ex2 fun t' tk' => r = .int (f a) t' ∧ s₅ = { s with heap := h, toks := tk' })) E' s₄))) E' { s with heap := h, toks := tk }
theorem dblock {kx vx iter : PySem.Expr} {x : Str} {px : Pos} {scope : Scope} {cl : List (Str × Addr)} {pos : Pos} {s₂ : Shared} {I ax : Addr} {vs : List Value} {ns : List Int} {f : Int → Int} {news : List (Addr × Obj)} {RR : Value → Addr → Result → Shared → Prop}
    (W : Walks prog w A I [I, ax] [I] vs.length (fun i v => vs[i]? = some v) (fun i h => h.IsListIter I ax i ∧ h.IsList ax vs.toArray)) (hi : IntsAre vs ns) (hsz : vs.length ≤ 100)
    (hcell : ∀ y ∈ scope.names, y.2 ≠ .cell) (hkind : scope.kind = .function) (hx : scope.names.lookup x = some .local) (hst : s₂.heap.IsListIter I ax 0 ∧ s₂.heap.IsList ax vs.toArray) (hI : I < s₂.heap.objs.size) (hax : ax < s₂.heap.objs.size)
    (F : Fr h₀ L s₂.heap m) (N : News h₀ L s₂.heap news) (hIL : L ≠ I) (hI₀ : h₀.get? I = none) (off : ∀ p ∈ news, p.1 ≠ I)
    (turn : TurnK prog w A h₀ L m env kx vx x scope cl s₂ ns f news)
    (hRR : ∀ D C o h tk m', Fr h₀ L h m → News h₀ L h ((D, o) :: news) → (∀ p ∈ news, p.1 < D) → @LT.lt Nat _ I D → h.Ns C m' → h₀.get? C = none → h₀.get? D = none → C ≠ L → D ≠ L → C ≠ D → (∀ p ∈ news, p.1 ≠ C) → KD prog w o (bookC f ns) → RR (.ref D) C (.ok .next) { s₂ with heap := h, toks := tk }) :
    wpAny (model prog w) A newDict (fun acc s₃ => wpAny (model prog w) A (newFunctionEnv scope env.globals cl [] env.qual none .none (some env)) (fun cenv s₄ =>
      codeAny (model prog w) A (.compStart (.DictComp kx vx [⟨.Name x px, iter, [], 0⟩] scope pos) 0 (.ref I) acc { cenv with scope := relabel scope env }) (RR acc cenv.locals) s₄) E s₃) E s₂ := by
  refine wpAny_newObj_type (wpAny_newFunctionEnv hcell (by intro y hy; simp at hy) (fun h₁ hns₁ hsb₁ => ?_) hkind)
  dsimp only at hns₁ hsb₁ ⊢
  have hnew : (s₂.heap.push { cls := .type "dict", dict := none, data := .dict #[] }).DictOf (PySem.intKind prog w) s₂.heap.objs.size [] := Heap.DictOf.new s₂.heap
  generalize hH2 : s₂.heap.push { cls := .type "dict", dict := none, data := .dict #[] } = H2 at hns₁ hsb₁ hnew ⊢
  have hC : H2.objs.size = s₂.heap.objs.size + 1 := by rw [← hH2, Heap.size_push]
  have hDC : s₂.heap.objs.size ≠ H2.objs.size := by rw [hC]; exact Nat.ne_of_lt (Nat.lt_succ_self _)
  have below : ∀ b, b < s₂.heap.objs.size → b ≠ H2.objs.size ∧ b ≠ s₂.heap.objs.size := fun b hb => ⟨by rw [hC]; exact Nat.ne_of_lt (Nat.lt_succ_of_lt hb), Nat.ne_of_lt hb⟩
  have hIf := below I hI
  have hAf := below ax hax
  have old : ∀ b o, s₂.heap.get? b = some o → h₁.get? b = some o := fun b o e => hsb₁.extBut b o (below b (Heap.lt_size e)).1 (Heap.get?_push_of_some _ (hH2 ▸ Heap.get?_push_of_some _ e))
  have none_ge : ∀ a, s₂.heap.objs.size ≤ a → h₀.get? a = none := fun a ha => by
    cases e : h₀.get? a with
    | none => rfl
    | some o' => exact absurd (Heap.lt_size (F.keep a o' e)) (Nat.not_lt.mpr ha)
  have hD₀ : h₀.get? s₂.heap.objs.size = none := none_ge _ (Nat.le_refl _)
  have hC₀ : h₀.get? H2.objs.size = none := none_ge _ (by rw [hC]; exact Nat.le_succ _)
  have hLlt : L < s₂.heap.objs.size := F.ns.lt
  have hDL : s₂.heap.objs.size ≠ L := Ne.symm (below L hLlt).2
  have hCL : H2.objs.size ≠ L := Ne.symm (below L hLlt).1
  have offD : ∀ p ∈ news, p.1 < s₂.heap.objs.size := fun p hp => Heap.lt_size (N p hp).1
  have offC : ∀ p ∈ news, p.1 ≠ H2.objs.size := fun p hp => (below _ (offD p hp)).1
  have st_keep : ∀ {i : Nat} {h h' : Heap} {b : Addr}, (h.IsListIter I ax i ∧ h.IsList ax vs.toArray) → Heap.SameBut b h h' → I ≠ b → ax ≠ b → (h'.IsListIter I ax i ∧ h'.IsList ax vs.toArray) :=
    fun st hs h1 h2 => W.frame _ _ _ st fun c hc o e => hs.extBut c o (by rcases List.mem_cons.mp hc with rfl | hc; exact h1; rw [List.mem_singleton.mp hc]; exact h2) e
  let Inv : Nat → Shared → Prop := fun k s' => Mine.Ex5 fun h' tk i m' kvs => Mine.And10 (s' = { s₂ with heap := h', toks := tk }) (i ≤ vs.length) (k = vs.length + 1 - i) ((h'.IsListIter I ax i ∧ h'.IsList ax vs.toArray)) (Fr h₀ L h' m) (h'.Ns H2.objs.size m') (News h₀ L h' news) (h'.DictOf (PySem.intKind prog w) s₂.heap.objs.size kvs) (PyProof.V.FlatPairs PyData.int kvs (kdfD (bookC f (ns.take i)))) (kvs.length ≤ i)
  have loop : ∀ s₃ : Shared, Inv (vs.length + 1) s₃ →
      codeAny (model prog w) A (.compLoop (.DictComp kx vx [⟨.Name x px, iter, [], 0⟩] scope pos) 0 (.ref I) (.ref s₂.heap.objs.size) (compEnvC scope cl H2.objs.size env))
        (RR (.ref s₂.heap.objs.size) H2.objs.size) s₃ := by
    intro s₃ hI₃
    refine codeAny_compLoop_testsD Inv ?_ (vs.length + 1) hI₃
    rintro k s' ⟨h', tk, i, m', kvs, rfl, hin, rfl, hst', F', hn', N', hd', hf', hlen⟩
    by_cases hlt : i < vs.length
    · refine W.item i _ _ _ hlt hst' fun v h₂ tk₂ hPv hst₂ hk₂ => ?_
      have hP' : vs[i]? = some v := hPv
      obtain ⟨a, t, rfl, hns⟩ : Mine.Ex2 fun a t => v = .int a t ∧ ns[i]? = some a := by
        have hl := hi.length
        obtain ⟨t, e⟩ := hi.get i (ns[i]'(by omega)) (by simp)
        rw [hP'] at e
        exact ⟨_, t, Option.some.inj e, by simp⟩
      refine wpAny_assign_Name (wpAny_storeName_local (lookup_relabel_local hx) (hn'.at' fun o e => hk₂ _ o (by simpa using Ne.symm hIf.1) e) (fun h₃ hn₃ hs₃ => ?_) (by simp [compEnvC, relabel, hkind]))
      refine wpAny_tests_nil ?_
      simp only [if_true]
      have hst₃ := st_keep hst₂ hs₃ hIf.1 hAf.1
      have F₃ : Fr h₀ L h₃ m := (LCg.fr_but F' hk₂ hIL hI₀).change hs₃ hCL hC₀
      have N₂ := LCg.news_but N' hk₂ off
      have N₃ : News h₀ L h₃ news := fun p hp => ⟨hs₃.extBut _ _ (offC p hp) (N₂ p hp).1, (N₂ p hp).2⟩
      have hd₃ : h₃.DictOf (PySem.intKind prog w) s₂.heap.objs.size kvs := (hd'.at fun o e => hk₂ _ o (by simpa using Ne.symm hIf.2) e).extBut hs₃.extBut hDC
      refine wpAny_mono (turn H2.objs.size a t h₃ _ _ _ (List.mem_of_getElem? hns) hn₃ (by simp) F₃ N₃) (fun kv s₄ h₄ => ?_) fun _ _ e => e
      obtain ⟨t4, tk4, rfl, rfl, hv⟩ := h₄.h
      refine wpAny_mono hv (fun vv s₅ h₅ => ?_) fun _ _ e => e
      obtain ⟨t5, tk5, rfl, rfl⟩ := h₅.h
      refine wpAny_dictSet_pairs (knd := PySem.intKind prog w) (intKind_is _ _ a t4) hd₃ (fun h₆ hd₆ hs₆ => ?_) (by rw [sizeLine_eq]; omega)
      refine ⟨vs.length + 1 - (i + 1), by omega, h₆, _, i + 1, _, _, rfl, hlt, rfl, st_keep hst₃ hs₆ hIf.2 hAf.2, F₃.change hs₆ hDL hD₀, hn₃.sameBut hs₆ (Ne.symm hDC), fun p hp => ⟨hs₆.extBut _ _ (Nat.ne_of_lt (offD p hp)) (N₃ p hp).1, (N₃ p hp).2⟩, hd₆, ?_, ?_⟩
      · have e : bookC f (ns.take (i + 1)) = kdfPut (bookC f (ns.take i)) a (f a) := by
          unfold bookC
          rw [List.take_add_one, hns, Option.toList_some, List.foldl_append]
          rfl
        rw [e, ← kdfD_put]
        exact PyProof.V.FlatPairs.stored PyProof.V.same_int hf' _ (PyProof.V.Flat.int _ _)
      · have := stored_length_le kvs a (Value.int (f a) t5)
        omega
    · obtain rfl : i = vs.length := Nat.le_antisymm hin (Nat.not_lt.mp hlt)
      refine W.done _ _ _ hst' fun h₂ tk₂ hk₂ => ?_
      rw [List.take_of_length_le (Nat.le_of_eq hi.length.symm)] at hf'
      have hd₂ : h₂.DictOf (PySem.intKind prog w) s₂.heap.objs.size kvs := hd'.at fun o e => hk₂ _ o (by simpa using Ne.symm hIf.2) e
      obtain ⟨o, ho, hdo⟩ := Heap.dictOf_iff.mp hd₂
      exact hRR _ _ o h₂ tk₂ _ (LCg.fr_but F' hk₂ hIL hI₀) (List.forall_mem_cons.mpr ⟨⟨ho, hDL, hD₀⟩, LCg.news_but N' hk₂ off⟩) offD hI (hn'.at' fun o e => hk₂ _ o (by simpa using Ne.symm hIf.1) e) hC₀ hD₀ hCL hDL (Ne.symm hDC) offC ⟨kvs, hdo, hf'⟩
  have start : Inv (vs.length + 1) { s₂ with heap := h₁, toks := s₂.toks + ([] : List (Str × Value)).length } :=
    ⟨h₁, _, 0, _, [], rfl, Nat.zero_le _, rfl, W.frame _ _ _ hst fun b _ o e => old b o e, F.keeps old, hns₁, N.grown old, hnew.at fun o e => hsb₁.extBut _ _ hDC (Heap.get?_push_of_some _ e), .nil, Nat.le_refl _⟩
  exact codeAny_compStart_dict (loop _ start) (W.self 0 _ _ _ (W.frame _ _ _ hst fun b _ o e => old b o e) (loop _ start))
/-- a dict of ints by a block over a list of ints, bound to a name -/
theorem Assign_DictComp_I {kx vx iter : PySem.Expr} {x y : Str} {px py : Pos} {scope : Scope} {cl : List (Str × Addr)} {pos spos : Pos} {Q : Flow → Shared → Prop} (f : Int → Int) (_F₀ : Fr h₀ L s.heap m) (hLe : env.locals = L)
    (hsw : swapsWith (.DictComp kx vx [⟨.Name x px, iter, [], 0⟩] scope pos) (some (.Name y py)) spos.line env = pure true)
    (hclos : closureFor scope env = pure cl) (hcell : ∀ y ∈ scope.names, y.2 ≠ .cell) (hkind : scope.kind = .function)
    (hnames : ∀ y ∈ scope.names, y.2 = .local → scope.names.lookup y.1 = some .local) (hx : scope.names.lookup x = some .local)
    (hy : env.kindOf y = some .local) (hp : (env.scope.kind == .class || (env.scope.kind == .module && env.locals != env.globals)) = false)
    (h : wpAny (model prog w) A (eval iter env) (fun xv s₁ => Hold (Mine.Ex4 fun ax vs ns news => Mine.And9 (xv = .ref ax) (A.handled = none) (s₁.heap.IsList ax vs.toArray) (IntsAre vs ns) (vs.length ≤ 100) (Fr h₀ L s₁.heap m) (News h₀ L s₁.heap news) (TurnK prog w A h₀ L m env kx vx x scope cl s₁ ns f news) (∀ D o h' tk, Fr h₀ L h' (fun z => if z = y then some (.ref D) else m z) → News h₀ L h' ((D, o) :: news) → (∀ p ∈ news, p.1 < D) → KD prog w o (bookC f ns) → Q .next { s₁ with heap := h', toks := tk }))) E s)
    (hs : ∀ x, foldedSetIterable iter env x = pure x := by intro _; rfl) :
    wpAny (model prog w) A (exec (.Assign [.Name y py] (.DictComp kx vx [⟨.Name x px, iter, [], 0⟩] scope pos) spos) env) Q E s := by
  subst hLe
  rw [exec_Assign_Name_used _ _ _ _ hsw]
  refine wpAny_bind (wpAny_standAt (wpAny_bind ?_))
  show wpAny _ A (do let _ ← comprehension (.DictComp kx vx [⟨.Name x px, iter, [], 0⟩] scope pos) scope env _ newDict false (eval iter env) (some (assign (.Name y py) env))) _ _ s
  refine wpAny_bind (wpAny_mono (wpAny_comprehension_free (use := some (assign (.Name y py) env)) (Q := fun _ s' => Q .next s') rfl hs hclos hkind hnames
    (wpAny_mono h (fun xv s₁ h₁ => ?_) fun _ _ e => e)) (fun _ s' hq => wpAny_pure (wpAny_pure hq)) fun _ _ e => e)
  obtain ⟨ax, vs, ns, news, rfl, hh, hl, hi, hsz, F, N, turn, fin⟩ := h₁.h
  have hlt : ax < s₁.heap.objs.size := by obtain ⟨_, e, _⟩ := hl; exact Heap.lt_size e
  have up : ∀ b o, s₁.heap.get? b = some o → (s₁.heap.push { cls := .type "list_iterator", data := .fields #[.ref ax, .int 0 0] }).get? b = some o := fun b o e => Heap.get?_push_of_some _ e
  refine wpAny_pyIter_list hl ?_
  have W := Walks.list (prog := prog) (w := w) hh s₁.heap.objs.size ax (Nat.ne_of_lt hlt) vs.toArray
  have e1 : vs.toArray.size = vs.length := by simp
  have e2 : (fun (i : Nat) (v : Value) => vs.toArray[i]? = some v) = fun i v => vs[i]? = some v := by funext i v; simp
  rw [e1, e2] at W
  refine dblock (f := f) W hi hsz hcell hkind hx ⟨⟨_, Heap.get?_push_size _ rfl, rfl, rfl⟩, hl.push _⟩ (by show _ < (s₁.heap.push _).objs.size; rw [Heap.size_push]; exact Nat.lt_succ_self _) (by show _ < (s₁.heap.push _).objs.size; rw [Heap.size_push]; exact Nat.lt_succ_of_lt hlt)
    (F.keeps up) (N.grown up) (Nat.ne_of_lt F.ns.lt) (next_is_new F) (fun p hp => Nat.ne_of_lt (Heap.lt_size (N p hp).1)) turn ?_
  intro D C o h' tk m' F' N' hlD _ hn hC₀ hD₀ hCL hDL hCD offC hK
  show wpAny _ A (assign (.Name y py) env (.ref D)) _ _ _
  refine wpAny_assign_Name (wpAny_storeName_local hy F'.ns (fun h₂ hn₂ hs₂ => ?_) hp)
  have hL₀ : h₀.get? env.locals = none := Heap.get?_none_of_le F'.above
  have F₂ : Fr h₀ env.locals h₂ (fun z => if z = y then some (.ref D) else m z) := ⟨hn₂, fun b o e => hs₂.extBut b o (fun q => by rw [q, hL₀] at e; cases e) (F'.keep b o e), F'.above⟩
  have upN : ∀ {p : Addr × Obj} {h'' : Heap}, Heap.SameBut C h₂ h'' → p.1 ≠ C → (h'.get? p.1 = some p.2 ∧ p.1 ≠ env.locals ∧ h₀.get? p.1 = none) → (h''.get? p.1 = some p.2 ∧ p.1 ≠ env.locals ∧ h₀.get? p.1 = none) :=
    fun hs'' hne hp => ⟨hs''.extBut _ _ hne (hs₂.extBut _ _ hp.2.1 hp.1), hp.2⟩
  exact ⟨m', hn.sameBut hs₂ hCL, fun h'' hs'' => fin D o h'' _ (F₂.change hs'' hCL hC₀) (List.forall_mem_cons.mpr ⟨upN hs'' (Ne.symm hCD) (N' _ (.head _)), fun p hp => upN hs'' (offC p hp) (N' p (.tail _ hp))⟩) hlD hK⟩
end
end Mine
end
section
theorem Mine.fresh11 {prog : Program} {w : World} {A : Around} {E : Value → Shared → Prop} {s : Shared} {Q : Bool → Shared → Prop} (h : wpAny (model prog w) A (truthy (.bool true)) Q E s) : wpAny (model prog w) A (truthy (.bool true)) Q E s := by
  w_top off
  first | (walk1; fail "no") | exact h
namespace Mine
def IsVote (prog : Program) (w : World) (led : List (Addr × Obj)) (width : Int) (v : Value) (q : Int × Int) : Prop :=
  Mine.Ex7 fun T D u1 u2 u3 u4 od => Mine.And5 (v = .ref T) ((T, statO (q.1 + 1) (2 ^ (width * q.2).toNat) q.2 (q.2 * q.2) u1 u2 u3 u4 D) ∈ led) ((D, od) ∈ led) (KD prog w od [(q.2, 1), (3, 2 ^ (width * q.2).toNat)]) (@LT.lt Nat _ 104 D)
def accS (width : Int) (l : List (Int × Int)) : Int × Int × Int × Int := l.foldl (fun a q => (q.1 + 1 + a.1, 2 ^ (width * q.2).toNat + a.2.1, q.2 + a.2.2.1, q.2 * q.2 + a.2.2.2)) (0, 0, 0, 0)
def accC (width : Int) (l : List (Int × Int)) : List (Int × Int) := l.foldl (fun c q => addC (cpC c) [(q.2, 1), (3, 2 ^ (width * q.2).toNat)]) []
theorem accS_succ {width : Int} {qs : List (Int × Int)} {i : Nat} {q : Int × Int} (h : qs[i]? = some q) : accS width (qs.take (i + 1)) = (q.1 + 1 + (accS width (qs.take i)).1, 2 ^ (width * q.2).toNat + (accS width (qs.take i)).2.1, q.2 + (accS width (qs.take i)).2.2.1, q.2 * q.2 + (accS width (qs.take i)).2.2.2) := by
  unfold accS
  rw [List.take_add_one, h, Option.toList_some, List.foldl_append]
  rfl
theorem accC_succ {width : Int} {qs : List (Int × Int)} {i : Nat} {q : Int × Int} (h : qs[i]? = some q) : accC width (qs.take (i + 1)) = addC (cpC (accC width (qs.take i))) [(q.2, 1), (3, 2 ^ (width * q.2).toNat)] := by
  unfold accC
  rw [List.take_add_one, h, Option.toList_some, List.foldl_append]
  rfl
theorem accC_len (width : Int) : ∀ (l : List (Int × Int)) (a : List (Int × Int)), (l.foldl (fun c q => addC (cpC c) [(q.2, 1), (3, 2 ^ (width * q.2).toNat)]) a).length ≤ a.length + 2 * l.length
  | [], a => Nat.le_refl _
  | q :: l, a => by
    have h1 := accC_len width l (addC (cpC a) [(q.2, 1), (3, 2 ^ (width * q.2).toNat)])
    have h2 := fold_len adP_len [(q.2, 1), (3, (2 : Int) ^ (width * q.2).toNat)] (cpC a)
    have h3 := fold_len (f := fun a p => kdfPut a p.1 p.2) (fun a p => kdfPut_len a p.1 p.2) a []
    have h4 : (cpC a).length ≤ a.length := by unfold cpC; simpa using h3
    have h5 : (addC (cpC a) [(q.2, 1), (3, (2 : Int) ^ (width * q.2).toNat)]).length ≤ (cpC a).length + 2 := h2
    rw [List.foldl_cons, List.length_cons]
    omega
theorem accC_take {width : Int} {qs : List (Int × Int)} {i : Nat} (hq : qs.length = 5) (hi : i < qs.length) : (accC width (qs.take i)).length ≤ 10 := by
  have := accC_len width (qs.take i) []
  rw [List.length_take] at this
  unfold accC
  simp only [List.length_nil] at this
  omega
theorem dict_cls {prog : Program} {w : World} {o : Obj} {kvs : List (Int × Value)} (h : o.IsDictOf (PySem.intKind prog w) kvs) : o.cls = .type "dict" := let ⟨_, _, hx, _⟩ := h; hx.1
theorem count_ct (k : Int) : ∀ l : List Int, ((l.count k : Nat) : Int) = ct l k
  | [] => rfl
  | a :: l => by
    have ih := count_ct k l
    unfold ct at ih ⊢
    rw [List.map_cons, List.sum_cons, ← ih, List.count_cons]
    by_cases h : a = k
    · subst h; simp; omega
    · simp [h]
theorem perm13 {h₀ h : Heap} {L : Addr} {a1 a2 a3 a4 a5 a6 a7 a8 a9 a10 a11 a12 a13 : Addr × Obj} {led : List (Addr × Obj)} (N : News h₀ L h (a1 :: a2 :: a3 :: a4 :: a5 :: a6 :: a7 :: a8 :: a9 :: a10 :: a11 :: a12 :: a13 :: led)) : News h₀ L h (a12 :: a13 :: a3 :: a4 :: a2 :: a11 :: a7 :: a8 :: a9 :: a10 :: led) :=
  news_sub N fun p hp => by ((revert hp; revert p; (repeat (first | exact Mine.sub_nil | (refine Mine.sub_cons ?_ ?_; focus (first | exact Mine.m0 | exact Mine.m1 | exact Mine.m2 | exact Mine.m3 | exact Mine.m4 | exact Mine.m5 | exact Mine.m6 | exact Mine.mAt 7 rfl | exact Mine.mAt 8 rfl | exact Mine.mAt 9 rfl | exact Mine.mAt 10 rfl | exact Mine.mAt 11 rfl | exact Mine.mAt 12 rfl | exact Mine.mAt 13 rfl | exact Mine.mAt 14 rfl | exact Mine.mAt 15 rfl | exact Mine.mAt 16 rfl | exact Mine.mAt 17 rfl | exact Mine.mAt 18 rfl | exact Mine.mAt 19 rfl | exact Mine.mAt 20 rfl | exact Mine.mAt 21 rfl | exact Mine.mAt 22 rfl | exact Mine.mAt 23 rfl | (repeat (first | exact List.Mem.head _ | apply List.mem_cons_of_mem | apply List.mem_append_right)))) | (refine Mine.sub_app ?_ ?_) | (intro p9 hp9; (repeat (first | exact hp9 | exact List.mem_append_left _ hp9 | apply List.mem_cons_of_mem | apply List.mem_append_right)))))))
def DigF (width S c0 c1 c2 : Int) : Prop :=
  (c2 = 0 ∧ c1 = 0 ∧ S = c0 ∧ DigN (Int.fdiv (((Builtin.Int.intBits S : Nat) : Int) + width - 1) width) 1) ∨
  (c2 = 0 ∧ c1 ≠ 0 ∧ DigN (Int.fdiv (((Builtin.Int.intBits S : Nat) : Int) + width - 1) width) 2 ∧
    ShR S ((Int.fdiv (0 + 2) (2 ^ Int.toNat 1) - 0) * width) c1 ∧ ShL c1 ((Int.fdiv (0 + 2) (2 ^ Int.toNat 1) - 0) * width) (c1 * 2 ^ width.toNat) ∧ Xr S (c1 * 2 ^ width.toNat) c0) ∨
  (c2 ≠ 0 ∧ DigN (Int.fdiv (((Builtin.Int.intBits S : Nat) : Int) + width - 1) width) 3 ∧ Mine.Ex2 fun (v1 v2 : Int) =>
    ShR S ((Int.fdiv (0 + 3) (2 ^ Int.toNat 1) - 0) * width) v1 ∧ ShL v1 ((Int.fdiv (0 + 3) (2 ^ Int.toNat 1) - 0) * width) v2 ∧ Xr S v2 c0 ∧
    ShR v1 ((Int.fdiv (Int.fdiv (0 + 3) (2 ^ Int.toNat 1) + 3) (2 ^ Int.toNat 1) - Int.fdiv (0 + 3) (2 ^ Int.toNat 1)) * width) c2 ∧ ShL c2 ((Int.fdiv (Int.fdiv (0 + 3) (2 ^ Int.toNat 1) + 3) (2 ^ Int.toNat 1) - Int.fdiv (0 + 3) (2 ^ Int.toNat 1)) * width) (c2 * 2 ^ width.toNat) ∧ Xr v1 (c2 * 2 ^ width.toNat) c1)
theorem item5 {s0 s1 s2 s3 s4 : Int} {t0 t1 t2 t3 t4 : Tok} {i : Nat} {v : Value} (h : (#[.int s0 t0, .int s1 t1, .int s2 t2, .int s3 t3, .int s4 t4] : Array Value)[i]? = some v) (hb : ∀ s ∈ [s0, s1, s2, s3, s4], 0 ≤ s ∧ s ≤ 2) :
    Mine.Ex2 fun a t => Mine.And4 (v = .int a t) ([s0, s1, s2, s3, s4][i]? = some a) ((0 ≤ a ∧ a ≤ 2)) (a ∈ [s0, s1, s2, s3, s4]) := by
  match i, h with
  | 0, h => exact ⟨s0, t0, (Option.some.inj h).symm, rfl, hb _ (.head _), .head _⟩
  | 1, h => exact ⟨s1, t1, (Option.some.inj h).symm, rfl, hb _ (.tail _ (.head _)), .tail _ (.head _)⟩
  | 2, h => exact ⟨s2, t2, (Option.some.inj h).symm, rfl, hb _ (.tail _ (.tail _ (.head _))), .tail _ (.tail _ (.head _))⟩
  | 3, h => exact ⟨s3, t3, (Option.some.inj h).symm, rfl, hb _ (.tail _ (.tail _ (.tail _ (.head _)))), .tail _ (.tail _ (.tail _ (.head _)))⟩
  | 4, h => exact ⟨s4, t4, (Option.some.inj h).symm, rfl, hb _ (.tail _ (.tail _ (.tail _ (.tail _ (.head _))))), .tail _ (.tail _ (.tail _ (.tail _ (.head _))))⟩
  | n + 5, h => exact nomatch h
theorem wid_bound {width a : Int} (h5 : 3 ≤ width) (h6 : width ≤ 6) (h1 : 0 ≤ a) (h2 : a ≤ 2) : 0 ≤ width * a ∧ width * a ≤ 12 ∧ 0 ≤ (2 : Int) ^ (width * a).toNat ∧ (2 : Int) ^ (width * a).toNat ≤ 4096 := by
  have ha : a = 0 ∨ a = 1 ∨ a = 2 := by omega
  rcases wid4 h5 h6 with rfl | rfl | rfl | rfl <;> rcases ha with rfl | rfl | rfl <;> exact ⟨by decide, by decide, by decide +kernel, by decide +kernel⟩
theorem bookC_len (f : Int → Int) (ns : List Int) (c : List (Int × Int)) : (bookC f ns).length ≤ ns.length := by
  have key : ∀ (l : List Int) (c : List (Int × Int)), (l.foldl (fun c k => kdfPut c k (f k)) c).length ≤ c.length + l.length := by
    intro l
    induction l with
    | nil => intro c; exact Nat.le_refl _
    | cons a l ih =>
      intro c
      have h1 := ih (kdfPut c a (f a))
      have h2 := kdfPut_len c a (f a)
      rw [List.foldl_cons, List.length_cons]
      omega
  have := key ns []
  unfold bookC
  simpa using this
theorem ints_5 (a b c d e : Int) (t0 t1 t2 t3 t4 : Tok) : IntsAre [.int a t0, .int b t1, .int c t2, .int d t3, .int e t4] [a, b, c, d, e] := .cons _ _ (.cons _ _ (.cons _ _ (.cons _ _ (.cons _ _ .nil))))
theorem ints_at {h₀ h : Heap} {L D : Addr} {vs : List Value} {n : Nat} {led : List (Addr × Obj)} (N : News h₀ L h led) (hm : (D, listOf vs.toArray n) ∈ led) : h.IsList D vs.toArray := ⟨_, (N _ hm).1, rfl, _, rfl⟩
theorem not_mods {d : Addr} (h : @LT.lt Nat _ 104 d) : (d == sysModules) = false := beq_eq_false_iff_ne.mpr (Nat.ne_of_gt (Nat.lt_trans (by decide) h))
end Mine
end
section
theorem Mine.fresh12 {prog : Program} {w : World} {A : Around} {E : Value → Shared → Prop} {s : Shared} {Q : Bool → Shared → Prop} (h : wpAny (model prog w) A (truthy (.bool true)) Q E s) : wpAny (model prog w) A (truthy (.bool true)) Q E s := by
  w_top off
  first | (walk1; fail "no") | exact h
namespace Mine
set_option maxHeartbeats 4000000 in
theorem kings_ctr {prog : Program} {w : World} {c0 c1 c2 c3 c4 : Int} {t0 t1 t2 t3 t4 : Tok} {l n : Nat} {led : List (Addr × Obj)} (hm : (l, cellsO c0 c1 c2 c3 c4 t0 t1 t2 t3 t4 n) ∈ led) :
    Ctr prog w 3 195 [.ref l] led fun k => ∀ r a b, (∀ p ∈ led, p.1 < r) → k (.ref r) ((r, listOf #[.int (Int.fmod (Int.fdiv c1 6) 5) a, .int (Int.fmod (Int.fmod (Int.fdiv c1 6) 5 + 1 + Int.fmod (Int.fdiv c1 30) 4) 5) b] 0) :: led) := by
  unfold Ctr
  intro p loose mean mg mb dp un gd cn cs a ccd cl outer A₀ base h₀ L m s Q E B F X N T hk hd hu hret
  replace N := news_add N hm
  clear hm
  refine wpAny_call ?_
  (first | k_dflt ((refine' code_def ?k1z38 ?k2z38 ?k3z38 ?k4z38 ?k5z38 ?kAz38 ?kFz38 ?kKz38 ?k6z38 ?k7z38 ?k8z38 ?k9z38 ?kBz38 ?_ ?c2z38 ?c3z38 ?c4z38 ?c5z38; (case kAz38 => exact rfl); (case kFz38 => exact rfl); (case kKz38 => assumption); (case k1z38 => k_asm); (case k2z38 => k_asm); (case k3z38 => k_asm); (case k4z38 => k_asm); (case k5z38 => k_asm); (case k6z38 => k_is); (case k7z38 => k_is); (case k8z38 => ktr_room); (case k9z38 => first | exact BindsTo.of_eq rfl | exact binds_K (by k_in) rfl (by k_is) rfl rfl rfl); (case c5z38 => decide); (case kBz38 => exact locs rfl); (case c2z38 => exact rfl); (case c3z38 => exact rfl); (case c4z38 => exact rfl); k_whole; intro g' L' h' FG' F' N' B' X' T'; (try dsimp only); (try k_lift B'); (try k_fold))) | k_dflt ((refine' code_defC ?k1z39 ?k2z39 ?k3z39 ?k4z39 ?k5z39 ?kAz39 ?kFz39 ?kKz39 ?k6z39 ?k7z39 ?k8z39 ?k9z39 ?kBz39 ?kDz39 ?_ ?c2z39 ?c3z39 ?c4z39; (case kAz39 => exact rfl); (case kFz39 => exact rfl); (case kKz39 => assumption); (case k1z39 => k_asm); (case k2z39 => k_asm); (case k3z39 => k_asm); (case k4z39 => k_asm); (case k5z39 => k_asm); (case k6z39 => k_is); (case k7z39 => k_is); (case k8z39 => ktr_room); (case k9z39 => first | exact BindsTo.of_eq rfl | exact binds_K (by k_in) rfl (by k_is) rfl rfl rfl); (case kBz39 => exact rfl); (case kDz39 => decide +kernel); (case c2z39 => exact rfl); (case c3z39 => exact rfl); (case c4z39 => exact rfl); k_whole; intro g' L' h' tk' cells' FG' F' N' Y' B' X' T' l1; (have hO := Mine.old_of l1); (try k_lt l1); k_cells Y'; (try simp only [List.cons_append, List.nil_append] at N'); (try dsimp only); (try k_lift B'); (try k_fold))))
  (repeat' (first | ((fail_if_success (fail_if_success k_unfold)); (first | refine (let s9 := _; (?_ : wpAny _ _ _ _ _ s9)) | k_unfold)) | (k_end; wrow_close) | ((fail_if_success (fail_if_success k_fold)); (refine (let q9 := _; (?_ : wpAny _ _ _ q9 _ _))); walk1) | walk1 | (dsimp only [List.nil_append, List.cons_append]; walk1) | (leave1; walk_say "STEP leave1"; try dsimp only) | fail "no step"))
  rename_i l1 _ _ _ _
  exact hret _ _ _ (fun p hp => l1 p (.tail _ hp)) _ _ _ (by assumption) (news_1_2 (by assumption))
end Mine
namespace Mine
abbrev frL {h₀ h : Heap} {L : Addr} {m : Str → Option Value} (_ : Fr h₀ L h m) : Addr := L
/-- two addresses apart, kept from omega -/
structure NeS (a b : Nat) : Prop where
  ne : @Ne Nat a b
end Mine
namespace Mine
set_option maxHeartbeats 4000000 in
theorem orders_ctr {prog : Program} {w : World} {c0 c1 c2 c3 c4 : Int} {t0 t1 t2 t3 t4 : Tok} {l n : Nat} {led : List (Addr × Obj)} (hm : (l, cellsO c0 c1 c2 c3 c4 t0 t1 t2 t3 t4 n) ∈ led) :
    Ctr prog w 3 188 [.ref l] led fun k => ∀ r ys, IntsAre ys ((rangeKs 0 5).map fun k => (c0.fdiv (3 ^ k.toNat)).fmod 3) → LCg.Off1 r led → k (.ref r) ((r, LCg.lst ys) :: led) := by
  unfold Ctr
  intro p loose mean mg mb dp un gd cn cs a ccd cl outer A₀ base h₀ L m s Q E B F X N T hk hd hu hret
  replace N := news_add N hm
  clear hm
  refine wpAny_call ?_
  (first | k_dflt ((refine' code_def ?k1z40 ?k2z40 ?k3z40 ?k4z40 ?k5z40 ?kAz40 ?kFz40 ?kKz40 ?k6z40 ?k7z40 ?k8z40 ?k9z40 ?kBz40 ?_ ?c2z40 ?c3z40 ?c4z40 ?c5z40; (case kAz40 => exact rfl); (case kFz40 => exact rfl); (case kKz40 => assumption); (case k1z40 => k_asm); (case k2z40 => k_asm); (case k3z40 => k_asm); (case k4z40 => k_asm); (case k5z40 => k_asm); (case k6z40 => k_is); (case k7z40 => k_is); (case k8z40 => ktr_room); (case k9z40 => first | exact BindsTo.of_eq rfl | exact binds_K (by k_in) rfl (by k_is) rfl rfl rfl); (case c5z40 => decide); (case kBz40 => exact locs rfl); (case c2z40 => exact rfl); (case c3z40 => exact rfl); (case c4z40 => exact rfl); k_whole; intro g' L' h' FG' F' N' B' X' T'; (try dsimp only); (try k_lift B'); (try k_fold))) | k_dflt ((refine' code_defC ?k1z41 ?k2z41 ?k3z41 ?k4z41 ?k5z41 ?kAz41 ?kFz41 ?kKz41 ?k6z41 ?k7z41 ?k8z41 ?k9z41 ?kBz41 ?kDz41 ?_ ?c2z41 ?c3z41 ?c4z41; (case kAz41 => exact rfl); (case kFz41 => exact rfl); (case kKz41 => assumption); (case k1z41 => k_asm); (case k2z41 => k_asm); (case k3z41 => k_asm); (case k4z41 => k_asm); (case k5z41 => k_asm); (case k6z41 => k_is); (case k7z41 => k_is); (case k8z41 => ktr_room); (case k9z41 => first | exact BindsTo.of_eq rfl | exact binds_K (by k_in) rfl (by k_is) rfl rfl rfl); (case kBz41 => exact rfl); (case kDz41 => decide +kernel); (case c2z41 => exact rfl); (case c3z41 => exact rfl); (case c4z41 => exact rfl); k_whole; intro g' L' h' tk' cells' FG' F' N' Y' B' X' T' l1; (have hO := Mine.old_of l1); (try k_lt l1); k_cells Y'; (try simp only [List.cons_append, List.nil_append] at N'); (try dsimp only); (try k_lift B'); (try k_fold))))
  (repeat' (first | ((fail_if_success (fail_if_success k_unfold)); (first | refine (let s9 := _; (?_ : wpAny _ _ _ _ _ s9)) | k_unfold)) | (k_end; wrow_close) | ((fail_if_success (fail_if_success k_fold)); (refine (let q9 := _; (?_ : wpAny _ _ _ q9 _ _))); (first | ((with_reducible show wpAny _ _ (binaryOp Operator.FloorDiv (Value.int _ _) (Value.int _ _)) _ _ _); with_reducible refine floordiv_int (Mine.pow3_ne _) ?_ (Or.inl (PyProof.noPylong_of_log2 (Mine.py3 (by omega))))) | walk1)) | (first | ((with_reducible show wpAny _ _ (binaryOp Operator.FloorDiv (Value.int _ _) (Value.int _ _)) _ _ _); with_reducible refine floordiv_int (Mine.pow3_ne _) ?_ (Or.inl (PyProof.noPylong_of_log2 (Mine.py3 (by omega))))) | walk1) | (dsimp only [List.nil_append, List.cons_append]; (first | ((with_reducible show wpAny _ _ (binaryOp Operator.FloorDiv (Value.int _ _) (Value.int _ _)) _ _ _); with_reducible refine floordiv_int (Mine.pow3_ne _) ?_ (Or.inl (PyProof.noPylong_of_log2 (Mine.py3 (by omega))))) | walk1)) | (leave1; walk_say "STEP leave1"; try dsimp only) | fail "no step"))
  rename _ ∧ _ ∧ LCg.Off1 _ _ => o1
  rename Fr _ _ _ _ => kF
  rename News _ _ _ _ => kN
  exact hret _ _ (by assumption) o1.2.2 _ _ _ kF (news_sub kN (by simp only [List.mem_cons]; rintro p (h | h) <;> simp only [h, true_or, or_true]))
set_option maxHeartbeats 4000000 in
theorem lies_ctr {prog : Program} {w : World} {c0 c1 c2 c3 c4 i : Int} {t0 t1 t2 t3 t4 tt : Tok} {l n : Nat} {led : List (Addr × Obj)} (hi0 : 0 ≤ i) (hi1 : i ≤ 1) (hm : (l, cellsO c0 c1 c2 c3 c4 t0 t1 t2 t3 t4 n) ∈ led) :
    Ctr prog w 3 200 [.ref l, .int i tt] led fun k => ∀ r ys, IntsAre ys ((rangeKs 0 10).map fun k => (c2.fdiv (3 ^ (10 * i + k).toNat)).fmod 3) → LCg.Off1 r led → k (.ref r) ((r, LCg.lst ys) :: led) := by
  unfold Ctr
  intro p loose mean mg mb dp un gd cn cs a ccd cl outer A₀ base h₀ L m s Q E B F X N T hk hd hu hret
  replace N := news_add N hm
  clear hm
  refine wpAny_call ?_
  (first | k_dflt ((refine' code_def ?k1z42 ?k2z42 ?k3z42 ?k4z42 ?k5z42 ?kAz42 ?kFz42 ?kKz42 ?k6z42 ?k7z42 ?k8z42 ?k9z42 ?kBz42 ?_ ?c2z42 ?c3z42 ?c4z42 ?c5z42; (case kAz42 => exact rfl); (case kFz42 => exact rfl); (case kKz42 => assumption); (case k1z42 => k_asm); (case k2z42 => k_asm); (case k3z42 => k_asm); (case k4z42 => k_asm); (case k5z42 => k_asm); (case k6z42 => k_is); (case k7z42 => k_is); (case k8z42 => ktr_room); (case k9z42 => first | exact BindsTo.of_eq rfl | exact binds_K (by k_in) rfl (by k_is) rfl rfl rfl); (case c5z42 => decide); (case kBz42 => exact locs rfl); (case c2z42 => exact rfl); (case c3z42 => exact rfl); (case c4z42 => exact rfl); k_whole; intro g' L' h' FG' F' N' B' X' T'; (try dsimp only); (try k_lift B'); (try k_fold))) | k_dflt ((refine' code_defC ?k1z43 ?k2z43 ?k3z43 ?k4z43 ?k5z43 ?kAz43 ?kFz43 ?kKz43 ?k6z43 ?k7z43 ?k8z43 ?k9z43 ?kBz43 ?kDz43 ?_ ?c2z43 ?c3z43 ?c4z43; (case kAz43 => exact rfl); (case kFz43 => exact rfl); (case kKz43 => assumption); (case k1z43 => k_asm); (case k2z43 => k_asm); (case k3z43 => k_asm); (case k4z43 => k_asm); (case k5z43 => k_asm); (case k6z43 => k_is); (case k7z43 => k_is); (case k8z43 => ktr_room); (case k9z43 => first | exact BindsTo.of_eq rfl | exact binds_K (by k_in) rfl (by k_is) rfl rfl rfl); (case kBz43 => exact rfl); (case kDz43 => decide +kernel); (case c2z43 => exact rfl); (case c3z43 => exact rfl); (case c4z43 => exact rfl); k_whole; intro g' L' h' tk' cells' FG' F' N' Y' B' X' T' l1; (have hO := Mine.old_of l1); (try k_lt l1); k_cells Y'; (try simp only [List.cons_append, List.nil_append] at N'); (try dsimp only); (try k_lift B'); (try k_fold))))
  (repeat' (first | ((fail_if_success (fail_if_success k_unfold)); (first | refine (let s9 := _; (?_ : wpAny _ _ _ _ _ s9)) | k_unfold)) | (k_end; wrow_close) | ((fail_if_success (fail_if_success k_fold)); (refine (let q9 := _; (?_ : wpAny _ _ _ q9 _ _))); (first | ((with_reducible show wpAny _ _ (binaryOp Operator.FloorDiv (Value.int _ _) (Value.int _ _)) _ _ _); with_reducible refine floordiv_int (Mine.pow3_ne _) ?_ (Or.inl (PyProof.noPylong_of_log2 (Mine.py3 (by omega))))) | walk1)) | (first | ((with_reducible show wpAny _ _ (binaryOp Operator.FloorDiv (Value.int _ _) (Value.int _ _)) _ _ _); with_reducible refine floordiv_int (Mine.pow3_ne _) ?_ (Or.inl (PyProof.noPylong_of_log2 (Mine.py3 (by omega))))) | walk1) | (dsimp only [List.nil_append, List.cons_append]; (first | ((with_reducible show wpAny _ _ (binaryOp Operator.FloorDiv (Value.int _ _) (Value.int _ _)) _ _ _); with_reducible refine floordiv_int (Mine.pow3_ne _) ?_ (Or.inl (PyProof.noPylong_of_log2 (Mine.py3 (by omega))))) | walk1)) | (leave1; walk_say "STEP leave1"; try dsimp only) | fail "no step"))
  rename _ ∧ _ ∧ _ ∧ LCg.Off1 _ _ => o1
  rename Fr _ _ _ _ => kF
  rename News _ _ _ _ => kN
  exact hret _ _ (by assumption) o1.2.2.2 _ _ _ kF (news_sub kN (by simp only [List.mem_cons]; rintro p (h | h) <;> simp only [h, true_or, or_true]))
end Mine
set_option hygiene false in
local macro_rules | `(tactic| walk_at $s) => if ("|call ref|eval ListComp|call builtin:list.count|".splitOn ("|" ++ s.getString ++ "|")).length = 2 then `(tactic| (with_reducible refine Mine.Hold.h ?_)) else Lean.Macro.throwUnsupported
set_option hygiene false in
local macro_rules | `(tactic| walk_at "exec Assign cons ListComp") => `(tactic| (k_here; (fail_if_success (with_reducible show wpAny _ _ (exec (PySem.Stmt.Assign [PySem.Expr.Name (Str.ofString "counts") _] _ _) _) _ _ _)); (with_reducible refine Mine.Hold.h ?_)))
namespace Mine
def mx3 (s : List Int) : Int := max (max (ct s 0) (ct s 1)) (ct s 2)
theorem filt_in {zs : List Value} {xs : List Int} {p : Int → Prop} [DecidablePred p] {i : Nat} {a : Int} {t : Tok} (h : IntsAre zs ((xs.take i).filter fun o => decide (p o))) (ha : xs[i]? = some a) (hp : p a) : IntsAre (zs ++ [.int a t]) ((xs.take (i + 1)).filter fun o => decide (p o)) := by
  rw [List.take_add_one, ha, Option.toList_some, List.filter_append]
  simp only [List.filter_cons, List.filter_nil, decide_eq_true hp, if_true]
  exact ints_snoc h
theorem filt_out {zs : List Value} {xs : List Int} {p : Int → Prop} [DecidablePred p] {i : Nat} {a : Int} (h : IntsAre zs ((xs.take i).filter fun o => decide (p o))) (ha : xs[i]? = some a) (hp : ¬ p a) : IntsAre zs ((xs.take (i + 1)).filter fun o => decide (p o)) := by
  rw [List.take_add_one, ha, Option.toList_some, List.filter_append]
  simp only [List.filter_cons, List.filter_nil, decide_eq_false hp, Bool.false_eq_true, if_false, List.append_nil]
  exact h
theorem mx3_eq {ss : List Int} {M : Int} (h : M = ct ss 0 ∨ M = ct ss 1 ∨ M = ct ss 2) (h2 : ct ss 0 ≤ M ∧ ct ss 1 ≤ M ∧ ct ss 2 ≤ M) : mx3 ss = M := by unfold mx3; lia
theorem mf1 {zs : List Value} {ss : List Int} {a : Int} (h : IntsAre zs [a]) (k : ∀ way : Int, most ss way = a) : Mine.Ex2 fun a t => zs = [.int a t] ∧ ∀ way : Int, most ss way = a := by
  obtain ⟨t, r1, rfl, h1⟩ := ints_cons h
  obtain rfl := ints_nil h1
  exact ⟨_, _, rfl, k⟩
theorem mf2 {zs : List Value} {ss : List Int} {a b : Int} (h : IntsAre zs [a, b]) (k : most ss 1 = a) (k2 : ∀ way : Int, way ≠ 1 → most ss way = b) : Mine.Ex4 fun a t b u => Mine.And3 (zs = [.int a t, .int b u]) (most ss 1 = a) (∀ way : Int, way ≠ 1 → most ss way = b) := by
  obtain ⟨t, r1, rfl, h1⟩ := ints_cons h
  obtain ⟨u, r2, rfl, h2⟩ := ints_cons h1
  obtain rfl := ints_nil h2
  exact ⟨_, _, _, _, rfl, k, k2⟩
theorem mf3 {zs : List Value} {ss : List Int} {a b c : Int} (h : IntsAre zs [a, b, c]) (k : most ss 1 = a) (k2 : ∀ way : Int, way ≠ 1 → most ss way = c) : Mine.Ex6 fun a t b u c v => Mine.And3 (zs = [.int a t, .int b u, .int c v]) (most ss 1 = a) (∀ way : Int, way ≠ 1 → most ss way = c) := by
  obtain ⟨t, r1, rfl, h1⟩ := ints_cons h
  obtain ⟨u, r2, rfl, h2⟩ := ints_cons h1
  obtain ⟨v, r3, rfl, h3⟩ := ints_cons h2
  obtain rfl := ints_nil h3
  exact ⟨_, _, _, _, _, _, rfl, k, k2⟩
theorem mo1 {ss : List Int} {o : Int} (h : (ct ss 1 ≤ ct ss 0 ∧ ct ss 2 ≤ ct ss 0 ∧ o = 0) ∨ (¬ (ct ss 1 ≤ ct ss 0 ∧ ct ss 2 ≤ ct ss 0) ∧ ct ss 2 ≤ ct ss 1 ∧ o = 1) ∨ (¬ (ct ss 1 ≤ ct ss 0 ∧ ct ss 2 ≤ ct ss 0) ∧ ¬ ct ss 2 ≤ ct ss 1 ∧ o = 2)) : most ss 1 = o := by
  unfold most
  rw [if_pos rfl]
  rcases h with ⟨a, b, rfl⟩ | ⟨a, b, rfl⟩ | ⟨a, b, rfl⟩
  · rw [if_pos ⟨a, b⟩]
  · rw [if_neg a, if_pos b]
  · rw [if_neg a, if_neg b]
theorem mo2 {ss : List Int} {o way : Int} (hw : way ≠ 1) (h : (ct ss 0 ≤ ct ss 2 ∧ ct ss 1 ≤ ct ss 2 ∧ o = 2) ∨ (¬ (ct ss 0 ≤ ct ss 2 ∧ ct ss 1 ≤ ct ss 2) ∧ ct ss 0 ≤ ct ss 1 ∧ o = 1) ∨ (¬ (ct ss 0 ≤ ct ss 2 ∧ ct ss 1 ≤ ct ss 2) ∧ ¬ ct ss 0 ≤ ct ss 1 ∧ o = 0)) : most ss way = o := by
  unfold most
  rw [if_neg hw]
  rcases h with ⟨a, b, rfl⟩ | ⟨a, b, rfl⟩ | ⟨a, b, rfl⟩
  · rw [if_pos ⟨a, b⟩]
  · rw [if_neg a, if_pos b]
  · rw [if_neg a, if_neg b]
theorem mo12 {ss : List Int} {o : Int} (h1 : most ss 1 = o) (h2 : ∀ way : Int, way ≠ 1 → most ss way = o) (way : Int) : most ss way = o := by
  by_cases hw : way = 1
  · rw [hw]; exact h1
  · exact h2 way hw
theorem most_filt {zs : List Value} {ss : List Int} (h : IntsAre zs (([0, 1, 2].take 3).filter fun o => decide (ct ss o = mx3 ss))) :
    (Mine.Ex2 fun a t => zs = [.int a t] ∧ ∀ way : Int, most ss way = a) ∨ (Mine.Ex4 fun a t b u => Mine.And3 (zs = [.int a t, .int b u]) (most ss 1 = a) (∀ way : Int, way ≠ 1 → most ss way = b)) ∨ Mine.Ex6 fun a t b u c v => Mine.And3 (zs = [.int a t, .int b u, .int c v]) (most ss 1 = a) (∀ way : Int, way ≠ 1 → most ss way = c) := by
  have hm : ct ss 0 ≤ mx3 ss ∧ ct ss 1 ≤ mx3 ss ∧ ct ss 2 ≤ mx3 ss ∧ (ct ss 0 = mx3 ss ∨ ct ss 1 = mx3 ss ∨ ct ss 2 = mx3 ss) := by unfold mx3; lia
  generalize mx3 ss = M at *
  by_cases h0 : ct ss 0 = M <;> by_cases h1 : ct ss 1 = M <;> by_cases h2 : ct ss 2 = M <;> simp only [List.take, List.filter, h0, h1, h2, decide_true, decide_false] at h
  · exact .inr (.inr (mf3 h (mo1 (by lia)) fun way hw => mo2 hw (by lia)))
  · exact .inr (.inl (mf2 h (mo1 (by lia)) fun way hw => mo2 hw (by lia)))
  · exact .inr (.inl (mf2 h (mo1 (by lia)) fun way hw => mo2 hw (by lia)))
  · exact .inl (mf1 h (mo12 (mo1 (by lia)) fun way hw => mo2 hw (by lia)))
  · exact .inr (.inl (mf2 h (mo1 (by lia)) fun way hw => mo2 hw (by lia)))
  · exact .inl (mf1 h (mo12 (mo1 (by lia)) fun way hw => mo2 hw (by lia)))
  · exact .inl (mf1 h (mo12 (mo1 (by lia)) fun way hw => mo2 hw (by lia)))
  · lia
set_option maxHeartbeats 8000000 in
theorem most_ctr {prog : Program} {w : World} {ls : Addr} {vs : List Value} {ss : List Int} {n : Nat} {way : Int} {t6 : Tok} {led : List (Addr × Obj)} (hs : (ls, listOf vs.toArray n) ∈ led) (hi : IntsAre vs ss) (hl : ss.length ≤ 100) :
    Ctr prog w 4 220 [.ref ls, .int way t6] led fun k => ∀ t, k (.int (most ss way) t) led := by
  unfold Ctr
  intro p loose mean mg mb dp un gd cn cs a ccd cl outer A₀ base h₀ L m s Q E B F X N T hk hd hu hret
  replace N := news_add N hs
  refine wpAny_call ?_
  (first | k_dflt ((refine' code_def ?k1z44 ?k2z44 ?k3z44 ?k4z44 ?k5z44 ?kAz44 ?kFz44 ?kKz44 ?k6z44 ?k7z44 ?k8z44 ?k9z44 ?kBz44 ?_ ?c2z44 ?c3z44 ?c4z44 ?c5z44; (case kAz44 => exact rfl); (case kFz44 => exact rfl); (case kKz44 => assumption); (case k1z44 => k_asm); (case k2z44 => k_asm); (case k3z44 => k_asm); (case k4z44 => k_asm); (case k5z44 => k_asm); (case k6z44 => k_is); (case k7z44 => k_is); (case k8z44 => ktr_room); (case k9z44 => first | exact BindsTo.of_eq rfl | exact binds_K (by k_in) rfl (by k_is) rfl rfl rfl); (case c5z44 => decide); (case kBz44 => exact locs rfl); (case c2z44 => exact rfl); (case c3z44 => exact rfl); (case c4z44 => exact rfl); k_whole; intro g' L' h' FG' F' N' B' X' T'; (try dsimp only); (try k_lift B'); (try k_fold))) | k_dflt ((refine' code_defC ?k1z45 ?k2z45 ?k3z45 ?k4z45 ?k5z45 ?kAz45 ?kFz45 ?kKz45 ?k6z45 ?k7z45 ?k8z45 ?k9z45 ?kBz45 ?kDz45 ?_ ?c2z45 ?c3z45 ?c4z45; (case kAz45 => exact rfl); (case kFz45 => exact rfl); (case kKz45 => assumption); (case k1z45 => k_asm); (case k2z45 => k_asm); (case k3z45 => k_asm); (case k4z45 => k_asm); (case k5z45 => k_asm); (case k6z45 => k_is); (case k7z45 => k_is); (case k8z45 => ktr_room); (case k9z45 => first | exact BindsTo.of_eq rfl | exact binds_K (by k_in) rfl (by k_is) rfl rfl rfl); (case kBz45 => exact rfl); (case kDz45 => decide +kernel); (case c2z45 => exact rfl); (case c3z45 => exact rfl); (case c4z45 => exact rfl); k_whole; intro g' L' h' tk' cells' FG' F' N' Y' B' X' T' l1; (have hO := Mine.old_of l1); (try k_lt l1); k_cells Y'; (try simp only [List.cons_append, List.nil_append] at N'); (try dsimp only); (try k_lift B'); (try k_fold))))
  (repeat' (first | ((fail_if_success (fail_if_success k_unfold)); (first | refine (let s9 := _; (?_ : wpAny _ _ _ _ _ s9)) | k_unfold)) | (k_end; wrow_close) | ((fail_if_success (fail_if_success k_fold)); (refine (let q9 := _; (?_ : wpAny _ _ _ q9 _ _))); (first | ((with_reducible show wpAny _ _ (getMethod (Value.ref _) (Str.ofString "count") _) _ _ _); with_unfolding_all refine getMethod_list_of PySem.F.slot_list_count PySem.F.type_list_count (by is_list) (by no_dict) ?_) | walk1)) | (first | ((with_reducible show wpAny _ _ (getMethod (Value.ref _) (Str.ofString "count") _) _ _ _); with_unfolding_all refine getMethod_list_of PySem.F.slot_list_count PySem.F.type_list_count (by is_list) (by no_dict) ?_) | walk1) | (dsimp only [List.nil_append, List.cons_append]; (first | ((with_reducible show wpAny _ _ (getMethod (Value.ref _) (Str.ofString "count") _) _ _ _); with_unfolding_all refine getMethod_list_of PySem.F.slot_list_count PySem.F.type_list_count (by is_list) (by no_dict) ?_) | walk1)) | (leave1; walk_say "STEP leave1"; try dsimp only) | fail "no step"))
  refine Hold.mk ?_
  rename Fr _ _ _ _ => FA
  rename News _ _ _ _ => NA
  k_dflt refine ListComp_D (fun i ys nw => nw = ledOf NA ∧ IntsAre ys (([0, 1, 2].take i).map fun o => ct ss o)) FA (by with_unfolding_all rfl) (by decide) (by rfl) (by decide) (by rfl) ?_
  (repeat' (first | ((fail_if_success (fail_if_success k_unfold)); (first | refine (let s9 := _; (?_ : wpAny _ _ _ _ _ s9)) | k_unfold)) | (k_end; wrow_close) | ((fail_if_success (fail_if_success k_fold)); (refine (let q9 := _; (?_ : wpAny _ _ _ q9 _ _))); (first | ((with_reducible show wpAny _ _ (getMethod (Value.ref _) (Str.ofString "count") _) _ _ _); with_unfolding_all refine getMethod_list_of PySem.F.slot_list_count PySem.F.type_list_count (by is_list) (by no_dict) ?_) | walk1)) | (first | ((with_reducible show wpAny _ _ (getMethod (Value.ref _) (Str.ofString "count") _) _ _ _); with_unfolding_all refine getMethod_list_of PySem.F.slot_list_count PySem.F.type_list_count (by is_list) (by no_dict) ?_) | walk1) | (dsimp only [List.nil_append, List.cons_append]; (first | ((with_reducible show wpAny _ _ (getMethod (Value.ref _) (Str.ofString "count") _) _ _ _); with_unfolding_all refine getMethod_list_of PySem.F.slot_list_count PySem.F.type_list_count (by is_list) (by no_dict) ?_) | walk1)) | (leave1; walk_say "STEP leave1"; try dsimp only) | fail "no step"))
  rename IsRange _ _ _ _ _ _ _ _ => hR
  rename Fr _ _ _ _ => FA
  rename News _ _ _ _ => NA2
  refine ⟨3, _, from_range rfl FA NA2 (Nat.le_of_ble_eq_true rfl) ⟨rfl, .nil⟩ hR (by decide) (by rfl), ?t1, ?f1⟩
  case t1 =>
    rintro i ys nw hi3 ⟨rfl, hys⟩ v I oI C oC D9 m₂ h dr tk E' ⟨t9, rfl⟩ hC hx F' N' off ne
    refine wpAny_tests_nil ?_
    simp only [if_true]
    dsimp only [ledOf] at N' off ⊢
    (repeat' (first | ((fail_if_success (fail_if_success k_unfold)); (first | refine (let s9 := _; (?_ : wpAny _ _ _ _ _ s9)) | k_unfold)) | (k_end; wrow_close) | ((fail_if_success (fail_if_success k_fold)); (refine (let q9 := _; (?_ : wpAny _ _ _ q9 _ _))); (first | ((with_reducible show wpAny _ _ (getMethod (Value.ref _) (Str.ofString "count") _) _ _ _); with_unfolding_all refine getMethod_list_of PySem.F.slot_list_count PySem.F.type_list_count (by is_list) (by no_dict) ?_) | walk1)) | (first | ((with_reducible show wpAny _ _ (getMethod (Value.ref _) (Str.ofString "count") _) _ _ _); with_unfolding_all refine getMethod_list_of PySem.F.slot_list_count PySem.F.type_list_count (by is_list) (by no_dict) ?_) | walk1) | (dsimp only [List.nil_append, List.cons_append]; (first | ((with_reducible show wpAny _ _ (getMethod (Value.ref _) (Str.ofString "count") _) _ _ _); with_unfolding_all refine getMethod_list_of PySem.F.slot_list_count PySem.F.type_list_count (by is_list) (by no_dict) ?_) | walk1)) | (leave1; walk_say "STEP leave1"; try dsimp only) | fail "no step"))
    refine Hold.mk ?_
    refine count_list_ints (ints_at N' (by (first | (k_dflt k_mem) | (repeat (first | exact List.Mem.head _ | apply List.mem_cons_of_mem))))) hi ?_
    (repeat' (first | ((fail_if_success (fail_if_success k_unfold)); (first | refine (let s9 := _; (?_ : wpAny _ _ _ _ _ s9)) | k_unfold)) | (k_end; wrow_close) | ((fail_if_success (fail_if_success k_fold)); (refine (let q9 := _; (?_ : wpAny _ _ _ q9 _ _))); (first | ((with_reducible show wpAny _ _ (getMethod (Value.ref _) (Str.ofString "count") _) _ _ _); with_unfolding_all refine getMethod_list_of PySem.F.slot_list_count PySem.F.type_list_count (by is_list) (by no_dict) ?_) | walk1)) | (first | ((with_reducible show wpAny _ _ (getMethod (Value.ref _) (Str.ofString "count") _) _ _ _); with_unfolding_all refine getMethod_list_of PySem.F.slot_list_count PySem.F.type_list_count (by is_list) (by no_dict) ?_) | walk1) | (dsimp only [List.nil_append, List.cons_append]; (first | ((with_reducible show wpAny _ _ (getMethod (Value.ref _) (Str.ofString "count") _) _ _ _); with_unfolding_all refine getMethod_list_of PySem.F.slot_list_count PySem.F.type_list_count (by is_list) (by no_dict) ?_) | walk1)) | (leave1; walk_say "STEP leave1"; try dsimp only) | fail "no step"))
    refine end_d F' N' off ⟨rfl, ?_⟩
    have hi3 : i = 0 ∨ i = 1 ∨ i = 2 := by omega
    rcases hi3 with rfl | rfl | rfl <;> · rw [count_ct]; exact ints_snoc hys
  case f1 =>
    rintro D9 h dr tk ys nw F' N' o1 ⟨rfl, hys⟩
    dsimp only [ledOf] at N' o1
    simp only [LCg.Off1] at o1
    replace hys : IntsAre ys [ct ss 0, ct ss 1, ct ss 2] := hys
    (repeat' (first | ((fail_if_success (fail_if_success k_unfold)); (first | refine (let s9 := _; (?_ : wpAny _ _ _ _ _ s9)) | k_unfold)) | (k_end; wrow_close) | ((fail_if_success (fail_if_success k_fold)); (refine (let q9 := _; (?_ : wpAny _ _ _ q9 _ _))); (first | ((with_reducible show wpAny _ _ (getMethod (Value.ref _) (Str.ofString "count") _) _ _ _); with_unfolding_all refine getMethod_list_of PySem.F.slot_list_count PySem.F.type_list_count (by is_list) (by no_dict) ?_) | walk1)) | (first | ((with_reducible show wpAny _ _ (getMethod (Value.ref _) (Str.ofString "count") _) _ _ _); with_unfolding_all refine getMethod_list_of PySem.F.slot_list_count PySem.F.type_list_count (by is_list) (by no_dict) ?_) | walk1) | (dsimp only [List.nil_append, List.cons_append]; (first | ((with_reducible show wpAny _ _ (getMethod (Value.ref _) (Str.ofString "count") _) _ _ _); with_unfolding_all refine getMethod_list_of PySem.F.slot_list_count PySem.F.type_list_count (by is_list) (by no_dict) ?_) | walk1)) | (leave1; walk_say "STEP leave1"; try dsimp only) | fail "no step"))
    refine Hold.mk ?_
    rename Fr _ _ _ _ => FB
    rename News _ _ _ _ => NB
    k_dflt refine Assign_ListComp_D (fun i ys nw => nw = ledOf NB ∧ IntsAre ys (([0, 1, 2].take i).filter fun o => decide (ct ss o = mx3 ss))) FB rfl (by with_unfolding_all rfl) (by with_unfolding_all rfl) (by decide) (by rfl) (by decide) (by rfl) (by rfl) (by rfl) ?_
    (repeat' (first | ((fail_if_success (fail_if_success k_unfold)); (first | refine (let s9 := _; (?_ : wpAny _ _ _ _ _ s9)) | k_unfold)) | (k_end; wrow_close) | ((fail_if_success (fail_if_success k_fold)); (refine (let q9 := _; (?_ : wpAny _ _ _ q9 _ _))); (first | ((with_reducible show wpAny _ _ (getMethod (Value.ref _) (Str.ofString "count") _) _ _ _); with_unfolding_all refine getMethod_list_of PySem.F.slot_list_count PySem.F.type_list_count (by is_list) (by no_dict) ?_) | walk1)) | (first | ((with_reducible show wpAny _ _ (getMethod (Value.ref _) (Str.ofString "count") _) _ _ _); with_unfolding_all refine getMethod_list_of PySem.F.slot_list_count PySem.F.type_list_count (by is_list) (by no_dict) ?_) | walk1) | (dsimp only [List.nil_append, List.cons_append]; (first | ((with_reducible show wpAny _ _ (getMethod (Value.ref _) (Str.ofString "count") _) _ _ _); with_unfolding_all refine getMethod_list_of PySem.F.slot_list_count PySem.F.type_list_count (by is_list) (by no_dict) ?_) | walk1)) | (leave1; walk_say "STEP leave1"; try dsimp only) | fail "no step"))
    rename IsRange _ _ _ _ _ _ _ _ => hR2
    rename Fr _ _ _ _ => FB
    rename News _ _ _ _ => NB2
    refine ⟨3, _, from_range rfl FB NB2 (Nat.le_of_ble_eq_true rfl) ⟨rfl, .nil⟩ hR2 (by decide) (by rfl), ?t1, ?f1⟩
    case t1 =>
      rintro i zs nw hi3 ⟨rfl, hzs⟩ v I oI C oC D8 m₂ h dr tk E' ⟨t9, rfl⟩ hC hx F' N' off ne
      dsimp only [ledOf] at N' off ⊢
      have hi3 : i = 0 ∨ i = 1 ∨ i = 2 := by omega
      rcases hi3 with rfl | rfl | rfl
      · replace hx : m₂ (Str.ofString "order") = some (.int 0 t9) := hx
        (repeat' (first | ((fail_if_success (fail_if_success k_unfold)); (first | refine (let s9 := _; (?_ : wpAny _ _ _ _ _ s9)) | k_unfold)) | (k_end; wrow_close) | ((fail_if_success (fail_if_success k_fold)); (refine (let q9 := _; (?_ : wpAny _ _ _ q9 _ _))); (first | ((with_reducible show wpAny _ _ (getMethod (Value.ref _) (Str.ofString "count") _) _ _ _); with_unfolding_all refine getMethod_list_of PySem.F.slot_list_count PySem.F.type_list_count (by is_list) (by no_dict) ?_) | walk1)) | (first | ((with_reducible show wpAny _ _ (getMethod (Value.ref _) (Str.ofString "count") _) _ _ _); with_unfolding_all refine getMethod_list_of PySem.F.slot_list_count PySem.F.type_list_count (by is_list) (by no_dict) ?_) | walk1) | (dsimp only [List.nil_append, List.cons_append]; (first | ((with_reducible show wpAny _ _ (getMethod (Value.ref _) (Str.ofString "count") _) _ _ _); with_unfolding_all refine getMethod_list_of PySem.F.slot_list_count PySem.F.type_list_count (by is_list) (by no_dict) ?_) | walk1)) | (leave1; walk_say "STEP leave1"; try dsimp only) | fail "no step"))
        · (rename List.getD _ _ _ = _ => hc9)
          replace hc9 : ct ss 0 = _ := hc9
          exact end_d (by k_asm) (by k_asm) off ⟨rfl, filt_in (xs := [0, 1, 2]) hzs rfl (by rw [mx3_eq (by assumption) (by assumption)]; assumption)⟩
        · (rename ¬ List.getD _ _ _ = _ => hc9)
          replace hc9 : ¬ ct ss 0 = _ := hc9
          exact end_d (by k_asm) (by k_asm) off ⟨rfl, filt_out (xs := [0, 1, 2]) hzs rfl (by rw [mx3_eq (by assumption) (by assumption)]; assumption)⟩
      · replace hx : m₂ (Str.ofString "order") = some (.int 1 t9) := hx
        (repeat' (first | ((fail_if_success (fail_if_success k_unfold)); (first | refine (let s9 := _; (?_ : wpAny _ _ _ _ _ s9)) | k_unfold)) | (k_end; wrow_close) | ((fail_if_success (fail_if_success k_fold)); (refine (let q9 := _; (?_ : wpAny _ _ _ q9 _ _))); (first | ((with_reducible show wpAny _ _ (getMethod (Value.ref _) (Str.ofString "count") _) _ _ _); with_unfolding_all refine getMethod_list_of PySem.F.slot_list_count PySem.F.type_list_count (by is_list) (by no_dict) ?_) | walk1)) | (first | ((with_reducible show wpAny _ _ (getMethod (Value.ref _) (Str.ofString "count") _) _ _ _); with_unfolding_all refine getMethod_list_of PySem.F.slot_list_count PySem.F.type_list_count (by is_list) (by no_dict) ?_) | walk1) | (dsimp only [List.nil_append, List.cons_append]; (first | ((with_reducible show wpAny _ _ (getMethod (Value.ref _) (Str.ofString "count") _) _ _ _); with_unfolding_all refine getMethod_list_of PySem.F.slot_list_count PySem.F.type_list_count (by is_list) (by no_dict) ?_) | walk1)) | (leave1; walk_say "STEP leave1"; try dsimp only) | fail "no step"))
        · (rename List.getD _ _ _ = _ => hc9)
          replace hc9 : ct ss 1 = _ := hc9
          exact end_d (by k_asm) (by k_asm) off ⟨rfl, filt_in (xs := [0, 1, 2]) hzs rfl (by rw [mx3_eq (by assumption) (by assumption)]; assumption)⟩
        · (rename ¬ List.getD _ _ _ = _ => hc9)
          replace hc9 : ¬ ct ss 1 = _ := hc9
          exact end_d (by k_asm) (by k_asm) off ⟨rfl, filt_out (xs := [0, 1, 2]) hzs rfl (by rw [mx3_eq (by assumption) (by assumption)]; assumption)⟩
      · replace hx : m₂ (Str.ofString "order") = some (.int 2 t9) := hx
        (repeat' (first | ((fail_if_success (fail_if_success k_unfold)); (first | refine (let s9 := _; (?_ : wpAny _ _ _ _ _ s9)) | k_unfold)) | (k_end; wrow_close) | ((fail_if_success (fail_if_success k_fold)); (refine (let q9 := _; (?_ : wpAny _ _ _ q9 _ _))); (first | ((with_reducible show wpAny _ _ (getMethod (Value.ref _) (Str.ofString "count") _) _ _ _); with_unfolding_all refine getMethod_list_of PySem.F.slot_list_count PySem.F.type_list_count (by is_list) (by no_dict) ?_) | walk1)) | (first | ((with_reducible show wpAny _ _ (getMethod (Value.ref _) (Str.ofString "count") _) _ _ _); with_unfolding_all refine getMethod_list_of PySem.F.slot_list_count PySem.F.type_list_count (by is_list) (by no_dict) ?_) | walk1) | (dsimp only [List.nil_append, List.cons_append]; (first | ((with_reducible show wpAny _ _ (getMethod (Value.ref _) (Str.ofString "count") _) _ _ _); with_unfolding_all refine getMethod_list_of PySem.F.slot_list_count PySem.F.type_list_count (by is_list) (by no_dict) ?_) | walk1)) | (leave1; walk_say "STEP leave1"; try dsimp only) | fail "no step"))
        · (rename List.getD _ _ _ = _ => hc9)
          replace hc9 : ct ss 2 = _ := hc9
          exact end_d (by k_asm) (by k_asm) off ⟨rfl, filt_in (xs := [0, 1, 2]) hzs rfl (by rw [mx3_eq (by assumption) (by assumption)]; assumption)⟩
        · (rename ¬ List.getD _ _ _ = _ => hc9)
          replace hc9 : ¬ ct ss 2 = _ := hc9
          exact end_d (by k_asm) (by k_asm) off ⟨rfl, filt_out (xs := [0, 1, 2]) hzs rfl (by rw [mx3_eq (by assumption) (by assumption)]; assumption)⟩
    case f1 =>
      rintro D8 h dr tk zs nw F' N' o2 ⟨rfl, hzs⟩
      dsimp only [ledOf] at N' o2
      have hm9 := most_filt hzs
      rcases hm9 with ⟨a1, u1, rfl, e1⟩ | ⟨a1, u1, a2, u2, rfl, e1, e2⟩ | ⟨a1, u1, a2, u2, a3, u3, rfl, e1, e2⟩ <;> clear hzs
      all_goals
        (repeat' (first | ((fail_if_success (fail_if_success k_unfold)); (first | refine (let s9 := _; (?_ : wpAny _ _ _ _ _ s9)) | k_unfold)) | (k_end; wrow_close) | ((fail_if_success (fail_if_success k_fold)); (refine (let q9 := _; (?_ : wpAny _ _ _ q9 _ _))); (first | ((with_reducible show wpAny _ _ (getMethod (Value.ref _) (Str.ofString "count") _) _ _ _); with_unfolding_all refine getMethod_list_of PySem.F.slot_list_count PySem.F.type_list_count (by is_list) (by no_dict) ?_) | walk1)) | (first | ((with_reducible show wpAny _ _ (getMethod (Value.ref _) (Str.ofString "count") _) _ _ _); with_unfolding_all refine getMethod_list_of PySem.F.slot_list_count PySem.F.type_list_count (by is_list) (by no_dict) ?_) | walk1) | (dsimp only [List.nil_append, List.cons_append]; (first | ((with_reducible show wpAny _ _ (getMethod (Value.ref _) (Str.ofString "count") _) _ _ _); with_unfolding_all refine getMethod_list_of PySem.F.slot_list_count PySem.F.type_list_count (by is_list) (by no_dict) ?_) | walk1)) | (leave1; walk_say "STEP leave1"; try dsimp only) | fail "no step"))
        all_goals
          rename Fr _ _ _ _ => F9
          rename News _ _ _ _ => N9
          first
            | (have e9 : most ss way = _ := e1 way)
            | ((rename way = 1 => hw9); have e9 : most ss way = _ := hw9 ▸ e1)
            | have e9 : most ss way = _ := e2 way (by assumption)
          rw [e9] at hret
          exact hret _ _ _ _ F9 (news_sub N9 fun p hp => by simp only [List.mem_cons, hp, or_true])
end Mine
set_option hygiene false in
local macro_rules | `(tactic| walk_at $s) => if ("|call ref|eval ListComp|exec Assign cons ListComp|call builtin:list.count|exec For Name Call cons nil|".splitOn ("|" ++ s.getString ++ "|")).length = 2 then `(tactic| (with_reducible refine Mine.Hold.h ?_)) else Lean.Macro.throwUnsupported
namespace Mine
def ordsP (c0 : Int) : List Int := (rangeKs 0 5).map fun k => (c0.fdiv (3 ^ k.toNat)).fmod 3
def liesP (c2 i : Int) : List Int := (rangeKs 0 10).map fun k => (c2.fdiv (3 ^ (10 * i + k).toNat)).fmod 3
def k0P (c1 : Int) : Int := Int.fmod (Int.fdiv c1 6) 5
def k1P (c1 : Int) : Int := Int.fmod (Int.fmod (Int.fdiv c1 6) 5 + 1 + Int.fmod (Int.fdiv c1 30) 4) 5
def wayP (c4 : Int) : Int := 1 - 2 * Int.fmod (Int.fdiv c4 4) 2
def afterP (os ls : List Int) (liar way : Int) : List Int := [0, 1, 2, 3, 4].map fun k : Int => if 4 ≤ ct (seenL os ls liar k) (most (seenL os ls liar k) way) then most (seenL os ls liar k) way else at5 ls (5 + k)
def dueP (os ls0 ls1 : List Int) (k0 k1 liar way : Int) : Int := if k0 ≠ liar then most (seenL os ls0 liar k0) way else most (seenL (afterP os ls0 liar way) ls1 liar k1) way
/-- the object at one place of a ledger, set -/
def setO : Nat → Obj → List (Addr × Obj) → List (Addr × Obj)
  | _, _, [] => []
  | 0, o, p :: r => (p.1, o) :: r
  | n + 1, o, p :: r => p :: setO n o r
theorem setO_nil {n : Nat} {o : Obj} : setO n o [] = [] := by cases n <;> rfl
theorem setO_off {a : Addr} {o : Obj} : ∀ {l : List (Addr × Obj)} {n : Nat}, (∀ p ∈ l, p.1 ≠ a) → ∀ p ∈ setO n o l, p.1 ≠ a := by
  intro l
  induction l with
  | nil => intro n h p hp; rw [setO_nil] at hp; exact nomatch hp
  | cons q l ih =>
    intro n h p hp
    cases n with
    | zero =>
      rcases List.mem_cons.mp hp with rfl | hp
      · exact h q (.head _)
      · exact h p (.tail _ hp)
    | succ n =>
      rcases List.mem_cons.mp hp with rfl | hp
      · exact h _ (.head _)
      · exact ih (fun p hp => h p (.tail _ hp)) p hp
theorem setO_off' {a : Addr} {o : Obj} : ∀ {l : List (Addr × Obj)} {n : Nat}, (∀ p ∈ setO n o l, p.1 ≠ a) → ∀ p ∈ l, p.1 ≠ a := by
  intro l
  induction l with
  | nil => intro n h p hp; exact nomatch hp
  | cons q l ih =>
    intro n h p hp
    cases n with
    | zero =>
      rcases List.mem_cons.mp hp with rfl | hp
      · exact h (p.1, o) (.head _)
      · exact h p (.tail _ hp)
    | succ n =>
      rcases List.mem_cons.mp hp with rfl | hp
      · exact h _ (.head _)
      · exact ih (fun p hp => h p (.tail _ hp)) p hp
theorem due_k0 {os ls0 ls1 : List Int} {k0 k1 liar way : Int} (h : k0 ≠ liar) : dueP os ls0 ls1 k0 k1 liar way = most (seenL os ls0 liar k0) way := if_pos h
theorem due_k1 {os ls0 ls1 : List Int} {k0 k1 liar way : Int} (h : k0 = liar) : dueP os ls0 ls1 k0 k1 liar way = most (seenL (afterP os ls0 liar way) ls1 liar k1) way := if_neg (by simpa using h)
theorem r5 {i : Nat} (h : i < 5) : ([0, 1, 2, 3, 4] : List Int)[i]? = some ((i : Nat) : Int) := by
  have : i = 0 ∨ i = 1 ∨ i = 2 ∨ i = 3 ∨ i = 4 := by omega
  rcases this with rfl | rfl | rfl | rfl | rfl <;> rfl
theorem idx0 {M : Model} {A : Around} {a b : PySem.Expr} {r : Value} {x y : Int} {t : Tok} {Q : Value → Shared → Prop} {E : Value → Shared → Prop} {s : Shared} (h : wpAny M A (subscriptTail a b r (.int x t)) Q E s) : wpAny M A (subscriptTail a b r (.int ([x, y].getD (Int.toNat 0) 0) t)) Q E s := h
theorem idx1 {M : Model} {A : Around} {a b : PySem.Expr} {r : Value} {x y : Int} {t : Tok} {Q : Value → Shared → Prop} {E : Value → Shared → Prop} {s : Shared} (h : wpAny M A (subscriptTail a b r (.int y t)) Q E s) : wpAny M A (subscriptTail a b r (.int ([x, y].getD (Int.toNat 1) 0) t)) Q E s := h
theorem ordsP_len (c0 : Int) : (ordsP c0).length = 5 := rfl
theorem liesP_len (c2 i : Int) : (liesP c2 i).length = 10 := rfl
theorem fm_b {a b : Int} (h : 0 < b) : 0 ≤ a.fmod b ∧ a.fmod b < b := by
  rw [Int.fmod_eq_emod_of_nonneg _ (Int.le_of_lt h)]
  exact ⟨Int.emod_nonneg _ (by omega), Int.emod_lt_of_pos _ h⟩
set_option maxHeartbeats 8000000 in
theorem due_ctr {prog : Program} {w : World} {c0 c1 c2 c3 c4 : Int} {t0 t1 t2 t3 t4 : Tok} {l : Addr} {n : Nat} {led : List (Addr × Obj)} (hm : (l, cellsO c0 c1 c2 c3 c4 t0 t1 t2 t3 t4 n) ∈ led) :
    Ctr prog w 10 225 [.ref l] led fun k => ∀ t, k (.int (dueP (ordsP c0) (liesP c2 0) (liesP c2 1) (k0P c1) (k1P c1) (c1.fmod 6) (wayP c4)) t) led := by
  unfold Ctr
  intro p loose mean mg mb dp un gd cn cs a ccd cl outer A₀ base h₀ L m s Q E B F X N T hk hd hu hret
  replace N := news_add N hm
  refine wpAny_call ?_
  (first | k_dflt ((refine' code_def ?k1z46 ?k2z46 ?k3z46 ?k4z46 ?k5z46 ?kAz46 ?kFz46 ?kKz46 ?k6z46 ?k7z46 ?k8z46 ?k9z46 ?kBz46 ?_ ?c2z46 ?c3z46 ?c4z46 ?c5z46; (case kAz46 => exact rfl); (case kFz46 => exact rfl); (case kKz46 => assumption); (case k1z46 => k_asm); (case k2z46 => k_asm); (case k3z46 => k_asm); (case k4z46 => k_asm); (case k5z46 => k_asm); (case k6z46 => k_is); (case k7z46 => k_is); (case k8z46 => ktr_room); (case k9z46 => first | exact BindsTo.of_eq rfl | exact binds_K (by k_in) rfl (by k_is) rfl rfl rfl); (case c5z46 => decide); (case kBz46 => exact locs rfl); (case c2z46 => exact rfl); (case c3z46 => exact rfl); (case c4z46 => exact rfl); k_whole; intro g' L' h' FG' F' N' B' X' T'; (try dsimp only); (try k_lift B'); (try k_fold))) | k_dflt ((refine' code_defC ?k1z47 ?k2z47 ?k3z47 ?k4z47 ?k5z47 ?kAz47 ?kFz47 ?kKz47 ?k6z47 ?k7z47 ?k8z47 ?k9z47 ?kBz47 ?kDz47 ?_ ?c2z47 ?c3z47 ?c4z47; (case kAz47 => exact rfl); (case kFz47 => exact rfl); (case kKz47 => assumption); (case k1z47 => k_asm); (case k2z47 => k_asm); (case k3z47 => k_asm); (case k4z47 => k_asm); (case k5z47 => k_asm); (case k6z47 => k_is); (case k7z47 => k_is); (case k8z47 => ktr_room); (case k9z47 => first | exact BindsTo.of_eq rfl | exact binds_K (by k_in) rfl (by k_is) rfl rfl rfl); (case kBz47 => exact rfl); (case kDz47 => decide +kernel); (case c2z47 => exact rfl); (case c3z47 => exact rfl); (case c4z47 => exact rfl); k_whole; intro g' L' h' tk' cells' FG' F' N' Y' B' X' T' l1; (have hO := Mine.old_of l1); (try k_lt l1); k_cells Y'; (try simp only [List.cons_append, List.nil_append] at N'); (try dsimp only); (try k_lift B'); (try k_fold))))
  (repeat' (first | ((fail_if_success (fail_if_success k_unfold)); (first | refine (let s9 := _; (?_ : wpAny _ _ _ _ _ s9)) | k_unfold)) | (k_end; wrow_close) | ((fail_if_success (fail_if_success k_fold)); (refine (let q9 := _; (?_ : wpAny _ _ _ q9 _ _))); (first | ((with_reducible show wpAny _ _ (getMethod (Value.ref _) (Str.ofString "count") _) _ _ _); with_unfolding_all refine getMethod_list_of PySem.F.slot_list_count PySem.F.type_list_count (by is_list) (by no_dict) ?_) | (with_reducible first | refine Mine.idx0 ?_ | refine Mine.idx1 ?_) | walk1)) | (first | ((with_reducible show wpAny _ _ (getMethod (Value.ref _) (Str.ofString "count") _) _ _ _); with_unfolding_all refine getMethod_list_of PySem.F.slot_list_count PySem.F.type_list_count (by is_list) (by no_dict) ?_) | (with_reducible first | refine Mine.idx0 ?_ | refine Mine.idx1 ?_) | walk1) | (dsimp only [List.nil_append, List.cons_append]; (first | ((with_reducible show wpAny _ _ (getMethod (Value.ref _) (Str.ofString "count") _) _ _ _); with_unfolding_all refine getMethod_list_of PySem.F.slot_list_count PySem.F.type_list_count (by is_list) (by no_dict) ?_) | (with_reducible first | refine Mine.idx0 ?_ | refine Mine.idx1 ?_) | walk1)) | (leave1; walk_say "STEP leave1"; try dsimp only) | fail "no step"))
  refine Hold.mk ?_
  rename Fr _ _ _ _ => F9
  rename News _ _ _ _ => N9
  obtain ⟨LL, hLL⟩ : ∃ x, x = frL F9 := ⟨_, rfl⟩
  dsimp only [frL] at hLL
  subst hLL
  refine' Ctr.use (orders_ctr (led := ledOf N9) ?zm) ?zB F9 ?zX N9 ?zT ?zk ?zd ?zu ?_
  case zm => (first | (k_dflt k_mem) | (repeat (first | exact List.Mem.head _ | apply List.mem_cons_of_mem)))
  case zB => k_asm
  case zX => k_asm
  case zT => k_asm
  case zk => exact rfl
  case zd => ktr_room
  case zu => ktr_units
  intro O os hos hO h' dr tk F' N'
  dsimp only [ledOf] at hO N'
  try dsimp only
  (repeat' (first | ((fail_if_success (fail_if_success k_unfold)); (first | refine (let s9 := _; (?_ : wpAny _ _ _ _ _ s9)) | k_unfold)) | (k_end; wrow_close) | ((fail_if_success (fail_if_success k_fold)); (refine (let q9 := _; (?_ : wpAny _ _ _ q9 _ _))); (first | ((with_reducible show wpAny _ _ (getMethod (Value.ref _) (Str.ofString "count") _) _ _ _); with_unfolding_all refine getMethod_list_of PySem.F.slot_list_count PySem.F.type_list_count (by is_list) (by no_dict) ?_) | (with_reducible first | refine Mine.idx0 ?_ | refine Mine.idx1 ?_) | walk1)) | (first | ((with_reducible show wpAny _ _ (getMethod (Value.ref _) (Str.ofString "count") _) _ _ _); with_unfolding_all refine getMethod_list_of PySem.F.slot_list_count PySem.F.type_list_count (by is_list) (by no_dict) ?_) | (with_reducible first | refine Mine.idx0 ?_ | refine Mine.idx1 ?_) | walk1) | (dsimp only [List.nil_append, List.cons_append]; (first | ((with_reducible show wpAny _ _ (getMethod (Value.ref _) (Str.ofString "count") _) _ _ _); with_unfolding_all refine getMethod_list_of PySem.F.slot_list_count PySem.F.type_list_count (by is_list) (by no_dict) ?_) | (with_reducible first | refine Mine.idx0 ?_ | refine Mine.idx1 ?_) | walk1)) | (leave1; walk_say "STEP leave1"; try dsimp only) | fail "no step"))
  refine Hold.mk ?_
  rename Fr _ _ _ _ => F9
  rename News _ _ _ _ => N9
  refine' Ctr.use (kings_ctr (led := ledOf N9) ?zm) ?zB F9 ?zX N9 ?zT ?zk ?zd ?zu ?_
  case zm => (first | (k_dflt k_mem) | (repeat (first | exact List.Mem.head _ | apply List.mem_cons_of_mem)))
  case zB => k_asm
  case zX => k_asm
  case zT => k_asm
  case zk => exact rfl
  case zd => ktr_room
  case zu => ktr_units
  intro Kk ka kb hK h' dr tk F' N'
  dsimp only [ledOf] at hK N'
  have hk0 : 0 ≤ k0P c1 ∧ k0P c1 < 5 := fm_b (by decide)
  have hk1 : 0 ≤ k1P c1 ∧ k1P c1 < 5 := fm_b (by decide)
  have q0 : Int.fmod (Int.fdiv c1 6) 5 = k0P c1 := rfl
  have q1 : Int.fmod (k0P c1 + 1 + Int.fmod (Int.fdiv c1 30) 4) 5 = k1P c1 := rfl
  rw [q0, q1] at N'
  clear q0 q1
  generalize k0P c1 = k0 at *
  generalize k1P c1 = k1 at *
  try dsimp only
  (repeat' (first | ((fail_if_success (fail_if_success k_unfold)); (first | refine (let s9 := _; (?_ : wpAny _ _ _ _ _ s9)) | k_unfold)) | (k_end; wrow_close) | ((fail_if_success (fail_if_success k_fold)); (refine (let q9 := _; (?_ : wpAny _ _ _ q9 _ _))); (first | ((with_reducible show wpAny _ _ (getMethod (Value.ref _) (Str.ofString "count") _) _ _ _); with_unfolding_all refine getMethod_list_of PySem.F.slot_list_count PySem.F.type_list_count (by is_list) (by no_dict) ?_) | (with_reducible first | refine Mine.idx0 ?_ | refine Mine.idx1 ?_) | walk1)) | (first | ((with_reducible show wpAny _ _ (getMethod (Value.ref _) (Str.ofString "count") _) _ _ _); with_unfolding_all refine getMethod_list_of PySem.F.slot_list_count PySem.F.type_list_count (by is_list) (by no_dict) ?_) | (with_reducible first | refine Mine.idx0 ?_ | refine Mine.idx1 ?_) | walk1) | (dsimp only [List.nil_append, List.cons_append]; (first | ((with_reducible show wpAny _ _ (getMethod (Value.ref _) (Str.ofString "count") _) _ _ _); with_unfolding_all refine getMethod_list_of PySem.F.slot_list_count PySem.F.type_list_count (by is_list) (by no_dict) ?_) | (with_reducible first | refine Mine.idx0 ?_ | refine Mine.idx1 ?_) | walk1)) | (leave1; walk_say "STEP leave1"; try dsimp only) | fail "no step"))
  refine Hold.mk ?_
  rename Fr _ _ _ _ => F9
  rename News _ _ _ _ => N9
  refine' Ctr.use (lies_ctr (led := ledOf N9) (by decide) (by decide) ?zm) ?zB F9 ?zX N9 ?zT ?zk ?zd ?zu ?_
  case zm => (first | (k_dflt k_mem) | (repeat (first | exact List.Mem.head _ | apply List.mem_cons_of_mem)))
  case zB => k_asm
  case zX => k_asm
  case zT => k_asm
  case zk => exact rfl
  case zd => ktr_room
  case zu => ktr_units
  intro Li ls hls hLi h' dr tk F9 N'
  dsimp only [ledOf] at hLi N'
  replace hos : IntsAre os (ordsP c0) := hos
  replace hls : IntsAre ls (liesP c2 0) := hls
  have hol := ordsP_len c0
  have hll := liesP_len c2 0
  rename _ = Data.cell (some (Value.int (Int.fmod _ 6) _)) => d9
  change Obj.data _ = Data.cell (some (Value.int (Int.fmod c1 6) _)) at d9
  change Fr _ _ _ (fun y => if y = _ then some (Value.int (wayP c4) _) else _) at F9
  generalize ordsP c0 = os0 at *
  generalize liesP c2 0 = ls0 at *
  generalize c1.fmod 6 = liar at *
  generalize wayP c4 = way at *
  try dsimp only
  (repeat' (first | ((fail_if_success (fail_if_success k_unfold)); (first | refine (let s9 := _; (?_ : wpAny _ _ _ _ _ s9)) | k_unfold)) | (k_end; wrow_close) | ((fail_if_success (fail_if_success k_fold)); (refine (let q9 := _; (?_ : wpAny _ _ _ q9 _ _))); (first | ((with_reducible show wpAny _ _ (getMethod (Value.ref _) (Str.ofString "count") _) _ _ _); with_unfolding_all refine getMethod_list_of PySem.F.slot_list_count PySem.F.type_list_count (by is_list) (by no_dict) ?_) | (with_reducible first | refine Mine.idx0 ?_ | refine Mine.idx1 ?_) | walk1)) | (first | ((with_reducible show wpAny _ _ (getMethod (Value.ref _) (Str.ofString "count") _) _ _ _); with_unfolding_all refine getMethod_list_of PySem.F.slot_list_count PySem.F.type_list_count (by is_list) (by no_dict) ?_) | (with_reducible first | refine Mine.idx0 ?_ | refine Mine.idx1 ?_) | walk1) | (dsimp only [List.nil_append, List.cons_append]; (first | ((with_reducible show wpAny _ _ (getMethod (Value.ref _) (Str.ofString "count") _) _ _ _); with_unfolding_all refine getMethod_list_of PySem.F.slot_list_count PySem.F.type_list_count (by is_list) (by no_dict) ?_) | (with_reducible first | refine Mine.idx0 ?_ | refine Mine.idx1 ?_) | walk1)) | (leave1; walk_say "STEP leave1"; try dsimp only) | fail "no step"))
  · --BLK one
    refine Hold.mk ?_
    rename Fr _ _ _ _ => FA
    rename News _ _ _ _ => NA
    k_dflt refine ListComp_D (fun i ys nw => nw = ledOf NA ∧ IntsAre ys (([0, 1, 2, 3, 4].take i).map fun o : Int => if o = liar then at5 ls0 k0 else at5 os0 o)) FA (by with_unfolding_all rfl) (by decide) (by rfl) (by decide) (by rfl) ?_
    (repeat' (first | ((fail_if_success (fail_if_success k_unfold)); (first | refine (let s9 := _; (?_ : wpAny _ _ _ _ _ s9)) | k_unfold)) | (k_end; wrow_close) | ((fail_if_success (fail_if_success k_fold)); (refine (let q9 := _; (?_ : wpAny _ _ _ q9 _ _))); (first | ((with_reducible show wpAny _ _ (getMethod (Value.ref _) (Str.ofString "count") _) _ _ _); with_unfolding_all refine getMethod_list_of PySem.F.slot_list_count PySem.F.type_list_count (by is_list) (by no_dict) ?_) | (with_reducible first | refine Mine.idx0 ?_ | refine Mine.idx1 ?_) | walk1)) | (first | ((with_reducible show wpAny _ _ (getMethod (Value.ref _) (Str.ofString "count") _) _ _ _); with_unfolding_all refine getMethod_list_of PySem.F.slot_list_count PySem.F.type_list_count (by is_list) (by no_dict) ?_) | (with_reducible first | refine Mine.idx0 ?_ | refine Mine.idx1 ?_) | walk1) | (dsimp only [List.nil_append, List.cons_append]; (first | ((with_reducible show wpAny _ _ (getMethod (Value.ref _) (Str.ofString "count") _) _ _ _); with_unfolding_all refine getMethod_list_of PySem.F.slot_list_count PySem.F.type_list_count (by is_list) (by no_dict) ?_) | (with_reducible first | refine Mine.idx0 ?_ | refine Mine.idx1 ?_) | walk1)) | (leave1; walk_say "STEP leave1"; try dsimp only) | fail "no step"))
    rename IsRange _ _ _ _ _ _ _ _ => hR
    rename Fr _ _ _ _ => FA
    rename News _ _ _ _ => NA2
    refine ⟨5, _, from_range rfl FA NA2 (Nat.le_of_ble_eq_true rfl) ⟨rfl, .nil⟩ hR (by decide) (by rfl), ?t1, ?f1⟩
    case t1 =>
      rintro i ys nw hi5 ⟨rfl, hys⟩ v I oI C oC D9 m₂ h dr tk E' ⟨t9, rfl⟩ hC hx F' N' off ne
      refine wpAny_tests_nil ?_
      simp only [if_true]
      dsimp only [ledOf] at N' off ⊢
      have hr5 := r5 hi5
      rw [Int.zero_add] at hx
      have ho5 : 0 ≤ (i : Int) ∧ (i : Int) < 5 := by omega
      generalize ((i : Nat) : Int) = o at *
      (repeat' (first | ((fail_if_success (fail_if_success k_unfold)); (first | refine (let s9 := _; (?_ : wpAny _ _ _ _ _ s9)) | k_unfold)) | (k_end; wrow_close) | ((fail_if_success (fail_if_success k_fold)); (refine (let q9 := _; (?_ : wpAny _ _ _ q9 _ _))); (first | ((with_reducible show wpAny _ _ (getMethod (Value.ref _) (Str.ofString "count") _) _ _ _); with_unfolding_all refine getMethod_list_of PySem.F.slot_list_count PySem.F.type_list_count (by is_list) (by no_dict) ?_) | (with_reducible first | refine Mine.idx0 ?_ | refine Mine.idx1 ?_) | walk1)) | (first | ((with_reducible show wpAny _ _ (getMethod (Value.ref _) (Str.ofString "count") _) _ _ _); with_unfolding_all refine getMethod_list_of PySem.F.slot_list_count PySem.F.type_list_count (by is_list) (by no_dict) ?_) | (with_reducible first | refine Mine.idx0 ?_ | refine Mine.idx1 ?_) | walk1) | (dsimp only [List.nil_append, List.cons_append]; (first | ((with_reducible show wpAny _ _ (getMethod (Value.ref _) (Str.ofString "count") _) _ _ _); with_unfolding_all refine getMethod_list_of PySem.F.slot_list_count PySem.F.type_list_count (by is_list) (by no_dict) ?_) | (with_reducible first | refine Mine.idx0 ?_ | refine Mine.idx1 ?_) | walk1)) | (leave1; walk_say "STEP leave1"; try dsimp only) | fail "no step"))
      all_goals
        refine end_d (by k_asm) (by k_asm) off ⟨rfl, ?_⟩
        rw [take_snoc hr5]
        first | rw [if_pos (by assumption)] | rw [if_neg (by assumption)]
        exact ints_snoc hys
    case f1 =>
      rintro D9 h dr tk ys nw F' N' o1 ⟨rfl, hys⟩
      dsimp only [ledOf] at N' o1
      replace hys : IntsAre ys (seenL os0 ls0 liar k0) := hys
      (repeat' (first | ((fail_if_success (fail_if_success k_unfold)); (first | refine (let s9 := _; (?_ : wpAny _ _ _ _ _ s9)) | k_unfold)) | (k_end; wrow_close) | ((fail_if_success (fail_if_success k_fold)); (refine (let q9 := _; (?_ : wpAny _ _ _ q9 _ _))); (first | ((with_reducible show wpAny _ _ (getMethod (Value.ref _) (Str.ofString "count") _) _ _ _); with_unfolding_all refine getMethod_list_of PySem.F.slot_list_count PySem.F.type_list_count (by is_list) (by no_dict) ?_) | (with_reducible first | refine Mine.idx0 ?_ | refine Mine.idx1 ?_) | walk1)) | (first | ((with_reducible show wpAny _ _ (getMethod (Value.ref _) (Str.ofString "count") _) _ _ _); with_unfolding_all refine getMethod_list_of PySem.F.slot_list_count PySem.F.type_list_count (by is_list) (by no_dict) ?_) | (with_reducible first | refine Mine.idx0 ?_ | refine Mine.idx1 ?_) | walk1) | (dsimp only [List.nil_append, List.cons_append]; (first | ((with_reducible show wpAny _ _ (getMethod (Value.ref _) (Str.ofString "count") _) _ _ _); with_unfolding_all refine getMethod_list_of PySem.F.slot_list_count PySem.F.type_list_count (by is_list) (by no_dict) ?_) | (with_reducible first | refine Mine.idx0 ?_ | refine Mine.idx1 ?_) | walk1)) | (leave1; walk_say "STEP leave1"; try dsimp only) | fail "no step"))
      refine Hold.mk ?_
      rename Fr _ _ _ _ => F9
      rename News _ _ _ _ => N9
      refine' Ctr.use (most_ctr (led := ledOf N9) ?zm hys ?zl) ?zB F9 ?zX N9 ?zT ?zk ?zd ?zu ?_
      case zm => (first | (k_dflt k_mem) | (repeat (first | exact List.Mem.head _ | apply List.mem_cons_of_mem)))
      case zl => exact (by decide : (5 : Nat) ≤ 100)
      case zB => k_asm
      case zX => k_asm
      case zT => k_asm
      case zk => exact rfl
      case zd => ktr_room
      case zu => ktr_units
      intro t' h' dr tk F' N'
      dsimp only [ledOf] at N'
      try dsimp only
      (repeat' (first | ((fail_if_success (fail_if_success k_unfold)); (first | refine (let s9 := _; (?_ : wpAny _ _ _ _ _ s9)) | k_unfold)) | (k_end; wrow_close) | ((fail_if_success (fail_if_success k_fold)); (refine (let q9 := _; (?_ : wpAny _ _ _ q9 _ _))); (first | ((with_reducible show wpAny _ _ (getMethod (Value.ref _) (Str.ofString "count") _) _ _ _); with_unfolding_all refine getMethod_list_of PySem.F.slot_list_count PySem.F.type_list_count (by is_list) (by no_dict) ?_) | (with_reducible first | refine Mine.idx0 ?_ | refine Mine.idx1 ?_) | walk1)) | (first | ((with_reducible show wpAny _ _ (getMethod (Value.ref _) (Str.ofString "count") _) _ _ _); with_unfolding_all refine getMethod_list_of PySem.F.slot_list_count PySem.F.type_list_count (by is_list) (by no_dict) ?_) | (with_reducible first | refine Mine.idx0 ?_ | refine Mine.idx1 ?_) | walk1) | (dsimp only [List.nil_append, List.cons_append]; (first | ((with_reducible show wpAny _ _ (getMethod (Value.ref _) (Str.ofString "count") _) _ _ _); with_unfolding_all refine getMethod_list_of PySem.F.slot_list_count PySem.F.type_list_count (by is_list) (by no_dict) ?_) | (with_reducible first | refine Mine.idx0 ?_ | refine Mine.idx1 ?_) | walk1)) | (leave1; walk_say "STEP leave1"; try dsimp only) | fail "no step"))
      rename Fr _ _ _ _ => F8
      rename News _ _ _ _ => N8
      rw [due_k0 (by assumption)] at hret
      exact hret _ _ _ _ F8 (news_sub N8 fun p hp => by simp only [List.mem_cons, hp, or_true])
  · --BLK two
    refine Hold.mk ?_
    rename Fr _ _ _ _ => FZ
    rename News _ _ _ _ => NZ
    refine For_D (fun i m nw => Mine.Ex6 fun as na ok vf u1 u2 => Mine.And4 (m = two (mapOf FZ) (Str.ofString "seen") (Str.ofString "most") u1 u2) (nw = setO 0 (listOf as.toArray na) (setO 6 ok (ledOf NZ))) (ok.data = .cell vf) (IntsAre as (([0, 1, 2, 3, 4].take i).map fun k : Int => if 4 ≤ ct (seenL os0 ls0 liar k) (most (seenL os0 ls0 liar k) way) then most (seenL os0 ls0 liar k) way else at5 ls0 (5 + k)))) FZ ?_
    (repeat' (first | ((fail_if_success (fail_if_success k_unfold)); (first | refine (let s9 := _; (?_ : wpAny _ _ _ _ _ s9)) | k_unfold)) | (k_end; wrow_close) | ((fail_if_success (fail_if_success k_fold)); (refine (let q9 := _; (?_ : wpAny _ _ _ q9 _ _))); (first | ((with_reducible show wpAny _ _ (getMethod (Value.ref _) (Str.ofString "count") _) _ _ _); with_unfolding_all refine getMethod_list_of PySem.F.slot_list_count PySem.F.type_list_count (by is_list) (by no_dict) ?_) | (with_reducible first | refine Mine.idx0 ?_ | refine Mine.idx1 ?_) | walk1)) | (first | ((with_reducible show wpAny _ _ (getMethod (Value.ref _) (Str.ofString "count") _) _ _ _); with_unfolding_all refine getMethod_list_of PySem.F.slot_list_count PySem.F.type_list_count (by is_list) (by no_dict) ?_) | (with_reducible first | refine Mine.idx0 ?_ | refine Mine.idx1 ?_) | walk1) | (dsimp only [List.nil_append, List.cons_append]; (first | ((with_reducible show wpAny _ _ (getMethod (Value.ref _) (Str.ofString "count") _) _ _ _); with_unfolding_all refine getMethod_list_of PySem.F.slot_list_count PySem.F.type_list_count (by is_list) (by no_dict) ?_) | (with_reducible first | refine Mine.idx0 ?_ | refine Mine.idx1 ?_) | walk1)) | (leave1; walk_say "STEP leave1"; try dsimp only) | fail "no step"))
    rename IsRange _ _ _ _ _ _ _ _ => hR
    rename Fr _ _ _ _ => FZ2
    rename News _ _ _ _ => NZ2
    refine ⟨5, _, fromF_range rfl FZ2 NZ2 ⟨[], 0, _, _, _, _, two_self rfl, rfl, by assumption, .nil⟩ hR (by decide) (by rfl), ?turn, ?fin⟩
    case turn =>
      rintro i v m₁ nw h dr tk I oI hi ⟨t9, rfl⟩ ⟨as, na, ok, vf, u1, u2, rfl, rfl, hok, has⟩ F' N' off _hcI
      have hr5 := r5 hi
      have off0 := setO_off' (setO_off' off)
      dsimp only [mapOf, ledOf, setO] at F' N' off
      rw [Int.zero_add]
      have ho5 : 0 ≤ (i : Int) ∧ (i : Int) < 5 := by omega
      generalize ((i : Nat) : Int) = o at *
      (repeat' (first | ((fail_if_success (fail_if_success k_unfold)); (first | refine (let s9 := _; (?_ : wpAny _ _ _ _ _ s9)) | k_unfold)) | (k_end; wrow_close) | ((fail_if_success (fail_if_success k_fold)); (refine (let q9 := _; (?_ : wpAny _ _ _ q9 _ _))); (first | ((with_reducible show wpAny _ _ (getMethod (Value.ref _) (Str.ofString "count") _) _ _ _); with_unfolding_all refine getMethod_list_of PySem.F.slot_list_count PySem.F.type_list_count (by is_list) (by no_dict) ?_) | (with_reducible first | refine Mine.idx0 ?_ | refine Mine.idx1 ?_) | walk1)) | (first | ((with_reducible show wpAny _ _ (getMethod (Value.ref _) (Str.ofString "count") _) _ _ _); with_unfolding_all refine getMethod_list_of PySem.F.slot_list_count PySem.F.type_list_count (by is_list) (by no_dict) ?_) | (with_reducible first | refine Mine.idx0 ?_ | refine Mine.idx1 ?_) | walk1) | (dsimp only [List.nil_append, List.cons_append]; (first | ((with_reducible show wpAny _ _ (getMethod (Value.ref _) (Str.ofString "count") _) _ _ _); with_unfolding_all refine getMethod_list_of PySem.F.slot_list_count PySem.F.type_list_count (by is_list) (by no_dict) ?_) | (with_reducible first | refine Mine.idx0 ?_ | refine Mine.idx1 ?_) | walk1)) | (leave1; walk_say "STEP leave1"; try dsimp only) | fail "no step"))
      refine Hold.mk ?_
      rename Fr _ _ _ _ => FB
      rename News _ _ _ _ => NB
      k_dflt refine Assign_ListComp_D (fun i ys nw => nw = ledOf NB ∧ IntsAre ys (([0, 1, 2, 3, 4].take i).map fun j : Int => if j = liar then at5 ls0 o else at5 os0 j)) FB rfl (by with_unfolding_all rfl) (by with_unfolding_all rfl) (by decide) (by rfl) (by decide) (by rfl) (by rfl) (by rfl) ?_
      (repeat' (first | ((fail_if_success (fail_if_success k_unfold)); (first | refine (let s9 := _; (?_ : wpAny _ _ _ _ _ s9)) | k_unfold)) | (k_end; wrow_close) | ((fail_if_success (fail_if_success k_fold)); (refine (let q9 := _; (?_ : wpAny _ _ _ q9 _ _))); (first | ((with_reducible show wpAny _ _ (getMethod (Value.ref _) (Str.ofString "count") _) _ _ _); with_unfolding_all refine getMethod_list_of PySem.F.slot_list_count PySem.F.type_list_count (by is_list) (by no_dict) ?_) | (with_reducible first | refine Mine.idx0 ?_ | refine Mine.idx1 ?_) | walk1)) | (first | ((with_reducible show wpAny _ _ (getMethod (Value.ref _) (Str.ofString "count") _) _ _ _); with_unfolding_all refine getMethod_list_of PySem.F.slot_list_count PySem.F.type_list_count (by is_list) (by no_dict) ?_) | (with_reducible first | refine Mine.idx0 ?_ | refine Mine.idx1 ?_) | walk1) | (dsimp only [List.nil_append, List.cons_append]; (first | ((with_reducible show wpAny _ _ (getMethod (Value.ref _) (Str.ofString "count") _) _ _ _); with_unfolding_all refine getMethod_list_of PySem.F.slot_list_count PySem.F.type_list_count (by is_list) (by no_dict) ?_) | (with_reducible first | refine Mine.idx0 ?_ | refine Mine.idx1 ?_) | walk1)) | (leave1; walk_say "STEP leave1"; try dsimp only) | fail "no step"))
      rename IsRange _ _ _ _ _ _ _ _ => hR2
      rename Fr _ _ _ _ => FB
      rename News _ _ _ _ => NB2
      refine ⟨5, _, from_range rfl FB NB2 (Nat.le_of_ble_eq_true rfl) ⟨rfl, .nil⟩ hR2 (by decide) (by rfl), ?t1, ?f1⟩
      case t1 =>
        rintro i' ys nw hi5 ⟨rfl, hys⟩ v J oJ C oC D9 m₂ h dr tk E' ⟨t9, rfl⟩ hC hx F' N' off3 ne
        refine wpAny_tests_nil ?_
        simp only [if_true]
        dsimp only [ledOf] at N' off3 ⊢
        have hs5 := r5 hi5
        rw [Int.zero_add] at hx
        have hj5 : 0 ≤ (i' : Int) ∧ (i' : Int) < 5 := by omega
        generalize ((i' : Nat) : Int) = j at *
        (repeat' (first | ((fail_if_success (fail_if_success k_unfold)); (first | refine (let s9 := _; (?_ : wpAny _ _ _ _ _ s9)) | k_unfold)) | (k_end; wrow_close) | ((fail_if_success (fail_if_success k_fold)); (refine (let q9 := _; (?_ : wpAny _ _ _ q9 _ _))); (first | ((with_reducible show wpAny _ _ (getMethod (Value.ref _) (Str.ofString "count") _) _ _ _); with_unfolding_all refine getMethod_list_of PySem.F.slot_list_count PySem.F.type_list_count (by is_list) (by no_dict) ?_) | (with_reducible first | refine Mine.idx0 ?_ | refine Mine.idx1 ?_) | walk1)) | (first | ((with_reducible show wpAny _ _ (getMethod (Value.ref _) (Str.ofString "count") _) _ _ _); with_unfolding_all refine getMethod_list_of PySem.F.slot_list_count PySem.F.type_list_count (by is_list) (by no_dict) ?_) | (with_reducible first | refine Mine.idx0 ?_ | refine Mine.idx1 ?_) | walk1) | (dsimp only [List.nil_append, List.cons_append]; (first | ((with_reducible show wpAny _ _ (getMethod (Value.ref _) (Str.ofString "count") _) _ _ _); with_unfolding_all refine getMethod_list_of PySem.F.slot_list_count PySem.F.type_list_count (by is_list) (by no_dict) ?_) | (with_reducible first | refine Mine.idx0 ?_ | refine Mine.idx1 ?_) | walk1)) | (leave1; walk_say "STEP leave1"; try dsimp only) | fail "no step"))
        all_goals
          refine end_d (by k_asm) (by k_asm) off3 ⟨rfl, ?_⟩
          rw [take_snoc hs5]
          first | rw [if_pos (by assumption)] | rw [if_neg (by assumption)]
          exact ints_snoc hys
      case f1 =>
        rintro D9 h dr tk ys nw F' N' o1 ⟨rfl, hys⟩
        dsimp only [ledOf] at N' o1
        replace hys : IntsAre ys (seenL os0 ls0 liar o) := hys
        (repeat' (first | ((fail_if_success (fail_if_success k_unfold)); (first | refine (let s9 := _; (?_ : wpAny _ _ _ _ _ s9)) | k_unfold)) | (k_end; wrow_close) | ((fail_if_success (fail_if_success k_fold)); (refine (let q9 := _; (?_ : wpAny _ _ _ q9 _ _))); (first | ((with_reducible show wpAny _ _ (getMethod (Value.ref _) (Str.ofString "count") _) _ _ _); with_unfolding_all refine getMethod_list_of PySem.F.slot_list_count PySem.F.type_list_count (by is_list) (by no_dict) ?_) | (with_reducible first | refine Mine.idx0 ?_ | refine Mine.idx1 ?_) | walk1)) | (first | ((with_reducible show wpAny _ _ (getMethod (Value.ref _) (Str.ofString "count") _) _ _ _); with_unfolding_all refine getMethod_list_of PySem.F.slot_list_count PySem.F.type_list_count (by is_list) (by no_dict) ?_) | (with_reducible first | refine Mine.idx0 ?_ | refine Mine.idx1 ?_) | walk1) | (dsimp only [List.nil_append, List.cons_append]; (first | ((with_reducible show wpAny _ _ (getMethod (Value.ref _) (Str.ofString "count") _) _ _ _); with_unfolding_all refine getMethod_list_of PySem.F.slot_list_count PySem.F.type_list_count (by is_list) (by no_dict) ?_) | (with_reducible first | refine Mine.idx0 ?_ | refine Mine.idx1 ?_) | walk1)) | (leave1; walk_say "STEP leave1"; try dsimp only) | fail "no step"))
        refine Hold.mk ?_
        rename Fr _ _ _ _ => F9
        rename News _ _ _ _ => N9
        refine' Ctr.use (most_ctr (led := ledOf N9) ?zm hys ?zl) ?zB F9 ?zX N9 ?zT ?zk ?zd ?zu ?_
        case zm => (first | (k_dflt k_mem) | (repeat (first | exact List.Mem.head _ | apply List.mem_cons_of_mem)))
        case zl => exact (by decide : (5 : Nat) ≤ 100)
        case zB => k_asm
        case zX => k_asm
        case zT => k_asm
        case zk => exact rfl
        case zd => ktr_room
        case zu => ktr_units
        intro t' h' dr tk F' N'
        dsimp only [ledOf] at N'
        try dsimp only
        generalize hmo : most (seenL os0 ls0 liar o) way = mo at *
        (repeat' (first | ((fail_if_success (fail_if_success k_unfold)); (first | refine (let s9 := _; (?_ : wpAny _ _ _ _ _ s9)) | k_unfold)) | (k_end; wrow_close) | ((fail_if_success (fail_if_success k_fold)); (refine (let q9 := _; (?_ : wpAny _ _ _ q9 _ _))); (first | ((with_reducible show wpAny _ _ (getMethod (Value.ref _) (Str.ofString "count") _) _ _ _); with_unfolding_all refine getMethod_list_of PySem.F.slot_list_count PySem.F.type_list_count (by is_list) (by no_dict) ?_) | (with_reducible first | refine Mine.idx0 ?_ | refine Mine.idx1 ?_) | walk1)) | (first | ((with_reducible show wpAny _ _ (getMethod (Value.ref _) (Str.ofString "count") _) _ _ _); with_unfolding_all refine getMethod_list_of PySem.F.slot_list_count PySem.F.type_list_count (by is_list) (by no_dict) ?_) | (with_reducible first | refine Mine.idx0 ?_ | refine Mine.idx1 ?_) | walk1) | (dsimp only [List.nil_append, List.cons_append]; (first | ((with_reducible show wpAny _ _ (getMethod (Value.ref _) (Str.ofString "count") _) _ _ _); with_unfolding_all refine getMethod_list_of PySem.F.slot_list_count PySem.F.type_list_count (by is_list) (by no_dict) ?_) | (with_reducible first | refine Mine.idx0 ?_ | refine Mine.idx1 ?_) | walk1)) | (leave1; walk_say "STEP leave1"; try dsimp only) | fail "no step"))
        refine Hold.mk ?_
        rename News _ _ _ _ => N8
        refine count_list_ints (lst_at (ys := ys) N8 ?zc) hys ?_
        case zc => (first | (k_dflt k_mem) | (repeat (first | exact List.Mem.head _ | apply List.mem_cons_of_mem)))
        rw [count_ct]
        (repeat' (first | ((fail_if_success (fail_if_success k_unfold)); (first | refine (let s9 := _; (?_ : wpAny _ _ _ _ _ s9)) | k_unfold)) | (k_end; wrow_close) | ((fail_if_success (fail_if_success k_fold)); (refine (let q9 := _; (?_ : wpAny _ _ _ q9 _ _))); (first | ((with_reducible show wpAny _ _ (getMethod (Value.ref _) (Str.ofString "count") _) _ _ _); with_unfolding_all refine getMethod_list_of PySem.F.slot_list_count PySem.F.type_list_count (by is_list) (by no_dict) ?_) | (with_reducible first | refine Mine.idx0 ?_ | refine Mine.idx1 ?_) | walk1)) | (first | ((with_reducible show wpAny _ _ (getMethod (Value.ref _) (Str.ofString "count") _) _ _ _); with_unfolding_all refine getMethod_list_of PySem.F.slot_list_count PySem.F.type_list_count (by is_list) (by no_dict) ?_) | (with_reducible first | refine Mine.idx0 ?_ | refine Mine.idx1 ?_) | walk1) | (dsimp only [List.nil_append, List.cons_append]; (first | ((with_reducible show wpAny _ _ (getMethod (Value.ref _) (Str.ofString "count") _) _ _ _); with_unfolding_all refine getMethod_list_of PySem.F.slot_list_count PySem.F.type_list_count (by is_list) (by no_dict) ?_) | (with_reducible first | refine Mine.idx0 ?_ | refine Mine.idx1 ?_) | walk1)) | (leave1; walk_say "STEP leave1"; try dsimp only) | fail "no step"))
        all_goals
          rename Fr _ _ _ _ => F8
          rename News _ _ _ _ => N8
          rw [List.push_toArray] at N8
          refine end_f F8 (drop1 N8) ?b1 ⟨_, _, _, _, _, _, two_eq (fun z h1 h2 => by simp +zetaDelta only [two, mapOf, if_neg h1, if_neg h2]) (by decide +kernel), rfl, by assumption, ?b4⟩
          case b1 => exact setO_off (n := 0) (setO_off (n := 6) off0)
          case b4 =>
            rw [take_snoc hr5, hmo]
            first | rw [if_pos (by omega)] | rw [if_neg (by omega)]
            exact ints_snoc has
    case fin =>
      rintro h dr tk m nw ⟨as, na, ok, vf, u1, u2, rfl, rfl, hok, has⟩ F' N'
      dsimp only [mapOf, ledOf, setO] at F' N'
      replace has : IntsAre as (afterP os0 ls0 liar way) := has
      have hal : (afterP os0 ls0 liar way).length = 5 := rfl
      rw [due_k1 (by assumption)] at hret
      generalize afterP os0 ls0 liar way = af at *
      (repeat' (first | ((fail_if_success (fail_if_success k_unfold)); (first | refine (let s9 := _; (?_ : wpAny _ _ _ _ _ s9)) | k_unfold)) | (k_end; wrow_close) | ((fail_if_success (fail_if_success k_fold)); (refine (let q9 := _; (?_ : wpAny _ _ _ q9 _ _))); (first | ((with_reducible show wpAny _ _ (getMethod (Value.ref _) (Str.ofString "count") _) _ _ _); with_unfolding_all refine getMethod_list_of PySem.F.slot_list_count PySem.F.type_list_count (by is_list) (by no_dict) ?_) | (with_reducible first | refine Mine.idx0 ?_ | refine Mine.idx1 ?_) | walk1)) | (first | ((with_reducible show wpAny _ _ (getMethod (Value.ref _) (Str.ofString "count") _) _ _ _); with_unfolding_all refine getMethod_list_of PySem.F.slot_list_count PySem.F.type_list_count (by is_list) (by no_dict) ?_) | (with_reducible first | refine Mine.idx0 ?_ | refine Mine.idx1 ?_) | walk1) | (dsimp only [List.nil_append, List.cons_append]; (first | ((with_reducible show wpAny _ _ (getMethod (Value.ref _) (Str.ofString "count") _) _ _ _); with_unfolding_all refine getMethod_list_of PySem.F.slot_list_count PySem.F.type_list_count (by is_list) (by no_dict) ?_) | (with_reducible first | refine Mine.idx0 ?_ | refine Mine.idx1 ?_) | walk1)) | (leave1; walk_say "STEP leave1"; try dsimp only) | fail "no step"))
      refine Hold.mk ?_
      rename Fr _ _ _ _ => F9
      rename News _ _ _ _ => N9
      refine' Ctr.use (lies_ctr (led := ledOf N9) (by decide) (by decide) ?zm) ?zB F9 ?zX N9 ?zT ?zk ?zd ?zu ?_
      case zm => (first | (k_dflt k_mem) | (repeat (first | exact List.Mem.head _ | apply List.mem_cons_of_mem)))
      case zB => k_asm
      case zX => k_asm
      case zT => k_asm
      case zk => exact rfl
      case zd => ktr_room
      case zu => ktr_units
      intro Lj ls' hls' hLj h' dr tk F' N'
      dsimp only [ledOf] at hLj N'
      replace hls' : IntsAre ls' (liesP c2 1) := hls'
      have hll' := liesP_len c2 1
      generalize liesP c2 1 = ls1 at *
      try dsimp only
      (repeat' (first | ((fail_if_success (fail_if_success k_unfold)); (first | refine (let s9 := _; (?_ : wpAny _ _ _ _ _ s9)) | k_unfold)) | (k_end; wrow_close) | ((fail_if_success (fail_if_success k_fold)); (refine (let q9 := _; (?_ : wpAny _ _ _ q9 _ _))); (first | ((with_reducible show wpAny _ _ (getMethod (Value.ref _) (Str.ofString "count") _) _ _ _); with_unfolding_all refine getMethod_list_of PySem.F.slot_list_count PySem.F.type_list_count (by is_list) (by no_dict) ?_) | (with_reducible first | refine Mine.idx0 ?_ | refine Mine.idx1 ?_) | walk1)) | (first | ((with_reducible show wpAny _ _ (getMethod (Value.ref _) (Str.ofString "count") _) _ _ _); with_unfolding_all refine getMethod_list_of PySem.F.slot_list_count PySem.F.type_list_count (by is_list) (by no_dict) ?_) | (with_reducible first | refine Mine.idx0 ?_ | refine Mine.idx1 ?_) | walk1) | (dsimp only [List.nil_append, List.cons_append]; (first | ((with_reducible show wpAny _ _ (getMethod (Value.ref _) (Str.ofString "count") _) _ _ _); with_unfolding_all refine getMethod_list_of PySem.F.slot_list_count PySem.F.type_list_count (by is_list) (by no_dict) ?_) | (with_reducible first | refine Mine.idx0 ?_ | refine Mine.idx1 ?_) | walk1)) | (leave1; walk_say "STEP leave1"; try dsimp only) | fail "no step"))
      refine Hold.mk ?_
      rename Fr _ _ _ _ => FA
      rename News _ _ _ _ => NA
      k_dflt refine ListComp_D (fun i ys nw => nw = ledOf NA ∧ IntsAre ys (([0, 1, 2, 3, 4].take i).map fun o : Int => if o = liar then at5 ls1 k1 else at5 af o)) FA (by with_unfolding_all rfl) (by decide) (by rfl) (by decide) (by rfl) ?_
      (repeat' (first | ((fail_if_success (fail_if_success k_unfold)); (first | refine (let s9 := _; (?_ : wpAny _ _ _ _ _ s9)) | k_unfold)) | (k_end; wrow_close) | ((fail_if_success (fail_if_success k_fold)); (refine (let q9 := _; (?_ : wpAny _ _ _ q9 _ _))); (first | ((with_reducible show wpAny _ _ (getMethod (Value.ref _) (Str.ofString "count") _) _ _ _); with_unfolding_all refine getMethod_list_of PySem.F.slot_list_count PySem.F.type_list_count (by is_list) (by no_dict) ?_) | (with_reducible first | refine Mine.idx0 ?_ | refine Mine.idx1 ?_) | walk1)) | (first | ((with_reducible show wpAny _ _ (getMethod (Value.ref _) (Str.ofString "count") _) _ _ _); with_unfolding_all refine getMethod_list_of PySem.F.slot_list_count PySem.F.type_list_count (by is_list) (by no_dict) ?_) | (with_reducible first | refine Mine.idx0 ?_ | refine Mine.idx1 ?_) | walk1) | (dsimp only [List.nil_append, List.cons_append]; (first | ((with_reducible show wpAny _ _ (getMethod (Value.ref _) (Str.ofString "count") _) _ _ _); with_unfolding_all refine getMethod_list_of PySem.F.slot_list_count PySem.F.type_list_count (by is_list) (by no_dict) ?_) | (with_reducible first | refine Mine.idx0 ?_ | refine Mine.idx1 ?_) | walk1)) | (leave1; walk_say "STEP leave1"; try dsimp only) | fail "no step"))
      rename IsRange _ _ _ _ _ _ _ _ => hR
      rename Fr _ _ _ _ => FA
      rename News _ _ _ _ => NA2
      refine ⟨5, _, from_range rfl FA NA2 (Nat.le_of_ble_eq_true rfl) ⟨rfl, .nil⟩ hR (by decide) (by rfl), ?t1, ?f1⟩
      case t1 =>
        rintro i ys nw hi5 ⟨rfl, hys⟩ v I oI C oC D9 m₂ h dr tk E' ⟨t9, rfl⟩ hC hx F' N' off ne
        refine wpAny_tests_nil ?_
        simp only [if_true]
        dsimp only [ledOf] at N' off ⊢
        have hr5 := r5 hi5
        rw [Int.zero_add] at hx
        have ho5 : 0 ≤ (i : Int) ∧ (i : Int) < 5 := by omega
        generalize ((i : Nat) : Int) = o at *
        (repeat' (first | ((fail_if_success (fail_if_success k_unfold)); (first | refine (let s9 := _; (?_ : wpAny _ _ _ _ _ s9)) | k_unfold)) | (k_end; wrow_close) | ((fail_if_success (fail_if_success k_fold)); (refine (let q9 := _; (?_ : wpAny _ _ _ q9 _ _))); (first | ((with_reducible show wpAny _ _ (getMethod (Value.ref _) (Str.ofString "count") _) _ _ _); with_unfolding_all refine getMethod_list_of PySem.F.slot_list_count PySem.F.type_list_count (by is_list) (by no_dict) ?_) | (with_reducible first | refine Mine.idx0 ?_ | refine Mine.idx1 ?_) | walk1)) | (first | ((with_reducible show wpAny _ _ (getMethod (Value.ref _) (Str.ofString "count") _) _ _ _); with_unfolding_all refine getMethod_list_of PySem.F.slot_list_count PySem.F.type_list_count (by is_list) (by no_dict) ?_) | (with_reducible first | refine Mine.idx0 ?_ | refine Mine.idx1 ?_) | walk1) | (dsimp only [List.nil_append, List.cons_append]; (first | ((with_reducible show wpAny _ _ (getMethod (Value.ref _) (Str.ofString "count") _) _ _ _); with_unfolding_all refine getMethod_list_of PySem.F.slot_list_count PySem.F.type_list_count (by is_list) (by no_dict) ?_) | (with_reducible first | refine Mine.idx0 ?_ | refine Mine.idx1 ?_) | walk1)) | (leave1; walk_say "STEP leave1"; try dsimp only) | fail "no step"))
        all_goals
          refine end_d (by k_asm) (by k_asm) off ⟨rfl, ?_⟩
          rw [take_snoc hr5]
          first | rw [if_pos (by assumption)] | rw [if_neg (by assumption)]
          exact ints_snoc hys
      case f1 =>
        rintro D9 h dr tk ys nw F' N' o1 ⟨rfl, hys⟩
        dsimp only [ledOf] at N' o1
        replace hys : IntsAre ys (seenL af ls1 liar k1) := hys
        (repeat' (first | ((fail_if_success (fail_if_success k_unfold)); (first | refine (let s9 := _; (?_ : wpAny _ _ _ _ _ s9)) | k_unfold)) | (k_end; wrow_close) | ((fail_if_success (fail_if_success k_fold)); (refine (let q9 := _; (?_ : wpAny _ _ _ q9 _ _))); (first | ((with_reducible show wpAny _ _ (getMethod (Value.ref _) (Str.ofString "count") _) _ _ _); with_unfolding_all refine getMethod_list_of PySem.F.slot_list_count PySem.F.type_list_count (by is_list) (by no_dict) ?_) | (with_reducible first | refine Mine.idx0 ?_ | refine Mine.idx1 ?_) | walk1)) | (first | ((with_reducible show wpAny _ _ (getMethod (Value.ref _) (Str.ofString "count") _) _ _ _); with_unfolding_all refine getMethod_list_of PySem.F.slot_list_count PySem.F.type_list_count (by is_list) (by no_dict) ?_) | (with_reducible first | refine Mine.idx0 ?_ | refine Mine.idx1 ?_) | walk1) | (dsimp only [List.nil_append, List.cons_append]; (first | ((with_reducible show wpAny _ _ (getMethod (Value.ref _) (Str.ofString "count") _) _ _ _); with_unfolding_all refine getMethod_list_of PySem.F.slot_list_count PySem.F.type_list_count (by is_list) (by no_dict) ?_) | (with_reducible first | refine Mine.idx0 ?_ | refine Mine.idx1 ?_) | walk1)) | (leave1; walk_say "STEP leave1"; try dsimp only) | fail "no step"))
        refine Hold.mk ?_
        rename Fr _ _ _ _ => F9
        rename News _ _ _ _ => N9
        refine' Ctr.use (most_ctr (led := ledOf N9) ?zm hys ?zl) ?zB F9 ?zX N9 ?zT ?zk ?zd ?zu ?_
        case zm => (first | (k_dflt k_mem) | (repeat (first | exact List.Mem.head _ | apply List.mem_cons_of_mem)))
        case zl => exact (by decide : (5 : Nat) ≤ 100)
        case zB => k_asm
        case zX => k_asm
        case zT => k_asm
        case zk => exact rfl
        case zd => ktr_room
        case zu => ktr_units
        intro t' h' dr tk F' N'
        dsimp only [ledOf] at N'
        try dsimp only
        (repeat' (first | ((fail_if_success (fail_if_success k_unfold)); (first | refine (let s9 := _; (?_ : wpAny _ _ _ _ _ s9)) | k_unfold)) | (k_end; wrow_close) | ((fail_if_success (fail_if_success k_fold)); (refine (let q9 := _; (?_ : wpAny _ _ _ q9 _ _))); (first | ((with_reducible show wpAny _ _ (getMethod (Value.ref _) (Str.ofString "count") _) _ _ _); with_unfolding_all refine getMethod_list_of PySem.F.slot_list_count PySem.F.type_list_count (by is_list) (by no_dict) ?_) | (with_reducible first | refine Mine.idx0 ?_ | refine Mine.idx1 ?_) | walk1)) | (first | ((with_reducible show wpAny _ _ (getMethod (Value.ref _) (Str.ofString "count") _) _ _ _); with_unfolding_all refine getMethod_list_of PySem.F.slot_list_count PySem.F.type_list_count (by is_list) (by no_dict) ?_) | (with_reducible first | refine Mine.idx0 ?_ | refine Mine.idx1 ?_) | walk1) | (dsimp only [List.nil_append, List.cons_append]; (first | ((with_reducible show wpAny _ _ (getMethod (Value.ref _) (Str.ofString "count") _) _ _ _); with_unfolding_all refine getMethod_list_of PySem.F.slot_list_count PySem.F.type_list_count (by is_list) (by no_dict) ?_) | (with_reducible first | refine Mine.idx0 ?_ | refine Mine.idx1 ?_) | walk1)) | (leave1; walk_say "STEP leave1"; try dsimp only) | fail "no step"))
        rename Fr _ _ _ _ => F8
        rename News _ _ _ _ => N8
        exact hret _ _ _ _ F8 (news_sub N8 fun p hp => by simp only [List.mem_cons, hp, or_true])
end Mine
end
section
theorem Mine.fresh13 {prog : Program} {w : World} {A : Around} {E : Value → Shared → Prop} {s : Shared} {Q : Bool → Shared → Prop} (h : wpAny (model prog w) A (truthy (.bool true)) Q E s) : wpAny (model prog w) A (truthy (.bool true)) Q E s := by
  w_top off
  first | (walk1; fail "no") | exact h
namespace Mine
open PyProof.Rows.LCg
section
variable {prog : Program} {w : World} {A : Around} {E : Value → Shared → Prop} {s : Shared} {h₀ : Heap} {L : Addr} {m : Str → Option Value} {env : Env}
/-- a block over the keys of a dict of ints, bound to a name -/
theorem Assign_ListComp_K {elt iter : PySem.Expr} {ifs : List PySem.Expr} {x y : Str} {px py : Pos} {scope : Scope} {cl : List (Str × Addr)} {pos spos : Pos} {Q : Flow → Shared → Prop} (J : Nat → List Value → List (Addr × Obj) → Prop) (_F₀ : Fr h₀ L s.heap m) (hLe : env.locals = L)
    (hsw : swapsWith (.ListComp elt [⟨.Name x px, iter, ifs, 0⟩] scope pos) (some (.Name y py)) spos.line env = pure true)
    (hclos : closureFor scope env = pure cl) (hcell : ∀ z ∈ scope.names, z.2 ≠ .cell) (hkind : scope.kind = .function)
    (hnames : ∀ z ∈ scope.names, z.2 = .local → scope.names.lookup z.1 = some .local) (hx : scope.names.lookup x = some .local)
    (hy : env.kindOf y = some .local) (hp : (env.scope.kind == .class || (env.scope.kind == .module && env.locals != env.globals)) = false)
    (h : wpAny (model prog w) A (eval iter env) (fun xv s₁ => Hold (Mine.Ex4 fun d od c news => Mine.And11 (xv = .ref d) (A.handled = none) (Fr h₀ L s₁.heap m) (News h₀ L s₁.heap news) (c.length ≤ sizeLine) ((d == sysModules) = false) (KD prog w od c) (J 0 [] news) ((∀ i ys nw, J i ys nw → (d, od) ∈ nw)) (TurnD prog w A h₀ L m env ifs elt x scope cl s₁ c.length (fun i v => Mine.Ex3 fun k z t => c[i]? = some (k, z) ∧ v = .int k t) J) (∀ D h dr tk ys nw, Fr h₀ L h (fun z => if z = y then some (.ref D) else m z) → News h₀ L h ((D, lst ys) :: nw) → Off1 D nw → J c.length ys nw → Q .next { s₁ with heap := h, drawn := dr, toks := tk }))) E s)
    (hs : ∀ x, foldedSetIterable iter env x = pure x := by intro _; rfl) :
    wpAny (model prog w) A (exec (.Assign [.Name y py] (.ListComp elt [⟨.Name x px, iter, ifs, 0⟩] scope pos) spos) env) Q E s := by
  subst hLe
  rw [exec_Assign_Name_used _ _ _ _ hsw]
  refine wpAny_bind (wpAny_standAt (wpAny_bind ?_))
  show wpAny _ A (do let _ ← comprehension (.ListComp elt [⟨.Name x px, iter, ifs, 0⟩] scope pos) scope env _ (newList []) false (eval iter env) (some (assign (.Name y py) env))) _ _ s
  refine wpAny_bind (wpAny_mono (wpAny_comprehension_free (use := some (assign (.Name y py) env)) (Q := fun _ s' => Q .next s') rfl hs hclos hkind hnames
    (wpAny_mono h (fun xv s₁ h₁ => ?_) fun _ _ e => e)) (fun _ s' hq => wpAny_pure (wpAny_pure hq)) fun _ _ e => e)
  obtain ⟨d, od, c, news, rfl, hh, F, N, hsz, lo, ⟨kvs, hdo, hf⟩, hJ, hmem, turn, fin⟩ := h₁.h
  have hm := hmem 0 [] news hJ
  have offI : ∀ p ∈ news, p.1 ≠ s₁.heap.objs.size := fun p hp => Nat.ne_of_lt (Heap.lt_size (N p hp).1)
  have hlen : kvs.length = c.length := by
    have := hf.length
    unfold kdfD at this
    rw [List.length_map] at this
    exact this.symm
  have hdAt : ∀ h : Heap, h.get? d = some od → h.DictOf (PySem.intKind prog w) d kvs := fun h e => Heap.dictOf_iff.mpr ⟨od, e, hdo⟩
  obtain ⟨ep, hat⟩ := (hdAt _ (N _ hm).1).dictAt
  have hne : d ≠ s₁.heap.objs.size := Nat.ne_of_lt hat.lt_size
  have hep : ∀ h : Heap, h.get? d = some od → h.DictAt (PySem.intKind prog w) d kvs ep := fun h e => hat.at' fun o e' => by
    rw [(N _ hm).1] at e'
    cases e'
    exact e
  refine wpAny_pyIter_dict lo hat ?_
  have up : ∀ b o, s₁.heap.get? b = some o → (s₁.heap.push { cls := .type "dict_keyiterator", data := .fields #[.ref d, .int 0 0, .int kvs.length 0, .int ep 0] }).get? b = some o := fun b o e => Heap.get?_push_of_some _ e
  refine block_d (n := kvs.length) (P := fun i v => ∃ k x, kvs[i]? = some (k, x) ∧ (PySem.intKind prog w).is k v = true) (Walks.dictKeys (knd := PySem.intKind prog w) hh s₁.heap.objs.size d hne kvs ep) (by rw [hlen]; exact hsz) (fun i h st => by obtain ⟨o, e, _⟩ := st.1; exact ⟨o, e⟩)
      (fun i h h' o nw ys st e e' k N' hj => ⟨by obtain ⟨o', q, r⟩ := st.1; rw [e] at q; cases q; exact ⟨o, e', r⟩, hep h' (N' _ (hmem i ys nw hj)).1⟩) hcell hkind hx ⟨⟨_, Heap.get?_push_size _ rfl, rfl, rfl⟩, hat.push _⟩ (fun b hb => ?_)
      (F.keeps up) (N.grown up) (Nat.ne_of_lt F.ns.lt) (next_is_new F) offI hJ ?_ ?_
  · show b < (s₁.heap.push _).objs.size
    rw [Heap.size_push]
    rcases List.mem_cons.mp hb with rfl | hb
    · exact Nat.lt_succ_self _
    · rw [List.mem_singleton.mp hb]; exact Nat.lt_succ_of_lt hat.lt_size
  · intro i ys nw hi hj v I oI C oC D m₂ h dr tk E' hP
    refine turn i ys nw (by rw [← hlen]; exact hi) hj v I oI C oC D m₂ h dr tk E' ?_
    obtain ⟨k, z, hk, his⟩ := hP
    obtain ⟨dv, hD, hfl⟩ := hf.at hk
    obtain ⟨t, rfl⟩ := Value.isInt_shape his
    unfold kdfD at hD
    rw [List.getElem?_map] at hD
    cases hc : c[i]? with
    | none => rw [hc] at hD; cases hD
    | some p =>
      rw [hc] at hD
      simp only [Option.map_some] at hD
      injection hD with hD
      injection hD with h1 h2
      injection h1 with h1
      exact ⟨k, p.2, t, by rw [← h1], rfl⟩
  intro D C h' dr tk m' ys nw F' N' o1 hn hC₀ hD₀ hCL hDL hCD offC hj
  rw [hlen] at hj
  show wpAny _ A (assign (.Name y py) env (.ref D)) _ _ _
  refine wpAny_assign_Name (wpAny_storeName_local hy F'.ns (fun h₂ hn₂ hs₂ => ?_) hp)
  have hL₀ : h₀.get? env.locals = none := Heap.get?_none_of_le F'.above
  have F₂ : Fr h₀ env.locals h₂ (fun z => if z = y then some (.ref D) else m z) := ⟨hn₂, fun b o e => hs₂.extBut b o (fun q => by rw [q, hL₀] at e; cases e) (F'.keep b o e), F'.above⟩
  have up : ∀ {p : Addr × Obj} {h'' : Heap}, Heap.SameBut C h₂ h'' → p.1 ≠ C → (h'.get? p.1 = some p.2 ∧ p.1 ≠ env.locals ∧ h₀.get? p.1 = none) → (h''.get? p.1 = some p.2 ∧ p.1 ≠ env.locals ∧ h₀.get? p.1 = none) :=
    fun hs'' hne hp => ⟨hs''.extBut _ _ hne (hs₂.extBut _ _ hp.2.1 hp.1), hp.2⟩
  exact ⟨m', hn.sameBut hs₂ hCL, fun h'' hs'' => fin D h'' dr _ ys nw (F₂.change hs'' hCL hC₀) (List.forall_mem_cons.mpr ⟨up hs'' (Ne.symm hCD) (N' _ (.head _)), fun p hp => up hs'' (offC p hp) (N' p (.tail _ hp))⟩) o1 hj⟩
end
end Mine
namespace Mine
def RowsAre (bf : Int → Int) (nw : List (Addr × Obj)) (ys : List Value) (ks : List Int) : Prop := ys.length = ks.length ∧ ∀ (i : Nat) (k : Int), ks[i]? = some k → Mine.Ex3 fun T t u => ys[i]? = some (Value.ref T) ∧ (T, rowO k (bf k) t u) ∈ nw
theorem rows_nil {bf : Int → Int} {nw : List (Addr × Obj)} : RowsAre bf nw [] [] := ⟨rfl, fun _ _ h => nomatch h⟩
theorem rows_mono {bf : Int → Int} {nw nw' : List (Addr × Obj)} {ys : List Value} {ks : List Int} (h : RowsAre bf nw ys ks) (hs : ∀ p ∈ nw, p ∈ nw') : RowsAre bf nw' ys ks :=
  ⟨h.1, fun i k e => let ⟨T, t, u, a, b⟩ := h.2 i k e; ⟨T, t, u, a, hs _ b⟩⟩
theorem rows_snoc {bf : Int → Int} {nw : List (Addr × Obj)} {ys : List Value} {ks : List Int} {T : Addr} {k : Int} {t u : Tok} {b : Int} (h : RowsAre bf nw ys ks) (hb : b = bf k) : RowsAre bf ((T, rowO k b t u) :: nw) (ys ++ [Value.ref T]) (ks ++ [k]) := by
  subst hb
  refine ⟨by rw [List.length_append, List.length_append, h.1]; rfl, fun i k' e => ?_⟩
  by_cases hi : i < ks.length
  · rw [List.getElem?_append_left hi] at e
    obtain ⟨T', t', u', a, b⟩ := h.2 i k' e
    exact ⟨T', t', u', by rw [List.getElem?_append_left (by rw [h.1]; exact hi)]; exact a, .tail _ b⟩
  · rw [List.getElem?_append_right (Nat.le_of_not_lt hi)] at e
    cases hj : i - ks.length with
    | zero =>
      rw [hj] at e
      simp only [List.getElem?_cons_zero, Option.some.injEq] at e
      subst e
      exact ⟨T, t, u, by rw [List.getElem?_append_right (by rw [h.1]; exact Nat.le_of_not_lt hi), h.1, hj]; rfl, .head _⟩
    | succ j =>
      rw [hj] at e
      exact nomatch e
def keys3 (l : List (Int × Int)) : List Int := (l.map (·.1)).filter (fun k => decide (k < 3))
theorem keys3_lt {c : List (Int × Int)} {i : Nat} {k z : Int} (h : c[i]? = some (k, z)) (hk : k < 3) : keys3 (c.take (i + 1)) = keys3 (c.take i) ++ [k] := by
  unfold keys3
  rw [List.take_add_one, h]
  simp [hk]
theorem keys3_ge {c : List (Int × Int)} {i : Nat} {k z : Int} (h : c[i]? = some (k, z)) (hk : ¬ k < 3) : keys3 (c.take (i + 1)) = keys3 (c.take i) := by
  unfold keys3
  rw [List.take_add_one, h]
  simp [hk]
theorem figs_cases {ds : List Value} {k : Nat} {b0 b1 b2 : Int} (h : IntsAre ds ([b0, b1, b2].take k)) (h1 : 1 ≤ k) (h2 : k ≤ 2 → b2 = 0) (h3 : k ≤ 1 → b1 = 0) :
    (∃ t0, ds = [.int b0 t0] ∧ b1 = 0 ∧ b2 = 0) ∨ (Mine.Ex2 fun t0 t1 => ds = [.int b0 t0, .int b1 t1] ∧ b2 = 0) ∨ Mine.Ex3 fun t0 t1 t2 => ds = [.int b0 t0, .int b1 t1, .int b2 t2] := by
  cases k with
  | zero => exact absurd h1 (by decide)
  | succ k =>
    obtain ⟨t0, _, rfl, g0⟩ := ints_cons (h : IntsAre ds (b0 :: List.take k [b1, b2]))
    cases k with
    | zero =>
      obtain rfl := ints_nil g0
      exact .inl ⟨t0, rfl, h3 (by decide), h2 (by decide)⟩
    | succ k =>
      obtain ⟨t1, _, rfl, g1⟩ := ints_cons (g0 : IntsAre _ (b1 :: List.take k [b2]))
      cases k with
      | zero =>
        obtain rfl := ints_nil g1
        exact .inr (.inl ⟨t0, t1, rfl, h2 (by decide)⟩)
      | succ k =>
        obtain ⟨t2, _, rfl, g2⟩ := ints_cons (g1 : IntsAre _ (b2 :: List.take k []))
        rw [List.take_nil] at g2
        obtain rfl := ints_nil g2
        exact .inr (.inr ⟨t0, t1, t2, rfl⟩)
def b3 (b0 b1 b2 : Int) (k : Int) : Int := if k = 0 then b0 else if k = 1 then b1 else b2
/-- a row's turn at its end -/
theorem row_end {g h' : Heap} {L I C D T : Addr} {oI oC : Obj} {m : Str → Option Value} {s₁ : Shared} {ys : List Value} {e1 e2 e3 e4 e5 e6 e7 e8 e9 : Addr × Obj} {tl led : List (Addr × Obj)} {dr : Drawn} {tk : Nat} {k b z : Int} {t u : Tok} {bf : Int → Int} {c : List (Int × Int)} {i : Nat}
    (F : Fr g L h' m) (N : News g L h' ((T, rowO k b t u) :: (I, oI) :: (C, oC) :: (D, LCg.lst ys) :: e1 :: e2 :: e3 :: e4 :: e5 :: e6 :: e7 :: e8 :: e9 :: tl)) (off : LCg.Off3 I C D (e1 :: e2 :: e3 :: e4 :: e5 :: e6 :: e7 :: e8 :: e9 :: tl)) {tl' : List (Addr × Obj)} (l : ∀ p ∈ (I, oI) :: (C, oC) :: (D, LCg.lst ys) :: tl', p.1 < T)
    (htl : ∀ p ∈ led, p ∈ tl) (hr : RowsAre bf tl ys (keys3 (c.take i))) (hc : c[i]? = some (k, z)) (hk : k < 3) (hb : b = bf k) :
    EndD g L m s₁ I oI C oC D (LCg.lst ys) (fun y nw' => ∃ tl, nw' = e1 :: e2 :: e3 :: e4 :: e5 :: e6 :: e7 :: e8 :: e9 :: tl ∧ (∀ p ∈ led, p ∈ tl) ∧ RowsAre bf tl (ys ++ [y]) (keys3 (c.take (i + 1)))) (.ref T) { s₁ with heap := h', drawn := dr, toks := tk } := by
  have o3 := off.mem
  refine end_d (nw := e1 :: e2 :: e3 :: e4 :: e5 :: e6 :: e7 :: e8 :: e9 :: (T, rowO k b t u) :: tl) F (news_sub N fun p hp => ?_) (LCg.Off3.of fun p hp => ?_) ⟨_, rfl, fun p hp => .tail _ (htl p hp), ?_⟩
  · ((revert hp; revert p; (repeat (first | exact Mine.sub_nil | (refine Mine.sub_cons ?_ ?_; focus (first | exact Mine.m0 | exact Mine.m1 | exact Mine.m2 | exact Mine.m3 | exact Mine.m4 | exact Mine.m5 | exact Mine.m6 | exact Mine.mAt 7 rfl | exact Mine.mAt 8 rfl | exact Mine.mAt 9 rfl | exact Mine.mAt 10 rfl | exact Mine.mAt 11 rfl | exact Mine.mAt 12 rfl | exact Mine.mAt 13 rfl | exact Mine.mAt 14 rfl | exact Mine.mAt 15 rfl | exact Mine.mAt 16 rfl | exact Mine.mAt 17 rfl | exact Mine.mAt 18 rfl | exact Mine.mAt 19 rfl | exact Mine.mAt 20 rfl | exact Mine.mAt 21 rfl | exact Mine.mAt 22 rfl | exact Mine.mAt 23 rfl | (repeat (first | exact List.Mem.head _ | apply List.mem_cons_of_mem | apply List.mem_append_right)))) | (refine Mine.sub_app ?_ ?_) | (intro p9 hp9; (repeat (first | exact hp9 | exact List.mem_append_left _ hp9 | apply List.mem_cons_of_mem | apply List.mem_append_right)))))))
  · by_cases hT : p = (T, rowO k b t u)
    · subst hT
      exact ⟨Nat.ne_of_gt (l _ (.head _)), Nat.ne_of_gt (l _ (.tail _ (.head _))), Nat.ne_of_gt (l _ (.tail _ (.tail _ (.head _))))⟩
    · refine o3 p ?_
      simp only [List.mem_cons, hT, false_or] at hp ⊢
      exact hp
  · rw [keys3_lt hc hk]
    exact rows_snoc hr hb
def best3 (bf : Int → Int) (way k0 : Int) (ks : List Int) : Int := ks.foldl (fun b k => if cmpI k (bf k) b (bf b) way < 0 then k else b) k0
theorem best3_succ {bf : Int → Int} {way k0 k : Int} {ks : List Int} {i : Nat} (h : ks[i]? = some k) : best3 bf way k0 (ks.take (i + 1)) = if cmpI k (bf k) (best3 bf way k0 (ks.take i)) (bf (best3 bf way k0 (ks.take i))) way < 0 then k else best3 bf way k0 (ks.take i) := by
  unfold best3
  rw [List.take_add_one, h, Option.toList_some, List.foldl_append]
  rfl
theorem cmpI_self (p n way : Int) : cmpI p n p n way = 0 := by unfold cmpI; simp
theorem cmp_news {g h : Heap} {L : Addr} {r i b z x d S A2 A1 : Addr × Obj} {rest : List (Addr × Obj)} (N : News g L h (r :: i :: b :: z :: x :: d :: S :: A2 :: A1 :: rest)) : News g L h (x :: d :: S :: A1 :: A2 :: r :: b :: r :: i :: b :: z :: x :: d :: S :: A2 :: A1 :: rest) :=
  news_sub N fun p hp => by
    ((revert hp; revert p; (repeat (first | exact Mine.sub_nil | (refine Mine.sub_cons ?_ ?_; focus (first | exact Mine.m0 | exact Mine.m1 | exact Mine.m2 | exact Mine.m3 | exact Mine.m4 | exact Mine.m5 | exact Mine.m6 | exact Mine.mAt 7 rfl | exact Mine.mAt 8 rfl | exact Mine.mAt 9 rfl | exact Mine.mAt 10 rfl | exact Mine.mAt 11 rfl | exact Mine.mAt 12 rfl | exact Mine.mAt 13 rfl | exact Mine.mAt 14 rfl | exact Mine.mAt 15 rfl | exact Mine.mAt 16 rfl | exact Mine.mAt 17 rfl | exact Mine.mAt 18 rfl | exact Mine.mAt 19 rfl | exact Mine.mAt 20 rfl | exact Mine.mAt 21 rfl | exact Mine.mAt 22 rfl | exact Mine.mAt 23 rfl | (repeat (first | exact List.Mem.head _ | apply List.mem_cons_of_mem | apply List.mem_append_right)))) | (refine Mine.sub_app ?_ ?_) | (intro p9 hp9; (repeat (first | exact hp9 | exact List.mem_append_left _ hp9 | apply List.mem_cons_of_mem | apply List.mem_append_right)))))))
theorem cmp_news2 {g h : Heap} {L : Addr} {b z x d S A2 A1 : Addr × Obj} {rest : List (Addr × Obj)} (N : News g L h (b :: z :: x :: d :: S :: A2 :: A1 :: rest)) : News g L h (x :: d :: S :: A1 :: A2 :: b :: b :: b :: z :: x :: d :: S :: A2 :: A1 :: rest) :=
  news_sub N fun p hp => by
    ((revert hp; revert p; (repeat (first | exact Mine.sub_nil | (refine Mine.sub_cons ?_ ?_; focus (first | exact Mine.m0 | exact Mine.m1 | exact Mine.m2 | exact Mine.m3 | exact Mine.m4 | exact Mine.m5 | exact Mine.m6 | exact Mine.mAt 7 rfl | exact Mine.mAt 8 rfl | exact Mine.mAt 9 rfl | exact Mine.mAt 10 rfl | exact Mine.mAt 11 rfl | exact Mine.mAt 12 rfl | exact Mine.mAt 13 rfl | exact Mine.mAt 14 rfl | exact Mine.mAt 15 rfl | exact Mine.mAt 16 rfl | exact Mine.mAt 17 rfl | exact Mine.mAt 18 rfl | exact Mine.mAt 19 rfl | exact Mine.mAt 20 rfl | exact Mine.mAt 21 rfl | exact Mine.mAt 22 rfl | exact Mine.mAt 23 rfl | (repeat (first | exact List.Mem.head _ | apply List.mem_cons_of_mem | apply List.mem_append_right)))) | (refine Mine.sub_app ?_ ?_) | (intro p9 hp9; (repeat (first | exact hp9 | exact List.mem_append_left _ hp9 | apply List.mem_cons_of_mem | apply List.mem_append_right)))))))
theorem drop7 {g h : Heap} {L : Addr} {a b c d e f i : Addr × Obj} {led : List (Addr × Obj)} (N : News g L h (a :: b :: c :: d :: e :: f :: i :: led)) : News g L h led := fun p hp => N p (.tail _ (.tail _ (.tail _ (.tail _ (.tail _ (.tail _ (.tail _ hp)))))))
end Mine
set_option hygiene false in
local macro_rules | `(tactic| walk_at $s) => if ("|exec For Name Name cons nil|eval ListComp|exec Assign cons ListComp|compareOp NotEq ref ref|".splitOn ("|" ++ s.getString ++ "|")).length = 2 then `(tactic| (with_reducible refine Mine.Hold.h ?_)) else Lean.Macro.throwUnsupported
set_option hygiene false in
local macro_rules | `(tactic| walk_at "call ref") => `(tactic| (k_here; (fail_if_success (with_reducible show wpAny _ _ (call (Value.ref 55) _) _ _ _)); (with_reducible refine Mine.Hold.h ?_)))
namespace Mine
def FigP (s : Shared) (g : Heap) (L' : Addr) (m' : Str → Option Value) (x : Obj) (c1 : Addr) (b0 b1 b2 : Int) (led : List (Addr × Obj)) (s' : Shared) : Prop :=
  Mine.Ex10 fun h' dr tk r ds nn ca oa of' k => Mine.And10 (s' = { s with heap := h', drawn := dr, toks := tk }) (Fr g L' h' m') (News g L' h' ((r, listOf ds.toArray nn) :: (104, tab104 ca) :: (ca, oa) :: (L' + 1 + 1 + 1 + 1, of') :: led)) (of'.data = .cell (some (.ref r))) (IntsAre ds ([b0, b1, b2].take k)) (1 ≤ k) ((k ≤ 2 → b2 = 0)) ((k ≤ 1 → b1 = 0)) (CF oa q104) (((∀ p ∈ (104, x) :: led, p.1 < ca) ∨ ca = c1))
theorem hold_fig {s : Shared} {g h₁ : Heap} {L' : Addr} {m' : Str → Option Value} {x of of' oa : Obj} {c1 r ca : Addr} {b0 b1 b2 : Int} {z1 z2 z3 e1 e2 e3 e4 e5 : Addr × Obj} {led : List (Addr × Obj)} {ds : List Value} {nn : Nat} {dr : Drawn} {tk : Nat} (k : Nat) (F : Fr g L' h₁ m')
    (N : News g L' h₁ (z1 :: z2 :: z3 :: (r, listOf ds.toArray nn) :: (104, tab104 ca) :: (ca, oa) :: e1 :: e2 :: e3 :: (L' + 1 + 1 + 1 + 1, of') :: e4 :: e5 :: led)) (hof : of'.data = .cell (some (.ref r))) (hds : IntsAre ds ([b0, b1, b2].take k)) (h1 : 1 ≤ k) (h2 : k ≤ 2 → b2 = 0) (h3 : k ≤ 1 → b1 = 0)
    (hCF : CF oa q104) (hsep : (∀ p ∈ (104, x) :: e1 :: e2 :: e3 :: (L' + 1 + 1 + 1 + 1, of) :: e4 :: e5 :: led, p.1 < ca) ∨ ca = c1) :
    Hold (Flow.next = Flow.next ∧ FigP s g L' m' x c1 b0 b1 b2 (e1 :: e2 :: e3 :: e4 :: e5 :: led) { s with heap := h₁, drawn := dr, toks := tk }) := by
  refine ⟨rfl, h₁, dr, tk, r, ds, nn, ca, oa, of', k, rfl, F, news_sub N fun p hp => ?_, hof, hds, h1, h2, h3, hCF, hsep.imp (fun h p hp => h p ?_) id⟩
  · ((revert hp; revert p; (repeat (first | exact Mine.sub_nil | (refine Mine.sub_cons ?_ ?_; focus (first | exact Mine.m0 | exact Mine.m1 | exact Mine.m2 | exact Mine.m3 | exact Mine.m4 | exact Mine.m5 | exact Mine.m6 | exact Mine.mAt 7 rfl | exact Mine.mAt 8 rfl | exact Mine.mAt 9 rfl | exact Mine.mAt 10 rfl | exact Mine.mAt 11 rfl | exact Mine.mAt 12 rfl | exact Mine.mAt 13 rfl | exact Mine.mAt 14 rfl | exact Mine.mAt 15 rfl | exact Mine.mAt 16 rfl | exact Mine.mAt 17 rfl | exact Mine.mAt 18 rfl | exact Mine.mAt 19 rfl | exact Mine.mAt 20 rfl | exact Mine.mAt 21 rfl | exact Mine.mAt 22 rfl | exact Mine.mAt 23 rfl | (repeat (first | exact List.Mem.head _ | apply List.mem_cons_of_mem | apply List.mem_append_right)))) | (refine Mine.sub_app ?_ ?_) | (intro p9 hp9; (repeat (first | exact hp9 | exact List.mem_append_left _ hp9 | apply List.mem_cons_of_mem | apply List.mem_append_right)))))))
  · ((revert hp; revert p; (repeat (first | exact Mine.sub_nil | (refine Mine.sub_cons ?_ ?_; focus (first | exact Mine.m0 | exact Mine.m1 | exact Mine.m2 | exact Mine.m3 | exact Mine.m4 | exact Mine.m5 | exact Mine.m6 | exact Mine.mAt 7 rfl | exact Mine.mAt 8 rfl | exact Mine.mAt 9 rfl | exact Mine.mAt 10 rfl | exact Mine.mAt 11 rfl | exact Mine.mAt 12 rfl | exact Mine.mAt 13 rfl | exact Mine.mAt 14 rfl | exact Mine.mAt 15 rfl | exact Mine.mAt 16 rfl | exact Mine.mAt 17 rfl | exact Mine.mAt 18 rfl | exact Mine.mAt 19 rfl | exact Mine.mAt 20 rfl | exact Mine.mAt 21 rfl | exact Mine.mAt 22 rfl | exact Mine.mAt 23 rfl | (repeat (first | exact List.Mem.head _ | apply List.mem_cons_of_mem | apply List.mem_append_right)))) | (refine Mine.sub_app ?_ ?_) | (intro p9 hp9; (repeat (first | exact hp9 | exact List.mem_append_left _ hp9 | apply List.mem_cons_of_mem | apply List.mem_append_right)))))))
theorem cut_mid {M : Model} {A : Around} {E : Value → Shared → Prop} {s : Shared} {env : Env} {Q : Flow → Shared → Prop} (n : Nat) {l : List Stmt} (P : Shared → Prop)
    (h1 : wpAny M A (execs (l.take n) env) (fun f s' => Hold (f = .next ∧ P s')) E s) (h2 : ∀ s', P s' → wpAny M A (execs (l.drop n) env) Q E s') : wpAny M A (execs l env) Q E s :=
  cut_execs n (wpAny_mono h1 (by
    rintro f s' ⟨rfl, hp⟩
    exact ⟨h2 s' hp⟩) fun _ _ e => e)
theorem fn_eq {K : Frag} {f : Addr} {o o' : Obj} {P : Prop} (h : K.lookup f = some o) (h2 : K.lookup f = some o') (k : o = o' → P) : P := k (Option.some.inj (h.symm.trans h2))
theorem vt_facts {L' C D Ae c1 : Addr} {x o1 of oc ow o oa : Obj} {led : List (Addr × Obj)} (l1 : @LT.lt Nat _ (L' + 4) D) (l2 : @LT.lt Nat _ D Ae) (l3 : @Ne Nat C 104 ∧ @Ne Nat C (L' + 4) ∧ @Ne Nat C (L' + 3) ∧ @Ne Nat C (L' + 2) ∧ @Ne Nat C D ∧ @Ne Nat C Ae) (l4 : @LT.lt Nat _ 104 L') (l5 : @LT.lt Nat _ c1 L') (l6 : ∀ p ∈ led, p.1 < L') :
    And4 (∀ p ∈ ((104, x) : Addr × Obj) :: (c1, o1) :: led, p.1 < L') (∀ p ∈ (L' + 1 + 1 + 1 + 1, of) :: (L' + 1 + 1 + 1, oc) :: (L' + 1 + 1, ow) :: (104, x) :: (c1, o1) :: led, p.1 < D)
      (∀ p ∈ (D, o) :: (L' + 1 + 1 + 1 + 1, of) :: (L' + 1 + 1 + 1, oc) :: (L' + 1 + 1, ow) :: (104, x) :: (c1, o1) :: led, p.1 < Ae)
      (LCg.Off1 C ((104, x) :: (D, o) :: (Ae, oa) :: (L' + 1 + 1 + 1 + 1, of) :: (L' + 1 + 1 + 1, oc) :: (L' + 1 + 1, ow) :: [])) := by
  have a1 : @LT.lt Nat _ L' D := Nat.lt_of_le_of_lt (Nat.le_add_right L' 4) l1
  have r1 : ∀ p ∈ ((104, x) : Addr × Obj) :: (c1, o1) :: led, p.1 < L' := List.forall_mem_cons.mpr ⟨l4, List.forall_mem_cons.mpr ⟨l5, l6⟩⟩
  have r2 : ∀ p ∈ (L' + 1 + 1 + 1 + 1, of) :: (L' + 1 + 1 + 1, oc) :: (L' + 1 + 1, ow) :: (104, x) :: (c1, o1) :: led, p.1 < D :=
    List.forall_mem_cons.mpr ⟨l1, List.forall_mem_cons.mpr ⟨Nat.lt_of_succ_lt l1, List.forall_mem_cons.mpr ⟨Nat.lt_of_succ_lt (Nat.lt_of_succ_lt l1), fun p hp => Nat.lt_trans (r1 p hp) a1⟩⟩⟩
  exact ⟨r1, r2, List.forall_mem_cons.mpr ⟨l2, fun p hp => Nat.lt_trans (r2 p hp) l2⟩, ⟨Ne.symm l3.1, Ne.symm l3.2.2.2.2.1, Ne.symm l3.2.2.2.2.2, Ne.symm l3.2.1, Ne.symm l3.2.2.1, Ne.symm l3.2.2.2.1, trivial⟩⟩
set_option maxHeartbeats 8000000 in
theorem view_tail {prog : Program} {w : World} {width S2 b0 b1 b2 : Int} {x o1 of oc ow o : Obj} {c1 Ae D : Addr} {S1 S3 S4 : Int} {u1 u2 u3 u4 t5 t6 t7 : Tok} {way : Int} {c : List (Int × Int)} {ys0 : List Value} {led : List (Addr × Obj)}
    {p : Program} {loose : List Str} {mean : ExcName → Option Value} {mg mb : Str → Option Value} {dp un : Nat} {gd : Option (List Code)} {cn : Str} {cs : Scope} {a : Addr} {ccd : Value} {cl : List (Str × Addr)} {outer : List Env} {base g : Heap} {L L' C : Addr} {m' : Str → Option Value} {s : Shared} {Q : Flow → Shared → Prop} {E : Value → Shared → Prop}
    {oc' dV kV doc pm cdv ct : Value} {od an : Option Addr} {name qual : Str} {params : Arguments} {body : List Stmt} {scope : Scope} {osl : Array (Option Value)}
    (hfn : (hdA.heap_39 w.params).lookup 210 = some ⟨oc', od, .func (fnOf name qual params body scope dV kV doc pm an cdv ct), osl⟩)
    (h5 : 3 ≤ width) (h6 : width ≤ 6) (hTK : TK p104 q104 x c1 o1) (hc1 : (@Ne Nat c1 104)) (h104 : ∀ p ∈ led, p.1 ≠ 104) (hS0 : S2 ≠ 0) (f7 : DigF width S2 b0 b1 b2) (hK : KD prog w o c) (f8 : (c.map (·.2)).foldl (fun a b => a + b) 0 = 5 + S2)
    (hks : ∀ p ∈ c, p.1 = 3 ∨ p.1 = 0 ∨ (p.1 = 1 ∧ b1 ≠ 0) ∨ (p.1 = 2 ∧ b2 ≠ 0)) (hcl : c.length ≤ 10) {k0 : Int} {kr : List Int} (hk0 : keys3 c = k0 :: kr)
    (hys : IntsAre ys0 [b0, b1, b2]) {vf : Option Value} (df : of.data = .cell vf) (dc : oc.data = .cell (some (.ref C))) (dw : ow.data = .cell (some (.int width t5)))
    (l1 : @LT.lt Nat _ (L' + 4) D) (l2 : @LT.lt Nat _ D Ae) (l3 : @Ne Nat C 104 ∧ @Ne Nat C (L' + 4) ∧ @Ne Nat C (L' + 3) ∧ @Ne Nat C (L' + 2) ∧ @Ne Nat C D ∧ @Ne Nat C Ae) (l4 : @LT.lt Nat _ 104 L') (l5 : @LT.lt Nat _ c1 L') (l6 : ∀ p ∈ led, p.1 < L')
    (he : m' (Str.ofString "entry") = some (.ref Ae)) (hw : m' (Str.ofString "way") = some (.int way t6)) (ht : m' (Str.ofString "total") = some (.int S2 t7))
    (B : Below (ktrTop dp un gd cn cs L a ccd cl outer) base (envX cn cs L a ccd cl :: outer) g) (X : (hdA.heap_39 w.params).In g) (T : Top p loose mean mg mb g) (hd : dp + 20 < recursionLimit) (hu : un + 8 * 20 < cLine)
    (hE : PassesOwn (model prog w) ((ktrTop dp un gd cn cs L a ccd cl outer).deeper (envOfC qual scope L' 210 cdv)) (envOfC qual scope L' 210 cdv) E)
    (hret : ∀ kb T e0 e1 ca oa h' dr tk m'', kb = best3 (b3 b0 b1 b2) way k0 (keys3 c) → Fr g L' h' m'' → News g L' h' ((T, rowO kb (b3 b0 b1 b2 kb) e0 e1) :: (104, tab104 ca) :: (ca, oa) :: led) → CF oa q104 → ((∀ p ∈ (104, x) :: led, p.1 < ca) ∨ ca = c1) → Q (.ret (.ref T)) { s with heap := h', drawn := dr, toks := tk })
    (F : Fr g L' s.heap m') (N : News g L' s.heap ((104, x) :: (c1, o1) :: (Ae, statO S1 S2 S3 S4 u1 u2 u3 u4 D) :: (D, o) :: (C, LCg.lst ys0) :: (L' + 1 + 1 + 1 + 1, of) :: (L' + 1 + 1 + 1, oc) :: (L' + 1 + 1, ow) :: led)) :
    wpAny (model prog w) ((ktrTop dp un gd cn cs L a ccd cl outer).deeper (envOfC qual scope L' 210 cdv)) (execs (body.drop 8) (envOfC qual scope L' 210 cdv)) Q E s := by
  refine' fn_eq hfn ?h2 ?k2
  case h2 => k_dflt k_is
  intro e0
  injection e0 with e1 e2 e3 e4
  injection e3 with e3
  injection e3
  subst_vars
  (rename FuncBody.stmts _ = FuncBody.stmts _ => eb)
  injection eb with eb
  subst eb
  clear hfn
  obtain ⟨r1, r2, r3, r4⟩ := vt_facts (x := x) (o1 := o1) (of := of) (oc := oc) (ow := ow) (o := o) (oa := statO S1 S2 S3 S4 u1 u2 u3 u4 D) l1 l2 l3 l4 l5 l6
  dsimp only [List.drop]
  refine cut_mid 2 (FigP s g L' m' x c1 b0 b1 b2 ((Ae, statO S1 S2 S3 S4 u1 u2 u3 u4 D) :: (D, o) :: (C, LCg.lst ys0) :: (L' + 1 + 1 + 1, oc) :: (L' + 1 + 1, ow) :: led)) ?_ ?_
  · --BLK fig
    dsimp only [List.take]
    have hO : Old L' led := old_of l6
    clear l1 l2 l3 l4 l5
    have off104 : ∀ p ∈ (ledOf N).drop 2, p.1 ≠ 104 := by
      dsimp only [ledOf, List.drop]
      refine List.forall_mem_cons.mpr ⟨by k_ne, List.forall_mem_cons.mpr ⟨by k_ne, List.forall_mem_cons.mpr ⟨by k_ne, List.forall_mem_cons.mpr ⟨by k_ne, List.forall_mem_cons.mpr ⟨by k_ne, List.forall_mem_cons.mpr ⟨by k_ne, h104⟩⟩⟩⟩⟩⟩
    dsimp only [ledOf, List.drop] at off104
    (repeat' (first | ((fail_if_success (fail_if_success k_unfold)); (first | refine (let s9 := _; (?_ : wpAny _ _ _ _ _ s9)) | k_unfold)) | (k_end; wrow_close) | ((fail_if_success (fail_if_success k_fold)); (refine (let q9 := _; (?_ : wpAny _ _ _ q9 _ _))); walk1) | walk1 | (dsimp only [List.nil_append, List.cons_append]; walk1) | (leave1; walk_say "STEP leave1"; try dsimp only) | fail "no step"))
    refine Hold.mk ?_
    rcases f7 with ⟨z2, z1, hS, hdg⟩ | ⟨z2, z1, hdg, g1, g2, g3⟩ | ⟨z2, hdg, v1, v2, g1, g2, g3, g4, g5, g6⟩
    · refine' CtrT.use (i2d1_walk h5 h6 hdg hS0 hTK hc1 off104) ?zB F ?zX N ?zT ?zk ?zd ?zu ?_
      case zB => k_asm
      case zX => k_asm
      case zT => k_asm
      case zk => exact rfl
      case zd => ktr_room
      case zu => ktr_units
      intro r nn ca oa tkz hCFa hr4 hro hsepa hrc h' dr F' N' htz
      try dsimp only
      clear F N off104
      (repeat' (first | ((fail_if_success (fail_if_success k_unfold)); (first | refine (let s9 := _; (?_ : wpAny _ _ _ _ _ s9)) | k_unfold)) | (k_end; wrow_close) | ((fail_if_success (fail_if_success k_fold)); (refine (let q9 := _; (?_ : wpAny _ _ _ q9 _ _))); walk1) | walk1 | (dsimp only [List.nil_append, List.cons_append]; walk1) | (leave1; walk_say "STEP leave1"; try dsimp only) | fail "no step"))
      refine Hold.mk ?_
      rename Fr _ _ _ _ => F9
      rename News _ _ _ _ => N9
      have hC9 : (C, LCg.lst ys0) ∈ ledOf N9 := by (first | (k_dflt k_mem) | (repeat (first | exact List.Mem.head _ | apply List.mem_cons_of_mem)))
      refine ke_ne_ints (ints_at N9 (.head _)) (lst_at N9 hC9) (.cons _ _ (.cons _ _ (.cons _ _ .nil))) hys (by ke_room) ?_
      have eL : ([S2, 0, 0] : List Int) = [b0, b1, b2] := by rw [z1, z2, hS]
      rw [decide_eq_true eL]
      (repeat' (first | ((fail_if_success (fail_if_success k_unfold)); (first | refine (let s9 := _; (?_ : wpAny _ _ _ _ _ s9)) | k_unfold)) | (k_end; wrow_close) | ((fail_if_success (fail_if_success k_fold)); (refine (let q9 := _; (?_ : wpAny _ _ _ q9 _ _))); walk1) | walk1 | (dsimp only [List.nil_append, List.cons_append]; walk1) | (leave1; walk_say "STEP leave1"; try dsimp only) | fail "no step"))
      refine Hold.mk ?_
      have hD9 : (D, o) ∈ ledOf N9 := by (first | (k_dflt k_mem) | (repeat (first | exact List.Mem.head _ | apply List.mem_cons_of_mem)))
      refine' Ctr.use (ccl_ctr hD9 hK (not_mods (by omega))) ?zB F9 ?zX N9 ?zT ?zk ?zd ?zu ?_
      case zB => k_asm
      case zX => k_asm
      case zT => k_asm
      case zk => exact rfl
      case zd => ktr_room
      case zu => ktr_units
      rw [f8]
      intro t9 h' dr' tk' F' N'
      dsimp only [ledOf] at N'
      try dsimp only
      (repeat' (first | ((fail_if_success (fail_if_success k_unfold)); (first | refine (let s9 := _; (?_ : wpAny _ _ _ _ _ s9)) | k_unfold)) | (k_end; wrow_close) | ((fail_if_success (fail_if_success k_fold)); (refine (let q9 := _; (?_ : wpAny _ _ _ q9 _ _))); walk1) | walk1 | (dsimp only [List.nil_append, List.cons_append]; walk1) | (leave1; walk_say "STEP leave1"; try dsimp only) | fail "no step"))
      · exfalso
        omega
      rename Fr _ _ _ _ => F9
      rename News _ _ _ _ => N9
      exact hold_fig (ds := [.int S2 u2]) 1 F9 N9 (by assumption) (by rw [hS]; exact .cons _ _ .nil) (by decide) (fun _ => z2) (fun _ => z1) hCFa hsepa
    · refine' CtrT.use (i2d2_walk h5 h6 hdg hS0 g1 g2 g3 hTK hc1 off104) ?zB F ?zX N ?zT ?zk ?zd ?zu ?_
      case zB => k_asm
      case zX => k_asm
      case zT => k_asm
      case zk => exact rfl
      case zd => ktr_room
      case zu => ktr_units
      intro r nn a0 a1 ca oa tkz hz hy hCFa hr4 hro hsepa hrc h' dr F' N' htz
      try dsimp only
      clear F N off104
      (repeat' (first | ((fail_if_success (fail_if_success k_unfold)); (first | refine (let s9 := _; (?_ : wpAny _ _ _ _ _ s9)) | k_unfold)) | (k_end; wrow_close) | ((fail_if_success (fail_if_success k_fold)); (refine (let q9 := _; (?_ : wpAny _ _ _ q9 _ _))); walk1) | walk1 | (dsimp only [List.nil_append, List.cons_append]; walk1) | (leave1; walk_say "STEP leave1"; try dsimp only) | fail "no step"))
      refine Hold.mk ?_
      rename Fr _ _ _ _ => F9
      rename News _ _ _ _ => N9
      have hC9 : (C, LCg.lst ys0) ∈ ledOf N9 := by (first | (k_dflt k_mem) | (repeat (first | exact List.Mem.head _ | apply List.mem_cons_of_mem)))
      refine ke_ne_ints (ints_at N9 (.head _)) (lst_at N9 hC9) (.cons _ _ (.cons _ _ (.cons _ _ .nil))) hys (by ke_room) ?_
      have eL : ([b0, b1, 0] : List Int) = [b0, b1, b2] := by rw [z2]
      rw [decide_eq_true eL]
      (repeat' (first | ((fail_if_success (fail_if_success k_unfold)); (first | refine (let s9 := _; (?_ : wpAny _ _ _ _ _ s9)) | k_unfold)) | (k_end; wrow_close) | ((fail_if_success (fail_if_success k_fold)); (refine (let q9 := _; (?_ : wpAny _ _ _ q9 _ _))); walk1) | walk1 | (dsimp only [List.nil_append, List.cons_append]; walk1) | (leave1; walk_say "STEP leave1"; try dsimp only) | fail "no step"))
      refine Hold.mk ?_
      have hD9 : (D, o) ∈ ledOf N9 := by (first | (k_dflt k_mem) | (repeat (first | exact List.Mem.head _ | apply List.mem_cons_of_mem)))
      refine' Ctr.use (ccl_ctr hD9 hK (not_mods (by omega))) ?zB F9 ?zX N9 ?zT ?zk ?zd ?zu ?_
      case zB => k_asm
      case zX => k_asm
      case zT => k_asm
      case zk => exact rfl
      case zd => ktr_room
      case zu => ktr_units
      rw [f8]
      intro t9 h' dr' tk' F' N'
      dsimp only [ledOf] at N'
      try dsimp only
      (repeat' (first | ((fail_if_success (fail_if_success k_unfold)); (first | refine (let s9 := _; (?_ : wpAny _ _ _ _ _ s9)) | k_unfold)) | (k_end; wrow_close) | ((fail_if_success (fail_if_success k_fold)); (refine (let q9 := _; (?_ : wpAny _ _ _ q9 _ _))); walk1) | walk1 | (dsimp only [List.nil_append, List.cons_append]; walk1) | (leave1; walk_say "STEP leave1"; try dsimp only) | fail "no step"))
      · exfalso
        omega
      rename Fr _ _ _ _ => F9
      rename News _ _ _ _ => N9
      exact hold_fig (ds := [.int b0 a0, .int b1 a1]) 2 F9 N9 (by assumption) (.cons _ _ (.cons _ _ .nil)) (by decide) (fun _ => z2) (fun h => absurd h (by decide)) hCFa hsepa
    · refine' CtrT.use (i2d3_walk h5 h6 hdg hS0 g1 g2 g3 g4 g5 g6 hTK hc1 off104) ?zB F ?zX N ?zT ?zk ?zd ?zu ?_
      case zB => k_asm
      case zX => k_asm
      case zT => k_asm
      case zk => exact rfl
      case zd => ktr_room
      case zu => ktr_units
      intro r nn a0 a1 a2 ca oa tkz hz hy hCFa hr4 hro hsepa hrc h' dr F' N' htz
      try dsimp only
      clear F N off104
      (repeat' (first | ((fail_if_success (fail_if_success k_unfold)); (first | refine (let s9 := _; (?_ : wpAny _ _ _ _ _ s9)) | k_unfold)) | (k_end; wrow_close) | ((fail_if_success (fail_if_success k_fold)); (refine (let q9 := _; (?_ : wpAny _ _ _ q9 _ _))); walk1) | walk1 | (dsimp only [List.nil_append, List.cons_append]; walk1) | (leave1; walk_say "STEP leave1"; try dsimp only) | fail "no step"))
      refine Hold.mk ?_
      rename Fr _ _ _ _ => F9
      rename News _ _ _ _ => N9
      have hC9 : (C, LCg.lst ys0) ∈ ledOf N9 := by (first | (k_dflt k_mem) | (repeat (first | exact List.Mem.head _ | apply List.mem_cons_of_mem)))
      refine ke_ne_ints (ints_at N9 (.head _)) (lst_at N9 hC9) (.cons _ _ (.cons _ _ (.cons _ _ .nil))) hys (by ke_room) ?_
      have eL : ([b0, b1, b2] : List Int) = [b0, b1, b2] := by rfl
      rw [decide_eq_true eL]
      (repeat' (first | ((fail_if_success (fail_if_success k_unfold)); (first | refine (let s9 := _; (?_ : wpAny _ _ _ _ _ s9)) | k_unfold)) | (k_end; wrow_close) | ((fail_if_success (fail_if_success k_fold)); (refine (let q9 := _; (?_ : wpAny _ _ _ q9 _ _))); walk1) | walk1 | (dsimp only [List.nil_append, List.cons_append]; walk1) | (leave1; walk_say "STEP leave1"; try dsimp only) | fail "no step"))
      refine Hold.mk ?_
      have hD9 : (D, o) ∈ ledOf N9 := by (first | (k_dflt k_mem) | (repeat (first | exact List.Mem.head _ | apply List.mem_cons_of_mem)))
      refine' Ctr.use (ccl_ctr hD9 hK (not_mods (by omega))) ?zB F9 ?zX N9 ?zT ?zk ?zd ?zu ?_
      case zB => k_asm
      case zX => k_asm
      case zT => k_asm
      case zk => exact rfl
      case zd => ktr_room
      case zu => ktr_units
      rw [f8]
      intro t9 h' dr' tk' F' N'
      dsimp only [ledOf] at N'
      try dsimp only
      (repeat' (first | ((fail_if_success (fail_if_success k_unfold)); (first | refine (let s9 := _; (?_ : wpAny _ _ _ _ _ s9)) | k_unfold)) | (k_end; wrow_close) | ((fail_if_success (fail_if_success k_fold)); (refine (let q9 := _; (?_ : wpAny _ _ _ q9 _ _))); walk1) | walk1 | (dsimp only [List.nil_append, List.cons_append]; walk1) | (leave1; walk_say "STEP leave1"; try dsimp only) | fail "no step"))
      · exfalso
        omega
      rename Fr _ _ _ _ => F9
      rename News _ _ _ _ => N9
      exact hold_fig (ds := [.int b0 a0, .int b1 a1, .int b2 a2]) 3 F9 N9 (by assumption) (.cons _ _ (.cons _ _ (.cons _ _ .nil))) (by decide) (fun h => absurd h (by decide)) (fun h => absurd h (by decide)) hCFa hsepa
  rintro s' ⟨h', dr, tk, r, ds, nn, ca, oa, of', k, rfl, F', N', hof, hds, hk1, hk2, hk3, hCFa, hsepa⟩
  dsimp only [List.drop]
  (repeat' (first | ((fail_if_success (fail_if_success k_unfold)); (first | refine (let s9 := _; (?_ : wpAny _ _ _ _ _ s9)) | k_unfold)) | (k_end; wrow_close) | ((fail_if_success (fail_if_success k_fold)); (refine (let q9 := _; (?_ : wpAny _ _ _ q9 _ _))); walk1) | walk1 | (dsimp only [List.nil_append, List.cons_append]; walk1) | (leave1; walk_say "STEP leave1"; try dsimp only) | fail "no step"))
  refine Hold.mk ?_
  rename Fr _ _ _ _ => FA
  rename News _ _ _ _ => NA
  k_dflt refine Assign_ListComp_K (fun i ys nw => ∃ tl, nw = (r, listOf ds.toArray nn) :: (104, tab104 ca) :: (ca, oa) :: (L' + 1 + 1 + 1 + 1, of') :: (Ae, statO S1 S2 S3 S4 u1 u2 u3 u4 D) :: (D, o) :: (C, LCg.lst ys0) :: (L' + 1 + 1 + 1, oc) :: (L' + 1 + 1, ow) :: tl ∧ (∀ p ∈ led, p ∈ tl) ∧ RowsAre (b3 b0 b1 b2) tl ys (keys3 (c.take i))) FA rfl (by with_unfolding_all rfl) (by with_unfolding_all rfl) (by decide) (by rfl) (by decide) (by rfl) (by rfl) (by rfl) ?_
  (repeat' (first | ((fail_if_success (fail_if_success k_unfold)); (first | refine (let s9 := _; (?_ : wpAny _ _ _ _ _ s9)) | k_unfold)) | (k_end; wrow_close) | ((fail_if_success (fail_if_success k_fold)); (refine (let q9 := _; (?_ : wpAny _ _ _ q9 _ _))); walk1) | walk1 | (dsimp only [List.nil_append, List.cons_append]; walk1) | (leave1; walk_say "STEP leave1"; try dsimp only) | fail "no step"))
  refine ⟨D, o, c, _, rfl, rfl, FA, NA, by rw [sizeLine_eq]; omega, not_mods (by omega), hK, ⟨led, rfl, fun p hp => hp, rows_nil⟩, ?m1, ?t1, ?f1⟩
  case m1 =>
    rintro i ys nw ⟨tl, rfl, _⟩
    (first | (k_dflt k_mem) | (repeat (first | exact List.Mem.head _ | apply List.mem_cons_of_mem)))
  case t1 =>
    rintro i ys nw hi ⟨tl, rfl, htl, hr⟩ v I oI C oC D9 m₂ h dr tk E' ⟨kx, z, t, hcz, rfl⟩ hC hx F' N' off ne
    have hkc := hks _ (List.mem_of_getElem? hcz)
    dsimp only at hkc
    rcases hkc with rfl | rfl | ⟨rfl, n1⟩ | ⟨rfl, n2⟩
    · (repeat' (first | ((fail_if_success (fail_if_success k_unfold)); (first | refine (let s9 := _; (?_ : wpAny _ _ _ _ _ s9)) | k_unfold)) | (k_end; wrow_close) | ((fail_if_success (fail_if_success k_fold)); (refine (let q9 := _; (?_ : wpAny _ _ _ q9 _ _))); walk1) | walk1 | (dsimp only [List.nil_append, List.cons_append]; walk1) | (leave1; walk_say "STEP leave1"; try dsimp only) | fail "no step"))
      exact end_d F' N' off ⟨tl, rfl, htl, by rw [keys3_ge hcz (by decide)]; exact hr⟩
    · rcases figs_cases hds hk1 hk2 hk3 with ⟨t0, rfl, z1, z2⟩ | ⟨t0, t1, rfl, z2⟩ | ⟨t0, t1, t2, rfl⟩
      · clear hds
        (repeat' (first | ((fail_if_success (fail_if_success k_unfold)); (first | refine (let s9 := _; (?_ : wpAny _ _ _ _ _ s9)) | k_unfold)) | (k_end; wrow_close) | ((fail_if_success (fail_if_success k_fold)); (refine (let q9 := _; (?_ : wpAny _ _ _ q9 _ _))); walk1) | walk1 | (dsimp only [List.nil_append, List.cons_append]; walk1) | (leave1; walk_say "STEP leave1"; try dsimp only) | fail "no step"))
        (rename Fr _ _ _ _ => F9); (rename News _ _ _ _ => N9)
        exact row_end F9 N9 off (by assumption) htl hr hcz (by decide) (by rfl)
      · clear hds
        (repeat' (first | ((fail_if_success (fail_if_success k_unfold)); (first | refine (let s9 := _; (?_ : wpAny _ _ _ _ _ s9)) | k_unfold)) | (k_end; wrow_close) | ((fail_if_success (fail_if_success k_fold)); (refine (let q9 := _; (?_ : wpAny _ _ _ q9 _ _))); walk1) | walk1 | (dsimp only [List.nil_append, List.cons_append]; walk1) | (leave1; walk_say "STEP leave1"; try dsimp only) | fail "no step"))
        (rename Fr _ _ _ _ => F9); (rename News _ _ _ _ => N9)
        exact row_end F9 N9 off (by assumption) htl hr hcz (by decide) (by rfl)
      · clear hds
        (repeat' (first | ((fail_if_success (fail_if_success k_unfold)); (first | refine (let s9 := _; (?_ : wpAny _ _ _ _ _ s9)) | k_unfold)) | (k_end; wrow_close) | ((fail_if_success (fail_if_success k_fold)); (refine (let q9 := _; (?_ : wpAny _ _ _ q9 _ _))); walk1) | walk1 | (dsimp only [List.nil_append, List.cons_append]; walk1) | (leave1; walk_say "STEP leave1"; try dsimp only) | fail "no step"))
        (rename Fr _ _ _ _ => F9); (rename News _ _ _ _ => N9)
        exact row_end F9 N9 off (by assumption) htl hr hcz (by decide) (by rfl)
    · rcases figs_cases hds hk1 hk2 hk3 with ⟨t0, rfl, z1, z2⟩ | ⟨t0, t1, rfl, z2⟩ | ⟨t0, t1, t2, rfl⟩
      · exact absurd z1 n1
      · clear hds
        (repeat' (first | ((fail_if_success (fail_if_success k_unfold)); (first | refine (let s9 := _; (?_ : wpAny _ _ _ _ _ s9)) | k_unfold)) | (k_end; wrow_close) | ((fail_if_success (fail_if_success k_fold)); (refine (let q9 := _; (?_ : wpAny _ _ _ q9 _ _))); walk1) | walk1 | (dsimp only [List.nil_append, List.cons_append]; walk1) | (leave1; walk_say "STEP leave1"; try dsimp only) | fail "no step"))
        (rename Fr _ _ _ _ => F9); (rename News _ _ _ _ => N9)
        exact row_end F9 N9 off (by assumption) htl hr hcz (by decide) (by rfl)
      · clear hds
        (repeat' (first | ((fail_if_success (fail_if_success k_unfold)); (first | refine (let s9 := _; (?_ : wpAny _ _ _ _ _ s9)) | k_unfold)) | (k_end; wrow_close) | ((fail_if_success (fail_if_success k_fold)); (refine (let q9 := _; (?_ : wpAny _ _ _ q9 _ _))); walk1) | walk1 | (dsimp only [List.nil_append, List.cons_append]; walk1) | (leave1; walk_say "STEP leave1"; try dsimp only) | fail "no step"))
        (rename Fr _ _ _ _ => F9); (rename News _ _ _ _ => N9)
        exact row_end F9 N9 off (by assumption) htl hr hcz (by decide) (by rfl)
    · rcases figs_cases hds hk1 hk2 hk3 with ⟨t0, rfl, z1, z2⟩ | ⟨t0, t1, rfl, z2⟩ | ⟨t0, t1, t2, rfl⟩
      · exact absurd z2 n2
      · exact absurd z2 n2
      · clear hds
        (repeat' (first | ((fail_if_success (fail_if_success k_unfold)); (first | refine (let s9 := _; (?_ : wpAny _ _ _ _ _ s9)) | k_unfold)) | (k_end; wrow_close) | ((fail_if_success (fail_if_success k_fold)); (refine (let q9 := _; (?_ : wpAny _ _ _ q9 _ _))); walk1) | walk1 | (dsimp only [List.nil_append, List.cons_append]; walk1) | (leave1; walk_say "STEP leave1"; try dsimp only) | fail "no step"))
        (rename Fr _ _ _ _ => F9); (rename News _ _ _ _ => N9)
        exact row_end F9 N9 off (by assumption) htl hr hcz (by decide) (by rfl)
  case f1 =>
    rintro D9 h dr tk ys nw F' N' o1 ⟨tl, rfl, htl, hr⟩
    rw [List.take_length] at hr
    clear FA NA F N
    (repeat' (first | ((fail_if_success (fail_if_success k_unfold)); (first | refine (let s9 := _; (?_ : wpAny _ _ _ _ _ s9)) | k_unfold)) | (k_end; wrow_close) | ((fail_if_success (fail_if_success k_fold)); (refine (let q9 := _; (?_ : wpAny _ _ _ q9 _ _))); walk1) | walk1 | (dsimp only [List.nil_append, List.cons_append]; walk1) | (leave1; walk_say "STEP leave1"; try dsimp only) | fail "no step"))
    ((refine' call_cls ?k1z48 ?k2z48 ?k3z48 ?k4z48 ?k5z48 ?k6z48 ?_; (case k1z48 => k_asm); (case k2z48 => k_asm); (case k3z48 => k_asm); (case k4z48 => k_is); (case k5z48 => k_is); (case k6z48 => k_is); k_whole; intro x' d' h' F' N' l1 l2; (try k_lt l1); (try k_lt2 l2); (refine' code_def ?k1z49 ?k2z49 ?k3z49 ?k4z49 ?k5z49 ?kAz49 ?kFz49 ?kKz49 ?k6z49 ?k7z49 ?k8z49 ?k9z49 ?kBz49 ?_ ?c2z49 ?c3z49 ?c4z49 ?c5z49; (case kAz49 => exact rfl); (case kFz49 => exact rfl); (case kKz49 => first | assumption | exact rfl); (case k1z49 => k_asm); (case k2z49 => k_asm); (case k3z49 => k_asm); (case k4z49 => k_asm); (case k5z49 => k_asm); (case k6z49 => k_is); (case k7z49 => k_is); (case k8z49 => ktr_room); (case k9z49 => exact BindsTo.of_eq rfl); (case c5z49 => decide); (case kBz49 => exact locs rfl); (case c2z49 => exact rfl); (case c3z49 => exact rfl); (case c4z49 => exact rfl); k_whole; intro g' L' h' FG' F' N' B' X' T'; (try dsimp only); (try k_lift B'); (try k_fold))))
    (repeat' (first | ((fail_if_success (fail_if_success k_unfold)); (first | refine (let s9 := _; (?_ : wpAny _ _ _ _ _ s9)) | k_unfold)) | (k_end; wrow_close) | ((fail_if_success (fail_if_success k_fold)); (refine (let q9 := _; (?_ : wpAny _ _ _ q9 _ _))); walk1) | walk1 | (dsimp only [List.nil_append, List.cons_append]; walk1) | (leave1; walk_say "STEP leave1"; try dsimp only) | fail "no step"))
    obtain ⟨T0, e0, e1, hy0, hT0⟩ := hr.2 0 k0 (by rw [hk0]; rfl)
    (rename News _ _ _ _ => N9)
    refine item_listL (l := ys) (x := .ref T0) (lst_at N9 (by (first | (k_dflt k_mem) | (repeat (first | exact List.Mem.head _ | apply List.mem_cons_of_mem))))) (by decide) (by decide) hy0 ?_
    replace N9 := news_add (p := (T0, rowO k0 (b3 b0 b1 b2 k0) e0 e1)) N9 (by (repeat (first | exact hT0 | apply List.mem_cons_of_mem)))
    (repeat' (first | ((fail_if_success (fail_if_success k_unfold)); (first | refine (let s9 := _; (?_ : wpAny _ _ _ _ _ s9)) | k_unfold)) | (k_end; wrow_close) | ((fail_if_success (fail_if_success k_fold)); (refine (let q9 := _; (?_ : wpAny _ _ _ q9 _ _))); walk1) | walk1 | (dsimp only [List.nil_append, List.cons_append]; walk1) | (leave1; walk_say "STEP leave1"; try dsimp only) | fail "no step"))
    refine Hold.mk ?_
    rename Fr _ _ _ _ => FZ
    rename News _ _ _ _ => NZ
    refine For_D (fun i m nw => Mine.Ex5 fun kb T e0 e1 uu => Mine.And3 (m = two (mapOf FZ) (Str.ofString "row") (Str.ofString "best") (some (.ref T)) uu) (nw = (T, rowO kb (b3 b0 b1 b2 kb) e0 e1) :: ledOf NZ) (kb = best3 (b3 b0 b1 b2) way k0 ((keys3 c).take i))) FZ ?_ (hE := hE)
    k_dflt (refine' nameX_L FZ ?zv ?_ ?za ?zb; (case za => rfl); (case zb => rfl); (case zv => rfl))
    refine ⟨_, _, fromF_list (its := ys.toArray) (k := ys.length) rfl FZ (news_add NZ (.head _)) ⟨_, _, _, _, _, two_self rfl, rfl, rfl⟩ ?m4, ?turn, ?fin⟩
    case m4 =>
      rintro i m nw ⟨kb, T, e0, e1, uu, rfl, rfl, _⟩
      (first | (k_dflt k_mem) | (repeat (first | exact List.Mem.head _ | apply List.mem_cons_of_mem)))
    case turn =>
      rintro i v m₁ nw h dr tk I oI hi hP ⟨kb, T, e2, e3, uu, rfl, rfl, hkb⟩ F' N' off _hcI
      dsimp only [mapOf, ledOf] at F' N' off
      have hi' : i < ys.length := by simpa using hi
      have hks3 : (keys3 c)[i]? = some ((keys3 c)[i]'(by rw [← hr.1]; exact hi')) := by simp
      obtain ⟨T2, e4, e5, hy2, hT2⟩ := hr.2 i _ hks3
      generalize (keys3 c)[i]'(by rw [← hr.1]; exact hi') = k2 at hks3 hT2
      have hv : v = .ref T2 := by
        have hP' : ys[i]? = some v := by simpa using hP
        rw [hy2] at hP'
        exact (Option.some.inj hP').symm
      subst hv
      replace N' := news_add (p := (T2, rowO k2 (b3 b0 b1 b2 k2) e4 e5)) N' (by (repeat (first | exact hT2 | apply List.mem_cons_of_mem)))
      (repeat' (first | ((fail_if_success (fail_if_success k_unfold)); (first | refine (let s9 := _; (?_ : wpAny _ _ _ _ _ s9)) | k_unfold)) | (k_end; wrow_close) | ((fail_if_success (fail_if_success k_fold)); (refine (let q9 := _; (?_ : wpAny _ _ _ q9 _ _))); walk1) | walk1 | (dsimp only [List.nil_append, List.cons_append]; walk1) | (leave1; walk_say "STEP leave1"; try dsimp only) | fail "no step"))
      refine Hold.mk ?_
      rename Fr _ _ _ _ => F9
      rename News _ _ _ _ => N9
      refine' Ctr.use cmp_ctr ?zB F9 ?zX (cmp_news N9) ?zT ?zk ?zd ?zu ?_
      case zB => k_asm
      case zX => k_asm
      case zT => k_asm
      case zk => exact rfl
      case zd => ktr_room
      case zu => ktr_units
      intro v9 t9 ev h' dr' tk' F' N'
      replace N' := drop7 N'
      try dsimp only
      have hb9 := best3_succ (bf := b3 b0 b1 b2) (way := way) (k0 := k0) hks3
      rw [← hkb, ← ev] at hb9
      (repeat' (first | ((fail_if_success (fail_if_success k_unfold)); (first | refine (let s9 := _; (?_ : wpAny _ _ _ _ _ s9)) | k_unfold)) | (k_end; wrow_close) | ((fail_if_success (fail_if_success k_fold)); (refine (let q9 := _; (?_ : wpAny _ _ _ q9 _ _))); walk1) | walk1 | (dsimp only [List.nil_append, List.cons_append]; walk1) | (leave1; walk_say "STEP leave1"; try dsimp only) | fail "no step"))
      · rename Fr _ _ _ _ => F8
        rename News _ _ _ _ => N8
        refine end_f F8 (news_sub N8 (led' := (I, oI) :: (T2, rowO k2 (b3 b0 b1 b2 k2) e4 e5) :: ledOf NZ) ?b2) ?b3 ⟨k2, T2, e4, e5, _, two_eq (fun z h1 h2 => by simp +zetaDelta only [two, mapOf, if_neg h1, if_neg h2]) (by decide +kernel), rfl, ?b4⟩
        case b2 =>
          refine List.forall_mem_cons.mpr ⟨.tail _ (.head _), List.forall_mem_cons.mpr ⟨.head _, fun p hp => ?_⟩⟩
          exact .tail _ (.tail _ (.tail _ hp))
        case b3 => exact List.forall_mem_cons.mpr ⟨off (T2, rowO k2 (b3 b0 b1 b2 k2) e4 e5) (by (repeat (first | exact hT2 | apply List.mem_cons_of_mem))), fun p hp => off p (.tail _ hp)⟩
        case b4 => rw [hb9, if_pos (by omega)]
      · rename Fr _ _ _ _ => F8
        rename News _ _ _ _ => N8
        refine end_f F8 (news_sub N8 (led' := (I, oI) :: (T, rowO kb (b3 b0 b1 b2 kb) e2 e3) :: ledOf NZ) ?b2) off ⟨kb, T, e2, e3, _, two_eq (fun z h1 h2 => by simp +zetaDelta only [two, mapOf, if_neg h1, if_neg h2]) (by decide +kernel), rfl, ?b4⟩
        case b2 =>
          refine List.forall_mem_cons.mpr ⟨.tail _ (.head _), List.forall_mem_cons.mpr ⟨.tail _ (.tail _ (.head _)), fun p hp => ?_⟩⟩
          exact .tail _ (.tail _ (.tail _ hp))
        case b4 => rw [hb9, if_neg (by omega)]
    case fin =>
      rintro h dr tk m nw ⟨kb, T, e2, e3, uu, rfl, rfl, hkb⟩ F' N'
      dsimp only [mapOf, ledOf] at F' N'
      rw [List.take_of_length_le (by rw [← hr.1]; simp)] at hkb
      (repeat' (first | ((fail_if_success (fail_if_success k_unfold)); (first | refine (let s9 := _; (?_ : wpAny _ _ _ _ _ s9)) | k_unfold)) | (k_end; wrow_close) | ((fail_if_success (fail_if_success k_fold)); (refine (let q9 := _; (?_ : wpAny _ _ _ q9 _ _))); walk1) | walk1 | (dsimp only [List.nil_append, List.cons_append]; walk1) | (leave1; walk_say "STEP leave1"; try dsimp only) | fail "no step"))
      refine Hold.mk ?_
      rename Fr _ _ _ _ => F9
      rename News _ _ _ _ => N9
      refine' Ctr.use cmp_ctr ?zB F9 ?zX (cmp_news2 N9) ?zT ?zk ?zd ?zu ?_
      case zB => k_asm
      case zX => k_asm
      case zT => k_asm
      case zk => exact rfl
      case zd => ktr_room
      case zu => ktr_units
      rw [cmpI_self]
      rintro v9 t9 rfl h' dr' tk' F' N'
      replace N' := drop7 N'
      try dsimp only
      (repeat' (first | ((fail_if_success (fail_if_success k_unfold)); (first | refine (let s9 := _; (?_ : wpAny _ _ _ _ _ s9)) | k_unfold)) | (k_end; wrow_close) | ((fail_if_success (fail_if_success k_fold)); (refine (let q9 := _; (?_ : wpAny _ _ _ q9 _ _))); walk1) | walk1 | (dsimp only [List.nil_append, List.cons_append]; walk1) | (leave1; walk_say "STEP leave1"; try dsimp only) | fail "no step"))
      rename Fr _ _ _ _ => F8
      rename News _ _ _ _ => N8
      refine hret kb T e2 e3 ca oa _ _ _ _ hkb F8 (news_sub N8 ?b2) hCFa (hsepa.imp (fun h p hp => h p ?b3) id)
      case b2 =>
        refine List.forall_mem_cons.mpr ⟨by (first | (k_dflt k_mem) | (repeat (first | exact List.Mem.head _ | apply List.mem_cons_of_mem))), List.forall_mem_cons.mpr ⟨by (first | (k_dflt k_mem) | (repeat (first | exact List.Mem.head _ | apply List.mem_cons_of_mem))), List.forall_mem_cons.mpr ⟨by (first | (k_dflt k_mem) | (repeat (first | exact List.Mem.head _ | apply List.mem_cons_of_mem))), fun p hp => ?_⟩⟩⟩
        have := htl p hp
        (repeat (first | exact this | apply List.mem_cons_of_mem))
      case b3 =>
        rcases List.mem_cons.mp hp with h | h
        · exact h ▸ .head _
        · exact .tail _ (.tail _ (.tail _ (.tail _ (.tail _ (.tail _ h)))))
end Mine
end
section
theorem Mine.fresh14 {prog : Program} {w : World} {A : Around} {E : Value → Shared → Prop} {s : Shared} {Q : Bool → Shared → Prop} (h : wpAny (model prog w) A (truthy (.bool true)) Q E s) : wpAny (model prog w) A (truthy (.bool true)) Q E s := by
  w_top off
  first | (walk1; fail "no") | exact h
set_option hygiene false in
local macro_rules | `(tactic| walk_at $s) => if ("|setItem ref int|compareOp Is ref ref|call ref|exec For Name Name cons nil|eval ListComp|call builtin:list.count|call builtin:sum|eval DictComp|exec Assign cons DictComp|compareOp NotEq ref ref|".splitOn ("|" ++ s.getString ++ "|")).length = 2 then `(tactic| (with_reducible refine Mine.Hold.h ?_)) else Lean.Macro.throwUnsupported
namespace Mine
theorem with_fn {K : Frag} {f : Addr} {o : Obj} {P : Prop} (h2 : K.lookup f = some o) (k : K.lookup f = some o → P) : P := k h2
theorem perm14 {h₀ h : Heap} {L : Addr} {a1 a2 a3 a4 a5 a6 a7 a8 a9 a10 a11 a12 a13 : Addr × Obj} {led : List (Addr × Obj)} (N : News h₀ L h (a1 :: a2 :: a3 :: a4 :: a5 :: a6 :: a7 :: a8 :: a9 :: a10 :: a11 :: a12 :: a13 :: led)) : News h₀ L h (a12 :: a13 :: a3 :: a4 :: a2 :: a7 :: a8 :: a9 :: led) :=
  news_sub N fun p hp => by ((revert hp; revert p; (repeat (first | exact Mine.sub_nil | (refine Mine.sub_cons ?_ ?_; focus (first | exact Mine.m0 | exact Mine.m1 | exact Mine.m2 | exact Mine.m3 | exact Mine.m4 | exact Mine.m5 | exact Mine.m6 | exact Mine.mAt 7 rfl | exact Mine.mAt 8 rfl | exact Mine.mAt 9 rfl | exact Mine.mAt 10 rfl | exact Mine.mAt 11 rfl | exact Mine.mAt 12 rfl | exact Mine.mAt 13 rfl | exact Mine.mAt 14 rfl | exact Mine.mAt 15 rfl | exact Mine.mAt 16 rfl | exact Mine.mAt 17 rfl | exact Mine.mAt 18 rfl | exact Mine.mAt 19 rfl | exact Mine.mAt 20 rfl | exact Mine.mAt 21 rfl | exact Mine.mAt 22 rfl | exact Mine.mAt 23 rfl | (repeat (first | exact List.Mem.head _ | apply List.mem_cons_of_mem | apply List.mem_append_right)))) | (refine Mine.sub_app ?_ ?_) | (intro p9 hp9; (repeat (first | exact hp9 | exact List.mem_append_left _ hp9 | apply List.mem_cons_of_mem | apply List.mem_append_right)))))))
set_option maxHeartbeats 8000000 in
theorem view_ctr {prog : Program} {w : World} {lv ls : Addr} {vs : List Value} {qs : List (Int × Int)} {nv n : Nat} {s0 s1 s2 s3 s4 width way : Int} {t0 t1 t2 t3 t4 t5 t6 : Tok} {x o1 : Obj} {c1 : Addr} {led : List (Addr × Obj)} (h5 : 3 ≤ width) (h6 : width ≤ 6)
    (hbs : ∀ s ∈ [s0, s1, s2, s3, s4], 0 ≤ s ∧ s ≤ 2) (hv : (lv, listOf vs.toArray nv) ∈ led) (hs : (ls, cellsO s0 s1 s2 s3 s4 t0 t1 t2 t3 t4 n) ∈ led) (hl : vs.length = 5) (hq : qs.length = 5) (hTK : TK p104 q104 x c1 o1) (hc1 : (@Ne Nat c1 104)) (h104 : ∀ p ∈ led, p.1 ≠ 104) (f9 : (accS width qs).2.1 ≠ 0) (f7 : DigF width (accS width qs).2.1 (ct [s0, s1, s2, s3, s4] 0) (ct [s0, s1, s2, s3, s4] 1) (ct [s0, s1, s2, s3, s4] 2))
    (f8 : ((accC width qs).map (·.2)).foldl (fun a b => a + b) 0 = 5 + (accS width qs).2.1)
    (f1 : (accS width qs).1 = 15) (f2 : (accS width qs).2.1 = List.sum [2 ^ (width * s0).toNat, 2 ^ (width * s1).toNat, 2 ^ (width * s2).toNat, 2 ^ (width * s3).toNat, (2 : Int) ^ (width * s4).toNat])
    (f3 : (accS width qs).2.2.1 = ct [s0, s1, s2, s3, s4] 1 + 2 * ct [s0, s1, s2, s3, s4] 2) (f4 : (accS width qs).2.2.2 = ct [s0, s1, s2, s3, s4] 1 + 4 * ct [s0, s1, s2, s3, s4] 2)
    (f5 : (accC width qs).length = (kdfPut (bookC (fun o => ct [s0, s1, s2, s3, s4] o) [s0, s1, s2, s3, s4]) 3 (List.sum [2 ^ (width * s0).toNat, 2 ^ (width * s1).toNat, 2 ^ (width * s2).toNat, 2 ^ (width * s3).toNat, (2 : Int) ^ (width * s4).toNat])).length)
    (f6 : ∀ p ∈ accC width qs, kdfHas (kdfPut (bookC (fun o => ct [s0, s1, s2, s3, s4] o) [s0, s1, s2, s3, s4]) 3 (List.sum [2 ^ (width * s0).toNat, 2 ^ (width * s1).toNat, 2 ^ (width * s2).toNat, 2 ^ (width * s3).toNat, (2 : Int) ^ (width * s4).toNat])) p.1 = true ∧ kdfLook (kdfPut (bookC (fun o => ct [s0, s1, s2, s3, s4] o) [s0, s1, s2, s3, s4]) 3 (List.sum [2 ^ (width * s0).toNat, 2 ^ (width * s1).toNat, 2 ^ (width * s2).toNat, 2 ^ (width * s3).toNat, (2 : Int) ^ (width * s4).toNat])) p.1 0 = p.2)
    (f10 : ∀ p ∈ accC width qs, p.1 = 3 ∨ p.1 = 0 ∨ (p.1 = 1 ∧ ct [s0, s1, s2, s3, s4] 1 ≠ 0) ∨ (p.1 = 2 ∧ ct [s0, s1, s2, s3, s4] 2 ≠ 0)) (f11 : (accC width qs).length ≤ 10) {k0 : Int} {kr : List Int} (f12 : keys3 (accC width qs) = k0 :: kr)
    (hvs : ∀ (i : Nat) v q, vs[i]? = some v → qs[i]? = some q → IsVote prog w led width v q) :
    Ctr prog w 20 210 [.ref lv, .ref ls, .int width t5, .int way t6] ((104, x) :: (c1, o1) :: led) fun k => ∀ kb T e0 e1 ca oa, kb = best3 (b3 (ct [s0, s1, s2, s3, s4] 0) (ct [s0, s1, s2, s3, s4] 1) (ct [s0, s1, s2, s3, s4] 2)) way k0 (keys3 (accC width qs)) → CF oa q104 → ((∀ p ∈ (104, x) :: led, p.1 < ca) ∨ ca = c1) → k (.ref T) ((T, rowO kb (b3 (ct [s0, s1, s2, s3, s4] 0) (ct [s0, s1, s2, s3, s4] 1) (ct [s0, s1, s2, s3, s4] 2) kb) e0 e1) :: (104, tab104 ca) :: (ca, oa) :: led) := by
  unfold Ctr
  intro p loose mean mg mb dp un gd cn cs a ccd cl outer A₀ base h₀ L m s Q E B F X N T hk hd hu hret
  replace N := news_add N (.tail _ (.tail _ hs))
  refine wpAny_call ?_
  (first | k_dflt ((refine' code_def ?k1z50 ?k2z50 ?k3z50 ?k4z50 ?k5z50 ?kAz50 ?kFz50 ?kKz50 ?k6z50 ?k7z50 ?k8z50 ?k9z50 ?kBz50 ?_ ?c2z50 ?c3z50 ?c4z50 ?c5z50; (case kAz50 => exact rfl); (case kFz50 => exact rfl); (case kKz50 => assumption); (case k1z50 => k_asm); (case k2z50 => k_asm); (case k3z50 => k_asm); (case k4z50 => k_asm); (case k5z50 => k_asm); (case k6z50 => k_is); (case k7z50 => k_is); (case k8z50 => ktr_room); (case k9z50 => first | exact BindsTo.of_eq rfl | exact binds_K (by k_in) rfl (by k_is) rfl rfl rfl); (case c5z50 => decide); (case kBz50 => exact locs rfl); (case c2z50 => exact rfl); (case c3z50 => exact rfl); (case c4z50 => exact rfl); k_whole; intro g' L' h' FG' F' N' B' X' T'; (try dsimp only); (try k_lift B'); (try k_fold))) | k_dflt ((refine' code_defC ?k1z51 ?k2z51 ?k3z51 ?k4z51 ?k5z51 ?kAz51 ?kFz51 ?kKz51 ?k6z51 ?k7z51 ?k8z51 ?k9z51 ?kBz51 ?kDz51 ?_ ?c2z51 ?c3z51 ?c4z51; (case kAz51 => exact rfl); (case kFz51 => exact rfl); (case kKz51 => assumption); (case k1z51 => k_asm); (case k2z51 => k_asm); (case k3z51 => k_asm); (case k4z51 => k_asm); (case k5z51 => k_asm); (case k6z51 => k_is); (case k7z51 => k_is); (case k8z51 => ktr_room); (case k9z51 => first | exact BindsTo.of_eq rfl | exact binds_K (by k_in) rfl (by k_is) rfl rfl rfl); (case kBz51 => exact rfl); (case kDz51 => decide +kernel); (case c2z51 => exact rfl); (case c3z51 => exact rfl); (case c4z51 => exact rfl); k_whole; intro g' L' h' tk' cells' FG' F' N' Y' B' X' T' l1; (have hO := Mine.old_of l1); (try k_lt l1); k_cells Y'; (try simp only [List.cons_append, List.nil_append] at N'); (try dsimp only); (try k_lift B'); (try k_fold))))
  refine cut_execs 3 ?_
  dsimp only [List.take, List.drop]
  (repeat' (first | ((fail_if_success (fail_if_success k_unfold)); (first | refine (let s9 := _; (?_ : wpAny _ _ _ _ _ s9)) | k_unfold)) | (k_end; wrow_close) | ((fail_if_success (fail_if_success k_fold)); (refine (let q9 := _; (?_ : wpAny _ _ _ q9 _ _))); (first | ((with_reducible show wpAny _ _ (getMethod (Value.ref _) (Str.ofString "count") _) _ _ _); with_unfolding_all refine getMethod_list_of PySem.F.slot_list_count PySem.F.type_list_count (by is_list) (by no_dict) ?_) | walk1)) | (first | ((with_reducible show wpAny _ _ (getMethod (Value.ref _) (Str.ofString "count") _) _ _ _); with_unfolding_all refine getMethod_list_of PySem.F.slot_list_count PySem.F.type_list_count (by is_list) (by no_dict) ?_) | walk1) | (dsimp only [List.nil_append, List.cons_append]; (first | ((with_reducible show wpAny _ _ (getMethod (Value.ref _) (Str.ofString "count") _) _ _ _); with_unfolding_all refine getMethod_list_of PySem.F.slot_list_count PySem.F.type_list_count (by is_list) (by no_dict) ?_) | walk1)) | (leave1; walk_say "STEP leave1"; try dsimp only) | fail "no step"))
  refine Hold.mk ?_
  rename Fr _ _ _ _ => FZ
  rename News _ _ _ _ => NZ
  rename Obj.IsDictOf (PySem.intKind _ _) _ _ => hdi
  rename PyProof.V.FlatPairs PyData.int _ _ => hf
  refine For_D (fun i m nw => Mine.Ex8 fun e D o u1 u2 u3 u4 uu => Mine.And5 (m = two (mapOf FZ) (Str.ofString "vote") (Str.ofString "entry") (some (.ref e)) uu) (nw = (e, statO (accS width (qs.take i)).1 (accS width (qs.take i)).2.1 (accS width (qs.take i)).2.2.1 (accS width (qs.take i)).2.2.2 u1 u2 u3 u4 D) :: (D, o) :: ledOf NZ) (KD prog w o (accC width (qs.take i))) ((∀ p ∈ (ledOf NZ).drop 2, p.1 < D)) (@LT.lt Nat _ D e)) FZ ?_
  k_dflt (refine' nameX_L FZ ?v ?_ ?a ?b; (case a => rfl); (case b => rfl); (case v => rfl))
  have NZ2 := news_add2 NZ (.head _) (.tail _ (.head _))
  refine ⟨_, _, fromF_list (its := vs.toArray) (k := nv) rfl FZ NZ2 ⟨_, _, _, _, _, _, _, _, two_self rfl, rfl, ⟨_, hdi, hf⟩, ?m3, ?m5⟩ ?m4, ?turn, ?fin⟩
  case m3 =>
    dsimp only [ledOf, List.drop]
    first | assumption | (refine' Mine.allSub ?zh ?zs; (case zh => assumption); (case zs => exact fun p hp => by (repeat (first | exact hp | apply List.mem_cons_of_mem))))
  case m5 => omega
  case m4 =>
    rintro i m nw ⟨e, D, o, u1, u2, u3, u4, uu, rfl, rfl, _⟩
    (repeat (first | exact hv | apply List.mem_cons_of_mem))
  case turn =>
    rintro i v m₁ nw h dr tk I oI hi hP ⟨e, D, o, u1, u2, u3, u4, uu, rfl, rfl, hK, hD, heD⟩ F' N' off _hcI
    dsimp only [mapOf, ledOf] at F' N' off
    have hP' : vs[i]? = some v := by simpa using hP
    obtain ⟨q, hq'⟩ : ∃ q, qs[i]? = some q := ⟨qs[i]'(by rw [hq, ← hl]; simpa using hi), by simp⟩
    obtain ⟨T2, D2, w1, w2, w3, w4, od, rfl, hm1, hm2, hK2, hD2⟩ := hvs i v q hP' hq'
    replace N' := news_add (p := (T2, statO (q.1 + 1) (2 ^ (width * q.2).toNat) q.2 (q.2 * q.2) w1 w2 w3 w4 D2)) N' (by (repeat (first | exact hm1 | apply List.mem_cons_of_mem)))
    (repeat' (first | ((fail_if_success (fail_if_success k_unfold)); (first | refine (let s9 := _; (?_ : wpAny _ _ _ _ _ s9)) | k_unfold)) | (k_end; wrow_close) | ((fail_if_success (fail_if_success k_fold)); (refine (let q9 := _; (?_ : wpAny _ _ _ q9 _ _))); (first | ((with_reducible show wpAny _ _ (getMethod (Value.ref _) (Str.ofString "count") _) _ _ _); with_unfolding_all refine getMethod_list_of PySem.F.slot_list_count PySem.F.type_list_count (by is_list) (by no_dict) ?_) | walk1)) | (first | ((with_reducible show wpAny _ _ (getMethod (Value.ref _) (Str.ofString "count") _) _ _ _); with_unfolding_all refine getMethod_list_of PySem.F.slot_list_count PySem.F.type_list_count (by is_list) (by no_dict) ?_) | walk1) | (dsimp only [List.nil_append, List.cons_append]; (first | ((with_reducible show wpAny _ _ (getMethod (Value.ref _) (Str.ofString "count") _) _ _ _); with_unfolding_all refine getMethod_list_of PySem.F.slot_list_count PySem.F.type_list_count (by is_list) (by no_dict) ?_) | walk1)) | (leave1; walk_say "STEP leave1"; try dsimp only) | fail "no step"))
    refine Hold.mk ?_
    rename Fr _ _ _ _ => F9
    rename News _ _ _ _ => N9
    refine' Ctr.use (afs_ctr (.tail _ (.tail _ (.head _))) (.head _) (.tail _ (.tail _ (.tail _ (.head _)))) ?a4 hK hK2 ?a5 ?a6 ?a7 ?a8) ?zB F9 ?zX N9 ?zT ?zk ?zd ?zu ?_
    case a4 => (repeat (first | exact hm2 | apply List.mem_cons_of_mem))
    case a5 => exact not_mods (hD (104, x) (by (first | (k_dflt k_mem) | (repeat (first | exact List.Mem.head _ | apply List.mem_cons_of_mem)))))
    case a6 => exact not_mods hD2
    case a7 => exact accC_take hq (by rw [hq, ← hl]; simpa using hi)
    case a8 => exact (by decide : (2 : Nat) ≤ 10)
    case zB => k_asm
    case zX => k_asm
    case zT => k_asm
    case zk => exact rfl
    case zd => ktr_room
    case zu => ktr_units
    intro T3 D3 o3 x1 x2 x3 x4 hK3 hD3 hT3 h' dr tk F' N'
    try dsimp only
    (repeat' (first | ((fail_if_success (fail_if_success k_unfold)); (first | refine (let s9 := _; (?_ : wpAny _ _ _ _ _ s9)) | k_unfold)) | (k_end; wrow_close) | ((fail_if_success (fail_if_success k_fold)); (refine (let q9 := _; (?_ : wpAny _ _ _ q9 _ _))); (first | ((with_reducible show wpAny _ _ (getMethod (Value.ref _) (Str.ofString "count") _) _ _ _); with_unfolding_all refine getMethod_list_of PySem.F.slot_list_count PySem.F.type_list_count (by is_list) (by no_dict) ?_) | walk1)) | (first | ((with_reducible show wpAny _ _ (getMethod (Value.ref _) (Str.ofString "count") _) _ _ _); with_unfolding_all refine getMethod_list_of PySem.F.slot_list_count PySem.F.type_list_count (by is_list) (by no_dict) ?_) | walk1) | (dsimp only [List.nil_append, List.cons_append]; (first | ((with_reducible show wpAny _ _ (getMethod (Value.ref _) (Str.ofString "count") _) _ _ _); with_unfolding_all refine getMethod_list_of PySem.F.slot_list_count PySem.F.type_list_count (by is_list) (by no_dict) ?_) | walk1)) | (leave1; walk_say "STEP leave1"; try dsimp only) | fail "no step"))
    refine Hold.mk ?_
    rename Fr _ _ _ _ => F9
    rename News _ _ _ _ => N9
    have hne : D3 ≠ D2 := Ne.symm (Nat.ne_of_lt (hD3 (D2, od) (by (repeat (first | exact hm2 | apply List.mem_cons_of_mem)))))
    obtain ⟨kvs3, hk3, hf3⟩ := id hK3
    refine kto_is (oy := od) (News.get N9 (.tail _ (.head _))) (News.get N9 ?b1) hne (by rw [dict_cls hk3]; exact nofun) ?_
    case b1 => (repeat (first | exact hm2 | apply List.mem_cons_of_mem))
    (repeat' (first | ((fail_if_success (fail_if_success k_unfold)); (first | refine (let s9 := _; (?_ : wpAny _ _ _ _ _ s9)) | k_unfold)) | (k_end; wrow_close) | ((fail_if_success (fail_if_success k_fold)); (refine (let q9 := _; (?_ : wpAny _ _ _ q9 _ _))); (first | ((with_reducible show wpAny _ _ (getMethod (Value.ref _) (Str.ofString "count") _) _ _ _); with_unfolding_all refine getMethod_list_of PySem.F.slot_list_count PySem.F.type_list_count (by is_list) (by no_dict) ?_) | walk1)) | (first | ((with_reducible show wpAny _ _ (getMethod (Value.ref _) (Str.ofString "count") _) _ _ _); with_unfolding_all refine getMethod_list_of PySem.F.slot_list_count PySem.F.type_list_count (by is_list) (by no_dict) ?_) | walk1) | (dsimp only [List.nil_append, List.cons_append]; (first | ((with_reducible show wpAny _ _ (getMethod (Value.ref _) (Str.ofString "count") _) _ _ _); with_unfolding_all refine getMethod_list_of PySem.F.slot_list_count PySem.F.type_list_count (by is_list) (by no_dict) ?_) | walk1)) | (leave1; walk_say "STEP leave1"; try dsimp only) | fail "no step"))
    refine end_f F9 (news_sub N9 (led' := (I, oI) :: (T3, statO (q.1 + 1 + (accS width (qs.take i)).1) (2 ^ (width * q.2).toNat + (accS width (qs.take i)).2.1) (q.2 + (accS width (qs.take i)).2.2.1) (q.2 * q.2 + (accS width (qs.take i)).2.2.2) x1 x2 x3 x4 D3) :: (D3, o3) :: ledOf NZ) ?b2) ?b3 ⟨T3, D3, o3, x1, x2, x3, x4, _, two_eq (fun z h1 h2 => by simp +zetaDelta only [two, mapOf, if_neg h1, if_neg h2]) (by decide +kernel), ?b4, ?b5, ?b6, hT3⟩
    case b2 =>
      refine List.forall_mem_cons.mpr ⟨.tail _ (.tail _ (.tail _ (.head _))), List.forall_mem_cons.mpr ⟨.head _, List.forall_mem_cons.mpr ⟨.tail _ (.head _), fun p hp => ?_⟩⟩⟩
      exact .tail _ (.tail _ (.tail _ (.tail _ (.tail _ (.tail _ hp)))))
    case b3 =>
      have hI := hD3 (I, oI) (.tail _ (.head _))
      refine List.forall_mem_cons.mpr ⟨Nat.ne_of_gt (Nat.lt_trans hI hT3), List.forall_mem_cons.mpr ⟨Nat.ne_of_gt hI, fun p hp => off p (.tail _ (.tail _ hp))⟩⟩
    case b4 => rw [accS_succ hq']
    case b5 => rw [accC_succ hq']; exact hK3
    case b6 => exact fun p hp => hD3 p (.tail _ (.tail _ (.tail _ (.tail _ (List.mem_of_mem_drop hp)))))
  case fin =>
    rintro h dr tk m nw ⟨e, D, o, u1, u2, u3, u4, uu, rfl, rfl, hK, hD, heD⟩ F' N'
    dsimp only [mapOf, ledOf] at F' N'
    dsimp only [ledOf, List.drop] at hD
    have hE9 := fun p hp => Nat.lt_trans (hD p hp) heD
    rw [List.take_of_length_le (by rw [hq, ← hl]; simp)] at N' hK
    generalize (accS width qs).1 = S1 at *
    generalize (accS width qs).2.1 = S2 at *
    generalize (accS width qs).2.2.1 = S3 at *
    generalize (accS width qs).2.2.2 = S4 at *
    (repeat' (first | ((fail_if_success (fail_if_success k_unfold)); (first | refine (let s9 := _; (?_ : wpAny _ _ _ _ _ s9)) | k_unfold)) | (k_end; wrow_close) | ((fail_if_success (fail_if_success k_fold)); (refine (let q9 := _; (?_ : wpAny _ _ _ q9 _ _))); (first | ((with_reducible show wpAny _ _ (getMethod (Value.ref _) (Str.ofString "count") _) _ _ _); with_unfolding_all refine getMethod_list_of PySem.F.slot_list_count PySem.F.type_list_count (by is_list) (by no_dict) ?_) | walk1)) | (first | ((with_reducible show wpAny _ _ (getMethod (Value.ref _) (Str.ofString "count") _) _ _ _); with_unfolding_all refine getMethod_list_of PySem.F.slot_list_count PySem.F.type_list_count (by is_list) (by no_dict) ?_) | walk1) | (dsimp only [List.nil_append, List.cons_append]; (first | ((with_reducible show wpAny _ _ (getMethod (Value.ref _) (Str.ofString "count") _) _ _ _); with_unfolding_all refine getMethod_list_of PySem.F.slot_list_count PySem.F.type_list_count (by is_list) (by no_dict) ?_) | walk1)) | (leave1; walk_say "STEP leave1"; try dsimp only) | fail "no step"))
    refine Hold.mk ?_
    refine cut_execs 1 ?_
    dsimp only [List.take, List.drop]
    (repeat' (first | ((fail_if_success (fail_if_success k_unfold)); (first | refine (let s9 := _; (?_ : wpAny _ _ _ _ _ s9)) | k_unfold)) | (k_end; wrow_close) | ((fail_if_success (fail_if_success k_fold)); (refine (let q9 := _; (?_ : wpAny _ _ _ q9 _ _))); (first | ((with_reducible show wpAny _ _ (getMethod (Value.ref _) (Str.ofString "count") _) _ _ _); with_unfolding_all refine getMethod_list_of PySem.F.slot_list_count PySem.F.type_list_count (by is_list) (by no_dict) ?_) | walk1)) | (first | ((with_reducible show wpAny _ _ (getMethod (Value.ref _) (Str.ofString "count") _) _ _ _); with_unfolding_all refine getMethod_list_of PySem.F.slot_list_count PySem.F.type_list_count (by is_list) (by no_dict) ?_) | walk1) | (dsimp only [List.nil_append, List.cons_append]; (first | ((with_reducible show wpAny _ _ (getMethod (Value.ref _) (Str.ofString "count") _) _ _ _); with_unfolding_all refine getMethod_list_of PySem.F.slot_list_count PySem.F.type_list_count (by is_list) (by no_dict) ?_) | walk1)) | (leave1; walk_say "STEP leave1"; try dsimp only) | fail "no step"))
    refine Hold.mk ?_
    rename Fr _ _ _ _ => FA
    rename News _ _ _ _ => NA
    k_dflt refine ListComp_D (fun i ys nw => nw = ledOf NA ∧ IntsAre ys (([0, 1, 2].take i).map fun o => ct [s0, s1, s2, s3, s4] o)) FA (by with_unfolding_all rfl) (by decide) (by rfl) (by decide) (by rfl) ?_
    (repeat' (first | ((fail_if_success (fail_if_success k_unfold)); (first | refine (let s9 := _; (?_ : wpAny _ _ _ _ _ s9)) | k_unfold)) | (k_end; wrow_close) | ((fail_if_success (fail_if_success k_fold)); (refine (let q9 := _; (?_ : wpAny _ _ _ q9 _ _))); (first | ((with_reducible show wpAny _ _ (getMethod (Value.ref _) (Str.ofString "count") _) _ _ _); with_unfolding_all refine getMethod_list_of PySem.F.slot_list_count PySem.F.type_list_count (by is_list) (by no_dict) ?_) | walk1)) | (first | ((with_reducible show wpAny _ _ (getMethod (Value.ref _) (Str.ofString "count") _) _ _ _); with_unfolding_all refine getMethod_list_of PySem.F.slot_list_count PySem.F.type_list_count (by is_list) (by no_dict) ?_) | walk1) | (dsimp only [List.nil_append, List.cons_append]; (first | ((with_reducible show wpAny _ _ (getMethod (Value.ref _) (Str.ofString "count") _) _ _ _); with_unfolding_all refine getMethod_list_of PySem.F.slot_list_count PySem.F.type_list_count (by is_list) (by no_dict) ?_) | walk1)) | (leave1; walk_say "STEP leave1"; try dsimp only) | fail "no step"))
    rename IsRange _ _ _ _ _ _ _ _ => hR
    rename Fr _ _ _ _ => FA
    rename News _ _ _ _ => NA2
    refine ⟨3, _, from_range rfl FA NA2 (Nat.le_of_ble_eq_true rfl) ⟨rfl, .nil⟩ hR (by decide) (by rfl), ?t1, ?f1⟩
    case t1 =>
      rintro i ys nw hi ⟨rfl, hys⟩ v I oI C oC D9 m₂ h dr tk E' ⟨t9, rfl⟩ hC hx F' N' off ne
      refine wpAny_tests_nil ?_
      simp only [if_true]
      dsimp only [ledOf] at N' off ⊢
      (repeat' (first | ((fail_if_success (fail_if_success k_unfold)); (first | refine (let s9 := _; (?_ : wpAny _ _ _ _ _ s9)) | k_unfold)) | (k_end; wrow_close) | ((fail_if_success (fail_if_success k_fold)); (refine (let q9 := _; (?_ : wpAny _ _ _ q9 _ _))); (first | ((with_reducible show wpAny _ _ (getMethod (Value.ref _) (Str.ofString "count") _) _ _ _); with_unfolding_all refine getMethod_list_of PySem.F.slot_list_count PySem.F.type_list_count (by is_list) (by no_dict) ?_) | walk1)) | (first | ((with_reducible show wpAny _ _ (getMethod (Value.ref _) (Str.ofString "count") _) _ _ _); with_unfolding_all refine getMethod_list_of PySem.F.slot_list_count PySem.F.type_list_count (by is_list) (by no_dict) ?_) | walk1) | (dsimp only [List.nil_append, List.cons_append]; (first | ((with_reducible show wpAny _ _ (getMethod (Value.ref _) (Str.ofString "count") _) _ _ _); with_unfolding_all refine getMethod_list_of PySem.F.slot_list_count PySem.F.type_list_count (by is_list) (by no_dict) ?_) | walk1)) | (leave1; walk_say "STEP leave1"; try dsimp only) | fail "no step"))
      refine Hold.mk ?_
      refine count_list_ints (ints_at N' (.tail _ (.tail _ (.tail _ (by (first | (k_dflt k_mem) | (repeat (first | exact List.Mem.head _ | apply List.mem_cons_of_mem)))))))) (ints_5 _ _ _ _ _ _ _ _ _ _) ?_
      (repeat' (first | ((fail_if_success (fail_if_success k_unfold)); (first | refine (let s9 := _; (?_ : wpAny _ _ _ _ _ s9)) | k_unfold)) | (k_end; wrow_close) | ((fail_if_success (fail_if_success k_fold)); (refine (let q9 := _; (?_ : wpAny _ _ _ q9 _ _))); (first | ((with_reducible show wpAny _ _ (getMethod (Value.ref _) (Str.ofString "count") _) _ _ _); with_unfolding_all refine getMethod_list_of PySem.F.slot_list_count PySem.F.type_list_count (by is_list) (by no_dict) ?_) | walk1)) | (first | ((with_reducible show wpAny _ _ (getMethod (Value.ref _) (Str.ofString "count") _) _ _ _); with_unfolding_all refine getMethod_list_of PySem.F.slot_list_count PySem.F.type_list_count (by is_list) (by no_dict) ?_) | walk1) | (dsimp only [List.nil_append, List.cons_append]; (first | ((with_reducible show wpAny _ _ (getMethod (Value.ref _) (Str.ofString "count") _) _ _ _); with_unfolding_all refine getMethod_list_of PySem.F.slot_list_count PySem.F.type_list_count (by is_list) (by no_dict) ?_) | walk1)) | (leave1; walk_say "STEP leave1"; try dsimp only) | fail "no step"))
      refine end_d F' N' off ⟨rfl, ?_⟩
      have hi3 : i = 0 ∨ i = 1 ∨ i = 2 := by omega
      rcases hi3 with rfl | rfl | rfl <;> · rw [count_ct]; exact ints_snoc hys
    case f1 =>
      rintro D9 h dr tk ys nw F' N' o1 ⟨rfl, hys⟩
      dsimp only [ledOf] at N' o1
      have oD9 := o1
      replace hys : IntsAre ys [ct [s0, s1, s2, s3, s4] 0, ct [s0, s1, s2, s3, s4] 1, ct [s0, s1, s2, s3, s4] 2] := hys
      have hcs := hys
      (repeat' (first | ((fail_if_success (fail_if_success k_unfold)); (first | refine (let s9 := _; (?_ : wpAny _ _ _ _ _ s9)) | k_unfold)) | (k_end; wrow_close) | ((fail_if_success (fail_if_success k_fold)); (refine (let q9 := _; (?_ : wpAny _ _ _ q9 _ _))); (first | ((with_reducible show wpAny _ _ (getMethod (Value.ref _) (Str.ofString "count") _) _ _ _); with_unfolding_all refine getMethod_list_of PySem.F.slot_list_count PySem.F.type_list_count (by is_list) (by no_dict) ?_) | walk1)) | (first | ((with_reducible show wpAny _ _ (getMethod (Value.ref _) (Str.ofString "count") _) _ _ _); with_unfolding_all refine getMethod_list_of PySem.F.slot_list_count PySem.F.type_list_count (by is_list) (by no_dict) ?_) | walk1) | (dsimp only [List.nil_append, List.cons_append]; (first | ((with_reducible show wpAny _ _ (getMethod (Value.ref _) (Str.ofString "count") _) _ _ _); with_unfolding_all refine getMethod_list_of PySem.F.slot_list_count PySem.F.type_list_count (by is_list) (by no_dict) ?_) | walk1)) | (leave1; walk_say "STEP leave1"; try dsimp only) | fail "no step"))
      refine Hold.mk ?_
      refine cut_execs 1 ?_
      dsimp only [List.take, List.drop]
      (repeat' (first | ((fail_if_success (fail_if_success k_unfold)); (first | refine (let s9 := _; (?_ : wpAny _ _ _ _ _ s9)) | k_unfold)) | (k_end; wrow_close) | ((fail_if_success (fail_if_success k_fold)); (refine (let q9 := _; (?_ : wpAny _ _ _ q9 _ _))); (first | ((with_reducible show wpAny _ _ (getMethod (Value.ref _) (Str.ofString "count") _) _ _ _); with_unfolding_all refine getMethod_list_of PySem.F.slot_list_count PySem.F.type_list_count (by is_list) (by no_dict) ?_) | walk1)) | (first | ((with_reducible show wpAny _ _ (getMethod (Value.ref _) (Str.ofString "count") _) _ _ _); with_unfolding_all refine getMethod_list_of PySem.F.slot_list_count PySem.F.type_list_count (by is_list) (by no_dict) ?_) | walk1) | (dsimp only [List.nil_append, List.cons_append]; (first | ((with_reducible show wpAny _ _ (getMethod (Value.ref _) (Str.ofString "count") _) _ _ _); with_unfolding_all refine getMethod_list_of PySem.F.slot_list_count PySem.F.type_list_count (by is_list) (by no_dict) ?_) | walk1)) | (leave1; walk_say "STEP leave1"; try dsimp only) | fail "no step"))
      refine Hold.mk ?_
      rename Fr _ _ _ _ => FA
      rename News _ _ _ _ => NA
      k_dflt refine ListComp_D (fun i ys nw => nw = ledOf NA ∧ IntsAre ys (([s0, s1, s2, s3, s4].take i).map fun o => 2 ^ (width * o).toNat)) FA (by with_unfolding_all rfl) (by decide) (by rfl) (by decide) (by rfl) ?_
      (repeat' (first | ((fail_if_success (fail_if_success k_unfold)); (first | refine (let s9 := _; (?_ : wpAny _ _ _ _ _ s9)) | k_unfold)) | (k_end; wrow_close) | ((fail_if_success (fail_if_success k_fold)); (refine (let q9 := _; (?_ : wpAny _ _ _ q9 _ _))); (first | ((with_reducible show wpAny _ _ (getMethod (Value.ref _) (Str.ofString "count") _) _ _ _); with_unfolding_all refine getMethod_list_of PySem.F.slot_list_count PySem.F.type_list_count (by is_list) (by no_dict) ?_) | walk1)) | (first | ((with_reducible show wpAny _ _ (getMethod (Value.ref _) (Str.ofString "count") _) _ _ _); with_unfolding_all refine getMethod_list_of PySem.F.slot_list_count PySem.F.type_list_count (by is_list) (by no_dict) ?_) | walk1) | (dsimp only [List.nil_append, List.cons_append]; (first | ((with_reducible show wpAny _ _ (getMethod (Value.ref _) (Str.ofString "count") _) _ _ _); with_unfolding_all refine getMethod_list_of PySem.F.slot_list_count PySem.F.type_list_count (by is_list) (by no_dict) ?_) | walk1)) | (leave1; walk_say "STEP leave1"; try dsimp only) | fail "no step"))
      refine ⟨5, _, from_list (its := #[.int s0 t0, .int s1 t1, .int s2 t2, .int s3 t3, .int s4 t4]) (k := n) rfl FA NA (Nat.le_of_ble_eq_true rfl) ⟨rfl, .nil⟩ ?t0, ?t1, ?f1⟩
      case t0 =>
        rintro i ys nw ⟨rfl, _⟩
        (first | (k_dflt k_mem) | (repeat (first | exact List.Mem.head _ | apply List.mem_cons_of_mem)))
      case t1 =>
        rintro i ys nw hi ⟨rfl, hys⟩ v I oI C oC D9 m₂ h dr tk E' hP hC hx F' N' off ne
        obtain ⟨a, t, rfl, ha, hb, hc⟩ := item5 hP hbs
        refine wpAny_tests_nil ?_
        simp only [if_true]
        dsimp only [ledOf] at N' off ⊢
        have hw := wid_bound h5 h6 hb.1 hb.2
        (repeat' (first | ((fail_if_success (fail_if_success k_unfold)); (first | refine (let s9 := _; (?_ : wpAny _ _ _ _ _ s9)) | k_unfold)) | (k_end; wrow_close) | ((fail_if_success (fail_if_success k_fold)); (refine (let q9 := _; (?_ : wpAny _ _ _ q9 _ _))); (first | ((with_reducible show wpAny _ _ (getMethod (Value.ref _) (Str.ofString "count") _) _ _ _); with_unfolding_all refine getMethod_list_of PySem.F.slot_list_count PySem.F.type_list_count (by is_list) (by no_dict) ?_) | walk1)) | (first | ((with_reducible show wpAny _ _ (getMethod (Value.ref _) (Str.ofString "count") _) _ _ _); with_unfolding_all refine getMethod_list_of PySem.F.slot_list_count PySem.F.type_list_count (by is_list) (by no_dict) ?_) | walk1) | (dsimp only [List.nil_append, List.cons_append]; (first | ((with_reducible show wpAny _ _ (getMethod (Value.ref _) (Str.ofString "count") _) _ _ _); with_unfolding_all refine getMethod_list_of PySem.F.slot_list_count PySem.F.type_list_count (by is_list) (by no_dict) ?_) | walk1)) | (leave1; walk_say "STEP leave1"; try dsimp only) | fail "no step"))
        refine end_d F' N' off ⟨rfl, ?_⟩
        rw [take_snoc ha]
        exact ints_snoc hys
      case f1 =>
        rintro D9 h dr tk ys nw F' N' o1 ⟨rfl, hys⟩
        dsimp only [ledOf] at N' o1
        replace hys : IntsAre ys [2 ^ (width * s0).toNat, 2 ^ (width * s1).toNat, 2 ^ (width * s2).toNat, 2 ^ (width * s3).toNat, 2 ^ (width * s4).toNat] := hys
        (repeat' (first | ((fail_if_success (fail_if_success k_unfold)); (first | refine (let s9 := _; (?_ : wpAny _ _ _ _ _ s9)) | k_unfold)) | (k_end; wrow_close) | ((fail_if_success (fail_if_success k_fold)); (refine (let q9 := _; (?_ : wpAny _ _ _ q9 _ _))); (first | ((with_reducible show wpAny _ _ (getMethod (Value.ref _) (Str.ofString "count") _) _ _ _); with_unfolding_all refine getMethod_list_of PySem.F.slot_list_count PySem.F.type_list_count (by is_list) (by no_dict) ?_) | walk1)) | (first | ((with_reducible show wpAny _ _ (getMethod (Value.ref _) (Str.ofString "count") _) _ _ _); with_unfolding_all refine getMethod_list_of PySem.F.slot_list_count PySem.F.type_list_count (by is_list) (by no_dict) ?_) | walk1) | (dsimp only [List.nil_append, List.cons_append]; (first | ((with_reducible show wpAny _ _ (getMethod (Value.ref _) (Str.ofString "count") _) _ _ _); with_unfolding_all refine getMethod_list_of PySem.F.slot_list_count PySem.F.type_list_count (by is_list) (by no_dict) ?_) | walk1)) | (leave1; walk_say "STEP leave1"; try dsimp only) | fail "no step"))
        refine Hold.mk ?_
        refine sumK (vs := ys) rfl F' N' (lst_at N' (.head _)) hys ?_
        clear F' N'
        intro h' tk' t' F' N'
        try dsimp only
        generalize List.sum [2 ^ (width * s0).toNat, 2 ^ (width * s1).toNat, 2 ^ (width * s2).toNat, 2 ^ (width * s3).toNat, (2 : Int) ^ (width * s4).toNat] = tot at f2 f5 f6 ⊢
        replace N' := drop1 N'
        (repeat' (first | ((fail_if_success (fail_if_success k_unfold)); (first | refine (let s9 := _; (?_ : wpAny _ _ _ _ _ s9)) | k_unfold)) | (k_end; wrow_close) | ((fail_if_success (fail_if_success k_fold)); (refine (let q9 := _; (?_ : wpAny _ _ _ q9 _ _))); (first | ((with_reducible show wpAny _ _ (getMethod (Value.ref _) (Str.ofString "count") _) _ _ _); with_unfolding_all refine getMethod_list_of PySem.F.slot_list_count PySem.F.type_list_count (by is_list) (by no_dict) ?_) | walk1)) | (first | ((with_reducible show wpAny _ _ (getMethod (Value.ref _) (Str.ofString "count") _) _ _ _); with_unfolding_all refine getMethod_list_of PySem.F.slot_list_count PySem.F.type_list_count (by is_list) (by no_dict) ?_) | walk1) | (dsimp only [List.nil_append, List.cons_append]; (first | ((with_reducible show wpAny _ _ (getMethod (Value.ref _) (Str.ofString "count") _) _ _ _); with_unfolding_all refine getMethod_list_of PySem.F.slot_list_count PySem.F.type_list_count (by is_list) (by no_dict) ?_) | walk1)) | (leave1; walk_say "STEP leave1"; try dsimp only) | fail "no step"))
        refine Hold.mk ?_
        refine cut_execs 1 ?_
        dsimp only [List.take, List.drop]
        (repeat' (first | ((fail_if_success (fail_if_success k_unfold)); (first | refine (let s9 := _; (?_ : wpAny _ _ _ _ _ s9)) | k_unfold)) | (k_end; wrow_close) | ((fail_if_success (fail_if_success k_fold)); (refine (let q9 := _; (?_ : wpAny _ _ _ q9 _ _))); (first | ((with_reducible show wpAny _ _ (getMethod (Value.ref _) (Str.ofString "count") _) _ _ _); with_unfolding_all refine getMethod_list_of PySem.F.slot_list_count PySem.F.type_list_count (by is_list) (by no_dict) ?_) | walk1)) | (first | ((with_reducible show wpAny _ _ (getMethod (Value.ref _) (Str.ofString "count") _) _ _ _); with_unfolding_all refine getMethod_list_of PySem.F.slot_list_count PySem.F.type_list_count (by is_list) (by no_dict) ?_) | walk1) | (dsimp only [List.nil_append, List.cons_append]; (first | ((with_reducible show wpAny _ _ (getMethod (Value.ref _) (Str.ofString "count") _) _ _ _); with_unfolding_all refine getMethod_list_of PySem.F.slot_list_count PySem.F.type_list_count (by is_list) (by no_dict) ?_) | walk1)) | (leave1; walk_say "STEP leave1"; try dsimp only) | fail "no step"))
        refine Hold.mk ?_
        rename Fr _ _ _ _ => FA
        rename News _ _ _ _ => NA
        k_dflt refine Assign_DictComp_I (fun o => ct [s0, s1, s2, s3, s4] o) FA rfl (by with_unfolding_all rfl) (by with_unfolding_all rfl) (by decide) (by rfl) (by decide) (by rfl) (by rfl) (by rfl) ?_
        (repeat' (first | ((fail_if_success (fail_if_success k_unfold)); (first | refine (let s9 := _; (?_ : wpAny _ _ _ _ _ s9)) | k_unfold)) | (k_end; wrow_close) | ((fail_if_success (fail_if_success k_fold)); (refine (let q9 := _; (?_ : wpAny _ _ _ q9 _ _))); (first | ((with_reducible show wpAny _ _ (getMethod (Value.ref _) (Str.ofString "count") _) _ _ _); with_unfolding_all refine getMethod_list_of PySem.F.slot_list_count PySem.F.type_list_count (by is_list) (by no_dict) ?_) | walk1)) | (first | ((with_reducible show wpAny _ _ (getMethod (Value.ref _) (Str.ofString "count") _) _ _ _); with_unfolding_all refine getMethod_list_of PySem.F.slot_list_count PySem.F.type_list_count (by is_list) (by no_dict) ?_) | walk1) | (dsimp only [List.nil_append, List.cons_append]; (first | ((with_reducible show wpAny _ _ (getMethod (Value.ref _) (Str.ofString "count") _) _ _ _); with_unfolding_all refine getMethod_list_of PySem.F.slot_list_count PySem.F.type_list_count (by is_list) (by no_dict) ?_) | walk1)) | (leave1; walk_say "STEP leave1"; try dsimp only) | fail "no step"))
        refine ⟨_, [.int s0 t0, .int s1 t1, .int s2 t2, .int s3 t3, .int s4 t4], [s0, s1, s2, s3, s4], _, rfl, rfl, ints_at (n := n) NA ?u0, ints_5 _ _ _ _ _ _ _ _ _ _, (by decide : (5 : Nat) ≤ 100), FA, NA, ?u1, ?u3⟩
        case u0 => (first | (k_dflt k_mem) | (repeat (first | exact List.Mem.head _ | apply List.mem_cons_of_mem)))
        case u1 =>
          intro C a t h tk m₂ E' ha hn hm F9 N9
          have hb := hbs a ha
          (repeat' (first | ((fail_if_success (fail_if_success k_unfold)); (first | refine (let s9 := _; (?_ : wpAny _ _ _ _ _ s9)) | k_unfold)) | (k_end; wrow_close) | ((fail_if_success (fail_if_success k_fold)); (refine (let q9 := _; (?_ : wpAny _ _ _ q9 _ _))); (first | ((with_reducible show wpAny _ _ (getMethod (Value.ref _) (Str.ofString "count") _) _ _ _); with_unfolding_all refine getMethod_list_of PySem.F.slot_list_count PySem.F.type_list_count (by is_list) (by no_dict) ?_) | walk1)) | (first | ((with_reducible show wpAny _ _ (getMethod (Value.ref _) (Str.ofString "count") _) _ _ _); with_unfolding_all refine getMethod_list_of PySem.F.slot_list_count PySem.F.type_list_count (by is_list) (by no_dict) ?_) | walk1) | (dsimp only [List.nil_append, List.cons_append]; (first | ((with_reducible show wpAny _ _ (getMethod (Value.ref _) (Str.ofString "count") _) _ _ _); with_unfolding_all refine getMethod_list_of PySem.F.slot_list_count PySem.F.type_list_count (by is_list) (by no_dict) ?_) | walk1)) | (leave1; walk_say "STEP leave1"; try dsimp only) | fail "no step"))
          refine ⟨⟨_, _, rfl, rfl, ?_⟩⟩
          (repeat' (first | ((fail_if_success (fail_if_success k_unfold)); (first | refine (let s9 := _; (?_ : wpAny _ _ _ _ _ s9)) | k_unfold)) | (k_end; wrow_close) | ((fail_if_success (fail_if_success k_fold)); (refine (let q9 := _; (?_ : wpAny _ _ _ q9 _ _))); (first | ((with_reducible show wpAny _ _ (getMethod (Value.ref _) (Str.ofString "count") _) _ _ _); with_unfolding_all refine getMethod_list_of PySem.F.slot_list_count PySem.F.type_list_count (by is_list) (by no_dict) ?_) | walk1)) | (first | ((with_reducible show wpAny _ _ (getMethod (Value.ref _) (Str.ofString "count") _) _ _ _); with_unfolding_all refine getMethod_list_of PySem.F.slot_list_count PySem.F.type_list_count (by is_list) (by no_dict) ?_) | walk1) | (dsimp only [List.nil_append, List.cons_append]; (first | ((with_reducible show wpAny _ _ (getMethod (Value.ref _) (Str.ofString "count") _) _ _ _); with_unfolding_all refine getMethod_list_of PySem.F.slot_list_count PySem.F.type_list_count (by is_list) (by no_dict) ?_) | walk1)) | (leave1; walk_say "STEP leave1"; try dsimp only) | fail "no step"))
          have ha3 : a = 0 ∨ a = 1 ∨ a = 2 := by omega
          rcases ha3 with rfl | rfl | rfl <;> exact ⟨⟨_, _, rfl, rfl⟩⟩
        case u3 =>
          intro D9 o9 h' tk F' N' off hK9
          obtain ⟨kvs9, h91, h92⟩ := hK9
          have h93 := bookC_len (fun o => ct [s0, s1, s2, s3, s4] o) [s0, s1, s2, s3, s4] []
          generalize bookC (fun o => ct [s0, s1, s2, s3, s4] o) [s0, s1, s2, s3, s4] = bk at *
          try dsimp only
          (repeat' (first | ((fail_if_success (fail_if_success k_unfold)); (first | refine (let s9 := _; (?_ : wpAny _ _ _ _ _ s9)) | k_unfold)) | (k_end; wrow_close) | ((fail_if_success (fail_if_success k_fold)); (refine (let q9 := _; (?_ : wpAny _ _ _ q9 _ _))); (first | ((with_reducible show wpAny _ _ (getMethod (Value.ref _) (Str.ofString "count") _) _ _ _); with_unfolding_all refine getMethod_list_of PySem.F.slot_list_count PySem.F.type_list_count (by is_list) (by no_dict) ?_) | walk1)) | (first | ((with_reducible show wpAny _ _ (getMethod (Value.ref _) (Str.ofString "count") _) _ _ _); with_unfolding_all refine getMethod_list_of PySem.F.slot_list_count PySem.F.type_list_count (by is_list) (by no_dict) ?_) | walk1) | (dsimp only [List.nil_append, List.cons_append]; (first | ((with_reducible show wpAny _ _ (getMethod (Value.ref _) (Str.ofString "count") _) _ _ _); with_unfolding_all refine getMethod_list_of PySem.F.slot_list_count PySem.F.type_list_count (by is_list) (by no_dict) ?_) | walk1)) | (leave1; walk_say "STEP leave1"; try dsimp only) | fail "no step"))
          refine Hold.mk ?_
          refine cut_execs 1 ?_
          dsimp only [List.take, List.drop]
          (repeat' (first | ((fail_if_success (fail_if_success k_unfold)); (first | refine (let s9 := _; (?_ : wpAny _ _ _ _ _ s9)) | k_unfold)) | (k_end; wrow_close) | ((fail_if_success (fail_if_success k_fold)); (refine (let q9 := _; (?_ : wpAny _ _ _ q9 _ _))); (first | ((with_reducible show wpAny _ _ (getMethod (Value.ref _) (Str.ofString "count") _) _ _ _); with_unfolding_all refine getMethod_list_of PySem.F.slot_list_count PySem.F.type_list_count (by is_list) (by no_dict) ?_) | walk1)) | (first | ((with_reducible show wpAny _ _ (getMethod (Value.ref _) (Str.ofString "count") _) _ _ _); with_unfolding_all refine getMethod_list_of PySem.F.slot_list_count PySem.F.type_list_count (by is_list) (by no_dict) ?_) | walk1) | (dsimp only [List.nil_append, List.cons_append]; (first | ((with_reducible show wpAny _ _ (getMethod (Value.ref _) (Str.ofString "count") _) _ _ _); with_unfolding_all refine getMethod_list_of PySem.F.slot_list_count PySem.F.type_list_count (by is_list) (by no_dict) ?_) | walk1)) | (leave1; walk_say "STEP leave1"; try dsimp only) | fail "no step"))
          refine Hold.mk ?_
          rename Fr _ _ _ _ => F9
          rename News _ _ _ _ => N9
          refine kdf_setItem F9 N9 (UpdF.head (fun p hp => Nat.ne_of_lt (off p hp))) h91 h92 (by simp only [List.length_cons, List.length_nil] at h93; omega) ?_
          intro h' o9' kvs9' F' N' hd9' hf9'
          try dsimp only at N'
          (repeat' (first | ((fail_if_success (fail_if_success k_unfold)); (first | refine (let s9 := _; (?_ : wpAny _ _ _ _ _ s9)) | k_unfold)) | (k_end; wrow_close) | ((fail_if_success (fail_if_success k_fold)); (refine (let q9 := _; (?_ : wpAny _ _ _ q9 _ _))); (first | ((with_reducible show wpAny _ _ (getMethod (Value.ref _) (Str.ofString "count") _) _ _ _); with_unfolding_all refine getMethod_list_of PySem.F.slot_list_count PySem.F.type_list_count (by is_list) (by no_dict) ?_) | walk1)) | (first | ((with_reducible show wpAny _ _ (getMethod (Value.ref _) (Str.ofString "count") _) _ _ _); with_unfolding_all refine getMethod_list_of PySem.F.slot_list_count PySem.F.type_list_count (by is_list) (by no_dict) ?_) | walk1) | (dsimp only [List.nil_append, List.cons_append]; (first | ((with_reducible show wpAny _ _ (getMethod (Value.ref _) (Str.ofString "count") _) _ _ _); with_unfolding_all refine getMethod_list_of PySem.F.slot_list_count PySem.F.type_list_count (by is_list) (by no_dict) ?_) | walk1)) | (leave1; walk_say "STEP leave1"; try dsimp only) | fail "no step"))
          refine Hold.mk ?_
          refine cut_execs 1 ?_
          dsimp only [List.take, List.drop]
          (repeat' (first | ((fail_if_success (fail_if_success k_unfold)); (first | refine (let s9 := _; (?_ : wpAny _ _ _ _ _ s9)) | k_unfold)) | (k_end; wrow_close) | ((fail_if_success (fail_if_success k_fold)); (refine (let q9 := _; (?_ : wpAny _ _ _ q9 _ _))); (first | ((with_reducible show wpAny _ _ (getMethod (Value.ref _) (Str.ofString "count") _) _ _ _); with_unfolding_all refine getMethod_list_of PySem.F.slot_list_count PySem.F.type_list_count (by is_list) (by no_dict) ?_) | walk1)) | (first | ((with_reducible show wpAny _ _ (getMethod (Value.ref _) (Str.ofString "count") _) _ _ _); with_unfolding_all refine getMethod_list_of PySem.F.slot_list_count PySem.F.type_list_count (by is_list) (by no_dict) ?_) | walk1) | (dsimp only [List.nil_append, List.cons_append]; (first | ((with_reducible show wpAny _ _ (getMethod (Value.ref _) (Str.ofString "count") _) _ _ _); with_unfolding_all refine getMethod_list_of PySem.F.slot_list_count PySem.F.type_list_count (by is_list) (by no_dict) ?_) | walk1)) | (leave1; walk_say "STEP leave1"; try dsimp only) | fail "no step"))
          refine Hold.mk ?_
          rename Fr _ _ _ _ => F9
          rename News _ _ _ _ => N9
          have hKb : KD prog w o9' (kdfPut bk 3 tot) := ⟨_, hd9', hf9'⟩
          have hD9 : @LT.lt Nat _ 104 D9 := off (104, x) (by (first | (k_dflt k_mem) | (repeat (first | exact List.Mem.head _ | apply List.mem_cons_of_mem))))
          have hDD : @LT.lt Nat _ D D9 := off (D, o) (by (first | (k_dflt k_mem) | (repeat (first | exact List.Mem.head _ | apply List.mem_cons_of_mem))))
          have hD0 : @LT.lt Nat _ 104 D := by omega
          have w1 : (e, statO S1 S2 S3 S4 u1 u2 u3 u4 D) ∈ ledOf N9 := by (first | (k_dflt k_mem) | (repeat (first | exact List.Mem.head _ | apply List.mem_cons_of_mem)))
          have w2 : (D, o) ∈ ledOf N9 := by (first | (k_dflt k_mem) | (repeat (first | exact List.Mem.head _ | apply List.mem_cons_of_mem)))
          have w3 : (D9, o9') ∈ ledOf N9 := by (first | (k_dflt k_mem) | (repeat (first | exact List.Mem.head _ | apply List.mem_cons_of_mem)))
          refine ne_stats N9 w1 (.head _) f1 f2 f3 f4 (eq_dicts N9 w2 w3 hK hKb (not_mods hD0) (not_mods hD9) (Nat.ne_of_lt hDD) f5 f6 (by ke_room)) (by ke_room) ?_
          (repeat' (first | ((fail_if_success (fail_if_success k_unfold)); (first | refine (let s9 := _; (?_ : wpAny _ _ _ _ _ s9)) | k_unfold)) | (k_end; wrow_close) | ((fail_if_success (fail_if_success k_fold)); (refine (let q9 := _; (?_ : wpAny _ _ _ q9 _ _))); (first | ((with_reducible show wpAny _ _ (getMethod (Value.ref _) (Str.ofString "count") _) _ _ _); with_unfolding_all refine getMethod_list_of PySem.F.slot_list_count PySem.F.type_list_count (by is_list) (by no_dict) ?_) | walk1)) | (first | ((with_reducible show wpAny _ _ (getMethod (Value.ref _) (Str.ofString "count") _) _ _ _); with_unfolding_all refine getMethod_list_of PySem.F.slot_list_count PySem.F.type_list_count (by is_list) (by no_dict) ?_) | walk1) | (dsimp only [List.nil_append, List.cons_append]; (first | ((with_reducible show wpAny _ _ (getMethod (Value.ref _) (Str.ofString "count") _) _ _ _); with_unfolding_all refine getMethod_list_of PySem.F.slot_list_count PySem.F.type_list_count (by is_list) (by no_dict) ?_) | walk1)) | (leave1; walk_say "STEP leave1"; try dsimp only) | fail "no step"))
          refine Hold.mk ?_
          rename Fr _ _ _ _ => F9
          rename News _ _ _ _ => N9
          rename Obj.IsDictOf (PySem.intKind _ _) _ _ => hdi2
          rename PyProof.V.FlatPairs PyData.int _ _ => hf2
          refine ne_empty N9 ?x1 (.head _) ⟨_, hdi, hf⟩ ⟨_, hdi2, hf2⟩ (by assumption) (by assumption) (by ke_room) ?_
          case x1 => (first | (k_dflt k_mem) | (repeat (first | exact List.Mem.head _ | apply List.mem_cons_of_mem)))
          replace N9 := drop1 (drop1 N9)
          (repeat' (first | ((fail_if_success (fail_if_success k_unfold)); (first | refine (let s9 := _; (?_ : wpAny _ _ _ _ _ s9)) | k_unfold)) | (k_end; wrow_close) | ((fail_if_success (fail_if_success k_fold)); (refine (let q9 := _; (?_ : wpAny _ _ _ q9 _ _))); (first | ((with_reducible show wpAny _ _ (getMethod (Value.ref _) (Str.ofString "count") _) _ _ _); with_unfolding_all refine getMethod_list_of PySem.F.slot_list_count PySem.F.type_list_count (by is_list) (by no_dict) ?_) | walk1)) | (first | ((with_reducible show wpAny _ _ (getMethod (Value.ref _) (Str.ofString "count") _) _ _ _); with_unfolding_all refine getMethod_list_of PySem.F.slot_list_count PySem.F.type_list_count (by is_list) (by no_dict) ?_) | walk1) | (dsimp only [List.nil_append, List.cons_append]; (first | ((with_reducible show wpAny _ _ (getMethod (Value.ref _) (Str.ofString "count") _) _ _ _); with_unfolding_all refine getMethod_list_of PySem.F.slot_list_count PySem.F.type_list_count (by is_list) (by no_dict) ?_) | walk1)) | (leave1; walk_say "STEP leave1"; try dsimp only) | fail "no step"))
          refine Hold.mk ?_
          replace N9 := perm14 N9
          rename Fr _ _ _ _ => F9
          refine' with_fn (K := hdA.heap_39 w.params) (f := 210) ?h2 ?k2
          case h2 => k_dflt k_is
          intro hfn
          refine' view_tail hfn h5 h6 hTK hc1 h104 f9 f7 hK f8 f10 f11 f12 hcs ?d1 ?d2 ?d3 ?d4 ?d5 ?d6 ?d7 ?d8 ?d9 ?d10 ?d11 ?d12 ?d13 ?d14 ?d15 hd hu ?d16 ?d17 F9 N9
          case d1 => assumption
          case d2 => assumption
          case d3 => assumption
          case d4 => omega
          case d5 => omega
          case d6 => refine ⟨?_, ?_, ?_, ?_, ?_, ?_⟩ <;> k_ne
          case d7 => first | omega
          case d8 => first | omega
          case d9 =>
            (refine' Mine.allSub ?zh ?zs; (case zh => assumption); (case zs => exact fun p hp => by (repeat (first | exact hp | apply List.mem_cons_of_mem))))
          case d10 => first | rfl
          case d11 => first | rfl
          case d12 => first | (rw [f2]; rfl)
          case d13 => k_asm
          case d14 => k_asm
          case d15 => k_asm
          case d16 => passes_own
          case d17 =>
            intro kb T e0 e1 ca oa h' dr tk m'' hkb F' N' hCF hsep
            (repeat' (first | ((fail_if_success (fail_if_success k_unfold)); (first | refine (let s9 := _; (?_ : wpAny _ _ _ _ _ s9)) | k_unfold)) | (k_end; wrow_close) | ((fail_if_success (fail_if_success k_fold)); (refine (let q9 := _; (?_ : wpAny _ _ _ q9 _ _))); (first | ((with_reducible show wpAny _ _ (getMethod (Value.ref _) (Str.ofString "count") _) _ _ _); with_unfolding_all refine getMethod_list_of PySem.F.slot_list_count PySem.F.type_list_count (by is_list) (by no_dict) ?_) | walk1)) | (first | ((with_reducible show wpAny _ _ (getMethod (Value.ref _) (Str.ofString "count") _) _ _ _); with_unfolding_all refine getMethod_list_of PySem.F.slot_list_count PySem.F.type_list_count (by is_list) (by no_dict) ?_) | walk1) | (dsimp only [List.nil_append, List.cons_append]; (first | ((with_reducible show wpAny _ _ (getMethod (Value.ref _) (Str.ofString "count") _) _ _ _); with_unfolding_all refine getMethod_list_of PySem.F.slot_list_count PySem.F.type_list_count (by is_list) (by no_dict) ?_) | walk1)) | (leave1; walk_say "STEP leave1"; try dsimp only) | fail "no step"))
            rename Fr _ _ _ _ => F8
            rename News _ _ _ _ => N8
            exact hret kb T e0 e1 ca oa hkb hCF hsep _ _ _ F8 N8
end Mine
end
section
theorem Mine.fresh15 {prog : Program} {w : World} {A : Around} {E : Value → Shared → Prop} {s : Shared} {Q : Bool → Shared → Prop} (h : wpAny (model prog w) A (truthy (.bool true)) Q E s) : wpAny (model prog w) A (truthy (.bool true)) Q E s := by
  w_top off
  first | (walk1; fail "no") | exact h
namespace Mine
def wrs (j : Int) : List Int := ([0, 1, 2, 3, 4].filter fun k : Int => k != j) ++ ([0, 1, 2, 3, 4].filter fun k : Int => k == j)
def qsOf (s : List Int) (j : Int) : List (Int × Int) := (wrs j).map fun k => (k, at5 s k)
def bookS (w : Int) (s : List Int) : List (Int × Int) := kdfPut (bookC (fun o => ct s o) s) 3 (List.sum (s.map fun o => (2 : Int) ^ (w * o).toNat))
def all3 : List (List Int) := [0, 1, 2].flatMap fun a => [0, 1, 2].flatMap fun b => [0, 1, 2].flatMap fun c => [0, 1, 2].flatMap fun d => [0, 1, 2].map fun e => [a, b, c, d, e]
abbrev VF (s : List Int) (j w : Int) : Prop :=
  (accS w (qsOf s j)).1 = 15 ∧ (accS w (qsOf s j)).2.1 ≠ 0 ∧ (accS w (qsOf s j)).2.1 = List.sum (s.map fun o => (2 : Int) ^ (w * o).toNat) ∧
  (accS w (qsOf s j)).2.2.1 = ct s 1 + 2 * ct s 2 ∧ (accS w (qsOf s j)).2.2.2 = ct s 1 + 4 * ct s 2 ∧ (accC w (qsOf s j)).length = (bookS w s).length ∧
  (∀ p ∈ accC w (qsOf s j), kdfHas (bookS w s) p.1 = true ∧ kdfLook (bookS w s) p.1 0 = p.2) ∧
  ((accC w (qsOf s j)).map (·.2)).foldl (fun a b => a + b) 0 = 5 + (accS w (qsOf s j)).2.1 ∧
  (∀ p ∈ accC w (qsOf s j), p.1 = 3 ∨ p.1 = 0 ∨ (p.1 = 1 ∧ ct s 1 ≠ 0) ∨ (p.1 = 2 ∧ ct s 2 ≠ 0)) ∧ (accC w (qsOf s j)).length ≤ 10 ∧ keys3 (accC w (qsOf s j)) ≠ [] ∧
  (∀ way ∈ [(1 : Int), -1], best3 (b3 (ct s 0) (ct s 1) (ct s 2)) way ((keys3 (accC w (qsOf s j))).headD 0) (keys3 (accC w (qsOf s j))) = most s way)
def accT (w : Int) (t : List Int) : List (Int × Int) := t.foldl (fun c o => addC (cpC c) [(o, 1), (3, 2 ^ (w * o).toNat)]) []
def totS (w : Int) (t : List Int) : Int := List.sum (t.map fun o => (2 : Int) ^ (w * o).toNat)
def nzI (x : Int) : Nat := if x = 0 then 0 else 1
/-- the table of five votes, by their orders in turn -/
abbrev VT (t : List Int) (w : Int) : Prop :=
  totS w t ≠ 0 ∧ (accT w t).length = nzI (ct t 0) + nzI (ct t 1) + nzI (ct t 2) + 1 ∧
  (∀ p ∈ accT w t, (p.1 = 3 ∧ p.2 = totS w t) ∨ (p.1 = 0 ∧ p.2 = ct t 0 ∧ ct t 0 ≠ 0) ∨ (p.1 = 1 ∧ p.2 = ct t 1 ∧ ct t 1 ≠ 0) ∨ (p.1 = 2 ∧ p.2 = ct t 2 ∧ ct t 2 ≠ 0)) ∧
  ((accT w t).map (·.2)).foldl (fun a b => a + b) 0 = 5 + totS w t ∧ (accT w t).length ≤ 10 ∧ keys3 (accT w t) ≠ [] ∧
  (∀ way ∈ [(1 : Int), -1], best3 (b3 (ct t 0) (ct t 1) (ct t 2)) way ((keys3 (accT w t)).headD 0) (keys3 (accT w t)) = most t way)
set_option maxHeartbeats 4000000 in
theorem vt3 : ∀ t ∈ all3, VT t 3 := by decide +kernel
set_option maxHeartbeats 4000000 in
theorem vt4 : ∀ t ∈ all3, VT t 4 := by decide +kernel
set_option maxHeartbeats 4000000 in
theorem vt5 : ∀ t ∈ all3, VT t 5 := by decide +kernel
set_option maxHeartbeats 4000000 in
theorem vt6 : ∀ t ∈ all3, VT t 6 := by decide +kernel
/-- the book of a list of orders -/
abbrev VB (s : List Int) : Prop :=
  (bookC (fun o => ct s o) s).length = nzI (ct s 0) + nzI (ct s 1) + nzI (ct s 2) ∧ kdfHas (bookC (fun o => ct s o) s) 3 = false ∧
  (∀ k ∈ [(0 : Int), 1, 2], ct s k ≠ 0 → kdfHas (bookC (fun o => ct s o) s) k = true ∧ kdfLook (bookC (fun o => ct s o) s) k 0 = ct s k) ∧
  List.sum (s.map fun o => o) = ct s 1 + 2 * ct s 2 ∧ List.sum (s.map fun o => o * o) = ct s 1 + 4 * ct s 2
set_option maxHeartbeats 4000000 in
theorem vb : ∀ s ∈ all3, VB s := by decide +kernel
theorem mem_all3 {s0 s1 s2 s3 s4 : Int} (h : ∀ s ∈ [s0, s1, s2, s3, s4], 0 ≤ s ∧ s ≤ 2) : [s0, s1, s2, s3, s4] ∈ all3 := by
  have g : ∀ x : Int, 0 ≤ x ∧ x ≤ 2 → x ∈ [(0 : Int), 1, 2] := fun x hx => by
    have : x = 0 ∨ x = 1 ∨ x = 2 := by lia
    rcases this with rfl | rfl | rfl <;> decide
  unfold all3
  exact List.mem_flatMap.mpr ⟨s0, g _ (h _ (.head _)), List.mem_flatMap.mpr ⟨s1, g _ (h _ (.tail _ (.head _))), List.mem_flatMap.mpr ⟨s2, g _ (h _ (.tail _ (.tail _ (.head _)))), List.mem_flatMap.mpr ⟨s3, g _ (h _ (.tail _ (.tail _ (.tail _ (.head _))))), List.mem_map.mpr ⟨s4, g _ (h _ (.tail _ (.tail _ (.tail _ (.tail _ (.head _)))))), rfl⟩⟩⟩⟩⟩
theorem j6 {j : Int} (h : 0 ≤ j) (h5 : j ≤ 5) : j = 0 ∨ j = 1 ∨ j = 2 ∨ j = 3 ∨ j = 4 ∨ j = 5 := by lia
/-- the votes' orders, the liar's last -/
theorem turn_eq {s0 s1 s2 s3 s4 j : Int} (h : 0 ≤ j) (h5 : j ≤ 5) : (wrs j).map (at5 [s0, s1, s2, s3, s4]) = [s1, s2, s3, s4, s0] ∨ (wrs j).map (at5 [s0, s1, s2, s3, s4]) = [s0, s2, s3, s4, s1] ∨ (wrs j).map (at5 [s0, s1, s2, s3, s4]) = [s0, s1, s3, s4, s2] ∨ (wrs j).map (at5 [s0, s1, s2, s3, s4]) = [s0, s1, s2, s4, s3] ∨ (wrs j).map (at5 [s0, s1, s2, s3, s4]) = [s0, s1, s2, s3, s4] := by
  rcases j6 h h5 with rfl | rfl | rfl | rfl | rfl | rfl
  · exact .inl rfl
  · exact .inr (.inl rfl)
  · exact .inr (.inr (.inl rfl))
  · exact .inr (.inr (.inr (.inl rfl)))
  · exact .inr (.inr (.inr (.inr rfl)))
  · exact .inr (.inr (.inr (.inr rfl)))
theorem perm_sum {s0 s1 s2 s3 s4 j : Int} (h : 0 ≤ j) (h5 : j ≤ 5) (f : Int → Int) : List.sum (((wrs j).map (at5 [s0, s1, s2, s3, s4])).map f) = List.sum ([s0, s1, s2, s3, s4].map f) := by
  rcases turn_eq (s0 := s0) (s1 := s1) (s2 := s2) (s3 := s3) (s4 := s4) h h5 with e | e | e | e | e <;> rw [e] <;> simp only [List.map_cons, List.map_nil, List.sum_cons, List.sum_nil] <;> lia
theorem perm_mem {s0 s1 s2 s3 s4 j : Int} (h : 0 ≤ j) (h5 : j ≤ 5) (hb : ∀ s ∈ [s0, s1, s2, s3, s4], 0 ≤ s ∧ s ≤ 2) : (wrs j).map (at5 [s0, s1, s2, s3, s4]) ∈ all3 := by
  rcases turn_eq (s0 := s0) (s1 := s1) (s2 := s2) (s3 := s3) (s4 := s4) h h5 with e | e | e | e | e <;> rw [e] <;> refine mem_all3 fun s hs => hb s ?_ <;> simp only [List.mem_cons, List.not_mem_nil, or_false] at hs ⊢ <;> (rcases hs with h | h | h | h | h <;> simp only [h, true_or, or_true])
theorem accS_sums (w : Int) : ∀ (l : List (Int × Int)) (a : Int × Int × Int × Int), l.foldl (fun a q => (q.1 + 1 + a.1, 2 ^ (w * q.2).toNat + a.2.1, q.2 + a.2.2.1, q.2 * q.2 + a.2.2.2)) a =
    (List.sum (l.map fun q => q.1 + 1) + a.1, List.sum (l.map fun q => (2 : Int) ^ (w * q.2).toNat) + a.2.1, List.sum (l.map fun q => q.2) + a.2.2.1, List.sum (l.map fun q => q.2 * q.2) + a.2.2.2)
  | [], a => by simp
  | q :: l, a => by
    rw [List.foldl_cons, accS_sums w l]
    simp only [List.map_cons, List.sum_cons, Prod.mk.injEq]
    refine ⟨?_, ?_, ?_, ?_⟩ <;> lia
theorem find_app {c : List (Int × Int)} {k v k' : Int} (h : kdfHas c k = true) : kdfHas (c ++ [(k', v)]) k = true ∧ kdfLook (c ++ [(k', v)]) k 0 = kdfLook c k 0 := by
  unfold kdfHas kdfLook at *
  refine ⟨by rw [List.any_append, h, Bool.true_or], ?_⟩
  rw [List.find?_append]
  cases e : c.find? fun p => decide (p.1 = k) with
  | some x => rfl
  | none =>
    obtain ⟨x, hx, hp⟩ := List.any_eq_true.mp h
    exact absurd hp (by simpa using List.find?_eq_none.mp e x hx)
theorem find_new {c : List (Int × Int)} {k v : Int} (h : kdfHas c k = false) : kdfHas (c ++ [(k, v)]) k = true ∧ kdfLook (c ++ [(k, v)]) k 0 = v := by
  unfold kdfHas kdfLook at *
  refine ⟨by rw [List.any_append]; simp, ?_⟩
  rw [List.find?_append]
  have e : c.find? (fun p => decide (p.1 = k)) = none := List.find?_eq_none.mpr fun x hx hp => by
    have this : (c.any fun p => decide (p.1 = k)) = true := List.any_eq_true.mpr ⟨x, hx, hp⟩
    rw [h] at this
    cases this
  rw [e]
  simp
theorem most_ct {s t : List Int} (h : ∀ o, ct t o = ct s o) (way : Int) : most t way = most s way := by
  unfold most
  rw [h 0, h 1, h 2]
theorem vt_all {t : List Int} {w : Int} (ht : t ∈ all3) (h5 : 3 ≤ w) (h6 : w ≤ 6) : VT t w := by
  rcases wid4 h5 h6 with rfl | rfl | rfl | rfl
  · exact vt3 t ht
  · exact vt4 t ht
  · exact vt5 t ht
  · exact vt6 t ht
theorem vf_all {s0 s1 s2 s3 s4 j w : Int} (h : ∀ s ∈ [s0, s1, s2, s3, s4], 0 ≤ s ∧ s ≤ 2) (hj : 0 ≤ j) (hj5 : j ≤ 5) (h5 : 3 ≤ w) (h6 : w ≤ 6) : VF [s0, s1, s2, s3, s4] j w := by
  have hb := vb _ (mem_all3 h)
  have ht := vt_all (perm_mem hj hj5 h) h5 h6
  have hc : ∀ o, ct ((wrs j).map (at5 [s0, s1, s2, s3, s4])) o = ct [s0, s1, s2, s3, s4] o := fun o => perm_sum hj hj5 fun x => if x = o then 1 else 0
  have htot : totS w ((wrs j).map (at5 [s0, s1, s2, s3, s4])) = totS w [s0, s1, s2, s3, s4] := perm_sum hj hj5 fun o => (2 : Int) ^ (w * o).toNat
  have ho : List.sum (((wrs j).map (at5 [s0, s1, s2, s3, s4])).map fun o => o) = List.sum ([s0, s1, s2, s3, s4].map fun o => o) := perm_sum hj hj5 fun o => o
  have ho2 : List.sum (((wrs j).map (at5 [s0, s1, s2, s3, s4])).map fun o => o * o) = List.sum ([s0, s1, s2, s3, s4].map fun o => o * o) := perm_sum hj hj5 fun o => o * o
  have hC : accC w (qsOf [s0, s1, s2, s3, s4] j) = accT w ((wrs j).map (at5 [s0, s1, s2, s3, s4])) := by
    unfold accC accT qsOf
    rw [List.foldl_map, List.foldl_map]
  have hS : accS w (qsOf [s0, s1, s2, s3, s4] j) = (15, totS w [s0, s1, s2, s3, s4], ct [s0, s1, s2, s3, s4] 1 + 2 * ct [s0, s1, s2, s3, s4] 2, ct [s0, s1, s2, s3, s4] 1 + 4 * ct [s0, s1, s2, s3, s4] 2) := by
    unfold accS
    rw [accS_sums, ← hb.2.2.2.1, ← hb.2.2.2.2, ← ho, ← ho2, ← htot]
    unfold qsOf totS
    simp only [List.map_map, Int.add_zero, Prod.mk.injEq]
    refine ⟨?_, rfl, rfl, rfl⟩
    rcases j6 hj hj5 with rfl | rfl | rfl | rfl | rfl | rfl <;> rfl
  have hB : bookS w [s0, s1, s2, s3, s4] = bookC (fun o => ct [s0, s1, s2, s3, s4] o) [s0, s1, s2, s3, s4] ++ [(3, totS w [s0, s1, s2, s3, s4])] := by
    unfold bookS kdfPut
    have := hb.2.1
    unfold kdfHas at this
    rw [if_neg (by rw [this]; exact Bool.false_ne_true)]
    rfl
  obtain ⟨g0, g1, g2, g3, g4, g5, g6⟩ := ht
  generalize (wrs j).map (at5 [s0, s1, s2, s3, s4]) = t at *
  generalize [s0, s1, s2, s3, s4] = s at *
  unfold VF
  rw [hS, hC, hB]
  simp only [hc] at g1 g2 g6
  rw [htot] at g0 g3
  simp only [htot] at g2
  refine ⟨rfl, g0, rfl, rfl, rfl, ?_, ?_, g3, ?_, g4, g5, ?_⟩
  · rw [g1, List.length_append, hb.1]; rfl
  · intro p hp
    rcases g2 p hp with ⟨e1, e2⟩ | ⟨e1, e2, e3⟩ | ⟨e1, e2, e3⟩ | ⟨e1, e2, e3⟩
    · rw [e1, e2]; exact find_new hb.2.1
    · have q := hb.2.2.1 0 (.head _) e3
      have r := find_app (v := totS w s) (k' := 3) q.1
      rw [e1, e2]; exact ⟨r.1, r.2.trans q.2⟩
    · have q := hb.2.2.1 1 (.tail _ (.head _)) e3
      have r := find_app (v := totS w s) (k' := 3) q.1
      rw [e1, e2]; exact ⟨r.1, r.2.trans q.2⟩
    · have q := hb.2.2.1 2 (.tail _ (.tail _ (.head _))) e3
      have r := find_app (v := totS w s) (k' := 3) q.1
      rw [e1, e2]; exact ⟨r.1, r.2.trans q.2⟩
  · intro p hp
    rcases g2 p hp with ⟨e1, _⟩ | ⟨e1, _⟩ | ⟨e1, _, e3⟩ | ⟨e1, _, e3⟩
    · exact .inl e1
    · exact .inr (.inl e1)
    · exact .inr (.inr (.inl ⟨e1, e3⟩))
    · exact .inr (.inr (.inr ⟨e1, e3⟩))
  · intro way hw
    rw [g6 way hw]
    exact most_ct hc way
end Mine
namespace Mine
abbrev DigN' (e k : Int) : Prop := e = k
abbrev ShR' (a n q : Int) : Prop := 0 ≤ n ∧ a.fdiv (2 ^ n.toNat) = q
abbrev ShL' (a n q : Int) : Prop := 0 ≤ n ∧ n ≤ 1000000 ∧ a.natAbs < 2 ^ 64 ∧ a * 2 ^ n.toNat = q
abbrev Xr' (a b q : Int) : Prop := Builtin.bitXor a b = q
theorem digN_of {e k : Int} (h : DigN' e k) : DigN e k := ⟨h⟩
theorem shR_of {a n q : Int} (h : ShR' a n q) : ShR a n q := ⟨h.1, h.2⟩
theorem shL_of {a n q : Int} (h : ShL' a n q) : ShL a n q := ⟨h.1, h.2.1, h.2.2.1, h.2.2.2⟩
theorem xr_of {a b q : Int} (h : Xr' a b q) : Xr a b q := ⟨h⟩
abbrev DigH (width S c0 c1 c2 : Int) : Prop :=
  (c2 = 0 ∧ c1 = 0 ∧ S = c0 ∧ DigN' (Int.fdiv (((Builtin.Int.intBits S : Nat) : Int) + width - 1) width) 1) ∨
  (c2 = 0 ∧ c1 ≠ 0 ∧ DigN' (Int.fdiv (((Builtin.Int.intBits S : Nat) : Int) + width - 1) width) 2 ∧
    ShR' S ((Int.fdiv (0 + 2) (2 ^ Int.toNat 1) - 0) * width) c1 ∧ ShL' c1 ((Int.fdiv (0 + 2) (2 ^ Int.toNat 1) - 0) * width) (c1 * 2 ^ width.toNat) ∧ Xr' S (c1 * 2 ^ width.toNat) c0) ∨
  (c2 ≠ 0 ∧ DigN' (Int.fdiv (((Builtin.Int.intBits S : Nat) : Int) + width - 1) width) 3 ∧
    ShR' S ((Int.fdiv (0 + 3) (2 ^ Int.toNat 1) - 0) * width) (S.fdiv (2 ^ width.toNat)) ∧ ShL' (S.fdiv (2 ^ width.toNat)) ((Int.fdiv (0 + 3) (2 ^ Int.toNat 1) - 0) * width) (S.fdiv (2 ^ width.toNat) * 2 ^ width.toNat) ∧ Xr' S (S.fdiv (2 ^ width.toNat) * 2 ^ width.toNat) c0 ∧
    ShR' (S.fdiv (2 ^ width.toNat)) ((Int.fdiv (Int.fdiv (0 + 3) (2 ^ Int.toNat 1) + 3) (2 ^ Int.toNat 1) - Int.fdiv (0 + 3) (2 ^ Int.toNat 1)) * width) c2 ∧ ShL' c2 ((Int.fdiv (Int.fdiv (0 + 3) (2 ^ Int.toNat 1) + 3) (2 ^ Int.toNat 1) - Int.fdiv (0 + 3) (2 ^ Int.toNat 1)) * width) (c2 * 2 ^ width.toNat) ∧ Xr' (S.fdiv (2 ^ width.toNat)) (c2 * 2 ^ width.toNat) c1)
theorem dig_of {width S c0 c1 c2 : Int} (h : DigH width S c0 c1 c2) : DigF width S c0 c1 c2 := by
  rcases h with ⟨a, b, c, d⟩ | ⟨a, b, c, d, e, f⟩ | ⟨a, b, c, d, e, f, g, i⟩
  · exact .inl ⟨a, b, c, digN_of d⟩
  · exact .inr (.inl ⟨a, b, digN_of c, shR_of d, shL_of e, xr_of f⟩)
  · exact .inr (.inr ⟨a, digN_of b, _, _, shR_of c, shL_of d, xr_of e, shR_of f, shL_of g, xr_of i⟩)
set_option maxHeartbeats 4000000 in
theorem digh : ∀ w ∈ [(3 : Int), 4, 5, 6], ∀ s ∈ all3, DigH w (List.sum (s.map fun o => (2 : Int) ^ (w * o).toNat)) (ct s 0) (ct s 1) (ct s 2) := by decide +kernel
end Mine
namespace Mine
theorem Ctr.mono {prog : Program} {w : World} {d : Nat} {f : Addr} {vs : List Value} {led : List (Addr × Obj)} {Ret Ret' : (Value → List (Addr × Obj) → Prop) → Prop} (C : Ctr prog w d f vs led Ret) (h : ∀ k, Ret' k → Ret k) : Ctr prog w d f vs led Ret' := by
  unfold Ctr
  intro p loose mean mg mb dp un gd cn cs a ccd cl outer A₀ base h₀ L m s Q E B F X N T hk hd hu hret
  exact C _ _ _ _ _ _ _ _ _ _ _ _ _ _ _ _ _ _ _ _ _ _ B F X N T hk hd hu (h _ hret)
theorem b3_ct {s : List Int} {k : Int} (h : 0 ≤ k ∧ k ≤ 2) : b3 (ct s 0) (ct s 1) (ct s 2) k = ct s k := by
  have : k = 0 ∨ k = 1 ∨ k = 2 := by lia
  rcases this with rfl | rfl | rfl <;> simp [b3]
theorem wrs_len {j : Int} (h : 0 ≤ j) (h5 : j ≤ 5) : (wrs j).length = 5 := by
  have : j = 0 ∨ j = 1 ∨ j = 2 ∨ j = 3 ∨ j = 4 ∨ j = 5 := by lia
  rcases this with rfl | rfl | rfl | rfl | rfl | rfl <;> decide
theorem view2 {prog : Program} {w : World} {lv ls : Addr} {vs : List Value} {nv n : Nat} {s0 s1 s2 s3 s4 width way j : Int} {t0 t1 t2 t3 t4 t5 t6 : Tok} {x o1 : Obj} {c1 : Addr} {led : List (Addr × Obj)} (h5 : 3 ≤ width) (h6 : width ≤ 6) (hj : 0 ≤ j) (hj5 : j ≤ 5) (hway : way = 1 ∨ way = -1)
    (hbs : ∀ s ∈ [s0, s1, s2, s3, s4], 0 ≤ s ∧ s ≤ 2) (hv : (lv, listOf vs.toArray nv) ∈ led) (hs : (ls, cellsO s0 s1 s2 s3 s4 t0 t1 t2 t3 t4 n) ∈ led) (hl : vs.length = 5) (hTK : TK p104 q104 x c1 o1) (hc1 : (@Ne Nat c1 104)) (h104 : ∀ p ∈ led, p.1 ≠ 104)
    (hvs : ∀ (i : Nat) v q, vs[i]? = some v → (qsOf [s0, s1, s2, s3, s4] j)[i]? = some q → IsVote prog w led width v q) :
    Ctr prog w 20 210 [.ref lv, .ref ls, .int width t5, .int way t6] ((104, x) :: (c1, o1) :: led) fun k => ∀ T e0 e1 ca oa, CF oa q104 → ((∀ p ∈ (104, x) :: led, p.1 < ca) ∨ ca = c1) → k (.ref T) ((T, rowO (most [s0, s1, s2, s3, s4] way) (ct [s0, s1, s2, s3, s4] (most [s0, s1, s2, s3, s4] way)) e0 e1) :: (104, tab104 ca) :: (ca, oa) :: led) := by
  obtain ⟨g1, g2, g3, g4, g5, g6, g7, g8, g9, g10, g11, g12⟩ := vf_all hbs hj hj5 h5 h6
  have hdig : DigF width (accS width (qsOf [s0, s1, s2, s3, s4] j)).2.1 (ct [s0, s1, s2, s3, s4] 0) (ct [s0, s1, s2, s3, s4] 1) (ct [s0, s1, s2, s3, s4] 2) := by
    rw [g3]
    refine dig_of (digh width ?_ _ (mem_all3 hbs))
    rcases wid4 h5 h6 with rfl | rfl | rfl | rfl <;> decide
  cases hk : keys3 (accC width (qsOf [s0, s1, s2, s3, s4] j)) with
  | nil => exact absurd hk g11
  | cons k0 kr =>
    refine Ctr.mono (view_ctr h5 h6 hbs hv hs hl (by unfold qsOf; rw [List.length_map]; exact wrs_len hj hj5) hTK hc1 h104 g2 hdig g8 g1 g3 g4 g5 g6 g7 g9 g10 hk hvs) ?_
    intro k hr kb T e0 e1 ca oa hkb hCF hsep
    have e := g12 way (by rcases hway with rfl | rfl <;> decide)
    rw [hk] at e hkb
    have e2 : kb = most [s0, s1, s2, s3, s4] way := by rw [hkb]; exact e
    subst e2
    have := hr T e0 e1 ca oa hCF hsep
    rw [b3_ct (most_b _ _)]
    exact this
end Mine
end
section
theorem Mine.fresh16 {prog : Program} {w : World} {A : Around} {E : Value → Shared → Prop} {s : Shared} {Q : Bool → Shared → Prop} (h : wpAny (model prog w) A (truthy (.bool true)) Q E s) : wpAny (model prog w) A (truthy (.bool true)) Q E s := by
  w_top off
  first | (walk1; fail "no") | exact h
namespace Mine
/-- the two code tables and what they hold -/
def Tabs (hd : List (Addr × Obj)) : Prop := Mine.Ex6 fun x c1 o1 y c2 o2 => Mine.And7 (hd = [(104, x), (c1, o1), (90, y), (c2, o2)]) (TK p104 q104 x c1 o1) ((@Ne Nat c1 104)) ((@Ne Nat c1 90)) (TK p90 q90 y c2 o2) ((@Ne Nat c2 90)) ((@Ne Nat c2 104))
/-- what was off the old tables and stands in the ledger is off the new ones -/
def Keep (hd led hd' : List (Addr × Obj)) : Prop := ∀ a : Addr, (∀ p ∈ hd, p.1 ≠ a) → (∃ p ∈ led, p.1 = a) → ∀ p ∈ hd', p.1 ≠ a
def OffT (l : List (Addr × Obj)) : Prop := ∀ p ∈ l, (@Ne Nat p.1 104) ∧ (@Ne Nat p.1 90)
theorem ne_of_or {a c' c1 : Addr} {led : List (Addr × Obj)} (h : (∀ p ∈ led, p.1 < c') ∨ c' = c1) (hm : ∃ p ∈ led, p.1 = a) (hne : c1 ≠ a) : c' ≠ a := by
  rcases h with h | h
  · obtain ⟨p, hp, rfl⟩ := hm
    exact Ne.symm (Nat.ne_of_lt (h p hp))
  · rw [h]; exact hne
theorem vote2 {prog : Program} {w : World} {order writer how width : Int} {lies : Bool} {t1 t2 t3 t4 : Tok} {hd vl : List (Addr × Obj)} (ex : List (Addr × Obj)) (h1 : 0 ≤ order) (h2 : order ≤ 2) (h3 : 0 ≤ writer) (h4 : writer ≤ 4) (h5 : 3 ≤ width) (h6 : width ≤ 6) (h7 : 0 ≤ how)
    (hT : Tabs hd) (hex : OffT ex) (hvl : OffT vl) :
    Ctr prog w 20 205 [.int order t1, .int writer t2, .int how t3, .int width t4, .bool lies] (ex ++ (hd ++ vl)) fun k => ∀ T D u1 u2 u3 u4 od hd', KD prog w od [(order, 1), (3, 2 ^ (width * order).toNat)] → Tabs hd' → Keep hd (ex ++ vl) hd' → (∀ p ∈ ex ++ vl, p.1 < D) → (@LT.lt Nat _ 104 D) → D < T →
      k (.ref T) (ex ++ (hd' ++ ((T, statO (writer + 1) (2 ^ (width * order).toNat) order (order * order) u1 u2 u3 u4 D) :: (D, od) :: vl))) := by
  obtain ⟨x, c1, o1, y, c2, o2, rfl, hx, hc1, hc1', hy, hc2, hc2'⟩ := hT
  have hof : OffT (ex ++ vl) := fun p hp => by rcases List.mem_append.mp hp with h | h; exact hex p h; exact hvl p h
  have base := vote_ctr (prog := prog) (w := w) (lies := lies) (t1 := t1) (t2 := t2) (t3 := t3) (t4 := t4) (led := ex ++ vl) h1 h2 h3 h4 h5 h6 h7 hx hc1 hy hc2 (List.forall_mem_cons.mpr ⟨hc2', fun p hp => (hof p hp).1⟩) (List.forall_mem_cons.mpr ⟨hc1', fun p hp => (hof p hp).2⟩)
  unfold Ctr at base ⊢
  intro p loose mean mg mb dp un gd cn cs a ccd cl outer A₀ bs h₀ L m s Q E B F X N T hk hd hu hret
  refine base _ _ _ _ _ _ _ _ _ _ _ _ _ _ _ _ _ _ _ _ _ _ B F X (news_sub N fun p hp => ?_) T hk hd hu ?_
  · ((revert hp; revert p; (repeat (first | exact Mine.sub_nil | (refine Mine.sub_cons ?_ ?_; focus (first | exact Mine.m0 | exact Mine.m1 | exact Mine.m2 | exact Mine.m3 | exact Mine.m4 | exact Mine.m5 | exact Mine.m6 | exact Mine.mAt 7 rfl | exact Mine.mAt 8 rfl | exact Mine.mAt 9 rfl | exact Mine.mAt 10 rfl | exact Mine.mAt 11 rfl | exact Mine.mAt 12 rfl | exact Mine.mAt 13 rfl | exact Mine.mAt 14 rfl | exact Mine.mAt 15 rfl | exact Mine.mAt 16 rfl | exact Mine.mAt 17 rfl | exact Mine.mAt 18 rfl | exact Mine.mAt 19 rfl | exact Mine.mAt 20 rfl | exact Mine.mAt 21 rfl | exact Mine.mAt 22 rfl | exact Mine.mAt 23 rfl | (repeat (first | exact List.Mem.head _ | apply List.mem_cons_of_mem | apply List.mem_append_right)))) | (refine Mine.sub_app ?_ ?_) | (intro p9 hp9; (repeat (first | exact hp9 | exact List.mem_append_left _ hp9 | apply List.mem_cons_of_mem | apply List.mem_append_right)))))))
  · intro T D u1 u2 u3 u4 od c' o' c'' o'' hK hD hDT hC hs hC2 hs2 hcD hcD2 h' dr' tk' F' N'
    refine hret T D u1 u2 u3 u4 od [(104, tab104 c'), (c', o'), (90, tab90 c''), (c'', o'')] hK ⟨_, _, _, _, _, _, rfl, .inr ⟨rfl, hC⟩, ?_, ?_, .inr ⟨rfl, hC2⟩, ?_, ?_⟩ ?_ (fun p hp => hD p (.tail _ (.tail _ hp))) (hD _ (.head _)) hDT h' dr' tk' F' (news_sub N' fun p hp => ?_)
    · exact ne_of_or hs ⟨_, .head _, rfl⟩ hc1
    · exact ne_of_or hs ⟨_, .tail _ (.head _), rfl⟩ hc1'
    · exact ne_of_or hs2 ⟨_, .head _, rfl⟩ hc2
    · exact ne_of_or hs2 ⟨_, .tail _ (.head _), rfl⟩ hc2'
    · rintro a ha ⟨q, hq, rfl⟩
      refine List.forall_mem_cons.mpr ⟨ha (104, x) (.head _), List.forall_mem_cons.mpr ⟨?_, List.forall_mem_cons.mpr ⟨ha (90, y) (.tail _ (.tail _ (.head _))), List.forall_mem_cons.mpr ⟨?_, fun p hp => nomatch hp⟩⟩⟩⟩
      · exact ne_of_or hs ⟨q, .tail _ (.tail _ hq), rfl⟩ (ha (c1, o1) (.tail _ (.head _)))
      · exact ne_of_or hs2 ⟨q, .tail _ (.tail _ hq), rfl⟩ (ha (c2, o2) (.tail _ (.tail _ (.tail _ (.head _)))))
    · ((revert hp; revert p; (repeat (first | exact Mine.sub_nil | (refine Mine.sub_cons ?_ ?_; focus (first | exact Mine.m0 | exact Mine.m1 | exact Mine.m2 | exact Mine.m3 | exact Mine.m4 | exact Mine.m5 | exact Mine.m6 | exact Mine.mAt 7 rfl | exact Mine.mAt 8 rfl | exact Mine.mAt 9 rfl | exact Mine.mAt 10 rfl | exact Mine.mAt 11 rfl | exact Mine.mAt 12 rfl | exact Mine.mAt 13 rfl | exact Mine.mAt 14 rfl | exact Mine.mAt 15 rfl | exact Mine.mAt 16 rfl | exact Mine.mAt 17 rfl | exact Mine.mAt 18 rfl | exact Mine.mAt 19 rfl | exact Mine.mAt 20 rfl | exact Mine.mAt 21 rfl | exact Mine.mAt 22 rfl | exact Mine.mAt 23 rfl | (repeat (first | exact List.Mem.head _ | apply List.mem_cons_of_mem | apply List.mem_append_right)))) | (refine Mine.sub_app ?_ ?_) | (intro p9 hp9; (repeat (first | exact hp9 | exact List.mem_append_left _ hp9 | apply List.mem_cons_of_mem | apply List.mem_append_right)))))))
theorem view3 {prog : Program} {w : World} {lv ls : Addr} {vs : List Value} {nv n : Nat} {s0 s1 s2 s3 s4 width way j : Int} {t0 t1 t2 t3 t4 t5 t6 : Tok} {hd vl : List (Addr × Obj)} (ex : List (Addr × Obj)) (h5 : 3 ≤ width) (h6 : width ≤ 6) (hj : 0 ≤ j) (hj5 : j ≤ 5) (hway : way = 1 ∨ way = -1)
    (hbs : ∀ s ∈ [s0, s1, s2, s3, s4], 0 ≤ s ∧ s ≤ 2) (hv : (lv, listOf vs.toArray nv) ∈ ex ++ vl) (hs : (ls, cellsO s0 s1 s2 s3 s4 t0 t1 t2 t3 t4 n) ∈ ex ++ vl) (hl : vs.length = 5) (hT : Tabs hd) (hex : OffT ex) (hvl : OffT vl)
    (hvs : ∀ (i : Nat) v q, vs[i]? = some v → (qsOf [s0, s1, s2, s3, s4] j)[i]? = some q → IsVote prog w (ex ++ vl) width v q) :
    Ctr prog w 20 210 [.ref lv, .ref ls, .int width t5, .int way t6] (ex ++ (hd ++ vl)) fun k => ∀ T e0 e1 hd', Tabs hd' → Keep hd (ex ++ vl) hd' →
      k (.ref T) (ex ++ (hd' ++ ((T, rowO (most [s0, s1, s2, s3, s4] way) (ct [s0, s1, s2, s3, s4] (most [s0, s1, s2, s3, s4] way)) e0 e1) :: vl))) := by
  obtain ⟨x, c1, o1, y, c2, o2, rfl, hx, hc1, hc1', hy, hc2, hc2'⟩ := hT
  have hof : OffT (ex ++ vl) := fun p hp => by rcases List.mem_append.mp hp with h | h; exact hex p h; exact hvl p h
  have base := view2 (prog := prog) (w := w) (t5 := t5) (t6 := t6) (led := (90, y) :: (c2, o2) :: (ex ++ vl)) h5 h6 hj hj5 hway hbs (.tail _ (.tail _ hv)) (.tail _ (.tail _ hs)) hl hx hc1 (List.forall_mem_cons.mpr ⟨(by decide : (@Ne Nat 90 104)), List.forall_mem_cons.mpr ⟨hc2', fun p hp => (hof p hp).1⟩⟩)
    (fun i v q a b => let ⟨T, D, u1, u2, u3, u4, od, e, m1, m2, k, l⟩ := hvs i v q a b; ⟨T, D, u1, u2, u3, u4, od, e, .tail _ (.tail _ m1), .tail _ (.tail _ m2), k, l⟩)
  unfold Ctr at base ⊢
  intro p loose mean mg mb dp un gd cn cs a ccd cl outer A₀ bs h₀ L m s Q E B F X N T hk hd hu hret
  refine base _ _ _ _ _ _ _ _ _ _ _ _ _ _ _ _ _ _ _ _ _ _ B F X (news_sub N fun p hp => ?_) T hk hd hu ?_
  · ((revert hp; revert p; (repeat (first | exact Mine.sub_nil | (refine Mine.sub_cons ?_ ?_; focus (first | exact Mine.m0 | exact Mine.m1 | exact Mine.m2 | exact Mine.m3 | exact Mine.m4 | exact Mine.m5 | exact Mine.m6 | exact Mine.mAt 7 rfl | exact Mine.mAt 8 rfl | exact Mine.mAt 9 rfl | exact Mine.mAt 10 rfl | exact Mine.mAt 11 rfl | exact Mine.mAt 12 rfl | exact Mine.mAt 13 rfl | exact Mine.mAt 14 rfl | exact Mine.mAt 15 rfl | exact Mine.mAt 16 rfl | exact Mine.mAt 17 rfl | exact Mine.mAt 18 rfl | exact Mine.mAt 19 rfl | exact Mine.mAt 20 rfl | exact Mine.mAt 21 rfl | exact Mine.mAt 22 rfl | exact Mine.mAt 23 rfl | (repeat (first | exact List.Mem.head _ | apply List.mem_cons_of_mem | apply List.mem_append_right)))) | (refine Mine.sub_app ?_ ?_) | (intro p9 hp9; (repeat (first | exact hp9 | exact List.mem_append_left _ hp9 | apply List.mem_cons_of_mem | apply List.mem_append_right)))))))
  · intro T e0 e1 ca oa hC hs h' dr' tk' F' N'
    refine hret T e0 e1 [(104, tab104 ca), (ca, oa), (90, y), (c2, o2)] ⟨_, _, _, _, _, _, rfl, .inr ⟨rfl, hC⟩, ?_, ?_, hy, hc2, hc2'⟩ ?_ h' dr' tk' F' (news_sub N' fun p hp => ?_)
    · exact ne_of_or hs ⟨_, .head _, rfl⟩ hc1
    · exact ne_of_or hs ⟨_, .tail _ (.head _), rfl⟩ hc1'
    · rintro a ha ⟨q, hq, rfl⟩
      refine List.forall_mem_cons.mpr ⟨ha (104, x) (.head _), List.forall_mem_cons.mpr ⟨?_, fun p hp => ha p (.tail _ (.tail _ hp))⟩⟩
      exact ne_of_or hs ⟨q, .tail _ (.tail _ (.tail _ hq)), rfl⟩ (ha (c1, o1) (.tail _ (.head _)))
    · ((revert hp; revert p; (repeat (first | exact Mine.sub_nil | (refine Mine.sub_cons ?_ ?_; focus (first | exact Mine.m0 | exact Mine.m1 | exact Mine.m2 | exact Mine.m3 | exact Mine.m4 | exact Mine.m5 | exact Mine.m6 | exact Mine.mAt 7 rfl | exact Mine.mAt 8 rfl | exact Mine.mAt 9 rfl | exact Mine.mAt 10 rfl | exact Mine.mAt 11 rfl | exact Mine.mAt 12 rfl | exact Mine.mAt 13 rfl | exact Mine.mAt 14 rfl | exact Mine.mAt 15 rfl | exact Mine.mAt 16 rfl | exact Mine.mAt 17 rfl | exact Mine.mAt 18 rfl | exact Mine.mAt 19 rfl | exact Mine.mAt 20 rfl | exact Mine.mAt 21 rfl | exact Mine.mAt 22 rfl | exact Mine.mAt 23 rfl | (repeat (first | exact List.Mem.head _ | apply List.mem_cons_of_mem | apply List.mem_append_right)))) | (refine Mine.sub_app ?_ ?_) | (intro p9 hp9; (repeat (first | exact hp9 | exact List.mem_append_left _ hp9 | apply List.mem_cons_of_mem | apply List.mem_append_right)))))))
theorem set_ints_toks {vs : List Value} {ns : List Int} {x : Int} {t : Tok} (h : IntsAre vs ns) : ∀ k : Nat, IntsAre (vs.set k (.int x t)) (ns.set k x) := by
  induction h with
  | nil => intro k; exact .nil
  | cons a u _ ih =>
    intro k
    cases k with
    | zero => exact .cons _ _ (by assumption)
    | succ k => exact .cons _ _ (ih k)
section
variable {prog : Program} {w : World} {A : Around} {E : Value → Shared → Prop} {s : Shared} {h₀ : Heap} {L D : Addr} {m : Str → Option Value} {news : List (Addr × Obj)} {g : Obj → List (Addr × Obj)}
theorem set_ints {vs : List Value} {ns : List Int} {k x : Int} {t u : Tok} {n : Nat} {Q : Unit → Shared → Prop} (F : Fr h₀ L s.heap m) (N : News h₀ L s.heap news) (U : UpdF D (listOf vs.toArray n) news g) (hi : IntsAre vs ns) (h0 : 0 ≤ k) (h1 : k < ns.length) (hz : ns.length ≤ 100)
    (h : ∀ h' vs' n', Fr h₀ L h' m → News h₀ L h' (g (listOf vs'.toArray n')) → IntsAre vs' (ns.set k.toNat x) → Q () { s with heap := h' }) : wpAny (model prog w) A (setItem (.ref D) (.int k t) (.int x u)) Q E s := by
  obtain ⟨pre, post, rfl, hg, a, b⟩ := U.split
  have z := N (D, listOf vs.toArray n) (List.mem_append.mpr (.inr (.head _)))
  have hl := hi.length
  have NN := ki_turn (its' := (vs.set k.toNat (.int x u)).toArray) (fun a => a.setIfInBounds k.toNat (.int x u)) N a b (by simp) rfl
  rw [← hg] at NN
  exact ki_setAt z.1 h0 (by omega) (by simp only [List.size_toArray]; omega) (h _ _ _ (F.change (Heap.SameBut.update ..) z.2.1 z.2.2) NN (set_ints_toks hi _))
theorem any_no : ∀ vs : List Value, (vs.any fun _ => false) = false
  | [] => rfl
  | _ :: vs => by rw [List.any_cons, any_no vs]; rfl
theorem none_in {l : Addr} {vs : List Value} {n : Nat} {Q : Value → Shared → Prop} (N : News h₀ L s.heap news) (hl : (l, listOf vs.toArray n) ∈ news) (hv : ∀ v ∈ vs, Mine.Ex2 fun T its => v = .ref T ∧ (T, tupO its) ∈ news) (hu : A.units + 1 < cLine) (h : Q (.bool false) s) :
    wpAny (model prog w) A (compareOp .In .none (.ref l)) Q E s := by
  refine PySem.SeqAt.in_listAt (fun _ => false) (ints_at N hl) (fun y hy => ?_) ?_
  · obtain ⟨T, its, rfl, hm⟩ := hv y (by simpa using hy)
    exact PySem.SeqAt.EqAt.tuple_none (items := its.toArray) ⟨_, (N _ hm).1, rfl, _, rfl⟩ (by first | omega | (simp only [units_in1]; omega))
  · rw [show vs.toArray.any (fun _ => false) = false by rw [List.any_toArray]; exact any_no vs]
    exact h
theorem ne_cls {p q : Addr × Obj} {led : List (Addr × Obj)} {h : Heap} (N : News h₀ L h led) (hp : p ∈ led) (hq : q ∈ led) (hc : p.2.cls ≠ q.2.cls) : p.1 ≠ q.1 := fun e => by
  have a := (N p hp).1
  have b := (N q hq).1
  rw [e] at a
  rw [b] at a
  injection a with a
  exact hc (by rw [a])
end
theorem vote_mono {prog : Program} {w : World} {l l' : List (Addr × Obj)} {width : Int} {v : Value} {q : Int × Int} (h : IsVote prog w l width v q) (hs : ∀ p ∈ l, p ∈ l') : IsVote prog w l' width v q :=
  let ⟨T, D, u1, u2, u3, u4, od, e, m1, m2, k, lt⟩ := h; ⟨T, D, u1, u2, u3, u4, od, e, hs _ m1, hs _ m2, k, lt⟩
end Mine
end
section
theorem Mine.fresh17 {prog : Program} {w : World} {A : Around} {E : Value → Shared → Prop} {s : Shared} {Q : Bool → Shared → Prop} (h : wpAny (model prog w) A (truthy (.bool true)) Q E s) : wpAny (model prog w) A (truthy (.bool true)) Q E s := by
  w_top off
  first | (walk1; fail "no") | exact h
namespace Mine
/-- one mapping over another, at some names -/
def ov (m : Str → Option Value) : List Str → (Str → Option Value) → Str → Option Value
  | [], _, z => m z
  | x :: r, f, z => if z = x then f x else ov m r f z
theorem ov_eq {m m' : Str → Option Value} {f : Str → Option Value} : ∀ {xs : List Str}, (∀ z, z ∉ xs → m' z = ov m xs f z) → (∀ z, z ∈ xs → m' z = f z) → m' = ov m xs f := by
  intro xs h1 h2
  have key : ∀ (ys : List Str) (z : Str), z ∈ ys → ov m ys f z = f z := by
    intro ys
    induction ys with
    | nil => intro z hz; exact nomatch hz
    | cons x r ih =>
      intro z hz
      unfold ov
      by_cases e : z = x
      · rw [if_pos e, e]
      · rw [if_neg e]
        rcases List.mem_cons.mp hz with h | h
        · exact absurd h e
        · exact ih z h
  funext z
  by_cases hz : z ∈ xs
  · rw [h2 z hz, key xs z hz]
  · exact h1 z hz
theorem ov_out {m : Str → Option Value} {f : Str → Option Value} : ∀ {xs : List Str} {z : Str}, z ∉ xs → ov m xs f z = m z
  | [], _, _ => rfl
  | x :: r, z, h => by
    unfold ov
    rw [if_neg (fun e : z = x => h (by rw [e]; exact .head _)), ov_out (fun hm => h (.tail _ hm))]
theorem ov_of {m m' : Str → Option Value} {xs : List Str} (h : ∀ z, z ∉ xs → m' z = m z) : m' = ov m xs m' :=
  ov_eq (fun z hz => by rw [h z hz, ov_out hz]) fun _ _ => rfl
theorem ov_over {m m' : Str → Option Value} {xs : List Str} {f : Str → Option Value} (h : ∀ z, z ∉ xs → m' z = ov m xs f z) : m' = ov m xs m' :=
  ov_of fun z hz => by rw [h z hz, ov_out hz]
theorem all_n {α : Type} {P : α → Prop} : ∀ x ∈ ([] : List α), P x := fun _ h => nomatch h
theorem all_c {α : Type} {P : α → Prop} {a : α} {l : List α} (h : P a) (t : ∀ x ∈ l, P x) : ∀ x ∈ a :: l, P x := List.forall_mem_cons.mpr ⟨h, t⟩
def OffA (As : List Addr) (l : List (Addr × Obj)) : Prop := ∀ a ∈ As, ∀ p ∈ l, p.1 ≠ a
theorem offA_vote {As : List Addr} {ex hd hd' vl : List (Addr × Obj)} {T D : Addr} {oT oD : Obj} (h : OffA As (hd ++ vl)) (hs : ∀ a ∈ As, ∃ p ∈ ex, p.1 = a) (hk : Keep hd (ex ++ vl) hd') (hD : ∀ p ∈ ex ++ vl, p.1 < D) (hT : D < T) :
    OffA As (hd' ++ ((T, oT) :: (D, oD) :: vl)) := by
  intro a ha p hp
  obtain ⟨q, hq, rfl⟩ := hs a ha
  have hlt := hD q (List.mem_append_left _ hq)
  rcases List.mem_append.mp hp with hp | hp
  · exact hk _ (fun p hp => h _ ha p (List.mem_append_left _ hp)) ⟨q, List.mem_append_left _ hq, rfl⟩ p hp
  · rcases List.mem_cons.mp hp with rfl | hp
    · exact Nat.ne_of_gt (Nat.lt_trans hlt hT)
    · rcases List.mem_cons.mp hp with rfl | hp
      · exact Nat.ne_of_gt hlt
      · exact h _ ha p (List.mem_append_right _ hp)
theorem offA_view {As : List Addr} {ex hd hd' vl : List (Addr × Obj)} {T : Addr} {oT : Obj} (h : OffA As (hd ++ vl)) (hs : ∀ a ∈ As, ∃ p ∈ ex, p.1 = a) (hk : Keep hd (ex ++ vl) hd') (hT : ∀ a ∈ As, T ≠ a) :
    OffA As (hd' ++ ((T, oT) :: vl)) := by
  intro a ha p hp
  obtain ⟨q, hq, rfl⟩ := hs a ha
  rcases List.mem_append.mp hp with hp | hp
  · exact hk _ (fun p hp => h _ ha p (List.mem_append_left _ hp)) ⟨q, List.mem_append_left _ hq, rfl⟩ p hp
  · rcases List.mem_cons.mp hp with rfl | hp
    · exact hT _ ha
    · exact h _ ha p (List.mem_append_right _ hp)
theorem offT_vote {ex vl : List (Addr × Obj)} {T D : Addr} {oT oD : Obj} (h : OffT vl) (hD : (@LT.lt Nat _ 104 D)) (hT : D < T) : OffT ((T, oT) :: (D, oD) :: vl) := by
  have h2 : (@LT.lt Nat _ D T) := hT
  refine List.forall_mem_cons.mpr ⟨⟨?_, ?_⟩, List.forall_mem_cons.mpr ⟨⟨?_, ?_⟩, h⟩⟩ <;> (show @Ne Nat _ _; dsimp only; lia)
theorem tabs_104 {hd : List (Addr × Obj)} (h : Tabs hd) : Mine.Ex2 fun x y => ((104, x) : Addr × Obj) ∈ hd ∧ ((90, y) : Addr × Obj) ∈ hd := by
  obtain ⟨x, c1, o1, y, c2, o2, rfl, _⟩ := h
  exact ⟨x, y, .head _, .tail _ (.tail _ (.head _))⟩
theorem va_map (k : Int) (v : Value) (k' : Int) : ∀ kvs : List (Int × Value), valueAt (kvs.map fun kv => if kv.1 = k then (kv.1, v) else kv) k' = if k' = k then (valueAt kvs k').map (fun _ => v) else valueAt kvs k'
  | [] => by simp [valueAt]
  | p :: r => by
    have ih := va_map k v k' r
    unfold valueAt at ih ⊢
    rw [List.map_cons, List.find?_cons, List.find?_cons]
    by_cases h1 : p.1 = k
    · by_cases h2 : p.1 = k'
      · simp [h1, h1.symm.trans h2]
      · simp only [if_pos h1, decide_eq_false h2]
        exact ih
    · by_cases h2 : p.1 = k'
      · have : ¬ k' = k := fun e => h1 (h2.trans e)
        simp [h1, h2, this]
      · simp only [if_neg h1, decide_eq_false h2]
        exact ih
theorem va_app (k : Int) (v : Value) (k' : Int) : ∀ kvs : List (Int × Value), (kvs.any fun kv => decide (kv.1 = k)) = false → valueAt (kvs ++ [(k, v)]) k' = if k' = k then some v else valueAt kvs k'
  | [], _ => by
    unfold valueAt
    by_cases h : k = k'
    · simp [h]
    · simp [h, Ne.symm h]
  | p :: r, h => by
    rw [List.any_cons, Bool.or_eq_false_iff] at h
    have ih := va_app k v k' r h.2
    have h1 := of_decide_eq_false h.1
    unfold valueAt at ih ⊢
    rw [List.cons_append, List.find?_cons, List.find?_cons]
    by_cases h2 : p.1 = k'
    · have : ¬ k' = k := fun e => h1 (h2.trans e)
      simp [h2, this]
    · simp only [decide_eq_false h2]
      exact ih
theorem va_some {k : Int} : ∀ {kvs : List (Int × Value)}, (kvs.any fun kv => decide (kv.1 = k)) = true → ∃ x, valueAt kvs k = some x
  | p :: r, h => by
    unfold valueAt
    rw [List.find?_cons]
    by_cases h2 : p.1 = k
    · exact ⟨p.2, by simp [h2]⟩
    · simp only [decide_eq_false h2]
      exact va_some (by rw [List.any_cons, decide_eq_false h2, Bool.false_or] at h; exact h)
theorem va_stored (k : Int) (v : Value) (k' : Int) (kvs : List (Int × Value)) : valueAt (stored kvs k v) k' = if k' = k then some v else valueAt kvs k' := by
  unfold stored
  by_cases h : (kvs.any fun kv => decide (kv.1 = k)) = true
  · rw [if_pos h, va_map]
    by_cases e : k' = k
    · subst e
      obtain ⟨x, hx⟩ := va_some h
      rw [if_pos rfl, if_pos rfl, hx]; rfl
    · rw [if_neg e, if_neg e]
  · rw [if_neg h, va_app k v k' kvs (Bool.eq_false_iff.mpr h)]
/-- the views' dict: each key's row stands in the ledger -/
def VMap (prog : Program) (w : World) (V : Addr) (dv : Obj) (lo : List Int) (f c : Int → Int) (led : List (Addr × Obj)) : Prop := V = V ∧ ∃ kvs, dv.IsDictOf (PySem.intKind prog w) kvs ∧ kvs.length ≤ lo.length ∧ ∀ k ∈ lo, Mine.Ex3 fun T u v => valueAt kvs k = some (.ref T) ∧ (T, rowO (f k) (c k) u v) ∈ led
theorem VMap.mono {prog : Program} {w : World} {V : Addr} {dv : Obj} {lo : List Int} {f c : Int → Int} {led led' : List (Addr × Obj)} (h : VMap prog w V dv lo f c led) (hs : ∀ p ∈ led, p ∈ led') : VMap prog w V dv lo f c led' :=
  let ⟨e, kvs, a, b, d⟩ := h; ⟨e, kvs, a, b, fun k hk => let ⟨T, u, v, x, y⟩ := d k hk; ⟨T, u, v, x, hs _ y⟩⟩
section
variable {prog : Program} {w : World} {A : Around} {E : Value → Shared → Prop} {s : Shared} {h₀ : Heap} {L V : Addr} {dv : Obj} {lo : List Int} {f c : Int → Int} {tl led : List (Addr × Obj)}
theorem holdV {value slice : PySem.Expr} {k : Int} {t : Tok} {Q : Value → Shared → Prop} (_vm : VMap prog w V dv lo f c tl) (h : Hold (wpAny (model prog w) A (subscriptTail value slice (.ref V) (.int k t)) Q E s)) : wpAny (model prog w) A (subscriptTail value slice (.ref V) (.int k t)) Q E s := h.h
theorem holdS {k : Int} {t : Tok} {x : Value} {Q : Unit → Shared → Prop} (_vm : VMap prog w V dv lo f c tl) (h : Hold (wpAny (model prog w) A (setItem (.ref V) (.int k t) x) Q E s)) : wpAny (model prog w) A (setItem (.ref V) (.int k t) x) Q E s := h.h
theorem vitem {value slice : PySem.Expr} {k : Int} {t : Tok} {Q : Value → Shared → Prop} (vm : VMap prog w V dv lo f c tl) (N : News h₀ L s.heap led) (hV : (V, dv) ∈ led) (hk : k ∈ lo) (h : ∀ T u v, (T, rowO (f k) (c k) u v) ∈ tl → Q (.ref T) { s with toks := s.toks + 1 })
    (hs : subscripted slice false (.ref V) (.int k t) = operate [.ref V, .int k t] (getItem (.ref V) (.int k t)) := by with_unfolding_all rfl) :
    wpAny (model prog w) A (subscriptTail value slice (.ref V) (.int k t)) Q E s := by
  obtain ⟨_, kvs, hd, _, hr⟩ := vm
  obtain ⟨T, u, v, hv, hm⟩ := hr k hk
  exact kdt_tail N hV hd (kdt_getItem N hV hd (intKind_is _ _ _ _) hv (h T u v hm)) hs
theorem vset {m : Str → Option Value} {g : Obj → List (Addr × Obj)} {k : Int} {t : Tok} {T : Addr} {u v : Tok} {Q : Unit → Shared → Prop} (vm : VMap prog w V dv lo f c tl) (hl : lo.length ≤ 5) (F : Fr h₀ L s.heap m) (N : News h₀ L s.heap led) (U : UpdF V dv led g) (hT : (T, rowO (f k) (c k) u v) ∈ tl)
    (h : ∀ h' dv', Fr h₀ L h' m → News h₀ L h' (g dv') → VMap prog w V dv' (lo ++ [k]) f c tl → Q () { s with heap := h', toks := s.toks + 1 }) :
    wpAny (model prog w) A (setItem (.ref V) (.int k t) (.ref T)) Q E s := by
  obtain ⟨_, kvs, hd, hkl, hr⟩ := vm
  refine kda_set F N U hd (intKind_is _ _ _ _) (by rw [sizeLine_eq]; lia) fun h' o' F' N' hd' => h h' o' F' N' ⟨rfl, _, hd', ?_, ?_⟩
  · have := stored_length_le kvs k (Value.ref T)
    rw [List.length_append]; simp only [List.length_cons, List.length_nil]; lia
  · intro k' hk'
    rw [va_stored]
    by_cases e : k' = k
    · subst e
      exact ⟨T, u, v, by rw [if_pos rfl], hT⟩
    · rw [if_neg e]
      rcases List.mem_append.mp hk' with h1 | h1
      · exact hr k' h1
      · exact absurd (List.mem_singleton.mp h1) e
end
theorem vmap_nil {prog : Program} {w : World} {V : Addr} {dv : Obj} {f c : Int → Int} {led : List (Addr × Obj)} (h : dv.IsDictOf (PySem.intKind prog w) []) : VMap prog w V dv [] f c led := ⟨rfl, [], h, Nat.le_refl _, fun _ h => nomatch h⟩
def loyP (liar : Int) : List Int := [0, 1, 2, 3, 4].filter fun k : Int => decide (k ≠ liar)
def updL (os ls : List Int) (liar king way : Int) (l : List Int) : List Int := [0, 1, 2, 3, 4].map fun k : Int => if k ∈ l then stepK os ls liar king way k else at5 os k
def roundP (os ls : List Int) (liar king way : Int) : List Int := updL os ls liar king way (loyP liar)
def heldP (os ls0 ls1 : List Int) (k0 k1 liar way : Int) : List Int := (loyP liar).map fun k => at5 (roundP (roundP os ls0 liar k0 way) ls1 liar k1 way) k
theorem loyP_mem {liar k : Int} : k ∈ loyP liar ↔ (0 ≤ k ∧ k < 5) ∧ k ≠ liar := by
  unfold loyP
  rw [List.mem_filter, decide_eq_true_iff]
  have : k ∈ ([0, 1, 2, 3, 4] : List Int) ↔ 0 ≤ k ∧ k < 5 := by
    simp only [List.mem_cons, List.not_mem_nil, or_false]
    lia
  rw [this]
theorem upd_set {os ls : List Int} {liar king way k : Int} {l : List Int} (h0 : 0 ≤ k) (h5 : k < 5) : (updL os ls liar king way l).set k.toNat (stepK os ls liar king way k) = updL os ls liar king way (l ++ [k]) := by
  have hk : k = 0 ∨ k = 1 ∨ k = 2 ∨ k = 3 ∨ k = 4 := by lia
  unfold updL
  rcases hk with rfl | rfl | rfl | rfl | rfl <;> simp [List.mem_append]
theorem upd_nil {os ls : List Int} {liar king way : Int} (h : os.length = 5) : updL os ls liar king way [] = os := by
  match os, h with
  | [a, b, c, d, e], _ => rfl
theorem upd_len {os ls : List Int} {liar king way : Int} {l : List Int} : (updL os ls liar king way l).length = 5 := rfl
theorem upd_at {os ls : List Int} {liar king way k : Int} {l : List Int} (h0 : 0 ≤ k) (h5 : k < 5) : at5 (updL os ls liar king way l) k = if k ∈ l then stepK os ls liar king way k else at5 os k := by
  have hk : k = 0 ∨ k = 1 ∨ k = 2 ∨ k = 3 ∨ k = 4 := by lia
  unfold updL at5
  rcases hk with rfl | rfl | rfl | rfl | rfl <;> rfl
end Mine
end
section
theorem Mine.fresh18 {prog : Program} {w : World} {A : Around} {E : Value → Shared → Prop} {s : Shared} {Q : Bool → Shared → Prop} (h : wpAny (model prog w) A (truthy (.bool true)) Q E s) : wpAny (model prog w) A (truthy (.bool true)) Q E s := by
  w_top off
  first | (walk1; fail "no") | exact h
set_option hygiene false in
local macro_rules | `(tactic| walk_at $s) => if ("|call ref|eval ListComp|exec Assign cons ListComp|exec For Name Name cons nil|setItem ref int|compareOp In none ref|".splitOn ("|" ++ s.getString ++ "|")).length = 2 then `(tactic| (with_reducible refine Mine.Hold.h ?_)) else Lean.Macro.throwUnsupported
set_option hygiene false in
local macro_rules | `(tactic| walk_at "subscriptTail Name Name ref int") => `(tactic| (k_here; (rename Mine.VMap _ _ _ _ _ _ _ _ => vm9); k_dflt (with_reducible refine Mine.holdV vm9 ?_)))
set_option hygiene false in
local macro_rules | `(tactic| k_updF) => `(tactic| assumption)
namespace Mine
def forB (b : List Stmt) : List Stmt := match b.drop 2 with
  | .For _ _ tb _ _ :: _ => tb
  | _ => []
theorem fn_eq2 {K : Frag} {f : Addr} {o o' : Obj} {P : Prop} (h : K.lookup f = some o) (h2 : K.lookup f = some o') (k : o = o' → P) : P := k (Option.some.inj (h.symm.trans h2))
theorem updF_split {d : Addr} {o : Obj} {post : List (Addr × Obj)} (b : ∀ p ∈ post, p.1 ≠ d) : ∀ pre : List (Addr × Obj), (∀ p ∈ pre, p.1 ≠ d) → UpdF d o (pre ++ (d, o) :: post) (fun o' => pre ++ (d, o') :: post)
  | [], _ => .head b
  | q :: pre, h => .tail (h q (.head _)) (updF_split b pre fun p hp => h p (.tail _ hp))
theorem off_app {d : Addr} {ex tl : List (Addr × Obj)} (h : LCg.Off1 d ex) (ht : ∀ p ∈ tl, p.1 ≠ d) : ∀ p ∈ ex ++ tl, p.1 ≠ d := fun p hp => by
  rcases List.mem_append.mp hp with h1 | h1
  · exact off_ne h p h1
  · exact ht p h1
theorem offZ {Zs : List Addr} {hd led hd' : List (Addr × Obj)} (h : OffA Zs hd) (hk : Keep hd led hd') (hm : ∀ a ∈ Zs, ∃ p ∈ led, p.1 = a) : OffA Zs hd' := fun a ha p hp => hk a (fun p hp => h a ha p hp) (hm a ha) p hp
theorem not4 {c : Int} (h : (decide (4 ≤ c) == false) = true) : ¬ 4 ≤ c := by simpa using h
theorem is4 {c : Int} (h : (decide (4 ≤ c) == false) = false) : 4 ≤ c := by simpa using h
theorem offT_of {l : List (Addr × Obj)} (h1 : LCg.Off1 104 l) (h2 : LCg.Off1 90 l) : OffT l := fun p hp => ⟨off_ne h1 p hp, off_ne h2 p hp⟩
theorem step_keep {os ls : List Int} {liar king way k mk ck : Int} (hmk : most (seenL os ls liar k) way = mk) (hck : ct (seenL os ls liar k) mk = ck) (h : 4 ≤ ck) : stepK os ls liar king way k = mk := by
  unfold stepK
  rw [hmk, hck, if_pos h]
theorem step_lie {os ls : List Int} {liar king way k mk ck : Int} (hmk : most (seenL os ls liar k) way = mk) (hck : ct (seenL os ls liar k) mk = ck) (h : ¬ 4 ≤ ck) (hk : king = liar) : stepK os ls liar king way k = at5 ls (5 + k) := by
  unfold stepK
  rw [hmk, hck, if_neg h, if_pos hk]
theorem step_kg {os ls : List Int} {liar king way k mk ck : Int} (hmk : most (seenL os ls liar k) way = mk) (hck : ct (seenL os ls liar k) mk = ck) (h : ¬ 4 ≤ ck) (hk : ¬ king = liar) : stepK os ls liar king way k = most (seenL os ls liar king) way := by
  unfold stepK
  rw [hmk, hck, if_neg h, if_neg hk]
theorem upd_end {os ls : List Int} {liar king way k x : Int} {ov : List Value} {i : Nat} (h : IntsAre ov ((updL os ls liar king way ((loyP liar).take i)).set k.toNat x)) (h0 : 0 ≤ k) (h5 : k < 5) (hk : (loyP liar)[i]? = some k) (hs : stepK os ls liar king way k = x) : IntsAre ov (updL os ls liar king way ((loyP liar).take (i + 1))) := by
  rw [List.take_add_one, hk, Option.toList_some, ← upd_set h0 h5, hs]
  exact h
set_option maxHeartbeats 16000000 in
theorem held_l2 {prog : Program} {w : World} {width way liar king : Int} {os ls hs : List Int} {ovs lsv hv lov : List Value} {dv oh ok oli ot ow ol oo oc : Obj} {O V Lo H Li : Addr} {on : Nat} {tw ti tk' ty : Tok} {hd vl : List (Addr × Obj)} {Zs : List Addr}
    {p : Program} {loose : List Str} {mean : ExcName → Option Value} {mg mb : Str → Option Value} {dp un : Nat} {gd : Option (List Code)} {cn : Str} {cs : Scope} {a : Addr} {ccd : Value} {cl : List (Str × Addr)} {outer : List Env} {base g : Heap} {L L' : Addr} {m' : Str → Option Value} {s : Shared} {Q : Flow → Shared → Prop} {E : Value → Shared → Prop}
    {oc' dV kV doc pm cdv ctt : Value} {od an : Option Addr} {name qual : Str} {params : Arguments} {body : List Stmt} {scope : Scope} {osl : Array (Option Value)}
    (hfn : (hdA.heap_39 w.params).lookup 215 = some ⟨oc', od, .func (fnOf name qual params body scope dV kV doc pm an cdv ctt), osl⟩)
    (h5 : 3 ≤ width) (h6 : width ≤ 6) (hT : Tabs hd) (hvl : OffT vl) (bo : B3 os) (bl : B3 ls) (hking : 0 ≤ king ∧ king < 5) (hlo : os.length = 5) (hll : ls.length = 10) (hlh : hs.length = 5) (hh : ∀ k : Int, 0 ≤ at5 hs k)
    (ios : IntsAre ovs os) (ils : IntsAre lsv ls) (ihs : IntsAre hv hs) (ilo : IntsAre lov (loyP liar)) (vm : VMap prog w V dv (loyP liar) (fun k => most (seenL os ls liar k) way) (fun k => ct (seenL os ls liar k) (most (seenL os ls liar k) way)) vl)
    (dh : oh.data = .cell (some (.ref H))) (dk : ∃ v, ok.data = .cell v) (dli : oli.data = .cell (some (.ref Li))) (dw : ow.data = .cell (some (.int width tw))) (dl : ol.data = .cell (some (.int liar ti))) (doo : oo.data = .cell (some (.ref O)))
    (e1 : LCg.Off1 O ((V, dv) :: (Lo, LCg.lst lov) :: (H, LCg.lst hv) :: (Li, LCg.lst lsv) :: (L' + 1 + 1 + 1 + 1 + 1 + 1 + 1 + 1, oh) :: (L' + 1 + 1 + 1 + 1 + 1 + 1 + 1, ok) :: (L' + 1 + 1 + 1 + 1 + 1 + 1, oli) :: (L' + 1 + 1 + 1 + 1 + 1, ot) :: (L' + 1 + 1 + 1 + 1, ow) :: (L' + 1 + 1 + 1, ol) :: (L' + 1 + 1, oo) :: (L' + 1, oc) :: [])) (e2 : LCg.Off1 (L' + 1 + 1 + 1 + 1 + 1 + 1 + 1) ((O, listOf ovs.toArray on) :: (V, dv) :: (Lo, LCg.lst lov) :: (H, LCg.lst hv) :: (Li, LCg.lst lsv) :: []))
    (e3 : LCg.Off1 104 ((O, listOf ovs.toArray on) :: (V, dv) :: (Lo, LCg.lst lov) :: (H, LCg.lst hv) :: (Li, LCg.lst lsv) :: (L' + 1 + 1 + 1 + 1 + 1 + 1 + 1 + 1, oh) :: (L' + 1 + 1 + 1 + 1 + 1 + 1 + 1, ok) :: (L' + 1 + 1 + 1 + 1 + 1 + 1, oli) :: (L' + 1 + 1 + 1 + 1 + 1, ot) :: (L' + 1 + 1 + 1 + 1, ow) :: (L' + 1 + 1 + 1, ol) :: (L' + 1 + 1, oo) :: (L' + 1, oc) :: [])) (e4 : LCg.Off1 90 ((O, listOf ovs.toArray on) :: (V, dv) :: (Lo, LCg.lst lov) :: (H, LCg.lst hv) :: (Li, LCg.lst lsv) :: (L' + 1 + 1 + 1 + 1 + 1 + 1 + 1 + 1, oh) :: (L' + 1 + 1 + 1 + 1 + 1 + 1 + 1, ok) :: (L' + 1 + 1 + 1 + 1 + 1 + 1, oli) :: (L' + 1 + 1 + 1 + 1 + 1, ot) :: (L' + 1 + 1 + 1 + 1, ow) :: (L' + 1 + 1 + 1, ol) :: (L' + 1 + 1, oo) :: (L' + 1, oc) :: [])) (hoff : OffA [O, L' + 1 + 1 + 1 + 1 + 1 + 1 + 1 + 1, L' + 1 + 1 + 1 + 1 + 1 + 1 + 1, L' + 1 + 1 + 1 + 1 + 1 + 1, L' + 1 + 1 + 1 + 1 + 1] (hd ++ vl)) (hz0 : OffA Zs hd) (hzm : ∀ a ∈ Zs, ∃ p ∈ vl, p.1 = a)
    (nk : m' (Str.ofString "king") = some (.int king tk')) (nl : m' (Str.ofString "loyal") = some (.ref Lo)) (nv : m' (Str.ofString "views") = some (.ref V)) (nw : m' (Str.ofString "way") = some (.int way ty))
    (B : Below (ktrTop dp un gd cn cs L a ccd cl outer) base (envX cn cs L a ccd cl :: outer) g) (X : (hdA.heap_39 w.params).In g) (T : Top p loose mean mg mb g) (hd40 : dp + 40 < recursionLimit) (hu : un + 8 * 40 < cLine)
    (hE : PassesOwn (model prog w) ((ktrTop dp un gd cn cs L a ccd cl outer).deeper (envOfC qual scope L' 215 cdv)) (envOfC qual scope L' 215 cdv) E)
    (hret : ∀ h' dr tk m'' ov' on' ok' hd', (∀ z, z ≠ Str.ofString "said" → z ≠ Str.ofString "vote" → m'' z = m' z) → Fr g L' h' m'' → IntsAre ov' (roundP os ls liar king way) → (∃ v, ok'.data = .cell v) → Tabs hd' → OffA [O, L' + 1 + 1 + 1 + 1 + 1 + 1 + 1 + 1, L' + 1 + 1 + 1 + 1 + 1 + 1 + 1, L' + 1 + 1 + 1 + 1 + 1 + 1, L' + 1 + 1 + 1 + 1 + 1] (hd' ++ vl) → OffA Zs hd' →
      News g L' h' ((O, listOf ov'.toArray on') :: (L' + 1 + 1 + 1 + 1 + 1 + 1 + 1 + 1, oh) :: (L' + 1 + 1 + 1 + 1 + 1 + 1 + 1, ok') :: (L' + 1 + 1 + 1 + 1 + 1 + 1, oli) :: (L' + 1 + 1 + 1 + 1 + 1, ot) :: (L' + 1 + 1 + 1 + 1, ow) :: (L' + 1 + 1 + 1, ol) :: (L' + 1 + 1, oo) :: (L' + 1, oc) :: (hd' ++ vl)) → Q .next { s with heap := h', drawn := dr, toks := tk })
    (F : Fr g L' s.heap m') (N : News g L' s.heap ((O, listOf ovs.toArray on) :: (V, dv) :: (Lo, LCg.lst lov) :: (H, LCg.lst hv) :: (Li, LCg.lst lsv) :: (L' + 1 + 1 + 1 + 1 + 1 + 1 + 1 + 1, oh) :: (L' + 1 + 1 + 1 + 1 + 1 + 1 + 1, ok) :: (L' + 1 + 1 + 1 + 1 + 1 + 1, oli) :: (L' + 1 + 1 + 1 + 1 + 1, ot) :: (L' + 1 + 1 + 1 + 1, ow) :: (L' + 1 + 1 + 1, ol) :: (L' + 1 + 1, oo) :: (L' + 1, oc) :: (hd ++ vl))) :
    wpAny (model prog w) ((ktrTop dp un gd cn cs L a ccd cl outer).deeper (envOfC qual scope L' 215 cdv)) (execs ((forB body).drop 6) (envOfC qual scope L' 215 cdv)) Q E s := by
  refine' fn_eq2 hfn ?h2 ?k2
  case h2 => k_dflt k_is
  intro e0
  injection e0 with q1 q2 q3 q4
  injection q3 with q3
  injection q3
  subst_vars
  (rename FuncBody.stmts _ = FuncBody.stmts _ => eb)
  injection eb with eb
  subst eb
  clear hfn
  dsimp only [forB, List.drop]
  (repeat' (first | ((fail_if_success (fail_if_success k_unfold)); (first | refine (let s9 := _; (?_ : wpAny _ _ _ _ _ s9)) | k_unfold)) | (k_end; wrow_close) | ((fail_if_success (fail_if_success k_fold)); (refine (let q9 := _; (?_ : wpAny _ _ _ q9 _ _))); walk1) | walk1 | (dsimp only [List.nil_append, List.cons_append]; walk1) | (leave1; walk_say "STEP leave1"; try dsimp only) | fail "no step"))
  refine Hold.mk ?_
  rename Fr _ _ _ _ => FZ
  rename News _ _ _ _ => NZ
  have hlo5 : (loyP liar).length ≤ 5 := by unfold loyP; exact List.length_filter_le _ _
  refine For_D (fun i m nw => Mine.Ex7 fun u1 u2 ovv onn okk hdd vs => Mine.And9 (m = two (mapOf FZ) (Str.ofString "said") (Str.ofString "vote") u1 u2) (nw = (O, listOf ovv.toArray onn) :: (V, dv) :: (Lo, LCg.lst lov) :: (H, LCg.lst hv) :: (Li, LCg.lst lsv) :: (L' + 1 + 1 + 1 + 1 + 1 + 1 + 1 + 1, oh) :: (L' + 1 + 1 + 1 + 1 + 1 + 1 + 1, okk) :: (L' + 1 + 1 + 1 + 1 + 1 + 1, oli) :: (L' + 1 + 1 + 1 + 1 + 1, ot) :: (L' + 1 + 1 + 1 + 1, ow) :: (L' + 1 + 1 + 1, ol) :: (L' + 1 + 1, oo) :: (L' + 1, oc) :: (hdd ++ vs)) ((∃ v, okk.data = .cell v)) (IntsAre ovv (updL os ls liar king way ((loyP liar).take i))) (Tabs hdd) (OffT vs) ((∀ p ∈ vl, p ∈ vs)) (OffA [O, L' + 1 + 1 + 1 + 1 + 1 + 1 + 1 + 1, L' + 1 + 1 + 1 + 1 + 1 + 1 + 1, L' + 1 + 1 + 1 + 1 + 1 + 1, L' + 1 + 1 + 1 + 1 + 1] (hdd ++ vs)) (OffA Zs hdd)) FZ ?_
  k_dflt (refine' nameX_L FZ ?v ?_ ?a ?b; (case a => rfl); (case b => rfl); (case v => assumption))
  refine ⟨_, _, fromF_list (its := lov.toArray) (k := lov.length) rfl FZ NZ ⟨_, _, ovs, on, ok, hd, vl, two_self rfl, rfl, dk, by rw [List.take_zero, upd_nil hlo]; exact ios, hT, hvl, fun _ h => h, hoff, hz0⟩ ?m4, ?turn, ?fin⟩
  case m4 =>
    rintro i m nw ⟨u1, u2, ovv, onn, okk, hdd, vs, rfl, rfl, _⟩
    exact .tail _ (.tail _ (.head _))
  case turn =>
    rintro i v m₁ nw h dr tk I oI hi hP ⟨u1, u2, ovv, onn, okk, hdd, vs, rfl, rfl, ⟨vk, hok⟩, hov, hTT, hvs, hsub, hoffv, hzv⟩ F' N' off _hcI
    clear NZ
    dsimp only [mapOf] at F'
    obtain ⟨k, t9, rfl, hkl⟩ := ilo.at i v (by simpa using hP)
    have hmem := loyP_mem.mp (List.mem_of_getElem? hkl)
    have a1 : ∀ p ∈ hdd ++ vs, p.1 ≠ O := hoffv O (.head _)
    have a2 : ∀ p ∈ hdd ++ vs, p.1 ≠ L' + 1 + 1 + 1 + 1 + 1 + 1 + 1 := hoffv _ (.tail _ (.tail _ (.head _)))
    have hUk : UpdF (L' + 1 + 1 + 1 + 1 + 1 + 1 + 1) okk ((I, oI) :: (O, listOf ovv.toArray onn) :: (V, dv) :: (Lo, LCg.lst lov) :: (H, LCg.lst hv) :: (Li, LCg.lst lsv) :: (L' + 1 + 1 + 1 + 1 + 1 + 1 + 1 + 1, oh) :: (L' + 1 + 1 + 1 + 1 + 1 + 1 + 1, okk) :: (L' + 1 + 1 + 1 + 1 + 1 + 1, oli) :: (L' + 1 + 1 + 1 + 1 + 1, ot) :: (L' + 1 + 1 + 1 + 1, ow) :: (L' + 1 + 1 + 1, ol) :: (L' + 1 + 1, oo) :: (L' + 1, oc) :: (hdd ++ vs)) (fun o' => (I, oI) :: (O, listOf ovv.toArray onn) :: (V, dv) :: (Lo, LCg.lst lov) :: (H, LCg.lst hv) :: (Li, LCg.lst lsv) :: (L' + 1 + 1 + 1 + 1 + 1 + 1 + 1 + 1, oh) :: (L' + 1 + 1 + 1 + 1 + 1 + 1 + 1, o') :: (L' + 1 + 1 + 1 + 1 + 1 + 1, oli) :: (L' + 1 + 1 + 1 + 1 + 1, ot) :: (L' + 1 + 1 + 1 + 1, ow) :: (L' + 1 + 1 + 1, ol) :: (L' + 1 + 1, oo) :: (L' + 1, oc) :: (hdd ++ vs)) :=
      updF_split (pre := (I, oI) :: (O, listOf ovv.toArray onn) :: (V, dv) :: (Lo, LCg.lst lov) :: (H, LCg.lst hv) :: (Li, LCg.lst lsv) :: (L' + 1 + 1 + 1 + 1 + 1 + 1 + 1 + 1, oh) :: []) (off_app (ex := (L' + 1 + 1 + 1 + 1 + 1 + 1, oli) :: (L' + 1 + 1 + 1 + 1 + 1, ot) :: (L' + 1 + 1 + 1 + 1, ow) :: (L' + 1 + 1 + 1, ol) :: (L' + 1 + 1, oo) :: (L' + 1, oc) :: []) (by simp only [LCg.Off1]; refine ⟨?_, ?_, ?_, ?_, ?_, ?_, trivial⟩ <;> k_ne) a2)
        (List.forall_mem_cons.mpr ⟨Ne.symm (off (L' + 1 + 1 + 1 + 1 + 1 + 1 + 1, okk) (by (first | (k_dflt k_mem) | (repeat (first | exact List.Mem.head _ | apply List.mem_cons_of_mem))))), off_app (ex := (O, listOf ovv.toArray onn) :: (V, dv) :: (Lo, LCg.lst lov) :: (H, LCg.lst hv) :: (Li, LCg.lst lsv) :: []) e2 (List.forall_mem_cons.mpr ⟨by k_ne, fun _ h => nomatch h⟩)⟩)
    (repeat' (first | ((fail_if_success (fail_if_success k_unfold)); (first | refine (let s9 := _; (?_ : wpAny _ _ _ _ _ s9)) | k_unfold)) | (k_end; wrow_close) | ((fail_if_success (fail_if_success k_fold)); (refine (let q9 := _; (?_ : wpAny _ _ _ q9 _ _))); walk1) | walk1 | (dsimp only [List.nil_append, List.cons_append]; walk1) | (leave1; walk_say "STEP leave1"; try dsimp only) | fail "no step"))
    refine Hold.mk ?_
    rename Fr _ _ _ _ => F9
    rename News _ _ _ _ => N9
    rename VMap _ _ _ _ _ _ _ _ => vm
    refine vitem vm N9 (by (first | (k_dflt k_mem) | (repeat (first | exact List.Mem.head _ | apply List.mem_cons_of_mem)))) (loyP_mem.mpr hmem) ?_
    intro T1 x1 x2 hT1
    replace N9 := news_add N9 (p := (T1, _)) (by (repeat (first | exact List.mem_append_right _ (hsub _ hT1) | apply List.mem_cons_of_mem)))
    try dsimp only at N9 ⊢
    have bmk := most_b (seenL os ls liar k) way
    generalize hmk : most (seenL os ls liar k) way = mk at *
    generalize hck : ct (seenL os ls liar k) mk = ck at *
    (repeat' (first | ((fail_if_success (fail_if_success k_unfold)); (first | refine (let s9 := _; (?_ : wpAny _ _ _ _ _ s9)) | k_unfold)) | (k_end; wrow_close) | ((fail_if_success (fail_if_success k_fold)); (refine (let q9 := _; (?_ : wpAny _ _ _ q9 _ _))); walk1) | walk1 | (dsimp only [List.nil_append, List.cons_append]; walk1) | (leave1; walk_say "STEP leave1"; try dsimp only) | fail "no step"))
    refine Hold.mk ?_
    rename Fr _ _ _ _ => F9
    rename News _ _ _ _ => N9
    replace N9 := drop1 N9
    refine set_ints F9 N9 (.tail (Ne.symm (off _ (.head _))) (.head (off_app (ex := (V, dv) :: (Lo, LCg.lst lov) :: (H, LCg.lst hv) :: (Li, LCg.lst lsv) :: (L' + 1 + 1 + 1 + 1 + 1 + 1 + 1 + 1, oh) :: (L' + 1 + 1 + 1 + 1 + 1 + 1 + 1, _) :: (L' + 1 + 1 + 1 + 1 + 1 + 1, oli) :: (L' + 1 + 1 + 1 + 1 + 1, ot) :: (L' + 1 + 1 + 1 + 1, ow) :: (L' + 1 + 1 + 1, ol) :: (L' + 1 + 1, oo) :: (L' + 1, oc) :: []) e1 a1))) hov (by omega) (by rw [upd_len]; omega) (by rw [upd_len]; omega) ?_
    clear F9 N9
    intro h' ov1 on1 F' N' hov1
    try dsimp only at N' ⊢
    (repeat' (first | ((fail_if_success (fail_if_success k_unfold)); (first | refine (let s9 := _; (?_ : wpAny _ _ _ _ _ s9)) | k_unfold)) | (k_end; wrow_close) | ((fail_if_success (fail_if_success k_fold)); (refine (let q9 := _; (?_ : wpAny _ _ _ q9 _ _))); walk1) | walk1 | (dsimp only [List.nil_append, List.cons_append]; walk1) | (leave1; walk_say "STEP leave1"; try dsimp only) | fail "no step"))
    refine Hold.mk ?_
    rename Fr _ _ _ _ => F9
    rename News _ _ _ _ => N9
    rename VMap _ _ _ _ _ _ _ _ => vm
    refine vitem vm N9 (by (first | (k_dflt k_mem) | (repeat (first | exact List.Mem.head _ | apply List.mem_cons_of_mem)))) (loyP_mem.mpr hmem) ?_
    intro T1 x1 x2 hT1
    replace N9 := news_add N9 (p := (T1, _)) (by (repeat (first | exact List.mem_append_right _ (hsub _ hT1) | apply List.mem_cons_of_mem)))
    try dsimp only at N9 ⊢
    rw [hmk, hck] at N9
    (repeat' (first | ((fail_if_success (fail_if_success k_unfold)); (first | refine (let s9 := _; (?_ : wpAny _ _ _ _ _ s9)) | k_unfold)) | (k_end; wrow_close) | ((fail_if_success (fail_if_success k_fold)); (refine (let q9 := _; (?_ : wpAny _ _ _ q9 _ _))); walk1) | walk1 | (dsimp only [List.nil_append, List.cons_append]; walk1) | (leave1; walk_say "STEP leave1"; try dsimp only) | fail "no step"))
    refine Hold.mk ?_
    rename Fr _ _ _ _ => F9
    rename News _ _ _ _ => N9
    refine' Ctr.use (gee_ctr (led := ledOf N9)) ?zB F9 ?zX N9 ?zT ?zk ?zd ?zu ?_
    case zB => k_asm
    case zX => k_asm
    case zT => k_asm
    case zk => exact rfl
    case zd => ktr_room
    case zu => ktr_units
    intro h' dr tk F' N'
    dsimp only [ledOf] at N'
    try dsimp only
    clear F9 N9
    have oI1 : LCg.Off1 I ((O, listOf ovv.toArray onn) :: (V, dv) :: (Lo, LCg.lst lov) :: (H, LCg.lst hv) :: (Li, LCg.lst lsv) :: (L' + 1 + 1 + 1 + 1 + 1 + 1 + 1 + 1, oh) :: (L' + 1 + 1 + 1 + 1 + 1 + 1 + 1, okk) :: (L' + 1 + 1 + 1 + 1 + 1 + 1, oli) :: (L' + 1 + 1 + 1 + 1 + 1, ot) :: (L' + 1 + 1 + 1 + 1, ow) :: (L' + 1 + 1 + 1, ol) :: (L' + 1 + 1, oo) :: (L' + 1, oc) :: []) := off_of fun p hp => off p (List.mem_append_left (hdd ++ vs) hp)
    have aI : ∀ p ∈ hdd ++ vs, p.1 ≠ I := fun p hp => off p (by (repeat (first | exact hp | apply List.mem_cons_of_mem)))
    obtain ⟨x104, y90, m104, m90⟩ := tabs_104 hTT
    have i104 : LCg.Off1 104 ((I, oI) :: []) := ⟨Ne.symm (aI (104, x104) (List.mem_append_left _ m104)), trivial⟩
    have i90 : LCg.Off1 90 ((I, oI) :: []) := ⟨Ne.symm (aI (90, y90) (List.mem_append_left _ m90)), trivial⟩
    (repeat' (first | ((fail_if_success (fail_if_success k_unfold)); (first | refine (let s9 := _; (?_ : wpAny _ _ _ _ _ s9)) | k_unfold)) | (k_end; wrow_close) | ((fail_if_success (fail_if_success k_fold)); (refine (let q9 := _; (?_ : wpAny _ _ _ q9 _ _))); walk1) | walk1 | (dsimp only [List.nil_append, List.cons_append]; walk1) | (leave1; walk_say "STEP leave1"; try dsimp only) | fail "no step"))
    · --BLK A
      have hstep := step_lie (king := king) hmk hck (not4 (by assumption)) (by assumption)
      have hsd9 : ls.getD (5 + k).toNat 0 = at5 ls (5 + k) := rfl
      refine Hold.mk ?_
      rw [hsd9]
      have bsd := bl (5 + k)
      generalize at5 ls (5 + k) = sd at *
      rename Fr _ _ _ _ => F9
      rename News _ _ _ _ => N9
      replace N9 := drop1 N9
      have h9 : 0 ≤ hs.getD king.toNat 0 := hh king
      refine' Ctr.use (vote2 (ex := List.take 14 (ledOf N9)) bsd.1 bsd.2 hking.1 (by omega) h5 h6 (by omega) hTT (offT_of ⟨i104.1, e3⟩ ⟨i90.1, e4⟩) hvs) ?zB F9 ?zX N9 ?zT ?zk ?zd ?zu ?_
      case zB => k_asm
      case zX => k_asm
      case zT => k_asm
      case zk => exact rfl
      case zd => ktr_room
      case zu => ktr_units
      intro Tv D y1 y2 y3 y4 od hd' hKD hT' hkeep hD h104 hDT h' dr tk F' N'
      dsimp only [ledOf, List.take, List.cons_append, List.nil_append] at N' hkeep hD
      have hoff' := offA_vote (oT := statO (king + 1) (2 ^ (width * sd).toNat) sd (sd * sd) y1 y2 y3 y4 D) (oD := od) hoffv (ex := (I, oI) :: (O, listOf ov1.toArray on1) :: (V, dv) :: (Lo, LCg.lst lov) :: (H, LCg.lst hv) :: (Li, LCg.lst lsv) :: (L' + 1 + 1 + 1 + 1 + 1 + 1 + 1 + 1, oh) :: (L' + 1 + 1 + 1 + 1 + 1 + 1 + 1, _) :: (L' + 1 + 1 + 1 + 1 + 1 + 1, oli) :: (L' + 1 + 1 + 1 + 1 + 1, ot) :: (L' + 1 + 1 + 1 + 1, ow) :: (L' + 1 + 1 + 1, ol) :: (L' + 1 + 1, oo) :: (L' + 1, oc) :: []) (by intro a ha; refine List.mem_map.mp ?_; ((revert ha; revert a; (repeat (first | exact Mine.sub_nil | (refine Mine.sub_cons ?_ ?_; focus (first | exact Mine.m0 | exact Mine.m1 | exact Mine.m2 | exact Mine.m3 | exact Mine.m4 | exact Mine.m5 | exact Mine.m6 | exact Mine.mAt 7 rfl | exact Mine.mAt 8 rfl | exact Mine.mAt 9 rfl | exact Mine.mAt 10 rfl | exact Mine.mAt 11 rfl | exact Mine.mAt 12 rfl | exact Mine.mAt 13 rfl | exact Mine.mAt 14 rfl | exact Mine.mAt 15 rfl | exact Mine.mAt 16 rfl | exact Mine.mAt 17 rfl | exact Mine.mAt 18 rfl | exact Mine.mAt 19 rfl | exact Mine.mAt 20 rfl | exact Mine.mAt 21 rfl | exact Mine.mAt 22 rfl | exact Mine.mAt 23 rfl | (repeat (first | exact List.Mem.head _ | apply List.mem_cons_of_mem | apply List.mem_append_right)))) | (refine Mine.sub_app ?_ ?_) | (intro p9 hp9; (repeat (first | exact hp9 | exact List.mem_append_left _ hp9 | apply List.mem_cons_of_mem | apply List.mem_append_right)))))))) hkeep hD hDT
      have hoffI := offA_vote (As := [I]) (oT := statO (king + 1) (2 ^ (width * sd).toNat) sd (sd * sd) y1 y2 y3 y4 D) (oD := od) (fun a ha => by rw [List.mem_singleton.mp ha]; exact aI) (ex := (I, oI) :: (O, listOf ov1.toArray on1) :: (V, dv) :: (Lo, LCg.lst lov) :: (H, LCg.lst hv) :: (Li, LCg.lst lsv) :: (L' + 1 + 1 + 1 + 1 + 1 + 1 + 1 + 1, oh) :: (L' + 1 + 1 + 1 + 1 + 1 + 1 + 1, _) :: (L' + 1 + 1 + 1 + 1 + 1 + 1, oli) :: (L' + 1 + 1 + 1 + 1 + 1, ot) :: (L' + 1 + 1 + 1 + 1, ow) :: (L' + 1 + 1 + 1, ol) :: (L' + 1 + 1, oo) :: (L' + 1, oc) :: []) (fun a ha => ⟨_, .head _, (List.mem_singleton.mp ha).symm⟩) hkeep hD hDT
      have b1 := hoff' O (.head _)
      clear F9 N9
      replace N' := news_add N' (p := (Tv, statO (king + 1) (2 ^ (width * sd).toNat) sd (sd * sd) y1 y2 y3 y4 D)) (by (repeat (first | exact List.mem_append_right _ (.head _) | apply List.mem_cons_of_mem)))
      try dsimp only
      (repeat' (first | ((fail_if_success (fail_if_success k_unfold)); (first | refine (let s9 := _; (?_ : wpAny _ _ _ _ _ s9)) | k_unfold)) | (k_end; wrow_close) | ((fail_if_success (fail_if_success k_fold)); (refine (let q9 := _; (?_ : wpAny _ _ _ q9 _ _))); walk1) | walk1 | (dsimp only [List.nil_append, List.cons_append]; walk1) | (leave1; walk_say "STEP leave1"; try dsimp only) | fail "no step"))
      refine Hold.mk ?_
      rename Fr _ _ _ _ => F9
      rename News _ _ _ _ => N9
      replace N9 := drop1 N9
      refine set_ints F9 N9 (.tail (Ne.symm (off _ (.head _))) (.head (off_app (ex := (V, dv) :: (Lo, LCg.lst lov) :: (H, LCg.lst hv) :: (Li, LCg.lst lsv) :: (L' + 1 + 1 + 1 + 1 + 1 + 1 + 1 + 1, oh) :: (L' + 1 + 1 + 1 + 1 + 1 + 1 + 1, _) :: (L' + 1 + 1 + 1 + 1 + 1 + 1, oli) :: (L' + 1 + 1 + 1 + 1 + 1, ot) :: (L' + 1 + 1 + 1 + 1, ow) :: (L' + 1 + 1 + 1, ol) :: (L' + 1 + 1, oo) :: (L' + 1, oc) :: []) e1 b1))) hov1 (by omega) (by rw [List.length_set, upd_len]; omega) (by rw [List.length_set, upd_len]; omega) ?_
      clear F9 N9
      intro h' ov2 on2 F' N' hov2
      rw [List.set_set] at hov2
      try dsimp only at N' ⊢
      (repeat' (first | ((fail_if_success (fail_if_success k_unfold)); (first | refine (let s9 := _; (?_ : wpAny _ _ _ _ _ s9)) | k_unfold)) | (k_end; wrow_close) | ((fail_if_success (fail_if_success k_fold)); (refine (let q9 := _; (?_ : wpAny _ _ _ q9 _ _))); walk1) | walk1 | (dsimp only [List.nil_append, List.cons_append]; walk1) | (leave1; walk_say "STEP leave1"; try dsimp only) | fail "no step"))
      rename Fr _ _ _ _ => F9
      rename News _ _ _ _ => N9
      refine end_f F9 N9 (off_app (ex := (O, listOf ov2.toArray on2) :: (V, dv) :: (Lo, LCg.lst lov) :: (H, LCg.lst hv) :: (Li, LCg.lst lsv) :: (L' + 1 + 1 + 1 + 1 + 1 + 1 + 1 + 1, oh) :: (L' + 1 + 1 + 1 + 1 + 1 + 1 + 1, _) :: (L' + 1 + 1 + 1 + 1 + 1 + 1, oli) :: (L' + 1 + 1 + 1 + 1 + 1, ot) :: (L' + 1 + 1 + 1 + 1, ow) :: (L' + 1 + 1 + 1, ol) :: (L' + 1 + 1, oo) :: (L' + 1, oc) :: []) oI1 (hoffI I (.head _))) ⟨_, _, ov2, on2, _, hd', _, two_eq (fun z h1 h2 => by simp +zetaDelta only [two, mapOf, if_neg h1, if_neg h2]) (by decide +kernel), rfl, ⟨_, by assumption⟩, upd_end hov2 hmem.1.1 hmem.1.2 hkl hstep, hT', offT_vote (ex := []) hvs h104 hDT, fun p hp => .tail _ (.tail _ (hsub p hp)), hoff', offZ hzv hkeep (fun a ha => let ⟨p, hp, e⟩ := hzm a ha; ⟨p, by (repeat (first | exact hsub p hp | apply List.mem_cons_of_mem)), e⟩)⟩
    · --BLK B
      refine Hold.mk ?_
      rename Fr _ _ _ _ => F9
      rename News _ _ _ _ => N9
      rename VMap _ _ _ _ _ _ _ _ => vm
      refine vitem vm N9 (by (first | (k_dflt k_mem) | (repeat (first | exact List.Mem.head _ | apply List.mem_cons_of_mem)))) (loyP_mem.mpr ⟨hking, by assumption⟩) ?_
      intro T1 x1 x2 hT1
      replace N9 := news_add N9 (p := (T1, _)) (by (repeat (first | exact List.mem_append_right _ (hsub _ hT1) | apply List.mem_cons_of_mem)))
      try dsimp only at N9 ⊢
      have hstep := step_kg (king := king) hmk hck (not4 (by assumption)) (by assumption)
      have bsd := most_b (seenL os ls liar king) way
      generalize most (seenL os ls liar king) way = sd at *
      (repeat' (first | ((fail_if_success (fail_if_success k_unfold)); (first | refine (let s9 := _; (?_ : wpAny _ _ _ _ _ s9)) | k_unfold)) | (k_end; wrow_close) | ((fail_if_success (fail_if_success k_fold)); (refine (let q9 := _; (?_ : wpAny _ _ _ q9 _ _))); walk1) | walk1 | (dsimp only [List.nil_append, List.cons_append]; walk1) | (leave1; walk_say "STEP leave1"; try dsimp only) | fail "no step"))
      refine Hold.mk ?_
      rename Fr _ _ _ _ => F9
      rename News _ _ _ _ => N9
      replace N9 := drop1 (drop1 N9)
      have h9 : 0 ≤ hs.getD king.toNat 0 := hh king
      refine' Ctr.use (vote2 (ex := List.take 14 (ledOf N9)) bsd.1 bsd.2 hking.1 (by omega) h5 h6 (by omega) hTT (offT_of ⟨i104.1, e3⟩ ⟨i90.1, e4⟩) hvs) ?zB F9 ?zX N9 ?zT ?zk ?zd ?zu ?_
      case zB => k_asm
      case zX => k_asm
      case zT => k_asm
      case zk => exact rfl
      case zd => ktr_room
      case zu => ktr_units
      intro Tv D y1 y2 y3 y4 od hd' hKD hT' hkeep hD h104 hDT h' dr tk F' N'
      dsimp only [ledOf, List.take, List.cons_append, List.nil_append] at N' hkeep hD
      have hoff' := offA_vote (oT := statO (king + 1) (2 ^ (width * sd).toNat) sd (sd * sd) y1 y2 y3 y4 D) (oD := od) hoffv (ex := (I, oI) :: (O, listOf ov1.toArray on1) :: (V, dv) :: (Lo, LCg.lst lov) :: (H, LCg.lst hv) :: (Li, LCg.lst lsv) :: (L' + 1 + 1 + 1 + 1 + 1 + 1 + 1 + 1, oh) :: (L' + 1 + 1 + 1 + 1 + 1 + 1 + 1, _) :: (L' + 1 + 1 + 1 + 1 + 1 + 1, oli) :: (L' + 1 + 1 + 1 + 1 + 1, ot) :: (L' + 1 + 1 + 1 + 1, ow) :: (L' + 1 + 1 + 1, ol) :: (L' + 1 + 1, oo) :: (L' + 1, oc) :: []) (by intro a ha; refine List.mem_map.mp ?_; ((revert ha; revert a; (repeat (first | exact Mine.sub_nil | (refine Mine.sub_cons ?_ ?_; focus (first | exact Mine.m0 | exact Mine.m1 | exact Mine.m2 | exact Mine.m3 | exact Mine.m4 | exact Mine.m5 | exact Mine.m6 | exact Mine.mAt 7 rfl | exact Mine.mAt 8 rfl | exact Mine.mAt 9 rfl | exact Mine.mAt 10 rfl | exact Mine.mAt 11 rfl | exact Mine.mAt 12 rfl | exact Mine.mAt 13 rfl | exact Mine.mAt 14 rfl | exact Mine.mAt 15 rfl | exact Mine.mAt 16 rfl | exact Mine.mAt 17 rfl | exact Mine.mAt 18 rfl | exact Mine.mAt 19 rfl | exact Mine.mAt 20 rfl | exact Mine.mAt 21 rfl | exact Mine.mAt 22 rfl | exact Mine.mAt 23 rfl | (repeat (first | exact List.Mem.head _ | apply List.mem_cons_of_mem | apply List.mem_append_right)))) | (refine Mine.sub_app ?_ ?_) | (intro p9 hp9; (repeat (first | exact hp9 | exact List.mem_append_left _ hp9 | apply List.mem_cons_of_mem | apply List.mem_append_right)))))))) hkeep hD hDT
      have hoffI := offA_vote (As := [I]) (oT := statO (king + 1) (2 ^ (width * sd).toNat) sd (sd * sd) y1 y2 y3 y4 D) (oD := od) (fun a ha => by rw [List.mem_singleton.mp ha]; exact aI) (ex := (I, oI) :: (O, listOf ov1.toArray on1) :: (V, dv) :: (Lo, LCg.lst lov) :: (H, LCg.lst hv) :: (Li, LCg.lst lsv) :: (L' + 1 + 1 + 1 + 1 + 1 + 1 + 1 + 1, oh) :: (L' + 1 + 1 + 1 + 1 + 1 + 1 + 1, _) :: (L' + 1 + 1 + 1 + 1 + 1 + 1, oli) :: (L' + 1 + 1 + 1 + 1 + 1, ot) :: (L' + 1 + 1 + 1 + 1, ow) :: (L' + 1 + 1 + 1, ol) :: (L' + 1 + 1, oo) :: (L' + 1, oc) :: []) (fun a ha => ⟨_, .head _, (List.mem_singleton.mp ha).symm⟩) hkeep hD hDT
      have b1 := hoff' O (.head _)
      clear F9 N9
      replace N' := news_add N' (p := (Tv, statO (king + 1) (2 ^ (width * sd).toNat) sd (sd * sd) y1 y2 y3 y4 D)) (by (repeat (first | exact List.mem_append_right _ (.head _) | apply List.mem_cons_of_mem)))
      try dsimp only
      (repeat' (first | ((fail_if_success (fail_if_success k_unfold)); (first | refine (let s9 := _; (?_ : wpAny _ _ _ _ _ s9)) | k_unfold)) | (k_end; wrow_close) | ((fail_if_success (fail_if_success k_fold)); (refine (let q9 := _; (?_ : wpAny _ _ _ q9 _ _))); walk1) | walk1 | (dsimp only [List.nil_append, List.cons_append]; walk1) | (leave1; walk_say "STEP leave1"; try dsimp only) | fail "no step"))
      refine Hold.mk ?_
      rename Fr _ _ _ _ => F9
      rename News _ _ _ _ => N9
      replace N9 := drop1 N9
      refine set_ints F9 N9 (.tail (Ne.symm (off _ (.head _))) (.head (off_app (ex := (V, dv) :: (Lo, LCg.lst lov) :: (H, LCg.lst hv) :: (Li, LCg.lst lsv) :: (L' + 1 + 1 + 1 + 1 + 1 + 1 + 1 + 1, oh) :: (L' + 1 + 1 + 1 + 1 + 1 + 1 + 1, _) :: (L' + 1 + 1 + 1 + 1 + 1 + 1, oli) :: (L' + 1 + 1 + 1 + 1 + 1, ot) :: (L' + 1 + 1 + 1 + 1, ow) :: (L' + 1 + 1 + 1, ol) :: (L' + 1 + 1, oo) :: (L' + 1, oc) :: []) e1 b1))) hov1 (by omega) (by rw [List.length_set, upd_len]; omega) (by rw [List.length_set, upd_len]; omega) ?_
      clear F9 N9
      intro h' ov2 on2 F' N' hov2
      rw [List.set_set] at hov2
      try dsimp only at N' ⊢
      (repeat' (first | ((fail_if_success (fail_if_success k_unfold)); (first | refine (let s9 := _; (?_ : wpAny _ _ _ _ _ s9)) | k_unfold)) | (k_end; wrow_close) | ((fail_if_success (fail_if_success k_fold)); (refine (let q9 := _; (?_ : wpAny _ _ _ q9 _ _))); walk1) | walk1 | (dsimp only [List.nil_append, List.cons_append]; walk1) | (leave1; walk_say "STEP leave1"; try dsimp only) | fail "no step"))
      rename Fr _ _ _ _ => F9
      rename News _ _ _ _ => N9
      refine end_f F9 N9 (off_app (ex := (O, listOf ov2.toArray on2) :: (V, dv) :: (Lo, LCg.lst lov) :: (H, LCg.lst hv) :: (Li, LCg.lst lsv) :: (L' + 1 + 1 + 1 + 1 + 1 + 1 + 1 + 1, oh) :: (L' + 1 + 1 + 1 + 1 + 1 + 1 + 1, _) :: (L' + 1 + 1 + 1 + 1 + 1 + 1, oli) :: (L' + 1 + 1 + 1 + 1 + 1, ot) :: (L' + 1 + 1 + 1 + 1, ow) :: (L' + 1 + 1 + 1, ol) :: (L' + 1 + 1, oo) :: (L' + 1, oc) :: []) oI1 (hoffI I (.head _))) ⟨_, _, ov2, on2, _, hd', _, two_eq (fun z h1 h2 => by simp +zetaDelta only [two, mapOf, if_neg h1, if_neg h2]) (by decide +kernel), rfl, ⟨_, by assumption⟩, upd_end hov2 hmem.1.1 hmem.1.2 hkl hstep, hT', offT_vote (ex := []) hvs h104 hDT, fun p hp => .tail _ (.tail _ (hsub p hp)), hoff', offZ hzv hkeep (fun a ha => let ⟨p, hp, e⟩ := hzm a ha; ⟨p, by (repeat (first | exact hsub p hp | apply List.mem_cons_of_mem)), e⟩)⟩
    · --BLK C
      rename Fr _ _ _ _ => F9
      rename News _ _ _ _ => N9
      have hstep := step_keep (king := king) hmk hck (is4 (by assumption))
      refine end_f F9 (drop1 N9) (off_app (ex := (O, listOf ov1.toArray on1) :: (V, dv) :: (Lo, LCg.lst lov) :: (H, LCg.lst hv) :: (Li, LCg.lst lsv) :: (L' + 1 + 1 + 1 + 1 + 1 + 1 + 1 + 1, oh) :: (L' + 1 + 1 + 1 + 1 + 1 + 1 + 1, _) :: (L' + 1 + 1 + 1 + 1 + 1 + 1, oli) :: (L' + 1 + 1 + 1 + 1 + 1, ot) :: (L' + 1 + 1 + 1 + 1, ow) :: (L' + 1 + 1 + 1, ol) :: (L' + 1 + 1, oo) :: (L' + 1, oc) :: []) oI1 aI) ⟨_, _, ov1, on1, _, hdd, vs, rfl, rfl, ⟨_, by assumption⟩, upd_end hov1 hmem.1.1 hmem.1.2 hkl hstep, hTT, hvs, hsub, hoffv, hzv⟩
  case fin =>
    rintro h dr tk m nw ⟨u1, u2, ovv, onn, okk, hdd, vs, rfl, rfl, ⟨vk, hok⟩, hov, hTT, hvs, hsub, hoffv, hzv⟩ F' N'
    dsimp only [mapOf] at F'
    rw [List.take_of_length_le (by have := ilo.length; simp only [List.size_toArray]; omega)] at hov
    (repeat' (first | ((fail_if_success (fail_if_success k_unfold)); (first | refine (let s9 := _; (?_ : wpAny _ _ _ _ _ s9)) | k_unfold)) | (k_end; wrow_close) | ((fail_if_success (fail_if_success k_fold)); (refine (let q9 := _; (?_ : wpAny _ _ _ q9 _ _))); walk1) | walk1 | (dsimp only [List.nil_append, List.cons_append]; walk1) | (leave1; walk_say "STEP leave1"; try dsimp only) | fail "no step"))
    rename Fr _ _ _ _ => F8
    rename News _ _ _ _ => N8
    refine hret _ _ _ _ ovv onn okk hdd (fun z h1 h2 => by simp only [two, if_neg h1, if_neg h2]) F8 hov ⟨_, hok⟩ hTT (fun a ha p hp => hoffv a ha p ?_) hzv (news_sub N8 fun p hp => by
      ((revert hp; revert p; (repeat (first | exact Mine.sub_nil | (refine Mine.sub_cons ?_ ?_; focus (first | exact Mine.m0 | exact Mine.m1 | exact Mine.m2 | exact Mine.m3 | exact Mine.m4 | exact Mine.m5 | exact Mine.m6 | exact Mine.mAt 7 rfl | exact Mine.mAt 8 rfl | exact Mine.mAt 9 rfl | exact Mine.mAt 10 rfl | exact Mine.mAt 11 rfl | exact Mine.mAt 12 rfl | exact Mine.mAt 13 rfl | exact Mine.mAt 14 rfl | exact Mine.mAt 15 rfl | exact Mine.mAt 16 rfl | exact Mine.mAt 17 rfl | exact Mine.mAt 18 rfl | exact Mine.mAt 19 rfl | exact Mine.mAt 20 rfl | exact Mine.mAt 21 rfl | exact Mine.mAt 22 rfl | exact Mine.mAt 23 rfl | (repeat (first | exact List.Mem.head _ | apply List.mem_cons_of_mem | apply List.mem_append_right)))) | (refine Mine.sub_app ?_ ?_) | (intro p9 hp9; (repeat (first | exact hp9 | exact hsub _ hp9 |  exact List.mem_append_left _ hp9 | apply List.mem_cons_of_mem | apply List.mem_append_right))))))))
    rcases List.mem_append.mp hp with h | h
    · exact List.mem_append_left _ h
    · exact List.mem_append_right _ (hsub _ h)
end Mine
end
section
theorem Mine.fresh19 {prog : Program} {w : World} {A : Around} {E : Value → Shared → Prop} {s : Shared} {Q : Bool → Shared → Prop} (h : wpAny (model prog w) A (truthy (.bool true)) Q E s) : wpAny (model prog w) A (truthy (.bool true)) Q E s := by
  w_top off
  first | (walk1; fail "no") | exact h
set_option hygiene false in
local macro_rules | `(tactic| walk_at $s) => if ("|call ref|eval ListComp|exec Assign cons ListComp|exec For Name Name cons nil|setItem ref int|compareOp In none ref|binaryOp Add ref ref|".splitOn ("|" ++ s.getString ++ "|")).length = 2 then `(tactic| (with_reducible refine Mine.Hold.h ?_)) else Lean.Macro.throwUnsupported
set_option hygiene false in
local macro_rules | `(tactic| walk_at "subscriptTail Name Name ref int") => `(tactic| (k_here; (rename Mine.VMap _ _ _ _ _ _ _ _ => vm9); k_dflt (with_reducible refine Mine.holdV vm9 ?_)))
set_option hygiene false in
local macro_rules | `(tactic| k_updF) => `(tactic| assumption)
namespace Mine
def VotesAre (prog : Program) (w : World) (led : List (Addr × Obj)) (width : Int) (ys : List Value) (qs : List (Int × Int)) : Prop := ys.length = qs.length ∧ ∀ (j : Nat) v q, ys[j]? = some v → qs[j]? = some q → IsVote prog w led width v q
theorem votes_nil {prog : Program} {w : World} {led : List (Addr × Obj)} {width : Int} : VotesAre prog w led width [] [] := ⟨rfl, fun j v q h => nomatch h⟩
theorem VotesAre.mono {prog : Program} {w : World} {led led' : List (Addr × Obj)} {width : Int} {ys : List Value} {qs : List (Int × Int)} (h : VotesAre prog w led width ys qs) (hs : ∀ p ∈ led, p ∈ led') : VotesAre prog w led' width ys qs :=
  ⟨h.1, fun j v q a b => vote_mono (h.2 j v q a b) hs⟩
theorem VotesAre.app {prog : Program} {w : World} {led : List (Addr × Obj)} {width : Int} {ys zs : List Value} {qs rs : List (Int × Int)} (h : VotesAre prog w led width ys qs) (h2 : VotesAre prog w led width zs rs) : VotesAre prog w led width (ys ++ zs) (qs ++ rs) := by
  refine ⟨by rw [List.length_append, List.length_append, h.1, h2.1], fun j v q a b => ?_⟩
  by_cases hj : j < ys.length
  · rw [List.getElem?_append_left hj] at a
    rw [List.getElem?_append_left (by rw [← h.1]; exact hj)] at b
    exact h.2 j v q a b
  · rw [List.getElem?_append_right (Nat.le_of_not_lt hj)] at a
    rw [List.getElem?_append_right (by rw [← h.1]; exact Nat.le_of_not_lt hj), ← h.1] at b
    exact h2.2 _ v q a b
theorem votes_one {prog : Program} {w : World} {led : List (Addr × Obj)} {width writer order : Int} {T D : Addr} {u1 u2 u3 u4 : Tok} {od : Obj} (hK : KD prog w od [(order, 1), (3, 2 ^ (width * order).toNat)]) (h104 : @LT.lt Nat _ 104 D) :
    VotesAre prog w ((T, statO (writer + 1) (2 ^ (width * order).toNat) order (order * order) u1 u2 u3 u4 D) :: (D, od) :: led) width [.ref T] [(writer, order)] := by
  refine ⟨rfl, fun j v q a b => ?_⟩
  match j, a, b with
  | 0, a, b =>
    injection a with a
    injection b with b
    subst a
    subst b
    exact ⟨T, D, u1, u2, u3, u4, od, rfl, .head _, .tail _ (.head _), hK, h104⟩
theorem votes_refs {prog : Program} {w : World} {led : List (Addr × Obj)} {width : Int} {ys : List Value} {qs : List (Int × Int)} (h : VotesAre prog w led width ys qs) : ∀ v ∈ ys, Mine.Ex2 fun T its => v = .ref T ∧ (T, tupO its) ∈ led := by
  intro v hv
  obtain ⟨j, hj, rfl⟩ := List.getElem_of_mem hv
  obtain ⟨T, D, u1, u2, u3, u4, od, e, m1, m2, k, l⟩ := h.2 j _ (qs[j]'(by rw [← h.1]; exact hj)) (List.getElem?_eq_getElem hj) (List.getElem?_eq_getElem _)
  exact ⟨T, _, e, m1⟩
theorem off3_tail {I C D : Addr} {ex tl tl' : List (Addr × Obj)} (h : ∀ p ∈ ex ++ tl, p.1 ≠ I ∧ p.1 ≠ C ∧ p.1 ≠ D) (h2 : ∀ p ∈ tl', p.1 ≠ I ∧ p.1 ≠ C ∧ p.1 ≠ D) : ∀ p ∈ ex ++ tl', p.1 ≠ I ∧ p.1 ≠ C ∧ p.1 ≠ D := fun p hp => by
  rcases List.mem_append.mp hp with hp | hp
  · exact h p (List.mem_append_left _ hp)
  · exact h2 p hp
theorem tab_ne {hd led : List (Addr × Obj)} {g h : Heap} {L T : Addr} {its : List Value} (hT : Tabs hd) (N : News g L h led) (hs : ∀ p ∈ hd, p ∈ led) (hm : (T, tupO its) ∈ led) : (@Ne Nat T 104) ∧ (@Ne Nat T 90) := by
  obtain ⟨x, c1, o1, y, c2, o2, rfl, hx, _, _, hy, _, _⟩ := hT
  have key : ∀ (a : Addr) (o : Obj) (P : Array Value), (a, o) ∈ led → o = tabObj P → T ≠ a := by
    rintro a o P ha rfl rfl
    have p1 := (N _ hm).1
    have p2 := (N _ ha).1
    rw [p1] at p2
    injection p2 with p2
    injection p2 with _ _ p2
    cases p2
  refine ⟨?_, ?_⟩
  · rcases hx with h | ⟨h, _⟩
    · exact key 104 x _ (hs _ (.head _)) h
    · exact key 104 x _ (hs _ (.head _)) h
  · rcases hy with h | ⟨h, _⟩
    · exact key 90 y _ (hs _ (.tail _ (.tail _ (.head _)))) h
    · exact key 90 y _ (hs _ (.tail _ (.tail _ (.head _)))) h
theorem intsD5 {sv : List Value} {a b c d e : Int} (h : IntsAre sv [a, b, c, d, e]) : Mine.Ex5 fun t0 t1 t2 t3 t4 => sv = [.int a t0, .int b t1, .int c t2, .int d t3, .int e t4] := by
  obtain ⟨t0, _, rfl, h0⟩ := ints_cons h
  obtain ⟨t1, _, rfl, h1⟩ := ints_cons h0
  obtain ⟨t2, _, rfl, h2⟩ := ints_cons h1
  obtain ⟨t3, _, rfl, h3⟩ := ints_cons h2
  obtain ⟨t4, _, rfl, h4⟩ := ints_cons h3
  obtain rfl := ints_nil h4
  exact ⟨t0, t1, t2, t3, t4, rfl⟩
theorem seen_b {os ls : List Int} {liar k : Int} (bo : B3 os) (bl : B3 ls) : ∀ s ∈ seenL os ls liar k, 0 ≤ s ∧ s ≤ 2 := by
  intro s hs
  unfold seenL at hs
  obtain ⟨o, _, rfl⟩ := List.mem_map.mp hs
  by_cases h : o = liar
  · rw [if_pos h]; exact bl k
  · rw [if_neg h]; exact bo o
/-- the liar's vote, once one is behind his place -/
def lieQ (ls : List Int) (liar k : Int) (i : Nat) : List (Int × Int) := (([0, 1, 2, 3, 4] : List Int).take i).filterMap fun o => if o = liar then some (liar, at5 ls k) else none
theorem lieQ_in {ls : List Int} {liar k o : Int} {i : Nat} (h : ([0, 1, 2, 3, 4] : List Int)[i]? = some o) (e : o = liar) : lieQ ls liar k (i + 1) = lieQ ls liar k i ++ [(liar, at5 ls k)] := by
  unfold lieQ
  rw [List.take_add_one, h, Option.toList_some, List.filterMap_append]
  simp [e]
theorem lieQ_out {ls : List Int} {liar k o : Int} {i : Nat} (h : ([0, 1, 2, 3, 4] : List Int)[i]? = some o) (e : ¬ o = liar) : lieQ ls liar k (i + 1) = lieQ ls liar k i := by
  unfold lieQ
  rw [List.take_add_one, h, Option.toList_some, List.filterMap_append]
  simp [e]
theorem qs_seen {os ls : List Int} {liar k : Int} (h0 : 0 ≤ liar) (h5 : liar ≤ 5) : qsOf (seenL os ls liar k) liar = ((loyP liar).map fun j => (j, at5 os j)) ++ lieQ ls liar k 5 := by
  have : liar = 0 ∨ liar = 1 ∨ liar = 2 ∨ liar = 3 ∨ liar = 4 ∨ liar = 5 := by omega
  rcases this with rfl | rfl | rfl | rfl | rfl | rfl <;> rfl
theorem ne_cell {p q : Addr × Obj} {g h : Heap} {L : Addr} {led : List (Addr × Obj)} (N : News g L h led) (hp : p ∈ led) (hq : q ∈ led) {vs : Array Value} {n : Nat} (h1 : p.2.data = .seq vs n) (h2 : ∃ v, q.2.data = .cell v) : p.1 ≠ q.1 := fun e => by
  obtain ⟨v, h2⟩ := h2
  have a := (N p hp).1
  have b := (N q hq).1
  rw [e] at a
  rw [b] at a
  injection a with a
  rw [a, h1] at h2
  cases h2
set_option maxHeartbeats 16000000 in
theorem held_l1 {prog : Program} {w : World} {width way liar : Int} {os ls hs : List Int} {ovs lsv hv lov tov : List Value} {dv oh ok oli ot ow ol oo oc : Obj} {V To O Lo H Li : Addr} {on : Nat} {tw ti ty : Tok} {hd vl : List (Addr × Obj)} {Zs : List Addr}
    {p : Program} {loose : List Str} {mean : ExcName → Option Value} {mg mb : Str → Option Value} {dp un : Nat} {gd : Option (List Code)} {cn : Str} {cs : Scope} {a : Addr} {ccd : Value} {cl : List (Str × Addr)} {outer : List Env} {base g : Heap} {L L' : Addr} {m' : Str → Option Value} {s : Shared} {Q : Flow → Shared → Prop} {E : Value → Shared → Prop}
    {oc' dV kV doc pm cdv ctt : Value} {od an : Option Addr} {name qual : Str} {params : Arguments} {body : List Stmt} {scope : Scope} {osl : Array (Option Value)}
    (hfn : (hdA.heap_39 w.params).lookup 215 = some ⟨oc', od, .func (fnOf name qual params body scope dV kV doc pm an cdv ctt), osl⟩)
    (h5 : 3 ≤ width) (h6 : width ≤ 6) (hway : way = 1 ∨ way = -1) (hT : Tabs hd) (hvl : OffT vl) (bo : B3 os) (bl : B3 ls) (hliar : 0 ≤ liar ∧ liar ≤ 5) (hlo : os.length = 5) (hll : ls.length = 10) (hlh : hs.length = 5) (hh : ∀ k : Int, 0 ≤ at5 hs k)
    (ios : IntsAre ovs os) (ils : IntsAre lsv ls) (ihs : IntsAre hv hs) (ilo : IntsAre lov (loyP liar)) (vm : VMap prog w V dv [] (fun k => most (seenL os ls liar k) way) (fun k => ct (seenL os ls liar k) (most (seenL os ls liar k) way)) vl) (hto : VotesAre prog w vl width tov ((loyP liar).map fun j => (j, at5 os j)))
    (dh : oh.data = .cell (some (.ref H))) (dk : ∃ v, ok.data = .cell v) (dli : oli.data = .cell (some (.ref Li))) (dt : ∃ v, ot.data = .cell v) (dw : ow.data = .cell (some (.int width tw))) (dl : ol.data = .cell (some (.int liar ti))) (doo : oo.data = .cell (some (.ref O)))
    (e1 : LCg.Off1 V ((To, LCg.lst tov) :: (O, listOf ovs.toArray on) :: (Lo, LCg.lst lov) :: (H, LCg.lst hv) :: (Li, LCg.lst lsv) :: (L' + 1 + 1 + 1 + 1 + 1 + 1 + 1 + 1, oh) :: (L' + 1 + 1 + 1 + 1 + 1 + 1 + 1, ok) :: (L' + 1 + 1 + 1 + 1 + 1 + 1, oli) :: (L' + 1 + 1 + 1 + 1 + 1, ot) :: (L' + 1 + 1 + 1 + 1, ow) :: (L' + 1 + 1 + 1, ol) :: (L' + 1 + 1, oo) :: (L' + 1, oc) :: [])) (e2 : LCg.Off1 (L' + 1 + 1 + 1 + 1 + 1 + 1 + 1) ((V, dv) :: (To, LCg.lst tov) :: (O, listOf ovs.toArray on) :: (Lo, LCg.lst lov) :: (H, LCg.lst hv) :: (Li, LCg.lst lsv) :: []))
    (e3 : LCg.Off1 104 ((V, dv) :: (To, LCg.lst tov) :: (O, listOf ovs.toArray on) :: (Lo, LCg.lst lov) :: (H, LCg.lst hv) :: (Li, LCg.lst lsv) :: (L' + 1 + 1 + 1 + 1 + 1 + 1 + 1 + 1, oh) :: (L' + 1 + 1 + 1 + 1 + 1 + 1 + 1, ok) :: (L' + 1 + 1 + 1 + 1 + 1 + 1, oli) :: (L' + 1 + 1 + 1 + 1 + 1, ot) :: (L' + 1 + 1 + 1 + 1, ow) :: (L' + 1 + 1 + 1, ol) :: (L' + 1 + 1, oo) :: (L' + 1, oc) :: [])) (e4 : LCg.Off1 90 ((V, dv) :: (To, LCg.lst tov) :: (O, listOf ovs.toArray on) :: (Lo, LCg.lst lov) :: (H, LCg.lst hv) :: (Li, LCg.lst lsv) :: (L' + 1 + 1 + 1 + 1 + 1 + 1 + 1 + 1, oh) :: (L' + 1 + 1 + 1 + 1 + 1 + 1 + 1, ok) :: (L' + 1 + 1 + 1 + 1 + 1 + 1, oli) :: (L' + 1 + 1 + 1 + 1 + 1, ot) :: (L' + 1 + 1 + 1 + 1, ow) :: (L' + 1 + 1 + 1, ol) :: (L' + 1 + 1, oo) :: (L' + 1, oc) :: [])) (hoff : OffA [V, O, L' + 1 + 1 + 1 + 1 + 1 + 1 + 1 + 1, L' + 1 + 1 + 1 + 1 + 1 + 1 + 1, L' + 1 + 1 + 1 + 1 + 1 + 1, L' + 1 + 1 + 1 + 1 + 1] (hd ++ vl)) (hz0 : OffA Zs hd) (hzm : ∀ a ∈ Zs, ∃ p ∈ vl, p.1 = a)
    (nl : m' (Str.ofString "loyal") = some (.ref Lo)) (nt : m' (Str.ofString "told") = some (.ref To)) (nv : m' (Str.ofString "views") = some (.ref V)) (nw : m' (Str.ofString "way") = some (.int way ty))
    (B : Below (ktrTop dp un gd cn cs L a ccd cl outer) base (envX cn cs L a ccd cl :: outer) g) (X : (hdA.heap_39 w.params).In g) (T : Top p loose mean mg mb g) (hd40 : dp + 40 < recursionLimit) (hu : un + 8 * 40 < cLine)
    (hE : PassesOwn (model prog w) ((ktrTop dp un gd cn cs L a ccd cl outer).deeper (envOfC qual scope L' 215 cdv)) (envOfC qual scope L' 215 cdv) E)
    (hnext : ∀ h' dr tk m'' dv' ok' hd' vs, (∀ z, z ≠ Str.ofString "lie" → z ≠ Str.ofString "seen" → m'' z = m' z) → Fr g L' h' m'' → VMap prog w V dv' (loyP liar) (fun k => most (seenL os ls liar k) way) (fun k => ct (seenL os ls liar k) (most (seenL os ls liar k) way)) vs → (∃ v, ok'.data = .cell v) → Tabs hd' → OffT vs → (∀ p ∈ vl, p ∈ vs) → OffA [V, O, L' + 1 + 1 + 1 + 1 + 1 + 1 + 1 + 1, L' + 1 + 1 + 1 + 1 + 1 + 1 + 1, L' + 1 + 1 + 1 + 1 + 1 + 1, L' + 1 + 1 + 1 + 1 + 1] (hd' ++ vs) → OffA Zs hd' →
      News g L' h' ((V, dv') :: (To, LCg.lst tov) :: (O, listOf ovs.toArray on) :: (Lo, LCg.lst lov) :: (H, LCg.lst hv) :: (Li, LCg.lst lsv) :: (L' + 1 + 1 + 1 + 1 + 1 + 1 + 1 + 1, oh) :: (L' + 1 + 1 + 1 + 1 + 1 + 1 + 1, ok') :: (L' + 1 + 1 + 1 + 1 + 1 + 1, oli) :: (L' + 1 + 1 + 1 + 1 + 1, ot) :: (L' + 1 + 1 + 1 + 1, ow) :: (L' + 1 + 1 + 1, ol) :: (L' + 1 + 1, oo) :: (L' + 1, oc) :: (hd' ++ vs)) → wpAny (model prog w) ((ktrTop dp un gd cn cs L a ccd cl outer).deeper (envOfC qual scope L' 215 cdv)) (execs ((forB body).drop 6) (envOfC qual scope L' 215 cdv)) Q E { s with heap := h', drawn := dr, toks := tk })
    (F : Fr g L' s.heap m') (N : News g L' s.heap ((V, dv) :: (To, LCg.lst tov) :: (O, listOf ovs.toArray on) :: (Lo, LCg.lst lov) :: (H, LCg.lst hv) :: (Li, LCg.lst lsv) :: (L' + 1 + 1 + 1 + 1 + 1 + 1 + 1 + 1, oh) :: (L' + 1 + 1 + 1 + 1 + 1 + 1 + 1, ok) :: (L' + 1 + 1 + 1 + 1 + 1 + 1, oli) :: (L' + 1 + 1 + 1 + 1 + 1, ot) :: (L' + 1 + 1 + 1 + 1, ow) :: (L' + 1 + 1 + 1, ol) :: (L' + 1 + 1, oo) :: (L' + 1, oc) :: (hd ++ vl))) :
    wpAny (model prog w) ((ktrTop dp un gd cn cs L a ccd cl outer).deeper (envOfC qual scope L' 215 cdv)) (execs ((forB body).drop 5) (envOfC qual scope L' 215 cdv)) Q E s := by
  refine' fn_eq2 hfn ?h2 ?k2
  case h2 => k_dflt k_is
  intro e0
  injection e0 with q1 q2 q3 q4
  injection q3 with q3
  injection q3
  subst_vars
  (rename FuncBody.stmts _ = FuncBody.stmts _ => eb)
  injection eb with eb
  subst eb
  clear hfn
  dsimp only [forB, List.drop] at hnext ⊢
  refine cut_execs 1 ?_
  dsimp only [List.take, List.drop]
  (repeat' (first | ((fail_if_success (fail_if_success k_unfold)); (first | refine (let s9 := _; (?_ : wpAny _ _ _ _ _ s9)) | k_unfold)) | (k_end; wrow_close) | ((fail_if_success (fail_if_success k_fold)); (refine (let q9 := _; (?_ : wpAny _ _ _ q9 _ _))); walk1) | walk1 | (dsimp only [List.nil_append, List.cons_append]; walk1) | (leave1; walk_say "STEP leave1"; try dsimp only) | fail "no step"))
  refine Hold.mk ?_
  rename Fr _ _ _ _ => FZ
  rename News _ _ _ _ => NZ
  have hlo5 : (loyP liar).length ≤ 5 := by unfold loyP; exact List.length_filter_le _ _
  refine For_D (fun i m nw => Mine.Ex6 fun u1 u2 dvv okk hdd vs => Mine.And9 (m = two (mapOf FZ) (Str.ofString "lie") (Str.ofString "seen") u1 u2) (nw = (V, dvv) :: (To, LCg.lst tov) :: (O, listOf ovs.toArray on) :: (Lo, LCg.lst lov) :: (H, LCg.lst hv) :: (Li, LCg.lst lsv) :: (L' + 1 + 1 + 1 + 1 + 1 + 1 + 1 + 1, oh) :: (L' + 1 + 1 + 1 + 1 + 1 + 1 + 1, okk) :: (L' + 1 + 1 + 1 + 1 + 1 + 1, oli) :: (L' + 1 + 1 + 1 + 1 + 1, ot) :: (L' + 1 + 1 + 1 + 1, ow) :: (L' + 1 + 1 + 1, ol) :: (L' + 1 + 1, oo) :: (L' + 1, oc) :: (hdd ++ vs)) ((∃ v, okk.data = .cell v)) (VMap prog w V dvv ((loyP liar).take i) (fun k => most (seenL os ls liar k) way) (fun k => ct (seenL os ls liar k) (most (seenL os ls liar k) way)) vs) (Tabs hdd) (OffT vs) ((∀ p ∈ vl, p ∈ vs)) (OffA [V, O, L' + 1 + 1 + 1 + 1 + 1 + 1 + 1 + 1, L' + 1 + 1 + 1 + 1 + 1 + 1 + 1, L' + 1 + 1 + 1 + 1 + 1 + 1, L' + 1 + 1 + 1 + 1 + 1] (hdd ++ vs)) (OffA Zs hdd)) FZ ?_
  k_dflt (refine' nameX_L FZ ?v ?_ ?a ?b; (case a => rfl); (case b => rfl); (case v => assumption))
  refine ⟨_, _, fromF_list (its := lov.toArray) (k := lov.length) rfl FZ NZ ⟨_, _, dv, ok, hd, vl, two_self rfl, rfl, dk, by rw [List.take_zero]; exact vm, hT, hvl, fun _ h => h, hoff, hz0⟩ ?m4, ?turn, ?fin⟩
  case m4 =>
    rintro i m nw ⟨u1, u2, dvv, okk, hdd, vs, rfl, rfl, _⟩
    exact .tail _ (.tail _ (.tail _ (.head _)))
  case turn =>
    rintro i v m₁ nw h dr tk I oI hi hP ⟨u1, u2, dvv, okk, hdd, vs, rfl, rfl, ⟨vk, hok⟩, hvm, hTT, hvs, hsub, hoffv, hzv⟩ F' N' off hcI
    clear NZ hnext vm
    dsimp only [mapOf] at F'
    obtain ⟨k, t9, rfl, hkl⟩ := ilo.at i v (by simpa using hP)
    have hmem := loyP_mem.mp (List.mem_of_getElem? hkl)
    have a2 : ∀ p ∈ hdd ++ vs, p.1 ≠ L' + 1 + 1 + 1 + 1 + 1 + 1 + 1 := hoffv _ (.tail _ (.tail _ (.tail _ (.head _))))
    have hUk : UpdF (L' + 1 + 1 + 1 + 1 + 1 + 1 + 1) okk ((I, oI) :: (V, dvv) :: (To, LCg.lst tov) :: (O, listOf ovs.toArray on) :: (Lo, LCg.lst lov) :: (H, LCg.lst hv) :: (Li, LCg.lst lsv) :: (L' + 1 + 1 + 1 + 1 + 1 + 1 + 1 + 1, oh) :: (L' + 1 + 1 + 1 + 1 + 1 + 1 + 1, okk) :: (L' + 1 + 1 + 1 + 1 + 1 + 1, oli) :: (L' + 1 + 1 + 1 + 1 + 1, ot) :: (L' + 1 + 1 + 1 + 1, ow) :: (L' + 1 + 1 + 1, ol) :: (L' + 1 + 1, oo) :: (L' + 1, oc) :: (hdd ++ vs)) (fun o' => (I, oI) :: (V, dvv) :: (To, LCg.lst tov) :: (O, listOf ovs.toArray on) :: (Lo, LCg.lst lov) :: (H, LCg.lst hv) :: (Li, LCg.lst lsv) :: (L' + 1 + 1 + 1 + 1 + 1 + 1 + 1 + 1, oh) :: (L' + 1 + 1 + 1 + 1 + 1 + 1 + 1, o') :: (L' + 1 + 1 + 1 + 1 + 1 + 1, oli) :: (L' + 1 + 1 + 1 + 1 + 1, ot) :: (L' + 1 + 1 + 1 + 1, ow) :: (L' + 1 + 1 + 1, ol) :: (L' + 1 + 1, oo) :: (L' + 1, oc) :: (hdd ++ vs)) :=
      updF_split (pre := (I, oI) :: (V, dvv) :: (To, LCg.lst tov) :: (O, listOf ovs.toArray on) :: (Lo, LCg.lst lov) :: (H, LCg.lst hv) :: (Li, LCg.lst lsv) :: (L' + 1 + 1 + 1 + 1 + 1 + 1 + 1 + 1, oh) :: []) (off_app (ex := (L' + 1 + 1 + 1 + 1 + 1 + 1, oli) :: (L' + 1 + 1 + 1 + 1 + 1, ot) :: (L' + 1 + 1 + 1 + 1, ow) :: (L' + 1 + 1 + 1, ol) :: (L' + 1 + 1, oo) :: (L' + 1, oc) :: []) (by simp only [LCg.Off1]; refine ⟨?_, ?_, ?_, ?_, ?_, ?_, trivial⟩ <;> k_ne) a2)
        (List.forall_mem_cons.mpr ⟨Ne.symm (off (L' + 1 + 1 + 1 + 1 + 1 + 1 + 1, okk) (by (first | (k_dflt k_mem) | (repeat (first | exact List.Mem.head _ | apply List.mem_cons_of_mem))))), off_app (ex := (V, dvv) :: (To, LCg.lst tov) :: (O, listOf ovs.toArray on) :: (Lo, LCg.lst lov) :: (H, LCg.lst hv) :: (Li, LCg.lst lsv) :: []) e2 (List.forall_mem_cons.mpr ⟨by k_ne, fun _ h => nomatch h⟩)⟩)
    have oI1 : LCg.Off1 I ((V, dvv) :: (To, LCg.lst tov) :: (O, listOf ovs.toArray on) :: (Lo, LCg.lst lov) :: (H, LCg.lst hv) :: (Li, LCg.lst lsv) :: (L' + 1 + 1 + 1 + 1 + 1 + 1 + 1 + 1, oh) :: (L' + 1 + 1 + 1 + 1 + 1 + 1 + 1, okk) :: (L' + 1 + 1 + 1 + 1 + 1 + 1, oli) :: (L' + 1 + 1 + 1 + 1 + 1, ot) :: (L' + 1 + 1 + 1 + 1, ow) :: (L' + 1 + 1 + 1, ol) :: (L' + 1 + 1, oo) :: (L' + 1, oc) :: []) := off_of fun p hp => off p (List.mem_append_left (hdd ++ vs) hp)
    have aI : ∀ p ∈ hdd ++ vs, p.1 ≠ I := fun p hp => off p (by (repeat (first | exact hp | apply List.mem_cons_of_mem)))
    obtain ⟨x104, y90, m104, m90⟩ := tabs_104 hTT
    have i104 : LCg.Off1 104 ((I, oI) :: []) := ⟨Ne.symm (aI (104, x104) (List.mem_append_left _ m104)), trivial⟩
    have i90 : LCg.Off1 90 ((I, oI) :: []) := ⟨Ne.symm (aI (90, y90) (List.mem_append_left _ m90)), trivial⟩
    (repeat' (first | ((fail_if_success (fail_if_success k_unfold)); (first | refine (let s9 := _; (?_ : wpAny _ _ _ _ _ s9)) | k_unfold)) | (k_end; wrow_close) | ((fail_if_success (fail_if_success k_fold)); (refine (let q9 := _; (?_ : wpAny _ _ _ q9 _ _))); walk1) | walk1 | (dsimp only [List.nil_append, List.cons_append]; walk1) | (leave1; walk_say "STEP leave1"; try dsimp only) | fail "no step"))
    refine Hold.mk ?_
    rename Fr _ _ _ _ => FA
    rename News _ _ _ _ => NA
    (rename _ = Data.cell (some (Value.int k t9)) => dk2)
    have hNA : ∃ okk2, News g L' _ ((I, oI) :: (V, dvv) :: (To, LCg.lst tov) :: (O, listOf ovs.toArray on) :: (Lo, LCg.lst lov) :: (H, LCg.lst hv) :: (Li, LCg.lst lsv) :: (L' + 1 + 1 + 1 + 1 + 1 + 1 + 1 + 1, oh) :: (L' + 1 + 1 + 1 + 1 + 1 + 1 + 1, okk2) :: (L' + 1 + 1 + 1 + 1 + 1 + 1, oli) :: (L' + 1 + 1 + 1 + 1 + 1, ot) :: (L' + 1 + 1 + 1 + 1, ow) :: (L' + 1 + 1 + 1, ol) :: (L' + 1 + 1, oo) :: (L' + 1, oc) :: (hdd ++ vs)) := ⟨_, NA⟩
    clear hUk
    k_dflt refine Assign_ListComp_D (fun i ys nw => Mine.Ex2 fun hd2 vs2 => Mine.And8 (nw = List.take 15 (ledOf NA) ++ (hd2 ++ vs2)) (VotesAre prog w vs2 width ys (lieQ ls liar k i)) (Tabs hd2) (OffT vs2) ((∀ p ∈ vs, p ∈ vs2)) (OffA [V, O, L' + 1 + 1 + 1 + 1 + 1 + 1 + 1 + 1, L' + 1 + 1 + 1 + 1 + 1 + 1 + 1, L' + 1 + 1 + 1 + 1 + 1 + 1, L' + 1 + 1 + 1 + 1 + 1] (hd2 ++ vs2)) (OffA [I] (hd2 ++ vs2)) (OffA Zs hd2)) FA rfl (by with_unfolding_all rfl) (by with_unfolding_all rfl) (by decide) (by rfl) (by decide) (by rfl) (by rfl) (by rfl) ?_
    (repeat' (first | ((fail_if_success (fail_if_success k_unfold)); (first | refine (let s9 := _; (?_ : wpAny _ _ _ _ _ s9)) | k_unfold)) | (k_end; wrow_close) | ((fail_if_success (fail_if_success k_fold)); (refine (let q9 := _; (?_ : wpAny _ _ _ q9 _ _))); walk1) | walk1 | (dsimp only [List.nil_append, List.cons_append]; walk1) | (leave1; walk_say "STEP leave1"; try dsimp only) | fail "no step"))
    rename IsRange _ _ _ _ _ _ _ _ => hR2
    rename Fr _ _ _ _ => FB
    rename News _ _ _ _ => NB2
    refine ⟨5, _, from_range rfl FB NB2 (Nat.le_of_ble_eq_true rfl) ⟨hdd, vs, rfl, votes_nil, hTT, hvs, fun _ h => h, hoffv, fun a ha => by rw [List.mem_singleton.mp ha]; exact aI, hzv⟩ hR2 (by decide) (by rfl), ?t1, ?f1⟩
    case t1 =>
      rintro i' ys nw hi5 ⟨hd2, vs2, rfl, hvo, hT2, hv2, hs2, ho2, hoI2, hz2⟩ v J oJ C oC D9 m₂ h dr tk E' ⟨t8, rfl⟩ hC hx F' N' off3 ne
      have hs5 := r5 hi5
      rw [Int.zero_add] at hx
      have hj5 : 0 ≤ (i' : Int) ∧ (i' : Int) < 5 := by omega
      generalize ((i' : Nat) : Int) = o at *
      dsimp only [ledOf, List.take, List.cons_append, List.nil_append] at N'
      clear NB2 FB
      have o3 := off3.mem
      obtain ⟨x2, y2, mx, my⟩ := tabs_104 hT2
      have j104 := o3 (104, x2) (List.mem_append_right _ (List.mem_append_left _ mx))
      have j90 := o3 (90, y2) (List.mem_append_right _ (List.mem_append_left _ my))
      have jA : LCg.Off1 104 ((J, oJ) :: (C, oC) :: (D9, LCg.lst ys) :: []) := ⟨Ne.symm j104.1, Ne.symm j104.2.1, Ne.symm j104.2.2, trivial⟩
      have jB : LCg.Off1 90 ((J, oJ) :: (C, oC) :: (D9, LCg.lst ys) :: []) := ⟨Ne.symm j90.1, Ne.symm j90.2.1, Ne.symm j90.2.2, trivial⟩
      have ho3 : OffA [J, C, D9] (hd2 ++ vs2) := (Mine.all_c (fun p hp => (o3 p (List.mem_append_right _ hp)).1) (Mine.all_c (fun p hp => (o3 p (List.mem_append_right _ hp)).2.1) (Mine.all_c (fun p hp => (o3 p (List.mem_append_right _ hp)).2.2) Mine.all_n)))
      clear j104 j90 ne
      (repeat' (first | ((fail_if_success (fail_if_success k_unfold)); (first | refine (let s9 := _; (?_ : wpAny _ _ _ _ _ s9)) | k_unfold)) | (k_end; wrow_close) | ((fail_if_success (fail_if_success k_fold)); (refine (let q9 := _; (?_ : wpAny _ _ _ q9 _ _))); walk1) | walk1 | (dsimp only [List.nil_append, List.cons_append]; walk1) | (leave1; walk_say "STEP leave1"; try dsimp only) | fail "no step"))
      · --BLK ta
        refine Hold.mk ?_
        have hsd9 : ls.getD k.toNat 0 = at5 ls k := rfl
        rw [hsd9]
        have bsd := bl k
        have h9 : 0 ≤ hs.getD liar.toNat 0 := hh liar
        generalize hsd : at5 ls k = sd at *
        rename Fr _ _ _ _ => F9
        rename News _ _ _ _ => N9
        refine' Ctr.use (vote2 (ex := List.take 18 (ledOf N9)) bsd.1 bsd.2 (by omega) (by omega) h5 h6 (by omega) hT2 (offT_of ⟨jA.1, jA.2.1, jA.2.2.1, i104.1, e3⟩ ⟨jB.1, jB.2.1, jB.2.2.1, i90.1, e4⟩) hv2) ?zB F9 ?zX N9 ?zT ?zk ?zd ?zu ?_
        case zB => k_asm
        case zX => k_asm
        case zT => k_asm
        case zk => exact rfl
        case zd => ktr_room
        case zu => ktr_units
        intro Tv D y1 y2 y3 y4 od hd' hKD hT' hkeep hD h104 hDT h' dr tk F' N'
        dsimp only [ledOf, List.take, List.cons_append, List.nil_append] at N' hkeep hD
        have hoff' := offA_vote (oT := statO (liar + 1) (2 ^ (width * sd).toNat) sd (sd * sd) y1 y2 y3 y4 D) (oD := od) ho2 (ex := (J, oJ) :: (C, oC) :: (D9, LCg.lst ys) :: (I, oI) :: (V, dvv) :: (To, LCg.lst tov) :: (O, listOf ovs.toArray on) :: (Lo, LCg.lst lov) :: (H, LCg.lst hv) :: (Li, LCg.lst lsv) :: (L' + 1 + 1 + 1 + 1 + 1 + 1 + 1 + 1, oh) :: (L' + 1 + 1 + 1 + 1 + 1 + 1 + 1, _) :: (L' + 1 + 1 + 1 + 1 + 1 + 1, oli) :: (L' + 1 + 1 + 1 + 1 + 1, ot) :: (L' + 1 + 1 + 1 + 1, ow) :: (L' + 1 + 1 + 1, ol) :: (L' + 1 + 1, oo) :: (L' + 1, oc) :: []) (by intro a ha; refine List.mem_map.mp ?_; ((revert ha; revert a; (repeat (first | exact Mine.sub_nil | (refine Mine.sub_cons ?_ ?_; focus (first | exact Mine.m0 | exact Mine.m1 | exact Mine.m2 | exact Mine.m3 | exact Mine.m4 | exact Mine.m5 | exact Mine.m6 | exact Mine.mAt 7 rfl | exact Mine.mAt 8 rfl | exact Mine.mAt 9 rfl | exact Mine.mAt 10 rfl | exact Mine.mAt 11 rfl | exact Mine.mAt 12 rfl | exact Mine.mAt 13 rfl | exact Mine.mAt 14 rfl | exact Mine.mAt 15 rfl | exact Mine.mAt 16 rfl | exact Mine.mAt 17 rfl | exact Mine.mAt 18 rfl | exact Mine.mAt 19 rfl | exact Mine.mAt 20 rfl | exact Mine.mAt 21 rfl | exact Mine.mAt 22 rfl | exact Mine.mAt 23 rfl | (repeat (first | exact List.Mem.head _ | apply List.mem_cons_of_mem | apply List.mem_append_right)))) | (refine Mine.sub_app ?_ ?_) | (intro p9 hp9; (repeat (first | exact hp9 | exact List.mem_append_left _ hp9 | apply List.mem_cons_of_mem | apply List.mem_append_right)))))))) hkeep hD hDT
        have hoffI := offA_vote (oT := statO (liar + 1) (2 ^ (width * sd).toNat) sd (sd * sd) y1 y2 y3 y4 D) (oD := od) hoI2 (ex := (J, oJ) :: (C, oC) :: (D9, LCg.lst ys) :: (I, oI) :: (V, dvv) :: (To, LCg.lst tov) :: (O, listOf ovs.toArray on) :: (Lo, LCg.lst lov) :: (H, LCg.lst hv) :: (Li, LCg.lst lsv) :: (L' + 1 + 1 + 1 + 1 + 1 + 1 + 1 + 1, oh) :: (L' + 1 + 1 + 1 + 1 + 1 + 1 + 1, _) :: (L' + 1 + 1 + 1 + 1 + 1 + 1, oli) :: (L' + 1 + 1 + 1 + 1 + 1, ot) :: (L' + 1 + 1 + 1 + 1, ow) :: (L' + 1 + 1 + 1, ol) :: (L' + 1 + 1, oo) :: (L' + 1, oc) :: []) (fun a ha => ⟨_, .tail _ (.tail _ (.tail _ (.head _))), (List.mem_singleton.mp ha).symm⟩) hkeep hD hDT
        have hoff3 := offA_vote (oT := statO (liar + 1) (2 ^ (width * sd).toNat) sd (sd * sd) y1 y2 y3 y4 D) (oD := od) ho3 (ex := (J, oJ) :: (C, oC) :: (D9, LCg.lst ys) :: (I, oI) :: (V, dvv) :: (To, LCg.lst tov) :: (O, listOf ovs.toArray on) :: (Lo, LCg.lst lov) :: (H, LCg.lst hv) :: (Li, LCg.lst lsv) :: (L' + 1 + 1 + 1 + 1 + 1 + 1 + 1 + 1, oh) :: (L' + 1 + 1 + 1 + 1 + 1 + 1 + 1, _) :: (L' + 1 + 1 + 1 + 1 + 1 + 1, oli) :: (L' + 1 + 1 + 1 + 1 + 1, ot) :: (L' + 1 + 1 + 1 + 1, ow) :: (L' + 1 + 1 + 1, ol) :: (L' + 1 + 1, oo) :: (L' + 1, oc) :: []) (by intro a ha; refine List.mem_map.mp ?_; ((revert ha; revert a; (repeat (first | exact Mine.sub_nil | (refine Mine.sub_cons ?_ ?_; focus (first | exact Mine.m0 | exact Mine.m1 | exact Mine.m2 | exact Mine.m3 | exact Mine.m4 | exact Mine.m5 | exact Mine.m6 | exact Mine.mAt 7 rfl | exact Mine.mAt 8 rfl | exact Mine.mAt 9 rfl | exact Mine.mAt 10 rfl | exact Mine.mAt 11 rfl | exact Mine.mAt 12 rfl | exact Mine.mAt 13 rfl | exact Mine.mAt 14 rfl | exact Mine.mAt 15 rfl | exact Mine.mAt 16 rfl | exact Mine.mAt 17 rfl | exact Mine.mAt 18 rfl | exact Mine.mAt 19 rfl | exact Mine.mAt 20 rfl | exact Mine.mAt 21 rfl | exact Mine.mAt 22 rfl | exact Mine.mAt 23 rfl | (repeat (first | exact List.Mem.head _ | apply List.mem_cons_of_mem | apply List.mem_append_right)))) | (refine Mine.sub_app ?_ ?_) | (intro p9 hp9; (repeat (first | exact hp9 | exact List.mem_append_left _ hp9 | apply List.mem_cons_of_mem | apply List.mem_append_right)))))))) hkeep hD hDT
        try dsimp only
        refine end_d F' N' (LCg.Off3.of (off3_tail o3 fun p h => ⟨hoff3 J (.head _) p h, hoff3 C (.tail _ (.head _)) p h, hoff3 D9 (.tail _ (.tail _ (.head _))) p h⟩)) ⟨hd', _, rfl, ?vo, hT', offT_vote (ex := []) hv2 h104 hDT, fun p hp => .tail _ (.tail _ (hs2 p hp)), hoff', hoffI, offZ hz2 hkeep (fun a ha => let ⟨p, hp, e⟩ := hzm a ha; ⟨p, by (repeat (first | exact hs2 p (hsub p hp) | apply List.mem_cons_of_mem)), e⟩)⟩
        case vo =>
          rw [lieQ_in hs5 (by assumption), hsd]
          exact (hvo.mono fun p hp => .tail _ (.tail _ hp)).app (votes_one hKD h104)
      · --BLK tb
        rename Fr _ _ _ _ => F9
        rename News _ _ _ _ => N9
        exact end_d F9 N9 off3 ⟨hd2, vs2, rfl, by rw [lieQ_out hs5 (by assumption)]; exact hvo, hT2, hv2, hs2, ho2, hoI2, hz2⟩
    case f1 =>
      rintro D9 h dr tk ys nw F' N' o1 ⟨hd2, vs2, rfl, hvo, hT2, hv2, hs2, ho2, hoI2, hz2⟩
      dsimp only [ledOf, List.take, List.cons_append, List.nil_append] at F' N'
      have hyl : ys.length ≤ 5 := by rw [hvo.1]; exact List.length_filterMap_le _ _
      have htl : tov.length ≤ 5 := by rw [hto.1, List.length_map]; exact hlo5
      have hvall := (hto.mono fun p hp => hs2 p (hsub p hp)).app hvo
      (repeat' (first | ((fail_if_success (fail_if_success k_unfold)); (first | refine (let s9 := _; (?_ : wpAny _ _ _ _ _ s9)) | k_unfold)) | (k_end; wrow_close) | ((fail_if_success (fail_if_success k_fold)); (refine (let q9 := _; (?_ : wpAny _ _ _ q9 _ _))); walk1) | walk1 | (dsimp only [List.nil_append, List.cons_append]; walk1) | (leave1; walk_say "STEP leave1"; try dsimp only) | fail "no step"))
      refine Hold.mk ?_
      rename Fr _ _ _ _ => F9
      rename News _ _ _ _ => N9
      refine kmk_add_lit (its := tov.toArray) (its2 := ys.toArray) (zs := tov ++ ys) F9 N9 (lst_at N9 ?a1) (lst_at N9 ?a2) (by simp) ?a4 ?a3
      case a1 => (first | (k_dflt k_mem) | (repeat (first | exact List.Mem.head _ | apply List.mem_cons_of_mem)))
      case a2 => (first | (k_dflt k_mem) | (repeat (first | exact List.Mem.head _ | apply List.mem_cons_of_mem)))
      case a3 => (rw [sizeLine_eq]; simp only [List.toList_toArray]; omega)
      intro TL h' F' N' hTL
      clear F9 N9
      try dsimp only
      (repeat' (first | ((fail_if_success (fail_if_success k_unfold)); (first | refine (let s9 := _; (?_ : wpAny _ _ _ _ _ s9)) | k_unfold)) | (k_end; wrow_close) | ((fail_if_success (fail_if_success k_fold)); (refine (let q9 := _; (?_ : wpAny _ _ _ q9 _ _))); walk1) | walk1 | (dsimp only [List.nil_append, List.cons_append]; walk1) | (leave1; walk_say "STEP leave1"; try dsimp only) | fail "no step"))
      refine Hold.mk ?_
      rename News _ _ _ _ => N9
      refine none_in N9 (vs := tov ++ ys) (n := 0) ?b1 ?b2 (by ke_room) ?_
      case b1 => (first | (k_dflt k_mem) | (repeat (first | exact List.Mem.head _ | apply List.mem_cons_of_mem)))
      case b2 =>
        intro v hv
        obtain ⟨T, its, e, hm⟩ := votes_refs hvall v hv
        exact ⟨T, its, e, by (repeat (first | exact List.mem_append_right _ hm | apply List.mem_cons_of_mem))⟩
      (repeat' (first | ((fail_if_success (fail_if_success k_unfold)); (first | refine (let s9 := _; (?_ : wpAny _ _ _ _ _ s9)) | k_unfold)) | (k_end; wrow_close) | ((fail_if_success (fail_if_success k_fold)); (refine (let q9 := _; (?_ : wpAny _ _ _ q9 _ _))); walk1) | walk1 | (dsimp only [List.nil_append, List.cons_append]; walk1) | (leave1; walk_say "STEP leave1"; try dsimp only) | fail "no step"))
      refine Hold.mk ?_
      replace N9 := drop1 N9
      clear hTL
      rename Fr _ _ _ _ => FC
      k_dflt refine Assign_ListComp_D (fun i ys nw => nw = ledOf N9 ∧ IntsAre ys (([0, 1, 2, 3, 4].take i).map fun j : Int => if j = liar then at5 ls k else at5 os j)) FC rfl (by with_unfolding_all rfl) (by with_unfolding_all rfl) (by decide) (by rfl) (by decide) (by rfl) (by rfl) (by rfl) ?_
      (repeat' (first | ((fail_if_success (fail_if_success k_unfold)); (first | refine (let s9 := _; (?_ : wpAny _ _ _ _ _ s9)) | k_unfold)) | (k_end; wrow_close) | ((fail_if_success (fail_if_success k_fold)); (refine (let q9 := _; (?_ : wpAny _ _ _ q9 _ _))); walk1) | walk1 | (dsimp only [List.nil_append, List.cons_append]; walk1) | (leave1; walk_say "STEP leave1"; try dsimp only) | fail "no step"))
      rename IsRange _ _ _ _ _ _ _ _ => hR3
      rename Fr _ _ _ _ => FD
      rename News _ _ _ _ => ND
      refine ⟨5, _, from_range rfl FD ND (Nat.le_of_ble_eq_true rfl) ⟨rfl, .nil⟩ hR3 (by decide) (by rfl), ?s1, ?g1⟩
      case s1 =>
        rintro i' zs nw hi5 ⟨rfl, hzs⟩ v J oJ C oC D8 m₂ h dr tk E' ⟨t8, rfl⟩ hC hx F' N' off3 ne
        refine wpAny_tests_nil ?_
        simp only [if_true]
        dsimp only [ledOf] at N' off3 ⊢
        have hs5 := r5 hi5
        rw [Int.zero_add] at hx
        have hj5 : 0 ≤ (i' : Int) ∧ (i' : Int) < 5 := by omega
        generalize ((i' : Nat) : Int) = j at *
        clear ne
        (repeat' (first | ((fail_if_success (fail_if_success k_unfold)); (first | refine (let s9 := _; (?_ : wpAny _ _ _ _ _ s9)) | k_unfold)) | (k_end; wrow_close) | ((fail_if_success (fail_if_success k_fold)); (refine (let q9 := _; (?_ : wpAny _ _ _ q9 _ _))); walk1) | walk1 | (dsimp only [List.nil_append, List.cons_append]; walk1) | (leave1; walk_say "STEP leave1"; try dsimp only) | fail "no step"))
        all_goals
          refine end_d (by k_asm) (by k_asm) off3 ⟨rfl, ?_⟩
          rw [take_snoc hs5]
          first | rw [if_pos (by assumption)] | rw [if_neg (by assumption)]
          exact ints_snoc hzs
      case g1 =>
        rintro S h dr tk sv nw F' N' oS ⟨rfl, hsv⟩
        dsimp only [ledOf] at N' oS
        replace hsv : IntsAre sv (seenL os ls liar k) := hsv
        clear FD
        (repeat' (first | ((fail_if_success (fail_if_success k_unfold)); (first | refine (let s9 := _; (?_ : wpAny _ _ _ _ _ s9)) | k_unfold)) | (k_end; wrow_close) | ((fail_if_success (fail_if_success k_fold)); (refine (let q9 := _; (?_ : wpAny _ _ _ q9 _ _))); walk1) | walk1 | (dsimp only [List.nil_append, List.cons_append]; walk1) | (leave1; walk_say "STEP leave1"; try dsimp only) | fail "no step"))
        refine Hold.mk ?_
        rename Fr _ _ _ _ => F9
        rename News _ _ _ _ => N9
        refine kmk_add_lit (its := tov.toArray) (its2 := ys.toArray) (zs := tov ++ ys) F9 N9 (lst_at N9 ?c1) (lst_at N9 ?c2) (by simp) ?c4 ?c3
        case c1 => (first | (k_dflt k_mem) | (repeat (first | exact List.Mem.head _ | apply List.mem_cons_of_mem)))
        case c2 => (first | (k_dflt k_mem) | (repeat (first | exact List.Mem.head _ | apply List.mem_cons_of_mem)))
        case c3 => (rw [sizeLine_eq]; simp only [List.toList_toArray]; omega)
        intro TL h' F' N' hTL
        clear F9 N9
        try dsimp only
        (repeat' (first | ((fail_if_success (fail_if_success k_unfold)); (first | refine (let s9 := _; (?_ : wpAny _ _ _ _ _ s9)) | k_unfold)) | (k_end; wrow_close) | ((fail_if_success (fail_if_success k_fold)); (refine (let q9 := _; (?_ : wpAny _ _ _ q9 _ _))); walk1) | walk1 | (dsimp only [List.nil_append, List.cons_append]; walk1) | (leave1; walk_say "STEP leave1"; try dsimp only) | fail "no step"))
        refine Hold.mk ?_
        rename Fr _ _ _ _ => F9
        rename News _ _ _ _ => N9
        obtain ⟨s0, s1, s2, s3, s4, hse⟩ : Mine.Ex5 fun s0 s1 s2 s3 s4 => seenL os ls liar k = [s0, s1, s2, s3, s4] := ⟨_, _, _, _, _, rfl⟩
        have hsb := seen_b (k := k) (liar := liar) bo bl
        rw [hse] at hsv hsb
        obtain ⟨z0, z1, z2, z3, z4, rfl⟩ := intsD5 hsv
        have hq := qs_seen (os := os) (ls := ls) (k := k) hliar.1 hliar.2
        rw [← hq, hse] at hvall
        have hl5 : (tov ++ ys).length = 5 := by rw [hvall.1]; unfold qsOf; rw [List.length_map]; exact wrs_len hliar.1 hliar.2
        obtain ⟨x3, y3, mx3, my3⟩ := tabs_104 hT2
        have w104 : LCg.Off1 104 ((TL, listOf (tov ++ ys).toArray 0) :: (S, LCg.lst ys) :: (D9, LCg.lst ys) :: []) := ⟨Nat.ne_of_gt (hTL (104, x3) (by (repeat (first | exact List.mem_append_left _ mx3 | apply List.mem_cons_of_mem)))), Ne.symm (off_ne oS (104, x3) (by (repeat (first | exact List.mem_append_left _ mx3 | apply List.mem_cons_of_mem)))), Ne.symm (off_ne o1 (104, x3) (List.mem_append_right _ (List.mem_append_left _ mx3))), trivial⟩
        have w90 : LCg.Off1 90 ((TL, listOf (tov ++ ys).toArray 0) :: (S, LCg.lst ys) :: (D9, LCg.lst ys) :: []) := ⟨Nat.ne_of_gt (hTL (90, y3) (by (repeat (first | exact List.mem_append_left _ my3 | apply List.mem_cons_of_mem)))), Ne.symm (off_ne oS (90, y3) (by (repeat (first | exact List.mem_append_left _ my3 | apply List.mem_cons_of_mem)))), Ne.symm (off_ne o1 (90, y3) (List.mem_append_right _ (List.mem_append_left _ my3))), trivial⟩
        refine' Ctr.use (view3 (ex := List.take 18 (ledOf N9)) (lv := TL) (vs := tov ++ ys) (nv := 0) (ls := S) (n := 5) (t0 := z0) (t1 := z1) (t2 := z2) (t3 := z3) (t4 := z4) h5 h6 hliar.1 hliar.2 hway hsb ?m1 ?m2 hl5 hT2 (offT_of ⟨w104.1, w104.2.1, w104.2.2.1, i104.1, e3⟩ ⟨w90.1, w90.2.1, w90.2.2.1, i90.1, e4⟩) hv2 (fun i v q a b => vote_mono (hvall.2 i v q a b) fun p hp => List.mem_append_right _ hp)) ?zB F9 ?zX N9 ?zT ?zk ?zd ?zu ?_
        case m1 => exact List.mem_append_left _ (.head _)
        case m2 => exact List.mem_append_left _ (.tail _ (.head _))
        case zB => k_asm
        case zX => k_asm
        case zT => k_asm
        case zk => exact rfl
        case zd => ktr_room
        case zu => ktr_units
        intro T9 g0 g1 hd' hT' hkeep h' dr tk F' N'
        rw [← hse] at N'
        dsimp only [ledOf, List.take, List.cons_append, List.nil_append] at N' hkeep
        have hTm : (T9, rowO (most (seenL os ls liar k) way) (ct (seenL os ls liar k) (most (seenL os ls liar k) way)) g0 g1) ∈ ledOf N' := by (repeat (first | exact List.mem_append_right _ (.head _) | apply List.mem_cons_of_mem))
        have hTn : ∀ a ∈ [V, O, L' + 1 + 1 + 1 + 1 + 1 + 1 + 1 + 1, L' + 1 + 1 + 1 + 1 + 1 + 1 + 1, L' + 1 + 1 + 1 + 1 + 1 + 1, L' + 1 + 1 + 1 + 1 + 1], T9 ≠ a := by
          exact (Mine.all_c (ne_cls N' hTm (q := (V, dvv)) (by (first | (k_dflt k_mem) | (repeat (first | exact List.Mem.head _ | apply List.mem_cons_of_mem)))) (by obtain ⟨_, kvs, hdd9, _⟩ := hvm; show Value.type "tuple" ≠ dvv.cls; rw [dict_cls hdd9]; exact cls_ne (by decide))) (Mine.all_c (ne_cls N' hTm (q := (O, listOf ovs.toArray on)) (by (first | (k_dflt k_mem) | (repeat (first | exact List.Mem.head _ | apply List.mem_cons_of_mem)))) (cls_ne (by decide))) (Mine.all_c (ne_cell N' hTm (q := (_, oh)) (by (first | (k_dflt k_mem) | (repeat (first | exact List.Mem.head _ | apply List.mem_cons_of_mem)))) rfl ⟨_, dh⟩) (Mine.all_c (ne_cell N' hTm (q := (_, _)) (.tail _ (.tail _ (.tail _ (.tail _ (.tail _ (.tail _ (.tail _ (.tail _ (.tail _ (.tail _ (.tail _ (.head _)))))))))))) rfl ⟨_, dk2⟩) (Mine.all_c (ne_cell N' hTm (q := (_, oli)) (by (first | (k_dflt k_mem) | (repeat (first | exact List.Mem.head _ | apply List.mem_cons_of_mem)))) rfl ⟨_, dli⟩) (Mine.all_c (ne_cell N' hTm (q := (_, ot)) (by (first | (k_dflt k_mem) | (repeat (first | exact List.Mem.head _ | apply List.mem_cons_of_mem)))) rfl dt) Mine.all_n))))))
        have hTI : T9 ≠ I := ne_cls N' hTm (q := (I, oI)) (by (first | (k_dflt k_mem) | (repeat (first | exact List.Mem.head _ | apply List.mem_cons_of_mem)))) (Ne.symm hcI)
        have hT104 := tab_ne hT' N' (fun p hp => by (repeat (first | exact List.mem_append_left _ hp | apply List.mem_cons_of_mem))) hTm
        have hoff' := offA_view (oT := rowO (most (seenL os ls liar k) way) (ct (seenL os ls liar k) (most (seenL os ls liar k) way)) g0 g1) ho2 (ex := (TL, listOf (tov ++ ys).toArray 0) :: (S, _) :: (D9, LCg.lst ys) :: (I, oI) :: (V, dvv) :: (To, LCg.lst tov) :: (O, listOf ovs.toArray on) :: (Lo, LCg.lst lov) :: (H, LCg.lst hv) :: (Li, LCg.lst lsv) :: (L' + 1 + 1 + 1 + 1 + 1 + 1 + 1 + 1, oh) :: (L' + 1 + 1 + 1 + 1 + 1 + 1 + 1, _) :: (L' + 1 + 1 + 1 + 1 + 1 + 1, oli) :: (L' + 1 + 1 + 1 + 1 + 1, ot) :: (L' + 1 + 1 + 1 + 1, ow) :: (L' + 1 + 1 + 1, ol) :: (L' + 1 + 1, oo) :: (L' + 1, oc) :: []) (by intro a ha; refine List.mem_map.mp ?_; ((revert ha; revert a; (repeat (first | exact Mine.sub_nil | (refine Mine.sub_cons ?_ ?_; focus (first | exact Mine.m0 | exact Mine.m1 | exact Mine.m2 | exact Mine.m3 | exact Mine.m4 | exact Mine.m5 | exact Mine.m6 | exact Mine.mAt 7 rfl | exact Mine.mAt 8 rfl | exact Mine.mAt 9 rfl | exact Mine.mAt 10 rfl | exact Mine.mAt 11 rfl | exact Mine.mAt 12 rfl | exact Mine.mAt 13 rfl | exact Mine.mAt 14 rfl | exact Mine.mAt 15 rfl | exact Mine.mAt 16 rfl | exact Mine.mAt 17 rfl | exact Mine.mAt 18 rfl | exact Mine.mAt 19 rfl | exact Mine.mAt 20 rfl | exact Mine.mAt 21 rfl | exact Mine.mAt 22 rfl | exact Mine.mAt 23 rfl | (repeat (first | exact List.Mem.head _ | apply List.mem_cons_of_mem | apply List.mem_append_right)))) | (refine Mine.sub_app ?_ ?_) | (intro p9 hp9; (repeat (first | exact hp9 | exact List.mem_append_left _ hp9 | apply List.mem_cons_of_mem | apply List.mem_append_right)))))))) hkeep hTn
        have hoffI := offA_view (oT := rowO (most (seenL os ls liar k) way) (ct (seenL os ls liar k) (most (seenL os ls liar k) way)) g0 g1) hoI2 (ex := (TL, listOf (tov ++ ys).toArray 0) :: (S, _) :: (D9, LCg.lst ys) :: (I, oI) :: (V, dvv) :: (To, LCg.lst tov) :: (O, listOf ovs.toArray on) :: (Lo, LCg.lst lov) :: (H, LCg.lst hv) :: (Li, LCg.lst lsv) :: (L' + 1 + 1 + 1 + 1 + 1 + 1 + 1 + 1, oh) :: (L' + 1 + 1 + 1 + 1 + 1 + 1 + 1, _) :: (L' + 1 + 1 + 1 + 1 + 1 + 1, oli) :: (L' + 1 + 1 + 1 + 1 + 1, ot) :: (L' + 1 + 1 + 1 + 1, ow) :: (L' + 1 + 1 + 1, ol) :: (L' + 1 + 1, oo) :: (L' + 1, oc) :: []) (fun a ha => ⟨_, .tail _ (.tail _ (.tail _ (.head _))), (List.mem_singleton.mp ha).symm⟩) hkeep (fun a ha => by rw [List.mem_singleton.mp ha]; exact hTI)
        have c1 := hoff' V (.head _)
        have hz3 := offZ hz2 hkeep (fun a ha => let ⟨p, hp, e⟩ := hzm a ha; ⟨p, by (repeat (first | exact hs2 p (hsub p hp) | apply List.mem_cons_of_mem)), e⟩)
        clear F9 N9 hTL oS hTm hTn hTI
        try dsimp only
        (repeat' (first | ((fail_if_success (fail_if_success k_unfold)); (first | refine (let s9 := _; (?_ : wpAny _ _ _ _ _ s9)) | k_unfold)) | (k_end; wrow_close) | ((fail_if_success (fail_if_success k_fold)); (refine (let q9 := _; (?_ : wpAny _ _ _ q9 _ _))); walk1) | walk1 | (dsimp only [List.nil_append, List.cons_append]; walk1) | (leave1; walk_say "STEP leave1"; try dsimp only) | fail "no step"))
        refine Hold.mk ?_
        rename Fr _ _ _ _ => F9
        rename News _ _ _ _ => N9
        replace N9 := drop1 (drop1 (drop1 N9))
        have hti5 : ((loyP liar).take i).length ≤ 5 := by rw [List.length_take]; omega
        refine vset (tl := (T9, rowO (most (seenL os ls liar k) way) (ct (seenL os ls liar k) (most (seenL os ls liar k) way)) g0 g1) :: vs2) (hvm.mono fun p hp => .tail _ (hs2 p hp)) hti5 F9 N9 (.tail (Ne.symm oI1.1) (.head (off_app (ex := (To, LCg.lst tov) :: (O, listOf ovs.toArray on) :: (Lo, LCg.lst lov) :: (H, LCg.lst hv) :: (Li, LCg.lst lsv) :: (L' + 1 + 1 + 1 + 1 + 1 + 1 + 1 + 1, oh) :: (L' + 1 + 1 + 1 + 1 + 1 + 1 + 1, _) :: (L' + 1 + 1 + 1 + 1 + 1 + 1, oli) :: (L' + 1 + 1 + 1 + 1 + 1, ot) :: (L' + 1 + 1 + 1 + 1, ow) :: (L' + 1 + 1 + 1, ol) :: (L' + 1 + 1, oo) :: (L' + 1, oc) :: []) e1 c1))) (.head _) ?_
        clear F9 N9
        intro h' dv' F' N' vm'
        try dsimp only at N' ⊢
        (repeat' (first | ((fail_if_success (fail_if_success k_unfold)); (first | refine (let s9 := _; (?_ : wpAny _ _ _ _ _ s9)) | k_unfold)) | (k_end; wrow_close) | ((fail_if_success (fail_if_success k_fold)); (refine (let q9 := _; (?_ : wpAny _ _ _ q9 _ _))); walk1) | walk1 | (dsimp only [List.nil_append, List.cons_append]; walk1) | (leave1; walk_say "STEP leave1"; try dsimp only) | fail "no step"))
        refine Hold.mk ?_
        rename Fr _ _ _ _ => F9
        rename News _ _ _ _ => N9
        rename VMap _ _ _ _ _ _ _ _ => vm'
        refine vitem vm' N9 (by (first | (k_dflt k_mem) | (repeat (first | exact List.Mem.head _ | apply List.mem_cons_of_mem)))) (List.mem_append_right _ (.head _)) ?_
        intro T2 x1 x2 hT2'
        try dsimp only
        (repeat' (first | ((fail_if_success (fail_if_success k_unfold)); (first | refine (let s9 := _; (?_ : wpAny _ _ _ _ _ s9)) | k_unfold)) | (k_end; wrow_close) | ((fail_if_success (fail_if_success k_fold)); (refine (let q9 := _; (?_ : wpAny _ _ _ q9 _ _))); walk1) | walk1 | (dsimp only [List.nil_append, List.cons_append]; walk1) | (leave1; walk_say "STEP leave1"; try dsimp only) | fail "no step"))
        rename Fr _ _ _ _ => F8
        rename News _ _ _ _ => N8
        refine end_f F8 N8 (off_app (ex := (V, dv') :: (To, LCg.lst tov) :: (O, listOf ovs.toArray on) :: (Lo, LCg.lst lov) :: (H, LCg.lst hv) :: (Li, LCg.lst lsv) :: (L' + 1 + 1 + 1 + 1 + 1 + 1 + 1 + 1, oh) :: (L' + 1 + 1 + 1 + 1 + 1 + 1 + 1, _) :: (L' + 1 + 1 + 1 + 1 + 1 + 1, oli) :: (L' + 1 + 1 + 1 + 1 + 1, ot) :: (L' + 1 + 1 + 1 + 1, ow) :: (L' + 1 + 1 + 1, ol) :: (L' + 1 + 1, oo) :: (L' + 1, oc) :: []) oI1 (hoffI I (.head _))) ⟨_, _, dv', _, hd', _, two_eq (fun z h1 h2 => by simp +zetaDelta only [two, mapOf, if_neg h1, if_neg h2]) (by decide +kernel), rfl, ⟨_, dk2⟩, by rw [List.take_add_one, hkl]; exact vm', hT', List.forall_mem_cons.mpr ⟨hT104, hv2⟩, fun p hp => .tail _ (hs2 p (hsub p hp)), hoff', hz3⟩
  case fin =>
    rintro h dr tk m nw ⟨u1, u2, dvv, okk, hdd, vs, rfl, rfl, hok, hvm, hTT, hvs, hsub, hoffv, hzv⟩ F' N'
    dsimp only [mapOf] at F'
    rw [List.take_of_length_le (by have := ilo.length; simp only [List.size_toArray]; omega)] at hvm
    (repeat' (first | ((fail_if_success (fail_if_success k_unfold)); (first | refine (let s9 := _; (?_ : wpAny _ _ _ _ _ s9)) | k_unfold)) | (k_end; wrow_close) | ((fail_if_success (fail_if_success k_fold)); (refine (let q9 := _; (?_ : wpAny _ _ _ q9 _ _))); walk1) | walk1 | (dsimp only [List.nil_append, List.cons_append]; walk1) | (leave1; walk_say "STEP leave1"; try dsimp only) | fail "no step"))
    refine Hold.mk ?_
    rename Fr _ _ _ _ => F8
    rename News _ _ _ _ => N8
    exact hnext _ _ _ _ dvv okk hdd vs (fun z h1 h2 => by simp only [two, if_neg h1, if_neg h2]) F8 hvm hok hTT hvs hsub hoffv hzv N8
end Mine
end
section
theorem Mine.fresh20 {prog : Program} {w : World} {A : Around} {E : Value → Shared → Prop} {s : Shared} {Q : Bool → Shared → Prop} (h : wpAny (model prog w) A (truthy (.bool true)) Q E s) : wpAny (model prog w) A (truthy (.bool true)) Q E s := by
  w_top off
  first | (walk1; fail "no") | exact h
set_option hygiene false in
local macro_rules | `(tactic| walk_at $s) => if ("|call ref|eval ListComp|exec For Name Name cons nil|".splitOn ("|" ++ s.getString ++ "|")).length = 2 then `(tactic| (with_reducible refine Mine.Hold.h ?_)) else Lean.Macro.throwUnsupported
set_option hygiene false in
local macro_rules | `(tactic| walk_at "exec Assign cons ListComp") => `(tactic| (k_here; (fail_if_success (with_reducible show wpAny _ _ (exec (PySem.Stmt.Assign [PySem.Expr.Name (Str.ofString "hows") _] _ _) _) _ _ _)); (with_reducible refine Mine.Hold.h ?_)))
namespace Mine
theorem at5_b {l : List Int} {a b : Int} (h : ∀ x ∈ l, a ≤ x ∧ x ≤ b) (h0 : a ≤ 0 ∧ 0 ≤ b) (k : Int) : a ≤ at5 l k ∧ at5 l k ≤ b := by
  unfold at5
  rw [List.getD_eq_getElem?_getD]
  cases e : l[k.toNat]? with
  | none => exact h0
  | some x => exact h x (List.mem_of_getElem? e)
theorem lies_b (c2 i : Int) : B3 (liesP c2 i) := at5_b (fun x hx => by
  unfold liesP at hx
  obtain ⟨k, _, rfl⟩ := List.mem_map.mp hx
  have := fm_b (a := c2.fdiv (3 ^ (10 * i + k).toNat)) (b := 3) (by decide)
  omega) ⟨by decide, by decide⟩
theorem ords_b (c0 : Int) : B3 (ordsP c0) := at5_b (fun x hx => by
  unfold ordsP at hx
  obtain ⟨k, _, rfl⟩ := List.mem_map.mp hx
  have := fm_b (a := c0.fdiv (3 ^ k.toNat)) (b := 3) (by decide)
  omega) ⟨by decide, by decide⟩
def howsP (c3 i : Int) : List Int := [0, 1, 2, 3, 4].map fun k : Int => (c3.fdiv (18 ^ (5 * i + k).toNat)).fmod 18
theorem hows_b (c3 i k : Int) : 0 ≤ at5 (howsP c3 i) k := (at5_b (a := 0) (b := 17) (fun x hx => by
  unfold howsP at hx
  obtain ⟨k, _, rfl⟩ := List.mem_map.mp hx
  have := fm_b (a := c3.fdiv (18 ^ (5 * i + k).toNat)) (b := 18) (by decide)
  omega) ⟨by decide, by decide⟩ k).1
theorem offA_ins {As : List Addr} {hd vs : List (Addr × Obj)} {x : Addr × Obj} (h : OffA As (hd ++ vs)) (hx : ∀ a ∈ As, x.1 ≠ a) : OffA As (hd ++ (x :: vs)) := fun a ha p hp => by
  rcases List.mem_append.mp hp with h1 | h1
  · exact h a ha p (List.mem_append_left _ h1)
  · rcases List.mem_cons.mp h1 with rfl | h1
    · exact hx a ha
    · exact h a ha p (List.mem_append_right _ h1)
theorem offA_cons {a : Addr} {As : List Addr} {l : List (Addr × Obj)} (h1 : ∀ p ∈ l, p.1 ≠ a) (h2 : OffA As l) : OffA (a :: As) l := fun b hb p hp => by
  rcases List.mem_cons.mp hb with rfl | hb
  · exact h1 p hp
  · exact h2 b hb p hp
theorem offA_mono {As : List Addr} {l l' : List (Addr × Obj)} (h : OffA As l) (hs : ∀ p ∈ l', p ∈ l) : OffA As l' := fun a ha p hp => h a ha p (hs p hp)
set_option maxHeartbeats 16000000 in
theorem held_turn {prog : Program} {w : World} {c0 c1 c2 c3 c4 width way liar turn : Int} {os ks : List Int} {ovs ksv : List Value} {oh ok oli ot ow ol oo oc : Obj} {O Kk l : Addr} {on kn n : Nat} {t0 t1 t2 t3 t4 tw ti tt ty : Tok} {hd vl : List (Addr × Obj)} {Zs : List Addr}
    {p : Program} {loose : List Str} {mean : ExcName → Option Value} {mg mb : Str → Option Value} {dp un : Nat} {gd : Option (List Code)} {cn : Str} {cs : Scope} {a : Addr} {ccd : Value} {cl : List (Str × Addr)} {outer : List Env} {base g : Heap} {L L' : Addr} {m' : Str → Option Value} {s : Shared} {Q : Flow → Shared → Prop} {E : Value → Shared → Prop}
    {oc' dV kV doc pm cdv ctt : Value} {od an : Option Addr} {name qual : Str} {params : Arguments} {body : List Stmt} {scope : Scope} {osl : Array (Option Value)}
    (hfn : (hdA.heap_39 w.params).lookup 215 = some ⟨oc', od, .func (fnOf name qual params body scope dV kV doc pm an cdv ctt), osl⟩)
    (h5 : 3 ≤ width) (h6 : width ≤ 6) (hway : way = 1 ∨ way = -1) (hT : Tabs hd) (hvl : OffT vl) (bo : B3 os) (hliar : 0 ≤ liar ∧ liar ≤ 5) (hlo : os.length = 5) (hlk : ks.length = 2) (hkg : 0 ≤ at5 ks turn ∧ at5 ks turn < 5) (htu : 0 ≤ turn ∧ turn ≤ 1)
    (ios : IntsAre ovs os) (iks : IntsAre ksv ks)
    (dh : ∃ v, oh.data = .cell v) (dk : ∃ v, ok.data = .cell v) (dli : ∃ v, oli.data = .cell v) (dt : ot.data = .cell (some (.int turn tt))) (dw : ow.data = .cell (some (.int width tw))) (dl : ol.data = .cell (some (.int liar ti))) (doo : oo.data = .cell (some (.ref O))) (dc : oc.data = .cell (some (.ref l)))
    (e1 : LCg.Off1 O ((Kk, listOf ksv.toArray kn) :: (L' + 1 + 1 + 1 + 1 + 1 + 1 + 1 + 1, oh) :: (L' + 1 + 1 + 1 + 1 + 1 + 1 + 1, ok) :: (L' + 1 + 1 + 1 + 1 + 1 + 1, oli) :: (L' + 1 + 1 + 1 + 1 + 1, ot) :: (L' + 1 + 1 + 1 + 1, ow) :: (L' + 1 + 1 + 1, ol) :: (L' + 1 + 1, oo) :: (L' + 1, oc) :: (l, cellsO c0 c1 c2 c3 c4 t0 t1 t2 t3 t4 n) :: [])) (g1 : @LT.lt Nat _ (L' + 1 + 1 + 1 + 1 + 1 + 1 + 1 + 1) Kk) (g3 : @LT.lt Nat _ l L')
    (e3 : LCg.Off1 104 ((O, listOf ovs.toArray on) :: (Kk, listOf ksv.toArray kn) :: (L' + 1 + 1 + 1 + 1 + 1 + 1 + 1 + 1, oh) :: (L' + 1 + 1 + 1 + 1 + 1 + 1 + 1, ok) :: (L' + 1 + 1 + 1 + 1 + 1 + 1, oli) :: (L' + 1 + 1 + 1 + 1 + 1, ot) :: (L' + 1 + 1 + 1 + 1, ow) :: (L' + 1 + 1 + 1, ol) :: (L' + 1 + 1, oo) :: (L' + 1, oc) :: (l, cellsO c0 c1 c2 c3 c4 t0 t1 t2 t3 t4 n) :: [])) (e4 : LCg.Off1 90 ((O, listOf ovs.toArray on) :: (Kk, listOf ksv.toArray kn) :: (L' + 1 + 1 + 1 + 1 + 1 + 1 + 1 + 1, oh) :: (L' + 1 + 1 + 1 + 1 + 1 + 1 + 1, ok) :: (L' + 1 + 1 + 1 + 1 + 1 + 1, oli) :: (L' + 1 + 1 + 1 + 1 + 1, ot) :: (L' + 1 + 1 + 1 + 1, ow) :: (L' + 1 + 1 + 1, ol) :: (L' + 1 + 1, oo) :: (L' + 1, oc) :: (l, cellsO c0 c1 c2 c3 c4 t0 t1 t2 t3 t4 n) :: [])) (hoff : OffA [O, L' + 1 + 1 + 1 + 1 + 1 + 1 + 1 + 1, L' + 1 + 1 + 1 + 1 + 1 + 1 + 1, L' + 1 + 1 + 1 + 1 + 1 + 1, L' + 1 + 1 + 1 + 1 + 1] (hd ++ vl)) (hz0 : OffA Zs hd) (hzm : ∀ a ∈ Zs, ∃ p ∈ vl, p.1 = a)
    (nkg : m' (Str.ofString "kings") = some (.ref Kk)) (nw : m' (Str.ofString "way") = some (.int way ty))
    (B : Below (ktrTop dp un gd cn cs L a ccd cl outer) base (envX cn cs L a ccd cl :: outer) g) (X : (hdA.heap_39 w.params).In g) (T : Top p loose mean mg mb g) (hd40 : dp + 40 < recursionLimit) (hu : un + 8 * 40 < cLine)
    (hE : PassesOwn (model prog w) ((ktrTop dp un gd cn cs L a ccd cl outer).deeper (envOfC qual scope L' 215 cdv)) (envOfC qual scope L' 215 cdv) E)
    (hret : ∀ h' dr tk m'' ov' on' oh' ok' oli' hd', (∀ z, z ∉ [Str.ofString "king", Str.ofString "loyal", Str.ofString "told", Str.ofString "views", Str.ofString "lie", Str.ofString "seen", Str.ofString "said", Str.ofString "vote"] → m'' z = m' z) → Fr g L' h' m'' → IntsAre ov' (roundP os (liesP c2 turn) liar (at5 ks turn) way) →
      (∃ v, oh'.data = .cell v) → (∃ v, ok'.data = .cell v) → (∃ v, oli'.data = .cell v) → Tabs hd' → OffA [O, L' + 1 + 1 + 1 + 1 + 1 + 1 + 1 + 1, L' + 1 + 1 + 1 + 1 + 1 + 1 + 1, L' + 1 + 1 + 1 + 1 + 1 + 1, L' + 1 + 1 + 1 + 1 + 1] (hd' ++ vl) → OffA Zs hd' →
      News g L' h' ((O, listOf ov'.toArray on') :: (Kk, listOf ksv.toArray kn) :: (L' + 1 + 1 + 1 + 1 + 1 + 1 + 1 + 1, oh') :: (L' + 1 + 1 + 1 + 1 + 1 + 1 + 1, ok') :: (L' + 1 + 1 + 1 + 1 + 1 + 1, oli') :: (L' + 1 + 1 + 1 + 1 + 1, ot) :: (L' + 1 + 1 + 1 + 1, ow) :: (L' + 1 + 1 + 1, ol) :: (L' + 1 + 1, oo) :: (L' + 1, oc) :: (l, cellsO c0 c1 c2 c3 c4 t0 t1 t2 t3 t4 n) :: (hd' ++ vl)) → Q .next { s with heap := h', drawn := dr, toks := tk })
    (F : Fr g L' s.heap m') (N : News g L' s.heap ((O, listOf ovs.toArray on) :: (Kk, listOf ksv.toArray kn) :: (L' + 1 + 1 + 1 + 1 + 1 + 1 + 1 + 1, oh) :: (L' + 1 + 1 + 1 + 1 + 1 + 1 + 1, ok) :: (L' + 1 + 1 + 1 + 1 + 1 + 1, oli) :: (L' + 1 + 1 + 1 + 1 + 1, ot) :: (L' + 1 + 1 + 1 + 1, ow) :: (L' + 1 + 1 + 1, ol) :: (L' + 1 + 1, oo) :: (L' + 1, oc) :: (l, cellsO c0 c1 c2 c3 c4 t0 t1 t2 t3 t4 n) :: (hd ++ vl))) :
    wpAny (model prog w) ((ktrTop dp un gd cn cs L a ccd cl outer).deeper (envOfC qual scope L' 215 cdv)) (execs (forB body) (envOfC qual scope L' 215 cdv)) Q E s := by
  refine' fn_eq2 hfn ?h2 ?k2
  case h2 => k_dflt k_is
  intro e0
  injection e0 with q1 q2 q3 q4
  injection q3 with q3
  injection q3
  subst_vars
  (rename FuncBody.stmts _ = FuncBody.stmts _ => eb)
  injection eb with eb
  subst eb
  clear hfn
  dsimp only [forB, List.drop]
  obtain ⟨vli, dli⟩ := dli
  obtain ⟨vh, dh⟩ := dh
  have a6 : ∀ p ∈ hd ++ vl, p.1 ≠ L' + 1 + 1 + 1 + 1 + 1 + 1 := hoff _ (.tail _ (.tail _ (.tail _ (.head _))))
  have a8 : ∀ p ∈ hd ++ vl, p.1 ≠ L' + 1 + 1 + 1 + 1 + 1 + 1 + 1 + 1 := hoff _ (.tail _ (.head _))
  refine cut_execs 5 ?_
  dsimp only [List.take, List.drop]
  (repeat' (first | ((fail_if_success (fail_if_success k_unfold)); (first | refine (let s9 := _; (?_ : wpAny _ _ _ _ _ s9)) | k_unfold)) | (k_end; wrow_close) | ((fail_if_success (fail_if_success k_fold)); (refine (let q9 := _; (?_ : wpAny _ _ _ q9 _ _))); (first | ((with_reducible show wpAny _ _ (binaryOp Operator.FloorDiv (Value.int _ _) (Value.int _ _)) _ _ _); with_reducible refine floordiv_int (Mine.pow18_ne _) ?_ (Or.inl (PyProof.noPylong_of_log2 (Mine.py18 (by omega))))) | walk1)) | (first | ((with_reducible show wpAny _ _ (binaryOp Operator.FloorDiv (Value.int _ _) (Value.int _ _)) _ _ _); with_reducible refine floordiv_int (Mine.pow18_ne _) ?_ (Or.inl (PyProof.noPylong_of_log2 (Mine.py18 (by omega))))) | walk1) | (dsimp only [List.nil_append, List.cons_append]; (first | ((with_reducible show wpAny _ _ (binaryOp Operator.FloorDiv (Value.int _ _) (Value.int _ _)) _ _ _); with_reducible refine floordiv_int (Mine.pow18_ne _) ?_ (Or.inl (PyProof.noPylong_of_log2 (Mine.py18 (by omega))))) | walk1)) | (leave1; walk_say "STEP leave1"; try dsimp only) | fail "no step"))
  refine Hold.mk ?_
  rename Fr _ _ _ _ => F9
  rename News _ _ _ _ => N9
  refine' Ctr.use (lies_ctr (led := ledOf N9) htu.1 htu.2 ?zm) ?zB F9 ?zX N9 ?zT ?zk ?zd ?zu ?_
  case zm => (first | (k_dflt k_mem) | (repeat (first | exact List.Mem.head _ | apply List.mem_cons_of_mem)))
  case zB => k_asm
  case zX => k_asm
  case zT => k_asm
  case zk => exact rfl
  case zd => ktr_room
  case zu => ktr_units
  intro Li lsv ils hLi h' dr tk F' N'
  dsimp only [ledOf] at hLi N'
  replace ils : IntsAre lsv (liesP c2 turn) := ils
  have hll := liesP_len c2 turn
  have bl := lies_b c2 turn
  have hkg9 : ks.getD turn.toNat 0 = at5 ks turn := rfl
  clear F9 N9
  generalize liesP c2 turn = ls at *
  try dsimp only
  (repeat' (first | ((fail_if_success (fail_if_success k_unfold)); (first | refine (let s9 := _; (?_ : wpAny _ _ _ _ _ s9)) | k_unfold)) | (k_end; wrow_close) | ((fail_if_success (fail_if_success k_fold)); (refine (let q9 := _; (?_ : wpAny _ _ _ q9 _ _))); (first | ((with_reducible show wpAny _ _ (binaryOp Operator.FloorDiv (Value.int _ _) (Value.int _ _)) _ _ _); with_reducible refine floordiv_int (Mine.pow18_ne _) ?_ (Or.inl (PyProof.noPylong_of_log2 (Mine.py18 (by omega))))) | walk1)) | (first | ((with_reducible show wpAny _ _ (binaryOp Operator.FloorDiv (Value.int _ _) (Value.int _ _)) _ _ _); with_reducible refine floordiv_int (Mine.pow18_ne _) ?_ (Or.inl (PyProof.noPylong_of_log2 (Mine.py18 (by omega))))) | walk1) | (dsimp only [List.nil_append, List.cons_append]; (first | ((with_reducible show wpAny _ _ (binaryOp Operator.FloorDiv (Value.int _ _) (Value.int _ _)) _ _ _); with_reducible refine floordiv_int (Mine.pow18_ne _) ?_ (Or.inl (PyProof.noPylong_of_log2 (Mine.py18 (by omega))))) | walk1)) | (leave1; walk_say "STEP leave1"; try dsimp only) | fail "no step"))
  refine Hold.mk ?_
  rename Fr _ _ _ _ => FA
  rename News _ _ _ _ => NA
  rw [hkg9] at FA
  clear hkg9
  generalize at5 ks turn = king at *
  replace NA := drop1 NA
  rename _ = Data.cell (some (Value.ref Li)) => dli2
  k_dflt refine ListComp_D (fun i ys nw => nw = ledOf NA ∧ IntsAre ys (([0, 1, 2, 3, 4].take i).map fun k : Int => (c3.fdiv (18 ^ (5 * turn + k).toNat)).fmod 18)) FA (by with_unfolding_all rfl) (by decide) (by rfl) (by decide) (by rfl) ?_
  (repeat' (first | ((fail_if_success (fail_if_success k_unfold)); (first | refine (let s9 := _; (?_ : wpAny _ _ _ _ _ s9)) | k_unfold)) | (k_end; wrow_close) | ((fail_if_success (fail_if_success k_fold)); (refine (let q9 := _; (?_ : wpAny _ _ _ q9 _ _))); (first | ((with_reducible show wpAny _ _ (binaryOp Operator.FloorDiv (Value.int _ _) (Value.int _ _)) _ _ _); with_reducible refine floordiv_int (Mine.pow18_ne _) ?_ (Or.inl (PyProof.noPylong_of_log2 (Mine.py18 (by omega))))) | walk1)) | (first | ((with_reducible show wpAny _ _ (binaryOp Operator.FloorDiv (Value.int _ _) (Value.int _ _)) _ _ _); with_reducible refine floordiv_int (Mine.pow18_ne _) ?_ (Or.inl (PyProof.noPylong_of_log2 (Mine.py18 (by omega))))) | walk1) | (dsimp only [List.nil_append, List.cons_append]; (first | ((with_reducible show wpAny _ _ (binaryOp Operator.FloorDiv (Value.int _ _) (Value.int _ _)) _ _ _); with_reducible refine floordiv_int (Mine.pow18_ne _) ?_ (Or.inl (PyProof.noPylong_of_log2 (Mine.py18 (by omega))))) | walk1)) | (leave1; walk_say "STEP leave1"; try dsimp only) | fail "no step"))
  rename IsRange _ _ _ _ _ _ _ _ => hR
  rename Fr _ _ _ _ => FB
  rename News _ _ _ _ => NB
  refine ⟨5, _, from_range rfl FB NB (Nat.le_of_ble_eq_true rfl) ⟨rfl, .nil⟩ hR (by decide) (by rfl), ?t1, ?f1⟩
  case t1 =>
    rintro i ys nw hi5 ⟨rfl, hys⟩ v I oI C oC D9 m₂ h dr tk E' ⟨t9, rfl⟩ hC hx F' N' off ne
    refine wpAny_tests_nil ?_
    simp only [if_true]
    dsimp only [ledOf] at N' off ⊢
    have hr5 := r5 hi5
    rw [Int.zero_add] at hx
    have ho5 : 0 ≤ (i : Int) ∧ (i : Int) < 5 := by omega
    generalize ((i : Nat) : Int) = o at *
    clear ne
    (repeat' (first | ((fail_if_success (fail_if_success k_unfold)); (first | refine (let s9 := _; (?_ : wpAny _ _ _ _ _ s9)) | k_unfold)) | (k_end; wrow_close) | ((fail_if_success (fail_if_success k_fold)); (refine (let q9 := _; (?_ : wpAny _ _ _ q9 _ _))); (first | ((with_reducible show wpAny _ _ (binaryOp Operator.FloorDiv (Value.int _ _) (Value.int _ _)) _ _ _); with_reducible refine floordiv_int (Mine.pow18_ne _) ?_ (Or.inl (PyProof.noPylong_of_log2 (Mine.py18 (by omega))))) | walk1)) | (first | ((with_reducible show wpAny _ _ (binaryOp Operator.FloorDiv (Value.int _ _) (Value.int _ _)) _ _ _); with_reducible refine floordiv_int (Mine.pow18_ne _) ?_ (Or.inl (PyProof.noPylong_of_log2 (Mine.py18 (by omega))))) | walk1) | (dsimp only [List.nil_append, List.cons_append]; (first | ((with_reducible show wpAny _ _ (binaryOp Operator.FloorDiv (Value.int _ _) (Value.int _ _)) _ _ _); with_reducible refine floordiv_int (Mine.pow18_ne _) ?_ (Or.inl (PyProof.noPylong_of_log2 (Mine.py18 (by omega))))) | walk1)) | (leave1; walk_say "STEP leave1"; try dsimp only) | fail "no step"))
    refine end_d (by k_asm) (by k_asm) off ⟨rfl, ?_⟩
    rw [take_snoc hr5]
    exact ints_snoc hys
  case f1 =>
  rintro H h dr tk hv nw F' N' oH ⟨rfl, ihs⟩
  dsimp only [ledOf] at N' oH
  replace ihs : IntsAre hv (howsP c3 turn) := ihs
  have hlh : (howsP c3 turn).length = 5 := rfl
  have hh := hows_b c3 turn
  generalize howsP c3 turn = hs at *
  clear FB
  (repeat' (first | ((fail_if_success (fail_if_success k_unfold)); (first | refine (let s9 := _; (?_ : wpAny _ _ _ _ _ s9)) | k_unfold)) | (k_end; wrow_close) | ((fail_if_success (fail_if_success k_fold)); (refine (let q9 := _; (?_ : wpAny _ _ _ q9 _ _))); (first | ((with_reducible show wpAny _ _ (binaryOp Operator.FloorDiv (Value.int _ _) (Value.int _ _)) _ _ _); with_reducible refine floordiv_int (Mine.pow18_ne _) ?_ (Or.inl (PyProof.noPylong_of_log2 (Mine.py18 (by omega))))) | walk1)) | (first | ((with_reducible show wpAny _ _ (binaryOp Operator.FloorDiv (Value.int _ _) (Value.int _ _)) _ _ _); with_reducible refine floordiv_int (Mine.pow18_ne _) ?_ (Or.inl (PyProof.noPylong_of_log2 (Mine.py18 (by omega))))) | walk1) | (dsimp only [List.nil_append, List.cons_append]; (first | ((with_reducible show wpAny _ _ (binaryOp Operator.FloorDiv (Value.int _ _) (Value.int _ _)) _ _ _); with_reducible refine floordiv_int (Mine.pow18_ne _) ?_ (Or.inl (PyProof.noPylong_of_log2 (Mine.py18 (by omega))))) | walk1)) | (leave1; walk_say "STEP leave1"; try dsimp only) | fail "no step"))
  refine Hold.mk ?_
  rename Fr _ _ _ _ => FA
  rename News _ _ _ _ => NA
  rename _ = Data.cell (some (Value.ref H)) => dh2
  k_dflt refine Assign_ListComp_D (fun i ys nw => nw = ledOf NA ∧ IntsAre ys (([0, 1, 2, 3, 4].take i).filter fun k : Int => decide (k ≠ liar))) FA rfl (by with_unfolding_all rfl) (by with_unfolding_all rfl) (by decide) (by rfl) (by decide) (by rfl) (by rfl) (by rfl) ?_
  (repeat' (first | ((fail_if_success (fail_if_success k_unfold)); (first | refine (let s9 := _; (?_ : wpAny _ _ _ _ _ s9)) | k_unfold)) | (k_end; wrow_close) | ((fail_if_success (fail_if_success k_fold)); (refine (let q9 := _; (?_ : wpAny _ _ _ q9 _ _))); (first | ((with_reducible show wpAny _ _ (binaryOp Operator.FloorDiv (Value.int _ _) (Value.int _ _)) _ _ _); with_reducible refine floordiv_int (Mine.pow18_ne _) ?_ (Or.inl (PyProof.noPylong_of_log2 (Mine.py18 (by omega))))) | walk1)) | (first | ((with_reducible show wpAny _ _ (binaryOp Operator.FloorDiv (Value.int _ _) (Value.int _ _)) _ _ _); with_reducible refine floordiv_int (Mine.pow18_ne _) ?_ (Or.inl (PyProof.noPylong_of_log2 (Mine.py18 (by omega))))) | walk1) | (dsimp only [List.nil_append, List.cons_append]; (first | ((with_reducible show wpAny _ _ (binaryOp Operator.FloorDiv (Value.int _ _) (Value.int _ _)) _ _ _); with_reducible refine floordiv_int (Mine.pow18_ne _) ?_ (Or.inl (PyProof.noPylong_of_log2 (Mine.py18 (by omega))))) | walk1)) | (leave1; walk_say "STEP leave1"; try dsimp only) | fail "no step"))
  rename IsRange _ _ _ _ _ _ _ _ => hR2
  rename Fr _ _ _ _ => FB
  rename News _ _ _ _ => NB
  refine ⟨5, _, from_range rfl FB NB (Nat.le_of_ble_eq_true rfl) ⟨rfl, .nil⟩ hR2 (by decide) (by rfl), ?t2, ?f2⟩
  case t2 =>
    rintro i ys nw hi5 ⟨rfl, hys⟩ v I oI C oC D9 m₂ h dr tk E' ⟨t9, rfl⟩ hC hx F' N' off ne
    dsimp only [ledOf] at N' off ⊢
    have hr5 := r5 hi5
    rw [Int.zero_add] at hx
    have ho5 : 0 ≤ (i : Int) ∧ (i : Int) < 5 := by omega
    generalize ((i : Nat) : Int) = o at *
    clear ne
    (repeat' (first | ((fail_if_success (fail_if_success k_unfold)); (first | refine (let s9 := _; (?_ : wpAny _ _ _ _ _ s9)) | k_unfold)) | (k_end; wrow_close) | ((fail_if_success (fail_if_success k_fold)); (refine (let q9 := _; (?_ : wpAny _ _ _ q9 _ _))); (first | ((with_reducible show wpAny _ _ (binaryOp Operator.FloorDiv (Value.int _ _) (Value.int _ _)) _ _ _); with_reducible refine floordiv_int (Mine.pow18_ne _) ?_ (Or.inl (PyProof.noPylong_of_log2 (Mine.py18 (by omega))))) | walk1)) | (first | ((with_reducible show wpAny _ _ (binaryOp Operator.FloorDiv (Value.int _ _) (Value.int _ _)) _ _ _); with_reducible refine floordiv_int (Mine.pow18_ne _) ?_ (Or.inl (PyProof.noPylong_of_log2 (Mine.py18 (by omega))))) | walk1) | (dsimp only [List.nil_append, List.cons_append]; (first | ((with_reducible show wpAny _ _ (binaryOp Operator.FloorDiv (Value.int _ _) (Value.int _ _)) _ _ _); with_reducible refine floordiv_int (Mine.pow18_ne _) ?_ (Or.inl (PyProof.noPylong_of_log2 (Mine.py18 (by omega))))) | walk1)) | (leave1; walk_say "STEP leave1"; try dsimp only) | fail "no step"))
    all_goals
      first
        | exact end_d (by k_asm) (by k_asm) off ⟨rfl, filt_in hys hr5 (by assumption)⟩
        | exact end_d (by k_asm) (by k_asm) off ⟨rfl, filt_out hys hr5 (fun h => h (by assumption))⟩
  case f2 =>
  rintro Lo h dr tk lov nw F' N' oLo ⟨rfl, ilo⟩
  dsimp only [ledOf] at N' oLo
  replace ilo : IntsAre lov (loyP liar) := ilo
  have hlo5 : (loyP liar).length ≤ 5 := by unfold loyP; exact List.length_filter_le _ _
  clear FB
  (repeat' (first | ((fail_if_success (fail_if_success k_unfold)); (first | refine (let s9 := _; (?_ : wpAny _ _ _ _ _ s9)) | k_unfold)) | (k_end; wrow_close) | ((fail_if_success (fail_if_success k_fold)); (refine (let q9 := _; (?_ : wpAny _ _ _ q9 _ _))); (first | ((with_reducible show wpAny _ _ (binaryOp Operator.FloorDiv (Value.int _ _) (Value.int _ _)) _ _ _); with_reducible refine floordiv_int (Mine.pow18_ne _) ?_ (Or.inl (PyProof.noPylong_of_log2 (Mine.py18 (by omega))))) | walk1)) | (first | ((with_reducible show wpAny _ _ (binaryOp Operator.FloorDiv (Value.int _ _) (Value.int _ _)) _ _ _); with_reducible refine floordiv_int (Mine.pow18_ne _) ?_ (Or.inl (PyProof.noPylong_of_log2 (Mine.py18 (by omega))))) | walk1) | (dsimp only [List.nil_append, List.cons_append]; (first | ((with_reducible show wpAny _ _ (binaryOp Operator.FloorDiv (Value.int _ _) (Value.int _ _)) _ _ _); with_reducible refine floordiv_int (Mine.pow18_ne _) ?_ (Or.inl (PyProof.noPylong_of_log2 (Mine.py18 (by omega))))) | walk1)) | (leave1; walk_say "STEP leave1"; try dsimp only) | fail "no step"))
  refine Hold.mk ?_
  rename Fr _ _ _ _ => FA
  rename News _ _ _ _ => NA
  obtain ⟨x, y, mx0, my0⟩ := tabs_104 hT
  k_dflt refine Assign_ListComp_D (fun i ys nw => Mine.Ex2 fun hd2 vs2 => Mine.And7 (nw = List.take 14 (ledOf NA) ++ (hd2 ++ vs2)) (VotesAre prog w vs2 width ys (((loyP liar).take i).map fun j => (j, at5 os j))) (Tabs hd2) (OffT vs2) ((∀ p ∈ vl, p ∈ vs2)) (OffA [O, L' + 1 + 1 + 1 + 1 + 1 + 1 + 1 + 1, L' + 1 + 1 + 1 + 1 + 1 + 1 + 1, L' + 1 + 1 + 1 + 1 + 1 + 1, L' + 1 + 1 + 1 + 1 + 1] (hd2 ++ vs2)) (OffA Zs hd2)) FA rfl (by with_unfolding_all rfl) (by with_unfolding_all rfl) (by decide) (by rfl) (by decide) (by rfl) (by rfl) (by rfl) ?_
  k_dflt (refine' nameX_L FA ?v ?_ ?a ?b; (case a => rfl); (case b => rfl); (case v => first | rfl | assumption))
  refine ⟨_, _, from_list (its := lov.toArray) (k := lov.length) rfl FA NA (by have := ilo.length; rw [sizeLine_eq, List.size_toArray]; omega) ⟨hd, vl, rfl, votes_nil, hT, hvl, fun _ h => h, hoff, hz0⟩ ?w0, ?w1, ?w2⟩
  case w0 =>
    rintro i ys nw ⟨hd2, vs2, rfl, _⟩
    exact List.mem_append_left _ (.head _)
  case w1 =>
    rintro i' ys nw hi ⟨hd2, vs2, rfl, hvo, hT2, hv2, hs2, ho2, hz2⟩ v J oJ C oC D9 m₂ h dr tk E' hP hC hx F' N' off3 ne
    obtain ⟨k, t8, rfl, hkl⟩ := ilo.at i' v (by simpa using hP)
    have hmem := loyP_mem.mp (List.mem_of_getElem? hkl)
    refine wpAny_tests_nil ?_
    simp only [if_true]
    have o3 := off3.mem
    dsimp only [ledOf, List.take, List.cons_append, List.nil_append] at N' ⊢
    obtain ⟨x2, y2, mx, my⟩ := tabs_104 hT2
    have j104 := o3 (104, x2) (List.mem_append_right _ (List.mem_append_left _ mx))
    have j90 := o3 (90, y2) (List.mem_append_right _ (List.mem_append_left _ my))
    have jA : LCg.Off1 104 ((J, oJ) :: (C, oC) :: (D9, LCg.lst ys) :: (Lo, LCg.lst lov) :: (H, LCg.lst hv) :: (Li, LCg.lst lsv) :: (O, listOf ovs.toArray on) :: (Kk, listOf ksv.toArray kn) :: (L' + 1 + 1 + 1 + 1 + 1 + 1 + 1 + 1, oh) :: (L' + 1 + 1 + 1 + 1 + 1 + 1 + 1, ok) :: (L' + 1 + 1 + 1 + 1 + 1 + 1, oli) :: (L' + 1 + 1 + 1 + 1 + 1, ot) :: (L' + 1 + 1 + 1 + 1, ow) :: (L' + 1 + 1 + 1, ol) :: (L' + 1 + 1, oo) :: (L' + 1, oc) :: (l, cellsO c0 c1 c2 c3 c4 t0 t1 t2 t3 t4 n) :: []) := ⟨Ne.symm j104.1, Ne.symm j104.2.1, Ne.symm j104.2.2, Ne.symm (off_ne oLo (104, x) (by (repeat (first | exact List.mem_append_left _ mx0 | apply List.mem_cons_of_mem)))), Ne.symm (off_ne oH (104, x) (by (repeat (first | exact List.mem_append_left _ mx0 | apply List.mem_cons_of_mem)))), Ne.symm (off_ne hLi (104, x) (by (repeat (first | exact List.mem_append_left _ mx0 | apply List.mem_cons_of_mem)))), e3⟩
    have jB : LCg.Off1 90 ((J, oJ) :: (C, oC) :: (D9, LCg.lst ys) :: (Lo, LCg.lst lov) :: (H, LCg.lst hv) :: (Li, LCg.lst lsv) :: (O, listOf ovs.toArray on) :: (Kk, listOf ksv.toArray kn) :: (L' + 1 + 1 + 1 + 1 + 1 + 1 + 1 + 1, oh) :: (L' + 1 + 1 + 1 + 1 + 1 + 1 + 1, ok) :: (L' + 1 + 1 + 1 + 1 + 1 + 1, oli) :: (L' + 1 + 1 + 1 + 1 + 1, ot) :: (L' + 1 + 1 + 1 + 1, ow) :: (L' + 1 + 1 + 1, ol) :: (L' + 1 + 1, oo) :: (L' + 1, oc) :: (l, cellsO c0 c1 c2 c3 c4 t0 t1 t2 t3 t4 n) :: []) := ⟨Ne.symm j90.1, Ne.symm j90.2.1, Ne.symm j90.2.2, Ne.symm (off_ne oLo (90, y) (by (repeat (first | exact List.mem_append_left _ my0 | apply List.mem_cons_of_mem)))), Ne.symm (off_ne oH (90, y) (by (repeat (first | exact List.mem_append_left _ my0 | apply List.mem_cons_of_mem)))), Ne.symm (off_ne hLi (90, y) (by (repeat (first | exact List.mem_append_left _ my0 | apply List.mem_cons_of_mem)))), e4⟩
    have ho3 : OffA [J, C, D9] (hd2 ++ vs2) := (Mine.all_c (fun p hp => (o3 p (List.mem_append_right _ hp)).1) (Mine.all_c (fun p hp => (o3 p (List.mem_append_right _ hp)).2.1) (Mine.all_c (fun p hp => (o3 p (List.mem_append_right _ hp)).2.2) Mine.all_n)))
    clear j104 j90 ne
    (repeat' (first | ((fail_if_success (fail_if_success k_unfold)); (first | refine (let s9 := _; (?_ : wpAny _ _ _ _ _ s9)) | k_unfold)) | (k_end; wrow_close) | ((fail_if_success (fail_if_success k_fold)); (refine (let q9 := _; (?_ : wpAny _ _ _ q9 _ _))); (first | ((with_reducible show wpAny _ _ (binaryOp Operator.FloorDiv (Value.int _ _) (Value.int _ _)) _ _ _); with_reducible refine floordiv_int (Mine.pow18_ne _) ?_ (Or.inl (PyProof.noPylong_of_log2 (Mine.py18 (by omega))))) | walk1)) | (first | ((with_reducible show wpAny _ _ (binaryOp Operator.FloorDiv (Value.int _ _) (Value.int _ _)) _ _ _); with_reducible refine floordiv_int (Mine.pow18_ne _) ?_ (Or.inl (PyProof.noPylong_of_log2 (Mine.py18 (by omega))))) | walk1) | (dsimp only [List.nil_append, List.cons_append]; (first | ((with_reducible show wpAny _ _ (binaryOp Operator.FloorDiv (Value.int _ _) (Value.int _ _)) _ _ _); with_reducible refine floordiv_int (Mine.pow18_ne _) ?_ (Or.inl (PyProof.noPylong_of_log2 (Mine.py18 (by omega))))) | walk1)) | (leave1; walk_say "STEP leave1"; try dsimp only) | fail "no step"))
    refine Hold.mk ?_
    have hsd9 : os.getD k.toNat 0 = at5 os k := rfl
    rw [hsd9]
    have bsd := bo k
    have h9 : 0 ≤ hs.getD k.toNat 0 := hh k
    generalize hsd : at5 os k = sd at *
    rename Fr _ _ _ _ => F9
    rename News _ _ _ _ => N9
    refine' Ctr.use (vote2 (ex := List.take 17 (ledOf N9)) bsd.1 bsd.2 (by omega) (by omega) h5 h6 (by omega) hT2 (offT_of jA jB) hv2) ?zB F9 ?zX N9 ?zT ?zk ?zd ?zu ?_
    case zB => k_asm
    case zX => k_asm
    case zT => k_asm
    case zk => exact rfl
    case zd => ktr_room
    case zu => ktr_units
    intro Tv D y1 y2 y3 y4 od hd' hKD hT' hkeep hD h104 hDT h' dr tk F' N'
    dsimp only [ledOf, List.take, List.cons_append, List.nil_append] at N' hkeep hD
    have hoff' := offA_vote (oT := statO (k + 1) (2 ^ (width * sd).toNat) sd (sd * sd) y1 y2 y3 y4 D) (oD := od) ho2 (ex := (J, oJ) :: (C, oC) :: (D9, LCg.lst ys) :: (Lo, LCg.lst lov) :: (H, LCg.lst hv) :: (Li, LCg.lst lsv) :: (O, listOf ovs.toArray on) :: (Kk, listOf ksv.toArray kn) :: (L' + 1 + 1 + 1 + 1 + 1 + 1 + 1 + 1, _) :: (L' + 1 + 1 + 1 + 1 + 1 + 1 + 1, _) :: (L' + 1 + 1 + 1 + 1 + 1 + 1, _) :: (L' + 1 + 1 + 1 + 1 + 1, ot) :: (L' + 1 + 1 + 1 + 1, ow) :: (L' + 1 + 1 + 1, ol) :: (L' + 1 + 1, oo) :: (L' + 1, oc) :: (l, cellsO c0 c1 c2 c3 c4 t0 t1 t2 t3 t4 n) :: []) (by intro a ha; refine List.mem_map.mp ?_; ((revert ha; revert a; (repeat (first | exact Mine.sub_nil | (refine Mine.sub_cons ?_ ?_; focus (first | exact Mine.m0 | exact Mine.m1 | exact Mine.m2 | exact Mine.m3 | exact Mine.m4 | exact Mine.m5 | exact Mine.m6 | exact Mine.mAt 7 rfl | exact Mine.mAt 8 rfl | exact Mine.mAt 9 rfl | exact Mine.mAt 10 rfl | exact Mine.mAt 11 rfl | exact Mine.mAt 12 rfl | exact Mine.mAt 13 rfl | exact Mine.mAt 14 rfl | exact Mine.mAt 15 rfl | exact Mine.mAt 16 rfl | exact Mine.mAt 17 rfl | exact Mine.mAt 18 rfl | exact Mine.mAt 19 rfl | exact Mine.mAt 20 rfl | exact Mine.mAt 21 rfl | exact Mine.mAt 22 rfl | exact Mine.mAt 23 rfl | (repeat (first | exact List.Mem.head _ | apply List.mem_cons_of_mem | apply List.mem_append_right)))) | (refine Mine.sub_app ?_ ?_) | (intro p9 hp9; (repeat (first | exact hp9 | exact List.mem_append_left _ hp9 | apply List.mem_cons_of_mem | apply List.mem_append_right)))))))) hkeep hD hDT
    have hoff3 := offA_vote (oT := statO (k + 1) (2 ^ (width * sd).toNat) sd (sd * sd) y1 y2 y3 y4 D) (oD := od) ho3 (ex := (J, oJ) :: (C, oC) :: (D9, LCg.lst ys) :: (Lo, LCg.lst lov) :: (H, LCg.lst hv) :: (Li, LCg.lst lsv) :: (O, listOf ovs.toArray on) :: (Kk, listOf ksv.toArray kn) :: (L' + 1 + 1 + 1 + 1 + 1 + 1 + 1 + 1, _) :: (L' + 1 + 1 + 1 + 1 + 1 + 1 + 1, _) :: (L' + 1 + 1 + 1 + 1 + 1 + 1, _) :: (L' + 1 + 1 + 1 + 1 + 1, ot) :: (L' + 1 + 1 + 1 + 1, ow) :: (L' + 1 + 1 + 1, ol) :: (L' + 1 + 1, oo) :: (L' + 1, oc) :: (l, cellsO c0 c1 c2 c3 c4 t0 t1 t2 t3 t4 n) :: []) (by intro a ha; refine List.mem_map.mp ?_; ((revert ha; revert a; (repeat (first | exact Mine.sub_nil | (refine Mine.sub_cons ?_ ?_; focus (first | exact Mine.m0 | exact Mine.m1 | exact Mine.m2 | exact Mine.m3 | exact Mine.m4 | exact Mine.m5 | exact Mine.m6 | exact Mine.mAt 7 rfl | exact Mine.mAt 8 rfl | exact Mine.mAt 9 rfl | exact Mine.mAt 10 rfl | exact Mine.mAt 11 rfl | exact Mine.mAt 12 rfl | exact Mine.mAt 13 rfl | exact Mine.mAt 14 rfl | exact Mine.mAt 15 rfl | exact Mine.mAt 16 rfl | exact Mine.mAt 17 rfl | exact Mine.mAt 18 rfl | exact Mine.mAt 19 rfl | exact Mine.mAt 20 rfl | exact Mine.mAt 21 rfl | exact Mine.mAt 22 rfl | exact Mine.mAt 23 rfl | (repeat (first | exact List.Mem.head _ | apply List.mem_cons_of_mem | apply List.mem_append_right)))) | (refine Mine.sub_app ?_ ?_) | (intro p9 hp9; (repeat (first | exact hp9 | exact List.mem_append_left _ hp9 | apply List.mem_cons_of_mem | apply List.mem_append_right)))))))) hkeep hD hDT
    try dsimp only
    refine end_d F' N' (LCg.Off3.of (off3_tail o3 fun p h => ⟨hoff3 J (.head _) p h, hoff3 C (.tail _ (.head _)) p h, hoff3 D9 (.tail _ (.tail _ (.head _))) p h⟩)) ⟨hd', _, rfl, ?vo, hT', offT_vote (ex := []) hv2 h104 hDT, fun p hp => .tail _ (.tail _ (hs2 p hp)), hoff', offZ hz2 hkeep (fun a ha => let ⟨p, hp, e⟩ := hzm a ha; ⟨p, by (repeat (first | exact hs2 p hp | apply List.mem_cons_of_mem)), e⟩)⟩
    case vo =>
      rw [List.take_add_one, hkl, Option.toList_some, List.map_append, List.map_cons, List.map_nil, hsd]
      exact (hvo.mono fun p hp => .tail _ (.tail _ hp)).app (votes_one hKD h104)
  case w2 =>
  rintro To h dr tk tov nw F' N' oTo ⟨hd2, vs2, rfl, hto, hT2, hv2, hs2, ho2, hz2⟩
  dsimp only [ledOf, List.take, List.cons_append, List.nil_append] at N'
  rw [List.take_of_length_le (by have := ilo.length; simp only [List.size_toArray]; omega)] at hto
  (repeat' (first | ((fail_if_success (fail_if_success k_unfold)); (first | refine (let s9 := _; (?_ : wpAny _ _ _ _ _ s9)) | k_unfold)) | (k_end; wrow_close) | ((fail_if_success (fail_if_success k_fold)); (refine (let q9 := _; (?_ : wpAny _ _ _ q9 _ _))); (first | ((with_reducible show wpAny _ _ (binaryOp Operator.FloorDiv (Value.int _ _) (Value.int _ _)) _ _ _); with_reducible refine floordiv_int (Mine.pow18_ne _) ?_ (Or.inl (PyProof.noPylong_of_log2 (Mine.py18 (by omega))))) | walk1)) | (first | ((with_reducible show wpAny _ _ (binaryOp Operator.FloorDiv (Value.int _ _) (Value.int _ _)) _ _ _); with_reducible refine floordiv_int (Mine.pow18_ne _) ?_ (Or.inl (PyProof.noPylong_of_log2 (Mine.py18 (by omega))))) | walk1) | (dsimp only [List.nil_append, List.cons_append]; (first | ((with_reducible show wpAny _ _ (binaryOp Operator.FloorDiv (Value.int _ _) (Value.int _ _)) _ _ _); with_reducible refine floordiv_int (Mine.pow18_ne _) ?_ (Or.inl (PyProof.noPylong_of_log2 (Mine.py18 (by omega))))) | walk1)) | (leave1; walk_say "STEP leave1"; try dsimp only) | fail "no step"))
  refine Hold.mk ?_
  rename Fr _ _ _ _ => FA
  rename News _ _ _ _ => NA
  rename ∀ p ∈ (To, LCg.lst _) :: _, p.1 < _ => hVo
  rename Obj.IsDictOf (PySem.intKind _ _) _ _ => hdi
  dsimp only [ledOf, List.take, List.cons_append, List.nil_append] at oTo oLo oH hLi
  obtain ⟨x3, y3, mx3, my3⟩ := tabs_104 hT2
  have v104 := Nat.ne_of_gt (hVo (104, x3) (by (repeat (first | exact List.mem_append_left _ mx3 | apply List.mem_cons_of_mem))))
  have v90 := Nat.ne_of_gt (hVo (90, y3) (by (repeat (first | exact List.mem_append_left _ my3 | apply List.mem_cons_of_mem))))
  have to104 := Ne.symm (off_ne oTo (104, x3) (by (repeat (first | exact List.mem_append_left _ mx3 | apply List.mem_cons_of_mem))))
  have to90 := Ne.symm (off_ne oTo (90, y3) (by (repeat (first | exact List.mem_append_left _ my3 | apply List.mem_cons_of_mem))))
  have lo104 := Ne.symm (off_ne oLo (104, x) (by (repeat (first | exact List.mem_append_left _ mx0 | apply List.mem_cons_of_mem))))
  have lo90 := Ne.symm (off_ne oLo (90, y) (by (repeat (first | exact List.mem_append_left _ my0 | apply List.mem_cons_of_mem))))
  have h104 := Ne.symm (off_ne oH (104, x) (by (repeat (first | exact List.mem_append_left _ mx0 | apply List.mem_cons_of_mem))))
  have h90 := Ne.symm (off_ne oH (90, y) (by (repeat (first | exact List.mem_append_left _ my0 | apply List.mem_cons_of_mem))))
  have li104 := Ne.symm (off_ne hLi (104, x) (by (repeat (first | exact List.mem_append_left _ mx0 | apply List.mem_cons_of_mem))))
  have li90 := Ne.symm (off_ne hLi (90, y) (by (repeat (first | exact List.mem_append_left _ my0 | apply List.mem_cons_of_mem))))
  refine' with_fn (K := hdA.heap_39 w.params) (f := 215) ?hw2 ?kw2
  case hw2 => k_dflt k_is
  intro hfn
  refine' held_l1 (hd := hd2) (vl := (Kk, listOf ksv.toArray kn) :: (l, cellsO c0 c1 c2 c3 c4 t0 t1 t2 t3 t4 n) :: vs2) (way := way) hfn h5 h6 hway hT2 ?z1 bo bl hliar hlo hll hlh hh ios ils ihs ilo (vmap_nil hdi) ?z2 dh2 dk dli2 ⟨_, dt⟩ dw dl doo ?z3 ?z4 ?z5 ?z6 ?z7 hz2 ?zzm ?z8 ?z9 ?z10 ?z11 B X T hd40 hu hE ?z12 FA ?z13
  case z8 => rfl
  case z9 => rfl
  case z10 => rfl
  case z1 => exact List.forall_mem_cons.mpr ⟨⟨off_ne e3 (Kk, _) (by (first | (k_dflt k_mem) | (repeat (first | exact List.Mem.head _ | apply List.mem_cons_of_mem)))), off_ne e4 (Kk, _) (by (first | (k_dflt k_mem) | (repeat (first | exact List.Mem.head _ | apply List.mem_cons_of_mem))))⟩, List.forall_mem_cons.mpr ⟨⟨off_ne e3 (l, cellsO c0 c1 c2 c3 c4 t0 t1 t2 t3 t4 n) (by (first | (k_dflt k_mem) | (repeat (first | exact List.Mem.head _ | apply List.mem_cons_of_mem)))), off_ne e4 (l, cellsO c0 c1 c2 c3 c4 t0 t1 t2 t3 t4 n) (by (first | (k_dflt k_mem) | (repeat (first | exact List.Mem.head _ | apply List.mem_cons_of_mem))))⟩, hv2⟩⟩
  case z2 => exact hto.mono fun p hp => .tail _ (.tail _ hp)
  case z3 => (simp only [LCg.Off1]; refine ⟨?_, ?_, ?_, ?_, ?_, ?_, ?_, ?_, ?_, ?_, ?_, ?_, ?_, trivial⟩ <;> k_ne)
  case z4 => exact ⟨by k_ne, Ne.symm (off_ne oTo (L' + 1 + 1 + 1 + 1 + 1 + 1 + 1, ok) (by (first | (k_dflt k_mem) | (repeat (first | exact List.Mem.head _ | apply List.mem_cons_of_mem))))), Ne.symm (off_ne e1 (L' + 1 + 1 + 1 + 1 + 1 + 1 + 1, ok) (by (first | (k_dflt k_mem) | (repeat (first | exact List.Mem.head _ | apply List.mem_cons_of_mem))))), Ne.symm (off_ne oLo (L' + 1 + 1 + 1 + 1 + 1 + 1 + 1, ok) (by (first | (k_dflt k_mem) | (repeat (first | exact List.Mem.head _ | apply List.mem_cons_of_mem))))), Ne.symm (off_ne oH (L' + 1 + 1 + 1 + 1 + 1 + 1 + 1, ok) (by (first | (k_dflt k_mem) | (repeat (first | exact List.Mem.head _ | apply List.mem_cons_of_mem))))), Ne.symm (off_ne hLi (L' + 1 + 1 + 1 + 1 + 1 + 1 + 1, ok) (by (first | (k_dflt k_mem) | (repeat (first | exact List.Mem.head _ | apply List.mem_cons_of_mem))))), trivial⟩
  case z5 => exact ⟨v104, to104, e3.1, lo104, h104, li104, e3.2.2.1, e3.2.2.2.1, e3.2.2.2.2.1, e3.2.2.2.2.2.1, e3.2.2.2.2.2.2.1, e3.2.2.2.2.2.2.2.1, e3.2.2.2.2.2.2.2.2.1, e3.2.2.2.2.2.2.2.2.2.1, trivial⟩
  case z6 => exact ⟨v90, to90, e4.1, lo90, h90, li90, e4.2.2.1, e4.2.2.2.1, e4.2.2.2.2.1, e4.2.2.2.2.2.1, e4.2.2.2.2.2.2.1, e4.2.2.2.2.2.2.2.1, e4.2.2.2.2.2.2.2.2.1, e4.2.2.2.2.2.2.2.2.2.1, trivial⟩
  case z7 =>
    exact offA_ins (offA_ins (offA_cons (fun p hp => Nat.ne_of_lt (hVo p (by (repeat (first | exact hp | apply List.mem_cons_of_mem))))) ho2) (Mine.all_c (by k_ne) (Mine.all_c (off_ne e1 (l, cellsO c0 c1 c2 c3 c4 t0 t1 t2 t3 t4 n) (by (first | (k_dflt k_mem) | (repeat (first | exact List.Mem.head _ | apply List.mem_cons_of_mem))))) (Mine.all_c (by k_ne) (Mine.all_c (by k_ne) (Mine.all_c (by k_ne) (Mine.all_c (by k_ne) Mine.all_n))))))) (Mine.all_c (by k_ne) (Mine.all_c e1.1 (Mine.all_c (by k_ne) (Mine.all_c (by k_ne) (Mine.all_c (by k_ne) (Mine.all_c (by k_ne) Mine.all_n))))))
  case z11 => exact nw
  case zzm => exact fun a ha => let ⟨p, hp, e⟩ := hzm a ha; ⟨p, .tail _ (.tail _ (hs2 p hp)), e⟩
  case z13 =>
    refine news_sub NA fun p hp => ?_
    ((revert hp; revert p; (repeat (first | exact Mine.sub_nil | (refine Mine.sub_cons ?_ ?_; focus (first | exact Mine.m0 | exact Mine.m1 | exact Mine.m2 | exact Mine.m3 | exact Mine.m4 | exact Mine.m5 | exact Mine.m6 | exact Mine.mAt 7 rfl | exact Mine.mAt 8 rfl | exact Mine.mAt 9 rfl | exact Mine.mAt 10 rfl | exact Mine.mAt 11 rfl | exact Mine.mAt 12 rfl | exact Mine.mAt 13 rfl | exact Mine.mAt 14 rfl | exact Mine.mAt 15 rfl | exact Mine.mAt 16 rfl | exact Mine.mAt 17 rfl | exact Mine.mAt 18 rfl | exact Mine.mAt 19 rfl | exact Mine.mAt 20 rfl | exact Mine.mAt 21 rfl | exact Mine.mAt 22 rfl | exact Mine.mAt 23 rfl | (repeat (first | exact List.Mem.head _ | apply List.mem_cons_of_mem | apply List.mem_append_right)))) | (refine Mine.sub_app ?_ ?_) | (intro p9 hp9; (repeat (first | exact hp9 | exact List.mem_append_left _ hp9 | apply List.mem_cons_of_mem | apply List.mem_append_right)))))))
  case z12 =>
  intro h' dr tk m2 dv' ok2 hd3 vs3 hm2 F' vm' hok2 hT3 hv3 hs3 ho3 hz3 N'
  clear NA
  refine' held_l2 (hd := hd3) (vl := vs3) (king := king) (way := way) hfn h5 h6 hT3 hv3 bo bl hkg hlo hll hlh hh ios ils ihs ilo vm' dh2 hok2 dli2 dw dl doo ?y1 ?y2 ?y3 ?y4 ?y5 hz3 ?yzm ?y6 ?y7 ?y8 ?y9 B X T hd40 hu hE ?y10 F' ?y11
  case y6 => exact (hm2 _ (by decide +kernel) (by decide +kernel)).trans rfl
  case y7 => exact (hm2 _ (by decide +kernel) (by decide +kernel)).trans rfl
  case y8 => exact (hm2 _ (by decide +kernel) (by decide +kernel)).trans rfl
  case y1 => exact ⟨by k_ne, Ne.symm (off_ne oLo (O, _) (by (first | (k_dflt k_mem) | (repeat (first | exact List.Mem.head _ | apply List.mem_cons_of_mem))))), Ne.symm (off_ne oH (O, _) (by (first | (k_dflt k_mem) | (repeat (first | exact List.Mem.head _ | apply List.mem_cons_of_mem))))), Ne.symm (off_ne hLi (O, _) (by (first | (k_dflt k_mem) | (repeat (first | exact List.Mem.head _ | apply List.mem_cons_of_mem))))), e1.2.1, e1.2.2.1, e1.2.2.2.1, e1.2.2.2.2.1, e1.2.2.2.2.2.1, e1.2.2.2.2.2.2.1, e1.2.2.2.2.2.2.2.1, e1.2.2.2.2.2.2.2.2.1, trivial⟩
  case y2 => exact ⟨Ne.symm (off_ne e1 (L' + 1 + 1 + 1 + 1 + 1 + 1 + 1, ok) (by (first | (k_dflt k_mem) | (repeat (first | exact List.Mem.head _ | apply List.mem_cons_of_mem))))), by k_ne, Ne.symm (off_ne oLo (L' + 1 + 1 + 1 + 1 + 1 + 1 + 1, ok) (by (first | (k_dflt k_mem) | (repeat (first | exact List.Mem.head _ | apply List.mem_cons_of_mem))))), Ne.symm (off_ne oH (L' + 1 + 1 + 1 + 1 + 1 + 1 + 1, ok) (by (first | (k_dflt k_mem) | (repeat (first | exact List.Mem.head _ | apply List.mem_cons_of_mem))))), Ne.symm (off_ne hLi (L' + 1 + 1 + 1 + 1 + 1 + 1 + 1, ok) (by (first | (k_dflt k_mem) | (repeat (first | exact List.Mem.head _ | apply List.mem_cons_of_mem))))), trivial⟩
  case y3 => exact ⟨e3.1, v104, lo104, h104, li104, e3.2.2.1, e3.2.2.2.1, e3.2.2.2.2.1, e3.2.2.2.2.2.1, e3.2.2.2.2.2.2.1, e3.2.2.2.2.2.2.2.1, e3.2.2.2.2.2.2.2.2.1, e3.2.2.2.2.2.2.2.2.2.1, trivial⟩
  case y4 => exact ⟨e4.1, v90, lo90, h90, li90, e4.2.2.1, e4.2.2.2.1, e4.2.2.2.2.1, e4.2.2.2.2.2.1, e4.2.2.2.2.2.2.1, e4.2.2.2.2.2.2.2.1, e4.2.2.2.2.2.2.2.2.1, e4.2.2.2.2.2.2.2.2.2.1, trivial⟩
  case y5 => exact fun a ha => ho3 a (.tail _ ha)
  case y9 => exact (hm2 _ (by decide +kernel) (by decide +kernel)).trans nw
  case yzm => exact fun a ha => let ⟨p, hp, e⟩ := hzm a ha; ⟨p, hs3 p (.tail _ (.tail _ (hs2 p hp))), e⟩
  case y11 =>
    refine news_sub N' fun p hp => ?_
    ((revert hp; revert p; (repeat (first | exact Mine.sub_nil | (refine Mine.sub_cons ?_ ?_; focus (first | exact Mine.m0 | exact Mine.m1 | exact Mine.m2 | exact Mine.m3 | exact Mine.m4 | exact Mine.m5 | exact Mine.m6 | exact Mine.mAt 7 rfl | exact Mine.mAt 8 rfl | exact Mine.mAt 9 rfl | exact Mine.mAt 10 rfl | exact Mine.mAt 11 rfl | exact Mine.mAt 12 rfl | exact Mine.mAt 13 rfl | exact Mine.mAt 14 rfl | exact Mine.mAt 15 rfl | exact Mine.mAt 16 rfl | exact Mine.mAt 17 rfl | exact Mine.mAt 18 rfl | exact Mine.mAt 19 rfl | exact Mine.mAt 20 rfl | exact Mine.mAt 21 rfl | exact Mine.mAt 22 rfl | exact Mine.mAt 23 rfl | (repeat (first | exact List.Mem.head _ | apply List.mem_cons_of_mem | apply List.mem_append_right)))) | (refine Mine.sub_app ?_ ?_) | (intro p9 hp9; (repeat (first | exact hp9 | exact List.mem_append_left _ hp9 | apply List.mem_cons_of_mem | apply List.mem_append_right)))))))
  case y10 =>
  intro h' dr tk m3 ov' on' ok3 hd4 hm3 F3 iov hok3 hT4 ho4 hz4 N3
  have mKk : (Kk, listOf ksv.toArray kn) ∈ vs3 := hs3 _ (.head _)
  have mCO : (l, cellsO c0 c1 c2 c3 c4 t0 t1 t2 t3 t4 n) ∈ vs3 := hs3 _ (.tail _ (.head _))
  have mvl : ∀ p ∈ vl, p ∈ vs3 := fun p hp => hs3 p (.tail _ (.tail _ (hs2 p hp)))
  refine hret _ _ _ m3 ov' on' _ ok3 _ hd4 (fun z hz => ?_) F3 iov ⟨_, dh2⟩ hok3 ⟨_, dli2⟩ hT4 (offA_mono ho4 fun p hp => ?_) hz4 (news_sub N3 fun p hp => ?_)
  · simp only [List.mem_cons, List.not_mem_nil, or_false, not_or] at hz
    obtain ⟨n1, n2, n3, n4, n5, n6, n7, n8⟩ := hz
    rw [hm3 z n7 n8, hm2 z n5 n6, if_neg n4, if_neg n3, if_neg n2, if_neg n1]
  · rcases List.mem_append.mp hp with h | h
    · exact List.mem_append_left _ h
    · exact List.mem_append_right _ (mvl _ h)
  · ((revert hp; revert p; (repeat (first | exact Mine.sub_nil | (refine Mine.sub_cons ?_ ?_; focus (first | ((repeat (first | exact mKk | exact mCO | apply List.mem_cons_of_mem | apply List.mem_append_right)); done) | exact Mine.m0 | exact Mine.m1 | exact Mine.m2 | exact Mine.m3 | exact Mine.m4 | exact Mine.m5 | exact Mine.m6 | exact Mine.mAt 7 rfl | exact Mine.mAt 8 rfl | exact Mine.mAt 9 rfl | exact Mine.mAt 10 rfl | exact Mine.mAt 11 rfl | exact Mine.mAt 12 rfl | exact Mine.mAt 13 rfl | exact Mine.mAt 14 rfl | exact Mine.mAt 15 rfl | exact Mine.mAt 16 rfl | exact Mine.mAt 17 rfl | exact Mine.mAt 18 rfl | exact Mine.mAt 19 rfl | exact Mine.mAt 20 rfl | exact Mine.mAt 21 rfl | exact Mine.mAt 22 rfl | exact Mine.mAt 23 rfl | (repeat (first | exact List.Mem.head _ | apply List.mem_cons_of_mem | apply List.mem_append_right)))) | (refine Mine.sub_app ?_ ?_) | (intro p9 hp9; (repeat (first | exact hp9 | exact mvl _ hp9 |  exact List.mem_append_left _ hp9 | apply List.mem_cons_of_mem | apply List.mem_append_right)))))))
end Mine
end
section
theorem Mine.fresh21 {prog : Program} {w : World} {A : Around} {E : Value → Shared → Prop} {s : Shared} {Q : Bool → Shared → Prop} (h : wpAny (model prog w) A (truthy (.bool true)) Q E s) : wpAny (model prog w) A (truthy (.bool true)) Q E s := by
  w_top off
  first | (walk1; fail "no") | exact h
set_option hygiene false in
local macro_rules | `(tactic| walk_at $s) => if ("|call ref|eval ListComp|exec For Name Call cons nil|".splitOn ("|" ++ s.getString ++ "|")).length = 2 then `(tactic| (with_reducible refine Mine.Hold.h ?_)) else Lean.Macro.throwUnsupported
namespace Mine
def kAt (k0 k1 : Int) : Nat → Int
  | 0 => k0
  | _ => k1
def osP (os : List Int) (c2 k0 k1 liar way : Int) : Nat → List Int
  | 0 => os
  | i + 1 => roundP (osP os c2 k0 k1 liar way i) (liesP c2 i) liar (kAt k0 k1 i) way
theorem round_len {os ls : List Int} {liar king way : Int} : (roundP os ls liar king way).length = 5 := rfl
theorem step_b {os ls : List Int} {liar king way k : Int} (bl : B3 ls) : 0 ≤ stepK os ls liar king way k ∧ stepK os ls liar king way k ≤ 2 := by
  unfold stepK
  split
  · exact most_b _ _
  · split
    · exact bl _
    · exact most_b _ _
theorem round_b {os ls : List Int} {liar king way : Int} (bo : B3 os) (bl : B3 ls) : B3 (roundP os ls liar king way) := at5_b (fun x hx => by
  unfold roundP updL at hx
  obtain ⟨k, _, rfl⟩ := List.mem_map.mp hx
  split
  · exact step_b bl
  · exact bo k) ⟨by decide, by decide⟩
theorem osP_b {os : List Int} {c2 k0 k1 liar way : Int} (bo : B3 os) : ∀ i, B3 (osP os c2 k0 k1 liar way i)
  | 0 => bo
  | i + 1 => round_b (osP_b bo i) (lies_b c2 i)
theorem osP_len {os : List Int} {c2 k0 k1 liar way : Int} (h : os.length = 5) : ∀ i, (osP os c2 k0 k1 liar way i).length = 5
  | 0 => h
  | i + 1 => round_len
theorem setO_same {d : Addr} {n : Nat} {o : Obj} : ∀ {l : List (Addr × Obj)}, LCg.Off1 d l → LCg.Off1 d (setO n o l) := by
  intro l h
  exact off_of (setO_off (off_ne h))
theorem ne_hi (L : Nat) : (@Ne Nat (L + 1 + 1 + 1 + 1 + 1 + 1 + 1 + 1) (L + 1 + 1 + 1 + 1 + 1)) ∧ (@Ne Nat (L + 1 + 1 + 1 + 1 + 1 + 1 + 1) (L + 1 + 1 + 1 + 1 + 1)) ∧ (@Ne Nat (L + 1 + 1 + 1 + 1 + 1 + 1) (L + 1 + 1 + 1 + 1 + 1)) := by omega
theorem ne_lo (L : Nat) : (@Ne Nat (L + 1 + 1 + 1 + 1) (L + 1 + 1 + 1 + 1 + 1)) ∧ (@Ne Nat (L + 1 + 1 + 1) (L + 1 + 1 + 1 + 1 + 1)) ∧ (@Ne Nat (L + 1 + 1) (L + 1 + 1 + 1 + 1 + 1)) ∧ (@Ne Nat (L + 1) (L + 1 + 1 + 1 + 1 + 1)) := by omega
theorem fm_in {zs : List Value} {xs : List Int} {p : Int → Prop} [DecidablePred p] {f : Int → Int} {i : Nat} {a : Int} {t : Tok} (h : IntsAre zs (((xs.take i).filter fun o => decide (p o)).map f)) (ha : xs[i]? = some a) (hp : p a) : IntsAre (zs ++ [.int (f a) t]) (((xs.take (i + 1)).filter fun o => decide (p o)).map f) := by
  rw [List.take_add_one, ha, Option.toList_some, List.filter_append]
  simp only [List.filter_cons, List.filter_nil, decide_eq_true hp, if_true, List.map_append, List.map_cons, List.map_nil]
  exact ints_snoc h
theorem fm_out {zs : List Value} {xs : List Int} {p : Int → Prop} [DecidablePred p] {f : Int → Int} {i : Nat} {a : Int} (h : IntsAre zs (((xs.take i).filter fun o => decide (p o)).map f)) (ha : xs[i]? = some a) (hp : ¬ p a) : IntsAre zs (((xs.take (i + 1)).filter fun o => decide (p o)).map f) := by
  rw [List.take_add_one, ha, Option.toList_some, List.filter_append]
  simp only [List.filter_cons, List.filter_nil, decide_eq_false hp, Bool.false_eq_true, if_false, List.append_nil]
  exact h
theorem lt_k {k L : Nat} (h : L + 1 + 1 + 1 + 1 + 1 + 1 + 1 + 1 < k) : L < k := by omega
theorem ne_ups {a L : Nat} (h : a < L) : (@Ne Nat (L + 1 + 1 + 1 + 1 + 1 + 1 + 1 + 1) a) ∧ (@Ne Nat (L + 1 + 1 + 1 + 1 + 1 + 1 + 1) a) ∧ (@Ne Nat (L + 1 + 1 + 1 + 1 + 1 + 1) a) ∧ (@Ne Nat (L + 1 + 1 + 1 + 1 + 1) a) ∧ (@Ne Nat (L + 1 + 1 + 1 + 1) a) ∧ (@Ne Nat (L + 1 + 1 + 1) a) ∧ (@Ne Nat (L + 1 + 1) a) ∧ (@Ne Nat (L + 1) a) := by omega
theorem ne_l5 {l L : Nat} (h : l < L) : @Ne Nat l (L + 1 + 1 + 1 + 1 + 1) := by omega
theorem ne_k5 {k L : Nat} (h : L + 1 + 1 + 1 + 1 + 1 + 1 + 1 + 1 < k) : @Ne Nat k (L + 1 + 1 + 1 + 1 + 1) := by omega
set_option maxHeartbeats 16000000 in
theorem held_ctr {prog : Program} {w : World} {c0 c1 c2 c3 c4 : Int} {t0 t1 t2 t3 t4 : Tok} {l : Addr} {n : Nat} {hd vl : List (Addr × Obj)} (hm : (l, cellsO c0 c1 c2 c3 c4 t0 t1 t2 t3 t4 n) ∈ vl) (hT : Tabs hd) (hvl : OffT vl) :
    Ctr prog w 50 215 [.ref l] (hd ++ vl) fun k => ∀ R ys hd', Tabs hd' → LCg.Off1 R vl → IntsAre ys (heldP (ordsP c0) (liesP c2 0) (liesP c2 1) (k0P c1) (k1P c1) (c1.fmod 6) (wayP c4)) → k (.ref R) ((R, LCg.lst ys) :: (hd' ++ vl)) := by
  unfold Ctr
  intro p loose mean mg mb dp un gd cn cs a ccd cl outer A₀ base h₀ L m s Q E B F X N T hk hd9 hu hret
  replace N := news_add N (List.mem_append_right _ hm)
  refine wpAny_call ?_
  (first | k_dflt ((refine' code_def ?k1z52 ?k2z52 ?k3z52 ?k4z52 ?k5z52 ?kAz52 ?kFz52 ?kKz52 ?k6z52 ?k7z52 ?k8z52 ?k9z52 ?kBz52 ?_ ?c2z52 ?c3z52 ?c4z52 ?c5z52; (case kAz52 => exact rfl); (case kFz52 => exact rfl); (case kKz52 => assumption); (case k1z52 => k_asm); (case k2z52 => k_asm); (case k3z52 => k_asm); (case k4z52 => k_asm); (case k5z52 => k_asm); (case k6z52 => k_is); (case k7z52 => k_is); (case k8z52 => ktr_room); (case k9z52 => first | exact BindsTo.of_eq rfl | exact binds_K (by k_in) rfl (by k_is) rfl rfl rfl); (case c5z52 => decide); (case kBz52 => exact locs rfl); (case c2z52 => exact rfl); (case c3z52 => exact rfl); (case c4z52 => exact rfl); k_whole; intro g' L' h' FG' F' N' B' X' T'; (try dsimp only); (try k_lift B'); (try k_fold))) | k_dflt ((refine' code_defC ?k1z53 ?k2z53 ?k3z53 ?k4z53 ?k5z53 ?kAz53 ?kFz53 ?kKz53 ?k6z53 ?k7z53 ?k8z53 ?k9z53 ?kBz53 ?kDz53 ?_ ?c2z53 ?c3z53 ?c4z53; (case kAz53 => exact rfl); (case kFz53 => exact rfl); (case kKz53 => assumption); (case k1z53 => k_asm); (case k2z53 => k_asm); (case k3z53 => k_asm); (case k4z53 => k_asm); (case k5z53 => k_asm); (case k6z53 => k_is); (case k7z53 => k_is); (case k8z53 => ktr_room); (case k9z53 => first | exact BindsTo.of_eq rfl | exact binds_K (by k_in) rfl (by k_is) rfl rfl rfl); (case kBz53 => exact rfl); (case kDz53 => decide +kernel); (case c2z53 => exact rfl); (case c3z53 => exact rfl); (case c4z53 => exact rfl); k_whole; intro g' L' h' tk' cells' FG' F' N' Y' B' X' T' l1; (have hO := Mine.old_of l1); (try k_lt l1); k_cells Y'; (try simp only [List.cons_append, List.nil_append] at N'); (try dsimp only); (try k_lift B'); (try k_fold))))
  (repeat' (first | ((fail_if_success (fail_if_success k_unfold)); (first | refine (let s9 := _; (?_ : wpAny _ _ _ _ _ s9)) | k_unfold)) | (k_end; wrow_close) | ((fail_if_success (fail_if_success k_fold)); (refine (let q9 := _; (?_ : wpAny _ _ _ q9 _ _))); walk1) | walk1 | (dsimp only [List.nil_append, List.cons_append]; walk1) | (leave1; walk_say "STEP leave1"; try dsimp only) | fail "no step"))
  refine Hold.mk ?_
  rename Fr _ _ _ _ => F9
  rename News _ _ _ _ => N9
  obtain ⟨LL, hLL⟩ : ∃ x, x = frL F9 := ⟨_, rfl⟩
  dsimp only [frL] at hLL
  subst hLL
  refine' Ctr.use (orders_ctr (led := ledOf N9) ?zm) ?zB F9 ?zX N9 ?zT ?zk ?zd ?zu ?_
  case zm => (first | (k_dflt k_mem) | (repeat (first | exact List.Mem.head _ | apply List.mem_cons_of_mem)))
  case zB => k_asm
  case zX => k_asm
  case zT => k_asm
  case zk => exact rfl
  case zd => ktr_room
  case zu => ktr_units
  intro O os hos hO h' dr tk F' N'
  dsimp only [ledOf] at hO N'
  replace hos : IntsAre os (ordsP c0) := hos
  try dsimp only
  (repeat' (first | ((fail_if_success (fail_if_success k_unfold)); (first | refine (let s9 := _; (?_ : wpAny _ _ _ _ _ s9)) | k_unfold)) | (k_end; wrow_close) | ((fail_if_success (fail_if_success k_fold)); (refine (let q9 := _; (?_ : wpAny _ _ _ q9 _ _))); walk1) | walk1 | (dsimp only [List.nil_append, List.cons_append]; walk1) | (leave1; walk_say "STEP leave1"; try dsimp only) | fail "no step"))
  refine Hold.mk ?_
  rename Fr _ _ _ _ => F9
  rename News _ _ _ _ => N9
  refine' Ctr.use (kings_ctr (led := ledOf N9) ?zm) ?zB F9 ?zX N9 ?zT ?zk ?zd ?zu ?_
  case zm => (first | (k_dflt k_mem) | (repeat (first | exact List.Mem.head _ | apply List.mem_cons_of_mem)))
  case zB => k_asm
  case zX => k_asm
  case zT => k_asm
  case zk => exact rfl
  case zd => ktr_room
  case zu => ktr_units
  intro Kk ka kb hK h' dr tk F' N'
  dsimp only [ledOf] at hK N'
  have hk0 : 0 ≤ k0P c1 ∧ k0P c1 < 5 := fm_b (by decide)
  have hk1 : 0 ≤ k1P c1 ∧ k1P c1 < 5 := fm_b (by decide)
  have q0 : Int.fmod (Int.fdiv c1 6) 5 = k0P c1 := rfl
  have q1 : Int.fmod (k0P c1 + 1 + Int.fmod (Int.fdiv c1 30) 4) 5 = k1P c1 := rfl
  rw [q0, q1] at N'
  clear q0 q1
  generalize k0P c1 = k0 at *
  generalize k1P c1 = k1 at *
  try dsimp only
  (repeat' (first | ((fail_if_success (fail_if_success k_unfold)); (first | refine (let s9 := _; (?_ : wpAny _ _ _ _ _ s9)) | k_unfold)) | (k_end; wrow_close) | ((fail_if_success (fail_if_success k_fold)); (refine (let q9 := _; (?_ : wpAny _ _ _ q9 _ _))); walk1) | walk1 | (dsimp only [List.nil_append, List.cons_append]; walk1) | (leave1; walk_say "STEP leave1"; try dsimp only) | fail "no step"))
  refine Hold.mk ?_
  rename Fr _ _ _ _ => FZ
  rename News _ _ _ _ => NZ
  replace NZ := drop1 (drop1 NZ)
  rename _ = Data.cell (some (Value.int (Int.fmod _ 6) _)) => dl
  change Obj.data _ = Data.cell (some (Value.int (Int.fmod c1 6) _)) at dl
  rename _ = Data.cell (some (Value.int (3 + _) _)) => dw
  change Obj.data _ = Data.cell (some (Value.int (3 + Int.fmod c4 4) _)) at dw
  change Fr _ _ _ (fun y => if y = _ then some (Value.int (wayP c4) _) else _) at FZ
  have h5 : 3 ≤ 3 + c4.fmod 4 := by have := fm_b (a := c4) (b := 4) (by decide); omega
  have h6 : 3 + c4.fmod 4 ≤ 6 := by have := fm_b (a := c4) (b := 4) (by decide); omega
  have hliar : 0 ≤ c1.fmod 6 ∧ c1.fmod 6 ≤ 5 := by have := fm_b (a := c1) (b := 6) (by decide); omega
  have hway : wayP c4 = 1 ∨ wayP c4 = -1 := by have := fm_b (a := Int.fdiv c4 4) (b := 2) (by decide); unfold wayP; omega
  generalize 3 + c4.fmod 4 = width at *
  generalize c1.fmod 6 = liar at *
  generalize wayP c4 = way at *
  have hlen := ordsP_len c0
  have bo := ords_b c0
  generalize ordsP c0 = os0 at *
  rename Old LL _ => hOld
  obtain ⟨x0, y0, mx0, my0⟩ := tabs_104 hT
  have h104L : (@LT.lt Nat _ 104 LL) := hOld (104, x0) (.tail _ (List.mem_append_left _ mx0))
  have h90L : (@LT.lt Nat _ 90 LL) := hOld (90, y0) (.tail _ (List.mem_append_left _ my0))
  have hlL : (@LT.lt Nat _ l LL) := hOld (l, _) (.head _)
  have o104 : O ≠ 104 := Ne.symm (off_ne hO (104, x0) (by (repeat (first | exact List.mem_append_left _ mx0 | apply List.mem_cons_of_mem))))
  have o90 : O ≠ 90 := Ne.symm (off_ne hO (90, y0) (by (repeat (first | exact List.mem_append_left _ my0 | apply List.mem_cons_of_mem))))
  have hKL : (@LT.lt Nat _ (LL + 1 + 1 + 1 + 1 + 1 + 1 + 1 + 1) Kk) := hK (LL + 1 + 1 + 1 + 1 + 1 + 1 + 1 + 1, _) (.tail _ (.head _))
  have hOK : (@LT.lt Nat _ O Kk) := hK (O, _) (.head _)
  clear hK
  have hoff0 : OffA [O, LL + 1 + 1 + 1 + 1 + 1 + 1 + 1 + 1, LL + 1 + 1 + 1 + 1 + 1 + 1 + 1, LL + 1 + 1 + 1 + 1 + 1 + 1, LL + 1 + 1 + 1 + 1 + 1] (hd ++ vl) := by
    have q9 : ∀ k, ∀ p ∈ hd ++ vl, p.1 ≠ LL + k := fun k p hp => Nat.ne_of_lt (Nat.lt_of_lt_of_le (hOld p (.tail _ hp)) (Nat.le_add_right LL k))
    exact (Mine.all_c (fun p hp => off_ne hO p (by (repeat (first | exact hp | apply List.mem_cons_of_mem)))) (Mine.all_c (q9 8) (Mine.all_c (q9 7) (Mine.all_c (q9 6) (Mine.all_c (q9 5) Mine.all_n)))))
  obtain ⟨EX, hEX⟩ : ∃ x, x = List.take 11 (ledOf NZ) := ⟨_, rfl⟩
  obtain ⟨M0, hM0⟩ : ∃ x, x = mapOf FZ := ⟨_, rfl⟩
  dsimp only [ledOf, mapOf, List.take] at hEX hM0
  refine For_D (fun i m nw => Mine.Ex8 fun f ovs on oh ok oli ot hdd => Mine.And9 (m = ov M0 [Str.ofString "king", Str.ofString "loyal", Str.ofString "told", Str.ofString "views", Str.ofString "lie", Str.ofString "seen", Str.ofString "said", Str.ofString "vote"] f) (nw = setO 1 (listOf ovs.toArray on) (setO 2 oh (setO 3 ok (setO 4 oli (setO 5 ot (EX))))) ++ (hdd ++ vl)) ((∃ v, oh.data = .cell v)) ((∃ v, ok.data = .cell v)) ((∃ v, oli.data = .cell v)) ((∃ v, ot.data = .cell v)) (IntsAre ovs (osP os0 c2 k0 k1 liar way i)) (Tabs hdd) (OffA [O, LL + 1 + 1 + 1 + 1 + 1 + 1 + 1 + 1, LL + 1 + 1 + 1 + 1 + 1 + 1 + 1, LL + 1 + 1 + 1 + 1 + 1 + 1, LL + 1 + 1 + 1 + 1 + 1] (hdd ++ vl))) FZ ?_
  (repeat' (first | ((fail_if_success (fail_if_success k_unfold)); (first | refine (let s9 := _; (?_ : wpAny _ _ _ _ _ s9)) | k_unfold)) | (k_end; wrow_close) | ((fail_if_success (fail_if_success k_fold)); (refine (let q9 := _; (?_ : wpAny _ _ _ q9 _ _))); walk1) | walk1 | (dsimp only [List.nil_append, List.cons_append]; walk1) | (leave1; walk_say "STEP leave1"; try dsimp only) | fail "no step"))
  rename IsRange _ _ _ _ _ _ _ _ => hR
  rename Fr _ _ _ _ => FZ2
  rename News _ _ _ _ => NZ2
  refine ⟨2, _, fromF_range rfl FZ2 NZ2 ⟨_, os, os.length, _, _, _, _, hd, by rw [hM0]; exact ov_of (fun _ _ => rfl), by rw [hEX]; rfl, ⟨_, by assumption⟩, ⟨_, by assumption⟩, ⟨_, by assumption⟩, ⟨_, by assumption⟩, hos, hT, hoff0⟩ hR (by decide) (by rfl), ?turn, ?fin⟩
  case turn =>
    rintro i v m₁ nw h dr tk I oI hi ⟨t9, rfl⟩ ⟨f, ovs, on, oh, ok, oli, ot, hdd, rfl, rfl, dh, dk, dli, ⟨vt, dt⟩, ios, hTT, hoff⟩ F' N' off _hcI
    rw [Int.zero_add]
    obtain ⟨EX2, hEX2⟩ : ∃ x, x = EX := ⟨_, rfl⟩
    subst hEX hM0
    have hi2 : i = 0 ∨ i = 1 := by omega
    have off' := setO_off' (n := 5) (setO_off' (n := 4) (setO_off' (n := 3) (setO_off' (n := 2) (setO_off' (n := 1) (fun p hp => off p (List.mem_append_left _ hp))))))
    have e9 : at5 [k0, k1] (i : Int) = kAt k0 k1 i := by rcases hi2 with rfl | rfl <;> rfl
    have hkg : 0 ≤ at5 [k0, k1] (i : Int) ∧ at5 [k0, k1] (i : Int) < 5 := by rw [e9]; rcases hi2 with rfl | rfl; exact hk0; exact hk1
    have htu : 0 ≤ (i : Int) ∧ (i : Int) ≤ 1 := by omega
    obtain ⟨x2, y2, mx2, my2⟩ := tabs_104 hTT
    have i104 := Ne.symm (off (104, x2) (List.mem_append_right _ (List.mem_append_left _ mx2)))
    have i90 := Ne.symm (off (90, y2) (List.mem_append_right _ (List.mem_append_left _ my2)))
    have nI5 := Ne.symm (off' (LL + 1 + 1 + 1 + 1 + 1, _) (by (first | (k_dflt k_mem) | (repeat (first | exact List.Mem.head _ | apply List.mem_cons_of_mem)))))
    have hbo := osP_b (c2 := c2) (k0 := k0) (k1 := k1) (liar := liar) (way := way) bo i
    have hbl := osP_len (c2 := c2) (k0 := k0) (k1 := k1) (liar := liar) (way := way) hlen i
    refine wpAny_assign_Name ?_
    refine' storeX_C F' N' ?q3 (updF_split (d := LL + 1 + 1 + 1 + 1 + 1) (o := ot) (post := [_, _, _, _, _] ++ (hdd ++ vl)) ?q1 ((I, oI) :: setO 1 (listOf ovs.toArray on) (setO 2 oh (setO 3 ok (setO 4 oli [_, _, _, _, _])))) ?q2) dt ?q4 ?q5 ?q6
    case q3 => rfl
    case q5 => rfl
    case q6 => rfl
    case q1 => exact off_app (ex := [_, _, _, _, _]) ⟨(ne_lo _).1, (ne_lo _).2.1, (ne_lo _).2.2.1, (ne_lo _).2.2.2, ne_l5 hlL, trivial⟩ (hoff _ (.tail _ (.tail _ (.tail _ (.tail _ (.head _))))))
    case q2 => exact off_ne ⟨nI5, ne_k5 hKL, Ne.symm (off_ne hO (LL + 1 + 1 + 1 + 1 + 1, _) (by (first | (k_dflt k_mem) | (repeat (first | exact List.Mem.head _ | apply List.mem_cons_of_mem))))), (ne_hi _).1, (ne_hi _).2.1, (ne_hi _).2.2, trivial⟩
    intro h' ot' F' N' dt'
    dsimp only [setO, List.cons_append, List.nil_append] at N'
    try dsimp only
    refine' with_fn (K := hdA.heap_39 w.params) (f := 215) ?hw2 ?kw2
    case hw2 => k_dflt k_is
    intro hfn
    refine' held_turn (hd := hdd) (vl := (I, oI) :: vl) (Zs := [I]) (turn := (i : Int)) (os := osP os0 c2 k0 k1 liar way i) (ks := [k0, k1]) (ksv := [.int k0 ka, .int k1 kb]) (kn := 0) (way := way) (c0 := c0) (c1 := c1) (c2 := c2) (c3 := c3) (c4 := c4) (t0 := t0) (t1 := t1) (t2 := t2) (t3 := t3) (t4 := t4) (n := n) (l := l) (O := O) (Kk := Kk) (on := on) hfn h5 h6 hway hTT ?z1 hbo hliar hbl rfl hkg htu ios (.cons _ _ (.cons _ _ .nil)) dh dk dli dt' dw dl ?zoo ?zdc ?z3 ?zg1 ?zg3 ?z5 ?z6 ?z7 ?z8 ?zzm ?z9 ?z11 ?zB ?zX ?zT ?zhd ?zhu ?zhE ?z12 F' ?z13
    case z1 => exact List.forall_mem_cons.mpr ⟨⟨i104, i90⟩, hvl⟩
    case zoo => assumption
    case zdc => assumption
    case z13 =>
      refine news_sub N' fun p hp => ?_
      ((revert hp; revert p; (repeat (first | exact Mine.sub_nil | (refine Mine.sub_cons ?_ ?_; focus (first | exact Mine.m0 | exact Mine.m1 | exact Mine.m2 | exact Mine.m3 | exact Mine.m4 | exact Mine.m5 | exact Mine.m6 | exact Mine.mAt 7 rfl | exact Mine.mAt 8 rfl | exact Mine.mAt 9 rfl | exact Mine.mAt 10 rfl | exact Mine.mAt 11 rfl | exact Mine.mAt 12 rfl | exact Mine.mAt 13 rfl | exact Mine.mAt 14 rfl | exact Mine.mAt 15 rfl | exact Mine.mAt 16 rfl | exact Mine.mAt 17 rfl | exact Mine.mAt 18 rfl | exact Mine.mAt 19 rfl | exact Mine.mAt 20 rfl | exact Mine.mAt 21 rfl | exact Mine.mAt 22 rfl | exact Mine.mAt 23 rfl | (repeat (first | exact List.Mem.head _ | apply List.mem_cons_of_mem | apply List.mem_append_right)))) | (refine Mine.sub_app ?_ ?_) | (intro p9 hp9; (repeat (first | exact hp9 | exact List.mem_append_left _ hp9 | apply List.mem_cons_of_mem | apply List.mem_append_right)))))))
    case z3 => exact ⟨Nat.ne_of_gt hOK, hO.1, hO.2.1, hO.2.2.1, hO.2.2.2.1, hO.2.2.2.2.1, hO.2.2.2.2.2.1, hO.2.2.2.2.2.2.1, hO.2.2.2.2.2.2.2.1, hO.2.2.2.2.2.2.2.2.1, trivial⟩
    case zg1 => exact hKL
    case zg3 => exact hlL
    case z5 => exact ⟨o104, Nat.ne_of_gt (Nat.lt_trans h104L (lt_k hKL)), (ne_ups h104L).1, (ne_ups h104L).2.1, (ne_ups h104L).2.2.1, (ne_ups h104L).2.2.2.1, (ne_ups h104L).2.2.2.2.1, (ne_ups h104L).2.2.2.2.2.1, (ne_ups h104L).2.2.2.2.2.2.1, (ne_ups h104L).2.2.2.2.2.2.2, (hvl _ hm).1, trivial⟩
    case z6 => exact ⟨o90, Nat.ne_of_gt (Nat.lt_trans h90L (lt_k hKL)), (ne_ups h90L).1, (ne_ups h90L).2.1, (ne_ups h90L).2.2.1, (ne_ups h90L).2.2.2.1, (ne_ups h90L).2.2.2.2.1, (ne_ups h90L).2.2.2.2.2.1, (ne_ups h90L).2.2.2.2.2.2.1, (ne_ups h90L).2.2.2.2.2.2.2, (hvl _ hm).2, trivial⟩
    case z7 =>
      exact offA_ins hoff (Mine.all_c (Ne.symm (off' (O, _) (by (first | (k_dflt k_mem) | (repeat (first | exact List.Mem.head _ | apply List.mem_cons_of_mem)))))) (Mine.all_c (Ne.symm (off' (LL + 1 + 1 + 1 + 1 + 1 + 1 + 1 + 1, _) (by (first | (k_dflt k_mem) | (repeat (first | exact List.Mem.head _ | apply List.mem_cons_of_mem)))))) (Mine.all_c (Ne.symm (off' (LL + 1 + 1 + 1 + 1 + 1 + 1 + 1, _) (by (first | (k_dflt k_mem) | (repeat (first | exact List.Mem.head _ | apply List.mem_cons_of_mem)))))) (Mine.all_c (Ne.symm (off' (LL + 1 + 1 + 1 + 1 + 1 + 1, _) (by (first | (k_dflt k_mem) | (repeat (first | exact List.Mem.head _ | apply List.mem_cons_of_mem)))))) (Mine.all_c (Ne.symm (off' (LL + 1 + 1 + 1 + 1 + 1, _) (by (first | (k_dflt k_mem) | (repeat (first | exact List.Mem.head _ | apply List.mem_cons_of_mem)))))) Mine.all_n)))))
    case z8 => exact fun a ha p hp => by rw [List.mem_singleton.mp ha]; exact off p (List.mem_append_right _ (List.mem_append_left _ hp))
    case zzm => exact fun a ha => ⟨_, .head _, (List.mem_singleton.mp ha).symm⟩
    case z9 => exact (ov_out (by decide +kernel)).trans rfl
    case z11 => exact (ov_out (by decide +kernel)).trans rfl
    case zB => k_asm
    case zX => k_asm
    case zT => k_asm
    case zhd => omega
    case zhu => omega
    case zhE => passes_own
    case z12 =>
    intro h' dr tk m'' ov' on' oh' ok' oli' hd' hmm F3 iov dh' dk' dli' hT' hoff' hz' N3
    have off2 : ∀ p ∈ EX2, p.1 ≠ I := by rw [hEX2]; exact off'
    have N4 := news_sub (led' := (I, oI) :: (setO 1 (listOf ov'.toArray on') (setO 2 oh' (setO 3 ok' (setO 4 oli' (setO 5 ot' (EX2))))) ++ (hd' ++ vl))) N3 (fun p hp => by
      rw [hEX2] at hp
      dsimp only [setO, List.cons_append, List.nil_append] at hp ⊢
      ((revert hp; revert p; (repeat (first | exact Mine.sub_nil | (refine Mine.sub_cons ?_ ?_; focus (first | exact Mine.m0 | exact Mine.m1 | exact Mine.m2 | exact Mine.m3 | exact Mine.m4 | exact Mine.m5 | exact Mine.m6 | exact Mine.mAt 7 rfl | exact Mine.mAt 8 rfl | exact Mine.mAt 9 rfl | exact Mine.mAt 10 rfl | exact Mine.mAt 11 rfl | exact Mine.mAt 12 rfl | exact Mine.mAt 13 rfl | exact Mine.mAt 14 rfl | exact Mine.mAt 15 rfl | exact Mine.mAt 16 rfl | exact Mine.mAt 17 rfl | exact Mine.mAt 18 rfl | exact Mine.mAt 19 rfl | exact Mine.mAt 20 rfl | exact Mine.mAt 21 rfl | exact Mine.mAt 22 rfl | exact Mine.mAt 23 rfl | (repeat (first | exact List.Mem.head _ | apply List.mem_cons_of_mem | apply List.mem_append_right)))) | (refine Mine.sub_app ?_ ?_) | (intro p9 hp9; (repeat (first | exact hp9 | exact List.mem_append_left _ hp9 | apply List.mem_cons_of_mem | apply List.mem_append_right))))))))
    refine end_f F3 N4 ?y1 ⟨m'', ov', on', oh', ok', oli', _, hd', ov_over hmm, by rw [hEX2], dh', dk', dli', ⟨_, dt'⟩, ?y2, hT', offA_mono hoff' fun p hp => ?y3⟩
    case y1 =>
      intro p hp
      rcases List.mem_append.mp hp with h | h
      · exact setO_off (n := 1) (setO_off (n := 2) (setO_off (n := 3) (setO_off (n := 4) (setO_off (n := 5) off2)))) p h
      · rcases List.mem_append.mp h with h | h
        · exact hz' I (.head _) p h
        · exact off p (List.mem_append_right _ (List.mem_append_right _ h))
    case y2 =>
      show IntsAre ov' (roundP _ _ _ (kAt k0 k1 i) _)
      rw [← e9]
      exact iov
    case y3 =>
      rcases List.mem_append.mp hp with h | h
      · exact List.mem_append_left _ h
      · exact List.mem_append_right _ (.tail _ h)
  case fin =>
    rintro h dr tk m nw ⟨f, ovs, on, oh, ok, oli, ot, hdd, rfl, rfl, ⟨vh, dh⟩, ⟨vk, dk⟩, ⟨vli, dli⟩, ⟨vt, dt⟩, ios, hTT, hoff⟩ F' N'
    have hb2 := osP_len (c2 := c2) (k0 := k0) (k1 := k1) (liar := liar) (way := way) hlen 2
    have e2 : heldP os0 (liesP c2 0) (liesP c2 1) k0 k1 liar way = (loyP liar).map fun k => at5 (osP os0 c2 k0 k1 liar way 2) k := rfl
    rw [e2] at hret
    generalize osP os0 c2 k0 k1 liar way 2 = os2 at *
    subst hEX hM0
    dsimp only [setO, List.cons_append, List.nil_append] at N' F'
    (repeat' (first | ((fail_if_success (fail_if_success k_unfold)); (first | refine (let s9 := _; (?_ : wpAny _ _ _ _ _ s9)) | k_unfold)) | (k_end; wrow_close) | ((fail_if_success (fail_if_success k_fold)); (refine (let q9 := _; (?_ : wpAny _ _ _ q9 _ _))); walk1) | walk1 | (dsimp only [List.nil_append, List.cons_append]; walk1) | (leave1; walk_say "STEP leave1"; try dsimp only) | fail "no step"))
    refine Hold.mk ?_
    rename Fr _ _ _ _ => FA
    rename News _ _ _ _ => NA
    k_dflt refine ListComp_D (fun i ys nw => nw = ledOf NA ∧ IntsAre ys ((([0, 1, 2, 3, 4].take i).filter fun o : Int => decide (o ≠ liar)).map fun o => at5 os2 o)) FA (by with_unfolding_all rfl) (by decide) (by rfl) (by decide) (by rfl) ?_
    (repeat' (first | ((fail_if_success (fail_if_success k_unfold)); (first | refine (let s9 := _; (?_ : wpAny _ _ _ _ _ s9)) | k_unfold)) | (k_end; wrow_close) | ((fail_if_success (fail_if_success k_fold)); (refine (let q9 := _; (?_ : wpAny _ _ _ q9 _ _))); walk1) | walk1 | (dsimp only [List.nil_append, List.cons_append]; walk1) | (leave1; walk_say "STEP leave1"; try dsimp only) | fail "no step"))
    rename IsRange _ _ _ _ _ _ _ _ => hR
    rename Fr _ _ _ _ => FB
    rename News _ _ _ _ => NB
    refine ⟨5, _, from_range rfl FB NB (Nat.le_of_ble_eq_true rfl) ⟨rfl, .nil⟩ hR (by decide) (by rfl), ?t1, ?f1⟩
    case t1 =>
      rintro i ys nw hi5 ⟨rfl, hys⟩ v J oJ C oC D9 m₂ h dr tk E' ⟨t9, rfl⟩ hC hx F' N' off ne
      dsimp only [ledOf] at N' off ⊢
      have hr5 := r5 hi5
      rw [Int.zero_add] at hx
      have ho5 : 0 ≤ (i : Int) ∧ (i : Int) < 5 := by omega
      generalize ((i : Nat) : Int) = o at *
      clear ne
      (repeat' (first | ((fail_if_success (fail_if_success k_unfold)); (first | refine (let s9 := _; (?_ : wpAny _ _ _ _ _ s9)) | k_unfold)) | (k_end; wrow_close) | ((fail_if_success (fail_if_success k_fold)); (refine (let q9 := _; (?_ : wpAny _ _ _ q9 _ _))); walk1) | walk1 | (dsimp only [List.nil_append, List.cons_append]; walk1) | (leave1; walk_say "STEP leave1"; try dsimp only) | fail "no step"))
      all_goals
        first
          | exact end_d (by k_asm) (by k_asm) off ⟨rfl, fm_in hys hr5 (by assumption)⟩
          | exact end_d (by k_asm) (by k_asm) off ⟨rfl, fm_out hys hr5 (fun h => h (by assumption))⟩
    case f1 =>
      rintro R h dr tk ys nw F' N' oR ⟨rfl, hys⟩
      dsimp only [ledOf] at N' oR
      (repeat' (first | ((fail_if_success (fail_if_success k_unfold)); (first | refine (let s9 := _; (?_ : wpAny _ _ _ _ _ s9)) | k_unfold)) | (k_end; wrow_close) | ((fail_if_success (fail_if_success k_fold)); (refine (let q9 := _; (?_ : wpAny _ _ _ q9 _ _))); walk1) | walk1 | (dsimp only [List.nil_append, List.cons_append]; walk1) | (leave1; walk_say "STEP leave1"; try dsimp only) | fail "no step"))
      rename Fr _ _ _ _ => F8
      rename News _ _ _ _ => N8
      refine hret R ys hdd hTT (off_of fun p hp => off_ne oR p ?_) hys _ _ _ F8 (news_sub N8 (List.forall_mem_cons.mpr ⟨.head _, fun p hp => .tail _ ?_⟩))
      · (repeat (first | exact List.mem_append_right _ hp | apply List.mem_cons_of_mem))
      · (repeat (first | exact hp | apply List.mem_cons_of_mem))
end Mine
end
section
theorem Mine.fresh22 {prog : Program} {w : World} {A : Around} {E : Value → Shared → Prop} {s : Shared} {Q : Bool → Shared → Prop} (h : wpAny (model prog w) A (truthy (.bool true)) Q E s) : wpAny (model prog w) A (truthy (.bool true)) Q E s := by
  w_top off
  first | (walk1; fail "no") | exact h
namespace Mine
theorem after_at {os ls : List Int} {liar way j : Int} (h0 : 0 ≤ j) (h4 : j ≤ 4) : at5 (afterP os ls liar way) j = if 4 ≤ ct (seenL os ls liar j) (most (seenL os ls liar j) way) then most (seenL os ls liar j) way else at5 ls (5 + j) := by
  have hj : j = 0 ∨ j = 1 ∨ j = 2 ∨ j = 3 ∨ j = 4 := by lia
  unfold afterP
  rcases hj with rfl | rfl | rfl | rfl | rfl <;> rfl
theorem round_at {os ls : List Int} {liar king way j : Int} (h0 : 0 ≤ j) (h4 : j ≤ 4) (hj : j ≠ liar) : at5 (roundP os ls liar king way) j = stepK os ls liar king way j := by
  unfold roundP
  rw [upd_at h0 (by lia), if_pos (loyP_mem.mpr ⟨⟨h0, by lia⟩, hj⟩)]
theorem held_due {os ls0 ls1 : List Int} {k0 k1 liar way : Int} (ho : B3 os) (hl0 : B3 ls0) (hl1 : B3 ls1) (hk : k0 ≠ k1) : heldP os ls0 ls1 k0 k1 liar way = (loyP liar).map fun _ => dueP os ls0 ls1 k0 k1 liar way := by
  unfold heldP
  refine List.map_congr_left fun j hj => ?_
  have hm := loyP_mem.mp hj
  exact two_rounds (os1 := roundP os ls0 liar k0 way) (after := afterP os ls0 liar way) ho hl0 hl1 (round_b ho hl0) hk (fun j h0 h4 h => round_at h0 h4 h) (fun j h0 h4 h => round_at h0 h4 h) (fun j h0 h4 => after_at h0 h4) j hm.1.1 (by lia) hm.2
theorem kings_ne (c1 : Int) : k0P c1 ≠ k1P c1 := by
  unfold k0P k1P
  have h0 := fm_b (a := Int.fdiv c1 6) (b := 5) (by decide)
  have h1 := fm_b (a := Int.fdiv c1 30) (b := 4) (by decide)
  generalize Int.fmod (Int.fdiv c1 6) 5 = a at *
  generalize Int.fmod (Int.fdiv c1 30) 4 = b at *
  rw [Int.fmod_eq_emod_of_nonneg _ (by decide)]
  lia
theorem cells_of {ys : List Value} {f : Int → Int} (h : IntsAre ys (List.map f (rangeKs 0 ((5 : Int) - 0).toNat))) : Mine.Ex10 fun c0 c1 c2 c3 c4 t0 t1 t2 t3 t4 => ys = [.int c0 t0, .int c1 t1, .int c2 t2, .int c3 t3, .int c4 t4] := by
  have h' : IntsAre ys [f 0, f 1, f 2, f 3, f 4] := h
  obtain ⟨t0, t1, t2, t3, t4, e⟩ := intsD5 h'
  exact ⟨_, _, _, _, _, t0, t1, t2, t3, t4, e⟩
theorem eq_same {prog : Program} {w : World} {A : Around} {E : Value → Shared → Prop} {s : Shared} {a b : Addr} {xs ys : List Value} {ns : List Int} {Q : Value → Shared → Prop} (ha : s.heap.IsList a xs.toArray) (hb : s.heap.IsList b ys.toArray) (hi : IntsAre xs ns) (hj : IntsAre ys ns) (hu : A.units + 64 < cLine) (h : Q (.bool true) s) :
    wpAny (model prog w) A (compareOp .Eq (.ref a) (.ref b)) Q E s := ke_eq_ints ha hb hi hj hu (by rw [decide_eq_true rfl]; exact h)
theorem tabs_obj {hd : List (Addr × Obj)} (h : Tabs hd) : Mine.Ex2 fun p1 p2 => ((104, tabObj p1) : Addr × Obj) ∈ hd ∧ ((90, tabObj p2) : Addr × Obj) ∈ hd := by
  obtain ⟨x, c1, o1, y, c2, o2, rfl, hx, _, _, hy, _, _⟩ := h
  have ex : ∃ p, x = tabObj p := by rcases hx with h | ⟨h, _⟩ <;> exact ⟨_, h⟩
  have ey : ∃ p, y = tabObj p := by rcases hy with h | ⟨h, _⟩ <;> exact ⟨_, h⟩
  obtain ⟨p1, rfl⟩ := ex
  obtain ⟨p2, rfl⟩ := ey
  exact ⟨p1, p2, .head _, .tail _ (.tail _ (.head _))⟩
end Mine
set_option maxRecDepth 100000 in
set_option maxHeartbeats 16000000 in
theorem PySem.Challenge.cw_if0032_01_holds : PySem.Challenge.rw_if0032_01.Holds := by
  refine Mine.hd rfl rfl rfl (?_)
  k_go0
  all_goals try k_fold
  (repeat' (first | ((fail_if_success (fail_if_success k_unfold)); (try ((rename News _ _ _ _ => N9); (fail_if_success (fail_if_success (conv at N9 => pattern (_ :: _)))); (refine (let l9 := _; have N8 : News _ _ _ l9 := N9; ?_)); clear N9)); (first | refine (let s9 := _; (?_ : wpAny _ _ _ _ _ s9)) | k_unfold)) | (k_end; wrow_close) | ((fail_if_success (fail_if_success k_fold)); (refine (let q9 := _; (?_ : wpAny _ _ _ q9 _ _))); (first | ((with_reducible show wpAny _ _ (eval (PySem.Expr.ListComp (PySem.Expr.Name _ _) _ _ _) _) _ _ _); (with_reducible refine Mine.Hold.h ?_)) | ((with_reducible show wpAny _ _ (compareOp CmpOp.Eq (Value.ref _) (Value.ref _)) _ _ _); (with_reducible refine Mine.Hold.h ?_)) | ((first | (with_reducible show wpAny _ _ (call (Value.ref 215) _) _ _ _) | (with_reducible show wpAny _ _ (call (Value.ref 225) _) _ _ _)); (with_reducible refine Mine.Hold.h ?_)) | ((with_reducible show wpAny _ _ (call (Value.builtin "sum") [Value.ref _]) _ _ _); (with_unfolding_all refine Mine.sum_pick (by with_unfolding_all rfl) (by k_asm) (by k_asm) (by is_list) (by l_ints) ?_); intro h' tk' t' F' N') | walk1)) | (first | ((with_reducible show wpAny _ _ (eval (PySem.Expr.ListComp (PySem.Expr.Name _ _) _ _ _) _) _ _ _); (with_reducible refine Mine.Hold.h ?_)) | ((with_reducible show wpAny _ _ (compareOp CmpOp.Eq (Value.ref _) (Value.ref _)) _ _ _); (with_reducible refine Mine.Hold.h ?_)) | ((first | (with_reducible show wpAny _ _ (call (Value.ref 215) _) _ _ _) | (with_reducible show wpAny _ _ (call (Value.ref 225) _) _ _ _)); (with_reducible refine Mine.Hold.h ?_)) | ((with_reducible show wpAny _ _ (call (Value.builtin "sum") [Value.ref _]) _ _ _); (with_unfolding_all refine Mine.sum_pick (by with_unfolding_all rfl) (by k_asm) (by k_asm) (by is_list) (by l_ints) ?_); intro h' tk' t' F' N') | walk1) | (dsimp only [List.nil_append, List.cons_append]; (first | ((with_reducible show wpAny _ _ (eval (PySem.Expr.ListComp (PySem.Expr.Name _ _) _ _ _) _) _ _ _); (with_reducible refine Mine.Hold.h ?_)) | ((with_reducible show wpAny _ _ (compareOp CmpOp.Eq (Value.ref _) (Value.ref _)) _ _ _); (with_reducible refine Mine.Hold.h ?_)) | ((first | (with_reducible show wpAny _ _ (call (Value.ref 215) _) _ _ _) | (with_reducible show wpAny _ _ (call (Value.ref 225) _) _ _ _)); (with_reducible refine Mine.Hold.h ?_)) | ((with_reducible show wpAny _ _ (call (Value.builtin "sum") [Value.ref _]) _ _ _); (with_unfolding_all refine Mine.sum_pick (by with_unfolding_all rfl) (by k_asm) (by k_asm) (by is_list) (by l_ints) ?_); intro h' tk' t' F' N') | walk1)) | (leave1; walk_say "STEP leave1"; try dsimp only) | fail "no step"))
  refine Mine.Hold.mk ?_
  rename Fr _ _ _ _ => F9
  rename News _ _ _ _ => N9
  rename IntsAre _ (List.map _ _) => hI9
  obtain ⟨c0, c1, c2, c3, c4, t0, t1, t2, t3, t4, hys⟩ := Mine.cells_of hI9
  clear hI9
  subst hys
  obtain ⟨D9, e9⟩ : ∃ x, x = ((Mine.ledOf N9).headD (0, tabObj #[])).1 := ⟨_, rfl⟩
  dsimp +zetaDelta only [Mine.ledOf, List.headD] at e9
  subst e9
  obtain ⟨W9, e9⟩ : ∃ x, x = (((Mine.ledOf N9).drop 4).headD (0, tabObj #[])).2 := ⟨_, rfl⟩
  dsimp +zetaDelta only [Mine.ledOf, List.drop, List.headD] at e9
  subst e9
  have N8 := Mine.news_sub (led' := [(104, tabObj #[]), (D9, Mine.cellsO c0 c1 c2 c3 c4 t0 t1 t2 t3 t4 5), (90, tabObj #[]), (D9, Mine.cellsO c0 c1 c2 c3 c4 t0 t1 t2 t3 t4 5)] ++ [(D9, Mine.cellsO c0 c1 c2 c3 c4 t0 t1 t2 t3 t4 5), (Mine.frL F9 + 1, W9)]) N9 (fun p hp => by ((revert hp; revert p; (repeat (first | exact Mine.sub_nil | (refine Mine.sub_cons ?_ ?_; focus (first | exact Mine.m0 | exact Mine.m1 | exact Mine.m2 | exact Mine.m3 | exact Mine.m4 | exact Mine.m5 | exact Mine.m6 | exact Mine.mAt 7 rfl | exact Mine.mAt 8 rfl | exact Mine.mAt 9 rfl | exact Mine.mAt 10 rfl | exact Mine.mAt 11 rfl | exact Mine.mAt 12 rfl | exact Mine.mAt 13 rfl | exact Mine.mAt 14 rfl | exact Mine.mAt 15 rfl | exact Mine.mAt 16 rfl | exact Mine.mAt 17 rfl | exact Mine.mAt 18 rfl | exact Mine.mAt 19 rfl | exact Mine.mAt 20 rfl | exact Mine.mAt 21 rfl | exact Mine.mAt 22 rfl | exact Mine.mAt 23 rfl | (repeat (first | exact List.Mem.head _ | apply List.mem_cons_of_mem | apply List.mem_append_right)))) | (refine Mine.sub_app ?_ ?_) | (intro p9 hp9; (repeat (first | exact hp9 | exact List.mem_append_left _ hp9 | apply List.mem_cons_of_mem | apply List.mem_append_right))))))))
  refine' Mine.Ctr.use (Mine.held_ctr (hd := [(104, tabObj #[]), (D9, Mine.cellsO c0 c1 c2 c3 c4 t0 t1 t2 t3 t4 5), (90, tabObj #[]), (D9, Mine.cellsO c0 c1 c2 c3 c4 t0 t1 t2 t3 t4 5)]) (vl := [(D9, Mine.cellsO c0 c1 c2 c3 c4 t0 t1 t2 t3 t4 5), (Mine.frL F9 + 1, W9)]) (.head _) ?zT9 ?zV) ?zB F9 ?zX N8 ?zT ?zk ?zd ?zu ?_
  case zT9 => exact ⟨_, _, _, _, _, _, rfl, .inl rfl, by show @Ne Nat _ _; omega, by show @Ne Nat _ _; omega, .inl rfl, by show @Ne Nat _ _; omega, by show @Ne Nat _ _; omega⟩
  case zV => exact List.forall_mem_cons.mpr ⟨⟨by show @Ne Nat _ _; omega, by show @Ne Nat _ _; omega⟩, List.forall_mem_cons.mpr ⟨⟨by show @Ne Nat _ _; dsimp only [Mine.frL]; omega, by show @Ne Nat _ _; dsimp only [Mine.frL]; omega⟩, fun _ h => nomatch h⟩⟩
  case zB => k_asm
  case zX => k_asm
  case zT => k_asm
  case zk => exact rfl
  case zd => ktr_room
  case zu => ktr_units
  intro R hs hd' hTt oR iR h' dr tk F' N'
  obtain ⟨p1, p2, mp1, mp2⟩ := Mine.tabs_obj hTt
  replace N' := Mine.news_sub (led' := [(R, LCg.lst hs), (D9, Mine.cellsO c0 c1 c2 c3 c4 t0 t1 t2 t3 t4 5), (Mine.frL F9 + 1, W9), (104, tabObj p1), (90, tabObj p2)]) N' (Mine.sub_cons (.head _) (Mine.sub_cons (.tail _ (List.mem_append_right _ (.head _))) (Mine.sub_cons (.tail _ (List.mem_append_right _ (.tail _ (.head _)))) (Mine.sub_cons (.tail _ (List.mem_append_left _ mp1)) (Mine.sub_cons (.tail _ (List.mem_append_left _ mp2)) Mine.sub_nil)))))
  clear mp1 mp2 hTt
  rw [Mine.held_due (Mine.ords_b _) (Mine.lies_b _ _) (Mine.lies_b _ _) (Mine.kings_ne _)] at iR
  dsimp only [Mine.frL] at N' oR
  try dsimp only
  (repeat' (first | ((fail_if_success (fail_if_success k_unfold)); (try ((rename News _ _ _ _ => N9); (fail_if_success (fail_if_success (conv at N9 => pattern (_ :: _)))); (refine (let l9 := _; have N8 : News _ _ _ l9 := N9; ?_)); clear N9)); (first | refine (let s9 := _; (?_ : wpAny _ _ _ _ _ s9)) | k_unfold)) | (k_end; wrow_close) | ((fail_if_success (fail_if_success k_fold)); (refine (let q9 := _; (?_ : wpAny _ _ _ q9 _ _))); (first | ((with_reducible show wpAny _ _ (eval (PySem.Expr.ListComp (PySem.Expr.Name _ _) _ _ _) _) _ _ _); (with_reducible refine Mine.Hold.h ?_)) | ((with_reducible show wpAny _ _ (compareOp CmpOp.Eq (Value.ref _) (Value.ref _)) _ _ _); (with_reducible refine Mine.Hold.h ?_)) | ((first | (with_reducible show wpAny _ _ (call (Value.ref 215) _) _ _ _) | (with_reducible show wpAny _ _ (call (Value.ref 225) _) _ _ _)); (with_reducible refine Mine.Hold.h ?_)) | ((with_reducible show wpAny _ _ (call (Value.builtin "sum") [Value.ref _]) _ _ _); (with_unfolding_all refine Mine.sum_pick (by with_unfolding_all rfl) (by k_asm) (by k_asm) (by is_list) (by l_ints) ?_); intro h' tk' t' F' N') | walk1)) | (first | ((with_reducible show wpAny _ _ (eval (PySem.Expr.ListComp (PySem.Expr.Name _ _) _ _ _) _) _ _ _); (with_reducible refine Mine.Hold.h ?_)) | ((with_reducible show wpAny _ _ (compareOp CmpOp.Eq (Value.ref _) (Value.ref _)) _ _ _); (with_reducible refine Mine.Hold.h ?_)) | ((first | (with_reducible show wpAny _ _ (call (Value.ref 215) _) _ _ _) | (with_reducible show wpAny _ _ (call (Value.ref 225) _) _ _ _)); (with_reducible refine Mine.Hold.h ?_)) | ((with_reducible show wpAny _ _ (call (Value.builtin "sum") [Value.ref _]) _ _ _); (with_unfolding_all refine Mine.sum_pick (by with_unfolding_all rfl) (by k_asm) (by k_asm) (by is_list) (by l_ints) ?_); intro h' tk' t' F' N') | walk1) | (dsimp only [List.nil_append, List.cons_append]; (first | ((with_reducible show wpAny _ _ (eval (PySem.Expr.ListComp (PySem.Expr.Name _ _) _ _ _) _) _ _ _); (with_reducible refine Mine.Hold.h ?_)) | ((with_reducible show wpAny _ _ (compareOp CmpOp.Eq (Value.ref _) (Value.ref _)) _ _ _); (with_reducible refine Mine.Hold.h ?_)) | ((first | (with_reducible show wpAny _ _ (call (Value.ref 215) _) _ _ _) | (with_reducible show wpAny _ _ (call (Value.ref 225) _) _ _ _)); (with_reducible refine Mine.Hold.h ?_)) | ((with_reducible show wpAny _ _ (call (Value.builtin "sum") [Value.ref _]) _ _ _); (with_unfolding_all refine Mine.sum_pick (by with_unfolding_all rfl) (by k_asm) (by k_asm) (by is_list) (by l_ints) ?_); intro h' tk' t' F' N') | walk1)) | (leave1; walk_say "STEP leave1"; try dsimp only) | fail "no step"))
  refine Mine.Hold.mk ?_
  rename Fr _ _ _ _ => F9
  rename News _ _ _ _ => N9
  refine' Mine.Ctr.use (Mine.due_ctr (led := Mine.ledOf N9) (c0 := c0) (c1 := c1) (c2 := c2) (c3 := c3) (c4 := c4) (t0 := t0) (t1 := t1) (t2 := t2) (t3 := t3) (t4 := t4) (n := 5) ?zm2) ?zB2 F9 ?zX2 N9 ?zT2 ?zk2 ?zd2 ?zu2 ?_
  case zm2 => (first | (k_dflt k_mem) | (repeat (first | exact List.Mem.head _ | apply List.mem_cons_of_mem)))
  case zB2 => k_asm
  case zX2 => k_asm
  case zT2 => k_asm
  case zk2 => exact rfl
  case zd2 => ktr_room
  case zu2 => ktr_units
  intro t9 h' dr tk F' N'
  dsimp +zetaDelta only [Mine.ledOf] at N'
  generalize Mine.dueP (Mine.ordsP c0) (Mine.liesP c2 0) (Mine.liesP c2 1) (Mine.k0P c1) (Mine.k1P c1) (c1.fmod 6) (Mine.wayP c4) = due at *
  try dsimp only
  (repeat' (first | ((fail_if_success (fail_if_success k_unfold)); (try ((rename News _ _ _ _ => N9); (fail_if_success (fail_if_success (conv at N9 => pattern (_ :: _)))); (refine (let l9 := _; have N8 : News _ _ _ l9 := N9; ?_)); clear N9)); (first | refine (let s9 := _; (?_ : wpAny _ _ _ _ _ s9)) | k_unfold)) | (k_end; wrow_close) | ((fail_if_success (fail_if_success k_fold)); (refine (let q9 := _; (?_ : wpAny _ _ _ q9 _ _))); (first | ((with_reducible show wpAny _ _ (eval (PySem.Expr.ListComp (PySem.Expr.Name _ _) _ _ _) _) _ _ _); (with_reducible refine Mine.Hold.h ?_)) | ((with_reducible show wpAny _ _ (compareOp CmpOp.Eq (Value.ref _) (Value.ref _)) _ _ _); (with_reducible refine Mine.Hold.h ?_)) | ((first | (with_reducible show wpAny _ _ (call (Value.ref 215) _) _ _ _) | (with_reducible show wpAny _ _ (call (Value.ref 225) _) _ _ _)); (with_reducible refine Mine.Hold.h ?_)) | ((with_reducible show wpAny _ _ (call (Value.builtin "sum") [Value.ref _]) _ _ _); (with_unfolding_all refine Mine.sum_pick (by with_unfolding_all rfl) (by k_asm) (by k_asm) (by is_list) (by l_ints) ?_); intro h' tk' t' F' N') | walk1)) | (first | ((with_reducible show wpAny _ _ (eval (PySem.Expr.ListComp (PySem.Expr.Name _ _) _ _ _) _) _ _ _); (with_reducible refine Mine.Hold.h ?_)) | ((with_reducible show wpAny _ _ (compareOp CmpOp.Eq (Value.ref _) (Value.ref _)) _ _ _); (with_reducible refine Mine.Hold.h ?_)) | ((first | (with_reducible show wpAny _ _ (call (Value.ref 215) _) _ _ _) | (with_reducible show wpAny _ _ (call (Value.ref 225) _) _ _ _)); (with_reducible refine Mine.Hold.h ?_)) | ((with_reducible show wpAny _ _ (call (Value.builtin "sum") [Value.ref _]) _ _ _); (with_unfolding_all refine Mine.sum_pick (by with_unfolding_all rfl) (by k_asm) (by k_asm) (by is_list) (by l_ints) ?_); intro h' tk' t' F' N') | walk1) | (dsimp only [List.nil_append, List.cons_append]; (first | ((with_reducible show wpAny _ _ (eval (PySem.Expr.ListComp (PySem.Expr.Name _ _) _ _ _) _) _ _ _); (with_reducible refine Mine.Hold.h ?_)) | ((with_reducible show wpAny _ _ (compareOp CmpOp.Eq (Value.ref _) (Value.ref _)) _ _ _); (with_reducible refine Mine.Hold.h ?_)) | ((first | (with_reducible show wpAny _ _ (call (Value.ref 215) _) _ _ _) | (with_reducible show wpAny _ _ (call (Value.ref 225) _) _ _ _)); (with_reducible refine Mine.Hold.h ?_)) | ((with_reducible show wpAny _ _ (call (Value.builtin "sum") [Value.ref _]) _ _ _); (with_unfolding_all refine Mine.sum_pick (by with_unfolding_all rfl) (by k_asm) (by k_asm) (by is_list) (by l_ints) ?_); intro h' tk' t' F' N') | walk1)) | (leave1; walk_say "STEP leave1"; try dsimp only) | fail "no step"))
  refine Mine.Hold.mk ?_
  rename Fr _ _ _ _ => FA
  rename News _ _ _ _ => NA
  have hlo5 : (Mine.loyP (c1.fmod 6)).length ≤ 5 := by unfold Mine.loyP; exact List.length_filter_le _ _
  have hlen := iR.length
  rw [List.length_map] at hlen
  generalize Mine.loyP (c1.fmod 6) = lo at *
  k_dflt refine Mine.ListComp_D (fun i ys nw => nw = Mine.ledOf NA ∧ IntsAre ys ((lo.take i).map fun _ => due)) FA (by with_unfolding_all rfl) (by decide) (by rfl) (by decide) (by rfl) ?_
  k_dflt (refine' nameX_L FA ?xv9 ?_ ?xa9 ?xb9; (case xa9 => rfl); (case xb9 => rfl); (case xv9 => rfl))
  refine ⟨_, _, Mine.from_list (its := hs.toArray) (k := hs.length) rfl FA NA (by rw [sizeLine_eq, List.size_toArray]; omega) ⟨rfl, .nil⟩ ?u0, ?u1, ?u2⟩
  case u0 =>
    rintro i ys nw ⟨rfl, _⟩
    dsimp +zetaDelta only [Mine.ledOf]
    (first | (k_dflt k_mem) | (repeat (first | exact List.Mem.head _ | apply List.mem_cons_of_mem)))
  case u1 =>
    rintro i ys nw hi ⟨rfl, hys⟩ v J oJ C oC D8 m₂ h dr tk E' hP hC hx F' N' off ne
    have hi' : i < lo.length := by rw [← hlen]; simpa using hi
    refine wpAny_tests_nil ?_
    simp only [if_true]
    dsimp +zetaDelta only [Mine.ledOf] at N' off ⊢
    clear ne
    (repeat' (first | ((fail_if_success (fail_if_success k_unfold)); (try ((rename News _ _ _ _ => N9); (fail_if_success (fail_if_success (conv at N9 => pattern (_ :: _)))); (refine (let l9 := _; have N8 : News _ _ _ l9 := N9; ?_)); clear N9)); (first | refine (let s9 := _; (?_ : wpAny _ _ _ _ _ s9)) | k_unfold)) | (k_end; wrow_close) | ((fail_if_success (fail_if_success k_fold)); (refine (let q9 := _; (?_ : wpAny _ _ _ q9 _ _))); (first | ((with_reducible show wpAny _ _ (eval (PySem.Expr.ListComp (PySem.Expr.Name _ _) _ _ _) _) _ _ _); (with_reducible refine Mine.Hold.h ?_)) | ((with_reducible show wpAny _ _ (compareOp CmpOp.Eq (Value.ref _) (Value.ref _)) _ _ _); (with_reducible refine Mine.Hold.h ?_)) | ((first | (with_reducible show wpAny _ _ (call (Value.ref 215) _) _ _ _) | (with_reducible show wpAny _ _ (call (Value.ref 225) _) _ _ _)); (with_reducible refine Mine.Hold.h ?_)) | ((with_reducible show wpAny _ _ (call (Value.builtin "sum") [Value.ref _]) _ _ _); (with_unfolding_all refine Mine.sum_pick (by with_unfolding_all rfl) (by k_asm) (by k_asm) (by is_list) (by l_ints) ?_); intro h' tk' t' F' N') | walk1)) | (first | ((with_reducible show wpAny _ _ (eval (PySem.Expr.ListComp (PySem.Expr.Name _ _) _ _ _) _) _ _ _); (with_reducible refine Mine.Hold.h ?_)) | ((with_reducible show wpAny _ _ (compareOp CmpOp.Eq (Value.ref _) (Value.ref _)) _ _ _); (with_reducible refine Mine.Hold.h ?_)) | ((first | (with_reducible show wpAny _ _ (call (Value.ref 215) _) _ _ _) | (with_reducible show wpAny _ _ (call (Value.ref 225) _) _ _ _)); (with_reducible refine Mine.Hold.h ?_)) | ((with_reducible show wpAny _ _ (call (Value.builtin "sum") [Value.ref _]) _ _ _); (with_unfolding_all refine Mine.sum_pick (by with_unfolding_all rfl) (by k_asm) (by k_asm) (by is_list) (by l_ints) ?_); intro h' tk' t' F' N') | walk1) | (dsimp only [List.nil_append, List.cons_append]; (first | ((with_reducible show wpAny _ _ (eval (PySem.Expr.ListComp (PySem.Expr.Name _ _) _ _ _) _) _ _ _); (with_reducible refine Mine.Hold.h ?_)) | ((with_reducible show wpAny _ _ (compareOp CmpOp.Eq (Value.ref _) (Value.ref _)) _ _ _); (with_reducible refine Mine.Hold.h ?_)) | ((first | (with_reducible show wpAny _ _ (call (Value.ref 215) _) _ _ _) | (with_reducible show wpAny _ _ (call (Value.ref 225) _) _ _ _)); (with_reducible refine Mine.Hold.h ?_)) | ((with_reducible show wpAny _ _ (call (Value.builtin "sum") [Value.ref _]) _ _ _); (with_unfolding_all refine Mine.sum_pick (by with_unfolding_all rfl) (by k_asm) (by k_asm) (by is_list) (by l_ints) ?_); intro h' tk' t' F' N') | walk1)) | (leave1; walk_say "STEP leave1"; try dsimp only) | fail "no step"))
    refine Mine.end_d (by k_asm) (by k_asm) off ⟨rfl, ?_⟩
    rw [Mine.take_snoc (List.getElem?_eq_getElem hi')]
    exact Mine.ints_snoc hys
  case u2 =>
    rintro D8 h dr tk ys nw F' N' oD ⟨rfl, hys⟩
    dsimp +zetaDelta only [Mine.ledOf] at N'
    rw [List.take_of_length_le (by rw [← hlen]; simp)] at hys
    (repeat' (first | ((fail_if_success (fail_if_success k_unfold)); (try ((rename News _ _ _ _ => N9); (fail_if_success (fail_if_success (conv at N9 => pattern (_ :: _)))); (refine (let l9 := _; have N8 : News _ _ _ l9 := N9; ?_)); clear N9)); (first | refine (let s9 := _; (?_ : wpAny _ _ _ _ _ s9)) | k_unfold)) | (k_end; wrow_close) | ((fail_if_success (fail_if_success k_fold)); (refine (let q9 := _; (?_ : wpAny _ _ _ q9 _ _))); (first | ((with_reducible show wpAny _ _ (eval (PySem.Expr.ListComp (PySem.Expr.Name _ _) _ _ _) _) _ _ _); (with_reducible refine Mine.Hold.h ?_)) | ((with_reducible show wpAny _ _ (compareOp CmpOp.Eq (Value.ref _) (Value.ref _)) _ _ _); (with_reducible refine Mine.Hold.h ?_)) | ((first | (with_reducible show wpAny _ _ (call (Value.ref 215) _) _ _ _) | (with_reducible show wpAny _ _ (call (Value.ref 225) _) _ _ _)); (with_reducible refine Mine.Hold.h ?_)) | ((with_reducible show wpAny _ _ (call (Value.builtin "sum") [Value.ref _]) _ _ _); (with_unfolding_all refine Mine.sum_pick (by with_unfolding_all rfl) (by k_asm) (by k_asm) (by is_list) (by l_ints) ?_); intro h' tk' t' F' N') | walk1)) | (first | ((with_reducible show wpAny _ _ (eval (PySem.Expr.ListComp (PySem.Expr.Name _ _) _ _ _) _) _ _ _); (with_reducible refine Mine.Hold.h ?_)) | ((with_reducible show wpAny _ _ (compareOp CmpOp.Eq (Value.ref _) (Value.ref _)) _ _ _); (with_reducible refine Mine.Hold.h ?_)) | ((first | (with_reducible show wpAny _ _ (call (Value.ref 215) _) _ _ _) | (with_reducible show wpAny _ _ (call (Value.ref 225) _) _ _ _)); (with_reducible refine Mine.Hold.h ?_)) | ((with_reducible show wpAny _ _ (call (Value.builtin "sum") [Value.ref _]) _ _ _); (with_unfolding_all refine Mine.sum_pick (by with_unfolding_all rfl) (by k_asm) (by k_asm) (by is_list) (by l_ints) ?_); intro h' tk' t' F' N') | walk1) | (dsimp only [List.nil_append, List.cons_append]; (first | ((with_reducible show wpAny _ _ (eval (PySem.Expr.ListComp (PySem.Expr.Name _ _) _ _ _) _) _ _ _); (with_reducible refine Mine.Hold.h ?_)) | ((with_reducible show wpAny _ _ (compareOp CmpOp.Eq (Value.ref _) (Value.ref _)) _ _ _); (with_reducible refine Mine.Hold.h ?_)) | ((first | (with_reducible show wpAny _ _ (call (Value.ref 215) _) _ _ _) | (with_reducible show wpAny _ _ (call (Value.ref 225) _) _ _ _)); (with_reducible refine Mine.Hold.h ?_)) | ((with_reducible show wpAny _ _ (call (Value.builtin "sum") [Value.ref _]) _ _ _); (with_unfolding_all refine Mine.sum_pick (by with_unfolding_all rfl) (by k_asm) (by k_asm) (by is_list) (by l_ints) ?_); intro h' tk' t' F' N') | walk1)) | (leave1; walk_say "STEP leave1"; try dsimp only) | fail "no step"))
    refine Mine.Hold.mk ?_
    rename News _ _ _ _ => N9
    refine Mine.eq_same (Mine.lst_at (ys := hs) N9 (by (first | (k_dflt k_mem) | (repeat (first | exact List.Mem.head _ | apply List.mem_cons_of_mem))))) (Mine.lst_at (ys := ys) N9 (.head _)) iR hys (by ke_room) ?_
    try dsimp only
    refine ⟨?_, ?_⟩
    · rename Fr _ _ _ _ => FE
      refine goodW_bool FE (by assumption) (raisesW_false ?_) ?_
      · wrow_none_raised
      · (refine postW_of (by wrow_shape) (w_eq_bool (w_res rfl) w_lit) ?_)
        rfl
    · (repeat' (first | ((fail_if_success (fail_if_success k_unfold)); (try ((rename News _ _ _ _ => N9); (fail_if_success (fail_if_success (conv at N9 => pattern (_ :: _)))); (refine (let l9 := _; have N8 : News _ _ _ l9 := N9; ?_)); clear N9)); (first | refine (let s9 := _; (?_ : wpAny _ _ _ _ _ s9)) | k_unfold)) | (k_end; wrow_close) | ((fail_if_success (fail_if_success k_fold)); (refine (let q9 := _; (?_ : wpAny _ _ _ q9 _ _))); (first | ((with_reducible show wpAny _ _ (eval (PySem.Expr.ListComp (PySem.Expr.Name _ _) _ _ _) _) _ _ _); (with_reducible refine Mine.Hold.h ?_)) | ((with_reducible show wpAny _ _ (compareOp CmpOp.Eq (Value.ref _) (Value.ref _)) _ _ _); (with_reducible refine Mine.Hold.h ?_)) | ((first | (with_reducible show wpAny _ _ (call (Value.ref 215) _) _ _ _) | (with_reducible show wpAny _ _ (call (Value.ref 225) _) _ _ _)); (with_reducible refine Mine.Hold.h ?_)) | ((with_reducible show wpAny _ _ (call (Value.builtin "sum") [Value.ref _]) _ _ _); (with_unfolding_all refine Mine.sum_pick (by with_unfolding_all rfl) (by k_asm) (by k_asm) (by is_list) (by l_ints) ?_); intro h' tk' t' F' N') | walk1)) | (first | ((with_reducible show wpAny _ _ (eval (PySem.Expr.ListComp (PySem.Expr.Name _ _) _ _ _) _) _ _ _); (with_reducible refine Mine.Hold.h ?_)) | ((with_reducible show wpAny _ _ (compareOp CmpOp.Eq (Value.ref _) (Value.ref _)) _ _ _); (with_reducible refine Mine.Hold.h ?_)) | ((first | (with_reducible show wpAny _ _ (call (Value.ref 215) _) _ _ _) | (with_reducible show wpAny _ _ (call (Value.ref 225) _) _ _ _)); (with_reducible refine Mine.Hold.h ?_)) | ((with_reducible show wpAny _ _ (call (Value.builtin "sum") [Value.ref _]) _ _ _); (with_unfolding_all refine Mine.sum_pick (by with_unfolding_all rfl) (by k_asm) (by k_asm) (by is_list) (by l_ints) ?_); intro h' tk' t' F' N') | walk1) | (dsimp only [List.nil_append, List.cons_append]; (first | ((with_reducible show wpAny _ _ (eval (PySem.Expr.ListComp (PySem.Expr.Name _ _) _ _ _) _) _ _ _); (with_reducible refine Mine.Hold.h ?_)) | ((with_reducible show wpAny _ _ (compareOp CmpOp.Eq (Value.ref _) (Value.ref _)) _ _ _); (with_reducible refine Mine.Hold.h ?_)) | ((first | (with_reducible show wpAny _ _ (call (Value.ref 215) _) _ _ _) | (with_reducible show wpAny _ _ (call (Value.ref 225) _) _ _ _)); (with_reducible refine Mine.Hold.h ?_)) | ((with_reducible show wpAny _ _ (call (Value.builtin "sum") [Value.ref _]) _ _ _); (with_unfolding_all refine Mine.sum_pick (by with_unfolding_all rfl) (by k_asm) (by k_asm) (by is_list) (by l_ints) ?_); intro h' tk' t' F' N') | walk1)) | (leave1; walk_say "STEP leave1"; try dsimp only) | fail "no step"))
end

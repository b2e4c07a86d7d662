import PyProof.Rows.All
import Wide.All
import OpenK.AllK
import Wide.FinOn
import PySem.Challenge.RW_oy0154_01
set_option Elab.async false
set_option maxRecDepth 100000
set_option linter.all false
local macro_rules | `(tactic| k_room) => `(tactic| ktr_room)
local macro_rules | `(tactic| k_units) => `(tactic| ktr_units)
local macro_rules | `(tactic| ke_room) => `(tactic| ktr_units)
local macro_rules | `(tactic| k_all) => `(tactic| k_extra "m all")
local macro_rules | `(tactic| k_ne) => `(tactic| k_extra "m ne")
local macro_rules | `(tactic| k_mem) => `(tactic| k_extra "m mem")
local macro_rules | `(tactic| k_in) => `(tactic| k_extra "m in")
local macro_rules | `(tactic| ktr_rel) => `(tactic| k_extra "m rel")
local macro_rules | `(tactic| tb_start) => `(tactic| k_extra "m start")
local macro_rules | `(tactic| size_fits) => `(tactic| k_extra "m fits")
local macro_rules | `(tactic| walk_at $s:str) => `(tactic| k_extra $s)
section
open PySem PySem.W PyProof.Rows PySem.Calls PySem.Spec
namespace Mine
noncomputable def stm (i : Nat) : Stmt := PySem.Challenge.pw_oy0154_01.main.body.getD i default
noncomputable def meth (i : Nat) : Stmt := match stm 1 with
  | .ClassDef _ _ _ b _ _ _ _ _ _ _ => b.getD i default
  | _ => default
noncomputable abbrev fnL (n q : Str) (p : Arguments) (b : List Stmt) (sc : Scope) (m c : Value) : Obj := { cls := .type "function", data := .func { name := n, qualname := q, params := p, body := .stmts b, scope := sc, globals := 3, closure := [], defaults := .none, kwdefaults := .none, pyModule := m, code := c } }
noncomputable def fnO (s : Stmt) (q : Str) (m c : Value) : Obj := match s with
  | .FunctionDef n a b _ _ _ sc _ _ _ => fnL n q a b sc m c
  | _ => default
noncomputable def kSpec (P : Params) : Frag :=
  (nat_lit 2, { cls := Value.none, data := Data.dict #[] }) ::
  (nat_lit 3, { cls := Value.type "dict", data := Data.dict #[{ hash := PyData.keyHash P (Str.ofString "__name__"), key := Value.str (Str.ofString "__name__") 165, val := Value.str (Str.ofString "law_oy0154_01") 380 }, { hash := PyData.keyHash P (Str.ofString "__doc__"), key := Value.str (Str.ofString "__doc__") 166, val := Value.none }, { hash := PyData.keyHash P (Str.ofString "__package__"), key := Value.str (Str.ofString "__package__") 167, val := Value.none }, { hash := PyData.keyHash P (Str.ofString "__loader__"), key := Value.str (Str.ofString "__loader__") 168, val := Value.builtin "__main__.__loader__#opaque" }, { hash := PyData.keyHash P (Str.ofString "__spec__"), key := Value.str (Str.ofString "__spec__") 169, val := Value.none }, { hash := PyData.keyHash P (Str.ofString "__annotations__"), key := Value.str (Str.ofString "__annotations__") 170, val := Value.ref 6 }, { hash := PyData.keyHash P (Str.ofString "__builtins__"), key := Value.str (Str.ofString "__builtins__") 171, val := Value.ref 4 }, { hash := PyData.keyHash P (Str.ofString "__file__"), key := Value.str (Str.ofString "__file__") 173, val := Value.str (Str.ofString "/claim/cut.py") 172 }, { hash := PyData.keyHash P (Str.ofString "__cached__"), key := Value.str (Str.ofString "__cached__") 174, val := Value.none }, { hash := PyData.keyHash P (Str.ofString "Entry"), key := Value.str (Str.ofString "Entry") 250, val := Value.ref 52 }, { hash := PyData.keyHash P (Str.ofString "heappush"), key := Value.str (Str.ofString "heappush") 260, val := Value.ref 63 }, { hash := PyData.keyHash P (Str.ofString "heappop"), key := Value.str (Str.ofString "heappop") 269, val := Value.ref 70 }, { hash := PyData.keyHash P (Str.ofString "_siftdown"), key := Value.str (Str.ofString "_siftdown") 281, val := Value.ref 77 }, { hash := PyData.keyHash P (Str.ofString "_siftup"), key := Value.str (Str.ofString "_siftup") 294, val := Value.ref 84 }, { hash := PyData.keyHash P (Str.ofString "S_IFMT"), key := Value.str (Str.ofString "S_IFMT") 303, val := Value.ref 91 }, { hash := PyData.keyHash P (Str.ofString "S_IFDIR"), key := Value.str (Str.ofString "S_IFDIR") 305, val := Value.int 16384 304 }, { hash := PyData.keyHash P (Str.ofString "S_IFCHR"), key := Value.str (Str.ofString "S_IFCHR") 307, val := Value.int 8192 306 }, { hash := PyData.keyHash P (Str.ofString "S_IFBLK"), key := Value.str (Str.ofString "S_IFBLK") 309, val := Value.int 24576 308 }, { hash := PyData.keyHash P (Str.ofString "S_IFREG"), key := Value.str (Str.ofString "S_IFREG") 311, val := Value.int 32768 310 }, { hash := PyData.keyHash P (Str.ofString "S_IFIFO"), key := Value.str (Str.ofString "S_IFIFO") 313, val := Value.int 4096 312 }, { hash := PyData.keyHash P (Str.ofString "S_IFLNK"), key := Value.str (Str.ofString "S_IFLNK") 315, val := Value.int 40960 314 }, { hash := PyData.keyHash P (Str.ofString "S_IFSOCK"), key := Value.str (Str.ofString "S_IFSOCK") 317, val := Value.int 49152 316 }, { hash := PyData.keyHash P (Str.ofString "S_ISUID"), key := Value.str (Str.ofString "S_ISUID") 319, val := Value.int 2048 318 }, { hash := PyData.keyHash P (Str.ofString "S_ISGID"), key := Value.str (Str.ofString "S_ISGID") 321, val := Value.int 1024 320 }, { hash := PyData.keyHash P (Str.ofString "S_ISVTX"), key := Value.str (Str.ofString "S_ISVTX") 323, val := Value.int 512 322 }, { hash := PyData.keyHash P (Str.ofString "S_IRUSR"), key := Value.str (Str.ofString "S_IRUSR") 325, val := Value.int 256 324 }, { hash := PyData.keyHash P (Str.ofString "S_IWUSR"), key := Value.str (Str.ofString "S_IWUSR") 327, val := Value.int 128 326 }, { hash := PyData.keyHash P (Str.ofString "S_IXUSR"), key := Value.str (Str.ofString "S_IXUSR") 329, val := Value.int 64 328 }, { hash := PyData.keyHash P (Str.ofString "S_IRGRP"), key := Value.str (Str.ofString "S_IRGRP") 331, val := Value.int 32 330 }, { hash := PyData.keyHash P (Str.ofString "S_IWGRP"), key := Value.str (Str.ofString "S_IWGRP") 333, val := Value.int 16 332 }, { hash := PyData.keyHash P (Str.ofString "S_IXGRP"), key := Value.str (Str.ofString "S_IXGRP") 335, val := Value.int 8 334 }, { hash := PyData.keyHash P (Str.ofString "S_IROTH"), key := Value.str (Str.ofString "S_IROTH") 337, val := Value.int 4 336 }, { hash := PyData.keyHash P (Str.ofString "S_IWOTH"), key := Value.str (Str.ofString "S_IWOTH") 339, val := Value.int 2 338 }, { hash := PyData.keyHash P (Str.ofString "S_IXOTH"), key := Value.str (Str.ofString "S_IXOTH") 341, val := Value.int 1 340 }, { hash := PyData.keyHash P (Str.ofString "_filemode_table"), key := Value.str (Str.ofString "_filemode_table") 367, val := Value.ref 124 }, { hash := PyData.keyHash P (Str.ofString "filemode"), key := Value.str (Str.ofString "filemode") 379, val := Value.ref 131 }, { hash := PyData.keyHash P (Str.ofString "_law_links"), key := Value.str (Str.ofString "_law_links") 387, val := Value.ref 138 }, { hash := PyData.keyHash P (Str.ofString "_law_drawn"), key := Value.str (Str.ofString "_law_drawn") 393, val := Value.ref 143 }, { hash := PyData.keyHash P (Str.ofString "_law_rule"), key := Value.str (Str.ofString "_law_rule") 403, val := Value.ref 150 }, { hash := PyData.keyHash P (Str.ofString "_law_entry"), key := Value.str (Str.ofString "_law_entry") 414, val := Value.ref 157 }, { hash := PyData.keyHash P (Str.ofString "_law_heaped"), key := Value.str (Str.ofString "_law_heaped") 420, val := Value.ref 162 }, { hash := PyData.keyHash P (Str.ofString "_law_crawled"), key := Value.str (Str.ofString "_law_crawled") 435, val := Value.ref 169 }, { hash := PyData.keyHash P (Str.ofString "_law_walked"), key := Value.str (Str.ofString "_law_walked") 441, val := Value.ref 174 }, { hash := PyData.keyHash P (Str.ofString "law"), key := Value.str (Str.ofString "law") 447, val := Value.ref 179 }] 44 }) ::
  (nat_lit 27, { cls := Value.type "code", data := Data.fields #[Value.str (Str.ofString "__init__") 201, Value.str (Str.ofString "Entry.__init__") 202, Value.str (Str.ofString "/claim/cut.py") 203, Value.int 4 0, Value.int 1 0, Value.int 0 0, Value.int 0 0, Value.int 3 0, Value.ref 22, Value.bool true, Value.int 181 0, Value.ref 23, Value.none, Value.ref 24, Value.ref 25, Value.ref 26, Value.int 205 0, Value.int 4 0, Value.str (Str.ofString "/claim/cut.py") 206] }) ::
  (nat_lit 28, fnO (meth 0) (Str.ofString "Entry.__init__") (Value.str (Str.ofString "cpy313.urllib.robotparser") 187) (Value.ref 27)) ::
  (nat_lit 41, { cls := Value.type "code", data := Data.fields #[Value.str (Str.ofString "applies_to") 218, Value.str (Str.ofString "Entry.applies_to") 219, Value.str (Str.ofString "/claim/cut.py") 220, Value.int 27 0, Value.int 2 0, Value.int 0 0, Value.int 0 0, Value.int 3 0, Value.ref 36, Value.bool true, Value.int 181 0, Value.ref 37, Value.none, Value.ref 38, Value.ref 39, Value.ref 40, Value.int 224 0, Value.int 27 0, Value.str (Str.ofString "/claim/cut.py") 225] }) ::
  (nat_lit 42, fnO (meth 2) (Str.ofString "Entry.applies_to") (Value.str (Str.ofString "cpy313.urllib.robotparser") 187) (Value.ref 41)) ::
  (nat_lit 48, { cls := Value.type "code", data := Data.fields #[Value.str (Str.ofString "allowance") 227, Value.str (Str.ofString "Entry.allowance") 228, Value.str (Str.ofString "/claim/cut.py") 229, Value.int 38 0, Value.int 2 0, Value.int 0 0, Value.int 0 0, Value.int 3 0, Value.ref 43, Value.bool true, Value.int 181 0, Value.ref 44, Value.none, Value.ref 45, Value.ref 46, Value.ref 47, Value.int 236 0, Value.int 38 0, Value.str (Str.ofString "/claim/cut.py") 237] }) ::
  (nat_lit 49, fnO (meth 3) (Str.ofString "Entry.allowance") (Value.str (Str.ofString "cpy313.urllib.robotparser") 187) (Value.ref 48)) ::
  (nat_lit 51, { cls := Value.type "dict", data := Data.dict #[{ hash := PyData.keyHash P (Str.ofString "__module__"), key := Value.str (Str.ofString "__module__") 196, val := Value.str (Str.ofString "cpy313.urllib.robotparser") 187 }, { hash := PyData.keyHash P (Str.ofString "__firstlineno__"), key := Value.str (Str.ofString "__firstlineno__") 200, val := Value.int 2 199 }, { hash := PyData.keyHash P (Str.ofString "__init__"), key := Value.str (Str.ofString "__init__") 207, val := Value.ref 28 }, { hash := PyData.keyHash P (Str.ofString "__str__"), key := Value.str (Str.ofString "__str__") 217, val := Value.ref 35 }, { hash := PyData.keyHash P (Str.ofString "applies_to"), key := Value.str (Str.ofString "applies_to") 226, val := Value.ref 42 }, { hash := PyData.keyHash P (Str.ofString "allowance"), key := Value.str (Str.ofString "allowance") 238, val := Value.ref 49 }, { hash := PyData.keyHash P (Str.ofString "__static_attributes__"), key := Value.str (Str.ofString "__static_attributes__") 243, val := Value.ref 50 }, { hash := PyData.keyHash P (Str.ofString "__dict__"), key := Value.str (Str.ofString "__dict__") 245, val := Value.ref 53 }, { hash := PyData.keyHash P (Str.ofString "__weakref__"), key := Value.str (Str.ofString "__weakref__") 247, val := Value.ref 54 }, { hash := PyData.keyHash P (Str.ofString "__doc__"), key := Value.str (Str.ofString "__doc__") 248, val := Value.none }] 4 }) ::
  (nat_lit 52, { cls := Value.type "type", data := Data.cls { name := Str.ofString "Entry", bases := [Value.type "object"], mro := [Value.ref 52, Value.type "object"], ns := 51, qualname := Str.ofString "Entry" }, slots := #[none, none, some (Value.str (Str.ofString "Entry") 189), some (Value.str (Str.ofString "Entry") 197), some (Value.builtin "object.__new__"), some (Value.bool true)] }) ::
  (nat_lit 62, { cls := Value.type "code", data := Data.fields #[Value.str (Str.ofString "heappush") 253, Value.str (Str.ofString "heappush") 254, Value.str (Str.ofString "/claim/cut.py") 255, Value.int 51 0, Value.int 2 0, Value.int 0 0, Value.int 0 0, Value.int 3 0, Value.ref 57, Value.bool true, Value.int 181 0, Value.ref 58, Value.none, Value.ref 59, Value.ref 60, Value.ref 61, Value.int 258 0, Value.int 51 0, Value.str (Str.ofString "/claim/cut.py") 259] }) ::
  (nat_lit 63, fnO (stm 3) (Str.ofString "heappush") (Value.str (Str.ofString "cpy313.heapq") 251) (Value.ref 62)) ::
  (nat_lit 69, { cls := Value.type "code", data := Data.fields #[Value.str (Str.ofString "heappop") 261, Value.str (Str.ofString "heappop") 262, Value.str (Str.ofString "/claim/cut.py") 263, Value.int 54 0, Value.int 1 0, Value.int 0 0, Value.int 0 0, Value.int 3 0, Value.ref 64, Value.bool true, Value.int 181 0, Value.ref 65, Value.none, Value.ref 66, Value.ref 67, Value.ref 68, Value.int 267 0, Value.int 54 0, Value.str (Str.ofString "/claim/cut.py") 268] }) ::
  (nat_lit 70, fnO (stm 4) (Str.ofString "heappop") (Value.str (Str.ofString "cpy313.heapq") 251) (Value.ref 69)) ::
  (nat_lit 76, { cls := Value.type "code", data := Data.fields #[Value.str (Str.ofString "_siftdown") 270, Value.str (Str.ofString "_siftdown") 271, Value.str (Str.ofString "/claim/cut.py") 272, Value.int 62 0, Value.int 3 0, Value.int 0 0, Value.int 0 0, Value.int 3 0, Value.ref 71, Value.bool true, Value.int 181 0, Value.ref 72, Value.none, Value.ref 73, Value.ref 74, Value.ref 75, Value.int 279 0, Value.int 62 0, Value.str (Str.ofString "/claim/cut.py") 280] }) ::
  (nat_lit 77, fnO (stm 5) (Str.ofString "_siftdown") (Value.str (Str.ofString "cpy313.heapq") 251) (Value.ref 76)) ::
  (nat_lit 83, { cls := Value.type "code", data := Data.fields #[Value.str (Str.ofString "_siftup") 282, Value.str (Str.ofString "_siftup") 283, Value.str (Str.ofString "/claim/cut.py") 284, Value.int 73 0, Value.int 2 0, Value.int 0 0, Value.int 0 0, Value.int 3 0, Value.ref 78, Value.bool true, Value.int 181 0, Value.ref 79, Value.none, Value.ref 80, Value.ref 81, Value.ref 82, Value.int 292 0, Value.int 73 0, Value.str (Str.ofString "/claim/cut.py") 293] }) ::
  (nat_lit 84, fnO (stm 6) (Str.ofString "_siftup") (Value.str (Str.ofString "cpy313.heapq") 251) (Value.ref 83)) ::
  (nat_lit 90, { cls := Value.type "code", data := Data.fields #[Value.str (Str.ofString "S_IFMT") 297, Value.str (Str.ofString "S_IFMT") 298, Value.str (Str.ofString "/claim/cut.py") 299, Value.int 88 0, Value.int 1 0, Value.int 0 0, Value.int 0 0, Value.int 3 0, Value.ref 85, Value.bool true, Value.int 181 0, Value.ref 86, Value.none, Value.ref 87, Value.ref 88, Value.ref 89, Value.int 301 0, Value.int 88 0, Value.str (Str.ofString "/claim/cut.py") 302] }) ::
  (nat_lit 91, fnO (stm 8) (Str.ofString "S_IFMT") (Value.str (Str.ofString "cpy313.stat") 295) (Value.ref 90)) ::
  (nat_lit 92, { cls := Value.type "tuple", data := Data.seq #[Value.int 40960 314, Value.str (Str.ofString "l") 342] }) ::
  (nat_lit 93, { cls := Value.type "tuple", data := Data.seq #[Value.int 49152 316, Value.str (Str.ofString "s") 343] }) ::
  (nat_lit 94, { cls := Value.type "tuple", data := Data.seq #[Value.int 32768 310, Value.str (Str.ofString "-") 344] }) ::
  (nat_lit 95, { cls := Value.type "tuple", data := Data.seq #[Value.int 24576 308, Value.str (Str.ofString "b") 345] }) ::
  (nat_lit 96, { cls := Value.type "tuple", data := Data.seq #[Value.int 16384 304, Value.str (Str.ofString "d") 346] }) ::
  (nat_lit 97, { cls := Value.type "tuple", data := Data.seq #[Value.int 8192 306, Value.str (Str.ofString "c") 347] }) ::
  (nat_lit 98, { cls := Value.type "tuple", data := Data.seq #[Value.int 4096 312, Value.str (Str.ofString "p") 348] }) ::
  (nat_lit 99, { cls := Value.type "tuple", data := Data.seq #[Value.ref 92, Value.ref 93, Value.ref 94, Value.ref 95, Value.ref 96, Value.ref 97, Value.ref 98] }) ::
  (nat_lit 100, { cls := Value.type "tuple", data := Data.seq #[Value.int 256 324, Value.str (Str.ofString "r") 349] }) ::
  (nat_lit 101, { cls := Value.type "tuple", data := Data.seq #[Value.ref 100] }) ::
  (nat_lit 102, { cls := Value.type "tuple", data := Data.seq #[Value.int 128 326, Value.str (Str.ofString "w") 350] }) ::
  (nat_lit 103, { cls := Value.type "tuple", data := Data.seq #[Value.ref 102] }) ::
  (nat_lit 104, { cls := Value.type "tuple", data := Data.seq #[Value.int 2112 351, Value.str (Str.ofString "s") 352] }) ::
  (nat_lit 105, { cls := Value.type "tuple", data := Data.seq #[Value.int 2048 318, Value.str (Str.ofString "S") 353] }) ::
  (nat_lit 106, { cls := Value.type "tuple", data := Data.seq #[Value.int 64 328, Value.str (Str.ofString "x") 354] }) ::
  (nat_lit 107, { cls := Value.type "tuple", data := Data.seq #[Value.ref 104, Value.ref 105, Value.ref 106] }) ::
  (nat_lit 108, { cls := Value.type "tuple", data := Data.seq #[Value.int 32 330, Value.str (Str.ofString "r") 355] }) ::
  (nat_lit 109, { cls := Value.type "tuple", data := Data.seq #[Value.ref 108] }) ::
  (nat_lit 110, { cls := Value.type "tuple", data := Data.seq #[Value.int 16 332, Value.str (Str.ofString "w") 356] }) ::
  (nat_lit 111, { cls := Value.type "tuple", data := Data.seq #[Value.ref 110] }) ::
  (nat_lit 112, { cls := Value.type "tuple", data := Data.seq #[Value.int 1032 357, Value.str (Str.ofString "s") 358] }) ::
  (nat_lit 113, { cls := Value.type "tuple", data := Data.seq #[Value.int 1024 320, Value.str (Str.ofString "S") 359] }) ::
  (nat_lit 114, { cls := Value.type "tuple", data := Data.seq #[Value.int 8 334, Value.str (Str.ofString "x") 360] }) ::
  (nat_lit 115, { cls := Value.type "tuple", data := Data.seq #[Value.ref 112, Value.ref 113, Value.ref 114] }) ::
  (nat_lit 116, { cls := Value.type "tuple", data := Data.seq #[Value.int 4 336, Value.str (Str.ofString "r") 361] }) ::
  (nat_lit 117, { cls := Value.type "tuple", data := Data.seq #[Value.ref 116] }) ::
  (nat_lit 118, { cls := Value.type "tuple", data := Data.seq #[Value.int 2 338, Value.str (Str.ofString "w") 362] }) ::
  (nat_lit 119, { cls := Value.type "tuple", data := Data.seq #[Value.ref 118] }) ::
  (nat_lit 120, { cls := Value.type "tuple", data := Data.seq #[Value.int 513 363, Value.str (Str.ofString "t") 364] }) ::
  (nat_lit 121, { cls := Value.type "tuple", data := Data.seq #[Value.int 512 322, Value.str (Str.ofString "T") 365] }) ::
  (nat_lit 122, { cls := Value.type "tuple", data := Data.seq #[Value.int 1 340, Value.str (Str.ofString "x") 366] }) ::
  (nat_lit 123, { cls := Value.type "tuple", data := Data.seq #[Value.ref 120, Value.ref 121, Value.ref 122] }) ::
  (nat_lit 124, { cls := Value.type "tuple", data := Data.seq #[Value.ref 99, Value.ref 101, Value.ref 103, Value.ref 107, Value.ref 109, Value.ref 111, Value.ref 115, Value.ref 117, Value.ref 119, Value.ref 123] }) ::
  (nat_lit 130, { cls := Value.type "code", data := Data.fields #[Value.str (Str.ofString "filemode") 368, Value.str (Str.ofString "filemode") 369, Value.str (Str.ofString "/claim/cut.py") 370, Value.int 110 0, Value.int 1 0, Value.int 0 0, Value.int 0 0, Value.int 3 0, Value.ref 125, Value.bool true, Value.int 181 0, Value.ref 126, Value.none, Value.ref 127, Value.ref 128, Value.ref 129, Value.int 377 0, Value.int 110 0, Value.str (Str.ofString "/claim/cut.py") 378] }) ::
  (nat_lit 131, fnO (stm 29) (Str.ofString "filemode") (Value.str (Str.ofString "cpy313.stat") 295) (Value.ref 130)) ::
  (nat_lit 137, { cls := Value.type "code", data := Data.fields #[Value.str (Str.ofString "_law_links") 382, Value.str (Str.ofString "_law_links") 383, Value.str (Str.ofString "/claim/cut.py") 384, Value.int 128 0, Value.int 0 0, Value.int 0 0, Value.int 0 0, Value.int 3 0, Value.ref 132, Value.bool true, Value.int 181 0, Value.ref 133, Value.none, Value.ref 134, Value.ref 135, Value.ref 136, Value.int 385 0, Value.int 128 0, Value.str (Str.ofString "/claim/cut.py") 386] }) ::
  (nat_lit 138, fnO (stm 31) (Str.ofString "_law_links") (Value.str (Str.ofString "law_oy0154_01") 380) (Value.ref 137)) ::
  (nat_lit 142, { cls := Value.type "code", data := Data.fields #[Value.str (Str.ofString "_law_drawn") 388, Value.str (Str.ofString "_law_drawn") 389, Value.str (Str.ofString "/claim/cut.py") 390, Value.int 130 0, Value.int 1 0, Value.int 0 0, Value.int 0 0, Value.int 3 0, Value.ref 139, Value.bool true, Value.int 181 0, Value.ref 140, Value.none, Value.none, Value.none, Value.ref 141, Value.int 391 0, Value.int 130 0, Value.str (Str.ofString "/claim/cut.py") 392] }) ::
  (nat_lit 143, fnO (stm 32) (Str.ofString "_law_drawn") (Value.str (Str.ofString "law_oy0154_01") 380) (Value.ref 142)) ::
  (nat_lit 149, { cls := Value.type "code", data := Data.fields #[Value.str (Str.ofString "_law_rule") 394, Value.str (Str.ofString "_law_rule") 395, Value.str (Str.ofString "/claim/cut.py") 396, Value.int 144 0, Value.int 2 0, Value.int 0 0, Value.int 0 0, Value.int 3 0, Value.ref 144, Value.bool true, Value.int 181 0, Value.ref 145, Value.none, Value.ref 146, Value.ref 147, Value.ref 148, Value.int 401 0, Value.int 144 0, Value.str (Str.ofString "/claim/cut.py") 402] }) ::
  (nat_lit 150, fnO (stm 33) (Str.ofString "_law_rule") (Value.str (Str.ofString "law_oy0154_01") 380) (Value.ref 149)) ::
  (nat_lit 156, { cls := Value.type "code", data := Data.fields #[Value.str (Str.ofString "_law_entry") 404, Value.str (Str.ofString "_law_entry") 405, Value.str (Str.ofString "/claim/cut.py") 406, Value.int 149 0, Value.int 2 0, Value.int 0 0, Value.int 0 0, Value.int 3 0, Value.ref 151, Value.bool true, Value.int 181 0, Value.ref 152, Value.none, Value.ref 153, Value.ref 154, Value.ref 155, Value.int 412 0, Value.int 149 0, Value.str (Str.ofString "/claim/cut.py") 413] }) ::
  (nat_lit 157, fnO (stm 34) (Str.ofString "_law_entry") (Value.str (Str.ofString "law_oy0154_01") 380) (Value.ref 156)) ::
  (nat_lit 161, { cls := Value.type "code", data := Data.fields #[Value.str (Str.ofString "_law_heaped") 415, Value.str (Str.ofString "_law_heaped") 416, Value.str (Str.ofString "/claim/cut.py") 417, Value.int 157 0, Value.int 1 0, Value.int 0 0, Value.int 0 0, Value.int 3 0, Value.ref 158, Value.bool true, Value.int 181 0, Value.ref 159, Value.none, Value.none, Value.none, Value.ref 160, Value.int 418 0, Value.int 157 0, Value.str (Str.ofString "/claim/cut.py") 419] }) ::
  (nat_lit 162, fnO (stm 35) (Str.ofString "_law_heaped") (Value.str (Str.ofString "law_oy0154_01") 380) (Value.ref 161)) ::
  (nat_lit 168, { cls := Value.type "code", data := Data.fields #[Value.str (Str.ofString "_law_crawled") 421, Value.str (Str.ofString "_law_crawled") 422, Value.str (Str.ofString "/claim/cut.py") 423, Value.int 159 0, Value.int 2 0, Value.int 0 0, Value.int 0 0, Value.int 3 0, Value.ref 163, Value.bool true, Value.int 181 0, Value.ref 164, Value.none, Value.ref 165, Value.ref 166, Value.ref 167, Value.int 433 0, Value.int 159 0, Value.str (Str.ofString "/claim/cut.py") 434] }) ::
  (nat_lit 169, fnO (stm 36) (Str.ofString "_law_crawled") (Value.str (Str.ofString "law_oy0154_01") 380) (Value.ref 168)) ::
  (nat_lit 173, { cls := Value.type "code", data := Data.fields #[Value.str (Str.ofString "_law_walked") 436, Value.str (Str.ofString "_law_walked") 437, Value.str (Str.ofString "/claim/cut.py") 438, Value.int 182 0, Value.int 3 0, Value.int 0 0, Value.int 0 0, Value.int 3 0, Value.ref 170, Value.bool true, Value.int 181 0, Value.ref 171, Value.none, Value.none, Value.none, Value.ref 172, Value.int 439 0, Value.int 182 0, Value.str (Str.ofString "/claim/cut.py") 440] }) ::
  (nat_lit 174, fnO (stm 37) (Str.ofString "_law_walked") (Value.str (Str.ofString "law_oy0154_01") 380) (Value.ref 173)) ::
  (nat_lit 178, { cls := Value.type "code", data := Data.fields #[Value.str (Str.ofString "law") 442, Value.str (Str.ofString "law") 443, Value.str (Str.ofString "/claim/cut.py") 444, Value.int 200 0, Value.int 1 0, Value.int 0 0, Value.int 0 0, Value.int 3 0, Value.ref 175, Value.bool true, Value.int 181 0, Value.ref 176, Value.none, Value.none, Value.none, Value.ref 177, Value.int 445 0, Value.int 200 0, Value.str (Str.ofString "/claim/cut.py") 446] }) ::
  (nat_lit 179, fnO (stm 38) (Str.ofString "law") (Value.str (Str.ofString "law_oy0154_01") 380) (Value.ref 178)) :: []
set_option maxHeartbeats 4000000 in
noncomputable def heapK (P : Params) : Frag := by
  refine' (fun (a : Frag) (_ : a = kSpec P) => a) ((nat_lit 2, { cls := Value.none, data := Data.dict #[] }) ::
    (nat_lit 3, { cls := Value.type "dict", data := Data.dict #[{ hash := PyData.keyHash P (Str.ofString "__name__"), key := Value.str (Str.ofString "__name__") 165, val := Value.str (Str.ofString "law_oy0154_01") 380 }, { hash := PyData.keyHash P (Str.ofString "__doc__"), key := Value.str (Str.ofString "__doc__") 166, val := Value.none }, { hash := PyData.keyHash P (Str.ofString "__package__"), key := Value.str (Str.ofString "__package__") 167, val := Value.none }, { hash := PyData.keyHash P (Str.ofString "__loader__"), key := Value.str (Str.ofString "__loader__") 168, val := Value.builtin "__main__.__loader__#opaque" }, { hash := PyData.keyHash P (Str.ofString "__spec__"), key := Value.str (Str.ofString "__spec__") 169, val := Value.none }, { hash := PyData.keyHash P (Str.ofString "__annotations__"), key := Value.str (Str.ofString "__annotations__") 170, val := Value.ref 6 }, { hash := PyData.keyHash P (Str.ofString "__builtins__"), key := Value.str (Str.ofString "__builtins__") 171, val := Value.ref 4 }, { hash := PyData.keyHash P (Str.ofString "__file__"), key := Value.str (Str.ofString "__file__") 173, val := Value.str (Str.ofString "/claim/cut.py") 172 }, { hash := PyData.keyHash P (Str.ofString "__cached__"), key := Value.str (Str.ofString "__cached__") 174, val := Value.none }, { hash := PyData.keyHash P (Str.ofString "Entry"), key := Value.str (Str.ofString "Entry") 250, val := Value.ref 52 }, { hash := PyData.keyHash P (Str.ofString "heappush"), key := Value.str (Str.ofString "heappush") 260, val := Value.ref 63 }, { hash := PyData.keyHash P (Str.ofString "heappop"), key := Value.str (Str.ofString "heappop") 269, val := Value.ref 70 }, { hash := PyData.keyHash P (Str.ofString "_siftdown"), key := Value.str (Str.ofString "_siftdown") 281, val := Value.ref 77 }, { hash := PyData.keyHash P (Str.ofString "_siftup"), key := Value.str (Str.ofString "_siftup") 294, val := Value.ref 84 }, { hash := PyData.keyHash P (Str.ofString "S_IFMT"), key := Value.str (Str.ofString "S_IFMT") 303, val := Value.ref 91 }, { hash := PyData.keyHash P (Str.ofString "S_IFDIR"), key := Value.str (Str.ofString "S_IFDIR") 305, val := Value.int 16384 304 }, { hash := PyData.keyHash P (Str.ofString "S_IFCHR"), key := Value.str (Str.ofString "S_IFCHR") 307, val := Value.int 8192 306 }, { hash := PyData.keyHash P (Str.ofString "S_IFBLK"), key := Value.str (Str.ofString "S_IFBLK") 309, val := Value.int 24576 308 }, { hash := PyData.keyHash P (Str.ofString "S_IFREG"), key := Value.str (Str.ofString "S_IFREG") 311, val := Value.int 32768 310 }, { hash := PyData.keyHash P (Str.ofString "S_IFIFO"), key := Value.str (Str.ofString "S_IFIFO") 313, val := Value.int 4096 312 }, { hash := PyData.keyHash P (Str.ofString "S_IFLNK"), key := Value.str (Str.ofString "S_IFLNK") 315, val := Value.int 40960 314 }, { hash := PyData.keyHash P (Str.ofString "S_IFSOCK"), key := Value.str (Str.ofString "S_IFSOCK") 317, val := Value.int 49152 316 }, { hash := PyData.keyHash P (Str.ofString "S_ISUID"), key := Value.str (Str.ofString "S_ISUID") 319, val := Value.int 2048 318 }, { hash := PyData.keyHash P (Str.ofString "S_ISGID"), key := Value.str (Str.ofString "S_ISGID") 321, val := Value.int 1024 320 }, { hash := PyData.keyHash P (Str.ofString "S_ISVTX"), key := Value.str (Str.ofString "S_ISVTX") 323, val := Value.int 512 322 }, { hash := PyData.keyHash P (Str.ofString "S_IRUSR"), key := Value.str (Str.ofString "S_IRUSR") 325, val := Value.int 256 324 }, { hash := PyData.keyHash P (Str.ofString "S_IWUSR"), key := Value.str (Str.ofString "S_IWUSR") 327, val := Value.int 128 326 }, { hash := PyData.keyHash P (Str.ofString "S_IXUSR"), key := Value.str (Str.ofString "S_IXUSR") 329, val := Value.int 64 328 }, { hash := PyData.keyHash P (Str.ofString "S_IRGRP"), key := Value.str (Str.ofString "S_IRGRP") 331, val := Value.int 32 330 }, { hash := PyData.keyHash P (Str.ofString "S_IWGRP"), key := Value.str (Str.ofString "S_IWGRP") 333, val := Value.int 16 332 }, { hash := PyData.keyHash P (Str.ofString "S_IXGRP"), key := Value.str (Str.ofString "S_IXGRP") 335, val := Value.int 8 334 }, { hash := PyData.keyHash P (Str.ofString "S_IROTH"), key := Value.str (Str.ofString "S_IROTH") 337, val := Value.int 4 336 }, { hash := PyData.keyHash P (Str.ofString "S_IWOTH"), key := Value.str (Str.ofString "S_IWOTH") 339, val := Value.int 2 338 }, { hash := PyData.keyHash P (Str.ofString "S_IXOTH"), key := Value.str (Str.ofString "S_IXOTH") 341, val := Value.int 1 340 }, { hash := PyData.keyHash P (Str.ofString "_filemode_table"), key := Value.str (Str.ofString "_filemode_table") 367, val := Value.ref 124 }, { hash := PyData.keyHash P (Str.ofString "filemode"), key := Value.str (Str.ofString "filemode") 379, val := Value.ref 131 }, { hash := PyData.keyHash P (Str.ofString "_law_links"), key := Value.str (Str.ofString "_law_links") 387, val := Value.ref 138 }, { hash := PyData.keyHash P (Str.ofString "_law_drawn"), key := Value.str (Str.ofString "_law_drawn") 393, val := Value.ref 143 }, { hash := PyData.keyHash P (Str.ofString "_law_rule"), key := Value.str (Str.ofString "_law_rule") 403, val := Value.ref 150 }, { hash := PyData.keyHash P (Str.ofString "_law_entry"), key := Value.str (Str.ofString "_law_entry") 414, val := Value.ref 157 }, { hash := PyData.keyHash P (Str.ofString "_law_heaped"), key := Value.str (Str.ofString "_law_heaped") 420, val := Value.ref 162 }, { hash := PyData.keyHash P (Str.ofString "_law_crawled"), key := Value.str (Str.ofString "_law_crawled") 435, val := Value.ref 169 }, { hash := PyData.keyHash P (Str.ofString "_law_walked"), key := Value.str (Str.ofString "_law_walked") 441, val := Value.ref 174 }, { hash := PyData.keyHash P (Str.ofString "law"), key := Value.str (Str.ofString "law") 447, val := Value.ref 179 }] 44 }) ::
    (nat_lit 27, { cls := Value.type "code", data := Data.fields #[Value.str (Str.ofString "__init__") 201, Value.str (Str.ofString "Entry.__init__") 202, Value.str (Str.ofString "/claim/cut.py") 203, Value.int 4 0, Value.int 1 0, Value.int 0 0, Value.int 0 0, Value.int 3 0, Value.ref 22, Value.bool true, Value.int 181 0, Value.ref 23, Value.none, Value.ref 24, Value.ref 25, Value.ref 26, Value.int 205 0, Value.int 4 0, Value.str (Str.ofString "/claim/cut.py") 206] }) ::
    (nat_lit 28, ⟨.type "function", none, .func ⟨_, (Str.ofString "Entry.__init__"), _, .stmts _, _, 3, [], .none, .none, .none, (Value.str (Str.ofString "cpy313.urllib.robotparser") 187), none, (Value.ref 27), .none, 0⟩, #[]⟩) ::
    (nat_lit 41, { cls := Value.type "code", data := Data.fields #[Value.str (Str.ofString "applies_to") 218, Value.str (Str.ofString "Entry.applies_to") 219, Value.str (Str.ofString "/claim/cut.py") 220, Value.int 27 0, Value.int 2 0, Value.int 0 0, Value.int 0 0, Value.int 3 0, Value.ref 36, Value.bool true, Value.int 181 0, Value.ref 37, Value.none, Value.ref 38, Value.ref 39, Value.ref 40, Value.int 224 0, Value.int 27 0, Value.str (Str.ofString "/claim/cut.py") 225] }) ::
    (nat_lit 42, ⟨.type "function", none, .func ⟨_, (Str.ofString "Entry.applies_to"), _, .stmts _, _, 3, [], .none, .none, .none, (Value.str (Str.ofString "cpy313.urllib.robotparser") 187), none, (Value.ref 41), .none, 0⟩, #[]⟩) ::
    (nat_lit 48, { cls := Value.type "code", data := Data.fields #[Value.str (Str.ofString "allowance") 227, Value.str (Str.ofString "Entry.allowance") 228, Value.str (Str.ofString "/claim/cut.py") 229, Value.int 38 0, Value.int 2 0, Value.int 0 0, Value.int 0 0, Value.int 3 0, Value.ref 43, Value.bool true, Value.int 181 0, Value.ref 44, Value.none, Value.ref 45, Value.ref 46, Value.ref 47, Value.int 236 0, Value.int 38 0, Value.str (Str.ofString "/claim/cut.py") 237] }) ::
    (nat_lit 49, ⟨.type "function", none, .func ⟨_, (Str.ofString "Entry.allowance"), _, .stmts _, _, 3, [], .none, .none, .none, (Value.str (Str.ofString "cpy313.urllib.robotparser") 187), none, (Value.ref 48), .none, 0⟩, #[]⟩) ::
    (nat_lit 51, { cls := Value.type "dict", data := Data.dict #[{ hash := PyData.keyHash P (Str.ofString "__module__"), key := Value.str (Str.ofString "__module__") 196, val := Value.str (Str.ofString "cpy313.urllib.robotparser") 187 }, { hash := PyData.keyHash P (Str.ofString "__firstlineno__"), key := Value.str (Str.ofString "__firstlineno__") 200, val := Value.int 2 199 }, { hash := PyData.keyHash P (Str.ofString "__init__"), key := Value.str (Str.ofString "__init__") 207, val := Value.ref 28 }, { hash := PyData.keyHash P (Str.ofString "__str__"), key := Value.str (Str.ofString "__str__") 217, val := Value.ref 35 }, { hash := PyData.keyHash P (Str.ofString "applies_to"), key := Value.str (Str.ofString "applies_to") 226, val := Value.ref 42 }, { hash := PyData.keyHash P (Str.ofString "allowance"), key := Value.str (Str.ofString "allowance") 238, val := Value.ref 49 }, { hash := PyData.keyHash P (Str.ofString "__static_attributes__"), key := Value.str (Str.ofString "__static_attributes__") 243, val := Value.ref 50 }, { hash := PyData.keyHash P (Str.ofString "__dict__"), key := Value.str (Str.ofString "__dict__") 245, val := Value.ref 53 }, { hash := PyData.keyHash P (Str.ofString "__weakref__"), key := Value.str (Str.ofString "__weakref__") 247, val := Value.ref 54 }, { hash := PyData.keyHash P (Str.ofString "__doc__"), key := Value.str (Str.ofString "__doc__") 248, val := Value.none }] 4 }) ::
    (nat_lit 52, { cls := Value.type "type", data := Data.cls { name := Str.ofString "Entry", bases := [Value.type "object"], mro := [Value.ref 52, Value.type "object"], ns := 51, qualname := Str.ofString "Entry" }, slots := #[none, none, some (Value.str (Str.ofString "Entry") 189), some (Value.str (Str.ofString "Entry") 197), some (Value.builtin "object.__new__"), some (Value.bool true)] }) ::
    (nat_lit 62, { cls := Value.type "code", data := Data.fields #[Value.str (Str.ofString "heappush") 253, Value.str (Str.ofString "heappush") 254, Value.str (Str.ofString "/claim/cut.py") 255, Value.int 51 0, Value.int 2 0, Value.int 0 0, Value.int 0 0, Value.int 3 0, Value.ref 57, Value.bool true, Value.int 181 0, Value.ref 58, Value.none, Value.ref 59, Value.ref 60, Value.ref 61, Value.int 258 0, Value.int 51 0, Value.str (Str.ofString "/claim/cut.py") 259] }) ::
    (nat_lit 63, ⟨.type "function", none, .func ⟨_, (Str.ofString "heappush"), _, .stmts _, _, 3, [], .none, .none, .none, (Value.str (Str.ofString "cpy313.heapq") 251), none, (Value.ref 62), .none, 0⟩, #[]⟩) ::
    (nat_lit 69, { cls := Value.type "code", data := Data.fields #[Value.str (Str.ofString "heappop") 261, Value.str (Str.ofString "heappop") 262, Value.str (Str.ofString "/claim/cut.py") 263, Value.int 54 0, Value.int 1 0, Value.int 0 0, Value.int 0 0, Value.int 3 0, Value.ref 64, Value.bool true, Value.int 181 0, Value.ref 65, Value.none, Value.ref 66, Value.ref 67, Value.ref 68, Value.int 267 0, Value.int 54 0, Value.str (Str.ofString "/claim/cut.py") 268] }) ::
    (nat_lit 70, ⟨.type "function", none, .func ⟨_, (Str.ofString "heappop"), _, .stmts _, _, 3, [], .none, .none, .none, (Value.str (Str.ofString "cpy313.heapq") 251), none, (Value.ref 69), .none, 0⟩, #[]⟩) ::
    (nat_lit 76, { cls := Value.type "code", data := Data.fields #[Value.str (Str.ofString "_siftdown") 270, Value.str (Str.ofString "_siftdown") 271, Value.str (Str.ofString "/claim/cut.py") 272, Value.int 62 0, Value.int 3 0, Value.int 0 0, Value.int 0 0, Value.int 3 0, Value.ref 71, Value.bool true, Value.int 181 0, Value.ref 72, Value.none, Value.ref 73, Value.ref 74, Value.ref 75, Value.int 279 0, Value.int 62 0, Value.str (Str.ofString "/claim/cut.py") 280] }) ::
    (nat_lit 77, ⟨.type "function", none, .func ⟨_, (Str.ofString "_siftdown"), _, .stmts _, _, 3, [], .none, .none, .none, (Value.str (Str.ofString "cpy313.heapq") 251), none, (Value.ref 76), .none, 0⟩, #[]⟩) ::
    (nat_lit 83, { cls := Value.type "code", data := Data.fields #[Value.str (Str.ofString "_siftup") 282, Value.str (Str.ofString "_siftup") 283, Value.str (Str.ofString "/claim/cut.py") 284, Value.int 73 0, Value.int 2 0, Value.int 0 0, Value.int 0 0, Value.int 3 0, Value.ref 78, Value.bool true, Value.int 181 0, Value.ref 79, Value.none, Value.ref 80, Value.ref 81, Value.ref 82, Value.int 292 0, Value.int 73 0, Value.str (Str.ofString "/claim/cut.py") 293] }) ::
    (nat_lit 84, ⟨.type "function", none, .func ⟨_, (Str.ofString "_siftup"), _, .stmts _, _, 3, [], .none, .none, .none, (Value.str (Str.ofString "cpy313.heapq") 251), none, (Value.ref 83), .none, 0⟩, #[]⟩) ::
    (nat_lit 90, { cls := Value.type "code", data := Data.fields #[Value.str (Str.ofString "S_IFMT") 297, Value.str (Str.ofString "S_IFMT") 298, Value.str (Str.ofString "/claim/cut.py") 299, Value.int 88 0, Value.int 1 0, Value.int 0 0, Value.int 0 0, Value.int 3 0, Value.ref 85, Value.bool true, Value.int 181 0, Value.ref 86, Value.none, Value.ref 87, Value.ref 88, Value.ref 89, Value.int 301 0, Value.int 88 0, Value.str (Str.ofString "/claim/cut.py") 302] }) ::
    (nat_lit 91, ⟨.type "function", none, .func ⟨_, (Str.ofString "S_IFMT"), _, .stmts _, _, 3, [], .none, .none, .none, (Value.str (Str.ofString "cpy313.stat") 295), none, (Value.ref 90), .none, 0⟩, #[]⟩) ::
    (nat_lit 92, { cls := Value.type "tuple", data := Data.seq #[Value.int 40960 314, Value.str (Str.ofString "l") 342] }) ::
    (nat_lit 93, { cls := Value.type "tuple", data := Data.seq #[Value.int 49152 316, Value.str (Str.ofString "s") 343] }) ::
    (nat_lit 94, { cls := Value.type "tuple", data := Data.seq #[Value.int 32768 310, Value.str (Str.ofString "-") 344] }) ::
    (nat_lit 95, { cls := Value.type "tuple", data := Data.seq #[Value.int 24576 308, Value.str (Str.ofString "b") 345] }) ::
    (nat_lit 96, { cls := Value.type "tuple", data := Data.seq #[Value.int 16384 304, Value.str (Str.ofString "d") 346] }) ::
    (nat_lit 97, { cls := Value.type "tuple", data := Data.seq #[Value.int 8192 306, Value.str (Str.ofString "c") 347] }) ::
    (nat_lit 98, { cls := Value.type "tuple", data := Data.seq #[Value.int 4096 312, Value.str (Str.ofString "p") 348] }) ::
    (nat_lit 99, { cls := Value.type "tuple", data := Data.seq #[Value.ref 92, Value.ref 93, Value.ref 94, Value.ref 95, Value.ref 96, Value.ref 97, Value.ref 98] }) ::
    (nat_lit 100, { cls := Value.type "tuple", data := Data.seq #[Value.int 256 324, Value.str (Str.ofString "r") 349] }) ::
    (nat_lit 101, { cls := Value.type "tuple", data := Data.seq #[Value.ref 100] }) ::
    (nat_lit 102, { cls := Value.type "tuple", data := Data.seq #[Value.int 128 326, Value.str (Str.ofString "w") 350] }) ::
    (nat_lit 103, { cls := Value.type "tuple", data := Data.seq #[Value.ref 102] }) ::
    (nat_lit 104, { cls := Value.type "tuple", data := Data.seq #[Value.int 2112 351, Value.str (Str.ofString "s") 352] }) ::
    (nat_lit 105, { cls := Value.type "tuple", data := Data.seq #[Value.int 2048 318, Value.str (Str.ofString "S") 353] }) ::
    (nat_lit 106, { cls := Value.type "tuple", data := Data.seq #[Value.int 64 328, Value.str (Str.ofString "x") 354] }) ::
    (nat_lit 107, { cls := Value.type "tuple", data := Data.seq #[Value.ref 104, Value.ref 105, Value.ref 106] }) ::
    (nat_lit 108, { cls := Value.type "tuple", data := Data.seq #[Value.int 32 330, Value.str (Str.ofString "r") 355] }) ::
    (nat_lit 109, { cls := Value.type "tuple", data := Data.seq #[Value.ref 108] }) ::
    (nat_lit 110, { cls := Value.type "tuple", data := Data.seq #[Value.int 16 332, Value.str (Str.ofString "w") 356] }) ::
    (nat_lit 111, { cls := Value.type "tuple", data := Data.seq #[Value.ref 110] }) ::
    (nat_lit 112, { cls := Value.type "tuple", data := Data.seq #[Value.int 1032 357, Value.str (Str.ofString "s") 358] }) ::
    (nat_lit 113, { cls := Value.type "tuple", data := Data.seq #[Value.int 1024 320, Value.str (Str.ofString "S") 359] }) ::
    (nat_lit 114, { cls := Value.type "tuple", data := Data.seq #[Value.int 8 334, Value.str (Str.ofString "x") 360] }) ::
    (nat_lit 115, { cls := Value.type "tuple", data := Data.seq #[Value.ref 112, Value.ref 113, Value.ref 114] }) ::
    (nat_lit 116, { cls := Value.type "tuple", data := Data.seq #[Value.int 4 336, Value.str (Str.ofString "r") 361] }) ::
    (nat_lit 117, { cls := Value.type "tuple", data := Data.seq #[Value.ref 116] }) ::
    (nat_lit 118, { cls := Value.type "tuple", data := Data.seq #[Value.int 2 338, Value.str (Str.ofString "w") 362] }) ::
    (nat_lit 119, { cls := Value.type "tuple", data := Data.seq #[Value.ref 118] }) ::
    (nat_lit 120, { cls := Value.type "tuple", data := Data.seq #[Value.int 513 363, Value.str (Str.ofString "t") 364] }) ::
    (nat_lit 121, { cls := Value.type "tuple", data := Data.seq #[Value.int 512 322, Value.str (Str.ofString "T") 365] }) ::
    (nat_lit 122, { cls := Value.type "tuple", data := Data.seq #[Value.int 1 340, Value.str (Str.ofString "x") 366] }) ::
    (nat_lit 123, { cls := Value.type "tuple", data := Data.seq #[Value.ref 120, Value.ref 121, Value.ref 122] }) ::
    (nat_lit 124, { cls := Value.type "tuple", data := Data.seq #[Value.ref 99, Value.ref 101, Value.ref 103, Value.ref 107, Value.ref 109, Value.ref 111, Value.ref 115, Value.ref 117, Value.ref 119, Value.ref 123] }) ::
    (nat_lit 130, { cls := Value.type "code", data := Data.fields #[Value.str (Str.ofString "filemode") 368, Value.str (Str.ofString "filemode") 369, Value.str (Str.ofString "/claim/cut.py") 370, Value.int 110 0, Value.int 1 0, Value.int 0 0, Value.int 0 0, Value.int 3 0, Value.ref 125, Value.bool true, Value.int 181 0, Value.ref 126, Value.none, Value.ref 127, Value.ref 128, Value.ref 129, Value.int 377 0, Value.int 110 0, Value.str (Str.ofString "/claim/cut.py") 378] }) ::
    (nat_lit 131, ⟨.type "function", none, .func ⟨_, (Str.ofString "filemode"), _, .stmts _, _, 3, [], .none, .none, .none, (Value.str (Str.ofString "cpy313.stat") 295), none, (Value.ref 130), .none, 0⟩, #[]⟩) ::
    (nat_lit 137, { cls := Value.type "code", data := Data.fields #[Value.str (Str.ofString "_law_links") 382, Value.str (Str.ofString "_law_links") 383, Value.str (Str.ofString "/claim/cut.py") 384, Value.int 128 0, Value.int 0 0, Value.int 0 0, Value.int 0 0, Value.int 3 0, Value.ref 132, Value.bool true, Value.int 181 0, Value.ref 133, Value.none, Value.ref 134, Value.ref 135, Value.ref 136, Value.int 385 0, Value.int 128 0, Value.str (Str.ofString "/claim/cut.py") 386] }) ::
    (nat_lit 138, ⟨.type "function", none, .func ⟨_, (Str.ofString "_law_links"), _, .stmts _, _, 3, [], .none, .none, .none, (Value.str (Str.ofString "law_oy0154_01") 380), none, (Value.ref 137), .none, 0⟩, #[]⟩) ::
    (nat_lit 142, { cls := Value.type "code", data := Data.fields #[Value.str (Str.ofString "_law_drawn") 388, Value.str (Str.ofString "_law_drawn") 389, Value.str (Str.ofString "/claim/cut.py") 390, Value.int 130 0, Value.int 1 0, Value.int 0 0, Value.int 0 0, Value.int 3 0, Value.ref 139, Value.bool true, Value.int 181 0, Value.ref 140, Value.none, Value.none, Value.none, Value.ref 141, Value.int 391 0, Value.int 130 0, Value.str (Str.ofString "/claim/cut.py") 392] }) ::
    (nat_lit 143, ⟨.type "function", none, .func ⟨_, (Str.ofString "_law_drawn"), _, .stmts _, _, 3, [], .none, .none, .none, (Value.str (Str.ofString "law_oy0154_01") 380), none, (Value.ref 142), .none, 0⟩, #[]⟩) ::
    (nat_lit 149, { cls := Value.type "code", data := Data.fields #[Value.str (Str.ofString "_law_rule") 394, Value.str (Str.ofString "_law_rule") 395, Value.str (Str.ofString "/claim/cut.py") 396, Value.int 144 0, Value.int 2 0, Value.int 0 0, Value.int 0 0, Value.int 3 0, Value.ref 144, Value.bool true, Value.int 181 0, Value.ref 145, Value.none, Value.ref 146, Value.ref 147, Value.ref 148, Value.int 401 0, Value.int 144 0, Value.str (Str.ofString "/claim/cut.py") 402] }) ::
    (nat_lit 150, ⟨.type "function", none, .func ⟨_, (Str.ofString "_law_rule"), _, .stmts _, _, 3, [], .none, .none, .none, (Value.str (Str.ofString "law_oy0154_01") 380), none, (Value.ref 149), .none, 0⟩, #[]⟩) ::
    (nat_lit 156, { cls := Value.type "code", data := Data.fields #[Value.str (Str.ofString "_law_entry") 404, Value.str (Str.ofString "_law_entry") 405, Value.str (Str.ofString "/claim/cut.py") 406, Value.int 149 0, Value.int 2 0, Value.int 0 0, Value.int 0 0, Value.int 3 0, Value.ref 151, Value.bool true, Value.int 181 0, Value.ref 152, Value.none, Value.ref 153, Value.ref 154, Value.ref 155, Value.int 412 0, Value.int 149 0, Value.str (Str.ofString "/claim/cut.py") 413] }) ::
    (nat_lit 157, ⟨.type "function", none, .func ⟨_, (Str.ofString "_law_entry"), _, .stmts _, _, 3, [], .none, .none, .none, (Value.str (Str.ofString "law_oy0154_01") 380), none, (Value.ref 156), .none, 0⟩, #[]⟩) ::
    (nat_lit 161, { cls := Value.type "code", data := Data.fields #[Value.str (Str.ofString "_law_heaped") 415, Value.str (Str.ofString "_law_heaped") 416, Value.str (Str.ofString "/claim/cut.py") 417, Value.int 157 0, Value.int 1 0, Value.int 0 0, Value.int 0 0, Value.int 3 0, Value.ref 158, Value.bool true, Value.int 181 0, Value.ref 159, Value.none, Value.none, Value.none, Value.ref 160, Value.int 418 0, Value.int 157 0, Value.str (Str.ofString "/claim/cut.py") 419] }) ::
    (nat_lit 162, ⟨.type "function", none, .func ⟨_, (Str.ofString "_law_heaped"), _, .stmts _, _, 3, [], .none, .none, .none, (Value.str (Str.ofString "law_oy0154_01") 380), none, (Value.ref 161), .none, 0⟩, #[]⟩) ::
    (nat_lit 168, { cls := Value.type "code", data := Data.fields #[Value.str (Str.ofString "_law_crawled") 421, Value.str (Str.ofString "_law_crawled") 422, Value.str (Str.ofString "/claim/cut.py") 423, Value.int 159 0, Value.int 2 0, Value.int 0 0, Value.int 0 0, Value.int 3 0, Value.ref 163, Value.bool true, Value.int 181 0, Value.ref 164, Value.none, Value.ref 165, Value.ref 166, Value.ref 167, Value.int 433 0, Value.int 159 0, Value.str (Str.ofString "/claim/cut.py") 434] }) ::
    (nat_lit 169, ⟨.type "function", none, .func ⟨_, (Str.ofString "_law_crawled"), _, .stmts _, _, 3, [], .none, .none, .none, (Value.str (Str.ofString "law_oy0154_01") 380), none, (Value.ref 168), .none, 0⟩, #[]⟩) ::
    (nat_lit 173, { cls := Value.type "code", data := Data.fields #[Value.str (Str.ofString "_law_walked") 436, Value.str (Str.ofString "_law_walked") 437, Value.str (Str.ofString "/claim/cut.py") 438, Value.int 182 0, Value.int 3 0, Value.int 0 0, Value.int 0 0, Value.int 3 0, Value.ref 170, Value.bool true, Value.int 181 0, Value.ref 171, Value.none, Value.none, Value.none, Value.ref 172, Value.int 439 0, Value.int 182 0, Value.str (Str.ofString "/claim/cut.py") 440] }) ::
    (nat_lit 174, ⟨.type "function", none, .func ⟨_, (Str.ofString "_law_walked"), _, .stmts _, _, 3, [], .none, .none, .none, (Value.str (Str.ofString "law_oy0154_01") 380), none, (Value.ref 173), .none, 0⟩, #[]⟩) ::
    (nat_lit 178, { cls := Value.type "code", data := Data.fields #[Value.str (Str.ofString "law") 442, Value.str (Str.ofString "law") 443, Value.str (Str.ofString "/claim/cut.py") 444, Value.int 200 0, Value.int 1 0, Value.int 0 0, Value.int 0 0, Value.int 3 0, Value.ref 175, Value.bool true, Value.int 181 0, Value.ref 176, Value.none, Value.none, Value.none, Value.ref 177, Value.int 445 0, Value.int 200 0, Value.str (Str.ofString "/claim/cut.py") 446] }) ::
    (nat_lit 179, ⟨.type "function", none, .func ⟨_, (Str.ofString "law"), _, .stmts _, _, 3, [], .none, .none, .none, (Value.str (Str.ofString "law_oy0154_01") 380), none, (Value.ref 178), .none, 0⟩, #[]⟩) :: []) ?eqK
  case eqK => exact rfl
noncomputable def keepS : Stmt → Bool
  | .Assign [.Name x _] _ _ => x != Str.ofString "__name__"
  | _ => true
noncomputable def viewV : Program := { PySem.Challenge.pw_oy0154_01 with main := { PySem.Challenge.pw_oy0154_01.main with body := PySem.Challenge.pw_oy0154_01.main.body.filter keepS } }
noncomputable def adsK : List Addr := nat_lit 2 :: nat_lit 3 :: nat_lit 27 :: nat_lit 28 :: nat_lit 41 :: nat_lit 42 :: nat_lit 48 :: nat_lit 49 :: nat_lit 51 :: nat_lit 52 :: nat_lit 62 :: nat_lit 63 :: nat_lit 69 :: nat_lit 70 :: nat_lit 76 :: nat_lit 77 :: nat_lit 83 :: nat_lit 84 :: nat_lit 90 :: nat_lit 91 :: nat_lit 92 :: nat_lit 93 :: nat_lit 94 :: nat_lit 95 :: nat_lit 96 :: nat_lit 97 :: nat_lit 98 :: nat_lit 99 :: nat_lit 100 :: nat_lit 101 :: nat_lit 102 :: nat_lit 103 :: nat_lit 104 :: nat_lit 105 :: nat_lit 106 :: nat_lit 107 :: nat_lit 108 :: nat_lit 109 :: nat_lit 110 :: nat_lit 111 :: nat_lit 112 :: nat_lit 113 :: nat_lit 114 :: nat_lit 115 :: nat_lit 116 :: nat_lit 117 :: nat_lit 118 :: nat_lit 119 :: nat_lit 120 :: nat_lit 121 :: nat_lit 122 :: nat_lit 123 :: nat_lit 124 :: nat_lit 130 :: nat_lit 131 :: nat_lit 137 :: nat_lit 138 :: nat_lit 142 :: nat_lit 143 :: nat_lit 149 :: nat_lit 150 :: nat_lit 156 :: nat_lit 157 :: nat_lit 161 :: nat_lit 162 :: nat_lit 168 :: nat_lit 169 :: nat_lit 173 :: nat_lit 174 :: nat_lit 178 :: nat_lit 179 :: []
end Mine
end
section
open PySem PySem.W PyProof.Rows PySem.Calls PySem.Spec
namespace Mine
noncomputable def wrow (a : Int) (c : Nat) : WData := .tuple [.int a, .str ⟨#[c]⟩]
noncomputable def lvT : List (Str × WData) := [(Str.ofString "_filemode_table", .tuple [
  .tuple [wrow 40960 108, wrow 49152 115, wrow 32768 45, wrow 24576 98, wrow 16384 100, wrow 8192 99, wrow 4096 112],
  .tuple [wrow 256 114], .tuple [wrow 128 119], .tuple [wrow 2112 115, wrow 2048 83, wrow 64 120],
  .tuple [wrow 32 114], .tuple [wrow 16 119], .tuple [wrow 1032 115, wrow 1024 83, wrow 8 120],
  .tuple [wrow 4 114], .tuple [wrow 2 119], .tuple [wrow 513 116, wrow 512 84, wrow 1 120]])]
noncomputable def looseL : List Str := [Str.ofString "_filemode_table"]
theorem ads_ok (P : Params) : adsK = (heapK P).map (·.1) := by kernel_rfl
noncomputable abbrev hookK : Hook := kmHook heapK adsK ads_ok [145]
noncomputable abbrev rowR : OpenRow := PySem.Challenge.rw_oy0154_01.row
/-- the head's left side from the library's opening: what is left is the run of the text's top -/
theorem left_boot {p q : Program} {loose : List Str} {Xt : Shared → Bool} {α : Type} {Yf : Shared → α} {Ya : World → α} {N : Nat} {g0 : Bool}
    (e : opening p = plainProg p.main.scope.names) (hN : Nat.ble 600 N = true) (f : ∀ s, fenceModules? p s = some s)
    (top : ∀ (w : World) (os : OsState), (topFrom treeTable p w N ⟨boot_heap w.params, #[], boot_drawn, boot_toks, os⟩).map (fun s => (openSeen q loose (importedModules p.main.body) Xt g0 s, Yf s)) = some (openGood q loose, Ya w)) : LeftO p q loose Xt Yf Ya N g0 := fun w => by
  obtain ⟨⟨h, gs, d, k, os⟩, e1, e2⟩ := Option.map_eq_some_iff.mp (boot_open (N := N) e hN f w)
  simp only [Prod.mk.injEq] at e2
  obtain ⟨rfl, rfl, rfl, rfl⟩ := e2
  unfold openEnds
  rw [e1]
  exact top w os
theorem openP : opening rowR.prog = plainProg rowR.prog.main.scope.names := by kernel_rfl
theorem fenceP : ∀ s, fenceModules? rowR.prog s = some s := by intro s; kernel_rfl
-- the library's quick twins of topRun, treeTable, openSeen: the kernel's run of the text's top in half the time
theorem leftK : LeftO rowR.prog viewV looseL (fun s => xlAt viewV lvT s && recOk (RowW.records rowR.toRowW) s) (Hook.obs hookK) (Hook.val hookK) 2370 := by
  refine left_boot openP (by decide +kernel) fenceP ?_
  intro w os
  unfold topFrom
  rw [PySem.W.Fast.te14082659384304107361, PySem.W.Fast.te14364793385576792824, PySem.W.Fast.te4187177175401517315]
  kernel_rfl
-- the law's own looks, one kernel check each for the long ones
theorem roadP : looksOpen rowR.prog = true := by
  rw [PySem.W.Fast.te12908688711261696721]
  kernel_rfl
theorem partP : OpenRow.wellSaid PySem.Challenge.rw_oy0154_01.row = true := by
  unfold OpenRow.wellSaid OpenRow.partSaid
  rw [roadP]
  kernel_rfl
theorem saidK : OpenLaw.wellSaid PySem.Challenge.rw_oy0154_01 = true := by
  unfold OpenLaw.wellSaid
  rw [partP, PySem.W.Fast.te8326940854005059898, PySem.W.Fast.te17119622794617984870]
  kernel_rfl
end Mine
end
section
open PySem PySem.W PyProof.Rows PySem.Calls PySem.Spec
namespace Mine
theorem const_str {M : Model} {A : Around} {env : Env} {E : Value → Shared → Prop} {x : Str} {k : Nat} {pos : Pos} {Q : Value → Shared → Prop} {h : Heap} {g : Array GenState} {d : Drawn} {tk : Nat} {o : OsState} (H : Q (.str x tk) ⟨h, g, d, tk + 1, o⟩) : wpAny M A (eval (.Constant (.str x) k pos) env) Q E ⟨h, g, d, tk, o⟩ := Calls.Constant_str H
theorem const_int {M : Model} {A : Around} {env : Env} {E : Value → Shared → Prop} {x : Int} {k : Nat} {pos : Pos} {Q : Value → Shared → Prop} {h : Heap} {g : Array GenState} {d : Drawn} {tk : Nat} {o : OsState} (H : Q (.int x tk) ⟨h, g, d, tk + 1, o⟩) : wpAny M A (eval (.Constant (.int x) k pos) env) Q E ⟨h, g, d, tk, o⟩ := wpAny_Constant_int H
noncomputable abbrev tupO (t : Int) (u : Tok) (x : Str) (v : Tok) : Obj := { cls := .type "tuple", data := .seq #[.int t u, .str x v] }
noncomputable abbrev lstO (l : List Value) (n : Nat) : Obj := { cls := .type "list", data := .seq l.toArray n }
noncomputable def ltP (p q : Int × Str) : Bool := if p.1 = q.1 then decide (p.2.cps.toList < q.2.cps.toList) else decide (p.1 < q.1)
section
variable {prog : Program} {w : World} {A : Around} {E : Value → Shared → Prop} {s : Shared} {a b : Addr} {t0 t1 : Int} {u0 u1 v0 v1 : Tok} {x0 x1 : Str}
theorem tup_lt_tree {P : PySem.Fin → Shared → Prop} (ha : s.heap.get? a = some (tupO t0 u0 x0 v0)) (hb : s.heap.get? b = some (tupO t1 u1 x1 v1)) (h : P (.done (.ret (.bool (ltP (t0, x0) (t1, x1))))) s) :
    wpAny (model prog w) A (Builtin.«tuple.__lt__» ⟨[.ref a, .ref b], []⟩) P E s := by
  have hTb : s.TypeIs (.ref b) "tuple" := IsTup.typeIs ⟨_, hb, rfl, _, rfl⟩
  show wpAny _ _ (isInstance (.ref b) (.type "tuple") >>= _) _ _ s
  refine wpAny_bind (wpAny_isInstance hTb isSubtype_tuple_tuple ?_)
  simp only [Bool.not_true, Bool.false_eq_true, if_false]
  refine wpAny_bind (wpAny_tupleItemsOf ha rfl ?_)
  refine wpAny_bind (wpAny_tupleItemsOf hb rfl ?_)
  show wpAny _ _ (forIn [(Value.int t0 u0, Value.int t1 u1), (Value.str x0 v0, Value.str x1 v1)] _ _ >>= _) _ _ s
  rw [List.forIn_cons]
  refine wpAny_bind (wpAny_bind (wpAny_bind ((intKind prog w).eqBool (a := t0) (b := t1) (intKind_is prog w _ _) (intKind_is prog w _ _) ?_)))
  unfold ltP at h
  by_cases ht : t0 = t1
  · subst ht
    rw [if_pos rfl] at h
    simp only [decide_true, Bool.not_true, Bool.false_eq_true, if_false]
    refine wpAny_pure ?_
    dsimp only
    rw [List.forIn_cons]
    refine wpAny_bind (wpAny_bind ((strKind prog w).eqBool (a := x0) (b := x1) (strKind_is prog w _ _) (strKind_is prog w _ _) ?_))
    by_cases hx : x0 = x1
    · subst hx
      simp only [decide_true, Bool.not_true, Bool.false_eq_true, if_false]
      refine wpAny_pure ?_
      dsimp only
      rw [List.forIn_nil]
      refine wpAny_pure ?_
      dsimp only
      have e : decide (x0.cps.toList < x0.cps.toList) = false := by simp [List.lt_irrefl]
      rw [e] at h
      exact wpAny_pure h
    · simp only [decide_eq_false hx, Bool.not_false, if_true]
      refine wpAny_bind (wpAny_rule ?_)
      refine wpAny_bind (lt_str (x := x0) (y := x1) ?_)
      exact wpAny_bind (wpAny_pure (wpAny_pure (wpAny_pure (wpAny_pure h))))
  · rw [if_neg ht] at h
    simp only [decide_eq_false ht, Bool.not_false, if_true]
    refine wpAny_bind (wpAny_rule ?_)
    refine wpAny_bind (lt_int ?_)
    exact wpAny_bind (wpAny_pure (wpAny_pure (wpAny_pure (wpAny_pure h))))
theorem tup_lt {Q : Value → Shared → Prop} (hu : A.units < cLine) (ha : s.heap.get? a = some (tupO t0 u0 x0 v0)) (hb : s.heap.get? b = some (tupO t1 u1 x1 v1)) (h : Q (.bool (ltP (t0, x0) (t1, x1))) s) :
    wpAny (model prog w) A (compareOp .Lt (.ref a) (.ref b)) Q E s := by
  show wpAny (model prog w) A (richCompare .Lt (.ref a) (.ref b)) Q E s
  have hTa : s.TypeIs (.ref a) "tuple" := IsTup.typeIs ⟨_, ha, rfl, _, rfl⟩
  have hTb : s.TypeIs (.ref b) "tuple" := IsTup.typeIs ⟨_, hb, rfl, _, rfl⟩
  exact wpAny_richCompare_same_room (op := .Lt) hTa hTb F.slot_tuple_lt
      (wpAny_call_entry F.slot_tuple_lt hTa F.entry_tuple_lt (tup_lt_tree ha hb ⟨_, rfl, (fun e => nomatch e), h⟩) (F.args_tuple_lt_2 _ _)) hu
end
theorem if_f {α : Sort _} {b : Bool} {x y : α} (h : b = false) : (if b = true then x else y) = y := by subst h; rfl
/-- two lists, item by item -/
noncomputable def All2 {α β : Type} (P : α → β → Prop) : List α → List β → Prop
  | [], [] => True
  | a :: as, b :: bs => P a b ∧ All2 P as bs
  | _, _ => False
section
variable {α β : Type} {P Q : α → β → Prop}
theorem All2.ind {M : List α → List β → Prop} (h0 : M [] []) (h1 : ∀ a b as bs, P a b → All2 P as bs → M as bs → M (a :: as) (b :: bs)) {as : List α} : ∀ {bs : List β}, All2 P as bs → M as bs := by
  induction as with
  | nil =>
    intro bs h
    cases bs with
    | nil => exact h0
    | cons b bs => exact h.elim
  | cons a as ih =>
    intro bs h
    cases bs with
    | nil => exact h.elim
    | cons b bs => exact h1 a b as bs h.1 h.2 (ih h.2)
theorem All2.imp (hpq : ∀ a b, P a b → Q a b) {as : List α} {bs : List β} (h : All2 P as bs) : All2 Q as bs :=
  All2.ind (M := All2 Q) trivial (fun a b _ _ h _ ih => ⟨hpq a b h, ih⟩) h
theorem All2.length {as : List α} {bs : List β} (h : All2 P as bs) : as.length = bs.length :=
  All2.ind (P := P) (M := fun as bs => as.length = bs.length) rfl (fun _ _ _ _ _ _ ih => congrArg Nat.succ ih) h
theorem All2.app {as cs : List α} {bs ds : List β} (h : All2 P as bs) (hc : All2 P cs ds) : All2 P (as ++ cs) (bs ++ ds) :=
  All2.ind (M := fun as bs => All2 P (as ++ cs) (bs ++ ds)) hc (fun a b _ _ h _ ih => show P a b ∧ _ from ⟨h, ih⟩) h
theorem All2.snoc {as : List α} {bs : List β} {a : α} {b : β} (e : P a b) (h : All2 P as bs) : All2 P (as ++ [a]) (bs ++ [b]) :=
  h.app ⟨e, trivial⟩
theorem All2.get {as : List α} {bs : List β} (h : All2 P as bs) : ∀ {i : Nat} {a : α}, as[i]? = some a → ∃ b, bs[i]? = some b ∧ P a b := by
  refine All2.ind (M := fun as bs => ∀ {i : Nat} {a : α}, as[i]? = some a → ∃ b, bs[i]? = some b ∧ P a b) ?_ ?_ h
  · intro i a e
    exact nomatch e
  · intro a b as bs h1 _ ih i x e
    cases i with
    | zero => exact ⟨b, rfl, Option.some.inj e ▸ h1⟩
    | succ i => exact ih (i := i) e
theorem All2.at [Inhabited β] {as : List α} {bs : List β} (h : All2 P as bs) (i : Nat) (v : α) (e : as[i]? = some v) : i < bs.length ∧ P v (bs.getD i default) := by
  obtain ⟨b, hb, hp⟩ := h.get e
  refine ⟨(List.getElem?_eq_some_iff.mp hb).1, ?_⟩
  rw [List.getD_eq_getElem?_getD, hb]
  exact hp
theorem All2.nil_inv {as : List α} (h : All2 P as []) : as = [] := by
  cases as with
  | nil => rfl
  | cons => exact h.elim
theorem All2.cons_inv {as : List α} {b : β} {bs : List β} (h : All2 P as (b :: bs)) : ∃ a as', as = a :: as' ∧ P a b ∧ All2 P as' bs := by
  cases as with
  | nil => exact h.elim
  | cons a as => exact ⟨a, as, rfl, h.1, h.2⟩
theorem All2.reads {P : Value → β → Prop} {f : β → PyData} {h : Heap} (hr : ∀ v b, P v b → ∃ a, Reads h v (f b) a) {as : List Value} {bs : List β} (hp : All2 P as bs) : ∃ qs, ReadsAll h as (bs.map f) qs :=
  All2.ind (M := fun as bs => ∃ qs, ReadsAll h as (bs.map f) qs) ⟨_, ReadsAll.nil⟩ (fun a b _ _ h _ ih => let ⟨_, k⟩ := hr a b h; let ⟨_, q⟩ := ih; ⟨_, ReadsAll.cons k q⟩) hp
end

/-- the values are the pairs, by the ledger -/
noncomputable def Prs (news : List (Addr × Obj)) : List Value → List (Int × Str) → Prop :=
  All2 fun v p => ∃ a u x, v = .ref a ∧ (a, tupO p.1 u p.2 x) ∈ news
noncomputable def pushR : List (Int × Str) → Int × Str → List (Int × Str)
  | [], p => [p]
  | [p0], p => if ltP p p0 = true then [p, p0] else [p0, p]
  | [p0, p1], p => if ltP p p0 = true then [p, p1, p0] else [p0, p1, p]
  | [p0, p1, p2], p => if ltP p p1 = true then (if ltP p p0 = true then [p, p0, p2, p1] else [p0, p, p2, p1]) else [p0, p1, p2, p]
  | ps, p => ps ++ [p]
noncomputable def popR : List (Int × Str) → List (Int × Str)
  | [_, p1] => [p1]
  | [_, p1, p2] => if ltP p2 p1 = true then [p2, p1] else [p1, p2]
  | [_, p1, p2, p3] => if ltP p1 p2 = true then (if ltP p3 p1 = true then [p3, p1, p2] else [p1, p3, p2]) else (if ltP p3 p2 = true then [p3, p1, p2] else [p2, p1, p3])
  | _ => []
noncomputable def heapedB : List (Int × Str) → Bool
  | [p0, p1] => !ltP p1 p0
  | [p0, p1, p2] => !ltP p1 p0 && !ltP p2 p0
  | [p0, p1, p2, p3] => !ltP p1 p0 && (!ltP p2 p0 && !ltP p3 p1)
  | _ => true
theorem AllLt.mem {d : Nat} : ∀ {l : List (Addr × Obj)}, AllLt d l → ∀ p ∈ l, p.1 < d
  | [], _, _, h => nomatch h
  | _ :: _, x, p, h => by
    rcases List.mem_cons.mp h with rfl | h
    · exact x.1
    · exact AllLt.mem x.2 p h
theorem all_of_lt {c d : Nat} {l : List (Addr × Obj)} (h : AllLt c l) (hd : c ≤ d) : ∀ p ∈ l, p.1 ≠ d := fun p hp => Nat.ne_of_lt (Nat.lt_of_lt_of_le (AllLt.mem h p hp) hd)
end Mine
end
section
open PySem PySem.W PyProof.Rows PySem.Calls PySem.Spec
namespace Mine
open LCg (NsObj Off1 Off3 CompEnd lst fr_but news_but SrcAt CompRest ns_obj lst_snoc)
/-- the end of a turn of a dict's comprehension -/
noncomputable def DictEnd (prog : Program) (w : World) (h₀ : Heap) (L : Addr) (m : Str → Option Value) (s₁ : Shared) (I : Addr) (oI : Obj) (C : Addr) (oC : Obj) (D : Addr) (oD : Obj) (news : List (Addr × Obj)) (kvs : List (Str × Value)) (r : List (Str × Value) → Prop) (kv vv : Value) (s₂ : Shared) : Prop :=
  ∃ k h' tk, (strKind prog w).is k kv = true ∧ s₂ = { s₁ with heap := h', toks := tk } ∧ Fr h₀ L h' m ∧ News h₀ L h' ((I, oI) :: (C, oC) :: (D, oD) :: news) ∧ r (stored kvs k vv)
theorem DictEnd.intro {prog : Program} {w : World} {h₀ : Heap} {L : Addr} {m : Str → Option Value} {s₁ : Shared} {I : Addr} {oI : Obj} {C : Addr} {oC : Obj} {D : Addr} {oD : Obj} {news all : List (Addr × Obj)} {kvs : List (Str × Value)} {r : List (Str × Value) → Prop} {k : Str} {t : Tok} {vv : Value} {h' : Heap} {tk : Nat}
   (F : Fr h₀ L h' m) (N : News h₀ L h' all) (hs : ∀ q ∈ (I, oI) :: (C, oC) :: (D, oD) :: news, q ∈ all) (hr : r (stored kvs k vv)) : DictEnd prog w h₀ L m s₁ I oI C oC D oD news kvs r (.str k t) vv { s₁ with heap := h', toks := tk } :=
  ⟨k, h', tk, strKind_is _ _ _ _, rfl, F, fun q hq => N q (hs q hq), hr⟩
noncomputable def DictSrc (prog : Program) (w : World) (A : Around) (h₀ : Heap) (L : Addr) (m : Str → Option Value) (env : Env) (kx vx : Expr) (x : Str) (scope : Scope) (cl : List (Str × Addr)) (Q : Value → Shared → Prop) (xv : Value) (s₁ : Shared) : Prop :=
  ∃ ax its k news, ∃ J : Nat → List (Str × Value) → Prop, xv = .ref ax ∧ A.handled = none ∧ h₀.NoLimit ∧ Fr h₀ L s₁.heap m ∧ News h₀ L s₁.heap news ∧ its.size ≤ 1000 ∧ J 0 [] ∧ (∀ i kvs, J i kvs → kvs.length ≤ i) ∧ (ax, listOf its k) ∈ news ∧
    (∀ i v kvs (g : Heap) I oI C oC D oD m₂ h tk (E' : Value → Shared → Prop), its[i]? = some v → J i kvs → oD.IsDictOf (strKind prog w) kvs → NsObj oC m₂ → m₂ x = some v → Fr h₀ L h m → News h₀ L h ((I, oI) :: (C, oC) :: (D, oD) :: news) → Off3 I C D news → ((@Ne Nat I C) ∧ (@Ne Nat I D) ∧ (@Ne Nat C D)) →
      wpAny (model prog w) A (eval kx (compEnvC scope cl C env)) (fun kv s₄ => wpAny (model prog w) A (eval vx (compEnvC scope cl C env)) (DictEnd prog w h₀ L m { s₁ with heap := h, toks := tk } I oI C oC D oD news kvs (J (i + 1)) kv) E' s₄) E' { s₁ with heap := h, toks := tk }) ∧
    (∀ (g : Heap) D oD kvs h tk, J its.size kvs → oD.IsDictOf (strKind prog w) kvs → (D == sysModules) = false → Fr h₀ L h m → News h₀ L h ((D, oD) :: news) → Off1 D news → Q (.ref D) { s₁ with heap := h, toks := tk })
section
variable {prog : Program} {w : World} {A : Around} {E : Value → Shared → Prop} {s : Shared} {h₀ : Heap} {L : Addr} {m : Str → Option Value} {env : Env}
theorem comp_dict {kx vx iter : Expr} {x : Str} {px : Pos} {scope : Scope} {cl : List (Str × Addr)} {pos : Pos} {Q : Value → Shared → Prop} (F₀ : Fr h₀ L s.heap m)
    (hclos : closureFor scope env = pure cl) (hcell : ∀ y ∈ scope.names, y.2 ≠ .cell) (hkind : scope.kind = .function)
    (hnames : ∀ y ∈ scope.names, y.2 = .local → scope.names.lookup y.1 = some .local) (hx : scope.names.lookup x = some .local)
    (h : wpAny (model prog w) A (eval iter env) (DictSrc prog w A h₀ L m env kx vx x scope cl Q) E s)
    (hs : ∀ x, foldedSetIterable iter env x = pure x := by intro _; rfl) :
    wpAny (model prog w) A (eval (.DictComp kx vx [⟨.Name x px, iter, [], 0⟩] scope pos) env) Q E s := by
  rw [arm_eval_DictComp]
  refine wpAny_comprehension_free (use := none) rfl hs hclos hkind hnames (wpAny_mono h (fun xv s₁ h₁ => ?_) fun _ _ e => e)
  obtain ⟨ax, its, k₀, news, J, rfl, hh, hbig, F, N, hsz, hJ0, hJl, hmem, turn, fin⟩ := h₁
  have hax := N _ hmem
  have hl : s₁.heap.IsList ax its := ⟨_, hax.1, rfl, k₀, rfl⟩
  have hlt : ax < s₁.heap.objs.size := Heap.lt_size hax.1
  have hne : ax ≠ s₁.heap.objs.size := Nat.ne_of_lt hlt
  refine wpAny_pyIter_list hl ?_
  generalize hs₂ : ({ s₁ with heap := s₁.heap.push { cls := .type "list_iterator", data := .fields #[.ref ax, .int 0 0] } } : Shared) = s₂
  have hg : ∃ g, s₂ = { s₁ with heap := g } := ⟨_, hs₂.symm⟩
  have up : ∀ b o, s₁.heap.get? b = some o → s₂.heap.get? b = some o := fun b o e => by rw [← hs₂]; exact Heap.get?_push_of_some _ e
  have hI2 : s₂.heap.IsListIter s₁.heap.objs.size ax 0 := by rw [← hs₂]; exact ⟨_, Heap.get?_push_size _ rfl, rfl, rfl⟩
  have F2 : Fr h₀ L s₂.heap m := F.keeps up
  have N2 : News h₀ L s₂.heap news := N.grown up
  have hIL : s₁.heap.objs.size ≠ L := Nat.ne_of_gt F.ns.lt
  have hI₀ : h₀.get? s₁.heap.objs.size = none := next_is_new F
  have offI : ∀ p ∈ news, p.1 ≠ s₁.heap.objs.size := fun p hp => Nat.ne_of_lt (Heap.lt_size (N p hp).1)
  generalize hI : s₁.heap.objs.size = I at *
  refine wpAny_newObj_type (wpAny_newFunctionEnv hcell (by intro y hy; simp at hy) (fun h₁ hns₁ hsb₁ => ?_) hkind)
  dsimp only at hns₁ hsb₁ ⊢
  have hnew : (s₂.heap.push { cls := .type "dict", dict := none, data := .dict #[] }).DictOf (strKind prog w) s₂.heap.objs.size [] := Heap.DictOf.new s₂.heap
  generalize hH2 : s₂.heap.push { cls := .type "dict", dict := none, data := .dict #[] } = H2 at hns₁ hsb₁ hnew ⊢
  have hC : H2.objs.size = s₂.heap.objs.size + 1 := by rw [← hH2, Heap.size_push]
  have hDC : s₂.heap.objs.size ≠ H2.objs.size := by rw [hC]; exact Nat.ne_of_lt (Nat.lt_succ_self _)
  have below : ∀ b, b < s₂.heap.objs.size → b ≠ H2.objs.size ∧ b ≠ s₂.heap.objs.size := fun b hb => ⟨by rw [hC]; exact Nat.ne_of_lt (Nat.lt_succ_of_lt hb), Nat.ne_of_lt hb⟩
  have old : ∀ b o, s₂.heap.get? b = some o → h₁.get? b = some o := fun b o e => hsb₁.extBut b o (below b (Heap.lt_size e)).1 (Heap.get?_push_of_some _ (hH2 ▸ Heap.get?_push_of_some _ e))
  have hacc : h₁.DictOf (strKind prog w) s₂.heap.objs.size [] := hnew.at fun o e => hsb₁.extBut _ _ hDC (Heap.get?_push_of_some _ e)
  have fresh₀ : ∀ a, s₂.heap.objs.size ≤ a → h₀.get? a = none := fun a ha => by
    cases e : h₀.get? a with
    | none => rfl
    | some o' => exact absurd (Heap.lt_size (F2.keep a o' e)) (Nat.not_lt.mpr ha)
  have hD₀ : h₀.get? s₂.heap.objs.size = none := fresh₀ _ (Nat.le_refl _)
  have hC₀ : h₀.get? H2.objs.size = none := fresh₀ _ (by rw [hC]; exact Nat.le_succ _)
  have hLlt : L < s₂.heap.objs.size := F2.ns.lt
  have hDL : s₂.heap.objs.size ≠ L := Ne.symm (below L hLlt).2
  have hCL : H2.objs.size ≠ L := Ne.symm (below L hLlt).1
  have hIlt : I < s₂.heap.objs.size := by obtain ⟨_, e, _⟩ := hI2; exact Heap.lt_size e
  have hCI : I ≠ H2.objs.size := (below I hIlt).1
  have hDI : I ≠ s₂.heap.objs.size := (below I hIlt).2
  have hDm : (s₂.heap.objs.size == sysModules) = false := F2.notModules (modules_low hbig)
  have off₀ : Off3 I H2.objs.size s₂.heap.objs.size news := Off3.of fun p hp => ⟨offI p hp, (below _ (Heap.lt_size (N2 p hp).1)).1, (below _ (Heap.lt_size (N2 p hp).1)).2⟩
  have off3 := off₀.mem
  have loop : ∀ s₃ : Shared, s₃ = { s₂ with heap := h₁, toks := s₂.toks + ([] : List (Str × Value)).length } →
      codeAny (model prog w) A (.compLoop (.DictComp kx vx [⟨.Name x px, iter, [], 0⟩] scope pos) 0 (.ref I) (.ref s₂.heap.objs.size) (compEnvC scope cl H2.objs.size env))
        (compPost (model prog w) A E none Q (.ref s₂.heap.objs.size) H2.objs.size) s₃ := by
    rintro s₃ rfl
    refine codeAny_compLoop_testsD
      (fun k s' => ∃ h' tk i kvs oD m', s' = { s₂ with heap := h', toks := tk } ∧ i ≤ its.size ∧ k = its.size + 1 - i ∧ h'.IsListIter I ax i ∧ Fr h₀ L h' m ∧ h'.Ns H2.objs.size m' ∧ News h₀ L h' ((s₂.heap.objs.size, oD) :: news) ∧
        oD.IsDictOf (strKind prog w) kvs ∧ J i kvs) ?_ (its.size + 1) ?_
    · rintro k s' ⟨h', tk, i, kvs, oD, m', rfl, hi, rfl, hst', F', hn', N', hD', hJ'⟩
      have hl' : h'.IsList ax its := ⟨_, (N' _ (List.mem_cons_of_mem _ hmem)).1, rfl, k₀, rfl⟩
      have Wk := Walks.list (prog := prog) (w := w) hh I ax hne its
      by_cases hlti : i < its.size
      · refine Wk.item i _ _ _ hlti ⟨hst', hl'⟩ fun v h₂ tk₂ hPv hst₂ hk₂ => ?_
        have N₂ : News h₀ L h₂ ((s₂.heap.objs.size, oD) :: news) := news_but N' hk₂ fun p hp => by
          rcases List.mem_cons.mp hp with rfl | hp
          · exact Ne.symm hDI
          · exact (off3 p hp).1
        refine wpAny_assign_Name (wpAny_storeName_local (lookup_relabel_local hx) (hn'.at' fun o e => hk₂ _ o (by simpa using Ne.symm hCI) e) (fun h₃ hn₃ hs₃ => ?_) (by simp [compEnvC, relabel, hkind]))
        rw [List.forIn_nil]
        refine wpAny_pure ?_
        simp only [if_true]
        have old3 : ∀ b o, b ≠ H2.objs.size → h₂.get? b = some o → h₃.get? b = some o := fun b o hb e => hs₃.extBut b o hb e
        have hst₃ : h₃.IsListIter I ax (i + 1) := hst₂.1.at fun o e => old3 _ o hCI e
        obtain ⟨oI, heI, hcI, hdI⟩ := id hst₃
        obtain ⟨oC, heC, hoC⟩ := ns_obj hn₃
        have F₃ : Fr h₀ L h₃ m := (fr_but F' hk₂ (Ne.symm hIL) hI₀).change hs₃ hCL hC₀
        have N₃ : News h₀ L h₃ ((I, oI) :: (H2.objs.size, oC) :: (s₂.heap.objs.size, oD) :: news) := fun p hp => by
          rcases List.mem_cons.mp hp with rfl | hp
          · exact ⟨heI, hIL, hI₀⟩
          · rcases List.mem_cons.mp hp with rfl | hp
            · exact ⟨heC, hCL, hC₀⟩
            · have z := N₂ p hp
              refine ⟨old3 _ _ ?_ z.1, z.2⟩
              rcases List.mem_cons.mp hp with rfl | hp
              · exact hDC
              · exact (off3 p hp).2.1
        obtain ⟨g, hg⟩ := hg
        subst hg
        refine wpAny_mono (turn i v kvs g I oI H2.objs.size oC _ oD _ h₃ _ _ hPv hJ' hD' hoC (by simp) F₃ N₃ off₀ ⟨hCI, hDI, Ne.symm hDC⟩) (fun kv s₄ h₄ => wpAny_mono h₄ (fun vv s₅ h₅ => ?_) fun _ _ e => e) fun _ _ e => e
        obtain ⟨kk, h₆, tk₆, hkk, rfl, F₆, N₆, J₆⟩ := h₅
        have zI := (N₆ (I, oI) List.mem_cons_self).1
        have zC := (N₆ (H2.objs.size, oC) (List.mem_cons_of_mem _ List.mem_cons_self)).1
        have zD := (N₆ (_, oD) (List.mem_cons_of_mem _ (List.mem_cons_of_mem _ List.mem_cons_self))).1
        have hlen := hJl _ _ hJ'
        refine wpAny_dictSet_pairs (hsz := by rw [PySem.sizeLine_eq]; omega) hkk (Heap.dictOf_iff.mpr ⟨oD, zD, hD'⟩) fun h₇ hl₇ hs₇ => ?_
        obtain ⟨oD', zD', hD''⟩ := Heap.dictOf_iff.mp hl₇
        refine ⟨its.size + 1 - (i + 1), by omega, h₇, _, i + 1, _, oD', _, rfl, hlti, rfl, ⟨oI, hs₇.extBut _ _ hDI zI, hcI, hdI⟩, F₆.change hs₇ hDL hD₀, (hoC.ns zC).sameBut hs₇ (Ne.symm hDC), fun p hp => ?_, hD'', J₆⟩
        rcases List.mem_cons.mp hp with rfl | hp
        · exact ⟨zD', hDL, hD₀⟩
        · have z := N₆ p (List.mem_cons_of_mem _ (List.mem_cons_of_mem _ (List.mem_cons_of_mem _ hp)))
          exact ⟨hs₇.extBut _ _ (off3 p hp).2.2 z.1, z.2⟩
      · obtain rfl : i = its.size := Nat.le_antisymm hi (Nat.not_lt.mp hlti)
        refine Wk.done _ _ _ ⟨hst', hl'⟩ fun h₂ tk₂ hk₂ => ?_
        have F₂ := fr_but F' hk₂ (Ne.symm hIL) hI₀
        have N₂ : News h₀ L h₂ ((s₂.heap.objs.size, oD) :: news) := news_but N' hk₂ fun p hp => by
          rcases List.mem_cons.mp hp with rfl | hp
          · exact Ne.symm hDI
          · exact (off3 p hp).1
        refine ⟨m', hn'.at' fun o e => hk₂ _ o (by simpa using Ne.symm hCI) e, fun h'' hs'' => ?_⟩
        obtain ⟨g, hg⟩ := hg
        subst hg
        refine fin g _ oD kvs h'' _ hJ' hD' hDm (F₂.change hs'' hCL hC₀) (fun p hp => ?_) off₀.one
        have z : h₂.get? p.1 = some p.2 := (N₂ p hp).1
        refine ⟨hs''.extBut _ _ ?_ z, (N₂ p hp).2⟩
        rcases List.mem_cons.mp hp with rfl | hp
        · exact hDC
        · exact (off3 p hp).2.1
    · obtain ⟨oD, zD, hD'⟩ := Heap.dictOf_iff.mp hacc
      refine ⟨h₁, _, 0, [], oD, _, rfl, Nat.zero_le _, rfl, hI2.at fun o e => old _ o e, F2.keeps old, hns₁, fun p hp => ?_, hD', hJ0⟩
      rcases List.mem_cons.mp hp with rfl | hp
      · exact ⟨zD, hDL, hD₀⟩
      · exact ⟨old _ _ (N2 p hp).1, (N2 p hp).2⟩
  exact codeAny_compStart_dict (loop _ rfl) ((Walks.list (prog := prog) (w := w) hh I ax hne its).self 0 _ _ _ ⟨hI2.at fun o e => old _ o e, (show h₁.IsList ax its from ⟨_, old _ _ (N2 _ hmem).1, rfl, k₀, rfl⟩)⟩ (loop _ rfl))
end
end Mine
end
section
open PySem PySem.W PyProof.Rows PySem.Calls PySem.Spec Builtin Builtin.ObjectAttr
namespace Mine
theorem store_function : StoreFacts "function" [.type "function", .type "object"] "object.__setattr__" "object" where
  mro := by kernel_rfl
  slot := .of (owner := "object") (n := "__setattr__") (by rw [typeLookup_type, builtinLookup_eq_fast]; kernel_rfl) (by decide +kernel) (by decide +kernel) (by decide +kernel)
    (by first | exact .inl (by decide +kernel) | exact .inr (by decide +kernel)) (by rw [isSubtype_type]; kernel_rfl)
  entry := F.entry_object_sa
  kind := by decide +kernel
  split := by decide +kernel
  hasOwner := by decide +kernel
  args := fun a b c => by unfold argsOk; kernel_rfl
  passes := fun self => by kernel_rfl
theorem look_ap : typeLookup (.type "function") (Str.ofString "applies_to") = pure none := by rw [typeLookup_type, builtinLookup_eq_fast]; kernel_rfl
theorem look_al : typeLookup (.type "function") (Str.ofString "allowance") = pure none := by rw [typeLookup_type, builtinLookup_eq_fast]; kernel_rfl
section
variable {prog : Program} {w : World} {A : Around} {E : Value → Shared → Prop} {s : Shared} {h₀ : Heap} {L x dx : Addr} {m : Str → Option Value} {pre post news : List (Addr × Obj)} {es es' : List DictEntry} {n n' : Nat} {name : Str} {v : Value} {ox : Obj} {tk : Tok}
theorem fn_set_open {Q : Unit → Shared → Prop} (hx : s.heap.get? x = some ox) (hc : ox.cls = .type "function") (hl : typeLookup (.type "function") name = pure none)
    (h : wpAny (model prog w) A.in1 (ownDictForStores (.ref x) >>= fun r => match r with | some d => storeInDict d (.str name s.toks) name v | none => noDictFor (.ref x) (.type "function") name false) (fun fin s' => ∃ v', fin = .done (.ret v') ∧ Q () s') E { s with toks := s.toks + 1 }) :
    wpAny (model prog w) A (setAttr (.ref x) name v) Q E s := by
  have hT : Shared.TypeIs { s with toks := s.toks + 1 } (.ref x) "function" := ⟨ox, hx, hc⟩
  have SF := store_function
  refine wpAny_bind (wpAny_mkText (wpAny_bind (wpAny_callSpecial?_slot hT SF.slot ?_)))
  refine wpAny_call_entry SF.slot hT SF.entry ?_ (SF.args _ _ _)
  have hT' : Looks (model prog w) ({ s with toks := s.toks + 1 } : Shared).heap (typeOf (.ref x)) (.type "function") := hc ▸ (Looks.ld (part := none) hx).andThen .now
  rw [osa_eq, refuse_eq]
  refine wpAny_bind (wpAny_bind (hT'.here ?_))
  rw [SF.mro]
  refine wpAny_bind (wpAny_pure ?_)
  rw [SF.passes]
  refine wpAny_pure (wpAny_bind (hT'.here ?_))
  rw [hl]
  refine wpAny_bind (wpAny_pure (wpAny_bind (wpAny_pure ?_)))
  exact wpAny_bind (wpAny_pure (wpAny_mono h (fun fin s' ⟨v', e, q⟩ => ⟨v', e, wpAny_pure q⟩) fun _ _ z => z))
theorem fn_store {P : PySem.Fin → Shared → Prop} (F : Fr h₀ L s.heap m) (N : News h₀ L s.heap (pre ++ (dx, dictOf es n) :: post)) (h1 : ∀ p ∈ pre, p.1 ≠ dx) (h2 : ∀ p ∈ post, p.1 ≠ dx)
    (hl : (getL name es).isSome = true) (e : (putL name (PyData.keyHash w.params name) (.str name s.toks) v es, putN name es n) = (es', n')) (hz : es'.length ≤ 1000)
    (h : ∀ h', Fr h₀ L h' m → News h₀ L h' (pre ++ (dx, dictOf es' n') :: post) → P (.done (.ret .none)) { s with heap := h', toks := s.toks + 1 }) :
    wpAny (model prog w) A (storeInDict dx (.str name tk) name v) P E s := by
  obtain ⟨e1, e2⟩ := Prod.mk.inj e
  have ep : Obj.putName name (PyData.keyHash w.params name) (.str name s.toks) v (dictOf es n) = dictOf es' n' := by rw [putName_dict, e1, e2]
  obtain ⟨U1, U2⟩ := news_upd (f := Obj.putName name (PyData.keyHash w.params name) (.str name s.toks) v) F N h1 h2 ep rfl
  have D := (N (dx, dictOf es n) (by simp)).1
  have D' := (U2 (dx, dictOf es' n') (by simp)).1
  refine wpAny_bind (wpAny_pure (wpAny_bind ?_))
  unfold nsSet
  refine wpAny_bind (wpAny_bind (wpAny_askSetting (wpAny_pure (wpAny_bind (wpAny_mkText (wpAny_bind (wpAny_loadPart D ?_)))))))
  dsimp only
  have c : (!es.toArray.any (·.key.isStr name) && es.toArray.any (·.refKey)) = false := by
    rw [List.any_toArray, List.any_toArray]
    unfold getL at hl
    split at hl
    · rename_i en he
      rw [List.any_eq_true.mpr ⟨en, List.mem_of_find?_eq_some he, List.find?_some he⟩]; rfl
    · split at hl
      · cases hl
      · rename_i z; rw [Bool.not_eq_true] at z; rw [z, Bool.and_false]
  rw [aRefKeyMayBeTheName_at, c]
  refine wpAny_updatePart D ?_
  refine wpAny_bind (wpAny_lookBehind D' (pastItsLine_dict (by rw [List.size_toArray, sizeLine_eq]; omega)) ?_)
  exact wpAny_pure (h _ U1 U2)
noncomputable abbrev fnD (ox : Obj) (dx : Addr) : Obj := { ox with dict := some dx }
theorem fn_set_dict {Q : Unit → Shared → Prop} (F : Fr h₀ L s.heap m) (N : News h₀ L s.heap news) (hm : (x, ox) ∈ news) (hc : ox.cls = .type "function") (hd : ox.dict = some dx) (_hm2 : (dx, dictOf es n) ∈ news) (hl : typeLookup (.type "function") name = pure none)
    (hg : (getL name es).isSome = true) (e : (putL name (PyData.keyHash w.params name) (.str name (s.toks + 1)) v es, putN name es n) = (es', n')) (U : Upd dx (dictOf es n) (dictOf es' n') news post) (hz : es'.length ≤ 1000)
    (h : ∀ h', Fr h₀ L h' m → News h₀ L h' post → Q () { s with heap := h', toks := s.toks + 2 }) : wpAny (model prog w) A (setAttr (.ref x) name v) Q E s := by
  have hx := (N _ hm).1
  refine fn_set_open hx hc hl (wpAny_bind ?_)
  obtain ⟨a, b, rfl, rfl, h1, h2⟩ := U.split
  obtain ⟨oc, od, oda, osl⟩ := ox
  dsimp only at hc hd
  subst hc hd
  refine wpAny_bind (wpAny_loadPart hx (wpAny_pure ?_))
  exact fn_store (s := { s with toks := s.toks + 1 }) F N h1 h2 hg e hz fun h' F' N' => ⟨_, rfl, h h' F' N'⟩
theorem fn_has : typeHasDict (.type "function") = true := by kernel_rfl
theorem fn_set_new {Q : Unit → Shared → Prop} {g : Obj → List (Addr × Obj)} {fd : FuncData} {sl : Array (Option Value)} (F : Fr h₀ L s.heap m) (N : News h₀ L s.heap news) (U : UpdF x ⟨.type "function", none, .func fd, sl⟩ news g) (hl : typeLookup (.type "function") name = pure none)
    (h : ∀ d h', Fr h₀ L h' m → News h₀ L h' ((d, dictOf [⟨PyData.keyHash w.params name, .str name (s.toks + 1), v⟩] 1) :: g ⟨.type "function", some d, .func fd, sl⟩) → (∀ q ∈ news, q.1 < d) → Q () { s with heap := h', toks := s.toks + 2 }) :
    wpAny (model prog w) A (setAttr (.ref x) name v) Q E s := by
  obtain ⟨a, b, rfl, hg, h1, h2⟩ := U.split
  have hm : (x, (⟨.type "function", none, .func fd, sl⟩ : Obj)) ∈ a ++ (x, ⟨.type "function", none, .func fd, sl⟩) :: b := by simp
  have hx := (N _ hm).1
  have hlt : ∀ q ∈ a ++ (x, (⟨.type "function", none, .func fd, sl⟩ : Obj)) :: b, q.1 < s.heap.objs.size := fun q hq => Heap.lt_size (N q hq).1
  refine fn_set_open hx rfl hl (wpAny_bind ?_)
  refine wpAny_bind (wpAny_loadPart hx ?_)
  dsimp only
  rw [fn_has]
  simp only [Bool.not_true, Bool.or_self, Bool.false_eq_true, if_false]
  refine wpAny_bind (wpAny_alloc ?_)
  have F1 := F.push (dictOf [] 0)
  have N1 : News h₀ L (s.heap.push (dictOf [] 0)) (((s.heap.objs.size, dictOf [] 0) :: a) ++ (x, (⟨.type "function", none, .func fd, sl⟩ : Obj)) :: b) := N.push F (dictOf [] 0)
  obtain ⟨F2, N2⟩ := news_upd (f := fun o => { o with dict := some s.heap.objs.size }) F1 N1 (by
    intro q hq
    rcases List.mem_cons.mp hq with rfl | hq
    · exact Nat.ne_of_gt (hlt _ hm)
    · exact h1 q hq) h2 rfl rfl
  have hx1 : (s.heap.push (dictOf [] 0)).get? x = some (⟨.type "function", none, .func fd, sl⟩ : Obj) := (N1 (x, ⟨.type "function", none, .func fd, sl⟩) (by simp)).1
  refine wpAny_bind (wpAny_updatePart (part := none) hx1 ?_)
  refine wpAny_pure ?_
  refine fn_store (s := { s with heap := (s.heap.push (dictOf [] 0)).update x fun o => { o with dict := some s.heap.objs.size }, toks := s.toks + 1 }) (es' := [⟨PyData.keyHash w.params name, .str name (s.toks + 1), v⟩]) (n' := 1) (pre := []) (post := a ++ (x, (⟨.type "function", some s.heap.objs.size, .func fd, sl⟩ : Obj)) :: b) F2 N2 (fun _ h => nomatch h) ?_ rfl rfl (Nat.le_of_ble_eq_true rfl) fun h' F' N' => ⟨_, rfl, ?_⟩
  · intro q hq
    rcases List.mem_append.mp hq with hq | hq
    · exact Nat.ne_of_lt (hlt q (by simp [hq]))
    rcases List.mem_cons.mp hq with rfl | hq
    · exact Nat.ne_of_lt (hlt (x, ⟨.type "function", none, .func fd, sl⟩) hm)
    · exact Nat.ne_of_lt (hlt q (by simp [hq]))
  · refine h s.heap.objs.size h' F' ?_ hlt
    rw [hg]
    exact N'
end
end Mine
namespace Mine
theorem slot_fn_ga : Slot "function" "__getattribute__" "object.__getattribute__" :=
  .of (owner := "object") (n := "__getattribute__") (by rw [typeLookup_type, builtinLookup_eq_fast]; kernel_rfl) (by decide +kernel) (by decide +kernel) (by decide +kernel)
    (by first | exact .inl (by decide +kernel) | exact .inr (by decide +kernel)) (by rw [isSubtype_type]; kernel_rfl)
theorem entry_ga : entryFor table "object.__getattribute__" = some Builtin.«object.__getattribute__» := entryFor_of_tree (by kernel_rfl)
theorem args_ga (a b : Value) : argsOk "object.__getattribute__" ⟨[a, b], []⟩ := by unfold argsOk; kernel_rfl
theorem look_hook : typeLookup (.type "function") (Str.ofString "__getattr__") = pure none := by rw [typeLookup_type, builtinLookup_eq_fast]; kernel_rfl
section
variable {prog : Program} {w : World} {A : Around} {E : Value → Shared → Prop} {s : Shared} {x dx : Addr} {es : List DictEntry} {n : Nat} {name : Str} {v : Value} {ox : Obj} {tk : Tok}
theorem fn_found {Q : Found → Shared → Prop} (hx : s.heap.get? x = some ox) (hc : ox.cls = .type "function") (hcl : ∀ c, ox.data ≠ .cls c) (hd : ox.dict = some dx) (hdd : s.heap.get? dx = some (dictOf es n)) (hl : typeLookup (.type "function") name = pure none)
    (hg : getL name es = some (some v)) (h : Q (.value v) s) : wpAny (model prog w) A (ObjectAttr.find (.ref x) (.type "function") name) Q E s := by
  unfold ObjectAttr.find
  rw [hl]
  refine wpAny_bind (wpAny_pure (wpAny_bind (wpAny_pure (wpAny_bind (wpAny_pure ?_)))))
  show wpAny _ _ (ownThenClass (.ref x) name none none) _ _ _
  obtain ⟨oc, od, oda, osl⟩ := ox
  dsimp only at hc hd hcl
  subst hc hd
  refine wpAny_bind (wpAny_bind (wpAny_bind (wpAny_loadPart hx ?_)))
  have key : wpAny (model prog w) A (instanceDict x false) (fun r s' => r = some dx ∧ s' = s) E s := wpAny_bind (wpAny_loadPart hx (wpAny_pure ⟨rfl, rfl⟩))
  have fin : ∀ K : Option Value → Sem Found, wpAny (model prog w) A (K (some v)) Q E s → ∀ r s', (r = some dx ∧ s' = s) → wpAny (model prog w) A (inDict name r) (fun a s' => wpAny (model prog w) A (K a) Q E s') E s' := by
    rintro K hK r s' ⟨rfl, rfl⟩
    have L : Looks (model prog w) s'.heap (nsGet dx name) (some v) := by
      rw [nsGet_eq]
      refine (Looks.ld (part := some (.str name 0)) hdd).andThen ?_
      show Looks _ _ (nsLook name (dictOf es n)) _
      rw [nsLook_of (r := some v) (by rw [lookIn_dict]; exact hg)]
      exact .now
    exact L.here hK
  cases oda with
  | cls c => exact absurd rfl (hcl c)
  | _ => exact wpAny_mono key (fin _ (wpAny_bind (wpAny_rule (wpAny_pure h)))) fun _ _ z => z
theorem fn_get {Q : Value → Shared → Prop} {expr : Bool} (hx : s.heap.get? x = some ox) (hc : ox.cls = .type "function") (hcl : ∀ c, ox.data ≠ .cls c) (hd : ox.dict = some dx) (hdd : s.heap.get? dx = some (dictOf es n)) (hl : typeLookup (.type "function") name = pure none)
    (hg : getL name es = some (some v)) (hh : handedIn v = true) (h : Q v { s with toks := s.toks + 1 }) : wpAny (model prog w) A (getAttr (.ref x) name expr) Q E s := by
  have hT : Shared.TypeIs { s with toks := s.toks + 1 } (.ref x) "function" := ⟨ox, hx, hc⟩
  have hT' : Looks (model prog w) ({ s with toks := s.toks + 1 } : Shared).heap (typeOf (.ref x)) (.type "function") := hc ▸ (Looks.ld (part := none) hx).andThen .now
  unfold getAttr getAttrBy
  refine wpAny_bind (wpAny_mkText (wpAny_holding (wpAny_bind (hT'.here ?_))))
  rw [slot_fn_ga.lookup]
  refine wpAny_bind (wpAny_pure ?_)
  show wpAny _ _ (getAttrByItsOwn _ _ _ _ _ _) _ _ _
  unfold getAttrByItsOwn
  refine wpAny_bind (wpAny_pure ?_)
  refine wpAny_bind (wpAny_attempt (wpAny_holding ?_))
  have e : callGetattribute (.ref x) (.str name s.toks) (.builtin "object.__getattribute__") expr = boundAndCalled (.builtin "object.__getattribute__") (.ref x) (.str name s.toks) := by
    unfold callGetattribute; cases expr <;> rfl
  rw [e]
  unfold boundAndCalled
  rw [slot_fn_ga.bind]
  refine wpAny_bind (wpAny_pure ?_)
  refine wpAny_call_entry slot_fn_ga hT entry_ga ?_ (args_ga _ _)
  show wpAny _ _ (slotArgs "__getattribute__" 1 ⟨[.ref x, .str name s.toks], []⟩ >>= _) _ _ _
  rw [show slotArgs "__getattribute__" 1 ⟨[.ref x, .str name s.toks], []⟩ = pure (.ref x, [.str name s.toks]) from by kernel_rfl]
  refine wpAny_bind (wpAny_pure (wpAny_bind (wpAny_pure (wpAny_bind (hT'.here (wpAny_bind (fn_found (s := { s with toks := s.toks + 1 }) hx hc hcl hd hdd hl hg ?_)))))))
  refine wpAny_pure ⟨_, rfl, ?_⟩
  show wpAny _ _ (handedOut v) _ _ _
  rw [handedOut_of hh]
  exact wpAny_pure h
theorem canon_ga : Manifest.canonical "object.__getattribute__" = "object.__getattribute__" := by kernel_rfl
theorem fn_method {Q : Value × List Value → Shared → Prop} {pl : Sem Bool} (hx : s.heap.get? x = some ox) (hc : ox.cls = .type "function") (hcl : ∀ c, ox.data ≠ .cls c) (hd : ox.dict = some dx) (hdd : s.heap.get? dx = some (dictOf es n)) (hl : typeLookup (.type "function") name = pure none)
    (hg : getL name es = some (some v)) (hh : handedIn v = true) (h : Q (v, []) { s with toks := s.toks + 1 }) : wpAny (model prog w) A (getMethod (.ref x) name pl) Q E s := by
  have hT : Shared.TypeIs s (.ref x) "function" := ⟨ox, hx, hc⟩
  unfold getMethod
  refine wpAny_bind (wpAny_specialOf hT slot_fn_ga.lookup ?_)
  dsimp only
  rw [canon_ga]
  simp only [bne_self_eq_false, Bool.false_eq_true, if_false]
  refine wpAny_bind (wpAny_specialOf hT look_hook ?_)
  simp only [Option.isSome_none, Bool.false_eq_true, if_false]
  refine wpAny_bind (wpAny_specialOf hT hl ?_)
  exact wpAny_bind (fn_get hx hc hcl hd hdd hl hg hh (wpAny_pure h))
end
end Mine
end
section
open PySem PySem.W PyProof.Rows PySem.Calls PySem.Spec
namespace Mine
/-- the end of a turn: the iterator stands as it stood -/
noncomputable def TurnEnd (h₀ : Heap) (L : Addr) (s : Shared) (I : Addr) (oI : Obj) (J : (Str → Option Value) → List (Addr × Obj) → Prop) (s₂ : Shared) : Prop :=
  ∃ h' tk' m' news', s₂ = { s with heap := h', toks := tk' } ∧ Fr h₀ L h' m' ∧ News h₀ L h' ((I, oI) :: news') ∧ (∀ p ∈ news', p.1 ≠ I) ∧ J m' news'
noncomputable def TurnPost (h₀ : Heap) (L : Addr) (s : Shared) (I : Addr) (oI : Obj) (J : (Str → Option Value) → List (Addr × Obj) → Prop) (Q : Flow → Shared → Prop) (f : Flow) (s₂ : Shared) : Prop := match f with
  | .ret v => Q (.ret v) s₂
  | .brk => Q .next s₂
  | _ => TurnEnd h₀ L s I oI J s₂
section
variable {prog : Program} {w : World} {A : Around} {E : Value → Shared → Prop} {s : Shared} {env : Env} {h₀ : Heap} {x : Str} {body : List Stmt} {Q : Flow → Shared → Prop}
theorem iter_any {l : Addr} {vs : Array Value} {k : Nat} {m₀ : Str → Option Value} {news : List (Addr × Obj)} (J : Nat → (Str → Option Value) → List (Addr × Obj) → Prop)
    (hh : A.handled = none) (F : Fr h₀ env.locals s.heap m₀) (N : News h₀ env.locals s.heap news) (hl : (l, listOf vs k) ∈ news) (hJl : ∀ i m₁ news₁, J i m₁ news₁ → (l, listOf vs k) ∈ news₁) (hj : J 0 m₀ news)
    (turn : ∀ i v m₁ news₁ h tk (I : Addr) (oI : Obj), vs[i]? = some v → J i m₁ news₁ → (∀ p ∈ news₁, p.1 ≠ I) → Fr h₀ env.locals h (fun y => if y = x then some v else m₁ y) → News h₀ env.locals h ((I, oI) :: news₁) →
      wpAny (model prog w) A (execs body env) (TurnPost h₀ env.locals s I oI (J (i + 1)) Q) E { s with heap := h, toks := tk })
    (done : ∀ m₁ news₁ h tk, J vs.size m₁ news₁ → Fr h₀ env.locals h m₁ → News h₀ env.locals h news₁ → Q .next { s with heap := h, toks := tk }) :
    wpAny (model prog w) A (pyIter (.ref l)) (fun it s₂ => LoopAtV prog w A h₀ env x body Q E it s₂) E s := by
  have hol := (N _ hl).1
  have hls : s.heap.IsList l vs := ⟨_, hol, rfl, k, rfl⟩
  have hlt : l < s.heap.objs.size := Heap.lt_size hol
  have hne : l ≠ s.heap.objs.size := Nat.ne_of_lt hlt
  refine wpAny_pyIter_list hls ?_
  have W := Walks.list (prog := prog) (w := w) hh s.heap.objs.size l hne vs
  refine ⟨_, _, _, vs.size, _, _, m₀, news, J, rfl, W, ?_, ?_, ?_, ⟨⟨_, Heap.get?_push_size _ rfl, rfl, rfl⟩, hls.at fun o e => Heap.get?_push_of_some _ e⟩, F.push _, (fun p hp => ⟨Heap.get?_push_of_some _ (N p hp).1, (N p hp).2⟩), hj, ?_, ?_⟩
  · intro hm
    rcases List.mem_cons.mp hm with e | hm
    · exact absurd F.ns.lt (e ▸ Nat.lt_irrefl _)
    · exact (N _ hl).2.1 (List.mem_singleton.mp hm).symm
  · intro b hb
    rw [List.mem_singleton.mp hb]
    exact next_is_new F
  · intro p hp hI
    exact absurd (Heap.lt_size (N p hp).1) ((List.mem_singleton.mp hI) ▸ Nat.lt_irrefl _)
  · rintro i v m₁ news₁ s₁ own ⟨hh', tk', rfl⟩ hin hP hJ hoff hown hget hall hst F₁ N₁
    have hnI : h₀.get? s.heap.objs.size = none := next_is_new F
    obtain ⟨⟨oI, hoI, _⟩, _⟩ := hst
    have hmI : (s.heap.objs.size, oI) ∈ own := hall _ (by simp) hnI _ hoI
    have hoff' : ∀ p ∈ news₁, p.1 ≠ s.heap.objs.size := fun p hp e => hoff p hp (by simp [e])
    have N₂ : News h₀ env.locals hh' ((s.heap.objs.size, oI) :: news₁) := fun p hp => by
      rcases List.mem_cons.mp hp with rfl | hp
      · exact N₁ _ (List.mem_append_left _ hmI)
      · exact N₁ _ (List.mem_append_right _ hp)
    have hl₁ := (N₂ _ (List.mem_cons_of_mem _ (hJl _ _ _ hJ))).1
    refine wpAny_mono (turn i v m₁ news₁ hh' tk' _ oI hP hJ hoff' F₁ N₂) (fun f s₂ p => ?_) fun _ _ e => e
    have fin : TurnEnd h₀ env.locals s s.heap.objs.size oI (J (i + 1)) s₂ → LoopStepU h₀ env.locals [s.heap.objs.size] own (J (i + 1)) { s with heap := hh', toks := tk' } .next s₂ := by
      rintro ⟨h', tk₂, m', news', e, F', N', hoff₂, hJ'⟩
      refine ⟨rfl, h', tk₂, m', news', e, F', fun q hq => ?_, fun q hq hI => hoff₂ q hq (List.mem_singleton.mp hI), hJ'⟩
      rcases List.mem_append.mp hq with hq | hq
      · have hg := hget q hq
        rcases List.mem_cons.mp (hown q hq) with e1 | e1
        · have : q = (s.heap.objs.size, oI) := by
            obtain ⟨q1, q2⟩ := q
            dsimp only at e1 hg
            subst e1
            rw [hoI] at hg
            cases hg; rfl
          rw [this]
          exact N' _ (.head _)
        · have e2 := List.mem_singleton.mp e1
          have : q = (l, listOf vs k) := by
            obtain ⟨q1, q2⟩ := q
            dsimp only at e2 hg
            subst e2
            rw [hl₁] at hg
            cases hg; rfl
          rw [this]
          exact N' _ (.tail _ (hJl _ _ _ hJ'))
      · exact N' _ (.tail _ hq)
    cases f with
    | ret v => exact .ret p
    | brk => exact .brk p
    | next => exact .next (fin p)
    | cont => exact .cont (fin p)
  · rintro h' tk m' news' F' N' _ hJ
    exact done m' news' h' tk hJ F' N'
/-- the end of a turn that keeps a state -/
noncomputable def StEnd {σ : Type} (h₀ : Heap) (L : Addr) (s : Shared) (I : Addr) (oI : Obj) (Led : σ → List (Addr × Obj)) (ps : σ → List (Str × Value)) (stored : List Str) (m₀ : Str → Option Value) (P : σ → Prop) (s₂ : Shared) : Prop :=
  ∃ (c' : σ) (h' : Heap) (tk' : Nat) (m' : Str → Option Value) (news' : List (Addr × Obj)), s₂ = { s with heap := h', toks := tk' } ∧ Fr h₀ L h' m' ∧ News h₀ L h' news' ∧ (∀ p ∈ (I, oI) :: Led c', p ∈ news') ∧ (∀ p ∈ Led c', p.1 ≠ I) ∧
    (∀ p ∈ ps c', m' p.1 = some p.2) ∧ (∀ z, (∀ p ∈ ps c', z ≠ p.1) → stored.contains z = false → m' z = m₀ z) ∧ P c'
noncomputable def StPost {σ : Type} (h₀ : Heap) (L : Addr) (s : Shared) (I : Addr) (oI : Obj) (Led : σ → List (Addr × Obj)) (ps : σ → List (Str × Value)) (stored : List Str) (m₀ : Str → Option Value) (P : σ → Prop) (Q : Flow → Shared → Prop) (f : Flow) (s₂ : Shared) : Prop := match f with
  | .ret v => Q (.ret v) s₂
  | .brk => Q .next s₂
  | _ => StEnd h₀ L s I oI Led ps stored m₀ P s₂
theorem st_fr {h : Heap} {L : Addr} {ps : List (Str × Value)} {stored : List Str} {m₀ m₁ : Str → Option Value} (h1 : ∀ p ∈ ps, m₁ p.1 = some p.2) (h2 : ∀ z, (∀ p ∈ ps, z ≠ p.1) → stored.contains z = false → m₁ z = m₀ z)
    (F : Fr h₀ L h m₁) : Fr h₀ L h (kstB (fun z => if stored.contains z then m₁ z else m₀ z) ps) := ksw_fr h1 h2 F
theorem iter_st {σ : Type} {l : Addr} {vs : Array Value} {k : Nat} {m₀ : Str → Option Value} (Led : σ → List (Addr × Obj)) (ps : σ → List (Str × Value)) (stored : List Str) (P : Nat → σ → Prop) (c₀ : σ)
    (hh : A.handled = none) (F : Fr h₀ env.locals s.heap m₀) (N : News h₀ env.locals s.heap (Led c₀)) (hl : ∀ c, (l, listOf vs k) ∈ Led c) (hk : ∀ p ∈ ps c₀, m₀ p.1 = some p.2) (hx : stored.contains x = true) (hxp : ∀ c, ∀ p ∈ ps c, p.1 ≠ x) (hp : P 0 c₀)
    (turn : ∀ i v c (u : Str → Option Value) h tk (I : Addr) (oI : Obj), vs[i]? = some v → P i c → (∀ p ∈ Led c, p.1 ≠ I) → Fr h₀ env.locals h (kstB (fun z => if stored.contains z then u z else m₀ z) ((x, v) :: ps c)) → News h₀ env.locals h ((I, oI) :: Led c) →
      wpAny (model prog w) A (execs body env) (StPost h₀ env.locals s I oI Led ps stored m₀ (P (i + 1)) Q) E { s with heap := h, toks := tk })
    (done : ∀ c (u : Str → Option Value) h tk, P vs.size c → Fr h₀ env.locals h (kstB (fun z => if stored.contains z then u z else m₀ z) (ps c)) → News h₀ env.locals h (Led c) → Q .next { s with heap := h, toks := tk }) :
    wpAny (model prog w) A (pyIter (.ref l)) (fun it s₂ => LoopAtV prog w A h₀ env x body Q E it s₂) E s := by
  refine iter_any (fun i m₁ news₁ => ∃ c, news₁ = Led c ∧ (∀ p ∈ ps c, m₁ p.1 = some p.2) ∧ (∀ z, (∀ p ∈ ps c, z ≠ p.1) → stored.contains z = false → m₁ z = m₀ z) ∧ P i c) hh F N (hl c₀) ?_ ⟨c₀, rfl, hk, fun _ _ _ => rfl, hp⟩ ?_ ?_
  · rintro i m₁ news₁ ⟨c, rfl, _⟩
    exact hl c
  · rintro i v m₁ news₁ h tk I oI hv ⟨c, rfl, h1, h2, hP⟩ hoff F' N'
    have F2 := st_fr (ps := (x, v) :: ps c) (stored := stored) (m₀ := m₀) (by
      intro p hp
      rcases List.mem_cons.mp hp with rfl | hp
      · simp
      · show (if p.1 = x then some v else m₁ p.1) = some p.2
        rw [if_neg (hxp c p hp)]
        exact h1 p hp) (by
      intro z hz hs
      have hzx : z ≠ x := hz (x, v) (.head _)
      show (if z = x then some v else m₁ z) = m₀ z
      rw [if_neg hzx]
      exact h2 z (fun p hp => hz p (.tail _ hp)) hs) F'
    refine wpAny_mono (turn i v c _ h tk I oI hv hP hoff F2 N') (fun f s₂ p => ?_) fun _ _ e => e
    have fin : StEnd h₀ env.locals s I oI Led ps stored m₀ (P (i + 1)) s₂ → TurnEnd h₀ env.locals s I oI (fun m₁ news₁ => ∃ c, news₁ = Led c ∧ (∀ p ∈ ps c, m₁ p.1 = some p.2) ∧ (∀ z, (∀ p ∈ ps c, z ≠ p.1) → stored.contains z = false → m₁ z = m₀ z) ∧ P (i + 1) c) s₂ := by
      rintro ⟨c', h', tk', m', news', e, F'', N'', hs, ho, g1, g2, g3⟩
      exact ⟨h', tk', m', Led c', e, F'', fun q hq => N'' q (hs q hq), ho, c', rfl, g1, g2, g3⟩
    cases f with
    | ret v => exact p
    | brk => exact p
    | next => exact fin p
    | cont => exact fin p
  · rintro m₁ news₁ h tk ⟨c, rfl, h1, h2, hP⟩ F' N'
    exact done c _ h tk hP (st_fr h1 h2 F') N'
theorem st_end {σ : Type} {L I : Addr} {oI : Obj} {Led : σ → List (Addr × Obj)} {ps : σ → List (Str × Value)} {stored : List Str} {m₀ m' : Str → Option Value} {P : σ → Prop} {h' : Heap} {tk' : Nat} {news' : List (Addr × Obj)} (c' : σ)
    (F : Fr h₀ L h' m') (N : News h₀ L h' news') (hs : ∀ p ∈ (I, oI) :: Led c', p ∈ news') (ho : ∀ p ∈ Led c', p.1 ≠ I) (h1 : ∀ p ∈ ps c', m' p.1 = some p.2) (h2 : ∀ z, (∀ p ∈ ps c', z ≠ p.1) → stored.contains z = false → m' z = m₀ z) (hp : P c') :
    StPost h₀ L s I oI Led ps stored m₀ P Q .next { s with heap := h', toks := tk' } := ⟨c', h', tk', m', news', rfl, F, N, hs, ho, h1, h2, hp⟩
end
end Mine
end
section
open PySem PySem.W PyProof.Rows PySem.Calls PySem.Spec
namespace Mine
/-- the end of a turn that keeps a state -/
noncomputable def ItEnd {σ : Type} (h₀ : Heap) (L : Addr) (s : Shared) (its : List (Addr × Obj)) (Led : σ → List (Addr × Obj)) (ps : σ → List (Str × Value)) (stored : List Str) (m₀ : Str → Option Value) (P : σ → Prop) (s₂ : Shared) : Prop :=
  ∃ (c' : σ) (h' : Heap) (tk' : Nat) (m' : Str → Option Value) (news' : List (Addr × Obj)), s₂ = { s with heap := h', toks := tk' } ∧ Fr h₀ L h' m' ∧ News h₀ L h' news' ∧ (∀ p ∈ its ++ Led c', p ∈ news') ∧ (∀ p ∈ Led c', ∀ q ∈ its, p.1 ≠ q.1) ∧
    (∀ p ∈ ps c', m' p.1 = some p.2) ∧ (∀ z, (∀ p ∈ ps c', z ≠ p.1) → stored.contains z = false → m' z = m₀ z) ∧ P c'
noncomputable def ItPost {σ : Type} (h₀ : Heap) (L : Addr) (s : Shared) (its : List (Addr × Obj)) (Led : σ → List (Addr × Obj)) (ps : σ → List (Str × Value)) (stored : List Str) (m₀ : Str → Option Value) (P : σ → Prop) (Q : Flow → Shared → Prop) (f : Flow) (s₂ : Shared) : Prop := match f with
  | .ret v => Q (.ret v) s₂
  | .brk => Q .next s₂
  | _ => ItEnd h₀ L s its Led ps stored m₀ P s₂
theorem objs_off {ws : List (Addr × String)} : ∀ {its news : List (Addr × Obj)}, Objs ws its → (∀ p ∈ news, ∀ q ∈ ws, p.1 ≠ q.1) → ∀ p ∈ news, ∀ q ∈ its, p.1 ≠ q.1 := by
  intro its news ho hoff p hp q hq
  have e := ho.map
  have h1 : q.1 ∈ its.map (·.1) := List.mem_map.mpr ⟨q, hq, rfl⟩
  rw [e] at h1
  obtain ⟨r, hr, hr2⟩ := List.mem_map.mp h1
  rw [← hr2]
  exact hoff p hp r hr
theorem objs_off' {ws : List (Addr × String)} : ∀ {its news : List (Addr × Obj)}, Objs ws its → (∀ p ∈ news, ∀ q ∈ its, p.1 ≠ q.1) → ∀ p ∈ news, ∀ q ∈ ws, p.1 ≠ q.1 := by
  intro its news ho hoff p hp q hq
  have e := ho.map
  have h1 : q.1 ∈ ws.map (·.1) := List.mem_map.mpr ⟨q, hq, rfl⟩
  rw [← e] at h1
  obtain ⟨r, hr, hr2⟩ := List.mem_map.mp h1
  rw [← hr2]
  exact hoff p hp r hr
theorem allObj_of : ∀ {ws : List (Addr × String)} {k : List (Addr × Obj) → Prop}, (∀ its, Objs ws its → k its) → AllObj ws k
  | [], k, h => h [] trivial
  | w :: ws, k, h => fun o ho => allObj_of fun its hi => h _ ⟨⟨rfl, ho⟩, hi⟩
section
variable {prog : Program} {w : World} {A : Around} {E : Value → Shared → Prop} {s : Shared} {env : Env} {h₀ : Heap} {target : Expr} {body : List Stmt} {Q : Flow → Shared → Prop}
theorem items_st {σ : Type} {ws : List (Addr × String)} {keep : List (Addr × Obj)} {m₀ : Str → Option Value} (Led : σ → List (Addr × Obj)) (ps : σ → List (Str × Value)) (stored : List Str) (P : Nat → σ → Prop)
    (hk : ∀ c, SubL keep (Led c)) (N : Nat)
    (done : ∀ c (u : Str → Option Value) h tk, P N c → Fr h₀ env.locals h (kstB (fun z => if stored.contains z then u z else m₀ z) (ps c)) → News h₀ env.locals h (Led c) → Q .next { s with heap := h, toks := tk }) :
    ∀ (xs : List Itm) (i : Nat), i + xs.length = N →
    (∀ j a v c (u : Str → Option Value) h tk its, xs[j]? = some a → a.Is v h → Objs ws its → P (i + j) c → (∀ p ∈ Led c, ∀ q ∈ its, p.1 ≠ q.1) → Fr h₀ env.locals h (kstB (fun z => if stored.contains z then u z else m₀ z) (ps c)) → News h₀ env.locals h (its ++ Led c) →
      wpAny (model prog w) A (assign target env v) (fun _ s₂ => wpAny (model prog w) A (execs body env) (ItPost h₀ env.locals s its Led ps stored m₀ (P (i + j + 1)) Q) E s₂) E { s with heap := h, toks := tk }) →
    ∀ (c : σ) (m : Str → Option Value), P i c → (∀ p ∈ Led c, ∀ q ∈ ws, p.1 ≠ q.1) → (∀ p ∈ ps c, m p.1 = some p.2) → (∀ z, (∀ p ∈ ps c, z ≠ p.1) → stored.contains z = false → m z = m₀ z) →
    ItemsRest prog w A E h₀ env target body Q s ws keep xs m (Led c)
  | [], i, hN, turn, c, m, hp, hoff, h1, h2 => by
    intro h tk F N'
    simp at hN
    subst hN
    exact done c m h tk hp (ksw_fr h1 h2 F) N'
  | a :: r, i, hN, turn, c, m, hp, hoff, h1, h2 => by
    intro v h tk hv F
    refine allObj_of fun its hi N' => ?_
    have t0 := turn 0 a v c m h tk its (by simp) hv hi (by simpa using hp) (objs_off hi hoff) (ksw_fr h1 h2 F) N'
    refine wpAny_mono t0 (fun _ s₂ x => wpAny_mono x (fun f s₃ y => ?_) fun _ _ e => e) fun _ _ e => e
    have fin : ItEnd h₀ env.locals s its Led ps stored m₀ (P (i + 0 + 1)) s₃ → UnrEndW h₀ env.locals { s with heap := h, toks := tk } its (fun m' n' => SubL keep n' ∧ ItemsRest prog w A E h₀ env target body Q s ws keep r m' n') s₃ := by
      rintro ⟨c', h', tk', m', news', e, F', N'', hs, ho, g1, g2, g3⟩
      refine ⟨h', tk', m', Led c', e, F', fun p hp => N'' p (hs p hp), ho, hk c', ?_⟩
      refine items_st Led ps stored P hk N done r (i + 1) (by simp at hN; omega) (fun j a v c u h tk its hj hv hi hp hoff F N' => ?_) c' m' g3 (objs_off' hi ho) g1 g2
      have e1 : i + 1 + j = i + (j + 1) := by omega
      rw [e1] at hp ⊢
      exact turn (j + 1) a v c u h tk its (by simpa using hj) hv hi hp hoff F N'
    cases f with
    | ret v => exact y
    | brk => exact y
    | next => exact fin y
    | cont => exact fin y
/-- a for over a list of the ledger, any target, that keeps a state -/
theorem list_st {σ : Type} {l : Addr} {vs : Array Value} {k : Nat} {m₀ : Str → Option Value} (Led : σ → List (Addr × Obj)) (ps : σ → List (Str × Value)) (stored : List Str) (P : Nat → σ → Prop) (c₀ : σ)
    (hh : A.handled = none) (F : Fr h₀ env.locals s.heap m₀) (N : News h₀ env.locals s.heap (Led c₀)) (hl : ∀ c, (l, listOf vs k) ∈ Led c) (hp : P 0 c₀) (hk : ∀ p ∈ ps c₀, m₀ p.1 = some p.2)
    (turn : ∀ i v c (u : Str → Option Value) h tk (I : Addr) (oI : Obj), vs[i]? = some v → P i c → (∀ p ∈ Led c, p.1 ≠ I) → Fr h₀ env.locals h (kstB (fun z => if stored.contains z then u z else m₀ z) (ps c)) → News h₀ env.locals h ((I, oI) :: Led c) →
      wpAny (model prog w) A (assign target env v) (fun _ s₂ => wpAny (model prog w) A (execs body env) (ItPost h₀ env.locals s [(I, oI)] Led ps stored m₀ (P (i + 1)) Q) E s₂) E { s with heap := h, toks := tk })
    (done : ∀ c (u : Str → Option Value) h tk, P vs.size c → Fr h₀ env.locals h (kstB (fun z => if stored.contains z then u z else m₀ z) (ps c)) → News h₀ env.locals h (Led c) → Q .next { s with heap := h, toks := tk }) :
    wpAny (model prog w) A (pyIter (.ref l)) (fun it s₂ => TurnsAt prog w A h₀ env target body Q E it s₂) E s := by
  have hv : vs.toList.toArray = vs := Array.toArray_toList
  refine iter_listTurns (lo := listOf vs k) (vs := vs.toList) (n := k) hh F N (hl c₀) rfl (by rw [hv]) fun I hI => ?_
  refine items_st (keep := [(l, listOf vs k)]) Led ps stored P (fun c => And.intro (hl c) trivial) vs.size done (vs.toList.map .val) 0 (by simp) (fun j a v c u h tk its hj hv hi hp hoff F N => ?_) c₀ m₀ hp (fun p hp q hq => ?_) hk (fun _ _ _ => rfl)
  · match its, hi, N, hoff with
    | [(I', oI)], ⟨⟨h1, _⟩, _⟩, N, hoff =>
      have h1' : I' = I := h1
      subst h1'
      have e : vs[j]? = some v := by
        rw [List.getElem?_map] at hj
        cases hx : vs.toList[j]? with
        | none => rw [hx] at hj; cases hj
        | some y =>
          rw [hx] at hj
          cases hj
          have : v = y := hv
          subst this
          simpa using hx
      simp only [Nat.zero_add] at hp ⊢
      exact turn j v c u h tk I' oI e hp (fun p hp => hoff p hp (I', oI) (.head _)) F N
    | [], h, _, _ => exact (show False from h).elim
    | _ :: _ :: _, ⟨_, h⟩, _, _ => exact (show False from h).elim
  · rw [List.mem_singleton.mp hq]
    exact Nat.ne_of_lt (hI p hp)
/-- a for over range(n) that keeps a state -/
theorem range_st {σ : Type} {x : Str} {px : Pos} {r : Addr} {b₀ : Int} {t₀ u₀ v₀ : Tok} {n : Nat} {m₀ : Str → Option Value} (Led : σ → List (Addr × Obj)) (ps : σ → List (Str × Value)) (stored : List Str) (P : Nat → σ → Prop) (c₀ : σ)
    (hh : A.handled = none) (hr : IsRange s.heap r 0 b₀ 1 t₀ u₀ v₀) (hsmall : Builtin.Range.small 0 b₀ 1 = true) (hn : Builtin.Range.rangeSize 0 b₀ 1 = (n : Int)) (F : Fr h₀ env.locals s.heap m₀) (N : News h₀ env.locals s.heap (Led c₀)) (hp : P 0 c₀) (hk : ∀ p ∈ ps c₀, m₀ p.1 = some p.2)
    (turn : ∀ i t c (u : Str → Option Value) h tk (I : Addr) (oI : Obj), i < n → P i c → (∀ p ∈ Led c, p.1 ≠ I) → Fr h₀ env.locals h (kstB (fun z => if stored.contains z then u z else m₀ z) (ps c)) → News h₀ env.locals h ((I, oI) :: Led c) →
      wpAny (model prog w) A (assign (.Name x px) env (.int (i : Int) t)) (fun _ s₂ => wpAny (model prog w) A (execs body env) (ItPost h₀ env.locals s [(I, oI)] Led ps stored m₀ (P (i + 1)) Q) E s₂) E { s with heap := h, toks := tk })
    (done : ∀ c (u : Str → Option Value) h tk, P n c → Fr h₀ env.locals h (kstB (fun z => if stored.contains z then u z else m₀ z) (ps c)) → News h₀ env.locals h (Led c) → Q .next { s with heap := h, toks := tk }) :
    wpAny (model prog w) A (pyIter (.ref r)) (fun it s₂ => TurnsAt prog w A h₀ env (.Name x px) body Q E it s₂) E s := by
  refine wpAny_pyIter_range hr hsmall ?_
  have W : Walks prog w A s.heap.objs.size [s.heap.objs.size] [s.heap.objs.size] n (fun i v => i < n ∧ ∃ t, v = .int (0 + (i : Int) * 1) t)
      (fun i h => IsRangeIter h s.heap.objs.size (0 + (i : Nat) * 1) ((n : Int) - (i : Nat)) 1) := (Walks.range hh _ 0 1 n).bound
  refine ktu_core (tk0 := s.toks) (keep := []) (ws := [(s.heap.objs.size, "range_iterator")]) (xs := (List.range n).map fun (i : Nat) => Itm.tok fun t => .int (i : Int) t) (KTurns.ofWalks W fun i v s Q E st q => (show wpAny _ _ (pure ()) _ _ _ from wpAny_pure q)) (by simp) ?_ ?_ ?_ (fun b hb => by simpa using hb) ?_ ?_ ?_ ?_ (F.push _) (fun p hp => ⟨Heap.get?_push_of_some _ (N p hp).1, (N p hp).2⟩) trivial ?_
  · rintro i v h ⟨hi, t, rfl⟩
    refine ⟨Itm.tok fun t => .int (i : Int) t, by simp [hi], t, ?_⟩
    simp
  · intro i h st
    exact ⟨[(s.heap.objs.size, _)], ⟨⟨rfl, rfl⟩, trivial⟩, fun p hp => by rw [List.mem_singleton.mp hp]; exact st⟩
  · intro b hb
    have hb' : b = s.heap.objs.size := by simpa using hb
    rw [hb']
    exact ⟨List.mem_cons_self .., next_is_new F⟩
  · intro b hb
    exact .inl (by simpa using hb)
  · intro hI
    exact absurd F.ns.lt ((List.mem_singleton.mp hI) ▸ Nat.lt_irrefl _)
  · intro p hp hI
    exact absurd (Heap.lt_size (N p hp).1) ((List.mem_singleton.mp hI) ▸ Nat.lt_irrefl _)
  · show IsRangeIter _ _ _ _ _
    rw [hn]; simpa using Heap.get?_push_size _ rfl
  · refine items_st (keep := []) Led ps stored P (fun c => trivial) n done _ 0 (by simp) (fun j a v c u h tk its hj hv hi hp hoff F N => ?_) c₀ m₀ hp (fun p hp q hq => ?_) hk (fun _ _ _ => rfl)
    · match its, hi, N, hoff with
      | [(I', oI)], ⟨⟨h1, _⟩, _⟩, N, hoff =>
        rw [List.getElem?_map] at hj
        by_cases hjn : j < n
        · rw [List.getElem?_range hjn] at hj
          cases hj
          obtain ⟨t, ht⟩ := hv
          have hv' : v = .int (j : Int) t := ht
          subst hv'
          simp only [Nat.zero_add] at hp ⊢
          exact turn j t c u h tk I' oI hjn hp (fun p hp => hoff p hp (I', oI) (.head _)) F N
        · have e0 : (List.range n)[j]? = none := List.getElem?_eq_none (by simp; omega)
          rw [e0] at hj
          cases hj
      | [], h, _, _ => exact (show False from h).elim
      | _ :: _ :: _, ⟨_, h⟩, _, _ => exact (show False from h).elim
    · rw [List.mem_singleton.mp hq]
      exact Nat.ne_of_lt (Heap.lt_size (N p hp).1)
theorem it_end {σ : Type} {L I : Addr} {oI : Obj} {Led : σ → List (Addr × Obj)} {ps : σ → List (Str × Value)} {stored : List Str} {m₀ m' : Str → Option Value} {P : σ → Prop} {h' : Heap} {tk' : Nat} {news' : List (Addr × Obj)} (c' : σ)
    (F : Fr h₀ L h' m') (N : News h₀ L h' news') (hs : ∀ p ∈ (I, oI) :: Led c', p ∈ news') (ho : ∀ p ∈ Led c', p.1 ≠ I) (h1 : ∀ p ∈ ps c', m' p.1 = some p.2) (h2 : ∀ z, (∀ p ∈ ps c', z ≠ p.1) → stored.contains z = false → m' z = m₀ z) (hp : P c') :
    ItPost h₀ L s [(I, oI)] Led ps stored m₀ P Q .next { s with heap := h', toks := tk' } := ⟨c', h', tk', m', news', rfl, F, N, hs, fun p hp q hq => by rw [List.mem_singleton.mp hq]; exact ho p hp, h1, h2, hp⟩
/-- a while that keeps a state; ret and break are not met -/
noncomputable def WhPost {σ : Type} (h₀ : Heap) (L : Addr) (s : Shared) (Led : σ → List (Addr × Obj)) (stored : List Str) (m₀ : Str → Option Value) (P : σ → Prop) (μ : σ → Nat) (c : σ) (f : Flow) (s₂ : Shared) : Prop :=
  f = .next ∧ ∃ (c' : σ) (h' : Heap) (tk : Nat) (m' : Str → Option Value) (news' : List (Addr × Obj)), s₂ = { s with heap := h', toks := tk } ∧ Fr h₀ L h' m' ∧ News h₀ L h' news' ∧ (∀ p ∈ Led c', p ∈ news') ∧ (∀ z, stored.contains z = false → m' z = m₀ z) ∧ P c' ∧ μ c' < μ c
theorem while_st {σ : Type} {L : Addr} {test : Expr} {pos : Pos} {m₀ : Str → Option Value} (Led : σ → List (Addr × Obj)) (stored : List Str) (P : σ → Prop) (μ : σ → Nat) (c₀ : σ)
    (F : Fr h₀ L s.heap m₀) (N : News h₀ L s.heap (Led c₀)) (hp : P c₀)
    (turn : ∀ (c : σ) (u : Str → Option Value) h tk, P c → Fr h₀ L h (fun z => if stored.contains z then u z else m₀ z) → News h₀ L h (Led c) →
      wpAny (model prog w) A (isTrue test env (eval test env)) (fun b s₂ =>
        if b = true then wpAny (model prog w) A (execs body env) (WhPost h₀ L s Led stored m₀ P μ c) E s₂ else Q .next s₂) E { s with heap := h, toks := tk })
    (hE : PassesOwn (model prog w) A env E := by passes_own) :
    wpAny (model prog w) A (exec (.While test body [] pos) env) Q E s := by
  refine ksw_while Led (fun _ => []) (fun _ => True) stored P μ c₀ F N trivial (fun _ h => nomatch h) hp (fun c u h tk _ hp F N => ?_) hE
  refine wpAny_mono (turn c u h tk hp F N) (fun b s₂ x => ?_) fun _ _ e => e
  cases b with
  | false => simpa using x
  | true =>
    simp only [if_true] at x ⊢
    refine wpAny_mono x (fun f s₃ y => ?_) fun _ _ e => e
    obtain ⟨rfl, c', h', tk', m', news', e, F', N', hs, h2, h3, h4⟩ := y
    exact ⟨c', h', tk', m', news', e, F', N', hs, trivial, (fun _ h => nomatch h), (fun z _ hz => h2 z hz), h3, h4⟩
theorem wh_end {σ : Type} {L : Addr} {Led : σ → List (Addr × Obj)} {stored : List Str} {m₀ m' : Str → Option Value} {P : σ → Prop} {μ : σ → Nat} {c : σ} {h' : Heap} {tk' : Nat} {news' : List (Addr × Obj)} (c' : σ)
    (F : Fr h₀ L h' m') (N : News h₀ L h' news') (hs : ∀ p ∈ Led c', p ∈ news') (h2 : ∀ z, stored.contains z = false → m' z = m₀ z) (hp : P c') (hm : μ c' < μ c) : WhPost h₀ L s Led stored m₀ P μ c .next { s with heap := h', toks := tk' } :=
  ⟨rfl, c', h', tk', m', news', rfl, F, N, hs, h2, hp, hm⟩
end
/-- a step at which the walk stands still -/
noncomputable def Stop (P : Prop) : Prop := P
theorem stop_in {P : Prop} (h : Stop P) : P := h
theorem stop_out {P : Prop} (h : P) : Stop P := h
/-- apart from some addresses -/
noncomputable def Off (as : List Addr) (R : List (Addr × Obj)) : Prop := ∀ p ∈ R, ∀ a ∈ as, p.1 ≠ a
theorem Off.at {as : List Addr} {R : List (Addr × Obj)} (h : Off as R) {a : Addr} (ha : a ∈ as) : ∀ p ∈ R, p.1 ≠ a := fun p hp => h p hp a ha
theorem Off.cons {as : List Addr} {R : List (Addr × Obj)} {a : Addr} (h1 : ∀ p ∈ R, p.1 ≠ a) (h2 : Off as R) : Off (a :: as) R := fun p hp b hb => by
  rcases List.mem_cons.mp hb with rfl | hb
  · exact h1 p hp
  · exact h2 p hp b hb
theorem Off.nil {R : List (Addr × Obj)} : Off [] R := fun _ _ _ h => nomatch h
theorem Off.led {as : List Addr} {R : List (Addr × Obj)} {e : Addr × Obj} (h1 : ∀ a ∈ as, e.1 ≠ a) (h2 : Off as R) : Off as (e :: R) := fun p hp b hb => by
  rcases List.mem_cons.mp hp with rfl | hp
  · exact h1 b hb
  · exact h2 p hp b hb
theorem Off.sub {as bs : List Addr} {R : List (Addr × Obj)} (h : Off as R) (hs : ∀ a ∈ bs, a ∈ as) : Off bs R := fun p hp b hb => h p hp b (hs b hb)
theorem Off.app {as : List Addr} {T R : List (Addr × Obj)} (h1 : Off as T) (h2 : Off as R) : Off as (T ++ R) := fun p hp b hb => by
  rcases List.mem_append.mp hp with hp | hp
  · exact h1 p hp b hb
  · exact h2 p hp b hb
end Mine
end
section
open PySem PySem.W PyProof.Rows PySem.Calls PySem.Spec
namespace Mine
noncomputable def pagesP : List Str := [Str.ofString "/", Str.ofString "/a", Str.ofString "/b", Str.ofString "/c", Str.ofString "/a/x", Str.ofString "/b/y"]
noncomputable def linksOf (p : Str) : List Str :=
  if p = Str.ofString "/" then [Str.ofString "/a", Str.ofString "/b", Str.ofString "/c", Str.ofString "/a/x"]
  else if p = Str.ofString "/a" then [Str.ofString "/a/x"]
  else if p = Str.ofString "/b" then [Str.ofString "/b/y", Str.ofString "/a", Str.ofString "/c"]
  else if p = Str.ofString "/c" then [Str.ofString "/"]
  else if p = Str.ofString "/a/x" then [Str.ofString "/", Str.ofString "/b/y"]
  else []
theorem links_0 : linksOf (Str.ofString "/") = [Str.ofString "/a", Str.ofString "/b", Str.ofString "/c", Str.ofString "/a/x"] := by decide
theorem links_1 : linksOf (Str.ofString "/a") = [Str.ofString "/a/x"] := by decide
theorem links_2 : linksOf (Str.ofString "/b") = [Str.ofString "/b/y", Str.ofString "/a", Str.ofString "/c"] := by decide
theorem links_3 : linksOf (Str.ofString "/c") = [Str.ofString "/"] := by decide
theorem links_4 : linksOf (Str.ofString "/a/x") = [Str.ofString "/", Str.ofString "/b/y"] := by decide
theorem links_5 : linksOf (Str.ofString "/b/y") = [] := by decide
/-- the four waits, by the link's place -/
noncomputable def wtOf (k : Nat) : Int := [2, 5, 3, 1].getD k 0
/-- the links' table, by the ledger -/
noncomputable def LinksAt (w : World) (R : List (Addr × Obj)) (d : Addr) : Prop :=
  ∃ o kvs, (d, o) ∈ R ∧ o.IsDictOf (PySem.strKind PySem.Challenge.rw_oy0154_01.prog w) kvs ∧ (d == sysModules) = false ∧
    ∀ pg ∈ pagesP, ∃ la its k, valueAt kvs pg = some (.ref la) ∧ (la, listOf its k) ∈ R ∧ StrsAre its.toList (linksOf pg)
/-- the modes' table, by the ledger -/
noncomputable def ModesAt (w : World) (R : List (Addr × Obj)) (d : Addr) (f : Str → Int) : Prop :=
  ∃ o kvs, (d, o) ∈ R ∧ o.IsDictOf (PySem.strKind PySem.Challenge.rw_oy0154_01.prog w) kvs ∧ (d == sysModules) = false ∧
    ∀ pg ∈ pagesP, ∃ t, valueAt kvs pg = some (.int (f pg) t)
theorem LinksAt.mono {w : World} {R R' : List (Addr × Obj)} {d : Addr} (h : LinksAt w R d) (hs : ∀ q ∈ R, q ∈ R') : LinksAt w R' d :=
  let ⟨o, kvs, h1, h2, h3, h4⟩ := h
  ⟨o, kvs, hs _ h1, h2, h3, fun pg hp => let ⟨la, its, k, a, b, c⟩ := h4 pg hp; ⟨la, its, k, a, hs _ b, c⟩⟩
theorem ModesAt.mono {w : World} {R R' : List (Addr × Obj)} {d : Addr} {f : Str → Int} (h : ModesAt w R d f) (hs : ∀ q ∈ R, q ∈ R') : ModesAt w R' d f :=
  let ⟨o, kvs, h1, h2, h3, h4⟩ := h
  ⟨o, kvs, hs _ h1, h2, h3, h4⟩
end Mine
end
section
open PySem PySem.W PyProof.Rows PySem.Calls PySem.Spec
namespace Mine
section
variable {prog : Program} {w : World} {A : Around} {R : Result → Shared → Prop} {I S l N : Addr} {vs : List Value} {G : Heap → Prop} {bt : Nat → Nat → Bool}
/-- what a heap keeps below a bound -/
noncomputable abbrev LowKeep (N : Nat) (h h' : Heap) : Prop := ∀ b o, @LT.lt Nat _ b N → h.get? b = some o → h'.get? b = some o
theorem max_turns (hh : A.handled = none) (hlI : l ≠ I) (hSI : S ≠ I) (hSl : S ≠ l) (hI : @LE.le Nat _ N I) (hS : @LE.le Nat _ N S) (hl : ∀ h, G h → h.IsList l vs.toArray) (hG : ∀ h h', G h → LowKeep N h h' → G h')
    (hC : ∀ i j vi vj (s : Shared) (Q : Value → Shared → Prop) (E : Value → Shared → Prop), G s.heap → vs[i]? = some vi → vs[j]? = some vj → Q (.bool (bt i j)) s → wpAny (model prog w) A.in1 (richCompare .Gt vi vj) Q E s) :
    ∀ (r j : Nat) (s : Shared) (vb : Value) (c : Nat), vs.length - (j + 1) = r → j + 1 ≤ vs.length → s.heap.IsListIter I l (j + 1) → G s.heap → vs[argBest bt j]? = some vb →
    s.heap.get? S = some { cls := .type "list", dict := none, data := .seq #[vb, vb] c, slots := #[] } →
    (∀ v h' tk, vs[argBest bt (vs.length - 1)]? = some v → LowKeep N s.heap h' → R (.ok (.ret v)) { s with heap := h', toks := tk }) →
    codeAny (model prog w) A (.builtin "max.loop" ⟨[.ref I, .none, .ref S], []⟩) R s := by
  have hname : (toString "max" ++ toString ".loop" : String) = "max.loop" := by decide
  have W := Walks.list (prog := prog) (w := w) (A := A.in1) hh I l hlI vs.toArray
  have hsz : vs.toArray.size = vs.length := List.size_toArray ..
  have low1 : ∀ {h h' : Heap}, (∀ b o, b ∉ [I] → h.get? b = some o → h'.get? b = some o) → LowKeep N h h' := fun hk b o hb e => hk b o (fun q => by rw [List.mem_singleton.mp q] at hb; exact absurd hb (Nat.not_lt.mpr hI)) e
  have low2 : ∀ {h : Heap} {f : Obj → Obj}, LowKeep N h (h.update S f) := fun {h f} b o hb e => (Heap.get?_update_other _ _ (fun q : S = b => absurd (q ▸ hb) (Nat.not_lt.mpr hS))).trans e
  intro r
  induction r with
  | zero =>
    intro j s vb c hr hj hit g hvb hSo hR
    have hin : j + 1 = vs.length := by omega
    refine codeAny_builtin PySem.F.entry_max_loop ?_
    rw [Around.under_plainId PySem.F.plain_max_loop _]
    show wpAny _ A.in1 (seqItems? (.ref S) >>= _) _ _ s
    refine wpAny_bind (wpAny_seqItems hSo rfl ?_)
    show wpAny _ A.in1 (tryCatch (pyNext (.ref I)) _ >>= _) _ _ s
    refine wpAny_bind (wpAny_tryCatch (W.done s _ _ ⟨by rw [hsz, ← hin]; exact hit, hl _ g⟩ fun h' tk hk' => ?_))
    have hS' := hk' S _ (by simpa using hSI) hSo
    show wpAny _ A.in1 (updateSeq S (fun _ => #[]) >>= _) _ _ _
    refine wpAny_bind ?_
    refine wpAny_updateSeq hS' rfl (wpAny_bind (wpAny_letGo (wpAny_pure ?_)))
    refine hR vb _ tk (by rw [← hin]; exact hvb) fun b o hb e => low2 b o hb (low1 hk' b o hb e)
  | succ r ih =>
    intro j s vb c hr hj hit g hvb hSo hR
    have hlt : j + 1 < vs.length := by omega
    refine codeAny_builtin PySem.F.entry_max_loop ?_
    rw [Around.under_plainId PySem.F.plain_max_loop _]
    show wpAny _ A.in1 (seqItems? (.ref S) >>= _) _ _ s
    refine wpAny_bind (wpAny_seqItems hSo rfl ?_)
    show wpAny _ A.in1 (tryCatch (pyNext (.ref I)) _ >>= _) _ _ s
    refine wpAny_bind (wpAny_tryCatch (W.item (j + 1) s _ _ (by rw [hsz]; exact hlt) ⟨hit, hl _ g⟩ fun v h' tk hP hst' hk' => ?_))
    have hv : vs[j + 1]? = some v := by simpa using hP
    have g' : G h' := hG _ _ g (low1 hk')
    have hS' := hk' S _ (by simpa using hSI) hSo
    show wpAny _ A.in1 (tryCatch (holding [v, v] (richCompare .Gt v vb >>= _)) _ >>= _) _ _ _
    refine wpAny_bind (wpAny_tryCatch (wpAny_holding (wpAny_bind (hC (j + 1) (argBest bt j) v vb _ _ _ g' hv hvb ?_))))
    refine wpAny_bind (wpAny_holding (wpAny_truthy_bool ?_))
    refine wpAny_bind (wpAny_letGo (wpAny_pure ?_))
    cases hb : bt (j + 1) (argBest bt j) with
    | true =>
      simp only [if_true]
      refine wpAny_bind ?_
      refine wpAny_updateSeq hS' rfl (wpAny_bind (wpAny_letGo ?_))
      rw [hname]
      refine wpAny_pure ⟨plainId_quiet PySem.F.plain_max_loop _, ih (j + 1) _ v _ (by omega) hlt (hst'.1.at fun o e => (Heap.get?_update_other _ _ hSI).trans e) (hG _ _ g' low2) (by simp only [argBest, hb, if_true]; exact hv) (Heap.get?_update_self _ hS' rfl)
        fun v' h'' tk'' hP' hk'' => ?_⟩
      exact hR v' h'' tk'' hP' fun b o hb e => hk'' b o hb (low2 b o hb (low1 hk' b o hb e))
    | false =>
      simp only [Bool.false_eq_true, if_false]
      refine wpAny_bind (wpAny_letGo ?_)
      rw [hname]
      refine wpAny_pure ⟨plainId_quiet PySem.F.plain_max_loop _, ih (j + 1) _ vb c (by omega) hlt hst'.1 g' (by simp only [argBest, hb, Bool.false_eq_true, if_false]; exact hvb) hS' fun v' h'' tk'' hP' hk'' => ?_⟩
      exact hR v' h'' tk'' hP' fun b o hb e => hk'' b o hb (low1 hk' b o hb e)
end
section
variable {prog : Program} {w : World} {A : Around} {E : Value → Shared → Prop} {s : Shared} {l : Addr} {vs : List Value} {G : Heap → Prop} {bt : Nat → Nat → Bool}
theorem max_list_any {Q : Value → Shared → Prop} (hh : A.handled = none) (hne : 0 < vs.length) (hl : ∀ h, G h → h.IsList l vs.toArray) (g : G s.heap) (hG : ∀ h h', G h → LowKeep s.heap.objs.size h h' → G h')
    (hC : ∀ i j vi vj (s : Shared) (Q : Value → Shared → Prop) (E : Value → Shared → Prop), G s.heap → vs[i]? = some vi → vs[j]? = some vj → Q (.bool (bt i j)) s → wpAny (model prog w) A.in1 (richCompare .Gt vi vj) Q E s)
    (hQ : ∀ v h' tk, vs[argBest bt (vs.length - 1)]? = some v → LowKeep s.heap.objs.size s.heap h' → Q v { s with heap := h', toks := tk }) :
    wpAny (model prog w) A (call (.builtin "max") [.ref l]) Q E s := by
  have hname : (toString "max" ++ toString ".loop" : String) = "max.loop" := by decide
  have hls := hl _ g
  have hlt : l < s.heap.objs.size := by obtain ⟨_, e, _⟩ := hls; exact Heap.lt_size e
  refine call_function_tree PySem.F.kind_max PySem.F.plain_max PySem.F.entry_max (PySem.F.args_max1 _) ?_
  show wpAny _ A.in1 (Builtin.Builtins.bindParams "max" ["key", "default"] 0 ⟨[], []⟩ >>= _) _ _ s
  refine wpAny_bind (wpAny_of_eq (show Builtin.Builtins.bindParams "max" ["key", "default"] 0 ⟨[], []⟩ = pure [none, none] from rfl) ?_)
  refine wpAny_bind (wpAny_pure ?_)
  refine wpAny_bind (wpAny_pyIter_list hls ?_)
  refine wpAny_bind (wpAny_newObj_type ?_)
  rw [hname]
  have hlI : l ≠ s.heap.objs.size := Nat.ne_of_lt hlt
  have hS : (s.heap.push { cls := .type "list_iterator", data := .fields #[.ref l, .int 0 0] }).objs.size = s.heap.objs.size + 1 := size_push' ..
  generalize hSe : (s.heap.push { cls := .type "list_iterator", data := .fields #[.ref l, .int 0 0] }).objs.size = S at *
  have hSI : S ≠ s.heap.objs.size := by rw [hS]; exact Nat.succ_ne_self _
  have hSl : S ≠ l := by rw [hS]; exact Nat.ne_of_gt (Nat.lt_succ_of_lt hlt)
  have up : LowKeep s.heap.objs.size s.heap ((s.heap.push { cls := .type "list_iterator", data := .fields #[.ref l, .int 0 0] }).push { cls := .type "list", dict := none, data := .seq #[] }) := fun b o _ e => Heap.get?_push_of_some _ (Heap.get?_push_of_some _ e)
  have W := Walks.list (prog := prog) (w := w) (A := A.in1) hh s.heap.objs.size l hlI vs.toArray
  have hsz : vs.toArray.size = vs.length := List.size_toArray ..
  have hSo : ((s.heap.push { cls := .type "list_iterator", data := .fields #[.ref l, .int 0 0] }).push { cls := .type "list", dict := none, data := .seq #[] }).get? S = some { cls := .type "list", dict := none, data := .seq #[] } := by rw [← hSe]; exact Heap.get?_push_size _ rfl
  refine wpAny_pure ⟨plainId_quiet PySem.F.plain_max_loop _, ?_⟩
  refine codeAny_builtin PySem.F.entry_max_loop ?_
  rw [Around.under_plainId PySem.F.plain_max_loop _]
  show wpAny _ A.in1 (seqItems? (.ref S) >>= _) _ _ _
  refine wpAny_bind (wpAny_seqItems hSo rfl ?_)
  show wpAny _ A.in1 (tryCatch (pyNext (.ref s.heap.objs.size)) _ >>= _) _ _ _
  refine wpAny_bind (wpAny_tryCatch (W.item 0 _ _ _ (by rw [hsz]; exact hne) ⟨⟨_, Heap.get?_push_of_some _ (Heap.get?_push_size _ rfl), rfl, rfl⟩, hl _ (hG _ _ g up)⟩ fun v h' tk hP hst' hk' => ?_))
  have hv : vs[0]? = some v := by simpa using hP
  have low1 : LowKeep s.heap.objs.size s.heap h' := fun b o hb e => hk' b o (fun q => by rw [List.mem_singleton.mp q] at hb; exact Nat.lt_irrefl _ hb) (up b o hb e)
  have hS' := hk' S _ (by simpa using hSI) hSo
  show wpAny _ A.in1 (updateSeq S (fun _ => #[v, v]) >>= _) _ _ _
  refine wpAny_bind ?_
  refine wpAny_updateSeq hS' rfl ?_
  rw [hname]
  have low2 : LowKeep s.heap.objs.size s.heap (h'.update S (Obj.mapSeq fun _ => #[v, v])) := fun b o hb e => (Heap.get?_update_other _ _ (fun q : S = b => by rw [← q, hS] at hb; exact absurd hb (Nat.not_lt.mpr (Nat.le_succ _)))).trans (low1 b o hb e)
  refine wpAny_pure ⟨plainId_quiet PySem.F.plain_max_loop _, max_turns hh hlI hSI hSl (Nat.le_refl _) (by rw [hS]; exact Nat.le_succ _) hl hG hC _ 0 _ v _ rfl hne (hst'.1.at fun o e => (Heap.get?_update_other _ _ hSI).trans e) (hG _ _ g low2) hv (Heap.get?_update_self _ hS' rfl) fun v' h'' tk'' hP' hk'' => ?_⟩
  exact hQ v' h'' tk'' hP' fun b o hb e => hk'' b o hb (low2 b o hb e)
end
noncomputable abbrev hO (t : Int) (u : Tok) (b : Bool) : Obj := { cls := .type "tuple", data := .seq #[.int t u, .bool b] }
noncomputable def hgt (p q : Int × Bool) : Bool := if p.1 = q.1 then (p.2 && !q.2) else decide (p.1 > q.1)
section
variable {prog : Program} {w : World} {A : Around} {E : Value → Shared → Prop} {s : Shared} {a b : Addr} {t0 t1 : Int} {u0 u1 : Tok} {b0 b1 : Bool}
theorem eqBool_bools {Q : Bool → Shared → Prop} (hu : A.units + 64 < cLine) (h : Q (b0 == b1) s) : wpAny (model prog w) A (eqBool (.bool b0) (.bool b1)) Q E s := by
  refine PySem.SeqAt.eqBoolOverData prog w A E s (.bool b0) (.bool b1) (.bool b0) (.bool b1) _ _ Q (Reads.bool b0) (Reads.bool b1) rfl rfl (by show A.units + 0 < cLine; omega) ?_
  have e : PyData.eqv (.bool b0) (.bool b1) = (b0 == b1) := by cases b0 <;> cases b1 <;> decide
  rw [e]
  exact h
theorem hgt_tree {P : PySem.Fin → Shared → Prop} (hu : A.units + 64 < cLine) (ha : s.heap.get? a = some (hO t0 u0 b0)) (hb : s.heap.get? b = some (hO t1 u1 b1)) (h : P (.done (.ret (.bool (hgt (t0, b0) (t1, b1))))) s) :
    wpAny (model prog w) A (Builtin.«tuple.__gt__» ⟨[.ref a, .ref b], []⟩) P E s := by
  have hTb : s.TypeIs (.ref b) "tuple" := IsTup.typeIs ⟨_, hb, rfl, _, rfl⟩
  show wpAny _ _ (isInstance (.ref b) (.type "tuple") >>= _) _ _ s
  refine wpAny_bind (wpAny_isInstance hTb isSubtype_tuple_tuple ?_)
  simp only [Bool.not_true, Bool.false_eq_true, if_false]
  refine wpAny_bind (wpAny_tupleItemsOf ha rfl ?_)
  refine wpAny_bind (wpAny_tupleItemsOf hb rfl ?_)
  show wpAny _ _ (forIn [(Value.int t0 u0, Value.int t1 u1), (Value.bool b0, Value.bool b1)] _ _ >>= _) _ _ s
  rw [List.forIn_cons]
  refine wpAny_bind (wpAny_bind (wpAny_bind ((intKind prog w).eqBool (a := t0) (b := t1) (intKind_is prog w _ _) (intKind_is prog w _ _) ?_)))
  unfold hgt at h
  by_cases ht : t0 = t1
  · subst ht
    rw [if_pos rfl] at h
    simp only [decide_true, Bool.not_true, Bool.false_eq_true, if_false]
    refine wpAny_pure ?_
    dsimp only
    rw [List.forIn_cons]
    refine wpAny_bind (wpAny_bind (eqBool_bools hu ?_))
    by_cases hx : b0 = b1
    · subst hx
      simp only [beq_self_eq_true, Bool.not_true, Bool.false_eq_true, if_false]
      refine wpAny_pure ?_
      dsimp only
      rw [List.forIn_nil]
      refine wpAny_pure ?_
      dsimp only
      have e : (b0 && !b0) = false := by cases b0 <;> rfl
      dsimp only at h
      rw [e] at h
      exact wpAny_pure h
    · have e0 : (b0 == b1) = false := by simpa using hx
      simp only [e0, Bool.not_false, if_true]
      refine wpAny_bind (wpAny_rule ?_)
      refine wpAny_bind (gt_bool (p := b0) (q := b1) ?_)
      have e : decide (b2i b0 > b2i b1) = (b0 && !b1) := by cases b0 <;> cases b1 <;> first | rfl | decide
      rw [e]
      exact wpAny_bind (wpAny_pure (wpAny_pure (wpAny_pure (wpAny_pure h))))
  · rw [if_neg ht] at h
    simp only [decide_eq_false ht, Bool.not_false, if_true]
    refine wpAny_bind (wpAny_rule ?_)
    refine wpAny_bind (gt_int ?_)
    exact wpAny_bind (wpAny_pure (wpAny_pure (wpAny_pure (wpAny_pure h))))
theorem h_gt {Q : Value → Shared → Prop} (hu : A.units + 100 < cLine) (ha : s.heap.get? a = some (hO t0 u0 b0)) (hb : s.heap.get? b = some (hO t1 u1 b1)) (h : Q (.bool (hgt (t0, b0) (t1, b1))) s) :
    wpAny (model prog w) A (richCompare .Gt (.ref a) (.ref b)) Q E s := by
  have hTa : s.TypeIs (.ref a) "tuple" := IsTup.typeIs ⟨_, ha, rfl, _, rfl⟩
  have hTb : s.TypeIs (.ref b) "tuple" := IsTup.typeIs ⟨_, hb, rfl, _, rfl⟩
  exact wpAny_richCompare_same_room (op := .Gt) hTa hTb PySem.F.slot_tuple_gt
      (wpAny_call_entry PySem.F.slot_tuple_gt hTa PySem.F.entry_tuple_gt (hgt_tree (by simp only [Around.mark_units]; omega) ha hb ⟨_, rfl, (fun e => nomatch e), h⟩) (PySem.F.args_tuple_gt_2 _ _)) (by omega)
end
end Mine
end
section
open PySem PySem.W PyProof.Rows PySem.Calls PySem.Spec
namespace Mine
theorem kt_Rule : True := by
  k_with_none
  k_with "eval Constant str" => (k_here; with_reducible refine const_str ?_)
  k_with "eval Constant int" => (k_here; with_reducible refine const_int ?_)
  k_with "spliced" => (k_here; dsimp only)
  k_with "storeName" => (k_here; dsimp only)
  k_with "m all" => (first | assumption | (tbn_letter; refine all_of_lt (by tbn_find) (by omega)))
  trivial
theorem lit_elim {α : Type} {x y z : α} {P : Prop} (h1 : x = y) (h2 : y = z → P) : x = z → P := fun h => h2 (h1.symm.trans h)
/-- the rule's path holds for the page -/
noncomputable def inTwo (p way : Str) : Bool := [Str.ofString "/", way].any fun x => x == p
noncomputable def under (p way : Str) : Bool := Txt.slice way none (some (↑p.length + 1)) == p ++ Str.ofString "/"
noncomputable def mval (p way : Str) : Int := if inTwo p way = true then ↑p.length + 1 else if under p way = true then ↑p.length + 1 else 0
theorem mval_1 {p way : Str} (h : ([Str.ofString "/", way].any fun x => x == p) = true) : mval p way = ↑p.length + 1 := by
  unfold mval; rw [if_pos (show inTwo p way = true from h)]
theorem mval_2 {p way : Str} (h : ([Str.ofString "/", way].any fun x => x == p) = false) (h2 : (Txt.slice way none (some (↑p.length + 1)) == p ++ Str.ofString "/") = true) : mval p way = ↑p.length + 1 := by
  unfold mval; rw [if_f (show inTwo p way = false from h), if_pos (show under p way = true from h2)]
theorem mval_3 {p way : Str} (h : ([Str.ofString "/", way].any fun x => x == p) = false) (h2 : (Txt.slice way none (some (↑p.length + 1)) == p ++ Str.ofString "/") = false) : mval p way = 0 := by
  unfold mval; rw [if_f (show inTwo p way = false from h), if_f (show under p way = false from h2)]
/-- what a rule's own function answers, wherever it is called -/
noncomputable def LamOk (w : World) (mean : ExcName → Option Value) (mg mb : Str → Option Value) (loose : List Str) (E0 : List (Addr × Obj)) (lam : Addr) (p : Str) : Prop :=
  ∀ (dp un : Nat) (gd : Option (List Code)) (cn : Str) (nm : List (Str × NameKind)) (ig ic : Bool) (mr : List (Str × Const)) (a : Addr) (ccd : Value) (cl : List (Str × Addr)) (outer : List Env) (A₀ : Around) (base h₀ : Heap) (L : Addr) (m : Str → Option Value) (s : Shared) (Q E : Value → Shared → Prop) (news : List (Addr × Obj)) (way : Str) (t : Tok),
    Below A₀ base outer h₀ → Fr h₀ L s.heap m → (heapK w.params).In h₀ → News h₀ L s.heap news → Top topProg loose mean mg mb h₀ → CodeHd base 149 145 → dp + 3 < recursionLimit → un + 200 < cLine → (∀ q ∈ E0, q ∈ news) → way.length ≤ 100 →
    (∀ t' h' tk', Fr h₀ L h' m → News h₀ L h' news → Q (.int (mval p way) t') { s with heap := h', toks := tk' }) →
    wpAny (model PySem.Challenge.rw_oy0154_01.prog w) (ktrTop dp un gd cn ⟨.function, nm, ig, ic, mr⟩ L a ccd cl outer) (call (.ref lam) [.str way t]) Q E s
section
variable {w : World} {mean : ExcName → Option Value} {mg mb : Str → Option Value} {loose : List Str}
   {oc : Value} {od : Option Addr} {osl : Array (Option Value)} {name qual : Str} {params : Arguments} {scope : Scope} {dV kV doc pm0 cdv ct : Value} {an : Option Addr} {s0 s2 s3 : Stmt} {ts : List Expr} {la : Arguments} {lb : Expr} {ls : Scope} {lp pp : Pos}
set_option maxHeartbeats 4000000 in
theorem lam_spec (hlit : (heapK w.params).lookup 150 = some ⟨oc, od, .func (fnOf name qual params [s0, .Assign ts (.Lambda la lb ls lp) pp, s2, s3] scope dV kV doc pm0 an cdv ct), osl⟩)
   {lam cc cell : Addr} {occ co : Obj} {vs : Array Value} {q : Str} {qt tp : Tok} {pm lct : Value} {p : Str}
   (h1 : occ.data = .fields vs) (h2 : vs[1]? = some (.str q qt)) (h3 : co.data = .cell (some (.str p tp))) (hp : p.length ≤ 100) :
   LamOk w mean mg mb loose [(lam, kla_obj (Str.ofString "<lambda>") q la lb ls [(Str.ofString "path", cell)] pm cc lct), (cc, occ), (cell, co)] lam p := by
  intro dp un gd cn nm ig ic mr a ccd cl outer A₀ base h₀ L m s Q E news way t B F X N T C hdp hun hE hw hret
  have N0 : News h₀ L s.heap ((lam, kla_obj (Str.ofString "<lambda>") q la lb ls [(Str.ofString "path", cell)] pm cc lct) :: (cc, occ) :: (cell, co) :: news) := by
    intro x hx
    rcases List.mem_cons.mp hx with rfl | hx
    · exact N _ (hE _ (by simp))
    rcases List.mem_cons.mp hx with rfl | hx
    · exact N _ (hE _ (by simp))
    rcases List.mem_cons.mp hx with rfl | hx
    · exact N _ (hE _ (by simp))
    · exact N _ hx
  clear N hE
  revert T N0 X hlit
  k_fill
  refine lit_elim (by k_dflt k_is) ?_
  intro e
  cases e
  intro X N T
  refine wpAny_call ?_
  k_dflt kla_enter
  k_steps
  all_goals ((rename News h₀ _ _ _ => nE); (rename Fr h₀ _ _ _ => fE); (first | rw [mval_1 (by assumption)] at hret | rw [mval_2 (by assumption) (by assumption)] at hret | rw [mval_3 (by assumption) (by assumption)] at hret); exact hret _ _ _ fE (cb_drop nE (by intro p hp; repeat (first | exact hp | refine List.Mem.tail _ ?_))))
end
noncomputable def keyH (w : World) (x : Str) : Int := PyData.keyHash w.params x
/-- a rule as the text lays it: a function that bears two names of its own -/
noncomputable def RuleAt (w : World) (mean : ExcName → Option Value) (mg mb : Str → Option Value) (loose : List Str) (R : List (Addr × Obj)) (v : Value) (r : Str × Bool) : Prop :=
  ∃ f d lam fd sl lfd t1 t2 E0, v = .ref f ∧ (f, (⟨.type "function", some d, .func fd, sl⟩ : Obj)) ∈ R ∧
    (d, dictOf [⟨PyData.keyHash w.params (Str.ofString "applies_to"), .str (Str.ofString "applies_to") t1, .ref lam⟩, ⟨PyData.keyHash w.params (Str.ofString "allowance"), .str (Str.ofString "allowance") t2, .bool r.2⟩] 2) ∈ R ∧
    (lam, ({ cls := .type "function", data := .func lfd } : Obj)) ∈ R ∧ (∀ q ∈ E0, q ∈ R) ∧ LamOk w mean mg mb loose E0 lam r.1 ∧ (∀ q ∈ E0, q.2.data ≠ .cell none)
theorem RuleAt.gen {w : World} {mean : ExcName → Option Value} {mg mb : Str → Option Value} {loose : List Str} {R R' : List (Addr × Obj)} {v : Value} {r : Str × Bool} (hs : ∀ q ∈ R, q.2.data ≠ .cell none → q ∈ R') : RuleAt w mean mg mb loose R v r → RuleAt w mean mg mb loose R' v r :=
  Exists.imp fun _ => Exists.imp fun _ => Exists.imp fun _ => Exists.imp fun _ => Exists.imp fun _ => Exists.imp fun _ => Exists.imp fun _ => Exists.imp fun _ => Exists.imp fun _ => And.imp_right <| And.imp (fun h => hs _ h fun e => nomatch e) <| And.imp (fun h => hs _ h fun e => nomatch e) <| And.imp (fun h => hs _ h fun e => nomatch e) fun k => ⟨fun q hq => hs _ (k.1 q hq) (k.2.2 q hq), k.2⟩
theorem RuleAt.mono {w : World} {mean : ExcName → Option Value} {mg mb : Str → Option Value} {loose : List Str} {R R' : List (Addr × Obj)} {v : Value} {r : Str × Bool} (h : RuleAt w mean mg mb loose R v r) (hs : ∀ q ∈ R, q ∈ R') : RuleAt w mean mg mb loose R' v r :=
  h.gen fun q hq _ => hs q hq
end Mine
end
section
open PySem PySem.W PyProof.Rows PySem.Calls PySem.Spec
namespace Mine
open AutoSeq1 (wpAny_loadPart')
section
variable {prog : Program} {w : World} {A : Around} {E : Value → Shared → Prop} {s : Shared}
theorem nextT_item {it t : Addr} {i : Nat} {items : Array Value} {x : Value} {Q : Value → Shared → Prop} (hit : s.heap.IsTupleIter it t i) (ht : s.heap.IsTuple t items) (hx : items[i]? = some x)
    (hQ : ∀ h', h'.IsTupleIter it t (i + 1) → Heap.SameBut it s.heap h' → Q x { s with heap := h' }) : wpAny (model prog w) A (Builtin.SmallTypes.nextOf (.ref it)) Q E s := by
  obtain ⟨o, ho, hc, hd⟩ := id hit
  obtain ⟨ol, hol, _, nl, hdl⟩ := ht
  unfold Builtin.SmallTypes.nextOf
  refine wpAny_bind (wpAny_callSpecial?_slot (name := Str.ofString "__next__") hit.typeIs F.slot_tuple_iterator_next
    (wpAny_call_entry F.slot_tuple_iterator_next hit.typeIs F.entry_tuple_iterator_next ?_ (F.args_tuple_iterator_next_1 _)))
  show wpAny _ _ (field (.ref it) 0 >>= _) _ _ s
  refine wpAny_bind (wpAny_field ho hd (x := .ref t) rfl ?_)
  show wpAny _ _ (if (Value.ref t == Value.none) = true then _ else _) _ _ s
  rw [if_neg (show ¬ ((Value.ref t == Value.none) = true) from Bool.false_ne_true)]
  show wpAny _ _ (field (.ref it) 1 >>= _) _ _ s
  refine wpAny_bind (wpAny_field ho hd (x := .int i 0) rfl ?_)
  show wpAny _ _ (seqItems? (.ref t) >>= _) _ _ s
  refine wpAny_bind (wpAny_seqItems hol hdl ?_)
  simp only [Int.toNat_natCast, hx]
  refine wpAny_bind (wpAny_setField ho hd (by simp) (wpAny_pure ⟨x, rfl, wpAny_pure (hQ _ ?_ (Heap.SameBut.update ..))⟩))
  exact ⟨_, Heap.get?_update_self _ ho (Obj.isFreed_of_fields (Obj.data_mapFields hd _)), (Obj.cls_mapFields ..).trans hc, by rw [Obj.data_mapFields hd]; simp [rawInt]⟩
theorem nextT_end {it t : Addr} {i : Nat} {items : Array Value} {Q : Value → Shared → Prop} (hh : A.handled = none) (hit : s.heap.IsTupleIter it t i) (ht : s.heap.IsTuple t items) (hx : items[i]? = none)
    (hE : ∀ h' e, Heap.ExtBut it s.heap h' → (∃ o, h'.get? e = some o ∧ o.cls = .type "StopIteration") → E (.ref e) { s with heap := h' }) : wpAny (model prog w) A (Builtin.SmallTypes.nextOf (.ref it)) Q E s := by
  obtain ⟨o, ho, hc, hd⟩ := id hit
  obtain ⟨ol, hol, _, nl, hdl⟩ := ht
  unfold Builtin.SmallTypes.nextOf
  refine wpAny_bind (wpAny_callSpecial?_slot (name := Str.ofString "__next__") hit.typeIs F.slot_tuple_iterator_next
    (wpAny_call_entry F.slot_tuple_iterator_next hit.typeIs F.entry_tuple_iterator_next ?_ (F.args_tuple_iterator_next_1 _)))
  show wpAny _ _ (field (.ref it) 0 >>= _) _ _ s
  refine wpAny_bind (wpAny_field ho hd (x := .ref t) rfl ?_)
  show wpAny _ _ (if (Value.ref t == Value.none) = true then _ else _) _ _ s
  rw [if_neg (show ¬ ((Value.ref t == Value.none) = true) from Bool.false_ne_true)]
  show wpAny _ _ (field (.ref it) 1 >>= _) _ _ s
  refine wpAny_bind (wpAny_field ho hd (x := .int i 0) rfl ?_)
  show wpAny _ _ (seqItems? (.ref t) >>= _) _ _ s
  refine wpAny_bind (wpAny_seqItems hol hdl ?_)
  simp only [Int.toNat_natCast, hx]
  refine wpAny_bind (wpAny_rule (wpAny_bind (wpAny_setField ho hd (by simp) ?_)))
  show wpAny _ _ (newExc (.type "StopIteration") [] >>= _) _ _ _
  refine wpAny_bind ?_
  simp only [newExc, newTuple]
  refine wpAny_bind (wpAny_newObj_type ?_ (by size_fits))
  refine wpAny_bind (m := firstArgMember _ _) (wpAny_of_eq (a := Value.none) (by first | rfl | (simp only [firstArgMember]; rfl)) ?_)
  refine wpAny_newObj_type ?_ (by size_fits)
  simp only [raiseNew]
  refine wpAny_bind (wpAny_handled ?_)
  first | rw [show A.in1.handled = none from hh] | rw [hh]
  refine wpAny_bind (wpAny_pure (wpAny_throw ?_))
  exact hE _ _ (((Heap.SameBut.update ..).extBut.push _).push _) ⟨_, Heap.get?_push_size _ rfl, rfl⟩
end
theorem isTuple_at {h h' : Heap} {a : Addr} {items : Array Value} (x : h.IsTuple a items) (e : ∀ o, h.get? a = some o → h'.get? a = some o) : h'.IsTuple a items := let ⟨o, ho, r⟩ := x; ⟨o, e _ ho, r⟩
theorem isTupleIter_at {h h' : Heap} {a t : Addr} {i : Nat} (x : h.IsTupleIter a t i) (e : ∀ o, h.get? a = some o → h'.get? a = some o) : h'.IsTupleIter a t i := let ⟨o, ho, r⟩ := x; ⟨o, e _ ho, r⟩
theorem drawsT {prog : Program} {w : World} {A : Around} (hh : A.handled = none) (it t : Addr) (hne : t ≠ it) (items : Array Value) :
    Draws prog w A it [it, t] items.size (fun i v => items[i]? = some v) (fun i h => h.IsTupleIter it t i ∧ h.IsTuple t items) where
  live := fun _ _ st => let ⟨o, ho, _⟩ := st.1; ⟨o, ho⟩
  frame := fun _ _ _ st hk => ⟨isTupleIter_at st.1 fun o e => hk it (by simp) o e, isTuple_at st.2 fun o e => hk t (by simp) o e⟩
  item := fun i s Q E hi st hQ => by
    refine nextT_item st.1 st.2 (x := items[i]) (by simp [hi]) fun h' hit' hs' => ?_
    exact hQ _ h' s.toks (by simp [hi]) ⟨hit', st.2.extBut hs'.extBut hne⟩ hs'
  done := fun s Q E st hE => nextT_end hh st.1 st.2 (by simp) hE
theorem meets_enumT (l : Addr) (items : Array Value) (n : Nat) (dct : Option Addr) (sl : Array (Option Value)) :
    Meets (Builtin.«enumerate.__new__» ⟨[.type "enumerate", .ref l], []⟩) (fun _ R s => s.heap.get? l = some { cls := .type "tuple", dict := dct, data := .seq items n, slots := sl } ∧
      R (.ok (.ret (.ref (s.heap.push { cls := .type "tuple_iterator", data := .fields #[.ref l, .int 0 0] }).objs.size)))
        { s with heap := (s.heap.push { cls := .type "tuple_iterator", data := .fields #[.ref l, .int 0 0] }).push { cls := .type "enumerate", data := .fields #[.none, .bool false, .ref s.heap.objs.size, rawInt 0, .none, .none] } }) :=
  .of_wp fun prog w A R s h => by
    obtain ⟨hp, g, d, tk, os⟩ := s; obtain ⟨hl, h⟩ := h
    have hsub := sub_enumerate
    have hL : Heap.IsTuple (Shared.heap ⟨hp, g, d, tk, os⟩) l items := ⟨_, hl, rfl, n, rfl⟩
    wp_walk using wpAny_loadPart' hl
    refine wpAny_stack_any fun st => wpAny_pure ?_
    split
    · rename_i c _ _ _ _ _
      cases (c == Value.type "enumerate")
      · wp_walk using wpAny_loadPart' hl, wpAny_pyIter_tuple hL
        exact ⟨_, rfl, h⟩
      · wp_walk using wpAny_loadPart' hl, wpAny_pyIter_tuple hL
        exact ⟨_, rfl, h⟩
    · wp_walk using wpAny_loadPart' hl, wpAny_pyIter_tuple hL
      exact ⟨_, rfl, h⟩
section
variable {prog : Program} {w : World} {A : Around} {E : Value → Shared → Prop} {s : Shared}
theorem call_enumT {l : Addr} {items : Array Value} {Q : Value → Shared → Prop} (hL : s.heap.IsTuple l items)
    (h : ∀ h', IsEnum h' (s.heap.objs.size + 1) s.heap.objs.size 0 .none → h'.IsTupleIter s.heap.objs.size l 0 → h'.objs.size = s.heap.objs.size + 2 →
      (∀ b o, s.heap.get? b = some o → h'.get? b = some o) → Q (.ref (s.heap.objs.size + 1)) { s with heap := h' }) :
    wpAny (model prog w) A (call (.type "enumerate") [.ref l]) Q E s := by
  obtain ⟨⟨c, dct, dt, sl⟩, hl, hc, n, hd⟩ := hL
  replace hc : c = .type "tuple" := hc
  replace hd : dt = .seq items n := hd
  subst hc hd
  refine callType_new F.called_enumerate (by decide) (F.typeCall_enumerate_1 _) (F.newCall_enumerate_1 _) (fun obj => F.args_object_init_2 obj _) F.entry_enumerate_new
    (meets_enumT l items n dct sl) ⟨hl, ?_⟩
  have hz : (s.heap.push { cls := .type "tuple_iterator", data := .fields #[.ref l, .int 0 0] }).objs.size = s.heap.objs.size + 1 := Heap.size_push ..
  show _ ∧ _
  rw [hz]
  have he : IsEnum ((s.heap.push { cls := .type "tuple_iterator", data := .fields #[.ref l, .int 0 0] }).push
      { cls := .type "enumerate", data := .fields #[.none, .bool false, .ref s.heap.objs.size, rawInt 0, .none, .none] }) (s.heap.objs.size + 1) s.heap.objs.size 0 .none := by
    have := Heap.get?_push_size (s.heap.push { cls := .type "tuple_iterator", data := .fields #[.ref l, .int 0 0] })
      (o := { cls := .type "enumerate", data := .fields #[.none, .bool false, .ref s.heap.objs.size, rawInt 0, .none, .none] }) rfl
    rw [hz] at this; exact this
  refine ⟨⟨_, he, rfl⟩, h _ he ⟨_, Heap.get?_push_of_some _ (Heap.get?_push_size _ rfl), rfl, rfl⟩ (by rw [Heap.size_push, hz]) fun b o x => Heap.get?_push_of_some _ (Heap.get?_push_of_some _ x)⟩
variable {env : Env} {h₀ : Heap} {target : Expr} {body orelse : List Stmt} {Q : Flow → Shared → Prop}
/-- for .. in enumerate(a tuple that stands from of old) -/
theorem enumT_turns {elts : List Expr} {k : Nat} {pos : Pos} {l : Addr} {vs : List Value} {m₀ : Str → Option Value} {news : List (Addr × Obj)}
    (hh : A.handled = none) (F : Fr h₀ env.locals s.heap m₀) (N : News h₀ env.locals s.heap news) (hg : h₀.IsTuple l vs.toArray)
    (rest₀ : ∀ I : Addr, (∀ p ∈ news, p.1 < I) → ItemsRest prog w A E h₀ env (.Tuple elts k pos) body Q s [(I + 1, "enumerate"), (I, "tuple_iterator")] [] (enumItems 0 vs) m₀ news) :
    wpAny (model prog w) A (call (.type "enumerate") [.ref l]) (fun xv s₁ => wpAny (model prog w) A (pyIter xv) (fun it s₂ => TurnsAt prog w A h₀ env (.Tuple elts k pos) body Q E it s₂) E s₁) E s := by
  have hl : s.heap.IsTuple l vs.toArray := isTuple_at hg fun o e => F.keep _ _ e
  obtain ⟨lo, hlo, _⟩ := id hl
  obtain ⟨lo₀, hlo₀, _⟩ := id hg
  have hlt : l < s.heap.objs.size := Heap.lt_size hlo
  have hLs : env.locals < s.heap.objs.size := F.ns.lt
  refine call_enumT hl fun h' hE hI hsz hk => ?_
  refine wpAny_pyIter_enum hE ?_
  refine ktg_core (tk0 := s.toks) (keep := []) (KTurns.ofWalksU (WalksT.enumerateD (drawsT (A := A.in1) hh s.heap.objs.size l (Nat.ne_of_lt hlt) vs.toArray) (s.heap.objs.size + 1) (Nat.succ_ne_self _) ?hef (by simp)).toU) (by simp [enumItems_length]) ?_ ?_ ?_ ?_ ?_ ?_ ?_ ?_ (F.keeps hk) (N.grown hk) trivial (rest₀ _ fun p hp => Heap.lt_size (N p hp).1)
  case hef =>
    intro hm
    have hb' : s.heap.objs.size + 1 = s.heap.objs.size ∨ s.heap.objs.size + 1 = l := by simpa using hm
    rcases hb' with e | e
    · exact Nat.succ_ne_self _ e
    · exact ktu_ne 1 hlt e.symm
  · rintro i v h ⟨T, vals, rfl, ⟨t, x, hx, rfl⟩, hT⟩
    refine ⟨_, enumItems_get vs 0 i (v := x) (by simpa using hx), T, t, rfl, ?_⟩
    show IsTup h T #[.int ((0 + i : Nat) : Int) t, x]
    rw [Nat.zero_add]
    exact hT
  · rintro i h ⟨⟨old, he⟩, ⟨oi, hoi, hic, _⟩, _⟩
    have he' : ∃ oe : Obj, h.get? (s.heap.objs.size + 1) = some oe ∧ oe.cls = .type "enumerate" := ⟨_, he, rfl⟩
    obtain ⟨oe, h1, h2⟩ := he'
    refine ⟨[(s.heap.objs.size + 1, oe), (s.heap.objs.size, oi)], ⟨⟨rfl, h2⟩, ⟨rfl, hic⟩, trivial⟩, fun p hp => ?_⟩
    rcases List.mem_cons.mp hp with rfl | hp
    · exact h1
    · rw [List.mem_singleton.mp hp]; exact hoi
  · intro b hb
    have hb' : b = s.heap.objs.size + 1 ∨ b = s.heap.objs.size := by simpa using hb
    rcases hb' with rfl | rfl
    · exact ⟨by simp, ktu_new F (Nat.le_add_right _ _)⟩
    · exact ⟨by simp, ktu_new F (Nat.le_refl _)⟩
  · intro b hb
    simpa using hb
  · intro b hb
    have hb' : b = s.heap.objs.size + 1 ∨ b = s.heap.objs.size ∨ b = l := by simpa using hb
    rcases hb' with rfl | rfl | rfl
    · exact .inl (by simp)
    · exact .inl (by simp)
    · exact .inr (.inr ⟨lo₀, hlo₀⟩)
  · intro hI'
    have hb' : env.locals = s.heap.objs.size + 1 ∨ env.locals = s.heap.objs.size ∨ env.locals = l := by simpa using hI'
    rcases hb' with e | e | e
    · exact ktu_ne 1 hLs e
    · exact Nat.ne_of_lt hLs e
    · exact absurd (Heap.lt_size hlo₀) (Nat.not_lt.mpr (e ▸ F.above))
  · intro p hp hI'
    have hb' : p.1 = s.heap.objs.size + 1 ∨ p.1 = s.heap.objs.size := by simpa using hI'
    have hpl := Heap.lt_size (N p hp).1
    rcases hb' with e | e
    · exact ktu_ne 1 hpl e
    · exact Nat.ne_of_lt hpl e
  · exact ⟨⟨.none, hE⟩, hI, isTuple_at hl fun o e => hk l o e⟩
/-- the end of a turn of a for that has an else -/
noncomputable def ElsePost (h₀ : Heap) (L : Addr) (s : Shared) (I : Addr) (oI : Obj) (news : List (Addr × Obj)) (stored : List Str) (m₀ : Str → Option Value) (P : Prop) (Q : Flow → Shared → Prop) (f : Flow) (s₂ : Shared) : Prop := match f with
  | .ret v => Q (.ret v) s₂
  | .brk => Q .next s₂
  | _ => ∃ (h' : Heap) (tk' : Nat) (m' : Str → Option Value) (news' : List (Addr × Obj)), s₂ = { s with heap := h', toks := tk' } ∧ Fr h₀ L h' m' ∧ News h₀ L h' news' ∧ (∀ p ∈ (I, oI) :: news, p ∈ news') ∧ (∀ z, stored.contains z = false → m' z = m₀ z) ∧ P
theorem else_end {h₀ : Heap} {L I : Addr} {s : Shared} {oI : Obj} {news news' : List (Addr × Obj)} {stored : List Str} {m₀ m' : Str → Option Value} {P : Prop} {Q : Flow → Shared → Prop} {h' : Heap} {tk' : Nat} (F : Fr h₀ L h' m') (N : News h₀ L h' news') (hs : ∀ p ∈ (I, oI) :: news, p ∈ news') (hm : ∀ z, stored.contains z = false → m' z = m₀ z) (hp : P) :
    ElsePost h₀ L s I oI news stored m₀ P Q .next { s with heap := h', toks := tk' } := ⟨h', tk', m', news', rfl, F, N, hs, hm, hp⟩
theorem else_brk {h₀ : Heap} {L I : Addr} {s s₂ : Shared} {oI : Obj} {news : List (Addr × Obj)} {stored : List Str} {m₀ : Str → Option Value} {P : Prop} {Q : Flow → Shared → Prop} (h : Q .next s₂) : ElsePost h₀ L s I oI news stored m₀ P Q .brk s₂ := h
noncomputable def ElseAt (prog : Program) (w : World) (A : Around) (h₀ : Heap) (env : Env) (target : Expr) (body orelse : List Stmt) (Q : Flow → Shared → Prop) (E : Value → Shared → Prop) (xv : Value) (s₁ : Shared) : Prop :=
  ∃ (ax : Addr) (vs : Array Value) (m₀ : Str → Option Value) (news : List (Addr × Obj)) (stored : List Str) (P : Nat → Prop), xv = .ref ax ∧ A.handled = none ∧ h₀.IsTuple ax vs ∧ Fr h₀ env.locals s₁.heap m₀ ∧ News h₀ env.locals s₁.heap news ∧ P 0 ∧
    (∀ i v (u : Str → Option Value) h tk (I : Addr) (oI : Obj), vs[i]? = some v → P i → (∀ p ∈ news, p.1 ≠ I) → Fr h₀ env.locals h (fun z => if stored.contains z then u z else m₀ z) → News h₀ env.locals h ((I, oI) :: news) →
      wpAny (model prog w) A (assign target env v) (fun _ s₂ => wpAny (model prog w) A (execs body env) (ElsePost h₀ env.locals s₁ I oI news stored m₀ (P (i + 1)) Q) E s₂) E { s₁ with heap := h, toks := tk }) ∧
    (∀ (u : Str → Option Value) h tk, P vs.size → Fr h₀ env.locals h (fun z => if stored.contains z then u z else m₀ z) → News h₀ env.locals h news → wpAny (model prog w) A (execs orelse env) Q E { s₁ with heap := h, toks := tk })
theorem For_else {iter : Expr} {pos : Pos} {m : Str → Option Value} (_F : Fr h₀ env.locals s.heap m)
    (h : wpAny (model prog w) A (eval iter env) (ElseAt prog w A h₀ env target body orelse Q E) E s)
    (hs : ∀ x, foldedSetIterable iter env x = pure x := by intro _; rfl)
    (hE : PassesOwn (model prog w) A env E := by passes_own) :
    wpAny (model prog w) A (exec (.For target iter body orelse pos) env) Q E s := by
  refine wpAny_For (wpAny_mono h (fun xv s₁ h₁ => ?_) fun _ _ e => e) hs
  obtain ⟨ax, vs, m₀, news, stored, P, rfl, hh, hg, F, N, h0, turn, done⟩ := h₁
  have hl : s₁.heap.IsTuple ax vs := isTuple_at hg fun o e => F.keep _ _ e
  obtain ⟨lo, hlo, _⟩ := id hl
  have hlt : ax < s₁.heap.objs.size := Heap.lt_size hlo
  refine wpAny_pyIter_tuple hl ?_
  refine codeAny_forLoop_any
    (fun k s' => ∃ h' tk m' i, s' = { s₁ with heap := h', toks := tk } ∧ h'.IsTupleIter s₁.heap.objs.size ax i ∧ Fr h₀ env.locals h' m' ∧ News h₀ env.locals h' news ∧ (∀ z, stored.contains z = false → m' z = m₀ z) ∧ P i ∧ i ≤ vs.size ∧ k = vs.size + 1 - i) ?_ (vs.size + 1)
    ⟨_, s₁.toks, m₀, 0, rfl, ⟨_, Heap.get?_push_size _ rfl, rfl, rfl⟩, F.push _, fun p hp => ⟨Heap.get?_push_of_some _ (N p hp).1, (N p hp).2⟩, fun _ _ => rfl, h0, Nat.zero_le _, rfl⟩
  rintro k s' ⟨h', tk, m', i, rfl, hit, F', N', hm', hP, hi, rfl⟩
  have hLI : env.locals ≠ s₁.heap.objs.size := Nat.ne_of_lt F.ns.lt
  have hI0 : h₀.get? s₁.heap.objs.size = none := next_is_new F
  have hnI : ∀ p ∈ news, p.1 ≠ s₁.heap.objs.size := fun p hp => Nat.ne_of_lt (Heap.lt_size (N p hp).1)
  have hl' : h'.IsTuple ax vs := isTuple_at hg fun o e => F'.keep _ _ e
  have fr : ∀ {h₂ : Heap} {m₂ : Str → Option Value}, (∀ z, stored.contains z = false → m₂ z = m₀ z) → Fr h₀ env.locals h₂ m₂ → Fr h₀ env.locals h₂ (fun z => if stored.contains z then m₂ z else m₀ z) := fun {h₂ m₂} hz F₂ => by
    have e : (fun z => if stored.contains z then m₂ z else m₀ z) = m₂ := by
      funext z
      cases hc : stored.contains z with
      | true => simp
      | false => simp [hz z hc]
    rw [e]; exact F₂
  by_cases hlti : i < vs.size
  · refine wpAny_pyNext_tuple_item hit hl' (x := vs[i]) (by simp [hlti]) fun h₁ hit₁ hs₁ => ?_
    refine letGo_tupleiter hit₁ ?_
    obtain ⟨oI, hoI, hoc, hod⟩ := id hit₁
    have keep1 : ∀ b o, b ≠ s₁.heap.objs.size → h'.get? b = some o → h₁.get? b = some o := fun b o hb e => (hs₁.2 b hb).trans e
    have F₁ : Fr h₀ env.locals h₁ m' := ⟨F'.ns.at' fun o e => keep1 _ o hLI e, fun b o e => keep1 b o (fun q => by rw [q, hI0] at e; cases e) (F'.keep b o e), F'.above⟩
    have N₁ : News h₀ env.locals h₁ ((s₁.heap.objs.size, oI) :: news) := fun p hp => by
      rcases List.mem_cons.mp hp with rfl | hp
      · exact ⟨hoI, Ne.symm hLI, hI0⟩
      · exact ⟨keep1 _ _ (hnI p hp) (N' p hp).1, (N' p hp).2⟩
    have t0 := turn i vs[i] m' h₁ tk s₁.heap.objs.size oI (by simp [hlti]) hP hnI (fr hm' F₁) N₁
    refine wpAny_mono t0 (fun _ s₂ x => wpAny_passesOwn hE (wpAny_mono x (fun f s₃ y => ?_) fun _ _ e => e)) hE
    have fin : (∃ (h' : Heap) (tk' : Nat) (m' : Str → Option Value) (news' : List (Addr × Obj)), s₃ = { s₁ with heap := h', toks := tk' } ∧ Fr h₀ env.locals h' m' ∧ News h₀ env.locals h' news' ∧ (∀ p ∈ (s₁.heap.objs.size, oI) :: news, p ∈ news') ∧ (∀ z, stored.contains z = false → m' z = m₀ z) ∧ P (i + 1)) →
        ∃ m, m < vs.size + 1 - i ∧ ∃ h' tk m' j, s₃ = { s₁ with heap := h', toks := tk } ∧ h'.IsTupleIter s₁.heap.objs.size ax j ∧ Fr h₀ env.locals h' m' ∧ News h₀ env.locals h' news ∧ (∀ z, stored.contains z = false → m' z = m₀ z) ∧ P j ∧ j ≤ vs.size ∧ m = vs.size + 1 - j := by
      rintro ⟨h₂, tk₂, m₂, news₂, rfl, F₂, N₂, hsub, hz, hP₂⟩
      exact ⟨vs.size + 1 - (i + 1), by omega, h₂, tk₂, m₂, i + 1, rfl, ⟨oI, (N₂ _ (hsub _ (.head _))).1, hoc, hod⟩, F₂, fun p hp => N₂ p (hsub p (.tail _ hp)), hz, hP₂, hlti, rfl⟩
    cases f with
    | ret v => exact y
    | brk => exact y
    | next => exact fin y
    | cont => exact fin y
  · have hin : i = vs.size := by omega
    subst hin
    refine wpAny_pyNext_tuple_end hh hit hl' (by simp) fun h₁ hx => ?_
    have F₁ : Fr h₀ env.locals h₁ m' := ⟨F'.ns.at' fun o e => hx _ o hLI e, fun b o e => hx b o (fun q => by rw [q, hI0] at e; cases e) (F'.keep b o e), F'.above⟩
    have N₁ : News h₀ env.locals h₁ news := fun p hp => ⟨hx _ _ (hnI p hp) (N' p hp).1, (N' p hp).2⟩
    exact wpAny_passesOwn hE (done m' h₁ tk hP (fr hm' F₁) N₁)
end
end Mine
end
section
open PySem PySem.W PyProof.Rows PySem.Calls PySem.Spec
namespace Mine
noncomputable def sr (x : Str) : Int := if x = Str.ofString "/" then 0 else if x = Str.ofString "/a" then 1 else if x = Str.ofString "/a/x" then 2 else if x = Str.ofString "/b" then 3 else if x = Str.ofString "/b/y" then 4 else 5
noncomputable def rk (p : Int × Str) : Int := 6 * p.1 + sr p.2
theorem sr_lo : ∀ x ∈ pagesP, 0 ≤ sr x ∧ sr x ≤ 5 := by decide
theorem sr_lt : ∀ x ∈ pagesP, ∀ y ∈ pagesP, decide (x.cps.toList < y.cps.toList) = decide (sr x < sr y) := by decide
theorem sr_inj : ∀ x ∈ pagesP, ∀ y ∈ pagesP, sr x = sr y → x = y := by decide
theorem ltP_rk {p q : Int × Str} (hp : p.2 ∈ pagesP) (hq : q.2 ∈ pagesP) : ltP p q = decide (rk p < rk q) := by
  have h1 := sr_lo _ hp
  have h2 := sr_lo _ hq
  unfold ltP rk
  by_cases h : p.1 = q.1
  · rw [if_pos h, sr_lt _ hp _ hq, h]
    congr 1
    exact propext ⟨fun x => by omega, fun x => by omega⟩
  · rw [if_neg h]
    congr 1
    exact propext ⟨fun x => by omega, fun x => by omega⟩
theorem rk_inj {p q : Int × Str} (hp : p.2 ∈ pagesP) (hq : q.2 ∈ pagesP) (h : rk p = rk q) : p = q := by
  have h1 := sr_lo _ hp
  have h2 := sr_lo _ hq
  unfold rk at h
  have e1 : p.1 = q.1 := by omega
  have e2 : sr p.2 = sr q.2 := by omega
  exact Prod.ext e1 (sr_inj _ hp _ hq e2)
/-- all on the site -/
noncomputable def OnSite (ps : List (Int × Str)) : Prop := ∀ p ∈ ps, p.2 ∈ pagesP
theorem four {α : Type} {P : List α → Prop} (h0 : P []) (h1 : ∀ a, P [a]) (h2 : ∀ a b, P [a, b]) (h3 : ∀ a b c, P [a, b, c]) (h4 : ∀ a b c d, P [a, b, c, d]) : ∀ l : List α, l.length ≤ 4 → P l
  | [], _ => h0
  | [a], _ => h1 a
  | [a, b], _ => h2 a b
  | [a, b, c], _ => h3 a b c
  | [a, b, c, d], _ => h4 a b c d
  | _ :: _ :: _ :: _ :: _ :: _, h => absurd h (by simp only [List.length_cons]; omega)
theorem three {α : Type} {P : List α → Prop} (h0 : P []) (h1 : ∀ a, P [a]) (h2 : ∀ a b, P [a, b]) (h3 : ∀ a b c, P [a, b, c]) : ∀ l : List α, l.length ≤ 3 → P l
  | [], _ => h0
  | [a], _ => h1 a
  | [a, b], _ => h2 a b
  | [a, b, c], _ => h3 a b c
  | _ :: _ :: _ :: _ :: _, h => absurd h (by simp only [List.length_cons]; omega)
theorem push_heaped (p : Int × Str) (hp : p.2 ∈ pagesP) : ∀ ps : List (Int × Str), ps.length ≤ 3 → OnSite ps → heapedB ps = true → heapedB (pushR ps p) = true := by
  refine three ?_ ?_ ?_ ?_
  · intro _ _; rfl
  · intro a ha _
    have h0 := ha a (by simp)
    simp only [pushR, ltP_rk hp h0]
    split <;> simp_all [heapedB, ltP_rk] <;> omega
  · intro a b ha hh
    have h0 := ha a (by simp)
    have h1 := ha b (by simp)
    simp only [pushR, ltP_rk hp h0]
    split <;> simp_all [heapedB, ltP_rk] <;> omega
  · intro a b c ha hh
    have h0 := ha a (by simp)
    have h1 := ha b (by simp)
    have h2 := ha c (by simp)
    simp only [pushR, ltP_rk hp h0, ltP_rk hp h1]
    split
    · split <;> simp_all [heapedB, ltP_rk] <;> omega
    · simp_all [heapedB, ltP_rk] <;> omega
theorem pop_heaped : ∀ ps : List (Int × Str), ps.length ≤ 4 → OnSite ps → heapedB ps = true → heapedB (popR ps) = true := by
  refine four ?_ ?_ ?_ ?_ ?_
  · intro _ _; rfl
  · intro a _ _; rfl
  · intro a b _ _; rfl
  · intro a b c ha hh
    have h0 := ha a (by simp)
    have h1 := ha b (by simp)
    have h2 := ha c (by simp)
    simp only [popR, ltP_rk h2 h1]
    split <;> simp_all [heapedB, ltP_rk] <;> omega
  · intro a b c d ha hh
    have h0 := ha a (by simp)
    have h1 := ha b (by simp)
    have h2 := ha c (by simp)
    have h3 := ha d (by simp)
    simp only [popR, ltP_rk h1 h2, ltP_rk h3 h1, ltP_rk h3 h2]
    split
    · split <;> simp_all [heapedB, ltP_rk] <;> omega
    · split <;> simp_all [heapedB, ltP_rk] <;> omega
theorem push_perm (p : Int × Str) : ∀ ps : List (Int × Str), ps.length ≤ 3 → (pushR ps p).Perm (ps ++ [p]) := by
  refine three ?_ ?_ ?_ ?_
  · exact .refl _
  · intro a
    simp only [pushR]
    split
    · exact List.Perm.swap a p []
    · exact .refl _
  · intro a b
    simp only [pushR]
    split
    · exact (List.perm_append_comm (l₁ := [p, b]) (l₂ := [a])).trans ((List.Perm.swap b p []).cons a)
    · exact .refl _
  · intro a b c
    simp only [pushR]
    split
    · split
      · exact ((List.perm_append_comm (l₁ := [p]) (l₂ := [a, c, b])).trans (((List.Perm.swap b c [p])).cons a))
      · exact ((List.perm_append_comm (l₁ := [p]) (l₂ := [c, b])).trans (List.Perm.swap b c [p])).cons a
    · exact .refl _
theorem pop_perm : ∀ ps : List (Int × Str), ps.length ≤ 4 → ps ≠ [] → (ps.headD default :: popR ps).Perm ps := by
  refine four ?_ ?_ ?_ ?_ ?_
  · intro h; exact absurd rfl h
  · intro a _; exact .refl _
  · intro a b _; exact .refl _
  · intro a b c _
    simp only [popR]
    split
    · exact ((List.Perm.swap b c [])).cons a
    · exact .refl _
  · intro a b c d _
    simp only [popR]
    split
    · split
      · exact (List.perm_append_comm (l₁ := [d]) (l₂ := [b, c])).cons a
      · exact (((List.Perm.swap c d [])).cons b).cons a
    · split
      · exact (List.perm_append_comm (l₁ := [d]) (l₂ := [b, c])).cons a
      · exact (List.Perm.swap b c [d]).cons a
theorem head_least : ∀ ps : List (Int × Str), ps.length ≤ 4 → OnSite ps → heapedB ps = true → ∀ q ∈ ps, rk (ps.headD default) ≤ rk q := by
  refine four ?_ ?_ ?_ ?_ ?_
  · intro _ _ q hq; cases hq
  · intro a _ _ q hq
    simp only [List.mem_cons, List.not_mem_nil, or_false] at hq
    subst hq; exact Int.le_refl _
  · intro a b ha hh q hq
    have h0 := ha a (by simp)
    have h1 := ha b (by simp)
    simp only [heapedB, ltP_rk h1 h0, Bool.not_eq_true', decide_eq_false_iff_not] at hh
    simp only [List.mem_cons, List.not_mem_nil, or_false] at hq
    rcases hq with rfl | rfl <;> (simp only [List.headD_cons]; omega)
  · intro a b c ha hh q hq
    have h0 := ha a (by simp)
    have h1 := ha b (by simp)
    have h2 := ha c (by simp)
    simp only [heapedB, ltP_rk h1 h0, ltP_rk h2 h0, Bool.not_eq_true', decide_eq_false_iff_not, Bool.and_eq_true] at hh
    simp only [List.mem_cons, List.not_mem_nil, or_false] at hq
    rcases hq with rfl | rfl | rfl <;> (simp only [List.headD_cons]; omega)
  · intro a b c d ha hh q hq
    have h0 := ha a (by simp)
    have h1 := ha b (by simp)
    have h2 := ha c (by simp)
    have h3 := ha d (by simp)
    simp only [heapedB, ltP_rk h1 h0, ltP_rk h2 h0, ltP_rk h3 h1, Bool.not_eq_true', decide_eq_false_iff_not, Bool.and_eq_true] at hh
    simp only [List.mem_cons, List.not_mem_nil, or_false] at hq
    rcases hq with rfl | rfl | rfl | rfl <;> (simp only [List.headD_cons]; omega)
theorem pop_length : ∀ ps : List (Int × Str), ps.length ≤ 4 → ps ≠ [] → (popR ps).length + 1 = ps.length := fun ps h1 h2 => by
  have := (pop_perm ps h1 h2).length_eq
  simpa using this
theorem push_length (p : Int × Str) : ∀ ps : List (Int × Str), ps.length ≤ 3 → (pushR ps p).length = ps.length + 1 := fun ps h => by
  have := (push_perm p ps h).length_eq
  simpa using this
end Mine
end
section
open PySem PySem.W PyProof.Rows PySem.Calls PySem.Spec
namespace Mine
theorem kt_Links : True := by
  k_with_none
  k_with "eval Constant str" => (k_here; with_reducible refine const_str ?_)
  k_with "eval Constant int" => (k_here; with_reducible refine const_int ?_)
  k_with "spliced" => (k_here; dsimp only)
  k_with "storeName" => (k_here; dsimp only)
  k_with "m all" => (first | assumption | (tbn_letter; refine all_of_lt (by tbn_find) (by omega)))
  trivial
section
variable {w : World} {dp un : Nat} {gd : Option (List Code)} {cn : Str} {nm : List (Str × NameKind)} {ig ic : Bool} {mr : List (Str × Const)} {a : Addr} {ccd : Value} {cl : List (Str × Addr)} {outer : List Env} {A₀ : Around} {base h₀ : Heap} {L : Addr} {m : Str → Option Value} {s : Shared} {Q E : Value → Shared → Prop}
   {mean : ExcName → Option Value} {mg mb : Str → Option Value} {loose : List Str}
set_option maxHeartbeats 4000000 in
theorem links0 {rest : List (Addr × Obj)}
   (B : Below A₀ base outer h₀) (F : Fr h₀ L s.heap m) (X : (heapK w.params).In h₀)
   (N : News h₀ L s.heap rest)
   (T : Top topProg loose mean mg mb h₀) (hdp : dp + 3 < recursionLimit) (hun : un + 200 < cLine)
   (hret : ∀ d tl h' tk', LinksAt w tl d → (∀ p ∈ rest, ∀ q ∈ tl, p.1 < q.1) → Fr h₀ L h' m → News h₀ L h' (tl ++ rest) → Q (.ref d) { s with heap := h', toks := tk' }) :
   wpAny (model PySem.Challenge.rw_oy0154_01.prog w) (ktrTop dp un gd cn ⟨.function, nm, ig, ic, mr⟩ L a ccd cl outer) (call (.ref 138) []) Q E s := by
  revert T N X
  k_fill
  intro X N T
  refine wpAny_call ?_
  k_dflt k_enter
  k_steps
  (rename News h₀ _ _ _ => nE)
  (rename Fr h₀ _ _ _ => fE)
  (rename Obj.IsDictOf _ _ (strPairs _) => hD)
  refine hret _ [_, _, _, _, _, _, _] _ _ ⟨_, _, by k_mem, hD, by assumption, ?_⟩ ?_ fE nE
  · simp only [pagesP, List.forall_mem_cons]
    refine ⟨?_, ?_, ?_, ?_, ?_, ?_, fun _ h => nomatch h⟩
    all_goals (refine ⟨_, _, _, rfl, by k_mem, ?_⟩)
    · rw [links_0]; exact .cons _ _ (.cons _ _ (.cons _ _ (.cons _ _ .nil)))
    · rw [links_1]; exact .cons _ _ .nil
    · rw [links_2]; exact .cons _ _ (.cons _ _ (.cons _ _ .nil))
    · rw [links_3]; exact .cons _ _ .nil
    · rw [links_4]; exact .cons _ _ (.cons _ _ .nil)
    · rw [links_5]; exact .nil
  · intro p hp
    simp only [List.forall_mem_cons]
    refine ⟨?_, ?_, ?_, ?_, ?_, ?_, ?_, fun _ h => nomatch h⟩
    all_goals first | exact AllLt.mem (by tbn_find) p hp | exact (‹∀ p ∈ rest, p.1 < _›) p hp
end
end Mine
end
section
open PySem PySem.W PyProof.Rows PySem.Calls PySem.Spec
namespace Mine
theorem kt_RuleMake : True := by
  k_with_none
  k_with "eval Constant str" => (k_here; with_reducible refine const_str ?_)
  k_with "eval Constant int" => (k_here; with_reducible refine const_int ?_)
  k_with "spliced" => (k_here; dsimp only)
  k_with "storeName" => (k_here; dsimp only)
  k_with "setAttr ref" => (k_here; k_dflt (first
      | (refine fn_set_new (by k_asm) (by k_asm) (by k_updF) (by first | exact look_ap | exact look_al) ?_; k_whole; intro d' h' F' N' l1; (try dsimp only at N'); (try k_lt l1); (try k_sweep))
      | (refine fn_set_dict (by k_asm) (by k_asm) (by k_mem) (by exact rfl) (by exact rfl) (by k_mem) (by first | exact look_ap | exact look_al) (by k_get) (by k_put) (by k_upd) (by exact Nat.le_of_ble_eq_true rfl) ?_; k_whole; intro h' F' N'; (try k_sweep))))
  k_with "m ne" => (first | assumption | exact Ne.symm (by assumption) | (refine neN ?_; (try dsimp only); (repeat (rename @Ne Nat _ _ => hz9; clear hz9)); (repeat (rename @Ne Nat _ _ ∧ _ => hz9; clear hz9)); (repeat (rename (@Ne Nat _ _ ∧ _) ∧ _ => hz9; clear hz9)); omega) | ((repeat (rename @Ne Nat _ _ ∧ _ => hz9; first | exact hz9.1 | exact hz9.1.symm | exact hz9.2.1 | exact hz9.2.1.symm | exact hz9.2.2.1 | exact hz9.2.2.1.symm | exact hz9.2.2.2.1 | exact hz9.2.2.2.1.symm | exact hz9.2.2.2.2.1 | exact hz9.2.2.2.2.1.symm | exact hz9.2.2.2.2.2.1 | exact hz9.2.2.2.2.2.1.symm | exact hz9.2.2.2.2.2.2.1 | exact hz9.2.2.2.2.2.2.1.symm | exact hz9.2.2.2.2.2.2.2.1 | exact hz9.2.2.2.2.2.2.2.1.symm | exact hz9.2.2.2.2.2.2.2.2.1 | exact hz9.2.2.2.2.2.2.2.2.1.symm | exact hz9.2.2.2.2.2.2.2.2.2.1 | exact hz9.2.2.2.2.2.2.2.2.2.1.symm | exact hz9.2.2.2.2.2.2.2.2.2.2.1 | exact hz9.2.2.2.2.2.2.2.2.2.2.1.symm | exact hz9.2.2.2.2.2.2.2.2.2.2.2.1 | exact hz9.2.2.2.2.2.2.2.2.2.2.2.1.symm | exact hz9.2.2.2.2.2.2.2.2.2.2.2.2.1 | exact hz9.2.2.2.2.2.2.2.2.2.2.2.2.1.symm | exact hz9.2.2.2.2.2.2.2.2.2.2.2.2.2.1 | exact hz9.2.2.2.2.2.2.2.2.2.2.2.2.2.1.symm | exact hz9.2.2.2.2.2.2.2.2.2.2.2.2.2.2.1 | exact hz9.2.2.2.2.2.2.2.2.2.2.2.2.2.2.1.symm | clear hz9)); done) | ((repeat (rename (@Ne Nat _ _ ∧ _) ∧ _ => hz9; first | exact hz9.1.1 | exact hz9.1.1.symm | exact hz9.1.2.1 | exact hz9.1.2.1.symm | exact hz9.1.2.2 | exact hz9.1.2.2.symm | exact hz9.2.1.1 | exact hz9.2.1.1.symm | exact hz9.2.1.2.1 | exact hz9.2.1.2.1.symm | exact hz9.2.1.2.2 | exact hz9.2.1.2.2.symm | exact hz9.2.2.1.1 | exact hz9.2.2.1.1.symm | exact hz9.2.2.1.2.1 | exact hz9.2.2.1.2.1.symm | exact hz9.2.2.1.2.2 | exact hz9.2.2.1.2.2.symm | exact hz9.2.2.2.1.1 | exact hz9.2.2.2.1.1.symm | exact hz9.2.2.2.1.2.1 | exact hz9.2.2.2.1.2.1.symm | exact hz9.2.2.2.1.2.2 | exact hz9.2.2.2.1.2.2.symm | exact hz9.2.2.2.2.1.1 | exact hz9.2.2.2.2.1.1.symm | exact hz9.2.2.2.2.1.2.1 | exact hz9.2.2.2.2.1.2.1.symm | exact hz9.2.2.2.2.1.2.2 | exact hz9.2.2.2.2.1.2.2.symm | exact hz9.2.2.2.2.2.1.1 | exact hz9.2.2.2.2.2.1.1.symm | exact hz9.2.2.2.2.2.1.2.1 | exact hz9.2.2.2.2.2.1.2.1.symm | exact hz9.2.2.2.2.2.1.2.2 | exact hz9.2.2.2.2.2.1.2.2.symm | exact hz9.2.2.2.2.2.2.1.1 | exact hz9.2.2.2.2.2.2.1.1.symm | exact hz9.2.2.2.2.2.2.1.2.1 | exact hz9.2.2.2.2.2.2.1.2.1.symm | exact hz9.2.2.2.2.2.2.1.2.2 | exact hz9.2.2.2.2.2.2.1.2.2.symm | exact hz9.2.2.2.2.2.2.2.1.1 | exact hz9.2.2.2.2.2.2.2.1.1.symm | exact hz9.2.2.2.2.2.2.2.1.2.1 | exact hz9.2.2.2.2.2.2.2.1.2.1.symm | exact hz9.2.2.2.2.2.2.2.1.2.2 | exact hz9.2.2.2.2.2.2.2.1.2.2.symm | exact hz9.2.2.2.2.2.2.2.2.1.1 | exact hz9.2.2.2.2.2.2.2.2.1.1.symm | exact hz9.2.2.2.2.2.2.2.2.1.2.1 | exact hz9.2.2.2.2.2.2.2.2.1.2.1.symm | exact hz9.2.2.2.2.2.2.2.2.1.2.2 | exact hz9.2.2.2.2.2.2.2.2.1.2.2.symm | exact hz9.2.2.2.2.2.2.2.2.2.1.1 | exact hz9.2.2.2.2.2.2.2.2.2.1.1.symm | exact hz9.2.2.2.2.2.2.2.2.2.1.2.1 | exact hz9.2.2.2.2.2.2.2.2.2.1.2.1.symm | exact hz9.2.2.2.2.2.2.2.2.2.1.2.2 | exact hz9.2.2.2.2.2.2.2.2.2.1.2.2.symm | exact hz9.2.2.2.2.2.2.2.2.2.2.1.1 | exact hz9.2.2.2.2.2.2.2.2.2.2.1.1.symm | exact hz9.2.2.2.2.2.2.2.2.2.2.1.2.1 | exact hz9.2.2.2.2.2.2.2.2.2.2.1.2.1.symm | exact hz9.2.2.2.2.2.2.2.2.2.2.1.2.2 | exact hz9.2.2.2.2.2.2.2.2.2.2.1.2.2.symm | exact hz9.2.2.2.2.2.2.2.2.2.2.2.1.1 | exact hz9.2.2.2.2.2.2.2.2.2.2.2.1.1.symm | exact hz9.2.2.2.2.2.2.2.2.2.2.2.1.2.1 | exact hz9.2.2.2.2.2.2.2.2.2.2.2.1.2.1.symm | exact hz9.2.2.2.2.2.2.2.2.2.2.2.1.2.2 | exact hz9.2.2.2.2.2.2.2.2.2.2.2.1.2.2.symm | exact hz9.2.2.2.2.2.2.2.2.2.2.2.2.1.1 | exact hz9.2.2.2.2.2.2.2.2.2.2.2.2.1.1.symm | exact hz9.2.2.2.2.2.2.2.2.2.2.2.2.1.2.1 | exact hz9.2.2.2.2.2.2.2.2.2.2.2.2.1.2.1.symm | exact hz9.2.2.2.2.2.2.2.2.2.2.2.2.1.2.2 | exact hz9.2.2.2.2.2.2.2.2.2.2.2.2.1.2.2.symm | exact hz9.2.2.2.2.2.2.2.2.2.2.2.2.2.1.1 | exact hz9.2.2.2.2.2.2.2.2.2.2.2.2.2.1.1.symm | exact hz9.2.2.2.2.2.2.2.2.2.2.2.2.2.1.2.1 | exact hz9.2.2.2.2.2.2.2.2.2.2.2.2.2.1.2.1.symm | exact hz9.2.2.2.2.2.2.2.2.2.2.2.2.2.1.2.2 | exact hz9.2.2.2.2.2.2.2.2.2.2.2.2.2.1.2.2.symm | exact hz9.2.2.2.2.2.2.2.2.2.2.2.2.2.2.1.1 | exact hz9.2.2.2.2.2.2.2.2.2.2.2.2.2.2.1.1.symm | exact hz9.2.2.2.2.2.2.2.2.2.2.2.2.2.2.1.2.1 | exact hz9.2.2.2.2.2.2.2.2.2.2.2.2.2.2.1.2.1.symm | exact hz9.2.2.2.2.2.2.2.2.2.2.2.2.2.2.1.2.2 | exact hz9.2.2.2.2.2.2.2.2.2.2.2.2.2.2.1.2.2.symm | exact hz9.2.2.2.2.2.2.2.2.2.2.2.2.2.2.2.1.1 | exact hz9.2.2.2.2.2.2.2.2.2.2.2.2.2.2.2.1.1.symm | exact hz9.2.2.2.2.2.2.2.2.2.2.2.2.2.2.2.1.2.1 | exact hz9.2.2.2.2.2.2.2.2.2.2.2.2.2.2.2.1.2.1.symm | exact hz9.2.2.2.2.2.2.2.2.2.2.2.2.2.2.2.1.2.2 | exact hz9.2.2.2.2.2.2.2.2.2.2.2.2.2.2.2.1.2.2.symm | exact hz9.2.2.2.2.2.2.2.2.2.2.2.2.2.2.2.2.1.1 | exact hz9.2.2.2.2.2.2.2.2.2.2.2.2.2.2.2.2.1.1.symm | exact hz9.2.2.2.2.2.2.2.2.2.2.2.2.2.2.2.2.1.2.1 | exact hz9.2.2.2.2.2.2.2.2.2.2.2.2.2.2.2.2.1.2.1.symm | exact hz9.2.2.2.2.2.2.2.2.2.2.2.2.2.2.2.2.1.2.2 | exact hz9.2.2.2.2.2.2.2.2.2.2.2.2.2.2.2.2.1.2.2.symm | clear hz9)); done) | (refine neN ?_; (try dsimp only); omega))
  k_with "m all" => (first | assumption | (tbn_letter; refine all_of_lt (by tbn_find) (by omega)))
  trivial
section
variable {w : World} {dp un : Nat} {gd : Option (List Code)} {cn : Str} {nm : List (Str × NameKind)} {ig ic : Bool} {mr : List (Str × Const)} {a : Addr} {ccd : Value} {cl : List (Str × Addr)} {outer : List Env} {A₀ : Around} {base h₀ : Heap} {L : Addr} {m : Str → Option Value} {s : Shared} {Q E : Value → Shared → Prop}
   {mean : ExcName → Option Value} {mg mb : Str → Option Value} {loose : List Str}
noncomputable abbrev lamQ : Str := (Str.ofString "_law_rule" ++ Str.ofString ".<locals>.") ++ Str.ofString "<lambda>"
theorem led6 {h₀ h : Heap} {L : Addr} {e1 e2 e3 e4 e5 e6 t : Addr × Obj} {rest : List (Addr × Obj)} (N : News h₀ L h (e1 :: e2 :: e3 :: e4 :: e5 :: e6 :: t :: rest)) : News h₀ L h (t :: ([e1, e2, e3, e4, e5, e6] ++ rest)) := by
  intro q hq
  apply N
  revert q; simp only [List.cons_append, List.nil_append]; (repeat (refine List.forall_mem_cons.mpr ⟨by (repeat (first | exact List.Mem.head _ | refine List.Mem.tail _ ?_)), ?_⟩)); intro q hq; (repeat (first | exact hq | refine List.Mem.tail _ ?_))
theorem lt_of_all {c d : Nat} {l : List (Addr × Obj)} (h : AllLt c l) (hd : c ≤ d) : ∀ p ∈ l, p.1 < d := fun p hp => Nat.lt_of_lt_of_le (AllLt.mem h p hp) hd
theorem ruleAt_of {oc : Value} {od : Option Addr} {osl : Array (Option Value)} {name qual : Str} {params : Arguments} {scope : Scope} {dV kV doc pm0 cdv ct : Value} {an : Option Addr} {s0 s2 s3 : Stmt} {ts : List Expr} {la : Arguments} {lb : Expr} {ls : Scope} {lp pp : Pos}
   {tl : List (Addr × Obj)} {f d lam cc cell : Addr} {fd : FuncData} {sl : Array (Option Value)} {t1 t2 : Tok} {occ co : Obj} {vs : Array Value} {q : Str} {qt tp : Tok} {pm lct : Value} {p : Str} {b : Bool}
   (hlit : (heapK w.params).lookup 150 = some ⟨oc, od, .func (fnOf name qual params [s0, .Assign ts (.Lambda la lb ls lp) pp, s2, s3] scope dV kV doc pm0 an cdv ct), osl⟩)
   (h4 : (f, (⟨.type "function", some d, .func fd, sl⟩ : Obj)) ∈ tl)
   (h5 : (d, dictOf [⟨PyData.keyHash w.params (Str.ofString "applies_to"), .str (Str.ofString "applies_to") t1, .ref lam⟩, ⟨PyData.keyHash w.params (Str.ofString "allowance"), .str (Str.ofString "allowance") t2, .bool b⟩] 2) ∈ tl)
   (h6 : (lam, kla_obj (Str.ofString "<lambda>") q la lb ls [(Str.ofString "path", cell)] pm cc lct) ∈ tl) (h7 : (cc, occ) ∈ tl) (h8 : (cell, co) ∈ tl)
   (h1 : occ.data = .fields vs) (h2 : vs[1]? = some (.str q qt)) (h3 : co.data = .cell (some (.str p tp))) (hp : p.length ≤ 100) : RuleAt w mean mg mb loose tl (.ref f) (p, b) :=
  ⟨f, d, lam, fd, sl, _, t1, t2, _, rfl, h4, h5, h6, by simp only [List.forall_mem_cons]; exact ⟨h6, h7, h8, fun _ h => nomatch h⟩, lam_spec hlit h1 h2 h3 hp, by
    simp only [List.forall_mem_cons]
    exact ⟨fun e => (by cases e), fun e => (by rw [h1] at e; cases e), fun e => (by rw [h3] at e; cases e), fun _ h => nomatch h⟩⟩
/-- the table of the codes that _law_rule has made: none yet, or its two -/
noncomputable def TabIs (ps : Array Value) (R : List (Addr × Obj)) : Prop :=
  ps = #[] ∨ ∃ k1 k2 oc vs t, ps = #[rawInt 145, rawInt 11, .ref k1, rawInt 146, rawInt 22, .ref k2] ∧ (k2, oc) ∈ R ∧ oc.data = .fields vs ∧ vs[1]? = some (.str lamQ t)
set_option maxHeartbeats 4000000 in
theorem rule0 {p : Str} {t : Tok} {b : Bool} {rest : List (Addr × Obj)} (hp : p.length ≤ 100)
   (B : Below A₀ base outer h₀) (F : Fr h₀ L s.heap m) (X : (heapK w.params).In h₀)
   (N : News h₀ L s.heap ((145, tabObj #[]) :: rest)) (dr : ∀ p ∈ rest, p.1 ≠ 145)
   (T : Top topProg loose mean mg mb h₀) (C : CodeHd base 149 145) (hdp : dp + 3 < recursionLimit) (hun : un + 200 < cLine)
   (hret : ∀ h' tk' f ps' tl, TabIs ps' tl → RuleAt w mean mg mb loose tl (.ref f) (p, b) → (∀ q ∈ tl, 145 < q.1 ∧ ∀ r ∈ rest, r.1 < q.1) → Fr h₀ L h' m → News h₀ L h' ((145, tabObj ps') :: (tl ++ rest)) → Q (.ref f) { s with heap := h', toks := tk' }) :
   wpAny (model PySem.Challenge.rw_oy0154_01.prog w) (ktrTop dp un gd cn ⟨.function, nm, ig, ic, mr⟩ L a ccd cl outer) (call (.ref 150) [.str p t, .bool b]) Q E s := by
  revert T N X
  k_fill
  intro X N T
  refine wpAny_call ?_
  k_dflt k_enter
  k_steps
  (rename News h₀ _ _ _ => nE)
  (rename Fr h₀ _ _ _ => fE)
  refine hret _ _ _ _ _ ?_ ?_ ?_ fE (led6 nE)
  · exact .inr ⟨_, _, _, _, _, rfl, by k_mem, by assumption, by assumption⟩
  · refine' ruleAt_of ?l1 ?l2 ?l3 ?l4 ?l5 ?l6 ?l7 ?l8 ?l9 hp
    case l1 => k_dflt k_is
    case l2 => k_mem
    case l3 => k_mem
    case l4 => k_mem
    case l5 => k_mem
    case l6 => k_mem
    case l7 => assumption
    case l8 => assumption
    case l9 => assumption
  · simp only [List.forall_mem_cons]
    refine ⟨⟨?_, ?_⟩, ⟨?_, ?_⟩, ⟨?_, ?_⟩, ⟨?_, ?_⟩, ⟨?_, ?_⟩, ⟨?_, ?_⟩, fun _ h => nomatch h⟩
    all_goals first | (refine ltN ?_; omega) | exact lt_of_all (by tbn_find) (by omega)
theorem led4 {h₀ h : Heap} {L : Addr} {e1 e2 e3 e4 t x : Addr × Obj} {rest : List (Addr × Obj)} (N : News h₀ L h (e1 :: e2 :: e3 :: e4 :: t :: x :: rest)) : News h₀ L h (t :: ([e1, e2, e3, e4] ++ rest)) := by
  intro q hq
  apply N
  revert q; simp only [List.cons_append, List.nil_append]; (repeat (refine List.forall_mem_cons.mpr ⟨by (repeat (first | exact List.Mem.head _ | refine List.Mem.tail _ ?_)), ?_⟩)); intro q hq; (repeat (first | exact hq | refine List.Mem.tail _ ?_))
set_option maxHeartbeats 4000000 in
theorem rule1 {p : Str} {t : Tok} {b : Bool} {k1 k2 : Addr} {oc : Obj} {vs : Array Value} {qt : Tok} {rest R' : List (Addr × Obj)} (hp : p.length ≤ 100)
   (B : Below A₀ base outer h₀) (F : Fr h₀ L s.heap m) (X : (heapK w.params).In h₀)
   (N : News h₀ L s.heap ((145, tabObj #[rawInt 145, rawInt 11, .ref k1, rawInt 146, rawInt 22, .ref k2]) :: (k2, oc) :: rest)) (dr : ∀ p ∈ rest, p.1 ≠ 145) (hk : (k2, oc) ∈ R') (h1 : oc.data = .fields vs) (h2 : vs[1]? = some (.str lamQ qt))
   (T : Top topProg loose mean mg mb h₀) (C : CodeHd base 149 145) (hdp : dp + 3 < recursionLimit) (hun : un + 200 < cLine)
   (hret : ∀ h' tk' f tl, RuleAt w mean mg mb loose (tl ++ R') (.ref f) (p, b) → (∀ q ∈ tl, 145 < q.1 ∧ ∀ r ∈ rest, r.1 < q.1) → Fr h₀ L h' m → News h₀ L h' ((145, tabObj #[rawInt 145, rawInt 11, .ref k1, rawInt 146, rawInt 22, .ref k2]) :: (tl ++ rest)) → Q (.ref f) { s with heap := h', toks := tk' }) :
   wpAny (model PySem.Challenge.rw_oy0154_01.prog w) (ktrTop dp un gd cn ⟨.function, nm, ig, ic, mr⟩ L a ccd cl outer) (call (.ref 150) [.str p t, .bool b]) Q E s := by
  revert T N X
  k_fill
  intro X N T
  refine wpAny_call ?_
  k_dflt k_enter
  k_steps
  (rename News h₀ _ _ _ => nE)
  (rename Fr h₀ _ _ _ => fE)
  refine hret _ _ _ _ ?_ ?_ fE (led4 nE)
  · refine' ruleAt_of ?l1 ?l2 ?l3 ?l4 ?l5 ?l6 h1 h2 ?l9 hp
    case l1 => k_dflt k_is
    case l2 => exact List.mem_append.mpr (.inl (by k_mem))
    case l3 => exact List.mem_append.mpr (.inl (by k_mem))
    case l4 => exact List.mem_append.mpr (.inl (by k_mem))
    case l5 => exact List.mem_append.mpr (.inr hk)
    case l6 => exact List.mem_append.mpr (.inl (by k_mem))
    case l9 => assumption
  · simp only [List.forall_mem_cons]
    refine ⟨⟨?_, ?_⟩, ⟨?_, ?_⟩, ⟨?_, ?_⟩, ⟨?_, ?_⟩, fun _ h => nomatch h⟩
    all_goals first | (refine ltN ?_; omega) | exact lt_of_all (by tbn_find) (by omega)
theorem TabIs.mono {ps : Array Value} {R R' : List (Addr × Obj)} (h : TabIs ps R) (hs : ∀ q ∈ R, q ∈ R') : TabIs ps R' :=
  h.imp id fun ⟨k1, k2, oc, vs, t, e, hm, r⟩ => ⟨k1, k2, oc, vs, t, e, hs _ hm, r⟩
theorem rule_spec {p : Str} {t : Tok} {b : Bool} {ps : Array Value} {news : List (Addr × Obj)} {g : Obj → List (Addr × Obj)} (hp : p.length ≤ 100)
   (B : Below A₀ base outer h₀) (F : Fr h₀ L s.heap m) (X : (heapK w.params).In h₀)
   (N : News h₀ L s.heap news) (U : UpdF 145 (tabObj ps) news g) (hT : TabIs ps news)
   (T : Top topProg loose mean mg mb h₀) (C : CodeHd base 149 145) (hdp : dp + 3 < recursionLimit) (hun : un + 200 < cLine)
   (hret : ∀ h' tk' f ps' tl, TabIs ps' (tl ++ g (tabObj ps')) → RuleAt w mean mg mb loose (tl ++ g (tabObj ps')) (.ref f) (p, b) → (∀ q ∈ tl, ∀ r ∈ news, r.1 < q.1) → Fr h₀ L h' m → News h₀ L h' (tl ++ g (tabObj ps')) → Q (.ref f) { s with heap := h', toks := tk' }) :
   wpAny (model PySem.Challenge.rw_oy0154_01.prog w) (ktrTop dp un gd cn ⟨.function, nm, ig, ic, mr⟩ L a ccd cl outer) (call (.ref 150) [.str p t, .bool b]) Q E s := by
  obtain ⟨pre, post, rfl, hg, h1, h2⟩ := U.split
  have dr : ∀ q ∈ pre ++ post, q.1 ≠ 145 := fun q hq => (List.mem_append.mp hq).elim (h1 q) (h2 q)
  have N1 : News h₀ L s.heap ((145, tabObj ps) :: (pre ++ post)) := fun q hq => N q (by
    rcases List.mem_cons.mp hq with rfl | hq
    · simp
    · rcases List.mem_append.mp hq with h | h <;> simp [h])
  have out : ∀ {o : Obj} {tl : List (Addr × Obj)} {h : Heap}, News h₀ L h ((145, o) :: (tl ++ (pre ++ post))) → News h₀ L h (tl ++ g o) := fun {o tl h} N' q hq => N' q (by
    rw [hg] at hq
    rcases List.mem_append.mp hq with h | h
    · simp [h]
    · rcases List.mem_append.mp h with h | h
      · simp [h]
      · rcases List.mem_cons.mp h with rfl | h <;> simp_all)
  have sub : ∀ {o : Obj} {tl : List (Addr × Obj)}, ∀ q ∈ tl ++ (pre ++ post), q ∈ tl ++ g o := fun {o tl} q hq => by
    rw [hg]
    rcases List.mem_append.mp hq with h | h
    · simp [h]
    · rcases List.mem_append.mp h with h | h <;> simp [h]
  have fr : ∀ {tl : List (Addr × Obj)}, (∀ q ∈ tl, 145 < q.1 ∧ ∀ r ∈ pre ++ post, r.1 < q.1) → ∀ q ∈ tl, ∀ r ∈ pre ++ (145, tabObj ps) :: post, r.1 < q.1 := fun {tl} hf q hq r hr => by
    rcases List.mem_append.mp hr with h | h
    · exact (hf q hq).2 r (by simp [h])
    · rcases List.mem_cons.mp h with rfl | h
      · exact (hf q hq).1
      · exact (hf q hq).2 r (by simp [h])
  rcases hT with rfl | ⟨k1, k2, oc, vs, qt, rfl, hm, hd1, hd2⟩
  · exact rule0 hp B F X N1 dr T C hdp hun fun h' tk' f ps' tl hTb hR hf F' N' => hret h' tk' f ps' tl (hTb.mono fun q hq => by simp [hq]) (hR.mono fun q hq => by simp [hq]) (fr hf) F' (out N')
  · have hm' : (k2, oc) ∈ pre ++ post := by
      rcases List.mem_append.mp hm with h | h
      · simp [h]
      · rcases List.mem_cons.mp h with h | h
        · exfalso
          injection h with e1 e2
          subst e2
          cases hd1
          simp [rawInt] at hd2
        · simp [h]
    refine rule1 hp B F X (fun q hq => ?_) dr hm' hd1 hd2 T C hdp hun fun h' tk' f tl hR hf F' N' => hret h' tk' f _ tl (.inr ⟨k1, k2, oc, vs, qt, rfl, sub _ (by simp only [List.mem_append] at hm' ⊢; exact .inr hm'), hd1, hd2⟩) (hR.mono sub) (fr hf) F' (out N')
    rcases List.mem_cons.mp hq with rfl | hq
    · exact N1 _ (by simp)
    · rcases List.mem_cons.mp hq with rfl | hq
      · exact N _ hm
      · exact N1 _ (by simp only [List.mem_cons]; exact .inr hq)
/-- the call with two entries ahead of the table, four behind it -/
theorem rule_use {p : Str} {t : Tok} {b : Bool} {ps : Array Value} {e1 e2 f1 f2 f3 f4 : Addr × Obj} {R : List (Addr × Obj)} (hp : p.length ≤ 100)
   (B : Below A₀ base outer h₀) (F : Fr h₀ L s.heap m) (X : (heapK w.params).In h₀)
   (N : News h₀ L s.heap (e1 :: e2 :: (145, tabObj ps) :: f1 :: f2 :: f3 :: f4 :: R)) (d0 : ∀ q ∈ [e1, e2, f1, f2, f3, f4], q.1 ≠ 145) (d1 : ∀ q ∈ R, q.1 ≠ e1.1) (d2 : ∀ q ∈ R, q.1 ≠ e2.1) (d3 : ∀ q ∈ R, q.1 ≠ 145) (hT : TabIs ps R)
   (T : Top topProg loose mean mg mb h₀) (C : CodeHd base 149 145) (hdp : dp + 3 < recursionLimit) (hun : un + 200 < cLine)
   (hret : ∀ h' tk' f ps' tl, TabIs ps' (tl ++ R) → RuleAt w mean mg mb loose (tl ++ R) (.ref f) (p, b) → (∀ q ∈ tl ++ R, q.1 ≠ e1.1) → (∀ q ∈ tl ++ R, q.1 ≠ e2.1) → (∀ q ∈ tl ++ R, q.1 ≠ 145) → Fr h₀ L h' m →
     News h₀ L h' (e1 :: e2 :: (145, tabObj ps') :: f1 :: f2 :: f3 :: f4 :: (tl ++ R)) → Q (.ref f) { s with heap := h', toks := tk' }) :
   wpAny (model PySem.Challenge.rw_oy0154_01.prog w) (ktrTop dp un gd cn ⟨.function, nm, ig, ic, mr⟩ L a ccd cl outer) (call (.ref 150) [.str p t, .bool b]) Q E s := by
  have dr : ∀ q ∈ e1 :: e2 :: f1 :: f2 :: f3 :: f4 :: R, q.1 ≠ 145 := by
    simp only [List.forall_mem_cons] at d0 ⊢
    exact ⟨d0.1, d0.2.1, d0.2.2.1, d0.2.2.2.1, d0.2.2.2.2.1, d0.2.2.2.2.2.1, d3⟩
  have N1 : News h₀ L s.heap ((145, tabObj ps) :: e1 :: e2 :: f1 :: f2 :: f3 :: f4 :: R) := fun q hq => N q (by
    revert q; (repeat (refine List.forall_mem_cons.mpr ⟨by (repeat (first | exact List.Mem.head _ | refine List.Mem.tail _ ?_)), ?_⟩)); intro q hq; (repeat (first | exact hq | refine List.Mem.tail _ ?_)))
  have out : ∀ {o : Obj} {tl : List (Addr × Obj)} {h : Heap}, News h₀ L h ((145, o) :: (tl ++ (e1 :: e2 :: f1 :: f2 :: f3 :: f4 :: R))) → News h₀ L h (e1 :: e2 :: (145, o) :: f1 :: f2 :: f3 :: f4 :: (tl ++ R)) := fun {o tl h} N' q hq => N' q (by
    simp only [List.mem_cons, List.mem_append] at hq ⊢
    rcases hq with h | h | h | h | h | h | h | h | h <;> simp [h])
  have fr : ∀ {tl : List (Addr × Obj)} {x : Addr × Obj}, (∀ q ∈ R, q.1 ≠ x.1) → x ∈ e1 :: e2 :: f1 :: f2 :: f3 :: f4 :: R → (∀ q ∈ tl, 145 < q.1 ∧ ∀ r ∈ e1 :: e2 :: f1 :: f2 :: f3 :: f4 :: R, r.1 < q.1) → ∀ q ∈ tl ++ R, q.1 ≠ x.1 := fun hd hx hf q hq => by
    rcases List.mem_append.mp hq with h | h
    · exact Nat.ne_of_gt ((hf q h).2 _ hx)
    · exact hd q h
  have fr3 : ∀ {tl : List (Addr × Obj)}, (∀ q ∈ tl, 145 < q.1 ∧ ∀ r ∈ e1 :: e2 :: f1 :: f2 :: f3 :: f4 :: R, r.1 < q.1) → ∀ q ∈ tl ++ R, q.1 ≠ 145 := fun hf q hq => by
    rcases List.mem_append.mp hq with h | h
    · exact Nat.ne_of_gt (hf q h).1
    · exact d3 q h
  rcases hT with rfl | ⟨k1, k2, oc, vs, qt, rfl, hm, hd1, hd2⟩
  · exact rule0 hp B F X N1 dr T C hdp hun fun h' tk' f ps' tl hTb hR hf F' N' => hret h' tk' f ps' tl (hTb.mono fun q hq => by simp [hq]) (hR.mono fun q hq => by simp [hq]) (fr d1 (by simp) hf) (fr d2 (by simp) hf) (fr3 hf) F' (out N')
  · refine rule1 (R' := R) hp B F X (rest := e1 :: e2 :: f1 :: f2 :: f3 :: f4 :: R) (fun q hq => ?_) dr hm hd1 hd2 T C hdp hun fun h' tk' f tl hR hf F' N' => hret h' tk' f _ tl (.inr ⟨k1, k2, oc, vs, qt, rfl, by simp [hm], hd1, hd2⟩) hR (fr d1 (by simp) hf) (fr d2 (by simp) hf) (fr3 hf) F' (out N')
    rcases List.mem_cons.mp hq with rfl | hq
    · exact N1 _ (by simp)
    · rcases List.mem_cons.mp hq with rfl | hq
      · exact N _ (by simp [hm])
      · exact N1 _ (by simp only [List.mem_cons]; exact .inr (by simpa using hq))
end
end Mine
end
section
open PySem PySem.W PyProof.Rows PySem.Calls PySem.Spec
namespace Mine

theorem par_eq {p : Nat} (h : 0 < p) : ((p : Int) - 1).fdiv (2 ^ Int.toNat 1) = (((p - 1) / 2 : Nat) : Int) := by
  have e : ((p : Int) - 1) = ((p - 1 : Nat) : Int) := by omega
  rw [e]
  show ((p - 1 : Nat) : Int).fdiv 2 = _
  rw [Int.fdiv_eq_ediv_of_nonneg _ (by omega)]
  omega
theorem kt_Sift : True := by
  k_with_none
  k_with "m all" => (first | assumption | (tbn_letter; refine all_of_lt (by tbn_find) (by omega)))
  k_with "m mem" => (first | assumption | (repeat (first | exact List.Mem.head _ | assumption | refine List.Mem.tail _ ?_)))
  k_with "m ne" => (first | assumption | exact Ne.symm (by assumption) | (refine neN ?_; (try dsimp only); (repeat (rename @Ne Nat _ _ => hz9; clear hz9)); (repeat (rename @Ne Nat _ _ ∧ _ => hz9; clear hz9)); (repeat (rename (@Ne Nat _ _ ∧ _) ∧ _ => hz9; clear hz9)); omega) | ((repeat (rename @Ne Nat _ _ ∧ _ => hz9; first | exact hz9.1 | exact hz9.1.symm | exact hz9.2.1 | exact hz9.2.1.symm | exact hz9.2.2.1 | exact hz9.2.2.1.symm | exact hz9.2.2.2.1 | exact hz9.2.2.2.1.symm | exact hz9.2.2.2.2.1 | exact hz9.2.2.2.2.1.symm | exact hz9.2.2.2.2.2.1 | exact hz9.2.2.2.2.2.1.symm | exact hz9.2.2.2.2.2.2.1 | exact hz9.2.2.2.2.2.2.1.symm | exact hz9.2.2.2.2.2.2.2.1 | exact hz9.2.2.2.2.2.2.2.1.symm | exact hz9.2.2.2.2.2.2.2.2.1 | exact hz9.2.2.2.2.2.2.2.2.1.symm | exact hz9.2.2.2.2.2.2.2.2.2.1 | exact hz9.2.2.2.2.2.2.2.2.2.1.symm | exact hz9.2.2.2.2.2.2.2.2.2.2.1 | exact hz9.2.2.2.2.2.2.2.2.2.2.1.symm | exact hz9.2.2.2.2.2.2.2.2.2.2.2.1 | exact hz9.2.2.2.2.2.2.2.2.2.2.2.1.symm | exact hz9.2.2.2.2.2.2.2.2.2.2.2.2.1 | exact hz9.2.2.2.2.2.2.2.2.2.2.2.2.1.symm | exact hz9.2.2.2.2.2.2.2.2.2.2.2.2.2.1 | exact hz9.2.2.2.2.2.2.2.2.2.2.2.2.2.1.symm | exact hz9.2.2.2.2.2.2.2.2.2.2.2.2.2.2.1 | exact hz9.2.2.2.2.2.2.2.2.2.2.2.2.2.2.1.symm | clear hz9)); done) | ((repeat (rename (@Ne Nat _ _ ∧ _) ∧ _ => hz9; first | exact hz9.1.1 | exact hz9.1.1.symm | exact hz9.1.2.1 | exact hz9.1.2.1.symm | exact hz9.1.2.2 | exact hz9.1.2.2.symm | exact hz9.2.1.1 | exact hz9.2.1.1.symm | exact hz9.2.1.2.1 | exact hz9.2.1.2.1.symm | exact hz9.2.1.2.2 | exact hz9.2.1.2.2.symm | exact hz9.2.2.1.1 | exact hz9.2.2.1.1.symm | exact hz9.2.2.1.2.1 | exact hz9.2.2.1.2.1.symm | exact hz9.2.2.1.2.2 | exact hz9.2.2.1.2.2.symm | exact hz9.2.2.2.1.1 | exact hz9.2.2.2.1.1.symm | exact hz9.2.2.2.1.2.1 | exact hz9.2.2.2.1.2.1.symm | exact hz9.2.2.2.1.2.2 | exact hz9.2.2.2.1.2.2.symm | exact hz9.2.2.2.2.1.1 | exact hz9.2.2.2.2.1.1.symm | exact hz9.2.2.2.2.1.2.1 | exact hz9.2.2.2.2.1.2.1.symm | exact hz9.2.2.2.2.1.2.2 | exact hz9.2.2.2.2.1.2.2.symm | exact hz9.2.2.2.2.2.1.1 | exact hz9.2.2.2.2.2.1.1.symm | exact hz9.2.2.2.2.2.1.2.1 | exact hz9.2.2.2.2.2.1.2.1.symm | exact hz9.2.2.2.2.2.1.2.2 | exact hz9.2.2.2.2.2.1.2.2.symm | exact hz9.2.2.2.2.2.2.1.1 | exact hz9.2.2.2.2.2.2.1.1.symm | exact hz9.2.2.2.2.2.2.1.2.1 | exact hz9.2.2.2.2.2.2.1.2.1.symm | exact hz9.2.2.2.2.2.2.1.2.2 | exact hz9.2.2.2.2.2.2.1.2.2.symm | exact hz9.2.2.2.2.2.2.2.1.1 | exact hz9.2.2.2.2.2.2.2.1.1.symm | exact hz9.2.2.2.2.2.2.2.1.2.1 | exact hz9.2.2.2.2.2.2.2.1.2.1.symm | exact hz9.2.2.2.2.2.2.2.1.2.2 | exact hz9.2.2.2.2.2.2.2.1.2.2.symm | exact hz9.2.2.2.2.2.2.2.2.1.1 | exact hz9.2.2.2.2.2.2.2.2.1.1.symm | exact hz9.2.2.2.2.2.2.2.2.1.2.1 | exact hz9.2.2.2.2.2.2.2.2.1.2.1.symm | exact hz9.2.2.2.2.2.2.2.2.1.2.2 | exact hz9.2.2.2.2.2.2.2.2.1.2.2.symm | exact hz9.2.2.2.2.2.2.2.2.2.1.1 | exact hz9.2.2.2.2.2.2.2.2.2.1.1.symm | exact hz9.2.2.2.2.2.2.2.2.2.1.2.1 | exact hz9.2.2.2.2.2.2.2.2.2.1.2.1.symm | exact hz9.2.2.2.2.2.2.2.2.2.1.2.2 | exact hz9.2.2.2.2.2.2.2.2.2.1.2.2.symm | exact hz9.2.2.2.2.2.2.2.2.2.2.1.1 | exact hz9.2.2.2.2.2.2.2.2.2.2.1.1.symm | exact hz9.2.2.2.2.2.2.2.2.2.2.1.2.1 | exact hz9.2.2.2.2.2.2.2.2.2.2.1.2.1.symm | exact hz9.2.2.2.2.2.2.2.2.2.2.1.2.2 | exact hz9.2.2.2.2.2.2.2.2.2.2.1.2.2.symm | exact hz9.2.2.2.2.2.2.2.2.2.2.2.1.1 | exact hz9.2.2.2.2.2.2.2.2.2.2.2.1.1.symm | exact hz9.2.2.2.2.2.2.2.2.2.2.2.1.2.1 | exact hz9.2.2.2.2.2.2.2.2.2.2.2.1.2.1.symm | exact hz9.2.2.2.2.2.2.2.2.2.2.2.1.2.2 | exact hz9.2.2.2.2.2.2.2.2.2.2.2.1.2.2.symm | exact hz9.2.2.2.2.2.2.2.2.2.2.2.2.1.1 | exact hz9.2.2.2.2.2.2.2.2.2.2.2.2.1.1.symm | exact hz9.2.2.2.2.2.2.2.2.2.2.2.2.1.2.1 | exact hz9.2.2.2.2.2.2.2.2.2.2.2.2.1.2.1.symm | exact hz9.2.2.2.2.2.2.2.2.2.2.2.2.1.2.2 | exact hz9.2.2.2.2.2.2.2.2.2.2.2.2.1.2.2.symm | exact hz9.2.2.2.2.2.2.2.2.2.2.2.2.2.1.1 | exact hz9.2.2.2.2.2.2.2.2.2.2.2.2.2.1.1.symm | exact hz9.2.2.2.2.2.2.2.2.2.2.2.2.2.1.2.1 | exact hz9.2.2.2.2.2.2.2.2.2.2.2.2.2.1.2.1.symm | exact hz9.2.2.2.2.2.2.2.2.2.2.2.2.2.1.2.2 | exact hz9.2.2.2.2.2.2.2.2.2.2.2.2.2.1.2.2.symm | exact hz9.2.2.2.2.2.2.2.2.2.2.2.2.2.2.1.1 | exact hz9.2.2.2.2.2.2.2.2.2.2.2.2.2.2.1.1.symm | exact hz9.2.2.2.2.2.2.2.2.2.2.2.2.2.2.1.2.1 | exact hz9.2.2.2.2.2.2.2.2.2.2.2.2.2.2.1.2.1.symm | exact hz9.2.2.2.2.2.2.2.2.2.2.2.2.2.2.1.2.2 | exact hz9.2.2.2.2.2.2.2.2.2.2.2.2.2.2.1.2.2.symm | exact hz9.2.2.2.2.2.2.2.2.2.2.2.2.2.2.2.1.1 | exact hz9.2.2.2.2.2.2.2.2.2.2.2.2.2.2.2.1.1.symm | exact hz9.2.2.2.2.2.2.2.2.2.2.2.2.2.2.2.1.2.1 | exact hz9.2.2.2.2.2.2.2.2.2.2.2.2.2.2.2.1.2.1.symm | exact hz9.2.2.2.2.2.2.2.2.2.2.2.2.2.2.2.1.2.2 | exact hz9.2.2.2.2.2.2.2.2.2.2.2.2.2.2.2.1.2.2.symm | exact hz9.2.2.2.2.2.2.2.2.2.2.2.2.2.2.2.2.1.1 | exact hz9.2.2.2.2.2.2.2.2.2.2.2.2.2.2.2.2.1.1.symm | exact hz9.2.2.2.2.2.2.2.2.2.2.2.2.2.2.2.2.1.2.1 | exact hz9.2.2.2.2.2.2.2.2.2.2.2.2.2.2.2.2.1.2.1.symm | exact hz9.2.2.2.2.2.2.2.2.2.2.2.2.2.2.2.2.1.2.2 | exact hz9.2.2.2.2.2.2.2.2.2.2.2.2.2.2.2.2.1.2.2.symm | clear hz9)); done) | (refine neN ?_; (try dsimp only); omega))
  k_with "compareOp Lt ref ref" => (k_here; k_dflt (refine tup_lt (by k_units) (by exact News.get (by k_asm) (by k_mem)) (by exact News.get (by k_asm) (by k_mem)) ?_))
  k_with "exec While Compare cons nil" => (k_here; refine stop_in ?_)
  k_with "storeName" => (k_here; dsimp only)
  k_with "eval Constant str" => (k_here; with_reducible refine const_str ?_)
  k_with "eval Constant int" => (k_here; with_reducible refine const_int ?_)
  k_with "subscriptTail" => (k_here; k_dflt (refine list_item (by k_asm) (by k_mem) (by first | assumption | rfl | exact par_eq (by omega)) (by assumption) (by omega) ?_ (by with_unfolding_all rfl); k_whole))
  k_with "call builtin:len" => (k_here; k_dflt (refine call_len_list (News.isList (by k_asm) (by k_mem)) (by (simp only [List.size_toArray, List.length_append, List.length_cons, List.length_nil]; omega)) ?_))
  k_with "setItem ref int" => (k_here; k_dflt (refine list_set (by k_asm) (by k_asm) (by first | assumption | rfl) (by k_upd) (by omega) (by omega) ?_); intro h' F' N'; (try dsimp only [List.nil_append, List.cons_append] at N'))
  trivial
/-- a pair's way up -/
noncomputable def sdN : Nat → List (Int × Str) → Int × Str → Nat → List (Int × Str) × Nat
  | 0, ps, _, p => (ps, p)
  | n + 1, ps, x, p => if p = 0 then (ps, p) else if ltP x (ps.getD ((p - 1) / 2) default) = true then sdN n (ps.set p (ps.getD ((p - 1) / 2) default)) x ((p - 1) / 2) else (ps, p)
noncomputable def sdF (ps : List (Int × Str)) (p : Nat) : List (Int × Str) :=
  (sdN p ps (ps.getD p default) p).1.set (sdN p ps (ps.getD p default) p).2 (ps.getD p default)
theorem sdN_0 {n : Nat} {ps : List (Int × Str)} {x : Int × Str} : sdN n ps x 0 = (ps, 0) := by
  cases n with
  | zero => rfl
  | succ n => exact if_pos rfl
theorem sdN_no {n p : Nat} {ps : List (Int × Str)} {x : Int × Str} (h0 : 0 < p) (h : ltP x (ps.getD ((p - 1) / 2) default) = false) : sdN n ps x p = (ps, p) := by
  cases n with
  | zero => rfl
  | succ n => exact (if_neg (Nat.ne_of_gt h0)).trans (if_f h)
theorem sdN_yes {n p : Nat} {ps : List (Int × Str)} {x : Int × Str} (h0 : 0 < p) (hn : p ≤ n) (h : ltP x (ps.getD ((p - 1) / 2) default) = true) : sdN n ps x p = sdN (n - 1) (ps.set p (ps.getD ((p - 1) / 2) default)) x ((p - 1) / 2) := by
  cases n with
  | zero => exact absurd hn (Nat.not_le.mpr h0)
  | succ n => exact (if_neg (Nat.ne_of_gt h0)).trans (if_pos h)
theorem setL_some : ∀ {l : List Value} {j : Nat} {v : Value}, j < l.length → ki_setL l j v = some (l.set j v)
  | [], _, _, h => absurd h (Nat.not_lt_zero _)
  | _ :: _, 0, _, _ => rfl
  | x :: r, j + 1, v, h => by
    unfold ki_setL
    rw [setL_some (Nat.lt_of_succ_lt_succ h)]
    rfl
theorem All2.pick {P : Value → Int × Str → Prop} {R : List (Addr × Obj)} (hP : ∀ v p, P v p → ∃ a u x, v = .ref a ∧ (a, tupO p.1 u p.2 x) ∈ R) {ys : List Value} {ps : List (Int × Str)} (h : All2 P ys ps) {i : Nat} (hi : i < ps.length) : ∃ a u x, ys.toArray[i]? = some (.ref a) ∧ P (.ref a) (ps.getD i default) ∧ (a, tupO (ps.getD i default).1 u (ps.getD i default).2 x) ∈ R := by
  have hl : ys.length = ps.length := All2.length h
  have hv : ys[i]? = some (ys[i]'(hl ▸ hi)) := List.getElem?_eq_getElem (hl ▸ hi)
  have h1 := (All2.at h i _ hv).2
  obtain ⟨a, u, x, e, hm⟩ := hP _ _ h1
  rw [e] at h1 hv
  exact ⟨a, u, x, by rw [List.getElem?_toArray, hv], h1, hm⟩
theorem All2.put {α β : Type} {P : α → β → Prop} {ys : List α} {ps : List β} {v : α} {q : β} (hq : P v q) (h : All2 P ys ps) : ∀ i, All2 P (ys.set i v) (ps.set i q) := by
  refine All2.ind (M := fun ys ps => ∀ i, All2 P (ys.set i v) (ps.set i q)) (fun _ => trivial) ?_ h
  intro a b as bs h1 h2 ih i
  cases i with
  | zero => exact ⟨hq, h2⟩
  | succ i => exact ⟨h1, ih i⟩
section
variable {prog : Program} {w : World} {A : Around} {E : Value → Shared → Prop} {s : Shared} {h₀ : Heap} {L l : Addr} {m : Str → Option Value}
theorem list_item {its : Array Value} {k j : Nat} {i : Int} {v : Value} {t : Tok} {news : List (Addr × Obj)} {value slice : PySem.Expr} {Q : Value → Shared → Prop} (N : News h₀ L s.heap news) (hm : (l, listOf its k) ∈ news) (hi : i = (j : Int)) (hv : its[j]? = some v) (hj : j < 1000)
   (h : Q v s) (hs : subscripted slice false (.ref l) (.int i t) = operate [.ref l, .int i t] (getItem (.ref l) (.int i t)) := by with_unfolding_all rfl) :
   wpAny (model prog w) A (subscriptTail value slice (.ref l) (.int i t)) Q E s := by
  subst hi
  have hl : s.heap.IsList l its := News.isList N hm
  exact tail_any hl.typeIs slot_list_getitem.lookup (wpAny_getItem_list hl (by omega) (by omega) (by simpa using hv) h) hs
theorem list_set {ys : List Value} {k j : Nat} {i : Int} {v : Value} {t : Tok} {news news' : List (Addr × Obj)} {Q : Unit → Shared → Prop} (F : Fr h₀ L s.heap m) (N : News h₀ L s.heap news) (hi : i = (j : Int)) (U : Upd l (listOf ys.toArray k) (listOf (ys.set j v).toArray k) news news') (hj : j < ys.length) (hz : j < 1000)
    (h : ∀ h', Fr h₀ L h' m → News h₀ L h' news' → Q () { s with heap := h' }) : wpAny (model prog w) A (setItem (.ref l) (.int i t) v) Q E s := by
  subst hi
  exact ki_set F N (by omega) (by omega) (by simpa using setL_some hj) U h
end
section
variable {w : World} {dp un : Nat} {gd : Option (List Code)} {cn : Str} {nm : List (Str × NameKind)} {ig ic : Bool} {mr : List (Str × Const)} {a : Addr} {ccd : Value} {cl : List (Str × Addr)} {outer : List Env} {A₀ : Around} {base h₀ : Heap} {L : Addr} {m : Str → Option Value} {s : Shared} {Q E : Value → Shared → Prop}
   {mean : ExcName → Option Value} {mg mb : Str → Option Value} {loose : List Str}
set_option maxHeartbeats 4000000 in
theorem sift0 {l : Addr} {ys : List Value} {ps : List (Int × Str)} {k p : Nat} {t0 t1 : Tok} {rest : List (Addr × Obj)} {P : Value → Int × Str → Prop}
   (B : Below A₀ base outer h₀) (F : Fr h₀ L s.heap m) (X : (heapK w.params).In h₀)
   (N : News h₀ L s.heap ((l, listOf ys.toArray k) :: rest)) (dr : ∀ q ∈ rest, q.1 ≠ l)
   (hP : ∀ v p, P v p → ∃ a u x, v = .ref a ∧ (a, tupO p.1 u p.2 x) ∈ rest) (hp : All2 P ys ps) (hi : p < ps.length) (hn : ps.length ≤ 100)
   (T : Top topProg loose mean mg mb h₀) (hdp : dp + 1 < recursionLimit) (hun : un + 100 < cLine)
   (hret : ∀ h' tk' ys', All2 P ys' (sdF ps p) → Fr h₀ L h' m → News h₀ L h' ((l, listOf ys'.toArray k) :: rest) → Q .none { s with heap := h', toks := tk' }) :
   wpAny (model PySem.Challenge.rw_oy0154_01.prog w) (ktrTop dp un gd cn ⟨.function, nm, ig, ic, mr⟩ L a ccd cl outer) (call (.ref 77) [.ref l, .int 0 t0, .int (p : Int) t1]) Q E s := by
  revert T N X
  k_fill
  intro X N T
  obtain ⟨ax, ux, vx, ex, px, mx⟩ := hp.pick hP hi
  have hyl : ys.length = ps.length := All2.length hp
  refine wpAny_call ?_
  k_dflt k_enter
  k_steps
  refine stop_out ?_
  (rename News _ _ _ _ => lN')
  (rename Fr _ _ _ _ => lF')
  refine ksw_while (σ := List Value × List (Int × Str) × Nat × Tok) (fun c => (l, listOf c.1.toArray k) :: rest) (fun c => [(Str.ofString "pos", .int c.2.2.1 c.2.2.2)]) (fun _ => True) [Str.ofString "parentpos", Str.ofString "parent"] (fun c => All2 P c.1 c.2.1 ∧ c.2.1.length = ps.length ∧ c.2.2.1 < ps.length ∧ ∃ n, c.2.2.1 ≤ n ∧ sdN n c.2.1 (ps.getD p default) c.2.2.1 = sdN p ps (ps.getD p default) p) (fun c => c.2.2.1) (ys, ps, p, t1) lF' lN' trivial ?_ ⟨hp, rfl, hi, p, Nat.le_refl _, rfl⟩ (fun c u h tk _ hc F N => ?_)
  · intro q hq
    rw [List.mem_singleton.mp hq]
    exact rfl
  · clear lN' lF'
    obtain ⟨ys2, ps2, p2, t2⟩ := c
    obtain ⟨c1, c2, c3, n, c4, c5⟩ := hc
    dsimp only at c1 c2 c3 c4 c5 F N ⊢
    have hyl2 : ys2.length = ps2.length := All2.length c1
    obtain ⟨aq, uq, vq, eq, pq, mq⟩ := c1.pick hP (show (p2 - 1) / 2 < ps2.length by omega)
    k_steps
    · (rename News _ _ _ _ => nE)
      (rename Fr _ _ _ _ => fE)
      (rename 0 < _ => h0)
      (rename ltP _ _ = true => hlt)
      refine' ksw_end (c' := (ys2.set p2 (.ref aq), ps2.set p2 (ps2.getD ((p2 - 1) / 2) default), (p2 - 1) / 2, ?t8)) fE nE (fun q hq => hq) trivial ?sk ?sr ⟨c1.put pq p2, by rw [List.length_set]; exact c2, show (p2 - 1) / 2 < ps.length by omega, n - 1, show (p2 - 1) / 2 ≤ n - 1 by omega, (sdN_yes (by omega) c4 hlt).symm.trans c5⟩ (show (p2 - 1) / 2 < p2 by omega)
      case sk =>
        intro q hq
        rw [List.mem_singleton.mp hq]
        dsimp only
        rw [← par_eq (by omega)]
        exact rfl
      case sr =>
        intro z hz1 hz2
        have hz3 := hz1 _ (.head _)
        simp only [List.contains_cons, List.contains_nil, Bool.or_false, Bool.or_eq_false_iff, beq_eq_false_iff_ne, ne_eq] at hz2 hz3
        simp [kstB, hz2, hz3]
    · (rename News _ _ _ _ => nE)
      (rename Fr _ _ _ _ => fE)
      (rename 0 < _ => h0)
      (rename ltP _ _ = false => hlt)
      refine hret _ _ (ys2.set p2 (.ref ax)) ?_ fE nE
      unfold sdF
      rw [c5.symm.trans (sdN_no (by omega) hlt)]
      exact c1.put px p2
    · (rename News _ _ _ _ => nE)
      (rename Fr _ _ _ _ => fE)
      (rename ¬ _ < _ => h0)
      refine hret _ _ (ys2.set p2 (.ref ax)) ?_ fE nE
      obtain rfl : p2 = 0 := by omega
      unfold sdF
      rw [c5.symm.trans sdN_0]
      exact c1.put px 0
theorem sift_use {l : Addr} {ys : List Value} {ps : List (Int × Str)} {k p : Nat} {i : Int} {t0 t1 : Tok} {rest : List (Addr × Obj)} {P : Value → Int × Str → Prop}
   (B : Below A₀ base outer h₀) (F : Fr h₀ L s.heap m) (X : (heapK w.params).In h₀)
   (N : News h₀ L s.heap ((l, listOf ys.toArray k) :: rest)) (dr : ∀ q ∈ rest, q.1 ≠ l)
   (hP : ∀ v p, P v p → ∃ a u x, v = .ref a ∧ (a, tupO p.1 u p.2 x) ∈ rest) (hp : All2 P ys ps) (hpi : i = (p : Int)) (hi : p < ps.length) (hn : ps.length ≤ 100)
   (T : Top topProg loose mean mg mb h₀) (hdp : dp + 1 < recursionLimit) (hun : un + 100 < cLine)
   (hret : ∀ h' tk' ys', All2 P ys' (sdF ps p) → Fr h₀ L h' m → News h₀ L h' ((l, listOf ys'.toArray k) :: rest) → Q .none { s with heap := h', toks := tk' }) :
   wpAny (model PySem.Challenge.rw_oy0154_01.prog w) (ktrTop dp un gd cn ⟨.function, nm, ig, ic, mr⟩ L a ccd cl outer) (call (.ref 77) [.ref l, .int 0 t0, .int i t1]) Q E s := by
  subst hpi
  exact sift0 B F X N dr hP hp hi hn T hdp hun hret
set_option maxHeartbeats 4000000 in
theorem pushG {l it : Addr} {ys : List Value} {ps : List (Int × Str)} {q : Int × Str} {k : Nat} {rest : List (Addr × Obj)} {P : Value → Int × Str → Prop}
   (B : Below A₀ base outer h₀) (F : Fr h₀ L s.heap m) (X : (heapK w.params).In h₀)
   (N : News h₀ L s.heap ((l, listOf ys.toArray k) :: rest)) (dr : ∀ q ∈ rest, q.1 ≠ l)
   (hP : ∀ v p, P v p → ∃ a u x, v = .ref a ∧ (a, tupO p.1 u p.2 x) ∈ rest) (hp : All2 P ys ps) (hq : P (.ref it) q) (hn : ps.length ≤ 90)
   (T : Top topProg loose mean mg mb h₀) (hdp : dp + 3 < recursionLimit) (hun : un + 200 < cLine)
   (hret : ∀ h' tk' ys' k', All2 P ys' (sdF (ps ++ [q]) ps.length) → Fr h₀ L h' m → News h₀ L h' ((l, listOf ys'.toArray k') :: rest) → Q .none { s with heap := h', toks := tk' }) :
   wpAny (model PySem.Challenge.rw_oy0154_01.prog w) (ktrTop dp un gd cn ⟨.function, nm, ig, ic, mr⟩ L a ccd cl outer) (call (.ref 63) [.ref l, .ref it]) Q E s := by
  k_with "call ref" => (k_here; refine stop_in ?_)
  revert T N X
  k_fill
  intro X N T
  have hyl : ys.length = ps.length := All2.length hp
  refine wpAny_call ?_
  k_dflt k_enter
  k_steps
  refine stop_out ?_
  (rename News _ _ _ _ => lN')
  (rename Fr _ _ _ _ => lF')
  refine sift_use (p := ps.length) (by assumption) lF' (by assumption) lN' dr hP (All2.snoc hq hp) (by simp only [List.size_toArray, List.length_append, List.length_cons, List.length_nil]; omega) (by simp only [List.length_append, List.length_cons, List.length_nil]; omega) (by simp only [List.length_append, List.length_cons, List.length_nil]; omega) (by assumption) (by ktr_room) (by ktr_units) (fun h' tk' ys' hp' F' N' => ?_)
  clear lN' lF'
  k_whole
  k_steps
  (rename News _ _ _ _ => nE)
  (rename Fr _ _ _ _ => fE)
  exact hret _ _ _ _ hp' fE nE
end
theorem sdF_push (q : Int × Str) (ps : List (Int × Str)) (hn : ps.length ≤ 3) : sdF (ps ++ [q]) ps.length = pushR ps q := by
  rcases ps with _ | ⟨p0, _ | ⟨p1, _ | ⟨p2, _ | ⟨_, _⟩⟩⟩⟩
  · rfl
  · cases h : ltP q p0 <;> simp [sdF, sdN, pushR, h]
  · cases h : ltP q p0 <;> simp [sdF, sdN, pushR, h]
  · cases h : ltP q p1 <;> cases h0 : ltP q p0 <;> simp [sdF, sdN, pushR, h, h0]
  · exact absurd hn (by simp only [List.length_cons]; omega)
end Mine
end
section
open PySem PySem.W PyProof.Rows PySem.Calls PySem.Spec
namespace Mine


theorem kt_SiftUp : True := by
  k_with_none
  k_with "m all" => (first | assumption | (tbn_letter; refine all_of_lt (by tbn_find) (by omega)))
  k_with "m mem" => (first | exact List.Mem.head _ | (with_reducible exact List.mem_cons_of_mem _ (hg1.get (by omega)).2.2) | (with_reducible exact List.mem_cons_of_mem _ (hg2.get (by omega)).2.2) | with_reducible assumption | (repeat (first | exact List.Mem.head _ | assumption | refine List.Mem.tail _ ?_)))
  k_with "m ne" => (first | assumption | exact Ne.symm (by assumption) | (refine neN ?_; (try dsimp only); (repeat (rename @Ne Nat _ _ => hz9; clear hz9)); (repeat (rename @Ne Nat _ _ ∧ _ => hz9; clear hz9)); (repeat (rename (@Ne Nat _ _ ∧ _) ∧ _ => hz9; clear hz9)); omega) | ((repeat (rename @Ne Nat _ _ ∧ _ => hz9; first | exact hz9.1 | exact hz9.1.symm | exact hz9.2.1 | exact hz9.2.1.symm | exact hz9.2.2.1 | exact hz9.2.2.1.symm | exact hz9.2.2.2.1 | exact hz9.2.2.2.1.symm | exact hz9.2.2.2.2.1 | exact hz9.2.2.2.2.1.symm | exact hz9.2.2.2.2.2.1 | exact hz9.2.2.2.2.2.1.symm | exact hz9.2.2.2.2.2.2.1 | exact hz9.2.2.2.2.2.2.1.symm | exact hz9.2.2.2.2.2.2.2.1 | exact hz9.2.2.2.2.2.2.2.1.symm | exact hz9.2.2.2.2.2.2.2.2.1 | exact hz9.2.2.2.2.2.2.2.2.1.symm | exact hz9.2.2.2.2.2.2.2.2.2.1 | exact hz9.2.2.2.2.2.2.2.2.2.1.symm | exact hz9.2.2.2.2.2.2.2.2.2.2.1 | exact hz9.2.2.2.2.2.2.2.2.2.2.1.symm | exact hz9.2.2.2.2.2.2.2.2.2.2.2.1 | exact hz9.2.2.2.2.2.2.2.2.2.2.2.1.symm | exact hz9.2.2.2.2.2.2.2.2.2.2.2.2.1 | exact hz9.2.2.2.2.2.2.2.2.2.2.2.2.1.symm | exact hz9.2.2.2.2.2.2.2.2.2.2.2.2.2.1 | exact hz9.2.2.2.2.2.2.2.2.2.2.2.2.2.1.symm | exact hz9.2.2.2.2.2.2.2.2.2.2.2.2.2.2.1 | exact hz9.2.2.2.2.2.2.2.2.2.2.2.2.2.2.1.symm | clear hz9)); done) | ((repeat (rename (@Ne Nat _ _ ∧ _) ∧ _ => hz9; first | exact hz9.1.1 | exact hz9.1.1.symm | exact hz9.1.2.1 | exact hz9.1.2.1.symm | exact hz9.1.2.2 | exact hz9.1.2.2.symm | exact hz9.2.1.1 | exact hz9.2.1.1.symm | exact hz9.2.1.2.1 | exact hz9.2.1.2.1.symm | exact hz9.2.1.2.2 | exact hz9.2.1.2.2.symm | exact hz9.2.2.1.1 | exact hz9.2.2.1.1.symm | exact hz9.2.2.1.2.1 | exact hz9.2.2.1.2.1.symm | exact hz9.2.2.1.2.2 | exact hz9.2.2.1.2.2.symm | exact hz9.2.2.2.1.1 | exact hz9.2.2.2.1.1.symm | exact hz9.2.2.2.1.2.1 | exact hz9.2.2.2.1.2.1.symm | exact hz9.2.2.2.1.2.2 | exact hz9.2.2.2.1.2.2.symm | exact hz9.2.2.2.2.1.1 | exact hz9.2.2.2.2.1.1.symm | exact hz9.2.2.2.2.1.2.1 | exact hz9.2.2.2.2.1.2.1.symm | exact hz9.2.2.2.2.1.2.2 | exact hz9.2.2.2.2.1.2.2.symm | exact hz9.2.2.2.2.2.1.1 | exact hz9.2.2.2.2.2.1.1.symm | exact hz9.2.2.2.2.2.1.2.1 | exact hz9.2.2.2.2.2.1.2.1.symm | exact hz9.2.2.2.2.2.1.2.2 | exact hz9.2.2.2.2.2.1.2.2.symm | exact hz9.2.2.2.2.2.2.1.1 | exact hz9.2.2.2.2.2.2.1.1.symm | exact hz9.2.2.2.2.2.2.1.2.1 | exact hz9.2.2.2.2.2.2.1.2.1.symm | exact hz9.2.2.2.2.2.2.1.2.2 | exact hz9.2.2.2.2.2.2.1.2.2.symm | exact hz9.2.2.2.2.2.2.2.1.1 | exact hz9.2.2.2.2.2.2.2.1.1.symm | exact hz9.2.2.2.2.2.2.2.1.2.1 | exact hz9.2.2.2.2.2.2.2.1.2.1.symm | exact hz9.2.2.2.2.2.2.2.1.2.2 | exact hz9.2.2.2.2.2.2.2.1.2.2.symm | exact hz9.2.2.2.2.2.2.2.2.1.1 | exact hz9.2.2.2.2.2.2.2.2.1.1.symm | exact hz9.2.2.2.2.2.2.2.2.1.2.1 | exact hz9.2.2.2.2.2.2.2.2.1.2.1.symm | exact hz9.2.2.2.2.2.2.2.2.1.2.2 | exact hz9.2.2.2.2.2.2.2.2.1.2.2.symm | exact hz9.2.2.2.2.2.2.2.2.2.1.1 | exact hz9.2.2.2.2.2.2.2.2.2.1.1.symm | exact hz9.2.2.2.2.2.2.2.2.2.1.2.1 | exact hz9.2.2.2.2.2.2.2.2.2.1.2.1.symm | exact hz9.2.2.2.2.2.2.2.2.2.1.2.2 | exact hz9.2.2.2.2.2.2.2.2.2.1.2.2.symm | exact hz9.2.2.2.2.2.2.2.2.2.2.1.1 | exact hz9.2.2.2.2.2.2.2.2.2.2.1.1.symm | exact hz9.2.2.2.2.2.2.2.2.2.2.1.2.1 | exact hz9.2.2.2.2.2.2.2.2.2.2.1.2.1.symm | exact hz9.2.2.2.2.2.2.2.2.2.2.1.2.2 | exact hz9.2.2.2.2.2.2.2.2.2.2.1.2.2.symm | exact hz9.2.2.2.2.2.2.2.2.2.2.2.1.1 | exact hz9.2.2.2.2.2.2.2.2.2.2.2.1.1.symm | exact hz9.2.2.2.2.2.2.2.2.2.2.2.1.2.1 | exact hz9.2.2.2.2.2.2.2.2.2.2.2.1.2.1.symm | exact hz9.2.2.2.2.2.2.2.2.2.2.2.1.2.2 | exact hz9.2.2.2.2.2.2.2.2.2.2.2.1.2.2.symm | exact hz9.2.2.2.2.2.2.2.2.2.2.2.2.1.1 | exact hz9.2.2.2.2.2.2.2.2.2.2.2.2.1.1.symm | exact hz9.2.2.2.2.2.2.2.2.2.2.2.2.1.2.1 | exact hz9.2.2.2.2.2.2.2.2.2.2.2.2.1.2.1.symm | exact hz9.2.2.2.2.2.2.2.2.2.2.2.2.1.2.2 | exact hz9.2.2.2.2.2.2.2.2.2.2.2.2.1.2.2.symm | exact hz9.2.2.2.2.2.2.2.2.2.2.2.2.2.1.1 | exact hz9.2.2.2.2.2.2.2.2.2.2.2.2.2.1.1.symm | exact hz9.2.2.2.2.2.2.2.2.2.2.2.2.2.1.2.1 | exact hz9.2.2.2.2.2.2.2.2.2.2.2.2.2.1.2.1.symm | exact hz9.2.2.2.2.2.2.2.2.2.2.2.2.2.1.2.2 | exact hz9.2.2.2.2.2.2.2.2.2.2.2.2.2.1.2.2.symm | exact hz9.2.2.2.2.2.2.2.2.2.2.2.2.2.2.1.1 | exact hz9.2.2.2.2.2.2.2.2.2.2.2.2.2.2.1.1.symm | exact hz9.2.2.2.2.2.2.2.2.2.2.2.2.2.2.1.2.1 | exact hz9.2.2.2.2.2.2.2.2.2.2.2.2.2.2.1.2.1.symm | exact hz9.2.2.2.2.2.2.2.2.2.2.2.2.2.2.1.2.2 | exact hz9.2.2.2.2.2.2.2.2.2.2.2.2.2.2.1.2.2.symm | exact hz9.2.2.2.2.2.2.2.2.2.2.2.2.2.2.2.1.1 | exact hz9.2.2.2.2.2.2.2.2.2.2.2.2.2.2.2.1.1.symm | exact hz9.2.2.2.2.2.2.2.2.2.2.2.2.2.2.2.1.2.1 | exact hz9.2.2.2.2.2.2.2.2.2.2.2.2.2.2.2.1.2.1.symm | exact hz9.2.2.2.2.2.2.2.2.2.2.2.2.2.2.2.1.2.2 | exact hz9.2.2.2.2.2.2.2.2.2.2.2.2.2.2.2.1.2.2.symm | exact hz9.2.2.2.2.2.2.2.2.2.2.2.2.2.2.2.2.1.1 | exact hz9.2.2.2.2.2.2.2.2.2.2.2.2.2.2.2.2.1.1.symm | exact hz9.2.2.2.2.2.2.2.2.2.2.2.2.2.2.2.2.1.2.1 | exact hz9.2.2.2.2.2.2.2.2.2.2.2.2.2.2.2.2.1.2.1.symm | exact hz9.2.2.2.2.2.2.2.2.2.2.2.2.2.2.2.2.1.2.2 | exact hz9.2.2.2.2.2.2.2.2.2.2.2.2.2.2.2.2.1.2.2.symm | clear hz9)); done) | (refine neN ?_; (try dsimp only); omega))
  k_with "compareOp Lt ref ref" => (k_here; k_dflt (refine tup_lt (by k_units) (by exact News.get (by k_asm) (by k_mem)) (by exact News.get (by k_asm) (by k_mem)) ?_))
  k_with "exec While Compare cons nil" => (k_here; refine stop_in ?_)
  k_with "storeName" => (k_here; dsimp only)
  k_with "eval Constant str" => (k_here; with_reducible refine const_str ?_)
  k_with "eval Constant int" => (k_here; with_reducible refine const_int ?_)
  k_with "subscriptTail" => (k_here; k_dflt (refine list_item (by k_asm) (by k_mem) (by first | with_reducible assumption | with_reducible rfl) (by first | with_reducible assumption | with_reducible exact (hg1.get (by omega)).1 | with_reducible exact (hg2.get (by omega)).1) (by omega) ?_ (by with_unfolding_all rfl); k_whole))
  k_with "call builtin:len" => (k_here; k_dflt (refine call_len_list (News.isList (by k_asm) (by k_mem)) (by (simp only [List.size_toArray, List.length_append, List.length_cons, List.length_nil]; omega)) ?_))
  k_with "setItem ref int" => (k_here; k_dflt (refine list_set (by k_asm) (by k_asm) (by first | with_reducible assumption | with_reducible rfl) (by k_upd) (by omega) (by omega) ?_); intro h' F' N'; (try dsimp only [List.nil_append, List.cons_append] at N'))
  k_with "call ref" => (k_here; refine stop_in ?_)
  k_with "KswPost" => (k_here; refine stop_in ?_)
  trivial
noncomputable def Got (P : Value → Int × Str → Prop) (R : List (Addr × Obj)) (ys : List Value) (ps : List (Int × Str)) (i : Nat) (a : Addr) (u x : Tok) : Prop :=
  i < ps.length → ys.toArray[i]? = some (.ref a) ∧ P (.ref a) (ps.getD i default) ∧ (a, tupO (ps.getD i default).1 u (ps.getD i default).2 x) ∈ R
theorem Got.get {P : Value → Int × Str → Prop} {R : List (Addr × Obj)} {ys : List Value} {ps : List (Int × Str)} {i : Nat} {a : Addr} {u x : Tok} (h : Got P R ys ps i a u x) (hi : i < ps.length) : ys.toArray[i]? = some (.ref a) ∧ P (.ref a) (ps.getD i default) ∧ (a, tupO (ps.getD i default).1 u (ps.getD i default).2 x) ∈ R := h hi
theorem All2.pickI {P : Value → Int × Str → Prop} {R : List (Addr × Obj)} (hP : ∀ v p, P v p → ∃ a u x, v = .ref a ∧ (a, tupO p.1 u p.2 x) ∈ R) {ys : List Value} {ps : List (Int × Str)} (h : All2 P ys ps) (i : Nat) : ∃ a u x, Got P R ys ps i a u x := by
  by_cases hi : i < ps.length
  · obtain ⟨a, u, x, q⟩ := h.pick hP hi
    exact ⟨a, u, x, fun _ => q⟩
  · exact ⟨0, 0, 0, fun h => absurd h hi⟩
/-- the way down of the place of the least -/
noncomputable def suN : Nat → List (Int × Str) → Nat → List (Int × Str) × Nat
  | 0, ps, p => (ps, p)
  | n + 1, ps, p => if 2 * p + 1 < ps.length then
      (if 2 * p + 2 < ps.length ∧ ltP (ps.getD (2 * p + 1) default) (ps.getD (2 * p + 2) default) = false then suN n (ps.set p (ps.getD (2 * p + 2) default)) (2 * p + 2) else suN n (ps.set p (ps.getD (2 * p + 1) default)) (2 * p + 1))
      else (ps, p)
theorem suN_end {n p : Nat} {ps : List (Int × Str)} (h : ¬ 2 * p + 1 < ps.length) : suN n ps p = (ps, p) := by
  cases n with
  | zero => rfl
  | succ n => exact if_neg h
theorem suN_r {n p : Nat} {ps : List (Int × Str)} (h0 : 0 < n) (h1 : 2 * p + 1 < ps.length) (h2 : 2 * p + 2 < ps.length) (h : ltP (ps.getD (2 * p + 1) default) (ps.getD (2 * p + 2) default) = false) : suN n ps p = suN (n - 1) (ps.set p (ps.getD (2 * p + 2) default)) (2 * p + 2) := by
  cases n with
  | zero => exact absurd h0 (Nat.lt_irrefl 0)
  | succ n => exact (if_pos h1).trans (if_pos ⟨h2, h⟩)
theorem suN_l {n p : Nat} {ps : List (Int × Str)} (h0 : 0 < n) (h1 : 2 * p + 1 < ps.length) (h : ¬ (2 * p + 2 < ps.length ∧ ltP (ps.getD (2 * p + 1) default) (ps.getD (2 * p + 2) default) = false)) : suN n ps p = suN (n - 1) (ps.set p (ps.getD (2 * p + 1) default)) (2 * p + 1) := by
  cases n with
  | zero => exact absurd h0 (Nat.lt_irrefl 0)
  | succ n => exact (if_pos h1).trans (if_neg h)
noncomputable def suF (ps : List (Int × Str)) : List (Int × Str) :=
  sdF ((suN ps.length ps 0).1.set (suN ps.length ps 0).2 (ps.getD 0 default)) (suN ps.length ps 0).2
section
variable {w : World} {dp un : Nat} {gd : Option (List Code)} {cn : Str} {nm : List (Str × NameKind)} {ig ic : Bool} {mr : List (Str × Const)} {a : Addr} {ccd : Value} {cl : List (Str × Addr)} {outer : List Env} {A₀ : Around} {base h₀ : Heap} {L : Addr} {m : Str → Option Value} {s : Shared} {Q E : Value → Shared → Prop}
   {mean : ExcName → Option Value} {mg mb : Str → Option Value} {loose : List Str}
set_option maxHeartbeats 4000000 in
theorem siftup0 {l : Addr} {ys : List Value} {ps : List (Int × Str)} {k : Nat} {t0 : Tok} {rest : List (Addr × Obj)} {P : Value → Int × Str → Prop}
   (B : Below A₀ base outer h₀) (F : Fr h₀ L s.heap m) (X : (heapK w.params).In h₀)
   (N : News h₀ L s.heap ((l, listOf ys.toArray k) :: rest)) (dr : ∀ q ∈ rest, q.1 ≠ l)
   (hP : ∀ v p, P v p → ∃ a u x, v = .ref a ∧ (a, tupO p.1 u p.2 x) ∈ rest) (hp : All2 P ys ps) (hi : 0 < ps.length) (hn : ps.length ≤ 90)
   (T : Top topProg loose mean mg mb h₀) (hdp : dp + 2 < recursionLimit) (hun : un + 150 < cLine)
   (hret : ∀ h' tk' ys', All2 P ys' (suF ps) → Fr h₀ L h' m → News h₀ L h' ((l, listOf ys'.toArray k) :: rest) → Q .none { s with heap := h', toks := tk' }) :
   wpAny (model PySem.Challenge.rw_oy0154_01.prog w) (ktrTop dp un gd cn ⟨.function, nm, ig, ic, mr⟩ L a ccd cl outer) (call (.ref 84) [.ref l, .int 0 t0]) Q E s := by
  revert T N X
  k_fill
  intro X N T
  obtain ⟨ax, ux, vx, ex, px, mx⟩ := hp.pick hP hi
  have hyl : ys.length = ps.length := All2.length hp
  have h00 : (0 : Int) = ((0 : Nat) : Int) := rfl
  have hsz : ys.toArray.size = ps.length := by rw [List.size_toArray, hyl]
  refine wpAny_call ?_
  k_dflt k_enter
  k_steps
  refine stop_out ?_
  (rename News _ _ _ _ => lN')
  (rename Fr _ _ _ _ => lF')
  refine' ksw_while (σ := List Value × List (Int × Str) × Nat × Tok × Tok) (fun c => (l, listOf c.1.toArray k) :: rest) (fun c => [(Str.ofString "pos", .int c.2.2.1 c.2.2.2.1), (Str.ofString "childpos", .int (2 * (c.2.2.1 : Int) + 1) c.2.2.2.2)]) (fun _ => True) [Str.ofString "rightpos"] (fun c => All2 P c.1 c.2.1 ∧ c.2.1.length = ps.length ∧ c.2.2.1 < ps.length ∧ ∃ n, ps.length ≤ n + c.2.2.1 ∧ suN n c.2.1 c.2.2.1 = suN ps.length ps 0) (fun c => ps.length - c.2.2.1) (ys, ps, 0, t0, ?b8) lF' lN' trivial ?hk8 ⟨hp, rfl, hi, ps.length, Nat.le_refl _, rfl⟩ (fun c u h tk _ hc F N => ?tn8)
  case hk8 =>
    refine List.forall_mem_cons.mpr ⟨?_, List.forall_mem_cons.mpr ⟨?_, List.forall_mem_nil _⟩⟩
    · exact rfl
    · exact rfl
  case tn8 =>
    clear lN' lF'
    obtain ⟨ys2, ps2, p2, t2, t3⟩ := c
    obtain ⟨c1, c2, c3, n, c4, c5⟩ := hc
    dsimp only at c1 c2 c3 c4 c5 F N ⊢
    have hyl2 : ys2.length = ps2.length := All2.length c1
    obtain ⟨b1, u1, v1, hg1⟩ := c1.pickI hP (2 * p2 + 1)
    obtain ⟨b2, u2, v2, hg2⟩ := c1.pickI hP (2 * p2 + 2)
    have i1 : 2 * (p2 : Int) + 1 = ((2 * p2 + 1 : Nat) : Int) := by omega
    have i2 : 2 * (p2 : Int) + 1 + 1 = ((2 * p2 + 2 : Nat) : Int) := by omega
    k_steps
    · refine stop_out ?_
      (rename News _ _ _ _ => nE)
      (rename Fr _ _ _ _ => fE)
      (rename ltP _ _ = true => hlt)
      refine' ksw_end (c' := (ys2.set p2 (.ref b1), ps2.set p2 (ps2.getD (2 * p2 + 1) default), 2 * p2 + 1, ?t8a, ?t9a)) fE nE (fun q hq => hq) trivial ?ska ?sra ⟨c1.put (hg1.get (by omega)).2.1 p2, by rw [List.length_set]; exact c2, show 2 * p2 + 1 < ps.length by omega, n - 1, show ps.length ≤ n - 1 + (2 * p2 + 1) by omega, (suN_l (by omega) (by omega) fun h => absurd (hlt.symm.trans h.2) (by decide)).symm.trans c5⟩ (show ps.length - (2 * p2 + 1) < ps.length - p2 by omega)
      case ska =>
        refine List.forall_mem_cons.mpr ⟨?_, List.forall_mem_cons.mpr ⟨?_, List.forall_mem_nil _⟩⟩
        · dsimp only
          rw [← i1]
          exact rfl
        · dsimp only
          rw [← i1]
          exact rfl
      case sra =>
        intro z hz1 hz2
        have hz3 := hz1 _ (.head _)
        have hz4 := hz1 _ (.tail _ (.head _))
        simp only [List.contains_cons, List.contains_nil, Bool.or_false, Bool.or_eq_false_iff, beq_eq_false_iff_ne, ne_eq] at hz2 hz3 hz4
        simp [kstB, hz2, hz3, hz4]
    · refine stop_out ?_
      (rename News _ _ _ _ => nE)
      (rename Fr _ _ _ _ => fE)
      (rename ltP _ _ = false => hlt)
      refine' ksw_end (c' := (ys2.set p2 (.ref b2), ps2.set p2 (ps2.getD (2 * p2 + 2) default), 2 * p2 + 2, ?t8b, ?t9b)) fE nE (fun q hq => hq) trivial ?skb ?srb ⟨c1.put (hg2.get (by omega)).2.1 p2, by rw [List.length_set]; exact c2, show 2 * p2 + 2 < ps.length by omega, n - 1, show ps.length ≤ n - 1 + (2 * p2 + 2) by omega, (suN_r (by omega) (by omega) (by omega) hlt).symm.trans c5⟩ (show ps.length - (2 * p2 + 2) < ps.length - p2 by omega)
      case skb =>
        refine List.forall_mem_cons.mpr ⟨?_, List.forall_mem_cons.mpr ⟨?_, List.forall_mem_nil _⟩⟩
        · dsimp only
          rw [← i2]
          exact rfl
        · dsimp only
          rw [← i2]
          exact rfl
      case srb =>
        intro z hz1 hz2
        have hz3 := hz1 _ (.head _)
        have hz4 := hz1 _ (.tail _ (.head _))
        simp only [List.contains_cons, List.contains_nil, Bool.or_false, Bool.or_eq_false_iff, beq_eq_false_iff_ne, ne_eq] at hz2 hz3 hz4
        simp [kstB, hz2, hz3, hz4]
    · refine stop_out ?_
      (rename News _ _ _ _ => nE)
      (rename Fr _ _ _ _ => fE)
      refine' ksw_end (c' := (ys2.set p2 (.ref b1), ps2.set p2 (ps2.getD (2 * p2 + 1) default), 2 * p2 + 1, ?t8c, ?t9c)) fE nE (fun q hq => hq) trivial ?skc ?src ⟨c1.put (hg1.get (by omega)).2.1 p2, by rw [List.length_set]; exact c2, show 2 * p2 + 1 < ps.length by omega, n - 1, show ps.length ≤ n - 1 + (2 * p2 + 1) by omega, (suN_l (by omega) (by omega) fun h => by omega).symm.trans c5⟩ (show ps.length - (2 * p2 + 1) < ps.length - p2 by omega)
      case skc =>
        refine List.forall_mem_cons.mpr ⟨?_, List.forall_mem_cons.mpr ⟨?_, List.forall_mem_nil _⟩⟩
        · dsimp only
          rw [← i1]
          exact rfl
        · dsimp only
          rw [← i1]
          exact rfl
      case src =>
        intro z hz1 hz2
        have hz3 := hz1 _ (.head _)
        have hz4 := hz1 _ (.tail _ (.head _))
        simp only [List.contains_cons, List.contains_nil, Bool.or_false, Bool.or_eq_false_iff, beq_eq_false_iff_ne, ne_eq] at hz2 hz3 hz4
        simp [kstB, hz2, hz3, hz4]
    · refine stop_out ?_
      (rename News _ _ _ _ => lN')
      (rename Fr _ _ _ _ => lF')
      refine sift_use (p := p2) (by assumption) lF' (by assumption) lN' dr hP (c1.put px p2) rfl (by rw [List.length_set]; omega) (by rw [List.length_set]; omega) (by assumption) (by ktr_room) (by ktr_units) (fun h' tk' ys' hp' F' N' => ?_)
      clear lN' lF'
      k_whole
      k_steps
      (rename News _ _ _ _ => nE)
      (rename Fr _ _ _ _ => fE)
      refine hret _ _ ys' ?_ fE nE
      unfold suF
      rw [c5.symm.trans (suN_end (by omega))]
      exact hp'
end
end Mine
end
section
open PySem PySem.W PyProof.Rows PySem.Calls PySem.Spec
namespace Mine


theorem kt_Pop : True := by
  k_with_none
  k_with "m all" => (first | assumption | (tbn_letter; refine all_of_lt (by tbn_find) (by omega)))
  k_with "m mem" => (first | exact List.Mem.head _ | (with_reducible exact List.mem_cons_of_mem _ (hg1.get (by omega)).2.2) | (with_reducible exact List.mem_cons_of_mem _ (hg2.get (by omega)).2.2) | with_reducible assumption | (repeat (first | exact List.Mem.head _ | assumption | refine List.Mem.tail _ ?_)))
  k_with "m ne" => (first | assumption | exact Ne.symm (by assumption) | (refine neN ?_; (try dsimp only); (repeat (rename @Ne Nat _ _ => hz9; clear hz9)); (repeat (rename @Ne Nat _ _ ∧ _ => hz9; clear hz9)); (repeat (rename (@Ne Nat _ _ ∧ _) ∧ _ => hz9; clear hz9)); omega) | ((repeat (rename @Ne Nat _ _ ∧ _ => hz9; first | exact hz9.1 | exact hz9.1.symm | exact hz9.2.1 | exact hz9.2.1.symm | exact hz9.2.2.1 | exact hz9.2.2.1.symm | exact hz9.2.2.2.1 | exact hz9.2.2.2.1.symm | exact hz9.2.2.2.2.1 | exact hz9.2.2.2.2.1.symm | exact hz9.2.2.2.2.2.1 | exact hz9.2.2.2.2.2.1.symm | exact hz9.2.2.2.2.2.2.1 | exact hz9.2.2.2.2.2.2.1.symm | exact hz9.2.2.2.2.2.2.2.1 | exact hz9.2.2.2.2.2.2.2.1.symm | exact hz9.2.2.2.2.2.2.2.2.1 | exact hz9.2.2.2.2.2.2.2.2.1.symm | exact hz9.2.2.2.2.2.2.2.2.2.1 | exact hz9.2.2.2.2.2.2.2.2.2.1.symm | exact hz9.2.2.2.2.2.2.2.2.2.2.1 | exact hz9.2.2.2.2.2.2.2.2.2.2.1.symm | exact hz9.2.2.2.2.2.2.2.2.2.2.2.1 | exact hz9.2.2.2.2.2.2.2.2.2.2.2.1.symm | exact hz9.2.2.2.2.2.2.2.2.2.2.2.2.1 | exact hz9.2.2.2.2.2.2.2.2.2.2.2.2.1.symm | exact hz9.2.2.2.2.2.2.2.2.2.2.2.2.2.1 | exact hz9.2.2.2.2.2.2.2.2.2.2.2.2.2.1.symm | exact hz9.2.2.2.2.2.2.2.2.2.2.2.2.2.2.1 | exact hz9.2.2.2.2.2.2.2.2.2.2.2.2.2.2.1.symm | clear hz9)); done) | ((repeat (rename (@Ne Nat _ _ ∧ _) ∧ _ => hz9; first | exact hz9.1.1 | exact hz9.1.1.symm | exact hz9.1.2.1 | exact hz9.1.2.1.symm | exact hz9.1.2.2 | exact hz9.1.2.2.symm | exact hz9.2.1.1 | exact hz9.2.1.1.symm | exact hz9.2.1.2.1 | exact hz9.2.1.2.1.symm | exact hz9.2.1.2.2 | exact hz9.2.1.2.2.symm | exact hz9.2.2.1.1 | exact hz9.2.2.1.1.symm | exact hz9.2.2.1.2.1 | exact hz9.2.2.1.2.1.symm | exact hz9.2.2.1.2.2 | exact hz9.2.2.1.2.2.symm | exact hz9.2.2.2.1.1 | exact hz9.2.2.2.1.1.symm | exact hz9.2.2.2.1.2.1 | exact hz9.2.2.2.1.2.1.symm | exact hz9.2.2.2.1.2.2 | exact hz9.2.2.2.1.2.2.symm | exact hz9.2.2.2.2.1.1 | exact hz9.2.2.2.2.1.1.symm | exact hz9.2.2.2.2.1.2.1 | exact hz9.2.2.2.2.1.2.1.symm | exact hz9.2.2.2.2.1.2.2 | exact hz9.2.2.2.2.1.2.2.symm | exact hz9.2.2.2.2.2.1.1 | exact hz9.2.2.2.2.2.1.1.symm | exact hz9.2.2.2.2.2.1.2.1 | exact hz9.2.2.2.2.2.1.2.1.symm | exact hz9.2.2.2.2.2.1.2.2 | exact hz9.2.2.2.2.2.1.2.2.symm | exact hz9.2.2.2.2.2.2.1.1 | exact hz9.2.2.2.2.2.2.1.1.symm | exact hz9.2.2.2.2.2.2.1.2.1 | exact hz9.2.2.2.2.2.2.1.2.1.symm | exact hz9.2.2.2.2.2.2.1.2.2 | exact hz9.2.2.2.2.2.2.1.2.2.symm | exact hz9.2.2.2.2.2.2.2.1.1 | exact hz9.2.2.2.2.2.2.2.1.1.symm | exact hz9.2.2.2.2.2.2.2.1.2.1 | exact hz9.2.2.2.2.2.2.2.1.2.1.symm | exact hz9.2.2.2.2.2.2.2.1.2.2 | exact hz9.2.2.2.2.2.2.2.1.2.2.symm | exact hz9.2.2.2.2.2.2.2.2.1.1 | exact hz9.2.2.2.2.2.2.2.2.1.1.symm | exact hz9.2.2.2.2.2.2.2.2.1.2.1 | exact hz9.2.2.2.2.2.2.2.2.1.2.1.symm | exact hz9.2.2.2.2.2.2.2.2.1.2.2 | exact hz9.2.2.2.2.2.2.2.2.1.2.2.symm | exact hz9.2.2.2.2.2.2.2.2.2.1.1 | exact hz9.2.2.2.2.2.2.2.2.2.1.1.symm | exact hz9.2.2.2.2.2.2.2.2.2.1.2.1 | exact hz9.2.2.2.2.2.2.2.2.2.1.2.1.symm | exact hz9.2.2.2.2.2.2.2.2.2.1.2.2 | exact hz9.2.2.2.2.2.2.2.2.2.1.2.2.symm | exact hz9.2.2.2.2.2.2.2.2.2.2.1.1 | exact hz9.2.2.2.2.2.2.2.2.2.2.1.1.symm | exact hz9.2.2.2.2.2.2.2.2.2.2.1.2.1 | exact hz9.2.2.2.2.2.2.2.2.2.2.1.2.1.symm | exact hz9.2.2.2.2.2.2.2.2.2.2.1.2.2 | exact hz9.2.2.2.2.2.2.2.2.2.2.1.2.2.symm | exact hz9.2.2.2.2.2.2.2.2.2.2.2.1.1 | exact hz9.2.2.2.2.2.2.2.2.2.2.2.1.1.symm | exact hz9.2.2.2.2.2.2.2.2.2.2.2.1.2.1 | exact hz9.2.2.2.2.2.2.2.2.2.2.2.1.2.1.symm | exact hz9.2.2.2.2.2.2.2.2.2.2.2.1.2.2 | exact hz9.2.2.2.2.2.2.2.2.2.2.2.1.2.2.symm | exact hz9.2.2.2.2.2.2.2.2.2.2.2.2.1.1 | exact hz9.2.2.2.2.2.2.2.2.2.2.2.2.1.1.symm | exact hz9.2.2.2.2.2.2.2.2.2.2.2.2.1.2.1 | exact hz9.2.2.2.2.2.2.2.2.2.2.2.2.1.2.1.symm | exact hz9.2.2.2.2.2.2.2.2.2.2.2.2.1.2.2 | exact hz9.2.2.2.2.2.2.2.2.2.2.2.2.1.2.2.symm | exact hz9.2.2.2.2.2.2.2.2.2.2.2.2.2.1.1 | exact hz9.2.2.2.2.2.2.2.2.2.2.2.2.2.1.1.symm | exact hz9.2.2.2.2.2.2.2.2.2.2.2.2.2.1.2.1 | exact hz9.2.2.2.2.2.2.2.2.2.2.2.2.2.1.2.1.symm | exact hz9.2.2.2.2.2.2.2.2.2.2.2.2.2.1.2.2 | exact hz9.2.2.2.2.2.2.2.2.2.2.2.2.2.1.2.2.symm | exact hz9.2.2.2.2.2.2.2.2.2.2.2.2.2.2.1.1 | exact hz9.2.2.2.2.2.2.2.2.2.2.2.2.2.2.1.1.symm | exact hz9.2.2.2.2.2.2.2.2.2.2.2.2.2.2.1.2.1 | exact hz9.2.2.2.2.2.2.2.2.2.2.2.2.2.2.1.2.1.symm | exact hz9.2.2.2.2.2.2.2.2.2.2.2.2.2.2.1.2.2 | exact hz9.2.2.2.2.2.2.2.2.2.2.2.2.2.2.1.2.2.symm | exact hz9.2.2.2.2.2.2.2.2.2.2.2.2.2.2.2.1.1 | exact hz9.2.2.2.2.2.2.2.2.2.2.2.2.2.2.2.1.1.symm | exact hz9.2.2.2.2.2.2.2.2.2.2.2.2.2.2.2.1.2.1 | exact hz9.2.2.2.2.2.2.2.2.2.2.2.2.2.2.2.1.2.1.symm | exact hz9.2.2.2.2.2.2.2.2.2.2.2.2.2.2.2.1.2.2 | exact hz9.2.2.2.2.2.2.2.2.2.2.2.2.2.2.2.1.2.2.symm | exact hz9.2.2.2.2.2.2.2.2.2.2.2.2.2.2.2.2.1.1 | exact hz9.2.2.2.2.2.2.2.2.2.2.2.2.2.2.2.2.1.1.symm | exact hz9.2.2.2.2.2.2.2.2.2.2.2.2.2.2.2.2.1.2.1 | exact hz9.2.2.2.2.2.2.2.2.2.2.2.2.2.2.2.2.1.2.1.symm | exact hz9.2.2.2.2.2.2.2.2.2.2.2.2.2.2.2.2.1.2.2 | exact hz9.2.2.2.2.2.2.2.2.2.2.2.2.2.2.2.2.1.2.2.symm | clear hz9)); done) | (refine neN ?_; (try dsimp only); omega))
  k_with "compareOp Lt ref ref" => (k_here; k_dflt (refine tup_lt (by k_units) (by exact News.get (by k_asm) (by k_mem)) (by exact News.get (by k_asm) (by k_mem)) ?_))
  k_with "exec While Compare cons nil" => (k_here; refine stop_in ?_)
  k_with "storeName" => (k_here; dsimp only)
  k_with "eval Constant str" => (k_here; with_reducible refine const_str ?_)
  k_with "eval Constant int" => (k_here; with_reducible refine const_int ?_)
  k_with "subscriptTail" => (k_here; k_dflt (refine list_item (by k_asm) (by k_mem) (by first | with_reducible assumption | with_reducible rfl) (by first | with_reducible assumption | with_reducible exact (hg1.get (by omega)).1 | with_reducible exact (hg2.get (by omega)).1) (by omega) ?_ (by with_unfolding_all rfl); k_whole))
  k_with "call builtin:len" => (k_here; k_dflt (refine call_len_list (News.isList (by k_asm) (by k_mem)) (by (simp only [List.size_toArray, List.length_append, List.length_cons, List.length_nil]; omega)) ?_))
  k_with "setItem ref int" => (k_here; k_dflt (refine list_set (by k_asm) (by k_asm) (by first | with_reducible assumption | with_reducible rfl) (by k_upd) (by omega) (by omega) ?_); intro h' F' N'; (try dsimp only [List.nil_append, List.cons_append] at N'))
  k_with "call ref" => (k_here; refine stop_in ?_)
  k_with "KswPost" => (k_here; refine stop_in ?_)
  trivial
section
variable {w : World} {dp un : Nat} {gd : Option (List Code)} {cn : Str} {nm : List (Str × NameKind)} {ig ic : Bool} {mr : List (Str × Const)} {a : Addr} {ccd : Value} {cl : List (Str × Addr)} {outer : List Env} {A₀ : Around} {base h₀ : Heap} {L : Addr} {m : Str → Option Value} {s : Shared} {Q E : Value → Shared → Prop}
   {mean : ExcName → Option Value} {mg mb : Str → Option Value} {loose : List Str}
theorem last_app : ∀ (l : List Value) (v : Value), kl_last (l ++ [v]).toArray.toList = some (l, v)
  | [], _ => rfl
  | [_], _ => rfl
  | a :: b :: l, v => by
    have h := last_app (b :: l) v
    dsimp only [List.cons_append] at h ⊢
    unfold kl_last
    rw [h]
set_option maxHeartbeats 4000000 in
theorem popO {l : Addr} {v : Value} {p : Int × Str} {k : Nat} {rest : List (Addr × Obj)} {P : Value → Int × Str → Prop}
   (B : Below A₀ base outer h₀) (F : Fr h₀ L s.heap m) (X : (heapK w.params).In h₀)
   (N : News h₀ L s.heap ((l, listOf #[v] k) :: rest)) (dr : ∀ q ∈ rest, q.1 ≠ l)
   (hP : ∀ v p, P v p → ∃ a u x, v = .ref a ∧ (a, tupO p.1 u p.2 x) ∈ rest) (hv : P v p)
   (T : Top topProg loose mean mg mb h₀) (hdp : dp + 3 < recursionLimit) (hun : un + 200 < cLine)
   (hret : ∀ h' tk' k', Fr h₀ L h' m → News h₀ L h' ((l, listOf #[] k') :: rest) → Q v { s with heap := h', toks := tk' }) :
   wpAny (model PySem.Challenge.rw_oy0154_01.prog w) (ktrTop dp un gd cn ⟨.function, nm, ig, ic, mr⟩ L a ccd cl outer) (call (.ref 70) [.ref l]) Q E s := by
  k_with "call builtin:list.pop" => (k_here; dsimp only)
  k_with "truthy ref" => (k_here; (with_reducible show wpAny _ _ (truthy (Value.ref _)) _ _ _); k_dflt (refine wpAny_truthy_list (by exact News.isList (by k_asm) (by k_mem)) (by simp only [List.size_toArray, List.length_nil]; omega) ?_; k_whole))
  obtain ⟨bq, ubq, xbq, rfl, mbq⟩ := hP _ _ hv
  revert T N X
  k_fill
  intro X N T
  refine wpAny_call ?_
  k_dflt k_enter
  k_steps
  · (rename News _ _ _ _ => nE)
    (rename Fr _ _ _ _ => fE)
    exact hret _ _ _ fE nE
set_option maxHeartbeats 4000000 in
theorem popG {l : Addr} {ys : List Value} {ps : List (Int × Str)} {y0 v : Value} {p0 q : Int × Str} {k : Nat} {rest : List (Addr × Obj)} {P : Value → Int × Str → Prop}
   (B : Below A₀ base outer h₀) (F : Fr h₀ L s.heap m) (X : (heapK w.params).In h₀)
   (N : News h₀ L s.heap ((l, listOf ((y0 :: ys) ++ [v]).toArray k) :: rest)) (dr : ∀ q ∈ rest, q.1 ≠ l)
   (hP : ∀ v p, P v p → ∃ a u x, v = .ref a ∧ (a, tupO p.1 u p.2 x) ∈ rest) (h0 : P y0 p0) (hp : All2 P ys ps) (hq : P v q) (hn : ps.length ≤ 80)
   (T : Top topProg loose mean mg mb h₀) (hdp : dp + 3 < recursionLimit) (hun : un + 200 < cLine)
   (hret : ∀ h' tk' ys' k', All2 P ys' (suF (q :: ps)) → Fr h₀ L h' m → News h₀ L h' ((l, listOf ys'.toArray k') :: rest) → Q y0 { s with heap := h', toks := tk' }) :
   wpAny (model PySem.Challenge.rw_oy0154_01.prog w) (ktrTop dp un gd cn ⟨.function, nm, ig, ic, mr⟩ L a ccd cl outer) (call (.ref 70) [.ref l]) Q E s := by
  k_with "call builtin:list.pop" => (k_here; k_dflt (refine kl_pop (by k_asm) (by k_asm) (last_app _ _) (by k_upd) (Nat.le_trans (m := 1000) (by simp only [List.length_append, List.length_cons, List.length_nil]; omega) (Nat.le_of_ble_eq_true rfl)) ?_); intro h' F' N'; (try dsimp only [List.nil_append, List.cons_append] at N'))
  k_with "truthy ref" => (k_here; (with_reducible show wpAny _ _ (truthy (Value.ref _)) _ _ _); k_dflt (refine wpAny_truthy_list (by exact News.isList (by k_asm) (by k_mem)) (by simp only [List.size_toArray, List.length_cons]; omega) ?_; k_whole))
  obtain ⟨b0, ub0, xb0, rfl, mb0⟩ := hP _ _ h0
  obtain ⟨bq, ubq, xbq, rfl, mbq⟩ := hP _ _ hq
  revert T N X
  k_fill
  intro X N T
  have hyl : ys.length = ps.length := All2.length hp
  refine wpAny_call ?_
  k_dflt k_enter
  k_steps
  · (rename Array.isEmpty _ = true => he)
    exact absurd he (by simp)
  · refine stop_out ?_
    (rename News _ _ _ _ => lN')
    (rename Fr _ _ _ _ => lF')
    refine siftup0 (ys := .ref bq :: ys) (ps := q :: ps) (by assumption) lF' (by assumption) lN' dr hP ⟨hq, hp⟩ (Nat.succ_pos _) (by simp only [List.length_cons]; omega) (by assumption) (by ktr_room) (by ktr_units) (fun h' tk' ys' hp' F' N' => ?_)
    clear lN' lF'
    k_whole
    k_steps
    (rename News _ _ _ _ => nE)
    (rename Fr _ _ _ _ => fE)
    exact hret _ _ ys' _ hp' fE nE
end
theorem suF_pop {p0 q : Int × Str} {ps : List (Int × Str)} (hn : ps.length ≤ 2) : suF (q :: ps) = popR (p0 :: (ps ++ [q])) := by
  rcases ps with _ | ⟨p1, _ | ⟨p2, _ | ⟨_, _⟩⟩⟩
  · rfl
  · cases h : ltP q p1 <;> simp [suF, suN, sdF, sdN, popR, h]
  · cases h : ltP p1 p2 <;> cases h1 : ltP q p1 <;> cases h2 : ltP q p2 <;> simp [suF, suN, sdF, sdN, popR, h, h1, h2]
  · exact absurd hn (by simp only [List.length_cons]; omega)
end Mine
end
section
open PySem PySem.W PyProof.Rows PySem.Calls PySem.Spec
namespace Mine
open LCg (NsObj Off1 Off3 CompEnd lst fr_but news_but SrcAt CompRest ns_obj lst_snoc)
theorem compEnd_mono {h₀ : Heap} {L I C D : Addr} {m : Str → Option Value} {s₁ s₂ : Shared} {oI oC oD : Obj} {S S' : List (Addr × Obj) → Prop} {r r' : Value → List (Addr × Obj) → Prop} {y : Value} (h : CompEnd h₀ L m s₁ I oI C oC D oD S r y s₂) (hr : ∀ nw, r y nw → S' nw ∧ r' y nw) : CompEnd h₀ L m s₁ I oI C oC D oD S' r' y s₂ := by
  revert h
  exact Exists.imp fun _ => Exists.imp fun _ => Exists.imp fun nw => And.imp_right <| And.imp_right <| And.imp_right <| And.imp_right fun k => hr nw k.2
section
variable {prog : Program} {w : World} {A : Around} {E : Value → Shared → Prop} {s : Shared} {h₀ : Heap} {L : Addr} {m : Str → Option Value} {env : Env}
/-- a comprehension's turns, by a word that each keeps -/
theorem rest_st {elt : Expr} {x : Str} {scope : Scope} {cl : List (Str × Addr)} {S : List (Addr × Obj) → Prop} {P : Nat → Value → Prop} {Fin : List Value → List (Addr × Obj) → Prop} {n : Nat} (J : Nat → List Value → List (Addr × Obj) → Prop)
    (hS : ∀ i ys nw, J i ys nw → S nw)
    (turn : ∀ i v ys nw I oI C oC D m₂ h tk (E' : Value → Shared → Prop), i < n → P i v → J i ys nw → NsObj oC m₂ → m₂ x = some v → Fr h₀ L h m → News h₀ L h ((I, oI) :: (C, oC) :: (D, lst ys) :: nw) → Off3 I C D nw → ((@Ne Nat I C) ∧ (@Ne Nat I D) ∧ (@Ne Nat C D)) →
      wpAny (model prog w) A (eval elt (compEnvC scope cl C env)) (CompEnd h₀ L m { s with heap := h, toks := tk } I oI C oC D (lst ys) (fun _ => True) (fun y nw' => J (i + 1) (ys ++ [y]) nw')) E' { s with heap := h, toks := tk })
    (fin : ∀ ys nw, J n ys nw → Fin ys nw) : ∀ (k i : Nat) (ys : List Value) (nw : List (Addr × Obj)), i + k = n → J i ys nw → CompRest prog w A h₀ L m env elt x scope cl s S P Fin k i ys nw
  | 0, i, ys, nw, hk, hj => by
    have e : i = n := by omega
    subst e
    exact fin ys nw hj
  | k + 1, i, ys, nw, hk, hj => by
    intro v I oI C oC D m₂ h tk E' hP hC hx F N off ne
    refine wpAny_mono (turn i v ys nw I oI C oC D m₂ h tk E' (by omega) hP hj hC hx F N off ne) (fun y s₂ c => compEnd_mono c fun nw' hj' => ⟨hS _ _ _ hj', ?_⟩) fun _ _ e => e
    exact rest_st J hS turn fin k (i + 1) (ys ++ [y]) nw' (by omega) hj'
theorem restT_st {ct elt : Expr} {x : Str} {scope : Scope} {cl : List (Str × Addr)} {S : List (Addr × Obj) → Prop} {P : Nat → Value → Prop} {Fin : List Value → List (Addr × Obj) → Prop} {n : Nat} (J : Nat → List Value → List (Addr × Obj) → Prop)
    (hS : ∀ i ys nw, J i ys nw → S nw)
    (turn : ∀ i v ys nw I oI C oC D m₂ h tk (E' : Value → Shared → Prop), i < n → P i v → J i ys nw → NsObj oC m₂ → m₂ x = some v → Fr h₀ L h m → News h₀ L h ((I, oI) :: (C, oC) :: (D, lst ys) :: nw) → Off3 I C D nw → ((@Ne Nat I C) ∧ (@Ne Nat I D) ∧ (@Ne Nat C D)) →
      wpAny (model prog w) A (isTrue ct (compEnvC scope cl C env) (eval ct (compEnvC scope cl C env))) (fun ok s' => if ok = true then
        wpAny (model prog w) A (eval elt (compEnvC scope cl C env)) (CompEnd h₀ L m { s with heap := h, toks := tk } I oI C oC D (lst ys) (fun _ => True) (fun y nw' => J (i + 1) (ys ++ [y]) nw')) E' s'
        else CompEnd h₀ L m { s with heap := h, toks := tk } I oI C oC D (lst ys) (fun _ => True) (fun _ nw' => J (i + 1) ys nw') Value.none s') E' { s with heap := h, toks := tk })
    (fin : ∀ ys nw, J n ys nw → Fin ys nw) : ∀ (k i : Nat) (ys : List Value) (nw : List (Addr × Obj)), i + k = n → J i ys nw → LCt.CompRestT prog w A h₀ L m env ct elt x scope cl s S P Fin k i ys nw
  | 0, i, ys, nw, hk, hj => by
    have e : i = n := by omega
    subst e
    exact fin ys nw hj
  | k + 1, i, ys, nw, hk, hj => by
    intro v I oI C oC D m₂ h tk E' hP hC hx F N off ne
    refine wpAny_mono (turn i v ys nw I oI C oC D m₂ h tk E' (by omega) hP hj hC hx F N off ne) (fun ok s' c => ?_) fun _ _ e => e
    cases ok with
    | true =>
      simp only [if_true] at c ⊢
      refine wpAny_mono c (fun y s₂ c => compEnd_mono c fun nw' hj' => ⟨hS _ _ _ hj', ?_⟩) fun _ _ e => e
      exact restT_st J hS turn fin k (i + 1) (ys ++ [y]) nw' (by omega) hj'
    | false =>
      simp only [Bool.false_eq_true, if_false] at c ⊢
      refine compEnd_mono c fun nw' hj' => ⟨hS _ _ _ hj', ?_⟩
      exact restT_st J hS turn fin k (i + 1) ys nw' (by omega) hj'
/-- the source of a comprehension over pairs with a test -/
noncomputable def PairSrcT (prog : Program) (w : World) (A : Around) (h₀ : Heap) (L : Addr) (m : Str → Option Value) (env : Env) (ct elt : Expr) (x x₂ : Str) (scope : Scope) (cl : List (Str × Addr)) (y : Str) (Q : Flow → Shared → Prop) (xv : Value) (s₁ : Shared) : Prop :=
  ∃ ax its k news, ∃ J : Nat → List Value → List (Addr × Obj) → Prop, xv = .ref ax ∧ A.handled = none ∧ Fr h₀ L s₁.heap m ∧ News h₀ L s₁.heap news ∧ its.size ≤ sizeLine ∧ J 0 [] news ∧ (∀ i ys nw, J i ys nw → (ax, listOf its k) ∈ nw) ∧
    (∀ i v ys nw, its[i]? = some v → J i ys nw → ∃ (t : Addr) (v₁ v₂ : Value) (nt : Nat), v = .ref t ∧ (t, ({ cls := .type "tuple", data := .seq #[v₁, v₂] nt } : Obj)) ∈ nw ∧
      ∀ s₂ I oI C oC D m₂ h tk (E' : Value → Shared → Prop), (∃ g, s₂ = { s₁ with heap := g }) → NsObj oC m₂ → m₂ x = some v₁ → m₂ x₂ = some v₂ → Fr h₀ L h m → News h₀ L h ((I, oI) :: (C, oC) :: (D, lst ys) :: nw) → Off3 I C D nw → ((@Ne Nat I C) ∧ (@Ne Nat I D) ∧ (@Ne Nat C D)) →
      wpAny (model prog w) A (isTrue ct (compEnvC scope cl C env) (eval ct (compEnvC scope cl C env))) (fun ok s' => if ok = true then
        wpAny (model prog w) A (eval elt (compEnvC scope cl C env)) (CompEnd h₀ L m { s₂ with heap := h, toks := tk } I oI C oC D (lst ys) (fun _ => True) (fun y nw' => J (i + 1) (ys ++ [y]) nw')) E' s'
        else CompEnd h₀ L m { s₂ with heap := h, toks := tk } I oI C oC D (lst ys) (fun _ => True) (fun _ nw' => J (i + 1) ys nw') Value.none s') E' { s₂ with heap := h, toks := tk }) ∧
    (∀ s₂ ys nw, (∃ g, s₂ = { s₁ with heap := g }) → J its.size ys nw → LCg.FinA h₀ L m s₂ y Q ys nw)
theorem comp_pair {ct elt iter : Expr} {x x₂ y : Str} {px px₂ tp py : Pos} {kk : Nat} {scope : Scope} {cl : List (Str × Addr)} {pos spos : Pos} {Q : Flow → Shared → Prop} (F₀ : Fr h₀ L s.heap m) (hLe : env.locals = L)
    (hsw : swapsWith (.ListComp elt [⟨.Tuple [.Name x px, .Name x₂ px₂] kk tp, iter, [ct], 0⟩] scope pos) (some (.Name y py)) spos.line env = pure true)
    (hclos : closureFor scope env = pure cl) (hcell : ∀ y ∈ scope.names, y.2 ≠ .cell) (hkind : scope.kind = .function)
    (hnames : ∀ y ∈ scope.names, y.2 = .local → scope.names.lookup y.1 = some .local) (hx : scope.names.lookup x = some .local) (hx₂ : scope.names.lookup x₂ = some .local) (hxx : x ≠ x₂)
    (hy : env.kindOf y = some .local) (hp : (env.scope.kind == .class || (env.scope.kind == .module && env.locals != env.globals)) = false)
    (h : wpAny (model prog w) A (eval iter env) (PairSrcT prog w A h₀ L m env ct elt x x₂ scope cl y Q) E s)
    (hs : ∀ x, foldedSetIterable iter env x = pure x := by intro _; rfl) :
    wpAny (model prog w) A (exec (.Assign [.Name y py] (.ListComp elt [⟨.Tuple [.Name x px, .Name x₂ px₂] kk tp, iter, [ct], 0⟩] scope pos) spos) env) Q E s := by
  rw [exec_Assign_Name_used _ _ _ _ hsw]
  refine wpAny_bind (wpAny_standAt (wpAny_bind ?_))
  show wpAny _ A (do let _ ← comprehension (.ListComp elt [⟨.Tuple [.Name x px, .Name x₂ px₂] kk tp, iter, [ct], 0⟩] scope pos) scope env _ (newList []) false (eval iter env) (some (assign (.Name y py) env))) _ _ s
  refine wpAny_bind (wpAny_mono (wpAny_comprehension_free (use := some (assign (.Name y py) env)) (Q := fun _ s' => Q .next s') rfl hs hclos hkind hnames
    (wpAny_mono h (fun xv s₁ h₁ => ?_) fun _ _ e => e)) (fun _ s' hq => wpAny_pure (wpAny_pure hq)) fun _ _ e => e)
  obtain ⟨ax, its, k₀, news, J, rfl, hh, F, N, hsz, hJ0, hJl, turn, fin⟩ := h₁
  have hax := N _ (hJl _ _ _ hJ0)
  have hl : s₁.heap.IsList ax its := ⟨_, hax.1, rfl, k₀, rfl⟩
  have hlt : ax < s₁.heap.objs.size := Heap.lt_size hax.1
  have hne : ax ≠ s₁.heap.objs.size := Nat.ne_of_lt hlt
  refine wpAny_pyIter_list hl ?_
  -- the list and the block's own namespace
  generalize hs₂ : ({ s₁ with heap := s₁.heap.push { cls := .type "list_iterator", data := .fields #[.ref ax, .int 0 0] } } : Shared) = s₂
  have hg : ∃ g, s₂ = { s₁ with heap := g } := ⟨_, hs₂.symm⟩
  have up : ∀ b o, s₁.heap.get? b = some o → s₂.heap.get? b = some o := fun b o e => by rw [← hs₂]; exact Heap.get?_push_of_some _ e
  have hI2 : s₂.heap.IsListIter s₁.heap.objs.size ax 0 := by rw [← hs₂]; exact ⟨_, Heap.get?_push_size _ rfl, rfl, rfl⟩
  have hz2 : s₂.heap.objs.size = s₁.heap.objs.size + 1 := by rw [← hs₂]; exact Heap.size_push ..
  have F2 : Fr h₀ L s₂.heap m := F.keeps up
  have N2 : News h₀ L s₂.heap news := N.grown up
  have hIL : s₁.heap.objs.size ≠ L := Nat.ne_of_gt F.ns.lt
  have hI₀ : h₀.get? s₁.heap.objs.size = none := next_is_new F
  have offI : ∀ p ∈ news, p.1 ≠ s₁.heap.objs.size := fun p hp => Nat.ne_of_lt (Heap.lt_size (N p hp).1)
  generalize hI : s₁.heap.objs.size = I at *
  refine wpAny_newObj_type (wpAny_newFunctionEnv hcell (by intro y hy; simp at hy) (fun h₁ hns₁ hsb₁ => ?_) hkind)
  dsimp only at hns₁ hsb₁ ⊢
  generalize hH2 : s₂.heap.push { cls := .type "list", dict := none, data := .seq ([] : List Value).toArray } = H2 at hns₁ hsb₁ ⊢
  have hC : H2.objs.size = s₂.heap.objs.size + 1 := by rw [← hH2, Heap.size_push]
  have hDC : s₂.heap.objs.size ≠ H2.objs.size := by rw [hC]; exact Nat.ne_of_lt (Nat.lt_succ_self _)
  have below : ∀ b, b < s₂.heap.objs.size → b ≠ H2.objs.size ∧ b ≠ s₂.heap.objs.size := fun b hb => ⟨by rw [hC]; exact Nat.ne_of_lt (Nat.lt_succ_of_lt hb), Nat.ne_of_lt hb⟩
  have old : ∀ b o, s₂.heap.get? b = some o → h₁.get? b = some o := fun b o e => hsb₁.extBut b o (below b (Heap.lt_size e)).1 (Heap.get?_push_of_some _ (hH2 ▸ Heap.get?_push_of_some _ e))
  have hacc : h₁.get? s₂.heap.objs.size = some (lst []) := hsb₁.extBut _ _ hDC (Heap.get?_push_of_some _ (hH2 ▸ Heap.get?_push_size _ rfl))
  have fresh₀ : ∀ a, s₂.heap.objs.size ≤ a → h₀.get? a = none := fun a ha => by
    cases e : h₀.get? a with
    | none => rfl
    | some o' => exact absurd (Heap.lt_size (F2.keep a o' e)) (Nat.not_lt.mpr ha)
  have hD₀ : h₀.get? s₂.heap.objs.size = none := fresh₀ _ (Nat.le_refl _)
  have hC₀ : h₀.get? H2.objs.size = none := fresh₀ _ (by rw [hC]; exact Nat.le_succ _)
  have hLlt : L < s₂.heap.objs.size := F2.ns.lt
  have hDL : s₂.heap.objs.size ≠ L := Ne.symm (below L hLlt).2
  have hCL : H2.objs.size ≠ L := Ne.symm (below L hLlt).1
  have hIlt : I < s₂.heap.objs.size := by obtain ⟨_, e, _⟩ := hI2; exact Heap.lt_size e
  have hCI : I ≠ H2.objs.size := (below I hIlt).1
  have hDI : I ≠ s₂.heap.objs.size := (below I hIlt).2
  have off₀ : Off3 I H2.objs.size s₂.heap.objs.size news := Off3.of fun p hp => ⟨offI p hp, (below _ (Heap.lt_size (N2 p hp).1)).1, (below _ (Heap.lt_size (N2 p hp).1)).2⟩
  have loop : ∀ s₃ : Shared, s₃ = { s₂ with heap := h₁, toks := s₂.toks + ([] : List (Str × Value)).length } →
      codeAny (model prog w) A (.compLoop (.ListComp elt [⟨.Tuple [.Name x px, .Name x₂ px₂] kk tp, iter, [ct], 0⟩] scope pos) 0 (.ref I) (.ref s₂.heap.objs.size) (compEnvC scope cl H2.objs.size env))
        (compPost (model prog w) A E (some (assign (.Name y py) env)) (fun _ s' => Q .next s') (.ref s₂.heap.objs.size) H2.objs.size) s₃ := by
    rintro s₃ rfl
    refine kct_loop
      (fun k s' => ∃ h' tk i ys m' nw, s' = { s₂ with heap := h', toks := tk } ∧ i ≤ its.size ∧ k = its.size + 1 - i ∧ ys.length ≤ i ∧ h'.IsListIter I ax i ∧ Fr h₀ L h' m ∧ h'.Ns H2.objs.size m' ∧ News h₀ L h' ((s₂.heap.objs.size, lst ys) :: nw) ∧
        Off3 I H2.objs.size s₂.heap.objs.size nw ∧ J i ys nw) ?_ (its.size + 1)
      ⟨h₁, _, 0, [], _, news, rfl, Nat.zero_le _, rfl, Nat.le_refl _, hI2.at fun o e => old _ o e, F2.keeps old, hns₁, fun p hp => ?_, off₀, hJ0⟩
    · rintro k s' ⟨h', tk, i, ys, m', nw, rfl, hi, rfl, hyl, hst', F', hn', N', off', hJ'⟩
      have hl' : h'.IsList ax its := ⟨_, (N' _ (List.mem_cons_of_mem _ (hJl _ _ _ hJ'))).1, rfl, k₀, rfl⟩
      have Wk := Walks.list (prog := prog) (w := w) hh I ax hne its
      have off3 := off'.mem
      by_cases hlti : i < its.size
      · refine Wk.item i _ _ _ hlti ⟨hst', hl'⟩ fun v h₂ tk₂ hPv hst₂ hk₂ => ?_
        obtain ⟨t, v₁, v₂, nt, rfl, hmt, T⟩ := turn i v ys nw hPv hJ'
        have N₂ : News h₀ L h₂ ((s₂.heap.objs.size, lst ys) :: nw) := news_but N' hk₂ fun p hp => by
          rcases List.mem_cons.mp hp with rfl | hp
          · exact Ne.symm hDI
          · exact (off3 p hp).1
        have ht : IsTup h₂ t #[v₁, v₂] := ⟨_, (N₂ _ (List.mem_cons_of_mem _ hmt)).1, rfl, nt, rfl⟩
        refine wpAny_letOwnedTupleGo_listiter hst₂.1 ?_
        refine assign_Tuple_tuple hh ht rfl rfl fun h₅ he => ?_
        have he' : ∀ b o, h₂.get? b = some o → h₅.get? b = some o := fun b o e => he b o (Nat.ne_of_lt (Heap.lt_size e)) e
        refine assignInOrder_cons (wpAny_assign_Name (wpAny_storeName_local (lookup_relabel_local hx) ((hn'.at' fun o e => hk₂ _ o (by simpa using Ne.symm hCI) e).at' fun o e => he' _ o e) (fun h₆ hn₆ hs₆ => ?_) (by simp [compEnvC, relabel, hkind])))
        refine assignInOrder_cons (wpAny_assign_Name (wpAny_storeName_local (lookup_relabel_local hx₂) hn₆ (fun h₃ hn₃ hs₃ => ?_) (by simp [compEnvC, relabel, hkind])))
        refine assignInOrder_nil ?_
        have old3 : ∀ b o, b ≠ H2.objs.size → h₂.get? b = some o → h₃.get? b = some o := fun b o hb e => hs₃.extBut b o hb (hs₆.extBut b o hb (he' b o e))
        have hst₃ : h₃.IsListIter I ax (i + 1) := hst₂.1.at fun o e => old3 _ o hCI e
        obtain ⟨oI, heI, hcI, hdI⟩ := id hst₃
        obtain ⟨oC, heC, hoC⟩ := ns_obj hn₃
        have F₃ : Fr h₀ L h₃ m := (((fr_but F' hk₂ (Ne.symm hIL) hI₀).keeps he').change hs₆ hCL hC₀).change hs₃ hCL hC₀
        have N₃ : News h₀ L h₃ ((I, oI) :: (H2.objs.size, oC) :: (s₂.heap.objs.size, lst ys) :: nw) := fun p hp => by
          rcases List.mem_cons.mp hp with rfl | hp
          · exact ⟨heI, hIL, hI₀⟩
          · rcases List.mem_cons.mp hp with rfl | hp
            · exact ⟨heC, hCL, hC₀⟩
            · have z := N₂ p hp
              refine ⟨old3 _ _ ?_ z.1, z.2⟩
              rcases List.mem_cons.mp hp with rfl | hp
              · exact hDC
              · exact (off3 p hp).2.1
        refine wpAny_mono (T s₂ I oI H2.objs.size oC s₂.heap.objs.size _ h₃ _ _ hg hoC (by simp [hxx]) (by simp) F₃ N₃ off' ⟨hCI, hDI, Ne.symm hDC⟩) (fun ok s₄ hok => ?_) fun _ _ e => e
        cases ok with
        | true =>
          simp only [if_true] at hok ⊢
          refine wpAny_mono hok (fun y s₅ h₅ => ?_) fun _ _ e => e
          obtain ⟨h₄, tk₄, nw₄, rfl, F₄, N₄, off₄, _, J₄⟩ := h₅
          have zI := (N₄ (I, oI) List.mem_cons_self).1
          have zC := (N₄ (H2.objs.size, oC) (List.mem_cons_of_mem _ List.mem_cons_self)).1
          have zD := (N₄ (s₂.heap.objs.size, lst ys) (List.mem_cons_of_mem _ (List.mem_cons_of_mem _ List.mem_cons_self))).1
          have N₄' : News h₀ L h₄ nw₄ := fun p hp => N₄ p (List.mem_cons_of_mem _ (List.mem_cons_of_mem _ (List.mem_cons_of_mem _ hp)))
          refine append_at (hsz := by show ys.toArray.size ≤ sizeLine; rw [List.size_toArray]; exact Nat.le_trans hyl (Nat.le_trans hi hsz)) zD fun h₇ hs₇ hD₇ => ?_
          have off4 := off₄.mem
          refine ⟨its.size + 1 - (i + 1), by omega, h₇, tk₄, i + 1, ys ++ [y], _, nw₄, rfl, hlti, rfl, by rw [List.length_append, List.length_singleton]; omega, ⟨oI, hs₇.extBut _ _ hDI zI, hcI, hdI⟩, F₄.change hs₇ hDL hD₀,
            (hoC.ns zC).sameBut hs₇ (Ne.symm hDC), fun p hp => ?_, off₄, J₄⟩
          rcases List.mem_cons.mp hp with rfl | hp
          · exact ⟨hD₇.trans (congrArg some (lst_snoc ys y)), hDL, hD₀⟩
          · exact ⟨hs₇.extBut _ _ (off4 p hp).2.2 (N₄' p hp).1, (N₄' p hp).2⟩
        | false =>
          simp only [Bool.false_eq_true, if_false] at hok ⊢
          obtain ⟨h₄, tk₄, nw₄, rfl, F₄, N₄, off₄, _, J₄⟩ := hok
          have zI := (N₄ (I, oI) List.mem_cons_self).1
          have zC := (N₄ (H2.objs.size, oC) (List.mem_cons_of_mem _ List.mem_cons_self)).1
          exact ⟨its.size + 1 - (i + 1), by omega, h₄, tk₄, i + 1, ys, _, nw₄, rfl, hlti, rfl, by omega, ⟨oI, zI, hcI, hdI⟩, F₄, hoC.ns zC, fun p hp => N₄ p (List.mem_cons_of_mem _ (List.mem_cons_of_mem _ hp)), off₄, J₄⟩
      · obtain rfl : i = its.size := Nat.le_antisymm hi (Nat.not_lt.mp hlti)
        refine Wk.done _ _ _ ⟨hst', hl'⟩ fun h₂ tk₂ hk₂ => ?_
        have F₂ := fr_but F' hk₂ (Ne.symm hIL) hI₀
        have N₂ : News h₀ L h₂ ((s₂.heap.objs.size, lst ys) :: nw) := news_but N' hk₂ fun p hp => by
          rcases List.mem_cons.mp hp with rfl | hp
          · exact Ne.symm hDI
          · exact (off3 p hp).1
        show wpAny _ A (assign (.Name y py) env (.ref s₂.heap.objs.size)) _ _ _
        refine wpAny_assign_Name (wpAny_storeName_local hy (show Heap.Ns h₂ env.locals m by rw [hLe]; exact F₂.ns) (fun h₇ hn₇ hs₇ => ?_) hp)
        rw [hLe] at hn₇ hs₇
        have hL₀ : h₀.get? L = none := Heap.get?_none_of_le F₂.above
        have F₇ : Fr h₀ L h₇ (fun z => if z = y then some (.ref s₂.heap.objs.size) else m z) := ⟨hn₇, fun b o e => hs₇.extBut b o (fun q => by rw [q, hL₀] at e; cases e) (F₂.keep b o e), F₂.above⟩
        refine ⟨m', (hn'.at' fun o e => hk₂ _ o (by simpa using Ne.symm hCI) e).sameBut hs₇ hCL, fun h'' hs'' => fin s₂ ys nw hg hJ' s₂.heap.objs.size h'' _ (F₇.change hs'' hCL hC₀) (fun p hp => ?_) off'.one⟩
        have z : h₇.get? p.1 = some p.2 := hs₇.extBut _ _ (N₂ p hp).2.1 (N₂ p hp).1
        refine ⟨hs''.extBut _ _ ?_ z, (N₂ p hp).2⟩
        rcases List.mem_cons.mp hp with rfl | hp
        · exact hDC
        · exact (off3 p hp).2.1
    · rcases List.mem_cons.mp hp with rfl | hp
      · exact ⟨hacc, hDL, hD₀⟩
      · exact ⟨old _ _ (N2 p hp).1, (N2 p hp).2⟩
  exact codeAny_compStart_list (loop _ rfl) ((Walks.list (prog := prog) (w := w) hh I ax hne its).self 0 _ _ _ ⟨hI2.at fun o e => old _ o e, (show h₁.IsList ax its from ⟨_, old _ _ (N2 _ (hJl _ _ _ hJ0)).1, rfl, k₀, rfl⟩)⟩ (loop _ rfl))
end
section
variable {prog : Program} {w : World} {A : Around} {E : Value → Shared → Prop} {s : Shared} {h₀ : Heap} {L : Addr} {m : Str → Option Value} {env : Env}
/-- a comprehension over a list of the ledger with a test; what a turn makes is dropped -/
theorem dropT_src {ct elt : Expr} {x : Str} {scope : Scope} {cl : List (Str × Addr)} {Fin : Shared → List Value → List (Addr × Obj) → Prop} {ax : Addr} {its : Array Value} {k : Nat} {news : List (Addr × Obj)} (W : Nat → List Value → Prop)
    (hh : A.handled = none) (F : Fr h₀ L s.heap m) (N : News h₀ L s.heap news) (hm : (ax, listOf its k) ∈ news) (hsz : its.size ≤ sizeLine) (h0 : W 0 [])
    (turn : ∀ i v ys I oI C oC D m₂ (g : Heap) h tk (E' : Value → Shared → Prop), its[i]? = some v → W i ys → NsObj oC m₂ → m₂ x = some v → Fr h₀ L h m → News h₀ L h ((I, oI) :: (C, oC) :: (D, lst ys) :: news) → Off3 I C D news → ((@Ne Nat I C) ∧ (@Ne Nat I D) ∧ (@Ne Nat C D)) →
      wpAny (model prog w) A (isTrue ct (compEnvC scope cl C env) (eval ct (compEnvC scope cl C env))) (fun ok s' => if ok = true then
        wpAny (model prog w) A (eval elt (compEnvC scope cl C env)) (CompEnd h₀ L m { s with heap := h, toks := tk } I oI C oC D (lst ys) (fun _ => True) (fun y nw' => nw' = news ∧ W (i + 1) (ys ++ [y]))) E' s'
        else CompEnd h₀ L m { s with heap := h, toks := tk } I oI C oC D (lst ys) (fun _ => True) (fun _ nw' => nw' = news ∧ W (i + 1) ys) Value.none s') E' { s with heap := h, toks := tk })
    (fin : ∀ g ys, W its.size ys → Fin { s with heap := g } ys news) : LCt.CompSrcT prog w A h₀ L m env ct elt x scope cl Fin (.ref ax) s := by
  refine LCt.CompSrcT.ledger hh F N hm hsz fun g => ?_
  refine restT_st (n := its.size) (fun i ys nw => nw = news ∧ W i ys) (fun i ys nw hj => Or.inr ⟨listOf its k, hj.1 ▸ hm, rfl, k, rfl⟩) ?_ (fun ys nw hj => hj.1 ▸ fin g ys hj.2) _ 0 [] news (by simp) ⟨rfl, h0⟩
  rintro i v ys nw I oI C oC D m₂ h tk E' hi hv ⟨rfl, hw⟩ hC hx F' N' off ne
  exact turn i v ys I oI C oC D m₂ g h tk E' hv hw hC hx F' N' off ne
/-- the same over range(a, b) -/
theorem dropTRa_src {ct elt : Expr} {x : Str} {scope : Scope} {cl : List (Str × Addr)} {Fin : Shared → List Value → List (Addr × Obj) → Prop} {r : Addr} {a b : Int} {t u v : Tok} {n : Nat} {news : List (Addr × Obj)} (W : Nat → List Value → Prop)
    (hh : A.handled = none) (F : Fr h₀ L s.heap m) (N : News h₀ L s.heap news) (hr : IsRange s.heap r a b 1 t u v) (hsm : Builtin.Range.small a b 1 = true) (hn : Builtin.Range.rangeSize a b 1 = ((n : Nat) : Int)) (hsz : n ≤ sizeLine) (h0 : W 0 [])
    (turn : ∀ i t ys I oI C oC D m₂ (g : Heap) h tk (E' : Value → Shared → Prop), i < n → W i ys → NsObj oC m₂ → m₂ x = some (.int (a + (i : Int)) t) → Fr h₀ L h m → News h₀ L h ((I, oI) :: (C, oC) :: (D, lst ys) :: news) → Off3 I C D news → ((@Ne Nat I C) ∧ (@Ne Nat I D) ∧ (@Ne Nat C D)) →
      wpAny (model prog w) A (isTrue ct (compEnvC scope cl C env) (eval ct (compEnvC scope cl C env))) (fun ok s' => if ok = true then
        wpAny (model prog w) A (eval elt (compEnvC scope cl C env)) (CompEnd h₀ L m { s with heap := h, toks := tk } I oI C oC D (lst ys) (fun _ => True) (fun y nw' => nw' = news ∧ W (i + 1) (ys ++ [y]))) E' s'
        else CompEnd h₀ L m { s with heap := h, toks := tk } I oI C oC D (lst ys) (fun _ => True) (fun _ nw' => nw' = news ∧ W (i + 1) ys) Value.none s') E' { s with heap := h, toks := tk })
    (fin : ∀ g ys, W n ys → Fin { s with heap := g } ys news) : LCt.CompSrcT prog w A h₀ L m env ct elt x scope cl Fin (.ref r) s := by
  refine LCt.CompSrcT.range hh F N hr hsm hn hsz fun g => ?_
  refine restT_st (n := n) (fun i ys nw => nw = news ∧ W i ys) (fun i ys nw hj => trivial) ?_ (fun ys nw hj => hj.1 ▸ fin g ys hj.2) _ 0 [] news (by simp) ⟨rfl, h0⟩
  rintro i v ys nw I oI C oC D m₂ h tk E' hi ⟨t, rfl⟩ ⟨rfl, hw⟩ hC hx F' N' off ne
  exact turn i t ys I oI C oC D m₂ g h tk E' hi hw hC hx F' N' off ne
/-- the same over range(n) -/
theorem dropTR_src {ct elt : Expr} {x : Str} {scope : Scope} {cl : List (Str × Addr)} {Fin : Shared → List Value → List (Addr × Obj) → Prop} {r : Addr} {b : Int} {t u v : Tok} {n : Nat} {news : List (Addr × Obj)} (W : Nat → List Value → Prop)
    (hh : A.handled = none) (F : Fr h₀ L s.heap m) (N : News h₀ L s.heap news) (hr : IsRange s.heap r 0 b 1 t u v) (hsm : Builtin.Range.small 0 b 1 = true) (hn : Builtin.Range.rangeSize 0 b 1 = ((n : Nat) : Int)) (hsz : n ≤ sizeLine) (h0 : W 0 [])
    (turn : ∀ i t ys I oI C oC D m₂ (g : Heap) h tk (E' : Value → Shared → Prop), i < n → W i ys → NsObj oC m₂ → m₂ x = some (.int (i : Int) t) → Fr h₀ L h m → News h₀ L h ((I, oI) :: (C, oC) :: (D, lst ys) :: news) → Off3 I C D news → ((@Ne Nat I C) ∧ (@Ne Nat I D) ∧ (@Ne Nat C D)) →
      wpAny (model prog w) A (isTrue ct (compEnvC scope cl C env) (eval ct (compEnvC scope cl C env))) (fun ok s' => if ok = true then
        wpAny (model prog w) A (eval elt (compEnvC scope cl C env)) (CompEnd h₀ L m { s with heap := h, toks := tk } I oI C oC D (lst ys) (fun _ => True) (fun y nw' => nw' = news ∧ W (i + 1) (ys ++ [y]))) E' s'
        else CompEnd h₀ L m { s with heap := h, toks := tk } I oI C oC D (lst ys) (fun _ => True) (fun _ nw' => nw' = news ∧ W (i + 1) ys) Value.none s') E' { s with heap := h, toks := tk })
    (fin : ∀ g ys, W n ys → Fin { s with heap := g } ys news) : LCt.CompSrcT prog w A h₀ L m env ct elt x scope cl Fin (.ref r) s :=
  dropTRa_src W hh F N hr hsm hn hsz h0 (fun i t ys I oI C oC D m₂ g h tk E' hi hw hC hx => turn i t ys I oI C oC D m₂ g h tk E' hi hw hC (hx.trans (by rw [Int.zero_add]))) fin
/-- without a test -/
theorem drop_src {elt : Expr} {x : Str} {scope : Scope} {cl : List (Str × Addr)} {Fin : Shared → List Value → List (Addr × Obj) → Prop} {ax : Addr} {its : Array Value} {k : Nat} {news : List (Addr × Obj)} (W : Nat → List Value → Prop)
    (hh : A.handled = none) (F : Fr h₀ L s.heap m) (N : News h₀ L s.heap news) (hm : (ax, listOf its k) ∈ news) (hsz : its.size ≤ sizeLine) (h0 : W 0 [])
    (turn : ∀ i v ys I oI C oC D m₂ (g : Heap) h tk (E' : Value → Shared → Prop), its[i]? = some v → W i ys → NsObj oC m₂ → m₂ x = some v → Fr h₀ L h m → News h₀ L h ((I, oI) :: (C, oC) :: (D, lst ys) :: news) → Off3 I C D news → ((@Ne Nat I C) ∧ (@Ne Nat I D) ∧ (@Ne Nat C D)) →
        wpAny (model prog w) A (eval elt (compEnvC scope cl C env)) (CompEnd h₀ L m { s with heap := h, toks := tk } I oI C oC D (lst ys) (fun _ => True) (fun y nw' => nw' = news ∧ W (i + 1) (ys ++ [y]))) E' { s with heap := h, toks := tk })
    (fin : ∀ g ys, W its.size ys → Fin { s with heap := g } ys news) : LCg.CompSrc prog w A h₀ L m env elt x scope cl Fin (.ref ax) s := by
  refine LCg.CompSrc.ledger hh F N hm hsz fun g => ?_
  refine rest_st (n := its.size) (fun i ys nw => nw = news ∧ W i ys) (fun i ys nw hj => Or.inr ⟨listOf its k, hj.1 ▸ hm, rfl, k, rfl⟩) ?_ (fun ys nw hj => hj.1 ▸ fin g ys hj.2) _ 0 [] news (by simp) ⟨rfl, h0⟩
  rintro i v ys nw I oI C oC D m₂ h tk E' hi hv ⟨rfl, hw⟩ hC hx F' N' off ne
  exact turn i v ys I oI C oC D m₂ g h tk E' hv hw hC hx F' N' off ne
/-- without a test; the ledger's tail grows -/
theorem grow_src {elt : Expr} {x : Str} {scope : Scope} {cl : List (Str × Addr)} {Fin : Shared → List Value → List (Addr × Obj) → Prop} {ax : Addr} {its : Array Value} {k : Nat} (es : List (Addr × Obj)) {R : List (Addr × Obj)} (W : Nat → List Value → List (Addr × Obj) → Prop)
    (hh : A.handled = none) (F : Fr h₀ L s.heap m) (N : News h₀ L s.heap (es ++ R)) (hm : (ax, listOf its k) ∈ es) (hsz : its.size ≤ sizeLine) (h0 : W 0 [] R)
    (turn : ∀ i v ys R I oI C oC D m₂ (g : Heap) h tk (E' : Value → Shared → Prop), its[i]? = some v → W i ys R → NsObj oC m₂ → m₂ x = some v → Fr h₀ L h m → News h₀ L h ((I, oI) :: (C, oC) :: (D, lst ys) :: (es ++ R)) → Off3 I C D (es ++ R) → ((@Ne Nat I C) ∧ (@Ne Nat I D) ∧ (@Ne Nat C D)) →
        wpAny (model prog w) A (eval elt (compEnvC scope cl C env)) (CompEnd h₀ L m { s with heap := h, toks := tk } I oI C oC D (lst ys) (fun _ => True) (fun y nw' => ∃ R', nw' = es ++ R' ∧ W (i + 1) (ys ++ [y]) R')) E' { s with heap := h, toks := tk })
    (fin : ∀ g ys R, W its.size ys R → Fin { s with heap := g } ys (es ++ R)) : LCg.CompSrc prog w A h₀ L m env elt x scope cl Fin (.ref ax) s := by
  refine LCg.CompSrc.ledger hh F N (List.mem_append_left _ hm) hsz fun g => ?_
  refine rest_st (n := its.size) (fun i ys nw => ∃ R', nw = es ++ R' ∧ W i ys R') ?_ ?_ ?_ _ 0 [] (es ++ R) (by simp) ⟨R, rfl, h0⟩
  · rintro i ys nw ⟨R', rfl, _⟩
    exact Or.inr ⟨listOf its k, List.mem_append_left _ hm, rfl, k, rfl⟩
  · rintro i v ys nw I oI C oC D m₂ h tk E' hi hv ⟨R', rfl, hw⟩ hC hx F' N' off ne
    exact turn i v ys R' I oI C oC D m₂ g h tk E' hv hw hC hx F' N' off ne
  · rintro ys nw ⟨R', rfl, hw⟩
    exact fin g ys R' hw
end
end Mine
end
section
open PySem PySem.W PyProof.Rows PySem.Calls PySem.Spec
namespace Mine
open LCg (NsObj Off1 Off3 CompEnd lst fr_but news_but SrcAt CompRest ns_obj lst_snoc)


theorem heap_turn {i n : Nat} (hi : i < n - 1) (hn : n ≤ 4) : i + 1 < n ∧ i / 2 < n ∧ 1 + (i : Int) = ((i + 1 : Nat) : Int) ∧ (1 + (i : Int) - 1).fdiv 2 = ((i / 2 : Nat) : Int) ∧ i + 1 < 1000 ∧ i / 2 < 1000 := by
  have h : i + 1 < n := Nat.add_lt_of_lt_sub hi
  have h2 : i / 2 ≤ i := Nat.div_le_self i 2
  refine ⟨h, by omega, by omega, ?_, by omega, by omega⟩
  rw [show 1 + (i : Int) - 1 = ((i : Nat) : Int) by omega]
  exact Int.fdiv_eq_ediv_of_nonneg _ (by omega)
theorem heap_range {n : Nat} (h : n ≤ 4) : Builtin.Range.small 1 (n : Int) 1 = true ∧ Builtin.Range.rangeSize 1 (n : Int) 1 = ((n - 1 : Nat) : Int) := by
  have hn : ∀ k : Nat, k ≤ 4 → Builtin.Range.small 1 (k : Int) 1 = true ∧ Builtin.Range.rangeSize 1 (k : Int) 1 = ((k - 1 : Nat) : Int) := by decide
  exact hn n h
theorem kt_Heaped : True := by
  k_with_none
  k_with "m all" => (first | assumption | (tbn_letter; refine all_of_lt (by tbn_find) (by omega)))
  k_with "m mem" => (first | assumption | (repeat (first | exact List.Mem.head _ | assumption | refine List.Mem.tail _ ?_)))
  k_with "m ne" => (first | assumption | exact Ne.symm (by assumption) | (refine neN ?_; (try dsimp only); (repeat (rename @Ne Nat _ _ => hz9; clear hz9)); (repeat (rename @Ne Nat _ _ ∧ _ => hz9; clear hz9)); (repeat (rename (@Ne Nat _ _ ∧ _) ∧ _ => hz9; clear hz9)); omega) | ((repeat (rename @Ne Nat _ _ ∧ _ => hz9; first | exact hz9.1 | exact hz9.1.symm | exact hz9.2.1 | exact hz9.2.1.symm | exact hz9.2.2.1 | exact hz9.2.2.1.symm | exact hz9.2.2.2.1 | exact hz9.2.2.2.1.symm | exact hz9.2.2.2.2.1 | exact hz9.2.2.2.2.1.symm | exact hz9.2.2.2.2.2.1 | exact hz9.2.2.2.2.2.1.symm | exact hz9.2.2.2.2.2.2.1 | exact hz9.2.2.2.2.2.2.1.symm | exact hz9.2.2.2.2.2.2.2.1 | exact hz9.2.2.2.2.2.2.2.1.symm | exact hz9.2.2.2.2.2.2.2.2.1 | exact hz9.2.2.2.2.2.2.2.2.1.symm | exact hz9.2.2.2.2.2.2.2.2.2.1 | exact hz9.2.2.2.2.2.2.2.2.2.1.symm | exact hz9.2.2.2.2.2.2.2.2.2.2.1 | exact hz9.2.2.2.2.2.2.2.2.2.2.1.symm | exact hz9.2.2.2.2.2.2.2.2.2.2.2.1 | exact hz9.2.2.2.2.2.2.2.2.2.2.2.1.symm | exact hz9.2.2.2.2.2.2.2.2.2.2.2.2.1 | exact hz9.2.2.2.2.2.2.2.2.2.2.2.2.1.symm | exact hz9.2.2.2.2.2.2.2.2.2.2.2.2.2.1 | exact hz9.2.2.2.2.2.2.2.2.2.2.2.2.2.1.symm | exact hz9.2.2.2.2.2.2.2.2.2.2.2.2.2.2.1 | exact hz9.2.2.2.2.2.2.2.2.2.2.2.2.2.2.1.symm | clear hz9)); done) | ((repeat (rename (@Ne Nat _ _ ∧ _) ∧ _ => hz9; first | exact hz9.1.1 | exact hz9.1.1.symm | exact hz9.1.2.1 | exact hz9.1.2.1.symm | exact hz9.1.2.2 | exact hz9.1.2.2.symm | exact hz9.2.1.1 | exact hz9.2.1.1.symm | exact hz9.2.1.2.1 | exact hz9.2.1.2.1.symm | exact hz9.2.1.2.2 | exact hz9.2.1.2.2.symm | exact hz9.2.2.1.1 | exact hz9.2.2.1.1.symm | exact hz9.2.2.1.2.1 | exact hz9.2.2.1.2.1.symm | exact hz9.2.2.1.2.2 | exact hz9.2.2.1.2.2.symm | exact hz9.2.2.2.1.1 | exact hz9.2.2.2.1.1.symm | exact hz9.2.2.2.1.2.1 | exact hz9.2.2.2.1.2.1.symm | exact hz9.2.2.2.1.2.2 | exact hz9.2.2.2.1.2.2.symm | exact hz9.2.2.2.2.1.1 | exact hz9.2.2.2.2.1.1.symm | exact hz9.2.2.2.2.1.2.1 | exact hz9.2.2.2.2.1.2.1.symm | exact hz9.2.2.2.2.1.2.2 | exact hz9.2.2.2.2.1.2.2.symm | exact hz9.2.2.2.2.2.1.1 | exact hz9.2.2.2.2.2.1.1.symm | exact hz9.2.2.2.2.2.1.2.1 | exact hz9.2.2.2.2.2.1.2.1.symm | exact hz9.2.2.2.2.2.1.2.2 | exact hz9.2.2.2.2.2.1.2.2.symm | exact hz9.2.2.2.2.2.2.1.1 | exact hz9.2.2.2.2.2.2.1.1.symm | exact hz9.2.2.2.2.2.2.1.2.1 | exact hz9.2.2.2.2.2.2.1.2.1.symm | exact hz9.2.2.2.2.2.2.1.2.2 | exact hz9.2.2.2.2.2.2.1.2.2.symm | exact hz9.2.2.2.2.2.2.2.1.1 | exact hz9.2.2.2.2.2.2.2.1.1.symm | exact hz9.2.2.2.2.2.2.2.1.2.1 | exact hz9.2.2.2.2.2.2.2.1.2.1.symm | exact hz9.2.2.2.2.2.2.2.1.2.2 | exact hz9.2.2.2.2.2.2.2.1.2.2.symm | exact hz9.2.2.2.2.2.2.2.2.1.1 | exact hz9.2.2.2.2.2.2.2.2.1.1.symm | exact hz9.2.2.2.2.2.2.2.2.1.2.1 | exact hz9.2.2.2.2.2.2.2.2.1.2.1.symm | exact hz9.2.2.2.2.2.2.2.2.1.2.2 | exact hz9.2.2.2.2.2.2.2.2.1.2.2.symm | exact hz9.2.2.2.2.2.2.2.2.2.1.1 | exact hz9.2.2.2.2.2.2.2.2.2.1.1.symm | exact hz9.2.2.2.2.2.2.2.2.2.1.2.1 | exact hz9.2.2.2.2.2.2.2.2.2.1.2.1.symm | exact hz9.2.2.2.2.2.2.2.2.2.1.2.2 | exact hz9.2.2.2.2.2.2.2.2.2.1.2.2.symm | exact hz9.2.2.2.2.2.2.2.2.2.2.1.1 | exact hz9.2.2.2.2.2.2.2.2.2.2.1.1.symm | exact hz9.2.2.2.2.2.2.2.2.2.2.1.2.1 | exact hz9.2.2.2.2.2.2.2.2.2.2.1.2.1.symm | exact hz9.2.2.2.2.2.2.2.2.2.2.1.2.2 | exact hz9.2.2.2.2.2.2.2.2.2.2.1.2.2.symm | exact hz9.2.2.2.2.2.2.2.2.2.2.2.1.1 | exact hz9.2.2.2.2.2.2.2.2.2.2.2.1.1.symm | exact hz9.2.2.2.2.2.2.2.2.2.2.2.1.2.1 | exact hz9.2.2.2.2.2.2.2.2.2.2.2.1.2.1.symm | exact hz9.2.2.2.2.2.2.2.2.2.2.2.1.2.2 | exact hz9.2.2.2.2.2.2.2.2.2.2.2.1.2.2.symm | exact hz9.2.2.2.2.2.2.2.2.2.2.2.2.1.1 | exact hz9.2.2.2.2.2.2.2.2.2.2.2.2.1.1.symm | exact hz9.2.2.2.2.2.2.2.2.2.2.2.2.1.2.1 | exact hz9.2.2.2.2.2.2.2.2.2.2.2.2.1.2.1.symm | exact hz9.2.2.2.2.2.2.2.2.2.2.2.2.1.2.2 | exact hz9.2.2.2.2.2.2.2.2.2.2.2.2.1.2.2.symm | exact hz9.2.2.2.2.2.2.2.2.2.2.2.2.2.1.1 | exact hz9.2.2.2.2.2.2.2.2.2.2.2.2.2.1.1.symm | exact hz9.2.2.2.2.2.2.2.2.2.2.2.2.2.1.2.1 | exact hz9.2.2.2.2.2.2.2.2.2.2.2.2.2.1.2.1.symm | exact hz9.2.2.2.2.2.2.2.2.2.2.2.2.2.1.2.2 | exact hz9.2.2.2.2.2.2.2.2.2.2.2.2.2.1.2.2.symm | exact hz9.2.2.2.2.2.2.2.2.2.2.2.2.2.2.1.1 | exact hz9.2.2.2.2.2.2.2.2.2.2.2.2.2.2.1.1.symm | exact hz9.2.2.2.2.2.2.2.2.2.2.2.2.2.2.1.2.1 | exact hz9.2.2.2.2.2.2.2.2.2.2.2.2.2.2.1.2.1.symm | exact hz9.2.2.2.2.2.2.2.2.2.2.2.2.2.2.1.2.2 | exact hz9.2.2.2.2.2.2.2.2.2.2.2.2.2.2.1.2.2.symm | exact hz9.2.2.2.2.2.2.2.2.2.2.2.2.2.2.2.1.1 | exact hz9.2.2.2.2.2.2.2.2.2.2.2.2.2.2.2.1.1.symm | exact hz9.2.2.2.2.2.2.2.2.2.2.2.2.2.2.2.1.2.1 | exact hz9.2.2.2.2.2.2.2.2.2.2.2.2.2.2.2.1.2.1.symm | exact hz9.2.2.2.2.2.2.2.2.2.2.2.2.2.2.2.1.2.2 | exact hz9.2.2.2.2.2.2.2.2.2.2.2.2.2.2.2.1.2.2.symm | exact hz9.2.2.2.2.2.2.2.2.2.2.2.2.2.2.2.2.1.1 | exact hz9.2.2.2.2.2.2.2.2.2.2.2.2.2.2.2.2.1.1.symm | exact hz9.2.2.2.2.2.2.2.2.2.2.2.2.2.2.2.2.1.2.1 | exact hz9.2.2.2.2.2.2.2.2.2.2.2.2.2.2.2.2.1.2.1.symm | exact hz9.2.2.2.2.2.2.2.2.2.2.2.2.2.2.2.2.1.2.2 | exact hz9.2.2.2.2.2.2.2.2.2.2.2.2.2.2.2.2.1.2.2.symm | clear hz9)); done) | (refine neN ?_; (try dsimp only); omega))
  k_with "compareOp Lt ref ref" => (k_here; k_dflt (refine tup_lt (by k_units) (by exact News.get (by k_asm) (by k_mem)) (by exact News.get (by k_asm) (by k_mem)) ?_))
  k_with "storeName" => (k_here; dsimp only)
  k_with "eval Constant str" => (k_here; with_reducible refine const_str ?_)
  k_with "eval Constant int" => (k_here; with_reducible refine const_int ?_)
  k_with "subscriptTail" => (k_here; k_dflt (refine list_item (by k_asm) (by k_mem) (by first | assumption | rfl) (by assumption) (by first | assumption | omega) ?_ (by with_unfolding_all rfl); k_whole))
  k_with "call builtin:len" => (k_here; k_dflt (refine call_len_list (News.isList (by k_asm) (by k_mem)) (by (simp only [List.size_toArray, List.length_append, List.length_cons, List.length_nil]; omega)) ?_))
  k_with "CompSrcT" => (k_here; refine stop_in ?_)
  trivial
section
variable {w : World} {dp un : Nat} {gd : Option (List Code)} {cn : Str} {nm : List (Str × NameKind)} {ig ic : Bool} {mr : List (Str × Const)} {a : Addr} {ccd : Value} {cl : List (Str × Addr)} {outer : List Env} {A₀ : Around} {base h₀ : Heap} {L : Addr} {m : Str → Option Value} {s : Shared} {Q E : Value → Shared → Prop}
   {mean : ExcName → Option Value} {mg mb : Str → Option Value} {loose : List Str}
set_option maxHeartbeats 4000000 in
theorem heapedG {l : Addr} {ys : List Value} {ps : List (Int × Str)} {k : Nat} {rest : List (Addr × Obj)} {P : Value → Int × Str → Prop}
   (B : Below A₀ base outer h₀) (F : Fr h₀ L s.heap m) (X : (heapK w.params).In h₀)
   (N : News h₀ L s.heap ((l, listOf ys.toArray k) :: rest)) (dr : ∀ q ∈ rest, q.1 ≠ l)
   (hP : ∀ v p, P v p → ∃ a u x, v = .ref a ∧ (a, tupO p.1 u p.2 x) ∈ rest) (hp : All2 P ys ps) (hn : ps.length ≤ 4)
   (hh : ∀ i, i + 1 < ps.length → ltP (ps.getD (i + 1) default) (ps.getD (i / 2) default) = false)
   (T : Top topProg loose mean mg mb h₀) (hdp : dp + 3 < recursionLimit) (hun : un + 200 < cLine)
   (hret : ∀ h' tk', Fr h₀ L h' m → News h₀ L h' ((l, listOf ys.toArray k) :: rest) → Q (.bool true) { s with heap := h', toks := tk' }) :
   wpAny (model PySem.Challenge.rw_oy0154_01.prog w) (ktrTop dp un gd cn ⟨.function, nm, ig, ic, mr⟩ L a ccd cl outer) (call (.ref 162) [.ref l]) Q E s := by
  revert T N X
  k_fill
  intro X N T
  have hyl : ys.length = ps.length := All2.length hp
  have hsz : ys.toArray.size = ps.length := by rw [List.size_toArray, hyl]
  refine wpAny_call ?_
  k_dflt k_enter
  k_steps
  refine stop_out ?_
  (rename News _ _ _ _ => lN')
  (rename Fr _ _ _ _ => lF')
  (rename IsRange _ _ _ _ _ _ _ _ => lR')
  rw [hsz] at lR'
  refine' dropTRa_src (n := ps.length - 1) (fun _ ys => ys = []) ?feH lF' lN' lR' (heap_range hn).1 (heap_range hn).2 ?feZ ?fe0 ?feT ?feE
  case feH => rfl
  case feZ => rw [PySem.sizeLine_eq]; omega
  case fe0 => rfl
  case feT =>
    intro i t ys4 I oI C oC D m₂ g4 h tk E' hi hj hC hx F' N' off ne
    clear lF' lN' lR'
    subst hj
    have off0 := off
    simp only [LCg.Off3, and_true] at off
    obtain ⟨c1, c2, i1, i2, j1, j2⟩ := heap_turn hi hn
    obtain ⟨b1, u1, v1, g1, _, m1⟩ := hp.pick hP c1
    obtain ⟨b2, u2, v2, g2, _, m2⟩ := hp.pick hP c2
    have hf := hh i c1
    k_steps
    (rename News _ _ _ _ => nE)
    (rename Fr _ _ _ _ => fE)
    exact LCg.CompEnd.intro fE nE _ (fun q hq => hq) off0 trivial ⟨rfl, rfl⟩
  case feE =>
    intro g4 ys4 hfr D7 h7 tk7 F7 N7 o7
    clear lF' lN' lR'
    subst hfr
    simp only [LCg.Off1, and_true] at o7
    k_steps
    (rename News h₀ _ _ _ => nE)
    (rename Fr h₀ _ _ _ => fE)
    exact hret _ _ fE (cb_drop nE (fun q hq => List.Mem.tail _ (List.Mem.tail _ (List.Mem.tail _ hq))))
end
end Mine
end
section
open PySem PySem.W PyProof.Rows PySem.Calls PySem.Spec
namespace Mine
theorem Prs.mono {R R' : List (Addr × Obj)} (hs : ∀ q ∈ R, q ∈ R') {vs : List Value} {ps : List (Int × Str)} (h : Prs R vs ps) : Prs R' vs ps :=
  All2.imp (fun _ _ => Exists.imp fun _ => Exists.imp fun _ => Exists.imp fun _ => And.imp_right (hs _)) h
theorem All2.snoc_inv {α β : Type} {P : α → β → Prop} {q : β} {ps : List β} : ∀ {ys : List α}, All2 P ys (ps ++ [q]) → ∃ yl y, ys = yl ++ [y] ∧ All2 P yl ps ∧ P y q := by
  induction ps with
  | nil =>
    intro ys h
    obtain ⟨y, yl, e, h1, h2⟩ := All2.cons_inv h
    exact ⟨[], y, e.trans (congrArg _ (All2.nil_inv h2)), trivial, h1⟩
  | cons p ps ih =>
    intro ys h
    obtain ⟨y, yl, e, h1, h2⟩ := All2.cons_inv h
    obtain ⟨zl, z, e2, h3, h4⟩ := ih h2
    exact ⟨y :: zl, z, e.trans (congrArg _ e2), ⟨h1, h3⟩, h4⟩
theorem Prs.length {R : List (Addr × Obj)} {vs : List Value} {ps : List (Int × Str)} (h : Prs R vs ps) : vs.length = ps.length := All2.length h
theorem Prs.nil_inv {R : List (Addr × Obj)} {vs : List Value} (h : Prs R vs []) : vs = [] := All2.nil_inv h
theorem Prs.cons_inv {R : List (Addr × Obj)} {p : Int × Str} {ps : List (Int × Str)} {vs : List Value} (h : Prs R vs (p :: ps)) : ∃ a u x vs', vs = .ref a :: vs' ∧ (a, tupO p.1 u p.2 x) ∈ R ∧ Prs R vs' ps :=
  (All2.cons_inv h).elim fun _ h => h.elim fun vs' h => h.2.1.elim fun a k => k.elim fun u k => k.elim fun x k => ⟨a, u, x, vs', k.1 ▸ h.1, k.2, h.2.2⟩
theorem ne_list {h₀ h : Heap} {L l b : Addr} {news : List (Addr × Obj)} {its : Array Value} {k : Nat} {t : Int} {u v : Tok} {x : Str} (N : News h₀ L h news) (h1 : (l, listOf its k) ∈ news) (h2 : (b, tupO t u x v) ∈ news) : @Ne Nat b l := by
  intro e
  subst e
  have e1 := (N _ h1).1
  have e2 := (N _ h2).1
  rw [e1] at e2
  have e3 := congrArg (fun o => o.map Obj.cls) e2
  simp at e3
/-- a value that is a pair of the ledger's -/
noncomputable abbrev pairR (R : List (Addr × Obj)) (v : Value) (p : Int × Str) : Prop := ∃ a u x, v = .ref a ∧ (a, tupO p.1 u p.2 x) ∈ R
theorem pair_led {h₀ h : Heap} {L l : Addr} {pre post R : List (Addr × Obj)} {its : Array Value} {k : Nat} (N : News h₀ L h (pre ++ (l, listOf its k) :: post)) (hl : (l, listOf its k) ∈ pre ++ (l, listOf its k) :: post) (hR : ∀ q ∈ R, q ∈ pre ++ (l, listOf its k) :: post) {v : Value} {p : Int × Str} : pairR R v p → pairR (pre ++ post) v p :=
  Exists.imp fun a => Exists.imp fun u => Exists.imp fun x => And.imp_right fun hm => (List.mem_append.mp (hR _ hm)).elim (List.mem_append_left _) fun h => (List.mem_cons.mp h).elim (fun e => absurd (Prod.mk.inj e).1 (ne_list N hl (hR _ hm))) (List.mem_append_right _)
section
variable {h₀ : Heap} {L l : Addr}
/-- the ledger with the list ahead, its pairs told apart, and back -/
theorem led_in {pre post es : List (Addr × Obj)} {o : Obj} {h : Heap} (N : News h₀ L h (pre ++ (l, o) :: post)) (he : ∀ q ∈ es, q ∈ pre ++ (l, o) :: post) : News h₀ L h ((l, o) :: (es ++ (pre ++ post))) := by
  intro q hq
  apply N
  rcases List.mem_cons.mp hq with rfl | hq
  · simp
  rcases List.mem_append.mp hq with hq | hq
  · exact he q hq
  rcases List.mem_append.mp hq with hq | hq
  · simp [hq]
  · simp [hq]
theorem led_out {pre post es : List (Addr × Obj)} {o : Obj} {h : Heap} (N : News h₀ L h ((l, o) :: (es ++ (pre ++ post)))) : News h₀ L h (pre ++ (l, o) :: post) := by
  intro q hq
  apply N
  rcases List.mem_append.mp hq with hq | hq
  · simp [hq]
  rcases List.mem_cons.mp hq with rfl | hq
  · simp
  · simp [hq]
end
theorem heapedB_at {ps : List (Int × Str)} (hn : ps.length ≤ 4) (h : heapedB ps = true) : ∀ i, i + 1 < ps.length → ltP (ps.getD (i + 1) default) (ps.getD (i / 2) default) = false := by
  intro i hi
  have h3 : i = 0 ∨ i = 1 ∨ i = 2 := by omega
  rcases ps with _ | ⟨p0, _ | ⟨p1, _ | ⟨p2, _ | ⟨p3, _ | ⟨_, _⟩⟩⟩⟩⟩
  · exact absurd hi (Nat.not_lt_zero _)
  · exact absurd (Nat.lt_of_succ_lt_succ hi) (Nat.not_lt_zero _)
  · simp only [heapedB, Bool.not_eq_true'] at h
    rcases h3 with rfl | rfl | rfl
    · exact h
    · exact absurd hi (by simp)
    · exact absurd hi (by simp)
  · simp only [heapedB, Bool.and_eq_true, Bool.not_eq_true'] at h
    rcases h3 with rfl | rfl | rfl
    · exact h.1
    · exact h.2
    · exact absurd hi (by simp)
  · simp only [heapedB, Bool.and_eq_true, Bool.not_eq_true'] at h
    rcases h3 with rfl | rfl | rfl
    · exact h.1
    · exact h.2.1
    · exact h.2.2
  · exact absurd hn (by simp)
theorem toList_eq {vs : Array Value} {l : List Value} (h : vs.toList = l) : vs = l.toArray := by rw [← h, Array.toArray_toList]
section
variable {w : World} {dp un : Nat} {gd : Option (List Code)} {cn : Str} {nm : List (Str × NameKind)} {ig ic : Bool} {mr : List (Str × Const)} {a : Addr} {ccd : Value} {cl : List (Str × Addr)} {outer : List Env} {A₀ : Around} {base h₀ : Heap} {L : Addr} {m : Str → Option Value} {s : Shared} {Q E : Value → Shared → Prop}
   {mean : ExcName → Option Value} {mg mb : Str → Option Value} {loose : List Str} {l it : Addr} {vs : Array Value} {ps : List (Int × Str)} {p : Int × Str} {u v : Tok} {k : Nat} {news R : List (Addr × Obj)} {g : Obj → List (Addr × Obj)}
theorem push_spec (B : Below A₀ base outer h₀) (F : Fr h₀ L s.heap m) (X : (heapK w.params).In h₀) (N : News h₀ L s.heap news) (T : Top topProg loose mean mg mb h₀) (hdp : dp + 3 < recursionLimit) (hun : un + 200 < cLine)
    (U : UpdF l (listOf vs k) news g) (hR : ∀ q ∈ R, q ∈ news) (hp : Prs R vs.toList ps) (hi : (it, tupO p.1 u p.2 v) ∈ R) (hn : ps.length ≤ 3)
    (hret : ∀ h' tk' its k', Prs R its.toList (pushR ps p) → Fr h₀ L h' m → News h₀ L h' (g (listOf its k')) → Q .none { s with heap := h', toks := tk' }) :
    wpAny (model PySem.Challenge.rw_oy0154_01.prog w) (ktrTop dp un gd cn ⟨.function, nm, ig, ic, mr⟩ L a ccd cl outer) (call (.ref 63) [.ref l, .ref it]) Q E s := by
  obtain ⟨pre, post, rfl, hg, h1, h2⟩ := U.split
  have hl : (l, listOf vs k) ∈ pre ++ (l, listOf vs k) :: post := by simp
  have dr : ∀ q ∈ pre ++ post, q.1 ≠ l := fun q hq => (List.mem_append.mp hq).elim (h1 q) (h2 q)
  refine pushG (ys := vs.toList) (ps := ps) (q := p) (rest := pre ++ post) (P := pairR R) B F X (led_in (es := []) (by rw [Array.toArray_toList]; exact N) fun _ h => nomatch h) dr (fun v p h => pair_led N hl hR h) hp ⟨it, u, v, rfl, hi⟩ (by omega) T hdp hun fun h' tk' ys' k' hp' F' N' => ?_
  rw [sdF_push p ps hn] at hp'
  refine hret h' tk' ys'.toArray k' hp' F' ?_
  rw [hg]
  exact led_out (es := []) N'
theorem pop_spec (B : Below A₀ base outer h₀) (F : Fr h₀ L s.heap m) (X : (heapK w.params).In h₀) (N : News h₀ L s.heap news) (T : Top topProg loose mean mg mb h₀) (hdp : dp + 3 < recursionLimit) (hun : un + 200 < cLine)
    (U : UpdF l (listOf vs k) news g) (hR : ∀ q ∈ R, q ∈ news) (hp : Prs R vs.toList ps) (h0 : ps ≠ []) (hn : ps.length ≤ 4)
    (hret : ∀ h' tk' its k' b u v, (b, tupO (ps.headD default).1 u (ps.headD default).2 v) ∈ R → Prs R its.toList (popR ps) → Fr h₀ L h' m → News h₀ L h' (g (listOf its k')) → Q (.ref b) { s with heap := h', toks := tk' }) :
    wpAny (model PySem.Challenge.rw_oy0154_01.prog w) (ktrTop dp un gd cn ⟨.function, nm, ig, ic, mr⟩ L a ccd cl outer) (call (.ref 70) [.ref l]) Q E s := by
  obtain ⟨pre, post, rfl, hg, h1, h2⟩ := U.split
  have hl : (l, listOf vs k) ∈ pre ++ (l, listOf vs k) :: post := by simp
  have dr : ∀ q ∈ pre ++ post, q.1 ≠ l := fun q hq => (List.mem_append.mp hq).elim (h1 q) (h2 q)
  obtain ⟨p0, ps', rfl⟩ := List.exists_cons_of_ne_nil h0
  obtain ⟨y0, ys, ey, hy0, hys⟩ := All2.cons_inv hp
  obtain rfl := toList_eq ey
  obtain ⟨b, u0, v0, rfl, mb⟩ := hy0
  rcases List.eq_nil_or_concat ps' with rfl | ⟨mid, q, hm⟩
  · obtain rfl := All2.nil_inv hys
    refine popO (rest := pre ++ post) (P := pairR R) (p := p0) B F X (led_in (es := []) N fun _ h => nomatch h) dr (fun v p h => pair_led N hl hR h) ⟨b, u0, v0, rfl, mb⟩ T hdp hun fun h' tk' k' F' N' => ?_
    refine hret h' tk' #[] k' b u0 v0 mb trivial F' ?_
    rw [hg]
    exact led_out (es := []) N'
  · obtain rfl := hm.trans List.concat_eq_append
    obtain ⟨yl, y, rfl, hl1, hl2⟩ := All2.snoc_inv hys
    refine popG (rest := pre ++ post) (P := pairR R) (p0 := p0) (ys := yl) (ps := mid) (q := q) B F X (led_in (es := []) N fun _ h => nomatch h) dr (fun v p h => pair_led N hl hR h) ⟨b, u0, v0, rfl, mb⟩ hl1 hl2 (by simp only [List.length_cons, List.length_append, List.length_nil] at hn; omega) T hdp hun fun h' tk' ys' k' hp' F' N' => ?_
    rw [suF_pop (p0 := p0) (by simp only [List.length_cons, List.length_append, List.length_nil] at hn; omega)] at hp'
    refine hret h' tk' ys'.toArray k' b u0 v0 mb hp' F' ?_
    rw [hg]
    exact led_out (es := []) N'
theorem heaped_spec (B : Below A₀ base outer h₀) (F : Fr h₀ L s.heap m) (X : (heapK w.params).In h₀) (N : News h₀ L s.heap news) (T : Top topProg loose mean mg mb h₀) (hdp : dp + 3 < recursionLimit) (hun : un + 200 < cLine)
    (U : UpdF l (listOf vs k) news g) (hR : ∀ q ∈ R, q ∈ news) (hp : Prs R vs.toList ps) (hn : ps.length ≤ 4) (hh : heapedB ps = true)
    (hret : ∀ h' tk', Fr h₀ L h' m → News h₀ L h' news → Q (.bool true) { s with heap := h', toks := tk' }) :
    wpAny (model PySem.Challenge.rw_oy0154_01.prog w) (ktrTop dp un gd cn ⟨.function, nm, ig, ic, mr⟩ L a ccd cl outer) (call (.ref 162) [.ref l]) Q E s := by
  obtain ⟨pre, post, rfl, hg, h1, h2⟩ := U.split
  have hl : (l, listOf vs k) ∈ pre ++ (l, listOf vs k) :: post := by simp
  have dr : ∀ q ∈ pre ++ post, q.1 ≠ l := fun q hq => (List.mem_append.mp hq).elim (h1 q) (h2 q)
  refine heapedG (ys := vs.toList) (rest := pre ++ post) (P := pairR R) B F X (led_in (es := []) (by rw [Array.toArray_toList]; exact N) fun _ h => nomatch h) dr (fun v p h => pair_led N hl hR h) hp hn (heapedB_at hn hh) T hdp hun fun h' tk' F' N' => hret h' tk' F' (led_out (es := []) ?_)
  rw [Array.toArray_toList] at N'
  exact N'
end
end Mine
end
section
open PySem PySem.W PyProof.Rows PySem.Calls PySem.Spec
namespace Mine
theorem kt_Allow : True := by
  k_with_none
  k_with "eval Constant str" => (k_here; with_reducible refine const_str ?_)
  k_with "eval Constant int" => (k_here; with_reducible refine const_int ?_)
  k_with "spliced" => (k_here; dsimp only)
  k_with "storeName" => (k_here; dsimp only)
  k_with "m mem" => (assumption)
  k_with "m all" => (first | assumption | (tbn_letter; refine all_of_lt (by tbn_find) (by omega)))
  trivial
/-- one rule more -/
noncomputable def stepA (way : Str) (s : Int × Bool) (r : Str × Bool) : Int × Bool :=
  if mval r.1 way = 0 then s else if mval r.1 way > s.1 then (mval r.1 way, r.2) else if mval r.1 way = s.1 ∧ s.2 = false then (s.1, r.2) else s
noncomputable def allowP (rules : List (Str × Bool)) (way : Str) : Bool := (rules.foldl (stepA way) (-1, true)).2
theorem stepA_1 {way rp : Str} {b : Int} {al rb : Bool} (h0 : mval rp way ≠ 0) (h1 : b < mval rp way) : stepA way (b, al) (rp, rb) = (mval rp way, rb) := by
  unfold stepA; rw [if_neg h0, if_pos h1]
theorem stepA_2 {way rp : Str} {b : Int} {al rb : Bool} (h0 : mval rp way ≠ 0) (h1 : ¬ b < mval rp way) (h3 : al = true) : stepA way (b, al) (rp, rb) = (b, al) := by
  unfold stepA; rw [if_neg h0, if_neg h1, if_neg (by simp [h3])]
theorem stepA_3 {way rp : Str} {b : Int} {al rb : Bool} (h0 : mval rp way ≠ 0) (h1 : ¬ b < mval rp way) (h2 : mval rp way = b) (h3 : al = false) : stepA way (b, al) (rp, rb) = (b, rb) := by
  unfold stepA; rw [if_neg h0, if_neg h1, if_pos ⟨h2, h3⟩]
theorem stepA_4 {way rp : Str} {b : Int} {al rb : Bool} (h0 : mval rp way ≠ 0) (h1 : ¬ b < mval rp way) (h2 : mval rp way ≠ b) : stepA way (b, al) (rp, rb) = (b, al) := by
  unfold stepA; rw [if_neg h0, if_neg h1, if_neg fun h => h2 h.1]
theorem stepA_5 {way rp : Str} {b : Int} {al rb : Bool} (h0 : mval rp way = 0) : stepA way (b, al) (rp, rb) = (b, al) := by
  unfold stepA; rw [if_pos h0]
/-- the values are the rules, by the ledger -/
noncomputable def Rls (w : World) (mean : ExcName → Option Value) (mg mb : Str → Option Value) (loose : List Str) (R : List (Addr × Obj)) : List Value → List (Str × Bool) → Prop :=
  All2 (RuleAt w mean mg mb loose R)
theorem Rls.get {w : World} {mean : ExcName → Option Value} {mg mb : Str → Option Value} {loose : List Str} {R : List (Addr × Obj)} {vs : List Value} {rs : List (Str × Bool)} (h : Rls w mean mg mb loose R vs rs) {i : Nat} {v : Value} (e : vs[i]? = some v) : ∃ r, rs[i]? = some r ∧ RuleAt w mean mg mb loose R v r := All2.get h e
theorem Rls.length {w : World} {mean : ExcName → Option Value} {mg mb : Str → Option Value} {loose : List Str} {R : List (Addr × Obj)} {vs : List Value} {rs : List (Str × Bool)} (h : Rls w mean mg mb loose R vs rs) : vs.length = rs.length := All2.length h
theorem lam_use {w : World} {mean : ExcName → Option Value} {mg mb : Str → Option Value} {loose : List Str} {E0 R : List (Addr × Obj)} {lam : Addr} {p : Str} (hL : LamOk w mean mg mb loose E0 lam p) (hE : ∀ q ∈ E0, q ∈ R)
  {dp un : Nat} {gd : Option (List Code)} {cn : Str} {nm : List (Str × NameKind)} {ig ic : Bool} {mr : List (Str × Const)} {a : Addr} {ccd : Value} {cl : List (Str × Addr)} {outer : List Env} {A₀ : Around} {base h₀ : Heap} {L : Addr} {m : Str → Option Value} {s : Shared} {Q E : Value → Shared → Prop} {news : List (Addr × Obj)} {way : Str} {t : Tok}
    (B : Below A₀ base outer h₀) (F : Fr h₀ L s.heap m) (X : (heapK w.params).In h₀) (N : News h₀ L s.heap news) (T : Top topProg loose mean mg mb h₀) (C : CodeHd base 149 145) (hdp : dp + 3 < recursionLimit) (hun : un + 200 < cLine) (hs : ∀ q ∈ R, q ∈ news) (hw : way.length ≤ 100)
    (h : ∀ t' h' tk', Fr h₀ L h' m → News h₀ L h' news → Q (.int (mval p way) t') { s with heap := h', toks := tk' }) :
    wpAny (model PySem.Challenge.rw_oy0154_01.prog w) (ktrTop dp un gd cn ⟨.function, nm, ig, ic, mr⟩ L a ccd cl outer) (call (.ref lam) [.str way t]) Q E s :=
  hL _ _ _ _ _ _ _ _ _ _ _ _ _ _ _ _ _ _ _ _ _ _ _ B F X N T C hdp hun (fun q hq => hs q (hE q hq)) hw h
noncomputable abbrev instO (C d : Addr) : Obj := { cls := .ref C, dict := some d }
theorem kw_Allow : True := by
  k_with "getMethod ref" => (k_here; k_dflt (refine fn_method (by exact News.get (by k_asm) (by k_mem)) (by exact rfl) (by intro c e; cases e) (by exact rfl) (by exact News.get (by k_asm) (by k_mem)) (by first | exact look_ap | exact look_al) (by k_get) (by k_handed) ?_; k_whole))
  k_with "getAttr ref" => (k_here; k_dflt (refine fn_get (by exact News.get (by k_asm) (by k_mem)) (by exact rfl) (by intro c e; cases e) (by exact rfl) (by exact News.get (by k_asm) (by k_mem)) (by first | exact look_ap | exact look_al) (by k_get) (by k_handed) ?_; k_whole))
  k_with "call ref" => (k_here; k_dflt (refine lam_use (by assumption) (by assumption) (by k_asm) (by k_asm) (by k_asm) (by k_asm) (by k_asm) (by first | assumption | exact CodeHd.keeps (by assumption) (Below.stays (by assumption))) (by ktr_room) (by ktr_units) (by (intro q hq; repeat (first | exact hq | refine List.Mem.tail _ ?_))) (by assumption) ?_; k_whole; intro t' h' tk' F' N'; (try dsimp only); (try k_sweep)))
  trivial
section
variable {w : World} {dp un : Nat} {gd : Option (List Code)} {cn : Str} {nm : List (Str × NameKind)} {ig ic : Bool} {mr : List (Str × Const)} {a : Addr} {ccd : Value} {cl : List (Str × Addr)} {outer : List Env} {A₀ : Around} {base h₀ : Heap} {L : Addr} {m : Str → Option Value} {s : Shared} {Q E : Value → Shared → Prop}
   {mean : ExcName → Option Value} {mg mb : Str → Option Value} {loose : List Str}
set_option maxHeartbeats 4000000 in
theorem allow0 {e de ag rl : Addr} {t1 t2 t3 t4 tw : Tok} {dv rq : Value} {vs : Array Value} {k : Nat} {rules : List (Str × Bool)} {way : Str} {rest : List (Addr × Obj)}
   (B : Below A₀ base outer h₀) (F : Fr h₀ L s.heap m) (X : (heapK w.params).In h₀)
   (N : News h₀ L s.heap ((e, instObj 52 de) :: (de, dictOf [⟨PyData.keyHash w.params (Str.ofString "useragents"), .str (Str.ofString "useragents") t1, .ref ag⟩, ⟨PyData.keyHash w.params (Str.ofString "rulelines"), .str (Str.ofString "rulelines") t2, .ref rl⟩, ⟨PyData.keyHash w.params (Str.ofString "delay"), .str (Str.ofString "delay") t3, dv⟩, ⟨PyData.keyHash w.params (Str.ofString "req_rate"), .str (Str.ofString "req_rate") t4, rq⟩] 4) :: (rl, listOf vs k) :: rest))
   (hr : Rls w mean mg mb loose rest vs.toList rules) (hw : way.length ≤ 100)
   (T : Top topProg loose mean mg mb h₀) (C : CodeHd base 149 145) (hdp : dp + 6 < recursionLimit) (hun : un + 300 < cLine)
   (hret : ∀ h' tk', Fr h₀ L h' m → News h₀ L h' rest → Q (.bool (allowP rules way)) { s with heap := h', toks := tk' }) :
   wpAny (model PySem.Challenge.rw_oy0154_01.prog w) (ktrTop dp un gd cn ⟨.function, nm, ig, ic, mr⟩ L a ccd cl outer) (call (.ref 49) [.ref e, .str way tw]) Q E s := by
  revert T N X
  k_fill
  intro X N T
  refine wpAny_call ?_
  k_dflt k_enter
  k_steps
  (rename News _ _ _ _ => lN')
  (rename Fr _ _ _ _ => lF')
  with_unfolding_all refine' iter_st (σ := Int × Bool × Tok) (fun _ => _) (fun c => [(Str.ofString "best_match", Value.int c.1 c.2.2), (Str.ofString "allowance", Value.bool c.2.1)]) [Str.ofString "line", Str.ofString "m"] (fun i c => (c.1, c.2.1) = (rules.take i).foldl (stepA way) (-1, true)) (-1, true, _) ?hh lF' lN' ?hl ?hk ?hx ?hxp ?hp ?tn ?dn
  case hh => rfl
  case hl => intro c; k_mem
  case hx => decide
  case hxp => intro c p hp; simp only [List.mem_cons, List.not_mem_nil, or_false] at hp; rcases hp with rfl | rfl <;> (dsimp only; decide)
  case hp => rfl
  case hk => kst_all
  case tn =>
    intro i v c u h9 tk9 I oI hv hP hoff F9 N9
    clear lN' lF'
    obtain ⟨r, hri, f, d, lam, fd, sl, lfd, tt1, tt2, E0, rfl, hf, hdd, hlam, hE, hL, _⟩ := hr.get (i := i) (v := v) (by simpa using hv)
    obtain ⟨b, al, tb⟩ := c
    obtain ⟨rp, rb⟩ := r
    dsimp only at *
    have hfold : (rules.take (i + 1)).foldl (stepA way) (-1, true) = stepA way (b, al) (rp, rb) := by
      rw [List.take_add_one, hri, hP]
      simp
    k_steps
    all_goals ((rename News _ _ _ _ => nE); (rename Fr _ _ _ _ => fE); refine st_end (_, _, _) fE nE (by (intro p hp; repeat (first | exact hp | refine List.Mem.tail _ ?_))) hoff (by kst_all) (by (intro z h2 h3; (simp only [List.forall_mem_cons, List.not_mem_nil, false_implies, implies_true, and_true, ne_eq] at h2); (simp only [List.contains_cons, List.contains_nil, Bool.or_false, Bool.or_eq_false_iff, beq_eq_false_iff_ne, ne_eq] at h3); simp [kstB, h2, h3])) ?_)
    all_goals (dsimp only; rw [hfold])
    all_goals (first | exact (stepA_1 (by assumption) (by assumption)).symm | exact (stepA_2 (by assumption) (by assumption) (by assumption)).symm | exact (stepA_3 (by assumption) (by assumption) (by assumption) (by assumption)).symm | exact (stepA_4 (by assumption) (by assumption) (by assumption)).symm | exact (stepA_5 (by assumption)).symm)
  case dn =>
    intro c u h9 tk9 hP F9 N9
    clear lN' lF'
    obtain ⟨b, al, tb⟩ := c
    dsimp only at *
    k_steps
    (rename News h₀ _ _ _ => nE)
    (rename Fr h₀ _ _ _ => fE)
    have hsz : rules.take vs.size = rules := by
      rw [List.take_of_length_le]
      have := hr.length
      simp at this
      omega
    rw [hsz] at hP
    have hal : al = allowP rules way := by unfold allowP; rw [← hP]
    rw [hal]
    exact hret _ _ fE (cb_drop nE (by intro p hp; repeat (first | exact hp | refine List.Mem.tail _ ?_)))
/-- the record: an Entry, its delay, its rules -/
noncomputable def EntryAt (w : World) (mean : ExcName → Option Value) (mg mb : Str → Option Value) (loose : List Str) (R : List (Addr × Obj)) (e : Addr) (dv : Value) (rules : List (Str × Bool)) : Prop :=
  ∃ de ag rl t1 t2 t3 t4 rq vs k, (e, instObj 52 de) ∈ R ∧ (de, dictOf [⟨PyData.keyHash w.params (Str.ofString "useragents"), .str (Str.ofString "useragents") t1, .ref ag⟩, ⟨PyData.keyHash w.params (Str.ofString "rulelines"), .str (Str.ofString "rulelines") t2, .ref rl⟩, ⟨PyData.keyHash w.params (Str.ofString "delay"), .str (Str.ofString "delay") t3, dv⟩, ⟨PyData.keyHash w.params (Str.ofString "req_rate"), .str (Str.ofString "req_rate") t4, rq⟩] 4) ∈ R ∧
    (rl, listOf vs k) ∈ R ∧ Rls w mean mg mb loose R vs.toList rules
theorem Rls.gen {w : World} {mean : ExcName → Option Value} {mg mb : Str → Option Value} {loose : List Str} {R R' : List (Addr × Obj)} (hs : ∀ q ∈ R, q.2.data ≠ .cell none → q ∈ R') {vs : List Value} {rs : List (Str × Bool)} (h : Rls w mean mg mb loose R vs rs) : Rls w mean mg mb loose R' vs rs := All2.imp (fun _ _ h => h.gen hs) h
theorem Rls.mono {w : World} {mean : ExcName → Option Value} {mg mb : Str → Option Value} {loose : List Str} {R R' : List (Addr × Obj)} (hs : ∀ q ∈ R, q ∈ R') {vs : List Value} {rs : List (Str × Bool)} (h : Rls w mean mg mb loose R vs rs) : Rls w mean mg mb loose R' vs rs := h.gen fun q hq _ => hs q hq
theorem EntryAt.mono {w : World} {mean : ExcName → Option Value} {mg mb : Str → Option Value} {loose : List Str} {R R' : List (Addr × Obj)} {e : Addr} {dv : Value} {rules : List (Str × Bool)} (h : EntryAt w mean mg mb loose R e dv rules) (hs : ∀ q ∈ R, q ∈ R') : EntryAt w mean mg mb loose R' e dv rules := by
  revert h
  exact Exists.imp fun _ => Exists.imp fun _ => Exists.imp fun _ => Exists.imp fun _ => Exists.imp fun _ => Exists.imp fun _ => Exists.imp fun _ => Exists.imp fun _ => Exists.imp fun _ => Exists.imp fun _ => And.imp (hs _) <| And.imp (hs _) <| And.imp (hs _) fun h => h.mono hs
theorem allow_spec {e : Addr} {tw : Tok} {dv : Value} {rules : List (Str × Bool)} {way : Str} {R news : List (Addr × Obj)}
   (B : Below A₀ base outer h₀) (F : Fr h₀ L s.heap m) (X : (heapK w.params).In h₀) (N : News h₀ L s.heap news) (T : Top topProg loose mean mg mb h₀) (C : CodeHd base 149 145) (hdp : dp + 6 < recursionLimit) (hun : un + 300 < cLine)
   (hE : EntryAt w mean mg mb loose R e dv rules) (hR : ∀ q ∈ R, q ∈ news) (hw : way.length ≤ 100)
   (hret : ∀ h' tk', Fr h₀ L h' m → News h₀ L h' news → Q (.bool (allowP rules way)) { s with heap := h', toks := tk' }) :
   wpAny (model PySem.Challenge.rw_oy0154_01.prog w) (ktrTop dp un gd cn ⟨.function, nm, ig, ic, mr⟩ L a ccd cl outer) (call (.ref 49) [.ref e, .str way tw]) Q E s := by
  obtain ⟨de, ag, rl, t1, t2, t3, t4, rq, vs, k, h1, h2, h3, h4⟩ := hE
  refine allow0 (rest := news) (de := de) (ag := ag) (rl := rl) (t1 := t1) (t2 := t2) (t3 := t3) (t4 := t4) (dv := dv) (rq := rq) (k := k) B F X (fun q hq => ?_) (h4.mono hR) hw T C hdp hun hret
  rcases List.mem_cons.mp hq with rfl | hq
  · exact N _ (hR _ h1)
  rcases List.mem_cons.mp hq with rfl | hq
  · exact N _ (hR _ h2)
  rcases List.mem_cons.mp hq with rfl | hq
  · exact N _ (hR _ h3)
  · exact N _ hq
end
end Mine
end
section
open PySem PySem.W PyProof.Rows PySem.Calls PySem.Spec
namespace Mine
theorem kt_Fm : True := by
  k_with_none
  k_with "eval Constant str" => (k_here; with_reducible refine const_str ?_)
  k_with "eval Constant int" => (k_here; with_reducible refine const_int ?_)
  k_with "spliced" => (k_here; dsimp only)
  k_with "storeName" => (k_here; dsimp only)
  k_with "m ne" => (first | assumption | exact Ne.symm (by assumption) | (refine neN ?_; (try dsimp only); (repeat (rename @Ne Nat _ _ => hz9; clear hz9)); (repeat (rename @Ne Nat _ _ ∧ _ => hz9; clear hz9)); (repeat (rename (@Ne Nat _ _ ∧ _) ∧ _ => hz9; clear hz9)); omega) | ((repeat (rename @Ne Nat _ _ ∧ _ => hz9; first | exact hz9.1 | exact hz9.1.symm | exact hz9.2.1 | exact hz9.2.1.symm | exact hz9.2.2.1 | exact hz9.2.2.1.symm | exact hz9.2.2.2.1 | exact hz9.2.2.2.1.symm | exact hz9.2.2.2.2.1 | exact hz9.2.2.2.2.1.symm | exact hz9.2.2.2.2.2.1 | exact hz9.2.2.2.2.2.1.symm | exact hz9.2.2.2.2.2.2.1 | exact hz9.2.2.2.2.2.2.1.symm | exact hz9.2.2.2.2.2.2.2.1 | exact hz9.2.2.2.2.2.2.2.1.symm | exact hz9.2.2.2.2.2.2.2.2.1 | exact hz9.2.2.2.2.2.2.2.2.1.symm | exact hz9.2.2.2.2.2.2.2.2.2.1 | exact hz9.2.2.2.2.2.2.2.2.2.1.symm | exact hz9.2.2.2.2.2.2.2.2.2.2.1 | exact hz9.2.2.2.2.2.2.2.2.2.2.1.symm | exact hz9.2.2.2.2.2.2.2.2.2.2.2.1 | exact hz9.2.2.2.2.2.2.2.2.2.2.2.1.symm | exact hz9.2.2.2.2.2.2.2.2.2.2.2.2.1 | exact hz9.2.2.2.2.2.2.2.2.2.2.2.2.1.symm | exact hz9.2.2.2.2.2.2.2.2.2.2.2.2.2.1 | exact hz9.2.2.2.2.2.2.2.2.2.2.2.2.2.1.symm | exact hz9.2.2.2.2.2.2.2.2.2.2.2.2.2.2.1 | exact hz9.2.2.2.2.2.2.2.2.2.2.2.2.2.2.1.symm | clear hz9)); done) | ((repeat (rename (@Ne Nat _ _ ∧ _) ∧ _ => hz9; first | exact hz9.1.1 | exact hz9.1.1.symm | exact hz9.1.2.1 | exact hz9.1.2.1.symm | exact hz9.1.2.2 | exact hz9.1.2.2.symm | exact hz9.2.1.1 | exact hz9.2.1.1.symm | exact hz9.2.1.2.1 | exact hz9.2.1.2.1.symm | exact hz9.2.1.2.2 | exact hz9.2.1.2.2.symm | exact hz9.2.2.1.1 | exact hz9.2.2.1.1.symm | exact hz9.2.2.1.2.1 | exact hz9.2.2.1.2.1.symm | exact hz9.2.2.1.2.2 | exact hz9.2.2.1.2.2.symm | exact hz9.2.2.2.1.1 | exact hz9.2.2.2.1.1.symm | exact hz9.2.2.2.1.2.1 | exact hz9.2.2.2.1.2.1.symm | exact hz9.2.2.2.1.2.2 | exact hz9.2.2.2.1.2.2.symm | exact hz9.2.2.2.2.1.1 | exact hz9.2.2.2.2.1.1.symm | exact hz9.2.2.2.2.1.2.1 | exact hz9.2.2.2.2.1.2.1.symm | exact hz9.2.2.2.2.1.2.2 | exact hz9.2.2.2.2.1.2.2.symm | exact hz9.2.2.2.2.2.1.1 | exact hz9.2.2.2.2.2.1.1.symm | exact hz9.2.2.2.2.2.1.2.1 | exact hz9.2.2.2.2.2.1.2.1.symm | exact hz9.2.2.2.2.2.1.2.2 | exact hz9.2.2.2.2.2.1.2.2.symm | exact hz9.2.2.2.2.2.2.1.1 | exact hz9.2.2.2.2.2.2.1.1.symm | exact hz9.2.2.2.2.2.2.1.2.1 | exact hz9.2.2.2.2.2.2.1.2.1.symm | exact hz9.2.2.2.2.2.2.1.2.2 | exact hz9.2.2.2.2.2.2.1.2.2.symm | exact hz9.2.2.2.2.2.2.2.1.1 | exact hz9.2.2.2.2.2.2.2.1.1.symm | exact hz9.2.2.2.2.2.2.2.1.2.1 | exact hz9.2.2.2.2.2.2.2.1.2.1.symm | exact hz9.2.2.2.2.2.2.2.1.2.2 | exact hz9.2.2.2.2.2.2.2.1.2.2.symm | exact hz9.2.2.2.2.2.2.2.2.1.1 | exact hz9.2.2.2.2.2.2.2.2.1.1.symm | exact hz9.2.2.2.2.2.2.2.2.1.2.1 | exact hz9.2.2.2.2.2.2.2.2.1.2.1.symm | exact hz9.2.2.2.2.2.2.2.2.1.2.2 | exact hz9.2.2.2.2.2.2.2.2.1.2.2.symm | exact hz9.2.2.2.2.2.2.2.2.2.1.1 | exact hz9.2.2.2.2.2.2.2.2.2.1.1.symm | exact hz9.2.2.2.2.2.2.2.2.2.1.2.1 | exact hz9.2.2.2.2.2.2.2.2.2.1.2.1.symm | exact hz9.2.2.2.2.2.2.2.2.2.1.2.2 | exact hz9.2.2.2.2.2.2.2.2.2.1.2.2.symm | exact hz9.2.2.2.2.2.2.2.2.2.2.1.1 | exact hz9.2.2.2.2.2.2.2.2.2.2.1.1.symm | exact hz9.2.2.2.2.2.2.2.2.2.2.1.2.1 | exact hz9.2.2.2.2.2.2.2.2.2.2.1.2.1.symm | exact hz9.2.2.2.2.2.2.2.2.2.2.1.2.2 | exact hz9.2.2.2.2.2.2.2.2.2.2.1.2.2.symm | exact hz9.2.2.2.2.2.2.2.2.2.2.2.1.1 | exact hz9.2.2.2.2.2.2.2.2.2.2.2.1.1.symm | exact hz9.2.2.2.2.2.2.2.2.2.2.2.1.2.1 | exact hz9.2.2.2.2.2.2.2.2.2.2.2.1.2.1.symm | exact hz9.2.2.2.2.2.2.2.2.2.2.2.1.2.2 | exact hz9.2.2.2.2.2.2.2.2.2.2.2.1.2.2.symm | exact hz9.2.2.2.2.2.2.2.2.2.2.2.2.1.1 | exact hz9.2.2.2.2.2.2.2.2.2.2.2.2.1.1.symm | exact hz9.2.2.2.2.2.2.2.2.2.2.2.2.1.2.1 | exact hz9.2.2.2.2.2.2.2.2.2.2.2.2.1.2.1.symm | exact hz9.2.2.2.2.2.2.2.2.2.2.2.2.1.2.2 | exact hz9.2.2.2.2.2.2.2.2.2.2.2.2.1.2.2.symm | exact hz9.2.2.2.2.2.2.2.2.2.2.2.2.2.1.1 | exact hz9.2.2.2.2.2.2.2.2.2.2.2.2.2.1.1.symm | exact hz9.2.2.2.2.2.2.2.2.2.2.2.2.2.1.2.1 | exact hz9.2.2.2.2.2.2.2.2.2.2.2.2.2.1.2.1.symm | exact hz9.2.2.2.2.2.2.2.2.2.2.2.2.2.1.2.2 | exact hz9.2.2.2.2.2.2.2.2.2.2.2.2.2.1.2.2.symm | exact hz9.2.2.2.2.2.2.2.2.2.2.2.2.2.2.1.1 | exact hz9.2.2.2.2.2.2.2.2.2.2.2.2.2.2.1.1.symm | exact hz9.2.2.2.2.2.2.2.2.2.2.2.2.2.2.1.2.1 | exact hz9.2.2.2.2.2.2.2.2.2.2.2.2.2.2.1.2.1.symm | exact hz9.2.2.2.2.2.2.2.2.2.2.2.2.2.2.1.2.2 | exact hz9.2.2.2.2.2.2.2.2.2.2.2.2.2.2.1.2.2.symm | exact hz9.2.2.2.2.2.2.2.2.2.2.2.2.2.2.2.1.1 | exact hz9.2.2.2.2.2.2.2.2.2.2.2.2.2.2.2.1.1.symm | exact hz9.2.2.2.2.2.2.2.2.2.2.2.2.2.2.2.1.2.1 | exact hz9.2.2.2.2.2.2.2.2.2.2.2.2.2.2.2.1.2.1.symm | exact hz9.2.2.2.2.2.2.2.2.2.2.2.2.2.2.2.1.2.2 | exact hz9.2.2.2.2.2.2.2.2.2.2.2.2.2.2.2.1.2.2.symm | exact hz9.2.2.2.2.2.2.2.2.2.2.2.2.2.2.2.2.1.1 | exact hz9.2.2.2.2.2.2.2.2.2.2.2.2.2.2.2.2.1.1.symm | exact hz9.2.2.2.2.2.2.2.2.2.2.2.2.2.2.2.2.1.2.1 | exact hz9.2.2.2.2.2.2.2.2.2.2.2.2.2.2.2.2.1.2.1.symm | exact hz9.2.2.2.2.2.2.2.2.2.2.2.2.2.2.2.2.1.2.2 | exact hz9.2.2.2.2.2.2.2.2.2.2.2.2.2.2.2.2.1.2.2.symm | clear hz9)); done) | (refine neN ?_; (try dsimp only); omega))
  k_with "m all" => (first | assumption | exact Off.at (by assumption) (by (repeat (first | exact List.Mem.head _ | refine List.Mem.tail _ ?_))) | (tbn_letter; refine all_of_lt (by tbn_find) (by omega)))
  k_with "m mem" => (assumption)
  k_with "m fits" => ((rw [PySem.sizeLine_eq]; omega))
  trivial
noncomputable def tabV : List Value := [.ref 99, .ref 101, .ref 103, .ref 107, .ref 109, .ref 111, .ref 115, .ref 117, .ref 119, .ref 123]
noncomputable def PairOk (g : Heap) (j : Nat) (q : Value) : Prop := ∃ (p : Addr) (b : Int) (t1 : Tok) (c : Str) (t2 : Tok), q = .ref p ∧ IsTup g p #[.int b t1, .str c t2] ∧ c.length = 1 ∧ (j = 7 → b = 4 ∧ c = Str.ofString "r")
noncomputable def TableOk (g : Heap) (j : Nat) (v : Value) : Prop := ∃ (tb : Addr) (its : List Value), v = .ref tb ∧ g.IsTuple tb its.toArray ∧ (∀ q ∈ its, PairOk g j q) ∧ (j = 7 → its.length = 1)
theorem pair_ok {P : Params} {g : Heap} (X : (heapK P).In g) {j : Nat} {p : Addr} {b : Int} {t1 : Tok} {c : Str} {t2 : Tok} (h : (heapK P).lookup p = some { cls := .type "tuple", data := .seq #[.int b t1, .str c t2] }) (hc : c.length = 1) (h7 : j = 7 → b = 4 ∧ c = Str.ofString "r") : PairOk g j (.ref p) :=
  ⟨p, b, t1, c, t2, rfl, ⟨_, X _ _ h, rfl, _, rfl⟩, hc, h7⟩
theorem tab_ok {P : Params} {g : Heap} (X : (heapK P).In g) : g.IsTuple 124 tabV.toArray ∧ ∀ (j : Nat) (v : Value), tabV[j]? = some v → TableOk g j v := by
  refine ⟨⟨_, X 124 _ rfl, rfl, _, rfl⟩, ?_⟩
  intro j v hv
  match j, hv with
  | 0, hv =>
    cases hv
    refine ⟨99, [.ref 92, .ref 93, .ref 94, .ref 95, .ref 96, .ref 97, .ref 98], rfl, ⟨_, X 99 _ rfl, rfl, _, rfl⟩, ?_, fun h => by cases h⟩
    simp only [List.forall_mem_cons]
    exact ⟨pair_ok X rfl rfl (fun h => by cases h), pair_ok X rfl rfl (fun h => by cases h), pair_ok X rfl rfl (fun h => by cases h), pair_ok X rfl rfl (fun h => by cases h), pair_ok X rfl rfl (fun h => by cases h), pair_ok X rfl rfl (fun h => by cases h), pair_ok X rfl rfl (fun h => by cases h), fun _ h => nomatch h⟩
  | 1, hv =>
    cases hv
    refine ⟨101, [.ref 100], rfl, ⟨_, X 101 _ rfl, rfl, _, rfl⟩, ?_, fun h => by cases h⟩
    simp only [List.forall_mem_cons]
    exact ⟨pair_ok X rfl rfl (fun h => by cases h), fun _ h => nomatch h⟩
  | 2, hv =>
    cases hv
    refine ⟨103, [.ref 102], rfl, ⟨_, X 103 _ rfl, rfl, _, rfl⟩, ?_, fun h => by cases h⟩
    simp only [List.forall_mem_cons]
    exact ⟨pair_ok X rfl rfl (fun h => by cases h), fun _ h => nomatch h⟩
  | 3, hv =>
    cases hv
    refine ⟨107, [.ref 104, .ref 105, .ref 106], rfl, ⟨_, X 107 _ rfl, rfl, _, rfl⟩, ?_, fun h => by cases h⟩
    simp only [List.forall_mem_cons]
    exact ⟨pair_ok X rfl rfl (fun h => by cases h), pair_ok X rfl rfl (fun h => by cases h), pair_ok X rfl rfl (fun h => by cases h), fun _ h => nomatch h⟩
  | 4, hv =>
    cases hv
    refine ⟨109, [.ref 108], rfl, ⟨_, X 109 _ rfl, rfl, _, rfl⟩, ?_, fun h => by cases h⟩
    simp only [List.forall_mem_cons]
    exact ⟨pair_ok X rfl rfl (fun h => by cases h), fun _ h => nomatch h⟩
  | 5, hv =>
    cases hv
    refine ⟨111, [.ref 110], rfl, ⟨_, X 111 _ rfl, rfl, _, rfl⟩, ?_, fun h => by cases h⟩
    simp only [List.forall_mem_cons]
    exact ⟨pair_ok X rfl rfl (fun h => by cases h), fun _ h => nomatch h⟩
  | 6, hv =>
    cases hv
    refine ⟨115, [.ref 112, .ref 113, .ref 114], rfl, ⟨_, X 115 _ rfl, rfl, _, rfl⟩, ?_, fun h => by cases h⟩
    simp only [List.forall_mem_cons]
    exact ⟨pair_ok X rfl rfl (fun h => by cases h), pair_ok X rfl rfl (fun h => by cases h), pair_ok X rfl rfl (fun h => by cases h), fun _ h => nomatch h⟩
  | 7, hv =>
    cases hv
    refine ⟨117, [.ref 116], rfl, ⟨_, X 117 _ rfl, rfl, _, rfl⟩, ?_, fun _ => rfl⟩
    simp only [List.forall_mem_cons]
    exact ⟨pair_ok X rfl rfl (fun _ => ⟨rfl, rfl⟩), fun _ h => nomatch h⟩
  | 8, hv =>
    cases hv
    refine ⟨119, [.ref 118], rfl, ⟨_, X 119 _ rfl, rfl, _, rfl⟩, ?_, fun h => by cases h⟩
    simp only [List.forall_mem_cons]
    exact ⟨pair_ok X rfl rfl (fun h => by cases h), fun _ h => nomatch h⟩
  | 9, hv =>
    cases hv
    refine ⟨123, [.ref 120, .ref 121, .ref 122], rfl, ⟨_, X 123 _ rfl, rfl, _, rfl⟩, ?_, fun h => by cases h⟩
    simp only [List.forall_mem_cons]
    exact ⟨pair_ok X rfl rfl (fun h => by cases h), pair_ok X rfl rfl (fun h => by cases h), pair_ok X rfl rfl (fun h => by cases h), fun _ h => nomatch h⟩
  | n + 10, hv => simp [tabV] at hv
/-- the signs laid so far -/
noncomputable def FmP (b : Bool) (j : Nat) (c : Array Value × Nat × List Str) : Prop := StrsAre c.1.toList c.2.2 ∧ c.2.2.length = j ∧ (∀ x ∈ c.2.2, x.length = 1) ∧ (7 < j → c.2.2[7]? = some (if b = true then Str.ofString "r" else Str.ofString "-"))
theorem bit4 (x : Int) : (Builtin.bitAnd x 4 = 4) ↔ x / 4 % 2 = 1 := by
  have h := kbt_bit x 2
  have e : (2 : Int) ^ 2 = 4 := rfl
  rw [e] at h
  rw [h]
  omega
theorem ones_sum : ∀ {ss : List Str}, (∀ x ∈ ss, x.length = 1) → (ss.map (·.length)).sum = ss.length
  | [], _ => rfl
  | x :: r, h => by
    rw [List.map_cons, List.sum_cons, h x (by simp), ones_sum fun y hy => h y (by simp [hy]), List.length_cons]
    omega
noncomputable def glueF (acc : Array Nat) (p : Str) : Array Nat := acc ++ (Str.ofString "").cps ++ p.cps
theorem glueF_size {acc : Array Nat} {p : Str} : (glueF acc p).size = acc.size + p.length := by
  unfold glueF
  rw [Array.size_append, Array.size_append]
  rfl
theorem glueF_pre {k : Nat} : ∀ (r : List Str) (acc : Array Nat), k < acc.size → (r.foldl glueF acc)[k]? = acc[k]?
  | [], _, _ => rfl
  | p :: r, acc, h => by
    rw [List.foldl_cons, glueF_pre r _ (by rw [glueF_size]; omega)]
    unfold glueF
    rw [Array.getElem?_append_left (by rw [Array.size_append]; omega), Array.getElem?_append_left h]
theorem glueF_at {x : Str} : ∀ (r : List Str) (acc : Array Nat) (i : Nat), (∀ y ∈ r, y.length = 1) → r[i]? = some x → (r.foldl glueF acc)[acc.size + i]? = x.cps[0]?
  | [], _, _, _, h => by simp at h
  | p :: r, acc, 0, h1, h => by
    have e : p = x := by simpa using h
    subst e
    have hp : p.cps.size = 1 := h1 p (by simp)
    rw [List.foldl_cons, glueF_pre r _ (by rw [glueF_size, h1 p (by simp)]; omega)]
    unfold glueF
    have e0 : (acc ++ (Str.ofString "").cps).size = acc.size := by rw [Array.size_append]; rfl
    rw [Array.getElem?_append_right (by rw [e0]; omega), e0]
    congr 1
    omega
  | p :: r, acc, i + 1, h1, h => by
    rw [List.foldl_cons]
    have e := glueF_at r (glueF acc p) i (fun y hy => h1 y (by simp [hy])) (by simpa using h)
    rw [glueF_size, h1 p (by simp)] at e
    rw [← e]
    congr 1
    omega
theorem join_cps {ss : List Str} : (Txt.join (Str.ofString "") ss).cps = (ss.drop 1).foldl glueF (ss.headD Str.empty).cps := rfl
theorem join_size {ss : List Str} (h : ∀ x ∈ ss, x.length = 1) (hl : ss.length = 10) : (Txt.join (Str.ofString "") ss).cps.size = 10 := by
  have e := size_glued (Str.ofString "") ss
  have e2 : (Str.ofString "").length = 0 := rfl
  rw [ones_sum h, e2, hl] at e
  exact e
theorem join_at {ss : List Str} {b : Bool} (h : ∀ x ∈ ss, x.length = 1) (hl : 7 < ss.length) (h7 : ss[7]? = some (if b = true then Str.ofString "r" else Str.ofString "-")) : (Txt.join (Str.ofString "") ss).cps[7]? = some (if b = true then 114 else 45) := by
  rw [join_cps]
  match ss, hl with
  | x :: r, hl =>
    have hx : x.cps.size = 1 := h x (by simp)
    have e := glueF_at r x.cps 6 (fun y hy => h y (by simp [hy])) (by simpa using h7)
    rw [hx] at e
    show (r.foldl glueF x.cps)[1 + 6]? = _
    rw [e]
    cases b <;> rfl
noncomputable abbrev fmS : List Str := [Str.ofString "index", Str.ofString "table", Str.ofString "bit", Str.ofString "char"]
theorem FmP.add {b : Bool} {j : Nat} {lv : Array Value} {k n : Nat} {ss : List Str} {x : Str} {t : Tok} (h : FmP b j (lv, k, ss)) (hx : x.length = 1) (h7 : j = 7 → x = if b = true then Str.ofString "r" else Str.ofString "-") : FmP b (j + 1) (lv.push (.str x t), n, ss ++ [x]) := by
  obtain ⟨h1, h2, h3, h4⟩ := h
  dsimp only at h1 h2 h3 h4
  refine ⟨?_, ?_, ?_, fun hj => ?_⟩
  · show StrsAre (lv.push (.str x t)).toList (ss ++ [x])
    rw [Array.toList_push]
    exact h1.append' (.cons _ _ .nil)
  · show (ss ++ [x]).length = j + 1
    rw [List.length_append, h2]; rfl
  · intro y hy
    rcases List.mem_append.mp hy with hy | hy
    · exact h3 y hy
    · rw [List.mem_singleton] at hy; rw [hy]; exact hx
  · show (ss ++ [x])[7]? = _
    by_cases e : j = 7
    · have e2 : ss.length = 7 := h2.trans e
      rw [List.getElem?_append_right (by omega), e2, h7 e]; rfl
    · rw [List.getElem?_append_left (by omega)]
      exact h4 (by omega)
section
variable {prog : Program} {w : World} {A : Around} {E : Value → Shared → Prop} {s : Shared} {env : Env} {h₀ : Heap} {body : List Stmt} {Q : Flow → Shared → Prop}
theorem fm_loop {elts : List Expr} {ke : Nat} {pos : Pos} {pl : Addr} {m₀ : Str → Option Value} {rest : List (Addr × Obj)} (b : Bool)
    (hh : A.handled = none) (F : Fr h₀ env.locals s.heap m₀) (N : News h₀ env.locals s.heap ((pl, listOf #[] 0) :: rest)) (hg : h₀.IsTuple 124 tabV.toArray) (hT : ∀ (j : Nat) (v : Value), tabV[j]? = some v → TableOk h₀ j v)
    (turn : ∀ (j : Nat) (T : Addr) (t : Tok) (tb : Addr) (its : List Value) (lv : Array Value) (k : Nat) (ss : List Str) (u : Str → Option Value) h tk (I : Addr) (oE oT : Obj), j < 10 → IsTup h T #[.int (j : Int) t, .ref tb] → h₀.IsTuple tb its.toArray → (∀ q ∈ its, PairOk h₀ j q) → (j = 7 → its.length = 1) → FmP b j (lv, k, ss) →
      (∀ p ∈ (pl, listOf lv k) :: rest, p.1 ≠ I + 1) → (∀ p ∈ (pl, listOf lv k) :: rest, p.1 ≠ I) → Fr h₀ env.locals h (fun z => if fmS.contains z then u z else m₀ z) → News h₀ env.locals h ((I + 1, oE) :: (I, oT) :: (pl, listOf lv k) :: rest) →
      wpAny (model prog w) A (assign (.Tuple elts ke pos) env (.ref T)) (fun _ s₂ => wpAny (model prog w) A (execs body env)
        (ItPost h₀ env.locals s [(I + 1, oE), (I, oT)] (fun (c : Array Value × Nat × List Str) => (pl, listOf c.1 c.2.1) :: rest) (fun _ => []) fmS m₀ (FmP b (j + 1)) Q) E s₂) E { s with heap := h, toks := tk })
    (done : ∀ (lv : Array Value) (k : Nat) (ss : List Str) (u : Str → Option Value) h tk, FmP b 10 (lv, k, ss) → Fr h₀ env.locals h (fun z => if fmS.contains z then u z else m₀ z) → News h₀ env.locals h ((pl, listOf lv k) :: rest) → Q .next { s with heap := h, toks := tk }) :
    wpAny (model prog w) A (call (.type "enumerate") [.ref 124]) (fun xv s₁ => wpAny (model prog w) A (pyIter xv) (fun it s₂ => TurnsAt prog w A h₀ env (.Tuple elts ke pos) body Q E it s₂) E s₁) E s := by
  refine enumT_turns hh F N hg fun I hI => ?_
  refine items_st (keep := []) (fun (c : Array Value × Nat × List Str) => (pl, listOf c.1 c.2.1) :: rest) (fun _ => []) fmS (FmP b) (fun c => trivial) 10 (fun c u h tk hp F N => done c.1 c.2.1 c.2.2 u h tk hp F N) _ 0 rfl (fun j a v c u h tk its hj hv hi hp hoff F N => ?_) (#[], 0, []) m₀ ⟨.nil, rfl, (by intro x hx; simp at hx), (by intro h; omega)⟩ (fun p hp q hq => ?_) (fun _ h => nomatch h) (fun _ _ _ => rfl)
  · simp only [Nat.zero_add] at hp ⊢
    have hjl : j < 10 := by
      rcases Nat.lt_or_ge j 10 with h | h
      · exact h
      · have e : (enumItems 0 tabV)[j]? = none := List.getElem?_eq_none h
        rw [e] at hj; cases hj
    have hv0 : tabV[j]? = some (tabV[j]'hjl) := List.getElem?_eq_getElem hjl
    have he := enumItems_get tabV 0 j hv0
    rw [he] at hj
    cases hj
    obtain ⟨T, t, rfl, hTt⟩ := hv
    obtain ⟨tb, its2, e1, e2, e3, e4⟩ := hT j _ hv0
    rw [e1] at hTt
    obtain ⟨lv, k, ss⟩ := c
    match its, hi, N, hoff with
    | [(I1, oE), (I2, oT)], ⟨⟨h1, _⟩, ⟨h2, _⟩, _⟩, N, hoff =>
      have h1' : I1 = I + 1 := h1
      have h2' : I2 = I := h2
      subst h1'; subst h2'
      exact turn j T t tb its2 lv k ss u h tk I2 oE oT hjl (by simpa using hTt) e2 e3 e4 hp (fun p hp => hoff p hp (I2 + 1, oE) (.head _)) (fun p hp => hoff p hp (I2, oT) (.tail _ (.head _))) F N
    | [], h, _, _ => exact (show False from h).elim
    | [_], ⟨_, h⟩, _, _ => exact (show False from h).elim
    | _ :: _ :: _ :: _, ⟨_, _, h⟩, _, _ => exact (show False from h).elim
  · have hl := hI p hp
    rcases List.mem_cons.mp hq with rfl | hq
    · exact ktu_ne 1 hl
    · rw [List.mem_singleton.mp hq]; exact Nat.ne_of_lt hl
theorem fm_end {L I pl : Addr} {oE oT : Obj} {rest news' : List (Addr × Obj)} {m₀ m' : Str → Option Value} {b : Bool} {j n : Nat} {lv : Array Value} {k : Nat} {ss : List Str} (x : Str) {t : Tok} {h' : Heap} {tk' : Nat} (hP : FmP b j (lv, k, ss)) (F : Fr h₀ L h' m') (N : News h₀ L h' news')
    (hm : ∀ p ∈ (I + 1, oE) :: (I, oT) :: (pl, listOf (lv.push (.str x t)) n) :: rest, p ∈ news') (ho1 : @Ne Nat pl (I + 1)) (ho2 : @Ne Nat pl I) (h1 : ∀ p ∈ rest, p.1 ≠ I + 1) (h2 : ∀ p ∈ rest, p.1 ≠ I) (hz : ∀ z, fmS.contains z = false → m' z = m₀ z) (hx : x.length = 1) (h7 : j = 7 → x = if b = true then Str.ofString "r" else Str.ofString "-") :
    ItPost h₀ L s [(I + 1, oE), (I, oT)] (fun (c : Array Value × Nat × List Str) => (pl, listOf c.1 c.2.1) :: rest) (fun _ => []) fmS m₀ (FmP b (j + 1)) Q .next { s with heap := h', toks := tk' } := by
  refine ⟨(lv.push (.str x t), n, ss ++ [x]), h', tk', m', news', rfl, F, N, hm, ?_, (fun _ h => nomatch h), fun z _ hzz => hz z hzz, hP.add hx h7⟩
  intro p hp q hq
  rcases List.mem_cons.mp hq with rfl | hq
  · rcases List.mem_cons.mp hp with rfl | hp
    · exact ho1
    · exact h1 p hp
  · rw [List.mem_singleton.mp hq]
    rcases List.mem_cons.mp hp with rfl | hp
    · exact ho2
    · exact h2 p hp
end
theorem kw_Fm : True := by
  k_with "exec For Tuple Call cons nil" => (k_here; (rename Fr _ _ _ _ => lF'); (with_unfolding_all refine For_turns lF' ?_; k_whole))
  k_with "call type:enumerate" => (k_here; refine stop_in ?_)
  k_with "call builtin:str.join" => (k_here; refine stop_in ?_)
  k_with "exec For Tuple Name cons cons" => (k_here; (rename Fr _ _ _ _ => lF'); (with_unfolding_all refine For_else lF' ?_; k_whole))
  trivial
section
variable {w : World} {dp un : Nat} {gd : Option (List Code)} {cn : Str} {nm : List (Str × NameKind)} {ig ic : Bool} {mr : List (Str × Const)} {a : Addr} {ccd : Value} {cl : List (Str × Addr)} {outer : List Env} {A₀ : Around} {base h₀ : Heap} {L : Addr} {m : Str → Option Value} {s : Shared} {Q E : Value → Shared → Prop}
   {mean : ExcName → Option Value} {mg mb : Str → Option Value} {loose : List Str}
set_option maxHeartbeats 4000000 in
theorem fm0 {md : Int} {t : Tok} {rest : List (Addr × Obj)}
   (B : Below A₀ base outer h₀) (F : Fr h₀ L s.heap m) (X : (heapK w.params).In h₀)
   (N : News h₀ L s.heap rest)
   (T : Top topProg loose mean mg mb h₀) (hdp : dp + 6 < recursionLimit) (hun : un + 300 < cLine)
   (hret : ∀ x tx h' tk', x.cps.size = 10 → x.cps[7]? = some (if decide (md / 4 % 2 = 1) = true then 114 else 45) → Fr h₀ L h' m → News h₀ L h' rest → Q (.str x tx) { s with heap := h', toks := tk' }) :
   wpAny (model PySem.Challenge.rw_oy0154_01.prog w) (ktrTop dp un gd cn ⟨.function, nm, ig, ic, mr⟩ L a ccd cl outer) (call (.ref 131) [.int md t]) Q E s := by
  revert T N X
  k_fill
  intro X N T
  refine wpAny_call ?_
  k_dflt k_enter
  k_steps
  refine stop_out ?_
  (rename News _ _ _ _ => lN')
  (rename Fr _ _ _ _ => lF')
  (rename Frag.In _ _ => lX')
  with_unfolding_all refine' fm_loop (decide (md / 4 % 2 = 1)) ?hh lF' lN' (tab_ok lX').1 (tab_ok lX').2 ?tn ?dn
  case hh => rfl
  case tn =>
    intro j T t tb its lv k ss u h9 tk9 I oE oT hj hTt hTb hPs hl7 hP ho1 ho2 F9 N9
    clear lN' lF'
    simp only [List.forall_mem_cons] at ho1 ho2
    obtain ⟨ho1, ho1r⟩ := ho1
    obtain ⟨ho2, ho2r⟩ := ho2
    (replace ho1 : @Ne Nat _ _ := ho1); (replace ho2 : @Ne Nat _ _ := ho2)
    have hlv : lv.size ≤ 10 := by
      have e := hP.1.length
      have e2 := hP.2.1
      dsimp only at e e2
      rw [Array.length_toList] at e
      omega
    k_steps
    (rename News _ _ _ _ => lN')
    (rename Fr _ _ _ _ => lF')
    refine ⟨tb, its.toArray, _, _, [Str.ofString "bit", Str.ofString "char"], fun i => j = 7 → 0 < i → ¬ (md / 4 % 2 = 1), rfl, rfl, hTb, lF', lN', fun _ h => absurd h (Nat.lt_irrefl 0), ?tn2, ?dn2⟩
    case tn2 =>
      intro i v u2 h2 tk2 I2 oI2 hv hPi hoff F2 N2
      obtain ⟨p, b, t1, c, t2, rfl, hIs, hc1, hc7⟩ := hPs v (List.mem_of_getElem? (by simpa using hv))
      have hIs2 : IsTup h2 p #[.int b t1, .str c t2] := isTuple_at hIs fun o e => F2.keep _ _ e
      clear lN' lF'
      simp only [List.forall_mem_cons] at hoff
      obtain ⟨hoa, hob, hoc, hod⟩ := hoff
      (replace hoa : @Ne Nat _ _ := hoa); (replace hob : @Ne Nat _ _ := hob); (replace hoc : @Ne Nat _ _ := hoc)
      dsimp only at *
      k_steps
      · refine else_brk ?_
        k_steps
        (rename News _ _ _ _ => nE)
        (rename Fr _ _ _ _ => fE)
        refine' fm_end c hP fE nE ?fq1m ho1 ho2 ho1r ho2r ?fq1z hc1 ?fq1s
        case fq1m =>
          refine List.forall_mem_cons.mpr ⟨by k_mem, List.forall_mem_cons.mpr ⟨by k_mem, List.forall_mem_cons.mpr ⟨by k_mem, fun q hq => ?_⟩⟩⟩
          repeat (first | exact hq | refine List.Mem.tail _ ?_)
        case fq1z =>
          intro z h3
          simp only [fmS, List.contains_cons, List.contains_nil, Bool.or_false, Bool.or_eq_false_iff, beq_eq_false_iff_ne, ne_eq] at h3
          simp [h3]
        case fq1s =>
          intro h7; omega
      · (rename News _ _ _ _ => nE)
        (rename Fr _ _ _ _ => fE)
        refine else_end fE nE ?_ ?_ ?_
        · refine List.forall_mem_cons.mpr ⟨by k_mem, List.forall_mem_cons.mpr ⟨by k_mem, List.forall_mem_cons.mpr ⟨by k_mem, List.forall_mem_cons.mpr ⟨by k_mem, fun q hq => ?_⟩⟩⟩⟩
          repeat (first | exact hq | refine List.Mem.tail _ ?_)
        · intro z h3
          simp only [List.contains_cons, List.contains_nil, Bool.or_false, Bool.or_eq_false_iff, beq_eq_false_iff_ne, ne_eq] at h3
          simp [h3]
        · intro h7 _; omega
      · refine else_brk ?_
        k_steps
        (rename News _ _ _ _ => nE)
        (rename Fr _ _ _ _ => fE)
        refine' fm_end c hP fE nE ?fq2m ho1 ho2 ho1r ho2r ?fq2z hc1 ?fq2s
        case fq2m =>
          refine List.forall_mem_cons.mpr ⟨by k_mem, List.forall_mem_cons.mpr ⟨by k_mem, List.forall_mem_cons.mpr ⟨by k_mem, fun q hq => ?_⟩⟩⟩
          repeat (first | exact hq | refine List.Mem.tail _ ?_)
        case fq2z =>
          intro z h3
          simp only [fmS, List.contains_cons, List.contains_nil, Bool.or_false, Bool.or_eq_false_iff, beq_eq_false_iff_ne, ne_eq] at h3
          simp [h3]
        case fq2s =>
          intro h7
          obtain ⟨hb4, hcr⟩ := hc7 h7
          subst hb4
          rw [hcr, if_pos (by simpa using (bit4 md).mp (by assumption))]
      · (rename News _ _ _ _ => nE)
        (rename Fr _ _ _ _ => fE)
        refine else_end fE nE ?_ ?_ ?_
        · refine List.forall_mem_cons.mpr ⟨by k_mem, List.forall_mem_cons.mpr ⟨by k_mem, List.forall_mem_cons.mpr ⟨by k_mem, List.forall_mem_cons.mpr ⟨by k_mem, fun q hq => ?_⟩⟩⟩⟩
          repeat (first | exact hq | refine List.Mem.tail _ ?_)
        · intro z h3
          simp only [List.contains_cons, List.contains_nil, Bool.or_false, Bool.or_eq_false_iff, beq_eq_false_iff_ne, ne_eq] at h3
          simp [h3]
        · intro h7 _ h1
          obtain ⟨hb4, hcr⟩ := hc7 h7
          subst hb4
          exact absurd ((bit4 md).mpr h1) (by assumption)
    case dn2 =>
      intro u2 h2 tk2 hPe F2 N2
      clear lN' lF'
      k_steps
      · (rename News _ _ _ _ => nE)
        (rename Fr _ _ _ _ => fE)
        refine' fm_end (Str.ofString "?") hP fE nE ?fq3m ho1 ho2 ho1r ho2r ?fq3z rfl ?fq3s
        case fq3m =>
          refine List.forall_mem_cons.mpr ⟨by k_mem, List.forall_mem_cons.mpr ⟨by k_mem, List.forall_mem_cons.mpr ⟨by k_mem, fun q hq => ?_⟩⟩⟩
          repeat (first | exact hq | refine List.Mem.tail _ ?_)
        case fq3z =>
          intro z h3
          simp only [fmS, List.contains_cons, List.contains_nil, Bool.or_false, Bool.or_eq_false_iff, beq_eq_false_iff_ne, ne_eq] at h3
          simp [h3]
        case fq3s =>
          intro h7; omega
      · (rename News _ _ _ _ => nE)
        (rename Fr _ _ _ _ => fE)
        refine' fm_end (Str.ofString "-") hP fE nE ?fq4m ho1 ho2 ho1r ho2r ?fq4z rfl ?fq4s
        case fq4m =>
          refine List.forall_mem_cons.mpr ⟨by k_mem, List.forall_mem_cons.mpr ⟨by k_mem, List.forall_mem_cons.mpr ⟨by k_mem, fun q hq => ?_⟩⟩⟩
          repeat (first | exact hq | refine List.Mem.tail _ ?_)
        case fq4z =>
          intro z h3
          simp only [fmS, List.contains_cons, List.contains_nil, Bool.or_false, Bool.or_eq_false_iff, beq_eq_false_iff_ne, ne_eq] at h3
          simp [h3]
        case fq4s =>
          intro h7
          have hn := hPe h7 (by have := hl7 h7; simp only [List.size_toArray]; omega)
          rw [if_neg (by simpa using hn)]
  case dn =>
    intro lv k ss u h9 tk9 hP F9 N9
    clear lN' lF'
    have hP1 := hP.1
    dsimp only at hP1
    have hlen : ss.length = 10 := hP.2.1
    have hone : ∀ x ∈ ss, x.length = 1 := hP.2.2.1
    k_steps
    refine stop_out ?_
    k_here
    refine' join_listW ?jl hP1 ?js ?jw ?_
    case jl => exact News.isList (by k_asm) (by k_mem)
    case js => decide
    case jw => rw [ones_sum hone, hlen]; decide
    intro t' k'
    k_steps
    (rename News _ _ _ _ => nE)
    (rename Fr _ _ _ _ => fE)
    exact hret _ _ _ _ (join_size hone hlen) (join_at hone (by omega) (hP.2.2.2 (by omega))) fE (cb_drop nE (fun q hq => by repeat (first | exact hq | refine List.Mem.tail _ ?_)))
end
end Mine
end
section
open PySem PySem.W PyProof.Rows PySem.Calls PySem.Spec
namespace Mine
theorem kt_Entry : True := by
  k_with_none
  k_with "eval Constant str" => (k_here; with_reducible refine const_str ?_)
  k_with "eval Constant int" => (k_here; with_reducible refine const_int ?_)
  k_with "spliced" => (k_here; dsimp only)
  k_with "storeName" => (k_here; dsimp only)
  k_with "m ne" => (first | assumption | exact Ne.symm (by assumption) | (refine neN ?_; (try dsimp only); (repeat (rename @Ne Nat _ _ => hz9; clear hz9)); (repeat (rename @Ne Nat _ _ ∧ _ => hz9; clear hz9)); (repeat (rename (@Ne Nat _ _ ∧ _) ∧ _ => hz9; clear hz9)); omega) | ((repeat (rename @Ne Nat _ _ ∧ _ => hz9; first | exact hz9.1 | exact hz9.1.symm | exact hz9.2.1 | exact hz9.2.1.symm | exact hz9.2.2.1 | exact hz9.2.2.1.symm | exact hz9.2.2.2.1 | exact hz9.2.2.2.1.symm | exact hz9.2.2.2.2.1 | exact hz9.2.2.2.2.1.symm | exact hz9.2.2.2.2.2.1 | exact hz9.2.2.2.2.2.1.symm | exact hz9.2.2.2.2.2.2.1 | exact hz9.2.2.2.2.2.2.1.symm | exact hz9.2.2.2.2.2.2.2.1 | exact hz9.2.2.2.2.2.2.2.1.symm | exact hz9.2.2.2.2.2.2.2.2.1 | exact hz9.2.2.2.2.2.2.2.2.1.symm | exact hz9.2.2.2.2.2.2.2.2.2.1 | exact hz9.2.2.2.2.2.2.2.2.2.1.symm | exact hz9.2.2.2.2.2.2.2.2.2.2.1 | exact hz9.2.2.2.2.2.2.2.2.2.2.1.symm | exact hz9.2.2.2.2.2.2.2.2.2.2.2.1 | exact hz9.2.2.2.2.2.2.2.2.2.2.2.1.symm | exact hz9.2.2.2.2.2.2.2.2.2.2.2.2.1 | exact hz9.2.2.2.2.2.2.2.2.2.2.2.2.1.symm | exact hz9.2.2.2.2.2.2.2.2.2.2.2.2.2.1 | exact hz9.2.2.2.2.2.2.2.2.2.2.2.2.2.1.symm | exact hz9.2.2.2.2.2.2.2.2.2.2.2.2.2.2.1 | exact hz9.2.2.2.2.2.2.2.2.2.2.2.2.2.2.1.symm | clear hz9)); done) | ((repeat (rename (@Ne Nat _ _ ∧ _) ∧ _ => hz9; first | exact hz9.1.1 | exact hz9.1.1.symm | exact hz9.1.2.1 | exact hz9.1.2.1.symm | exact hz9.1.2.2 | exact hz9.1.2.2.symm | exact hz9.2.1.1 | exact hz9.2.1.1.symm | exact hz9.2.1.2.1 | exact hz9.2.1.2.1.symm | exact hz9.2.1.2.2 | exact hz9.2.1.2.2.symm | exact hz9.2.2.1.1 | exact hz9.2.2.1.1.symm | exact hz9.2.2.1.2.1 | exact hz9.2.2.1.2.1.symm | exact hz9.2.2.1.2.2 | exact hz9.2.2.1.2.2.symm | exact hz9.2.2.2.1.1 | exact hz9.2.2.2.1.1.symm | exact hz9.2.2.2.1.2.1 | exact hz9.2.2.2.1.2.1.symm | exact hz9.2.2.2.1.2.2 | exact hz9.2.2.2.1.2.2.symm | exact hz9.2.2.2.2.1.1 | exact hz9.2.2.2.2.1.1.symm | exact hz9.2.2.2.2.1.2.1 | exact hz9.2.2.2.2.1.2.1.symm | exact hz9.2.2.2.2.1.2.2 | exact hz9.2.2.2.2.1.2.2.symm | exact hz9.2.2.2.2.2.1.1 | exact hz9.2.2.2.2.2.1.1.symm | exact hz9.2.2.2.2.2.1.2.1 | exact hz9.2.2.2.2.2.1.2.1.symm | exact hz9.2.2.2.2.2.1.2.2 | exact hz9.2.2.2.2.2.1.2.2.symm | exact hz9.2.2.2.2.2.2.1.1 | exact hz9.2.2.2.2.2.2.1.1.symm | exact hz9.2.2.2.2.2.2.1.2.1 | exact hz9.2.2.2.2.2.2.1.2.1.symm | exact hz9.2.2.2.2.2.2.1.2.2 | exact hz9.2.2.2.2.2.2.1.2.2.symm | exact hz9.2.2.2.2.2.2.2.1.1 | exact hz9.2.2.2.2.2.2.2.1.1.symm | exact hz9.2.2.2.2.2.2.2.1.2.1 | exact hz9.2.2.2.2.2.2.2.1.2.1.symm | exact hz9.2.2.2.2.2.2.2.1.2.2 | exact hz9.2.2.2.2.2.2.2.1.2.2.symm | exact hz9.2.2.2.2.2.2.2.2.1.1 | exact hz9.2.2.2.2.2.2.2.2.1.1.symm | exact hz9.2.2.2.2.2.2.2.2.1.2.1 | exact hz9.2.2.2.2.2.2.2.2.1.2.1.symm | exact hz9.2.2.2.2.2.2.2.2.1.2.2 | exact hz9.2.2.2.2.2.2.2.2.1.2.2.symm | exact hz9.2.2.2.2.2.2.2.2.2.1.1 | exact hz9.2.2.2.2.2.2.2.2.2.1.1.symm | exact hz9.2.2.2.2.2.2.2.2.2.1.2.1 | exact hz9.2.2.2.2.2.2.2.2.2.1.2.1.symm | exact hz9.2.2.2.2.2.2.2.2.2.1.2.2 | exact hz9.2.2.2.2.2.2.2.2.2.1.2.2.symm | exact hz9.2.2.2.2.2.2.2.2.2.2.1.1 | exact hz9.2.2.2.2.2.2.2.2.2.2.1.1.symm | exact hz9.2.2.2.2.2.2.2.2.2.2.1.2.1 | exact hz9.2.2.2.2.2.2.2.2.2.2.1.2.1.symm | exact hz9.2.2.2.2.2.2.2.2.2.2.1.2.2 | exact hz9.2.2.2.2.2.2.2.2.2.2.1.2.2.symm | exact hz9.2.2.2.2.2.2.2.2.2.2.2.1.1 | exact hz9.2.2.2.2.2.2.2.2.2.2.2.1.1.symm | exact hz9.2.2.2.2.2.2.2.2.2.2.2.1.2.1 | exact hz9.2.2.2.2.2.2.2.2.2.2.2.1.2.1.symm | exact hz9.2.2.2.2.2.2.2.2.2.2.2.1.2.2 | exact hz9.2.2.2.2.2.2.2.2.2.2.2.1.2.2.symm | exact hz9.2.2.2.2.2.2.2.2.2.2.2.2.1.1 | exact hz9.2.2.2.2.2.2.2.2.2.2.2.2.1.1.symm | exact hz9.2.2.2.2.2.2.2.2.2.2.2.2.1.2.1 | exact hz9.2.2.2.2.2.2.2.2.2.2.2.2.1.2.1.symm | exact hz9.2.2.2.2.2.2.2.2.2.2.2.2.1.2.2 | exact hz9.2.2.2.2.2.2.2.2.2.2.2.2.1.2.2.symm | exact hz9.2.2.2.2.2.2.2.2.2.2.2.2.2.1.1 | exact hz9.2.2.2.2.2.2.2.2.2.2.2.2.2.1.1.symm | exact hz9.2.2.2.2.2.2.2.2.2.2.2.2.2.1.2.1 | exact hz9.2.2.2.2.2.2.2.2.2.2.2.2.2.1.2.1.symm | exact hz9.2.2.2.2.2.2.2.2.2.2.2.2.2.1.2.2 | exact hz9.2.2.2.2.2.2.2.2.2.2.2.2.2.1.2.2.symm | exact hz9.2.2.2.2.2.2.2.2.2.2.2.2.2.2.1.1 | exact hz9.2.2.2.2.2.2.2.2.2.2.2.2.2.2.1.1.symm | exact hz9.2.2.2.2.2.2.2.2.2.2.2.2.2.2.1.2.1 | exact hz9.2.2.2.2.2.2.2.2.2.2.2.2.2.2.1.2.1.symm | exact hz9.2.2.2.2.2.2.2.2.2.2.2.2.2.2.1.2.2 | exact hz9.2.2.2.2.2.2.2.2.2.2.2.2.2.2.1.2.2.symm | exact hz9.2.2.2.2.2.2.2.2.2.2.2.2.2.2.2.1.1 | exact hz9.2.2.2.2.2.2.2.2.2.2.2.2.2.2.2.1.1.symm | exact hz9.2.2.2.2.2.2.2.2.2.2.2.2.2.2.2.1.2.1 | exact hz9.2.2.2.2.2.2.2.2.2.2.2.2.2.2.2.1.2.1.symm | exact hz9.2.2.2.2.2.2.2.2.2.2.2.2.2.2.2.1.2.2 | exact hz9.2.2.2.2.2.2.2.2.2.2.2.2.2.2.2.1.2.2.symm | exact hz9.2.2.2.2.2.2.2.2.2.2.2.2.2.2.2.2.1.1 | exact hz9.2.2.2.2.2.2.2.2.2.2.2.2.2.2.2.2.1.1.symm | exact hz9.2.2.2.2.2.2.2.2.2.2.2.2.2.2.2.2.1.2.1 | exact hz9.2.2.2.2.2.2.2.2.2.2.2.2.2.2.2.2.1.2.1.symm | exact hz9.2.2.2.2.2.2.2.2.2.2.2.2.2.2.2.2.1.2.2 | exact hz9.2.2.2.2.2.2.2.2.2.2.2.2.2.2.2.2.1.2.2.symm | clear hz9)); done) | (refine neN ?_; (try dsimp only); omega))
  k_with "m mem" => (assumption)
  k_with "m fits" => ((rw [PySem.sizeLine_eq]; omega))
  k_with "m all" => (first | assumption | (tbn_letter; refine all_of_lt (by tbn_find) (by omega)))
  trivial
noncomputable abbrev ruleO (x : Str) (v : Tok) (b : Bool) : Obj := { cls := .type "tuple", data := .seq #[.str x v, .bool b] }
/-- the values are the rules' pairs, by the ledger -/
noncomputable def RPs (R : List (Addr × Obj)) : List Value → List (Str × Bool) → Prop :=
  All2 fun v r => ∃ a x, v = .ref a ∧ (a, ruleO r.1 x r.2) ∈ R
theorem RPs.get {R : List (Addr × Obj)} {vs : List Value} {rs : List (Str × Bool)} (h : RPs R vs rs) {i : Nat} {v : Value} (e : vs[i]? = some v) : ∃ r a x, rs[i]? = some r ∧ v = .ref a ∧ (a, ruleO r.1 x r.2) ∈ R :=
  let ⟨r, e', a, x, h1, h2⟩ := All2.get h e
  ⟨r, a, x, e', h1, h2⟩
theorem RPs.mono {R R' : List (Addr × Obj)} (hs : ∀ q ∈ R, q ∈ R') {vs : List Value} {rs : List (Str × Bool)} (h : RPs R vs rs) : RPs R' vs rs :=
  All2.imp (fun _ _ => Exists.imp fun _ => Exists.imp fun _ => And.imp_right (hs _)) h
theorem RPs.length {R : List (Addr × Obj)} {vs : List Value} {rs : List (Str × Bool)} (h : RPs R vs rs) : vs.length = rs.length := All2.length h
/-- the record: an Entry, its agents, its delay, its rules -/
noncomputable def EntryRec (w : World) (mean : ExcName → Option Value) (mg mb : Str → Option Value) (loose : List Str) (R : List (Addr × Obj)) (e : Addr) (dv : Value) (rules : List (Str × Bool)) : Prop :=
  ∃ de ag rl t1 t2 t3 t4 rq vs k u1 u2 k2, (e, instObj 52 de) ∈ R ∧ (de, dictOf [⟨PyData.keyHash w.params (Str.ofString "useragents"), .str (Str.ofString "useragents") t1, .ref ag⟩, ⟨PyData.keyHash w.params (Str.ofString "rulelines"), .str (Str.ofString "rulelines") t2, .ref rl⟩, ⟨PyData.keyHash w.params (Str.ofString "delay"), .str (Str.ofString "delay") t3, dv⟩, ⟨PyData.keyHash w.params (Str.ofString "req_rate"), .str (Str.ofString "req_rate") t4, rq⟩] 4) ∈ R ∧
    (rl, listOf vs k) ∈ R ∧ Rls w mean mg mb loose R vs.toList rules ∧ (ag, listOf #[.str (Str.ofString "bot") u1, .str (Str.ofString "Fox") u2] k2) ∈ R
theorem EntryRec.gen {w : World} {mean : ExcName → Option Value} {mg mb : Str → Option Value} {loose : List Str} {R R' : List (Addr × Obj)} {e : Addr} {dv : Value} {rules : List (Str × Bool)} (hs : ∀ q ∈ R, q.2.data ≠ .cell none → q ∈ R') : EntryRec w mean mg mb loose R e dv rules → EntryRec w mean mg mb loose R' e dv rules :=
  Exists.imp fun _ => Exists.imp fun _ => Exists.imp fun _ => Exists.imp fun _ => Exists.imp fun _ => Exists.imp fun _ => Exists.imp fun _ => Exists.imp fun _ => Exists.imp fun _ => Exists.imp fun _ => Exists.imp fun _ => Exists.imp fun _ => Exists.imp fun _ => And.imp (fun h => hs _ h fun e => nomatch e) <| And.imp (fun h => hs _ h fun e => nomatch e) <| And.imp (fun h => hs _ h fun e => nomatch e) <| And.imp (fun h => h.gen hs) fun h => hs _ h fun e => nomatch e
theorem EntryRec.mono {w : World} {mean : ExcName → Option Value} {mg mb : Str → Option Value} {loose : List Str} {R R' : List (Addr × Obj)} {e : Addr} {dv : Value} {rules : List (Str × Bool)} (h : EntryRec w mean mg mb loose R e dv rules) (hs : ∀ q ∈ R, q ∈ R') : EntryRec w mean mg mb loose R' e dv rules :=
  h.gen fun q hq _ => hs q hq
theorem EntryRec.at {w : World} {mean : ExcName → Option Value} {mg mb : Str → Option Value} {loose : List Str} {R : List (Addr × Obj)} {e : Addr} {dv : Value} {rules : List (Str × Bool)} : EntryRec w mean mg mb loose R e dv rules → EntryAt w mean mg mb loose R e dv rules :=
  Exists.imp fun _ => Exists.imp fun _ => Exists.imp fun _ => Exists.imp fun _ => Exists.imp fun _ => Exists.imp fun _ => Exists.imp fun _ => Exists.imp fun _ => Exists.imp fun _ => Exists.imp fun _ h => h.elim fun _ h => h.elim fun _ h => h.elim fun _ h => ⟨h.1, h.2.1, h.2.2.1, h.2.2.2.1⟩
section
variable {prog : Program} {w : World} {A : Around} {E : Value → Shared → Prop} {s : Shared} {env : Env} {h₀ : Heap} {target : Expr} {body : List Stmt} {Q : Flow → Shared → Prop}
   {mean : ExcName → Option Value} {mg mb : Str → Option Value} {loose : List Str}
theorem entry_loop {l' rl : Addr} {vs ps0 : Array Value} {k : Nat} {m₀ : Str → Option Value} {f1 f2 f3 : Addr × Obj} {rest : List (Addr × Obj)} {rules : List (Str × Bool)}
    (hh : A.handled = none) (F : Fr h₀ env.locals s.heap m₀) (N : News h₀ env.locals s.heap ((l', listOf #[] 0) :: f1 :: f2 :: f3 :: (145, tabObj ps0) :: (rl, listOf vs k) :: rest))
    (hT : TabIs ps0 rest) (hr : RPs rest vs.toList rules) (d1 : ∀ p ∈ rest, p.1 ≠ l') (d2 : ∀ p ∈ rest, p.1 ≠ 145)
    (turn : ∀ i r pa px (lv : Array Value) n ps R (u : Str → Option Value) h tk (I : Addr) (oI : Obj), rules[i]? = some r → (pa, ruleO r.1 px r.2) ∈ R → TabIs ps R → Rls w mean mg mb loose R lv.toList (rules.take i) → (∀ p ∈ R, p.1 ≠ l') → (∀ p ∈ R, p.1 ≠ 145) → (∀ p ∈ R, p.1 ≠ I) → (∀ p ∈ rest, p ∈ R) → (∀ p ∈ (l', listOf lv n) :: (145, tabObj ps) :: f1 :: f2 :: f3 :: (rl, listOf vs k) :: R, p.1 ≠ I) →
      Fr h₀ env.locals h (fun z => if [Str.ofString "path", Str.ofString "allowed"].contains z then u z else m₀ z) → News h₀ env.locals h ((I, oI) :: (l', listOf lv n) :: (145, tabObj ps) :: f1 :: f2 :: f3 :: (rl, listOf vs k) :: R) →
      wpAny (model prog w) A (assign target env (.ref pa)) (fun _ s₂ => wpAny (model prog w) A (execs body env)
        (ItPost h₀ env.locals s [(I, oI)] (fun (c : Array Value × Nat × Array Value × List (Addr × Obj)) => (l', listOf c.1 c.2.1) :: (145, tabObj c.2.2.1) :: f1 :: f2 :: f3 :: (rl, listOf vs k) :: c.2.2.2) (fun _ => []) [Str.ofString "path", Str.ofString "allowed"] m₀
          (fun c => TabIs c.2.2.1 c.2.2.2 ∧ Rls w mean mg mb loose c.2.2.2 c.1.toList (rules.take (i + 1)) ∧ (∀ p ∈ c.2.2.2, p.1 ≠ l') ∧ (∀ p ∈ c.2.2.2, p.1 ≠ 145) ∧ (∀ p ∈ rest, p ∈ c.2.2.2)) Q) E s₂) E { s with heap := h, toks := tk })
    (done : ∀ (lv : Array Value) n ps R (u : Str → Option Value) h tk, TabIs ps R → Rls w mean mg mb loose R lv.toList rules → (∀ p ∈ R, p.1 ≠ l') → (∀ p ∈ R, p.1 ≠ 145) → (∀ p ∈ rest, p ∈ R) →
      Fr h₀ env.locals h (fun z => if [Str.ofString "path", Str.ofString "allowed"].contains z then u z else m₀ z) → News h₀ env.locals h ((l', listOf lv n) :: (145, tabObj ps) :: f1 :: f2 :: f3 :: (rl, listOf vs k) :: R) → Q .next { s with heap := h, toks := tk }) :
    wpAny (model prog w) A (pyIter (.ref rl)) (fun it s₂ => TurnsAt prog w A h₀ env target body Q E it s₂) E s := by
  refine list_st (l := rl) (vs := vs) (k := k) (fun (c : Array Value × Nat × Array Value × List (Addr × Obj)) => (l', listOf c.1 c.2.1) :: (145, tabObj c.2.2.1) :: f1 :: f2 :: f3 :: (rl, listOf vs k) :: c.2.2.2) (fun _ => []) [Str.ofString "path", Str.ofString "allowed"]
    (fun i c => TabIs c.2.2.1 c.2.2.2 ∧ Rls w mean mg mb loose c.2.2.2 c.1.toList (rules.take i) ∧ (∀ p ∈ c.2.2.2, p.1 ≠ l') ∧ (∀ p ∈ c.2.2.2, p.1 ≠ 145) ∧ (∀ p ∈ rest, p ∈ c.2.2.2)) (#[], 0, ps0, rest) hh F (fun q hq => N q ?_) (fun c => by simp) ⟨hT, trivial, d1, d2, fun _ h => h⟩ (fun _ h => nomatch h) ?_ ?_
  · revert q; (repeat (refine List.forall_mem_cons.mpr ⟨by (repeat (first | exact List.Mem.head _ | refine List.Mem.tail _ ?_)), ?_⟩)); intro q hq; (repeat (first | exact hq | refine List.Mem.tail _ ?_))
  · rintro i v ⟨lv, n, ps, R⟩ u h tk I oI hv ⟨p1, p2, p3, p4, p5⟩ hoff F' N'
    obtain ⟨r, pa, px, e1, rfl, e3⟩ := hr.get (i := i) (v := v) (by simpa using hv)
    exact turn i r pa px lv n ps R u h tk I oI e1 (p5 _ e3) p1 p2 p3 p4 (fun p hp => hoff p (by simp [hp])) p5 hoff F' N'
  · rintro ⟨lv, n, ps, R⟩ u h tk ⟨p1, p2, p3, p4, p5⟩ F' N'
    have hl : rules.take vs.size = rules := by
      rw [List.take_of_length_le]
      have := hr.length
      simp at this
      omega
    rw [hl] at p2
    exact done lv n ps R u h tk p1 p2 p3 p4 p5 F' N'
end
theorem Rls.snoc {w : World} {mean : ExcName → Option Value} {mg mb : Str → Option Value} {loose : List Str} {R : List (Addr × Obj)} {v : Value} {r : Str × Bool} (h2 : RuleAt w mean mg mb loose R v r) {vs : List Value} {rs : List (Str × Bool)} (h : Rls w mean mg mb loose R vs rs) : Rls w mean mg mb loose R (vs ++ [v]) (rs ++ [r]) := All2.snoc h2 h
theorem kw_Entry : True := by
  k_with "exec For Tuple Name cons nil" => (k_here; (rename Fr _ _ _ _ => lF'); (with_unfolding_all refine For_turns lF' ?_; k_whole))
  k_with "call ref" => (k_here; k_dflt (refine rule_use (by assumption) (by k_asm) (by k_asm) (by k_asm) (by k_asm) (by ((repeat' (refine List.forall_mem_cons.mpr ⟨?_, ?_⟩)); (all_goals first | exact List.forall_mem_nil _ | ((try dsimp only); first | exact Ne.symm (by assumption) | assumption | k_ne)))) (by assumption) (by assumption) (by assumption) (by assumption) (by k_asm) (by first | assumption | exact CodeHd.keeps (by assumption) (Below.stays (by assumption))) (by ktr_room) (by ktr_units) ?_; k_whole; intro h' tk' f' ps' tl' hTb' hRu' ho1' ho2' ho3' F' N'; (try dsimp only); (dsimp only at ho1' ho2' ho3'); (try k_sweep)))
  trivial
section
variable {w : World} {dp un : Nat} {gd : Option (List Code)} {cn : Str} {nm : List (Str × NameKind)} {ig ic : Bool} {mr : List (Str × Const)} {a : Addr} {ccd : Value} {cl : List (Str × Addr)} {outer : List Env} {A₀ : Around} {base h₀ : Heap} {L : Addr} {m : Str → Option Value} {s : Shared} {Q E : Value → Shared → Prop}
   {mean : ExcName → Option Value} {mg mb : Str → Option Value} {loose : List Str}
set_option maxHeartbeats 4000000 in
theorem entry0 {rl : Addr} {vs : Array Value} {k : Nat} {rules : List (Str × Bool)} {dl : Int} {dt : Tok} {ps : Array Value} {rest : List (Addr × Obj)}
   (B : Below A₀ base outer h₀) (F : Fr h₀ L s.heap m) (X : (heapK w.params).In h₀)
   (N : News h₀ L s.heap ((145, tabObj ps) :: (rl, listOf vs k) :: rest)) (hT : TabIs ps rest) (d1 : @Ne Nat rl 145) (dr : ∀ p ∈ rest, p.1 ≠ 145)
   (hr : RPs rest vs.toList rules) (hl : ∀ r ∈ rules, r.1.length ≤ 100) (hn : rules.length ≤ 1000)
   (T : Top topProg loose mean mg mb h₀) (C : CodeHd base 149 145) (hdp : dp + 6 < recursionLimit) (hun : un + 300 < cLine)
   (hret : ∀ e h' tk' R', EntryRec w mean mg mb loose R' e (.int dl dt) rules → (∃ ps, (145, tabObj ps) ∈ R') → (∀ q ∈ (rl, listOf vs k) :: rest, q ∈ R') → Fr h₀ L h' m → News h₀ L h' R' → Q (.ref e) { s with heap := h', toks := tk' }) :
   wpAny (model PySem.Challenge.rw_oy0154_01.prog w) (ktrTop dp un gd cn ⟨.function, nm, ig, ic, mr⟩ L a ccd cl outer) (call (.ref 157) [.ref rl, .int dl dt]) Q E s := by
  revert T N X
  k_fill
  intro X N T
  refine wpAny_call ?_
  k_dflt k_enter
  k_steps
  (rename News _ _ _ _ => lN')
  (rename Fr _ _ _ _ => lF')
  with_unfolding_all refine' entry_loop (loose := loose) (mg := mg) (mb := mb) (mean := mean) ?hh lF' lN' ?hT ?hr ?d1 ?d2 ?tn ?dn
  case hh => rfl
  case hT => assumption
  case hr => assumption
  case d1 => k_all
  case d2 => assumption
  case tn =>
    intro i r pa px lv n ps R u h9 tk9 I oI hri hpa hTb hRl dl1 dl2 dl3 hsub hoff F9 N9
    clear lN' lF'
    have hrl : r.1.length ≤ 100 := hl r (List.mem_of_getElem? hri)
    have hlv : lv.size ≤ 1000 := by
      have e := hRl.length
      simp only [Array.length_toList, List.length_take] at e
      omega
    obtain ⟨rp, rb⟩ := r
    simp only [List.forall_mem_cons] at hoff
    obtain ⟨ho1, ho2, ho3, ho4, ho5, ho6, ho7⟩ := hoff
    (replace ho1 : @Ne Nat _ _ := ho1); (replace ho2 : @Ne Nat _ _ := ho2); (replace ho3 : @Ne Nat _ _ := ho3); (replace ho4 : @Ne Nat _ _ := ho4); (replace ho5 : @Ne Nat _ _ := ho5); (replace ho6 : @Ne Nat _ _ := ho6)
    dsimp only at *
    k_steps
    (rename News _ _ _ _ => nE)
    (rename Fr _ _ _ _ => fE)
    (rename RuleAt _ _ _ _ _ _ _ _ => hRu)
    refine it_end (_, _, _, _) fE nE (fun p hp => hp) ?_ (fun _ h => nomatch h) ?_ ⟨by assumption, ?_, by assumption, by assumption, ?_⟩
    · simp only [List.forall_mem_cons]
      exact ⟨ho1, ho2, ho3, ho4, ho5, ho6, by assumption⟩
    · intro z _ h3
      simp only [List.contains_cons, List.contains_nil, Bool.or_false, Bool.or_eq_false_iff, beq_eq_false_iff_ne, ne_eq] at h3
      simp [h3]
    · dsimp only
      rw [List.concat_eq_append, List.take_add_one, hri]
      exact (hRl.mono fun q hq => List.mem_append_right _ hq).snoc hRu
    · intro q hq
      exact List.mem_append_right _ (hsub q hq)
  case dn =>
    intro lv n ps R u h9 tk9 hTb hRl dl1 dl2 hsub F9 N9
    clear lN' lF'
    k_steps
    (rename News _ _ _ _ => nE)
    (rename Fr _ _ _ _ => fE)
    refine hret _ _ _ _ ⟨_, _, _, _, _, _, _, _, _, _, _, _, _, by k_mem, by k_mem, by k_mem, hRl.mono ?_, by k_mem⟩ ⟨_, by k_mem⟩ ?_ fE nE
    · intro q hq; repeat (first | exact hq | refine List.Mem.tail _ ?_)
    · intro q hq
      rcases List.mem_cons.mp hq with rfl | hq
      · k_mem
      · have := hsub q hq
        repeat (first | exact this | refine List.Mem.tail _ ?_)
end
end Mine
end
section
open PySem PySem.W PyProof.Rows PySem.Calls PySem.Spec
namespace Mine
noncomputable abbrev Site := List (Int × Str) × List Str
noncomputable abbrev Entry3 := Int × Str × Str
/-- one link more, where it has not waited before -/
noncomputable def pushK (now dl : Int) (page : Str) (c : Site) (k : Nat) : Site :=
  match (linksOf page)[k]? with
  | none => c
  | some x => if c.2.any (· == x) = true then c else (pushR c.1 (now + wtOf k * dl, x), c.2 ++ [x])
noncomputable def pushN (now dl : Int) (page : Str) (c : Site) : Nat → Site
  | 0 => c
  | n + 1 => pushK now dl page (pushN now dl page c n) n
/-- one page off the heap -/
noncomputable def stepC (ans : Str → Str) (dl : Int) (c : Site × List Entry3) : Site × List Entry3 :=
  let t := c.1.1.headD default
  let d : Site := (popR c.1.1, c.1.2)
  (if ans t.2 = Str.ofString "got" then pushN t.1 dl t.2 d (linksOf t.2).length else d, c.2 ++ [(t.1, t.2, ans t.2)])
noncomputable def crawlN (ans : Str → Str) (dl : Int) : Nat → Site × List Entry3 → List Entry3
  | 0, c => c.2
  | n + 1, c => if c.1.1 = [] then c.2 else crawlN ans dl n (stepC ans dl c)
/-- what holds while the links of a page are laid; n: the pages taken off -/
noncomputable def JK (n : Nat) (page : Str) (c : Site) : Prop :=
  c.2.Nodup ∧ (∀ x ∈ c.2, x ∈ pagesP) ∧ OnSite c.1 ∧ heapedB c.1 = true ∧ c.1.length + n = c.2.length ∧ 1 ≤ n ∧ (n = 1 → page = Str.ofString "/" ∧ Str.ofString "/b/y" ∉ c.2)
/-- what holds between the pages -/
noncomputable def JC (c : Site × List Entry3) : Prop :=
  c.1.2.Nodup ∧ (∀ x ∈ c.1.2, x ∈ pagesP) ∧ OnSite c.1.1 ∧ heapedB c.1.1 = true ∧ c.1.1.length + c.2.length = c.1.2.length ∧ (c.2.length = 1 → Str.ofString "/b/y" ∉ c.1.2) ∧ (c.2.length = 0 → c.1 = ([(0, Str.ofString "/")], [Str.ofString "/"]))
theorem any_iff {l : List Str} {x : Str} : l.any (· == x) = true ↔ x ∈ l := by
  rw [List.any_eq_true]
  constructor
  · rintro ⟨y, hy, e⟩
    rw [beq_iff_eq] at e
    exact e ▸ hy
  · intro h
    exact ⟨x, h, by simp⟩
theorem nodup_le : ∀ {l : List Str} {m : List Str}, l.Nodup → (∀ x ∈ l, x ∈ m) → l.length ≤ m.length
  | [], _, _, _ => Nat.zero_le _
  | x :: l, m, hn, hs => by
    have hx : x ∈ m := hs x (by simp)
    obtain ⟨h1, h2⟩ := List.nodup_cons.mp hn
    have ih := nodup_le (l := l) (m := m.erase x) h2 (fun y hy => (List.mem_erase_of_ne (fun (e : y = x) => h1 (e ▸ hy))).mpr (hs y (by simp [hy])))
    have e := List.length_erase_of_mem hx
    have e0 : 0 < m.length := List.length_pos_of_mem hx
    simp only [List.length_cons]
    omega
theorem JK.site6 {n : Nat} {page : Str} {c : Site} (h : JK n page c) : c.2.length ≤ 6 := nodup_le (m := pagesP) h.1 h.2.1
theorem links_on : ∀ p ∈ pagesP, ∀ x ∈ linksOf p, x ∈ pagesP := by decide
theorem root_links : Str.ofString "/b/y" ∉ linksOf (Str.ofString "/") := by decide
theorem page_len : ∀ p ∈ pagesP, p.length ≤ 100 := by decide
theorem JK.room {n : Nat} {page x : Str} {c : Site} (h : JK n page c) (hp : page ∈ pagesP) (hx : x ∈ linksOf page) (hs : x ∉ c.2) : c.1.length ≤ 3 := by
  obtain ⟨h1, h2, h3, h4, h5, h6, h7⟩ := h
  have hx6 : x ∈ pagesP := links_on _ hp _ hx
  have hnd : (x :: c.2).Nodup := List.nodup_cons.mpr ⟨hs, h1⟩
  have l6 : (x :: c.2).length ≤ pagesP.length := nodup_le hnd (by simpa using ⟨hx6, h2⟩)
  have e6 : pagesP.length = 6 := rfl
  simp only [List.length_cons] at l6
  by_cases hn : n = 1
  · obtain ⟨e, hb⟩ := h7 hn
    subst e
    have hxb : x ≠ Str.ofString "/b/y" := fun q => root_links (q ▸ hx)
    have hnd2 : (Str.ofString "/b/y" :: x :: c.2).Nodup := List.nodup_cons.mpr ⟨by simp [hb, Ne.symm hxb], hnd⟩
    have l7 : (Str.ofString "/b/y" :: x :: c.2).length ≤ pagesP.length := nodup_le hnd2 (by
      intro y hy
      rcases List.mem_cons.mp hy with rfl | hy
      · decide
      rcases List.mem_cons.mp hy with rfl | hy
      · exact hx6
      · exact h2 y hy)
    simp only [List.length_cons] at l7
    omega
  · omega
theorem JK.hp {n : Nat} {page : Str} {ps : List (Int × Str)} {seen : List Str} (h : JK n page (ps, seen)) : ps.length ≤ 4 ∧ heapedB ps = true := by
  have l6 := h.site6
  obtain ⟨h1, h2, h3, h4, h5, h6, h7⟩ := h
  refine ⟨?_, h4⟩
  dsimp only at *
  by_cases hn : n = 1
  · have hb := (h7 hn).2
    have hnd2 : (Str.ofString "/b/y" :: seen).Nodup := List.nodup_cons.mpr ⟨hb, h1⟩
    have l7 : (Str.ofString "/b/y" :: seen).length ≤ pagesP.length := nodup_le hnd2 (by
      intro y hy
      rcases List.mem_cons.mp hy with rfl | hy
      · decide
      · exact h2 y hy)
    have e6 : pagesP.length = 6 := rfl
    simp only [List.length_cons] at l7
    omega
  · omega
theorem JK.push {n : Nat} {page x : Str} {c : Site} {t : Int} (h : JK n page c) (hp : page ∈ pagesP) (hx : x ∈ linksOf page) (hs : x ∉ c.2) : JK n page (pushR c.1 (t, x), c.2 ++ [x]) := by
  have r := h.room hp hx hs
  obtain ⟨h1, h2, h3, h4, h5, h6, h7⟩ := h
  have hx6 : x ∈ pagesP := links_on _ hp _ hx
  refine ⟨?_, ?_, ?_, push_heaped _ hx6 _ r h3 h4, ?_, h6, ?_⟩
  · refine List.nodup_append.mpr ⟨h1, by simp, ?_⟩
    intro a ha b hb e
    rw [List.mem_singleton] at hb
    subst hb; subst e
    exact hs ha
  · intro y hy
    rcases List.mem_append.mp hy with hy | hy
    · exact h2 y hy
    · rw [List.mem_singleton] at hy; subst hy; exact hx6
  · intro q hq
    have hq2 := (push_perm (t, x) _ r).mem_iff.mp hq
    rcases List.mem_append.mp hq2 with hq2 | hq2
    · exact h3 q hq2
    · rw [List.mem_singleton] at hq2; subst hq2; exact hx6
  · rw [push_length _ _ r, List.length_append, List.length_singleton]; omega
  · intro hn
    obtain ⟨e, hb⟩ := h7 hn
    refine ⟨e, fun hm => ?_⟩
    rcases List.mem_append.mp hm with hm | hm
    · exact hb hm
    · rw [List.mem_singleton] at hm
      subst e; subst hm
      exact root_links hx
theorem JK.pushK {n : Nat} {page : Str} {c : Site} {now dl : Int} {k : Nat} (h : JK n page c) (hp : page ∈ pagesP) : JK n page (pushK now dl page c k) := by
  unfold Mine.pushK
  split
  · exact h
  · rename_i x hx
    split
    · exact h
    · rename_i hs
      exact h.push hp (List.mem_of_getElem? hx) fun q => hs (any_iff.mpr q)
theorem JK.pushN {n : Nat} {page : Str} {c : Site} {now dl : Int} (h : JK n page c) (hp : page ∈ pagesP) : ∀ k, JK n page (pushN now dl page c k)
  | 0 => h
  | k + 1 => (JK.pushN h hp k).pushK hp
theorem JC.len4 {c : Site × List Entry3} (h : JC c) : c.1.1.length ≤ 4 := by
  obtain ⟨h1, h2, h3, h4, h5, h6, h7⟩ := h
  have l6 : c.1.2.length ≤ pagesP.length := nodup_le h1 h2
  have e6 : pagesP.length = 6 := rfl
  by_cases h0 : c.2.length = 0
  · have e := h7 h0
    rw [e]; simp
  by_cases hn : c.2.length = 1
  · have hb := h6 hn
    have hnd2 : (Str.ofString "/b/y" :: c.1.2).Nodup := List.nodup_cons.mpr ⟨hb, h1⟩
    have l7 : (Str.ofString "/b/y" :: c.1.2).length ≤ pagesP.length := nodup_le hnd2 (by
      intro y hy
      rcases List.mem_cons.mp hy with rfl | hy
      · decide
      · exact h2 y hy)
    simp only [List.length_cons] at l7
    omega
  · omega
theorem JC.page {c : Site × List Entry3} (h : JC c) (hne : c.1.1 ≠ []) : (c.1.1.headD default).2 ∈ pagesP := by
  obtain ⟨p, r, e⟩ := List.exists_cons_of_ne_nil hne
  rw [e]
  exact h.2.2.1 p (by rw [e]; simp)
theorem JC.popped {c : Site × List Entry3} (h : JC c) (hne : c.1.1 ≠ []) : JK (c.2.length + 1) (c.1.1.headD default).2 (popR c.1.1, c.1.2) := by
  have l4 := h.len4
  have hpm := pop_perm _ l4 hne
  obtain ⟨h1, h2, h3, h4, h5, h6, h7⟩ := h
  refine ⟨h1, h2, fun q hq => h3 q (hpm.mem_iff.mp (List.mem_cons_of_mem _ hq)), pop_heaped _ l4 h3 h4, ?_, by omega, ?_⟩
  · have := pop_length _ l4 hne
    dsimp only
    omega
  · intro hn
    have h0 : c.2.length = 0 := by omega
    have e := h7 h0
    rw [e]
    exact ⟨rfl, by decide⟩
theorem JK.done {n : Nat} {page : Str} {d : Site} {lg : List Entry3} (h : JK n page d) (hn : lg.length = n) : JC (d, lg) := by
  obtain ⟨h1, h2, h3, h4, h5, h6, h7⟩ := h
  exact ⟨h1, h2, h3, h4, by dsimp only; omega, fun e => (h7 (hn ▸ e)).2, fun e => by dsimp only at e; omega⟩
theorem JC.step {c : Site × List Entry3} {ans : Str → Str} {dl : Int} (h : JC c) (hne : c.1.1 ≠ []) : JC (stepC ans dl c) := by
  have hk := h.popped hne
  have hp := h.page hne
  unfold stepC
  dsimp only
  split
  · exact (hk.pushN hp _).done (by simp)
  · exact hk.done (by simp)
theorem JC.start : JC (([(0, Str.ofString "/")], [Str.ofString "/"]), []) := by
  refine ⟨by simp, by decide, (show ∀ p ∈ [((0 : Int), Str.ofString "/")], p.2 ∈ pagesP by decide), rfl, rfl, fun h => by simp at h, fun _ => rfl⟩
theorem JC.log6 {c : Site × List Entry3} (h : JC c) (hne : c.1.1 ≠ []) : c.2.length ≤ 5 := by
  obtain ⟨h1, h2, h3, h4, h5, h6, h7⟩ := h
  have l6 : c.1.2.length ≤ pagesP.length := nodup_le h1 h2
  have e6 : pagesP.length = 6 := rfl
  have : 0 < c.1.1.length := List.length_pos_iff.mpr hne
  omega
theorem pushN_seen {now dl : Int} {page y : Str} {d0 d : Site} {i : Nat} (hd : d = pushN now dl page d0 i) (hy : (linksOf page)[i]? = some y) (hs : (d.2.any fun z => z == y) = true) : d = pushN now dl page d0 (i + 1) := by
  show d = pushK now dl page (pushN now dl page d0 i) i
  rw [← hd]
  unfold pushK
  rw [hy]
  dsimp only
  rw [if_pos hs]
theorem pushN_new {now dl : Int} {page y : Str} {d0 d : Site} {i : Nat} (hd : d = pushN now dl page d0 i) (hy : (linksOf page)[i]? = some y) (hs : (d.2.any fun z => z == y) = false) : (pushR d.1 (now + wtOf i * dl, y), d.2 ++ [y]) = pushN now dl page d0 (i + 1) := by
  show _ = pushK now dl page (pushN now dl page d0 i) i
  rw [← hd]
  unfold pushK
  rw [hy]
  dsimp only
  rw [if_neg (by rw [hs]; exact Bool.false_ne_true)]
theorem stepC_got {ans : Str → Str} {dl t : Int} {x : Str} {c : Site × List Entry3} (he : c.1.1.headD default = (t, x)) (ha : ans x = Str.ofString "got") : stepC ans dl c = (pushN t dl x (popR c.1.1, c.1.2) (linksOf x).length, c.2 ++ [(t, x, Str.ofString "got")]) := by
  unfold stepC
  rw [he]
  dsimp only
  rw [if_pos ha, ha]
theorem stepC_not {ans : Str → Str} {dl t : Int} {x a : Str} {c : Site × List Entry3} (he : c.1.1.headD default = (t, x)) (ha : ans x = a) (hn : a ≠ Str.ofString "got") : stepC ans dl c = ((popR c.1.1, c.1.2), c.2 ++ [(t, x, a)]) := by
  unfold stepC
  rw [he]
  dsimp only
  rw [if_neg (by rw [ha]; exact hn), ha]
theorem stepC_log {ans : Str → Str} {dl : Int} {c : Site × List Entry3} : (stepC ans dl c).2.length = c.2.length + 1 := by
  unfold stepC
  simp
theorem JC.next {ans : Str → Str} {dl : Int} {c : Site × List Entry3} {X : List Entry3} (hJ : JC c) (hne : c.1.1 ≠ []) (h7 : crawlN ans dl (7 - c.2.length) c = X) :
    JC (stepC ans dl c) ∧ crawlN ans dl (7 - (stepC ans dl c).2.length) (stepC ans dl c) = X ∧ 7 - (stepC ans dl c).2.length < 7 - c.2.length := by
  have l5 := hJ.log6 hne
  refine ⟨hJ.step hne, ?_, by rw [stepC_log]; omega⟩
  rw [stepC_log, ← h7]
  have e : 7 - c.2.length = (7 - (c.2.length + 1)) + 1 := by omega
  rw [e]
  show _ = if c.1.1 = [] then c.2 else crawlN ans dl (7 - (c.2.length + 1)) (stepC ans dl c)
  rw [if_neg hne]
theorem crawl_end {ans : Str → Str} {dl : Int} {c : Site × List Entry3} {n : Nat} (h : c.1.1 = []) : crawlN ans dl n c = c.2 := by
  cases n with
  | zero => rfl
  | succ n => exact if_pos h
end Mine
end
section
open PySem PySem.W PyProof.Rows PySem.Calls PySem.Spec
namespace Mine
section
variable {prog : Program} {w : World} {A : Around} {E : Value → Shared → Prop} {s : Shared} {a b : Addr} {t0 t1 : Int} {u0 u1 v0 v1 : Tok} {x0 x1 : Str}
theorem pair_keyLt {Q : Bool → Shared → Prop} (ha : s.heap.get? a = some (tupO t0 u0 x0 v0)) (hb : s.heap.get? b = some (tupO t1 u1 x1 v1)) (h : Q (ltP (t0, x0) (t1, x1)) s) :
    wpAny (model prog w) A (keyLt' (tuples' true) (.ref a) (.ref b)) Q E s := by
  refine kat_lt ha rfl hb rfl ?_
  show KatLex prog w A true (decide (2 < 2)) Q [(Value.int t0 u0, Value.int t1 u1), (Value.str x0 v0, Value.str x1 v1)] 0 s
  refine kat_cons (wpAny_eqBool_int ?_)
  unfold ltP at h
  by_cases ht : t0 = t1
  · subst ht
    rw [if_pos rfl] at h
    rw [beq_self_eq_true]
    refine kat_yes (kat_cons (wpAny_eqBool_str ?_))
    by_cases hx : x0 = x1
    · subst hx
      have e : decide (x0.cps.toList < x0.cps.toList) = false := by simp [List.lt_irrefl]
      dsimp only at h
      rw [e] at h
      first | rw [decide_eq_true rfl] | simp only [beq_self_eq_true]
      exact kat_yes (kat_nil h)
    · first | rw [decide_eq_false hx] | rw [beq_eq_false_iff_ne.mpr hx]
      refine kat_no (kat_one _ _ (lt_str (x := x0) (y := x1) ?_))
      exact h
  · rw [if_neg ht] at h
    first | rw [decide_eq_false ht] | rw [beq_eq_false_iff_ne.mpr ht]
    refine kat_no (oneLt_int ?_)
    exact h
end
/-- the tree of questions, answered -/
noncomputable def kRun (lt : Nat → Nat → Bool) {α : Type} : KasT α → α
  | .ret a => a
  | .ask i j k => kRun lt (k (lt i j))
noncomputable def kIn (n : Nat) {α : Type} : KasT α → Bool
  | .ret _ => true
  | .ask i j k => decide (i < n) && (decide (j < n) && (kIn n (k true) && kIn n (k false)))
theorem kRun_wp {n : Nat} {lt : Nat → Nat → Bool} {α : Type} {cmp : Nat → Nat → (Bool → Shared → Prop) → Shared → Prop} {Q : α → Shared → Prop} {s : Shared} (hc : ∀ i j (C : Bool → Shared → Prop), i < n → j < n → C (lt i j) s → cmp i j C s) : ∀ (t : KasT α), kIn n t = true → Q (kRun lt t) s → t.kasWp cmp Q s
  | .ret _, _, h => h
  | .ask i j k, hi, h => by
    simp only [kIn, Bool.and_eq_true, decide_eq_true_eq] at hi
    refine hc i j _ hi.1 hi.2.1 ?_
    refine kRun_wp hc (k (lt i j)) ?_ h
    cases lt i j
    · exact hi.2.2.2
    · exact hi.2.2.1
noncomputable def ltTab (n : Nat) (f : Nat → Nat → Bool) (i j : Nat) : Bool := if i < j then f i j else if j < i then !f j i else false
noncomputable def tr (a b c : Bool) : Bool := (!(a && b) || c) && (a || b || !c)
noncomputable def minOk (n : Nat) (lt : Nat → Nat → Bool) (p : Array Nat) : Bool := (p.size == n) && (decide (p.getD 0 9 < n)) && (List.range n).all fun j => !lt j (p.getD 0 9)
noncomputable def tab (b01 b02 b03 b12 b13 b23 : Bool) (i j : Nat) : Bool :=
  match i, j with
  | 0, 1 => b01 | 0, 2 => b02 | 0, 3 => b03 | 1, 2 => b12 | 1, 3 => b13 | 2, 3 => b23
  | 1, 0 => !b01 | 2, 0 => !b02 | 3, 0 => !b03 | 2, 1 => !b12 | 3, 1 => !b13 | 3, 2 => !b23
  | _, _ => false
theorem tab2 : ∀ b01 : Bool, minOk 2 (tab b01 false false false false false) (kRun (tab b01 false false false false false) (kas_sort 2)) = true := by decide +kernel
theorem tab3 : ∀ b01 b02 b12 : Bool, (!tr b01 b12 b02 || minOk 3 (tab b01 b02 false b12 false false) (kRun (tab b01 b02 false b12 false false) (kas_sort 3))) = true := by decide +kernel
theorem tab4 : ∀ b01 b02 b03 b12 b13 b23 : Bool, (!(tr b01 b12 b02 && tr b01 b13 b03 && tr b02 b23 b03 && tr b12 b23 b13) || minOk 4 (tab b01 b02 b03 b12 b13 b23) (kRun (tab b01 b02 b03 b12 b13 b23) (kas_sort 4))) = true := by decide +kernel
theorem in2 : kIn 2 (kas_sort 2) = true := by decide +kernel
theorem in3 : kIn 3 (kas_sort 3) = true := by decide +kernel
theorem in4 : kIn 4 (kas_sort 4) = true := by decide +kernel
theorem minOk_use {n : Nat} {r : Nat → Int} {t : Nat → Nat → Bool} {p : Array Nat} (ht : ∀ i j, i < n → j < n → t i j = decide (r i < r j)) (h : minOk n t p = true) : p.size = n ∧ p.getD 0 9 < n ∧ ∀ j, j < n → r (p.getD 0 9) ≤ r j := by
  unfold minOk at h
  simp only [Bool.and_eq_true, beq_iff_eq, decide_eq_true_eq, List.all_eq_true, List.mem_range, Bool.not_eq_true'] at h
  obtain ⟨⟨h1, h2⟩, h3⟩ := h
  refine ⟨h1, h2, fun j hj => ?_⟩
  have := h3 j hj
  rw [ht j _ hj h2, decide_eq_false_iff_not] at this
  omega
theorem not_dec {a b : Int} (h : a ≠ b) : (!decide (a < b)) = decide (b < a) := by
  by_cases h1 : a < b
  · rw [decide_eq_true h1, decide_eq_false (by omega)]; rfl
  · rw [decide_eq_false h1, decide_eq_true (by omega)]; rfl
theorem tr_dec (a b c : Int) : tr (decide (a < b)) (decide (b < c)) (decide (a < c)) = true := by
  unfold tr
  by_cases h1 : a < b <;> by_cases h2 : b < c <;> by_cases h3 : a < c <;> simp only [h1, h2, h3, decide_true, decide_false, Bool.and_self, Bool.and_true, Bool.and_false, Bool.not_true, Bool.not_false, Bool.or_true, Bool.or_false, Bool.true_or, Bool.false_or] <;> omega
theorem sort_wp {n : Nat} {r : Nat → Int} {cmp : Nat → Nat → (Bool → Shared → Prop) → Shared → Prop} {Q : Array Nat → Shared → Prop} {s : Shared} (h2 : 2 ≤ n) (h4 : n ≤ 4) (inj : ∀ i j, i < n → j < n → r i = r j → i = j)
    (hc : ∀ i j (C : Bool → Shared → Prop), i < n → j < n → C (decide (r i < r j)) s → cmp i j C s) (h : ∀ p : Array Nat, p.size = n → p.getD 0 9 < n → (∀ j, j < n → r (p.getD 0 9) ≤ r j) → Q p s) : (kas_sort n).kasWp cmp Q s := by
  have nd : ∀ i j, i < n → j < n → i ≠ j → (!decide (r i < r j)) = decide (r j < r i) := fun i j hi hj hn => not_dec fun e => hn (inj i j hi hj e)
  have self : ∀ i, false = decide (r i < r i) := fun i => (decide_eq_false (Int.lt_irrefl _)).symm
  have go : ∀ b01 b02 b03 b12 b13 b23, (∀ i j, i < n → j < n → tab b01 b02 b03 b12 b13 b23 i j = decide (r i < r j)) → kIn n (kas_sort n) = true → minOk n (tab b01 b02 b03 b12 b13 b23) (kRun (tab b01 b02 b03 b12 b13 b23) (kas_sort n)) = true → (kas_sort n).kasWp cmp Q s := by
    intro b01 b02 b03 b12 b13 b23 ht hin hm
    obtain ⟨m1, m2, m3⟩ := minOk_use ht hm
    exact kRun_wp (n := n) (fun i j C hi hj q => hc i j C hi hj (ht i j hi hj ▸ q)) _ hin (h _ m1 m2 m3)
  have hn : n = 2 ∨ n = 3 ∨ n = 4 := by omega
  rcases hn with rfl | rfl | rfl
  · refine go (decide (r 0 < r 1)) false false false false false ?_ in2 (tab2 _)
    intro i j hi hj
    match i, j, hi, hj with
    | 0, 0, _, _ => exact self 0
    | 1, 1, _, _ => exact self 1
    | 0, 1, _, _ => rfl
    | 1, 0, _, _ => exact nd 0 1 (by omega) (by omega) (by omega)
    | _ + 2, _, h, _ => exact absurd h (by omega)
    | _, _ + 2, _, h => exact absurd h (by omega)
  · refine go (decide (r 0 < r 1)) (decide (r 0 < r 2)) false (decide (r 1 < r 2)) false false ?_ in3 ?_
    · intro i j hi hj
      match i, j, hi, hj with
      | 0, 0, _, _ => exact self 0
      | 1, 1, _, _ => exact self 1
      | 2, 2, _, _ => exact self 2
      | 0, 1, _, _ => rfl
      | 0, 2, _, _ => rfl
      | 1, 2, _, _ => rfl
      | 1, 0, _, _ => exact nd 0 1 (by omega) (by omega) (by omega)
      | 2, 0, _, _ => exact nd 0 2 (by omega) (by omega) (by omega)
      | 2, 1, _, _ => exact nd 1 2 (by omega) (by omega) (by omega)
      | _ + 3, _, h, _ => exact absurd h (by omega)
      | _, _ + 3, _, h => exact absurd h (by omega)
    · have := tab3 (decide (r 0 < r 1)) (decide (r 0 < r 2)) (decide (r 1 < r 2))
      rw [tr_dec] at this
      exact this
  · refine go (decide (r 0 < r 1)) (decide (r 0 < r 2)) (decide (r 0 < r 3)) (decide (r 1 < r 2)) (decide (r 1 < r 3)) (decide (r 2 < r 3)) ?_ in4 ?_
    · intro i j hi hj
      match i, j, hi, hj with
      | 0, 0, _, _ => exact self 0
      | 1, 1, _, _ => exact self 1
      | 2, 2, _, _ => exact self 2
      | 3, 3, _, _ => exact self 3
      | 0, 1, _, _ => rfl
      | 0, 2, _, _ => rfl
      | 0, 3, _, _ => rfl
      | 1, 2, _, _ => rfl
      | 1, 3, _, _ => rfl
      | 2, 3, _, _ => rfl
      | 1, 0, _, _ => exact nd 0 1 (by omega) (by omega) (by omega)
      | 2, 0, _, _ => exact nd 0 2 (by omega) (by omega) (by omega)
      | 3, 0, _, _ => exact nd 0 3 (by omega) (by omega) (by omega)
      | 2, 1, _, _ => exact nd 1 2 (by omega) (by omega) (by omega)
      | 3, 1, _, _ => exact nd 1 3 (by omega) (by omega) (by omega)
      | 3, 2, _, _ => exact nd 2 3 (by omega) (by omega) (by omega)
      | _ + 4, _, h, _ => exact absurd h (by omega)
      | _, _ + 4, _, h => exact absurd h (by omega)
    · have := tab4 (decide (r 0 < r 1)) (decide (r 0 < r 2)) (decide (r 0 < r 3)) (decide (r 1 < r 2)) (decide (r 1 < r 3)) (decide (r 2 < r 3))
      rw [tr_dec, tr_dec, tr_dec, tr_dec] at this
      exact this
/-- the pairs by the ledger, item by item -/
theorem Prs.at {news : List (Addr × Obj)} {vs : List Value} {ps : List (Int × Str)} (h : Prs news vs ps) : ∀ i, i < ps.length → ∃ a u x, vs.getD i Value.none = .ref a ∧ (a, tupO (ps.getD i default).1 u (ps.getD i default).2 x) ∈ news := by
  intro i hi
  have hv : vs[i]? = some (vs.getD i Value.none) := by
    rw [List.getD_eq_getElem?_getD, List.getElem?_eq_getElem (All2.length h ▸ hi)]; rfl
  exact (All2.at h i _ hv).2
theorem Prs.len {news : List (Addr × Obj)} {vs : List Value} {ps : List (Int × Str)} (h : Prs news vs ps) : vs.length = ps.length := All2.length h
theorem Prs.tups {news : List (Addr × Obj)} {h₀ h : Heap} {L : Addr} (N : News h₀ L h news) {vs : List Value} {ps : List (Int × Str)} (hp : Prs news vs ps) : ∃ fs, KatTups h vs fs ∧ fs.length = ps.length ∧ ∀ v ∈ fs, ∃ t u, v = Value.int t u := by
  refine All2.ind (M := fun vs ps => ∃ fs, KatTups h vs fs ∧ fs.length = ps.length ∧ ∀ v ∈ fs, ∃ t u, v = Value.int t u) ?_ ?_ hp
  · exact ⟨[], trivial, rfl, fun _ h => nomatch h⟩
  · intro v p vs ps h _ ih
    obtain ⟨a, u, x, e, hm⟩ := h
    obtain ⟨fs, k, l, hf⟩ := ih
    subst e
    exact ⟨.int p.1 u :: fs, KatTups.cons (N _ hm).1 rfl rfl rfl k, congrArg Nat.succ l, List.forall_mem_cons.mpr ⟨⟨_, _, rfl⟩, hf⟩⟩
section
variable {prog : Program} {w : World} {A : Around} {E : Value → Shared → Prop} {s : Shared} {h₀ : Heap} {L a : Addr} {m : Str → Option Value} {news : List (Addr × Obj)} {v : Value}
theorem one_list_sort {n : Nat} {P : PySem.Fin → Shared → Prop} (F : Fr h₀ L s.heap m) (N : News h₀ L s.heap news) (ho : s.heap.get? a = some (seqObj "list" [v].toArray n)) (haL : a ≠ L) (ha0 : h₀.get? a = none) (hna : ∀ p ∈ news, p.1 ≠ a)
    (h : ∀ c h', Fr h₀ L h' m → News h₀ L h' ((a, listOf [v].toArray c) :: news) → P (.done (.ret .none)) { s with heap := h' }) :
    wpAny (model prog w) A (Builtin.«list.sort» ⟨[.ref a], []⟩) P E s := by
  have s1 := Heap.SameBut.update s.heap a (Obj.mapSeq fun _ => (#[] : Array Value))
  obtain ⟨e1, ho1⟩ : ∃ e1, (s.heap.update a (Obj.mapSeq fun _ => (#[] : Array Value))).get? a = some (seqObj "list" #[] e1) := ⟨_, get?_update_seq ho fun _ => #[]⟩
  have F3 : Fr h₀ L (((s.heap.update a (Obj.mapSeq fun _ => (#[] : Array Value))).push (seqObj "tuple" [v].toArray 0)).push (seqObj "list" #[] 0)) m := ((kas_fr F s1 haL ha0).push _).push _
  have N2 : News h₀ L (((s.heap.update a (Obj.mapSeq fun _ => (#[] : Array Value))).push (seqObj "tuple" [v].toArray 0)).push (seqObj "list" #[] 0)) news :=
    (kas_news N s1 hna).grown fun b x e => Heap.get?_push_of_some _ (Heap.get?_push_of_some _ e)
  have N3 : News h₀ L (((s.heap.update a (Obj.mapSeq fun _ => (#[] : Array Value))).push (seqObj "tuple" [v].toArray 0)).push (seqObj "list" #[] 0)) ((a, seqObj "list" #[] e1) :: news) := fun p hp => by
    rcases List.mem_cons.mp hp with rfl | hp
    · exact ⟨Heap.get?_push_of_some _ (Heap.get?_push_of_some _ ho1), haL, ha0⟩
    · exact N2 p hp
  rw [list_sort_plain]
  refine wpAny_bind (listItems_at ho rfl ?_)
  refine wpAny_bind (listUpdate_at ho rfl ?_ (by rw [List.size_toArray, sizeLine_eq]; simp) (Nat.zero_le _))
  refine wpAny_bind (seqEpoch_at ho1 rfl ?_)
  refine wpAny_bind (wpAny_newTuple ?_ (by show [v].length ≤ _; rw [sizeLine_eq]; simp))
  refine wpAny_bind (wpAny_newList ?_ (Nat.zero_le _))
  refine wpAny_holding ?_
  show wpAny (model prog w) A _ P E { s with heap := ((s.heap.update a (Obj.mapSeq fun _ => (#[] : Array Value))).push (seqObj "tuple" [v].toArray 0)).push (seqObj "list" #[] 0) }
  dsimp only
  have hn2 : [v].toArray.size < 2 := by simp
  rw [if_pos hn2, if_pos hn2]
  refine wpAny_bind (wpAny_pure ?_)
  refine wpAny_bind (wpAny_pure ?_)
  dsimp only
  have na := N3 (a, seqObj "list" #[] e1) (.head _)
  have hout : (arrOf (SortSt.mk' general' ([v].toArray.zip [v].toArray) #[] 7 none)).map (·.2) = [v].toArray := by
    show ([v].toArray.zip [v].toArray).map (·.2) = [v].toArray
    simp
  have hf : failedOf (SortSt.mk' general' ([v].toArray.zip [v].toArray) #[] 7 none) = none := rfl
  rw [hout]
  have s2 := Heap.SameBut.update (((s.heap.update a (Obj.mapSeq fun _ => (#[] : Array Value))).push (seqObj "tuple" [v].toArray 0)).push (seqObj "list" #[] 0)) a (Obj.mapSeq fun _ => [v].toArray)
  obtain ⟨c2, hc2⟩ : ∃ c2, ((((s.heap.update a (Obj.mapSeq fun _ => (#[] : Array Value))).push (seqObj "tuple" [v].toArray 0)).push (seqObj "list" #[] 0)).update a (Obj.mapSeq fun _ => [v].toArray)).get? a = some (seqObj "list" [v].toArray c2) := ⟨_, get?_update_seq na.1 fun _ => [v].toArray⟩
  refine wpAny_bind (seqEpoch_at na.1 rfl ?_)
  refine wpAny_bind (listUpdate_at na.1 rfl ?_ (Nat.zero_le _) (by rw [List.size_toArray, sizeLine_eq]; simp))
  simp only [bne_self_eq_false, Bool.false_eq_true, if_false]
  refine wpAny_pure (h c2 _ (kas_fr F3 s2 na.2.1 na.2.2) ?_)
  exact news_set (pre := []) N3 (fun _ h => nomatch h) hna s2 hc2
theorem one_sorted {l : Addr} {Q : Value → Shared → Prop} (F : Fr h₀ L s.heap m) (N : News h₀ L s.heap news) (hl : s.heap.IsList l [v].toArray)
    (h : ∀ D c h', Fr h₀ L h' m → News h₀ L h' ((D, listOf [v].toArray c) :: news) → (∀ q ∈ news, q.1 < D) → Q (.ref D) { s with heap := h' }) :
    wpAny (model prog w) A (call (.builtin "sorted") [.ref l]) Q E s := by
  refine Calls.call_function_entry kind_sorted plain_sorted entry_sorted (args_sorted1 _) ?_
  unfold Builtin.«sorted»
  refine wpAny_bind (m := checkCount "sorted" 1 1 _) (wpAny_pure ?_)
  refine wpAny_bind (collect_list hl ?_ (by rw [sizeLine_eq]; simp))
  refine wpAny_bind (wpAny_newList ?_ (by rw [sizeLine_eq]; simp))
  have hsz : ((s.heap.push (seqObj "list" #[] 0)).update s.heap.objs.size (Obj.mapSeq (· ++ [v].toArray))).objs.size = s.heap.objs.size + 1 := by
    rw [Heap.size_update, size_push']
  have hoL : (((s.heap.push (seqObj "list" #[] 0)).update s.heap.objs.size (Obj.mapSeq (· ++ [v].toArray))).push (seqObj "list" [v].toArray 0)).get? (s.heap.objs.size + 1) = some (seqObj "list" [v].toArray 0) := by
    rw [← hsz]; exact Heap.get?_push_size _ rfl
  have keep : ∀ b o, s.heap.get? b = some o → (((s.heap.push (seqObj "list" #[] 0)).update s.heap.objs.size (Obj.mapSeq (· ++ [v].toArray))).push (seqObj "list" [v].toArray 0)).get? b = some o := fun b o q => by
    have hlt : b < s.heap.objs.size := Heap.lt_size q
    rw [Heap.get?_push_ne _ _ _ (by rw [hsz]; exact Nat.ne_of_lt (Nat.lt_succ_of_lt hlt)), Heap.get?_update_ne _ _ _ _ (Nat.ne_of_lt hlt), Heap.get?_push_ne _ _ _ (Nat.ne_of_lt hlt)]
    exact q
  have hL : L < s.heap.objs.size := F.ns.lt
  show wpAny _ _ _ _ _ { s with heap := ((s.heap.push (seqObj "list" #[] 0)).update s.heap.objs.size (Obj.mapSeq (· ++ [v].toArray))).push (seqObj "list" [v].toArray 0) }
  rw [hsz]
  refine wpAny_bind (wpAny_holding (wpAny_call_entry slot_list_sort ⟨_, hoL, rfl⟩ entry_list_sort ?body (args_list_sort _)))
  case body =>
    refine one_list_sort (s := { s with heap := ((s.heap.push (seqObj "list" #[] 0)).update s.heap.objs.size (Obj.mapSeq (· ++ [v].toArray))).push (seqObj "list" [v].toArray 0) })
      (F.kept keep) (N.grown keep) hoL (Nat.ne_of_gt (Nat.lt_succ_of_lt hL)) (Heap.get?_none_of_le (Nat.le_trans F.above (Nat.le_succ_of_le (Nat.le_of_lt hL))))
      (fun p hp => Nat.ne_of_lt (Nat.lt_succ_of_lt (Heap.lt_size (N p hp).1))) fun c h' F' N' => ?_
    exact ⟨_, rfl, wpAny_pure ⟨_, rfl, h _ c h' F' N' fun q hq => Nat.lt_succ_of_lt (Heap.lt_size (N q hq).1)⟩⟩
/-- sorted over a list of pairs of the ledger: the least comes first -/
theorem sorted_pairs {l : Addr} {vs : List Value} {ws : List (Int × Str)} {Q : Value → Shared → Prop} (F : Fr h₀ L s.heap m) (N : News h₀ L s.heap news) (hl : s.heap.IsList l vs.toArray) (hp : Prs news vs ws) (h1 : 1 ≤ ws.length) (h4 : ws.length ≤ 4) (hs : OnSite ws)
    (inj : ∀ i j, i < ws.length → j < ws.length → rk (ws.getD i default) = rk (ws.getD j default) → i = j)
    (h : ∀ D out c h' i, Fr h₀ L h' m → News h₀ L h' ((D, listOf out c) :: news) → (∀ q ∈ news, q.1 < D) → out.size = ws.length → out[0]? = some (vs.getD i Value.none) → i < ws.length → (∀ j, j < ws.length → rk (ws.getD i default) ≤ rk (ws.getD j default)) → Q (.ref D) { s with heap := h' }) :
    wpAny (model prog w) A (call (.builtin "sorted") [.ref l]) Q E s := by
  have hlen := hp.len
  by_cases h2 : ws.length = 1
  · obtain ⟨v, rfl⟩ : ∃ v, vs = [v] := by
      exact List.length_eq_one_iff.mp (hlen.trans h2)
    refine one_sorted F N hl fun D c h' F' N' hD => h D _ c h' 0 F' N' hD ?_ rfl (by omega) fun j hj => ?_
    · rw [h2]; rfl
    · obtain rfl : j = 0 := by omega
      exact Int.le_refl _
  · refine kat_sorted F N hl (by omega) (by omega) fun D e1 h' F' N' hD => ?_
    have N'' : News h₀ L h' news := fun p hp => N' p (List.mem_cons_of_mem _ hp)
    obtain ⟨fs, hk, hfl, hfs⟩ := hp.tups N''
    refine kat_kind (T := .type "int") hk (by omega) (fun v hv => ?_) rfl ?_
    · obtain ⟨t, u, rfl⟩ := hfs v hv
      exact Looks.now
    · have e : (Value.type "int" != Value.type "tuple") = true := by decide
      rw [e, hlen]
      refine sort_wp (r := fun i => rk (ws.getD i default)) (by omega) h4 inj (fun i j C hi hj hC => ?_) fun p hpz hp0 hmin => ?_
      · obtain ⟨ai, ui, xi, ei, mi⟩ := hp.at i hi
        obtain ⟨aj, uj, xj, ej, mj⟩ := hp.at j hj
        unfold kas_ask
        rw [ei, ej]
        refine pair_keyLt (N'' _ mi).1 (N'' _ mj).1 ?_
        rw [show ltP ((ws.getD i default).1, (ws.getD i default).2) ((ws.getD j default).1, (ws.getD j default).2) = decide (rk (ws.getD i default) < rk (ws.getD j default)) from ltP_rk (hs _ ?_) (hs _ ?_)]
        · exact hC
        · rw [List.getD_eq_getElem?_getD, List.getElem?_eq_getElem hi]; exact List.getElem_mem _
        · rw [List.getD_eq_getElem?_getD, List.getElem?_eq_getElem hj]; exact List.getElem_mem _
      · refine KasFin.intro F' N' (g := fun o => (D, o) :: news) ?_ fun h'' c F'' N2 => h D _ c h'' (p.getD 0 9) F'' N2 hD ?_ ?_ hp0 hmin
        · exact UpdF.head fun q hq => Nat.ne_of_lt (hD q hq)
        · simp [hpz]
        · have hz : 0 < p.size := by omega
          have e0 : p.toList[0]? = some (p.getD 0 9) := by simp [Array.getD, hz]
          rw [List.getElem?_toArray, List.getElem?_map, e0]
          rfl
end
end Mine
end
section
open PySem PySem.W PyProof.Rows PySem.Calls PySem.Spec
namespace Mine
/-- waiting pages: once each, and all seen -/
noncomputable def JW (c : Site) : Prop := (c.1.map (·.2)).Nodup ∧ ∀ p ∈ c.1, p.2 ∈ c.2
theorem nodup_at {α : Type} {l : List α} (h : l.Nodup) {i j : Nat} (hi : i < l.length) (hj : j < l.length) (e : l[i] = l[j]) : i = j := by
  have hp := List.pairwise_iff_getElem.mp h
  by_cases h1 : i < j
  · exact absurd e (hp i j hi hj h1)
  by_cases h2 : j < i
  · exact absurd e.symm (hp j i hj hi h2)
  omega
theorem nodup_fst {ps : List (Int × Str)} (h : (ps.map (·.2)).Nodup) : ps.Nodup := by
  induction ps with
  | nil => exact .nil
  | cons p r ih =>
    rw [List.map_cons, List.nodup_cons] at h
    exact List.nodup_cons.mpr ⟨fun hp => h.1 (List.mem_map.mpr ⟨p, hp, rfl⟩), ih h.2⟩
theorem rk_at {ws : List (Int × Str)} (hs : OnSite ws) (hn : ws.Nodup) : ∀ i j, i < ws.length → j < ws.length → rk (ws.getD i default) = rk (ws.getD j default) → i = j := by
  intro i j hi hj e
  rw [List.getD_eq_getElem?_getD, List.getD_eq_getElem?_getD, List.getElem?_eq_getElem hi, List.getElem?_eq_getElem hj] at e
  dsimp only [Option.getD_some] at e
  have q := rk_inj (hs _ (List.getElem_mem hi)) (hs _ (List.getElem_mem hj)) e
  exact nodup_at hn hi hj q
theorem head_mem {ps : List (Int × Str)} (h : ps ≠ []) : ps.headD default ∈ ps := by
  cases ps with
  | nil => exact absurd rfl h
  | cons p r => exact .head _
/-- the least of those that wait is the heap's head -/
theorem least_head {ws : List (Int × Str)} {c : Site × List Entry3} (hJ : JC c) (hp : ws.Perm c.1.1) (hne : c.1.1 ≠ []) {i : Nat} (hi : i < ws.length) (hmin : ∀ j, j < ws.length → rk (ws.getD i default) ≤ rk (ws.getD j default)) : ws.getD i default = c.1.1.headD default := by
  have hm : ws.getD i default ∈ c.1.1 := by
    refine hp.mem_iff.mp ?_
    rw [List.getD_eq_getElem?_getD, List.getElem?_eq_getElem hi]
    exact List.getElem_mem hi
  have h1 := head_least c.1.1 hJ.len4 hJ.2.2.1 hJ.2.2.2.1 _ hm
  have hh : c.1.1.headD default ∈ ws := hp.mem_iff.mpr (head_mem hne)
  obtain ⟨j, hj, ej⟩ := List.getElem_of_mem hh
  have h2 := hmin j hj
  have e2 : ws.getD j default = c.1.1.headD default := by rw [List.getD_eq_getElem?_getD, List.getElem?_eq_getElem hj]; exact ej
  rw [e2] at h2
  exact rk_inj (hJ.2.2.1 _ hm) (hJ.2.2.1 _ (head_mem hne)) (Int.le_antisymm h2 h1)
/-- those that wait, but the least -/
theorem rest_perm {ws : List (Int × Str)} {c : Site × List Entry3} (hJ : JC c) (hw : JW c.1) (hp : ws.Perm c.1.1) (hne : c.1.1 ≠ []) : (ws.filter fun p => decide (p ≠ c.1.1.headD default)).Perm (popR c.1.1) := by
  have hq := pop_perm c.1.1 hJ.len4 hne
  have hn : (c.1.1.headD default :: popR c.1.1).Nodup := hq.nodup_iff.mpr (nodup_fst hw.1)
  have h1 := (hp.trans hq.symm).filter fun p => decide (p ≠ c.1.1.headD default)
  rw [List.filter_cons, if_neg (by simp)] at h1
  have e : (popR c.1.1).filter (fun p => decide (p ≠ c.1.1.headD default)) = popR c.1.1 := by
    refine List.filter_eq_self.mpr fun p hm => ?_
    have := (List.nodup_cons.mp hn).1
    exact decide_eq_true fun q => this (q ▸ hm)
  rw [e] at h1
  exact h1
theorem JW.pop {c : Site × List Entry3} (hJ : JC c) (hw : JW c.1) (hne : c.1.1 ≠ []) : JW (popR c.1.1, c.1.2) := by
  have hq := pop_perm c.1.1 hJ.len4 hne
  have hm := hq.map (·.2)
  refine ⟨?_, fun p hp => hw.2 p (hq.mem_iff.mp (.tail _ hp))⟩
  have := hm.nodup_iff.mpr hw.1
  rw [List.map_cons] at this
  exact (List.nodup_cons.mp this).2
/-- the links not yet seen -/
noncomputable def freshK (page : Str) (seen : List Str) (n : Nat) : List Nat := (List.range n).filter fun k => !((linksOf page)[k]?.map fun x => seen.any (· == x)).getD true
noncomputable def linkA (page : Str) (k : Nat) : Str := (linksOf page).getD k default
theorem freshK_succ (page : Str) (seen : List Str) (n : Nat) {x : Str} (hx : (linksOf page)[n]? = some x) : freshK page seen (n + 1) = freshK page seen n ++ (if seen.any (· == x) = true then [] else [n]) := by
  unfold freshK
  rw [List.range_succ, List.filter_append]
  congr 1
  simp only [List.filter_cons, List.filter_nil, hx, Option.map_some, Option.getD_some]
  cases seen.any (· == x) <;> rfl
theorem freshK_lt {page : Str} {seen : List Str} {n k : Nat} (h : k ∈ freshK page seen n) : k < n := by
  unfold freshK at h
  simpa using (List.mem_filter.mp h).1
theorem links_nodup : ∀ p ∈ pagesP, (linksOf p).Nodup := by decide
/-- the links laid one by one, and all at once -/
theorem pushN_all {n : Nat} {page : Str} {d : Site} {now dl : Int} (hp : page ∈ pagesP) (hJ : JK n page d) (hw : JW d) : ∀ k, k ≤ (linksOf page).length →
    (pushN now dl page d k).1.Perm (d.1 ++ (freshK page d.2 k).map fun i => (now + wtOf i * dl, linkA page i)) ∧ (pushN now dl page d k).2 = d.2 ++ (freshK page d.2 k).map (linkA page) ∧ JW (pushN now dl page d k)
  | 0, _ => by
    refine ⟨?_, ?_, hw⟩
    · show d.1.Perm _
      simp [freshK]
    · show d.2 = _
      simp [freshK]
  | k + 1, hk => by
    obtain ⟨h1, h2, h3⟩ := pushN_all (now := now) (dl := dl) hp hJ hw k (by omega)
    have hx : (linksOf page)[k]? = some (linksOf page)[k] := List.getElem?_eq_getElem (by omega)
    generalize hxe : (linksOf page)[k] = x at hx
    have hlA : linkA page k = x := by unfold linkA; rw [List.getD_eq_getElem?_getD, hx]; rfl
    have hjk := hJ.pushN (now := now) (dl := dl) hp k
    show (pushK now dl page (pushN now dl page d k) k).1.Perm _ ∧ (pushK now dl page (pushN now dl page d k) k).2 = _ ∧ JW (pushK now dl page (pushN now dl page d k) k)
    rw [freshK_succ page d.2 k hx]
    have hseen : (pushN now dl page d k).2.any (· == x) = d.2.any (· == x) := by
      rw [h2, List.any_append]
      have : ((freshK page d.2 k).map (linkA page)).any (· == x) = false := by
        rw [List.any_eq_false]
        intro y hy
        obtain ⟨i, hi, rfl⟩ := List.mem_map.mp hy
        have hik := freshK_lt hi
        have hli : linkA page i = (linksOf page)[i] := by unfold linkA; rw [List.getD_eq_getElem?_getD, List.getElem?_eq_getElem (by omega)]; rfl
        intro e
        rw [beq_iff_eq, hli, ← hxe] at e
        have := nodup_at (links_nodup page hp) (by omega) (by omega) e
        omega
      rw [this, Bool.or_false]
    unfold pushK
    rw [hx]
    dsimp only
    rw [hseen]
    by_cases hs : d.2.any (· == x) = true
    · rw [if_pos hs, if_pos hs]
      simpa using ⟨h1, h2, h3⟩
    · rw [if_neg hs, if_neg hs]
      have hns : x ∉ (pushN now dl page d k).2 := fun q => hs (hseen ▸ any_iff.mpr q)
      have hroom := hjk.room hp (List.mem_of_getElem? hx) hns
      refine ⟨?_, ?_, ?_⟩
      · refine (push_perm _ _ hroom).trans ?_
        rw [List.map_append, ← List.append_assoc]
        have := h1.append_right [(now + wtOf k * dl, x)]
        simpa [hlA] using this
      · dsimp only
        rw [h2, List.map_append, ← List.append_assoc]
        simp [hlA]
      · have hpp := push_perm (now + wtOf k * dl, x) _ hroom
        refine ⟨?_, fun p hp' => ?_⟩
        · dsimp only
          rw [(hpp.map (·.2)).nodup_iff, List.map_append]
          refine List.nodup_append.mpr ⟨h3.1, by simp, ?_⟩
          intro a ha b hb e
          have hb' : b = x := by simpa using hb
          subst e; subst hb'
          obtain ⟨q, hq, hq2⟩ := List.mem_map.mp ha
          exact hns (hq2 ▸ h3.2 q hq)
        · dsimp only at hp' ⊢
          rcases List.mem_append.mp (hpp.mem_iff.mp hp') with h | h
          · exact List.mem_append_left _ (h3.2 p h)
          · rw [List.mem_singleton.mp h]; simp
/-- the rules that hold for a page -/
noncomputable def heldL (rules : List (Str × Bool)) (page : Str) : List (Int × Bool) := (rules.filter fun r => decide (mval r.1 page ≠ 0)).map fun r => ((r.1.length : Int), r.2)
noncomputable def bestL (b : Int × Bool) (l : List (Int × Bool)) : Int × Bool := l.foldl (fun b x => if hgt x b = true then x else b) b
theorem argBest_list (l : List (Int × Bool)) : ∀ k, k < l.length → l.getD (argBest (fun i j => hgt (l.getD i default) (l.getD j default)) k) default = bestL (l.getD 0 default) (l.tail.take k)
  | 0, h => by
    show l.getD 0 default = _
    simp [bestL]
  | k + 1, h => by
    have ih := argBest_list l k (by omega)
    have e : l.tail.take (k + 1) = l.tail.take k ++ [l.getD (k + 1) default] := by
      have h1 : k < l.tail.length := by rw [List.length_tail]; omega
      rw [List.take_succ, List.getElem?_eq_getElem h1, Option.toList_some, List.getElem_tail, List.getD_eq_getElem?_getD, List.getElem?_eq_getElem h]
      rfl
    rw [e]
    unfold bestL at ih ⊢
    rw [List.foldl_append, List.foldl_cons, List.foldl_nil, ← ih]
    show l.getD (if hgt (l.getD (k + 1) default) (l.getD (argBest (fun i j => hgt (l.getD i default) (l.getD j default)) k) default) = true then k + 1 else argBest (fun i j => hgt (l.getD i default) (l.getD j default)) k) default = _
    split <;> rfl
theorem mval_pos {p way : Str} (h : mval p way ≠ 0) : mval p way = (p.length : Int) + 1 := by
  unfold mval at h ⊢
  split
  · rfl
  · rename_i h1
    rw [if_neg h1] at h
    split
    · rfl
    · rename_i h2
      rw [if_neg h2] at h
      exact absurd rfl h
theorem stepA_best (way : Str) (b : Int × Bool) (r : Str × Bool) (h : mval r.1 way ≠ 0) : stepA way (b.1 + 1, b.2) r = ((if hgt ((r.1.length : Int), r.2) b = true then ((r.1.length : Int), r.2) else b).1 + 1, (if hgt ((r.1.length : Int), r.2) b = true then ((r.1.length : Int), r.2) else b).2) := by
  have e := mval_pos h
  unfold stepA hgt
  rw [if_neg h, e]
  obtain ⟨b1, b2⟩ := b
  obtain ⟨p, rb⟩ := r
  dsimp only
  by_cases h1 : (p.length : Int) = b1
  · subst h1
    rw [if_neg (by omega), if_pos rfl]
    cases b2 <;> cases rb <;> simp
  · rw [if_neg h1]
    by_cases h2 : (p.length : Int) > b1
    · rw [if_pos (by omega), if_pos (decide_eq_true h2)]
    · rw [if_neg (by omega), if_neg (by omega), if_neg (by simpa using h2)]
theorem allow_held (way : Str) : ∀ (rules : List (Str × Bool)) (b : Int × Bool), rules.foldl (stepA way) (b.1 + 1, b.2) = ((bestL b (heldL rules way)).1 + 1, (bestL b (heldL rules way)).2)
  | [], b => rfl
  | r :: rs, b => by
    rw [List.foldl_cons]
    by_cases h : mval r.1 way = 0
    · have e1 : stepA way (b.1 + 1, b.2) r = (b.1 + 1, b.2) := by unfold stepA; rw [if_pos h]
      have e2 : heldL (r :: rs) way = heldL rs way := by unfold heldL; rw [List.filter_cons, if_neg (by simp [h])]
      rw [e1, e2]
      exact allow_held way rs b
    · have e2 : heldL (r :: rs) way = ((r.1.length : Int), r.2) :: heldL rs way := by unfold heldL; rw [List.filter_cons, if_pos (by simp [h])]; rfl
      rw [stepA_best way b r h, e2]
      exact allow_held way rs _
theorem allowP_held : ∀ (rules : List (Str × Bool)) (way : Str), allowP rules way = match heldL rules way with | [] => true | b :: r => (bestL b r).2
  | [], way => rfl
  | r :: rs, way => by
    by_cases h : mval r.1 way = 0
    · have e2 : heldL (r :: rs) way = heldL rs way := by unfold heldL; rw [List.filter_cons, if_neg (by simp [h])]
      have ih := allowP_held rs way
      rw [e2, ← ih]
      unfold allowP
      rw [List.foldl_cons]
      have e1 : stepA way (-1, true) r = (-1, true) := by unfold stepA; rw [if_pos h]
      rw [e1]
    · have e2 : heldL (r :: rs) way = ((r.1.length : Int), r.2) :: heldL rs way := by unfold heldL; rw [List.filter_cons, if_pos (by simp [h])]; rfl
      rw [e2]
      dsimp only
      unfold allowP
      rw [List.foldl_cons]
      have e1 : stepA way (-1, true) r = ((r.1.length : Int) + 1, r.2) := by
        unfold stepA
        have e := mval_pos h
        rw [if_neg h, e, if_pos (by omega)]
      rw [e1]
      have := allow_held way rs ((r.1.length : Int), r.2)
      dsimp only at this
      rw [this]
/-- by the greatest of those that hold -/
theorem allowP_max {rules : List (Str × Bool)} {way : Str} (hne : heldL rules way ≠ []) : allowP rules way = ((heldL rules way).getD (argBest (fun i j => hgt ((heldL rules way).getD i default) ((heldL rules way).getD j default)) ((heldL rules way).length - 1)) default).2 := by
  rw [allowP_held]
  generalize heldL rules way = l at hne
  cases l with
  | nil => exact absurd rfl hne
  | cons b r =>
    rw [argBest_list _ _ (by simp)]
    simp
theorem allowP_none {rules : List (Str × Bool)} {way : Str} (h : heldL rules way = []) : allowP rules way = true := by rw [allowP_held, h]
/-- the test of the walk, over the pages -/
noncomputable def covW (p page : Str) : Bool := [Str.ofString "/", page].any (fun x => x == p) || (Txt.slice (page ++ Str.ofString "/") none (some (↑p.length + 1)) == p ++ Str.ofString "/")
theorem covW_mval : ∀ p ∈ pagesP, ∀ way ∈ pagesP, covW p way = decide (mval p way ≠ 0) := by decide +kernel
end Mine
end
section
open PySem PySem.W PyProof.Rows PySem.Calls PySem.Spec
namespace Mine
theorem kt_Crawl : True := by
  k_with_none
  k_with "eval Constant str" => (k_here; with_reducible refine const_str ?_)
  k_with "eval Constant int" => (k_here; with_reducible refine const_int ?_)
  k_with "spliced" => (k_here; dsimp only)
  k_with "storeName" => (k_here; dsimp only)
  k_with "call ref" => (k_here; k_dflt ((first | refine links_use (es := [_, _, _, _, _, _]) (by k_asm) (by k_asm) (by k_asm) (by k_asm) (by k_asm) (by ktr_room) (by ktr_units) (by assumption) (by tb_start) ?_ | refine links_use (es := [_, _, _, _, _, _, _]) (by k_asm) (by k_asm) (by k_asm) (by k_asm) (by k_asm) (by ktr_room) (by ktr_units) (by assumption) (by tb_start) ?_ | refine links_use (es := [_, _, _, _, _, _, _, _]) (by k_asm) (by k_asm) (by k_asm) (by k_asm) (by k_asm) (by ktr_room) (by ktr_units) (by assumption) (by tb_start) ?_); k_whole; intro d' tl' h' tk' hL' hO' F' N'; (try dsimp only); (simp only [List.cons_append, List.nil_append] at N'); (try k_sweep)))
  k_with "m ne" => (first | assumption | exact Ne.symm (by assumption) | (refine neN ?_; (try dsimp only); (repeat (rename @Ne Nat _ _ => hz9; clear hz9)); (repeat (rename @Ne Nat _ _ ∧ _ => hz9; clear hz9)); (repeat (rename (@Ne Nat _ _ ∧ _) ∧ _ => hz9; clear hz9)); omega) | ((repeat (rename @Ne Nat _ _ ∧ _ => hz9; first | exact hz9.1 | exact hz9.1.symm | exact hz9.2.1 | exact hz9.2.1.symm | exact hz9.2.2.1 | exact hz9.2.2.1.symm | exact hz9.2.2.2.1 | exact hz9.2.2.2.1.symm | exact hz9.2.2.2.2.1 | exact hz9.2.2.2.2.1.symm | exact hz9.2.2.2.2.2.1 | exact hz9.2.2.2.2.2.1.symm | exact hz9.2.2.2.2.2.2.1 | exact hz9.2.2.2.2.2.2.1.symm | exact hz9.2.2.2.2.2.2.2.1 | exact hz9.2.2.2.2.2.2.2.1.symm | exact hz9.2.2.2.2.2.2.2.2.1 | exact hz9.2.2.2.2.2.2.2.2.1.symm | exact hz9.2.2.2.2.2.2.2.2.2.1 | exact hz9.2.2.2.2.2.2.2.2.2.1.symm | exact hz9.2.2.2.2.2.2.2.2.2.2.1 | exact hz9.2.2.2.2.2.2.2.2.2.2.1.symm | exact hz9.2.2.2.2.2.2.2.2.2.2.2.1 | exact hz9.2.2.2.2.2.2.2.2.2.2.2.1.symm | exact hz9.2.2.2.2.2.2.2.2.2.2.2.2.1 | exact hz9.2.2.2.2.2.2.2.2.2.2.2.2.1.symm | exact hz9.2.2.2.2.2.2.2.2.2.2.2.2.2.1 | exact hz9.2.2.2.2.2.2.2.2.2.2.2.2.2.1.symm | exact hz9.2.2.2.2.2.2.2.2.2.2.2.2.2.2.1 | exact hz9.2.2.2.2.2.2.2.2.2.2.2.2.2.2.1.symm | clear hz9)); done) | ((repeat (rename (@Ne Nat _ _ ∧ _) ∧ _ => hz9; first | exact hz9.1.1 | exact hz9.1.1.symm | exact hz9.1.2.1 | exact hz9.1.2.1.symm | exact hz9.1.2.2 | exact hz9.1.2.2.symm | exact hz9.2.1.1 | exact hz9.2.1.1.symm | exact hz9.2.1.2.1 | exact hz9.2.1.2.1.symm | exact hz9.2.1.2.2 | exact hz9.2.1.2.2.symm | exact hz9.2.2.1.1 | exact hz9.2.2.1.1.symm | exact hz9.2.2.1.2.1 | exact hz9.2.2.1.2.1.symm | exact hz9.2.2.1.2.2 | exact hz9.2.2.1.2.2.symm | exact hz9.2.2.2.1.1 | exact hz9.2.2.2.1.1.symm | exact hz9.2.2.2.1.2.1 | exact hz9.2.2.2.1.2.1.symm | exact hz9.2.2.2.1.2.2 | exact hz9.2.2.2.1.2.2.symm | exact hz9.2.2.2.2.1.1 | exact hz9.2.2.2.2.1.1.symm | exact hz9.2.2.2.2.1.2.1 | exact hz9.2.2.2.2.1.2.1.symm | exact hz9.2.2.2.2.1.2.2 | exact hz9.2.2.2.2.1.2.2.symm | exact hz9.2.2.2.2.2.1.1 | exact hz9.2.2.2.2.2.1.1.symm | exact hz9.2.2.2.2.2.1.2.1 | exact hz9.2.2.2.2.2.1.2.1.symm | exact hz9.2.2.2.2.2.1.2.2 | exact hz9.2.2.2.2.2.1.2.2.symm | exact hz9.2.2.2.2.2.2.1.1 | exact hz9.2.2.2.2.2.2.1.1.symm | exact hz9.2.2.2.2.2.2.1.2.1 | exact hz9.2.2.2.2.2.2.1.2.1.symm | exact hz9.2.2.2.2.2.2.1.2.2 | exact hz9.2.2.2.2.2.2.1.2.2.symm | exact hz9.2.2.2.2.2.2.2.1.1 | exact hz9.2.2.2.2.2.2.2.1.1.symm | exact hz9.2.2.2.2.2.2.2.1.2.1 | exact hz9.2.2.2.2.2.2.2.1.2.1.symm | exact hz9.2.2.2.2.2.2.2.1.2.2 | exact hz9.2.2.2.2.2.2.2.1.2.2.symm | exact hz9.2.2.2.2.2.2.2.2.1.1 | exact hz9.2.2.2.2.2.2.2.2.1.1.symm | exact hz9.2.2.2.2.2.2.2.2.1.2.1 | exact hz9.2.2.2.2.2.2.2.2.1.2.1.symm | exact hz9.2.2.2.2.2.2.2.2.1.2.2 | exact hz9.2.2.2.2.2.2.2.2.1.2.2.symm | exact hz9.2.2.2.2.2.2.2.2.2.1.1 | exact hz9.2.2.2.2.2.2.2.2.2.1.1.symm | exact hz9.2.2.2.2.2.2.2.2.2.1.2.1 | exact hz9.2.2.2.2.2.2.2.2.2.1.2.1.symm | exact hz9.2.2.2.2.2.2.2.2.2.1.2.2 | exact hz9.2.2.2.2.2.2.2.2.2.1.2.2.symm | exact hz9.2.2.2.2.2.2.2.2.2.2.1.1 | exact hz9.2.2.2.2.2.2.2.2.2.2.1.1.symm | exact hz9.2.2.2.2.2.2.2.2.2.2.1.2.1 | exact hz9.2.2.2.2.2.2.2.2.2.2.1.2.1.symm | exact hz9.2.2.2.2.2.2.2.2.2.2.1.2.2 | exact hz9.2.2.2.2.2.2.2.2.2.2.1.2.2.symm | exact hz9.2.2.2.2.2.2.2.2.2.2.2.1.1 | exact hz9.2.2.2.2.2.2.2.2.2.2.2.1.1.symm | exact hz9.2.2.2.2.2.2.2.2.2.2.2.1.2.1 | exact hz9.2.2.2.2.2.2.2.2.2.2.2.1.2.1.symm | exact hz9.2.2.2.2.2.2.2.2.2.2.2.1.2.2 | exact hz9.2.2.2.2.2.2.2.2.2.2.2.1.2.2.symm | exact hz9.2.2.2.2.2.2.2.2.2.2.2.2.1.1 | exact hz9.2.2.2.2.2.2.2.2.2.2.2.2.1.1.symm | exact hz9.2.2.2.2.2.2.2.2.2.2.2.2.1.2.1 | exact hz9.2.2.2.2.2.2.2.2.2.2.2.2.1.2.1.symm | exact hz9.2.2.2.2.2.2.2.2.2.2.2.2.1.2.2 | exact hz9.2.2.2.2.2.2.2.2.2.2.2.2.1.2.2.symm | exact hz9.2.2.2.2.2.2.2.2.2.2.2.2.2.1.1 | exact hz9.2.2.2.2.2.2.2.2.2.2.2.2.2.1.1.symm | exact hz9.2.2.2.2.2.2.2.2.2.2.2.2.2.1.2.1 | exact hz9.2.2.2.2.2.2.2.2.2.2.2.2.2.1.2.1.symm | exact hz9.2.2.2.2.2.2.2.2.2.2.2.2.2.1.2.2 | exact hz9.2.2.2.2.2.2.2.2.2.2.2.2.2.1.2.2.symm | exact hz9.2.2.2.2.2.2.2.2.2.2.2.2.2.2.1.1 | exact hz9.2.2.2.2.2.2.2.2.2.2.2.2.2.2.1.1.symm | exact hz9.2.2.2.2.2.2.2.2.2.2.2.2.2.2.1.2.1 | exact hz9.2.2.2.2.2.2.2.2.2.2.2.2.2.2.1.2.1.symm | exact hz9.2.2.2.2.2.2.2.2.2.2.2.2.2.2.1.2.2 | exact hz9.2.2.2.2.2.2.2.2.2.2.2.2.2.2.1.2.2.symm | exact hz9.2.2.2.2.2.2.2.2.2.2.2.2.2.2.2.1.1 | exact hz9.2.2.2.2.2.2.2.2.2.2.2.2.2.2.2.1.1.symm | exact hz9.2.2.2.2.2.2.2.2.2.2.2.2.2.2.2.1.2.1 | exact hz9.2.2.2.2.2.2.2.2.2.2.2.2.2.2.2.1.2.1.symm | exact hz9.2.2.2.2.2.2.2.2.2.2.2.2.2.2.2.1.2.2 | exact hz9.2.2.2.2.2.2.2.2.2.2.2.2.2.2.2.1.2.2.symm | exact hz9.2.2.2.2.2.2.2.2.2.2.2.2.2.2.2.2.1.1 | exact hz9.2.2.2.2.2.2.2.2.2.2.2.2.2.2.2.2.1.1.symm | exact hz9.2.2.2.2.2.2.2.2.2.2.2.2.2.2.2.2.1.2.1 | exact hz9.2.2.2.2.2.2.2.2.2.2.2.2.2.2.2.2.1.2.1.symm | exact hz9.2.2.2.2.2.2.2.2.2.2.2.2.2.2.2.2.1.2.2 | exact hz9.2.2.2.2.2.2.2.2.2.2.2.2.2.2.2.2.1.2.2.symm | clear hz9)); done) | (refine neN ?_; (try dsimp only); omega))
  k_with "m fits" => ((rw [PySem.sizeLine_eq]; omega))
  k_with "m in" => (first | assumption | exact Frag.In.keeps (by k_asm) (Fr.keep (by k_asm)))
  k_with "m all" => (first | assumption | exact Off.at (by assumption) (by (repeat (first | exact List.Mem.head _ | refine List.Mem.tail _ ?_))) | (tbn_letter; refine all_of_lt (by tbn_find) (by omega)))
  k_with "m mem" => (assumption)
  k_with "m rel" => (first | exact List.forall_mem_nil _ | exact fun q hq => hq | (refine List.forall_mem_cons.mpr ⟨by k_mem, ?_⟩; ktr_rel) | (intro q hq; repeat (first | exact hq | refine List.Mem.tail _ ?_ | exact List.mem_append_right _ hq)))
  k_with "m start" => (first | exact List.forall_mem_nil _ | (refine List.forall_mem_cons.mpr ⟨by (repeat (first | exact List.Mem.head _ | refine List.Mem.tail _ ?_)), ?_⟩; tb_start))
  trivial
noncomputable abbrev logO (t : Int) (u : Tok) (x : Str) (v : Tok) (y : Str) (q : Tok) : Obj := { cls := .type "tuple", data := .seq #[.int t u, .str x v, .str y q] }
/-- the values are the log's entries, by the ledger -/
noncomputable def Logs (R : List (Addr × Obj)) : List Value → List Entry3 → Prop :=
  All2 fun v r => ∃ a u x q, v = .ref a ∧ (a, logO r.1 u r.2.1 x r.2.2 q) ∈ R
theorem Logs.mono {R R' : List (Addr × Obj)} (hs : ∀ q ∈ R, q ∈ R') {vs : List Value} {rs : List Entry3} (h : Logs R vs rs) : Logs R' vs rs :=
  All2.imp (fun _ _ => Exists.imp fun _ => Exists.imp fun _ => Exists.imp fun _ => Exists.imp fun _ => And.imp_right (hs _)) h
theorem Logs.length {R : List (Addr × Obj)} {vs : List Value} {rs : List Entry3} (h : Logs R vs rs) : vs.length = rs.length := All2.length h
theorem Logs.snoc {R : List (Addr × Obj)} {v : Value} {r : Entry3} {a : Addr} {u x q : Tok} (e : v = .ref a) (hm : (a, logO r.1 u r.2.1 x r.2.2 q) ∈ R) {vs : List Value} {rs : List Entry3} (h : Logs R vs rs) : Logs R (vs ++ [v]) (rs ++ [r]) :=
  All2.snoc ⟨a, u, x, q, e, hm⟩ h
noncomputable def readable (md : Int) : Bool := decide (md / 4 % 2 = 1)
noncomputable def ansOf (rules : List (Str × Bool)) (f : Str → Int) (p : Str) : Str :=
  if allowP rules p = true then (if readable (f p) = true then Str.ofString "got" else Str.ofString "shut") else Str.ofString "barred"
theorem links_len : ∀ p ∈ pagesP, (linksOf p).length ≤ 4 := by decide
structure CSt where
  hi : Array Value
  hk : Nat
  si : Array Value
  sk : Nat
  gi : Array Value
  gk : Nat
  R : List (Addr × Obj)
  c : Site × List Entry3
structure BSt where
  hi : Array Value
  hk : Nat
  si : Array Value
  sk : Nat
  R : List (Addr × Obj)
  d : Site
noncomputable def BFacts (hl sl gl : Addr) (R0 : List (Addr × Obj)) (n : Nat) (page : Str) (now dl : Int) (d0 : Site) (i : Nat) (s : BSt) : Prop :=
  Prs s.R s.hi.toList s.d.1 ∧ StrsAre s.si.toList s.d.2 ∧ Off [hl, sl, gl] s.R ∧ (∀ q ∈ R0, q ∈ s.R) ∧ JK n page s.d ∧ s.d = pushN now dl page d0 i
theorem BFacts.sizes {hl sl gl : Addr} {R0 : List (Addr × Obj)} {n : Nat} {page : Str} {now dl : Int} {d0 : Site} {i : Nat} {c : BSt} (h : BFacts hl sl gl R0 n page now dl d0 i c) : c.hi.size ≤ 4 ∧ c.si.size ≤ 6 := by
  obtain ⟨c1, c2, c3, c4, c5, c6⟩ := h
  have e1 := c1.length
  have e2 := c2.length
  have l4 := (JK.hp (ps := c.d.1) (seen := c.d.2) c5).1
  have l6 := c5.site6
  simp only [Array.length_toList] at e1 e2
  omega
theorem JK.room3 {n i : Nat} {page y : Str} {c : Site} (h : JK n page c) (hp : page ∈ pagesP) (hy : (linksOf page)[i]? = some y) (hs : (c.2.any fun z => z == y) = false) : c.1.length ≤ 3 :=
  h.room hp (List.mem_of_getElem? hy) fun q => by rw [any_iff.mpr q] at hs; cases hs
theorem JK.next {n i : Nat} {page y : Str} {c : Site} {t : Int} (h : JK n page c) (hp : page ∈ pagesP) (hy : (linksOf page)[i]? = some y) (hs : (c.2.any fun z => z == y) = false) : JK n page (pushR c.1 (t, y), c.2 ++ [y]) :=
  h.push hp (List.mem_of_getElem? hy) fun q => by rw [any_iff.mpr q] at hs; cases hs
theorem JK.hpp {n i : Nat} {page y : Str} {c : Site} {t : Int} (h : JK n page c) (hp : page ∈ pagesP) (hy : (linksOf page)[i]? = some y) (hs : (c.2.any fun z => z == y) = false) : (pushR c.1 (t, y)).length ≤ 4 ∧ heapedB (pushR c.1 (t, y)) = true := (h.next hp hy hs).hp
theorem JK.hpc {n : Nat} {page : Str} {c : Site} (h : JK n page c) : c.1.length ≤ 4 ∧ heapedB c.1 = true := JK.hp (ps := c.1) (seen := c.2) h
noncomputable def CFacts (hl sl gl : Addr) (rest : List (Addr × Obj)) (ans : Str → Str) (dl : Int) (s : CSt) : Prop :=
  Prs s.R s.hi.toList s.c.1.1 ∧ StrsAre s.si.toList s.c.1.2 ∧ Logs s.R s.gi.toList s.c.2 ∧ Off [hl, sl, gl] s.R ∧ (∀ q ∈ rest, q ∈ s.R) ∧ JC s.c ∧ crawlN ans dl (7 - s.c.2.length) s.c = crawlN ans dl 7 (([(0, Str.ofString "/")], [Str.ofString "/"]), [])
section
variable {w : World} {dp un : Nat} {gd : Option (List Code)} {cn : Str} {nm : List (Str × NameKind)} {ig ic : Bool} {mr : List (Str × Const)} {a : Addr} {ccd : Value} {cl : List (Str × Addr)} {outer : List Env} {A₀ : Around} {base h₀ : Heap} {L : Addr} {m : Str → Option Value} {s : Shared} {Q E : Value → Shared → Prop}
   {mean : ExcName → Option Value} {mg mb : Str → Option Value} {loose : List Str}
theorem push_use {l it : Addr} {vs : Array Value} {ps : List (Int × Str)} {t : Int} {x : Str} {u v : Tok} {k : Nat} {news R : List (Addr × Obj)} {g : Obj → List (Addr × Obj)}
   (B : Below A₀ base outer h₀) (F : Fr h₀ L s.heap m) (X : (heapK w.params).In h₀) (N : News h₀ L s.heap news) (T : Top topProg loose mean mg mb h₀) (hdp : dp + 3 < recursionLimit) (hun : un + 200 < cLine)
   (hp : Prs R vs.toList ps) (U : UpdF l (listOf vs k) news g) (hR : ∀ q ∈ R, q ∈ news) (hi : (it, tupO t u x v) ∈ news) (hn : ps.length ≤ 3)
   (hret : ∀ h' tk' its k', Prs ((it, tupO t u x v) :: R) its.toList (pushR ps (t, x)) → Fr h₀ L h' m → News h₀ L h' (g (listOf its k')) → Q .none { s with heap := h', toks := tk' }) :
   wpAny (model PySem.Challenge.rw_oy0154_01.prog w) (ktrTop dp un gd cn ⟨.function, nm, ig, ic, mr⟩ L a ccd cl outer) (call (.ref 63) [.ref l, .ref it]) Q E s :=
  push_spec (R := (it, tupO t u x v) :: R) (p := (t, x)) B F X N T hdp hun U (fun q hq => by
    rcases List.mem_cons.mp hq with rfl | hq
    · exact hi
    · exact hR q hq) (hp.mono fun q hq => List.mem_cons_of_mem _ hq) (.head _) hn hret
theorem links_use {es R : List (Addr × Obj)} {as : List Addr}
   (B : Below A₀ base outer h₀) (F : Fr h₀ L s.heap m) (X : (heapK w.params).In h₀) (N : News h₀ L s.heap (es ++ R)) (T : Top topProg loose mean mg mb h₀) (hdp : dp + 3 < recursionLimit) (hun : un + 200 < cLine)
   (hO : Off as R) (ha : ∀ a ∈ as, a ∈ es.map (·.1))
   (hret : ∀ d tl h' tk', LinksAt w (tl ++ R) d → Off as (tl ++ R) → Fr h₀ L h' m → News h₀ L h' (es ++ (tl ++ R)) → Q (.ref d) { s with heap := h', toks := tk' }) :
   wpAny (model PySem.Challenge.rw_oy0154_01.prog w) (ktrTop dp un gd cn ⟨.function, nm, ig, ic, mr⟩ L a ccd cl outer) (call (.ref 138) []) Q E s := by
  refine links0 B F X N T hdp hun fun d tl h' tk' hL hlt F' N' => hret d tl h' tk' (hL.mono fun q hq => List.mem_append_left _ hq) ?_ F' fun q hq => N' q ?_
  · refine Off.app (fun p hp b hb => ?_) hO
    obtain ⟨e, he, rfl⟩ := List.mem_map.mp (ha b hb)
    exact Nat.ne_of_gt (hlt e (List.mem_append_left _ he) p hp)
  · simp only [List.mem_append] at hq ⊢
    rcases hq with h | h | h <;> simp [h]
theorem link_item {A : Around} {d : Addr} {x : Str} {t : Tok} {news R : List (Addr × Obj)} {value slice : PySem.Expr} (N : News h₀ L s.heap news) (hL : LinksAt w R d) (hR : ∀ q ∈ R, q ∈ news) (hx : x ∈ pagesP)
   (h : ∀ la its k, (la, listOf its k) ∈ R → StrsAre its.toList (linksOf x) → its.size = (linksOf x).length → its.size ≤ 4 → Q (.ref la) { s with toks := s.toks + 1 })
   (hs : subscripted slice false (.ref d) (.str x t) = operate [.ref d, .str x t] (getItem (.ref d) (.str x t)) := by with_unfolding_all rfl) :
   wpAny (model PySem.Challenge.rw_oy0154_01.prog w) A (subscriptTail value slice (.ref d) (.str x t)) Q E s := by
  obtain ⟨o, kvs, h1, h2, h3, h4⟩ := hL
  obtain ⟨la, its, k, e1, e2, e3⟩ := h4 x hx
  have e4 := e3.length
  rw [Array.length_toList] at e4
  exact kdt_tail N (hR _ h1) h2 (kdt_getItem N (hR _ h1) h2 (strKind_is _ _ _ _) e1 (h la its k e2 e3 e4 (e4 ▸ links_len x hx))) hs
theorem str_item {A : Around} {l : Addr} {its : Array Value} {ys : List Str} {y : Str} {k i : Nat} {t : Tok} {news : List (Addr × Obj)} {value slice : PySem.Expr} (N : News h₀ L s.heap news) (hm : (l, listOf its k) ∈ news) (hS : StrsAre its.toList ys) (hy : ys[i]? = some y) (hi : i < 1000)
   (h : ∀ t', Q (.str y t') s) (hs : subscripted slice false (.ref l) (.int (i : Int) t) = operate [.ref l, .int (i : Int) t] (getItem (.ref l) (.int (i : Int) t)) := by with_unfolding_all rfl) :
   wpAny (model PySem.Challenge.rw_oy0154_01.prog w) A (subscriptTail value slice (.ref l) (.int (i : Int) t)) Q E s := by
  obtain ⟨t', ht⟩ := hS.get i y hy
  have hl : s.heap.IsList l its := News.isList N hm
  exact tail_any hl.typeIs slot_list_getitem.lookup (wpAny_getItem_list hl (by omega) (by omega) (by simpa using ht) (h t')) hs
theorem wt_item {A : Around} {l : Addr} {k i : Nat} {a b c d t : Tok} {news : List (Addr × Obj)} {value slice : PySem.Expr} (N : News h₀ L s.heap news) (hm : (l, listOf #[.int 2 a, .int 5 b, .int 3 c, .int 1 d] k) ∈ news) (hi : i < 4)
   (h : ∀ t', 1 ≤ wtOf i → wtOf i ≤ 5 → Q (.int (wtOf i) t') s) (hs : subscripted slice false (.ref l) (.int (i : Int) t) = operate [.ref l, .int (i : Int) t] (getItem (.ref l) (.int (i : Int) t)) := by with_unfolding_all rfl) :
   wpAny (model PySem.Challenge.rw_oy0154_01.prog w) A (subscriptTail value slice (.ref l) (.int (i : Int) t)) Q E s := by
  have hl : s.heap.IsList l #[.int 2 a, .int 5 b, .int 3 c, .int 1 d] := News.isList N hm
  have hv : ∃ t', (#[.int 2 a, .int 5 b, .int 3 c, .int 1 d] : Array Value)[i]? = some (.int (wtOf i) t') ∧ 1 ≤ wtOf i ∧ wtOf i ≤ 5 := by
    match i, hi with
    | 0, _ => exact ⟨_, rfl, by decide, by decide⟩
    | 1, _ => exact ⟨_, rfl, by decide, by decide⟩
    | 2, _ => exact ⟨_, rfl, by decide, by decide⟩
    | 3, _ => exact ⟨_, rfl, by decide, by decide⟩
  obtain ⟨t', ht, h1, h2⟩ := hv
  exact tail_any hl.typeIs slot_list_getitem.lookup (wpAny_getItem_list hl (by omega) (by omega) (by simpa using ht) (h t' h1 h2)) hs
noncomputable def CLed (hl sl gl : Addr) (e1 e2 e3 : Addr × Obj) (s : CSt) : List (Addr × Obj) := (hl, listOf s.hi s.hk) :: (sl, listOf s.si s.sk) :: (gl, listOf s.gi s.gk) :: e1 :: e2 :: e3 :: s.R
theorem fm_spec {md : Int} {t : Tok} {news : List (Addr × Obj)}
   (B : Below A₀ base outer h₀) (F : Fr h₀ L s.heap m) (X : (heapK w.params).In h₀) (N : News h₀ L s.heap news) (T : Top topProg loose mean mg mb h₀) (hdp : dp + 6 < recursionLimit) (hun : un + 300 < cLine)
   (hmd : 32768 ≤ md ∧ md < 36864)
   (hret : ∀ x tx h' tk', x.cps.size = 10 → x.cps[7]? = some (if readable md = true then 114 else 45) → Fr h₀ L h' m → News h₀ L h' news → Q (.str x tx) { s with heap := h', toks := tk' }) :
   wpAny (model PySem.Challenge.rw_oy0154_01.prog w) (ktrTop dp un gd cn ⟨.function, nm, ig, ic, mr⟩ L a ccd cl outer) (call (.ref 131) [.int md t]) Q E s := fm0 B F X N T hdp hun hret
end
theorem heap_empty {R : List (Addr × Obj)} {vs : Array Value} {ps : List (Int × Str)} (h : Prs R vs.toList ps) : (!vs.isEmpty) = !(ps.isEmpty) := by
  have e := h.length
  cases ps with
  | nil => simp at e; simp [e]
  | cons p r =>
    simp at e
    have : vs.isEmpty = false := by simp [Array.isEmpty, e]
    rw [this]; rfl
theorem CFacts.next {hl sl gl : Addr} {rest : List (Addr × Obj)} {ans : Str → Str} {dl : Int} {c : CSt} (h : CFacts hl sl gl rest ans dl c) (hne : c.c.1.1 ≠ []) {hi si : Array Value} {hk sk gk : Nat} {D : Addr} {t : Int} {u v q : Tok} {x b : Str} {R : List (Addr × Obj)} {d : Site}
    (hs : stepC ans dl c.c = (d, c.c.2 ++ [(t, x, b)])) (hP : Prs R hi.toList d.1) (hS : StrsAre si.toList d.2) (hO : Off [hl, sl, gl] ((D, logO t u x v b q) :: R)) (hR : ∀ z ∈ c.R, z ∈ R) :
    CFacts hl sl gl rest ans dl ⟨hi, hk, si, sk, c.gi.push (.ref D), gk, (D, logO t u x v b q) :: R, stepC ans dl c.c⟩ ∧ 7 - (stepC ans dl c.c).2.length < 7 - c.c.2.length := by
  obtain ⟨c1, c2, c3, c4, c5, c6, c7⟩ := h
  obtain ⟨n1, n2, n3⟩ := c6.next hne c7
  refine ⟨⟨?_, ?_, ?_, hO, fun z hz => List.mem_cons_of_mem _ (hR z (c5 z hz)), n1, n2⟩, n3⟩
  · dsimp only
    rw [hs]
    exact hP.mono fun z hz => List.mem_cons_of_mem _ hz
  · dsimp only
    rw [hs]
    exact hS
  · show Logs _ (c.gi.push (.ref D)).toList (stepC ans dl c.c).2
    rw [hs, Array.toList_push]
    exact Logs.snoc (r := (t, x, b)) rfl (.head _) (c3.mono fun z hz => List.mem_cons_of_mem _ (hR z hz))
theorem CFacts.last {hl sl gl : Addr} {rest : List (Addr × Obj)} {ans : Str → Str} {dl : Int} {c : CSt} (h : CFacts hl sl gl rest ans dl c) (he : c.hi.isEmpty = true) : Logs c.R c.gi.toList (crawlN ans dl 7 (([(0, Str.ofString "/")], [Str.ofString "/"]), [])) := by
  obtain ⟨c1, c2, c3, c4, c5, c6, c7⟩ := h
  have e1 : c.c.1.1 = [] := by
    have e := heap_empty c1
    rw [he] at e
    cases hp : c.c.1.1 with
    | nil => rfl
    | cons p r => rw [hp] at e; simp at e
  rw [← c7, crawl_end e1]
  exact c3
theorem ans_got {rules : List (Str × Bool)} {f : Str → Int} {x : Str} (h1 : allowP rules x = true) (h2 : readable (f x) = true) : ansOf rules f x = Str.ofString "got" := by
  unfold ansOf; rw [if_pos h1, if_pos h2]
theorem ans_shut {rules : List (Str × Bool)} {f : Str → Int} {x : Str} (h1 : allowP rules x = true) (h2 : readable (f x) = false) : ansOf rules f x = Str.ofString "shut" := by
  unfold ansOf; rw [if_pos h1, if_neg (by rw [h2]; exact Bool.false_ne_true)]
theorem ans_barred {rules : List (Str × Bool)} {f : Str → Int} {x : Str} (h1 : allowP rules x = false) : ansOf rules f x = Str.ofString "barred" := by
  unfold ansOf; rw [if_neg (by rw [h1]; exact Bool.false_ne_true)]
section
variable {w : World} {dp un : Nat} {gd : Option (List Code)} {cn : Str} {nm : List (Str × NameKind)} {ig ic : Bool} {mr : List (Str × Const)} {a : Addr} {ccd : Value} {cl : List (Str × Addr)} {outer : List Env} {A₀ : Around} {base h₀ : Heap} {L : Addr} {m : Str → Option Value} {s : Shared} {Q E : Value → Shared → Prop}
   {mean : ExcName → Option Value} {mg mb : Str → Option Value} {loose : List Str}
theorem pop_use {l : Addr} {vs : Array Value} {c : Site × List Entry3} {k : Nat} {news R : List (Addr × Obj)} {g : Obj → List (Addr × Obj)}
   (B : Below A₀ base outer h₀) (F : Fr h₀ L s.heap m) (X : (heapK w.params).In h₀) (N : News h₀ L s.heap news) (T : Top topProg loose mean mg mb h₀) (hdp : dp + 3 < recursionLimit) (hun : un + 200 < cLine)
   (hp : Prs R vs.toList c.1.1) (U : UpdF l (listOf vs k) news g) (hR : ∀ q ∈ R, q ∈ news) (hJ : JC c) (h0 : vs.isEmpty = false)
   (hret : ∀ h' tk' its k' b t u x v, c.1.1.headD default = (t, x) → c.1.1 ≠ [] → x ∈ pagesP → x.length ≤ 100 → JK (c.2.length + 1) x (popR c.1.1, c.1.2) → (b, tupO t u x v) ∈ R → Prs R its.toList (popR c.1.1) → Fr h₀ L h' m → News h₀ L h' (g (listOf its k')) → Q (.ref b) { s with heap := h', toks := tk' }) :
   wpAny (model PySem.Challenge.rw_oy0154_01.prog w) (ktrTop dp un gd cn ⟨.function, nm, ig, ic, mr⟩ L a ccd cl outer) (call (.ref 70) [.ref l]) Q E s := by
  have hne : c.1.1 ≠ [] := by
    intro e
    have := heap_empty hp
    rw [h0, e] at this
    simp at this
  refine pop_spec B F X N T hdp hun U hR hp hne hJ.len4 fun h' tk' its k' b u v hb hP F' N' => ?_
  exact hret h' tk' its k' b _ u _ v rfl hne (hJ.page hne) (page_len _ (hJ.page hne)) (hJ.popped hne) hb hP F' N'
theorem heaped_use {l : Addr} {vs : Array Value} {ps : List (Int × Str)} {k : Nat} {news R : List (Addr × Obj)} {g : Obj → List (Addr × Obj)}
   (B : Below A₀ base outer h₀) (F : Fr h₀ L s.heap m) (X : (heapK w.params).In h₀) (N : News h₀ L s.heap news) (T : Top topProg loose mean mg mb h₀) (hdp : dp + 3 < recursionLimit) (hun : un + 200 < cLine)
   (hp : Prs R vs.toList ps) (U : UpdF l (listOf vs k) news g) (hR : ∀ q ∈ R, q ∈ news) (hn : ps.length ≤ 4 ∧ heapedB ps = true)
   (hret : ∀ h' tk', Fr h₀ L h' m → News h₀ L h' news → Q (.bool true) { s with heap := h', toks := tk' }) :
   wpAny (model PySem.Challenge.rw_oy0154_01.prog w) (ktrTop dp un gd cn ⟨.function, nm, ig, ic, mr⟩ L a ccd cl outer) (call (.ref 162) [.ref l]) Q E s :=
  heaped_spec B F X N T hdp hun U hR hp hn.1 hn.2 hret
theorem mode_item {A : Around} {d : Addr} {o : Obj} {kvs : List (Str × Value)} {f : Str → Int} {x : Str} {t : Tok} {news : List (Addr × Obj)} {value slice : PySem.Expr} (N : News h₀ L s.heap news) (hp : (d, o) ∈ news) (hd : o.IsDictOf (PySem.strKind PySem.Challenge.rw_oy0154_01.prog w) kvs)
   (hM : ∀ pg ∈ pagesP, ∃ t, valueAt kvs pg = some (.int (f pg) t)) (hx : x ∈ pagesP) (h : ∀ t', Q (.int (f x) t') { s with toks := s.toks + 1 })
   (hs : subscripted slice false (.ref d) (.str x t) = operate [.ref d, .str x t] (getItem (.ref d) (.str x t)) := by with_unfolding_all rfl) :
   wpAny (model PySem.Challenge.rw_oy0154_01.prog w) A (subscriptTail value slice (.ref d) (.str x t)) Q E s := by
  obtain ⟨t', ht⟩ := hM x hx
  exact kdt_tail N hp hd (kdt_getItem N hp hd (strKind_is _ _ _ _) ht (h t')) hs
theorem str7 {A : Around} {x : Str} {t u : Tok} {md : Int} {value slice : PySem.Expr} (hz : x.cps.size = 10) (h7 : x.cps[7]? = some (if readable md = true then 114 else 45))
   (h1 : readable md = true → Q (.str (Str.ofString "r") s.toks) { s with toks := s.toks + 1 }) (h2 : readable md = false → Q (.str (Str.ofString "-") s.toks) { s with toks := s.toks + 1 })
   (hs : subscripted slice false (.str x t) (.int 7 u) = operate [.str x t, .int 7 u] (getItem (.str x t) (.int 7 u)) := by with_unfolding_all rfl)
   (ht : ∀ r, letTemporaryGo value (.str x t) r = pure () := by intro _; with_unfolding_all rfl) :
   wpAny (model PySem.Challenge.rw_oy0154_01.prog w) A (subscriptTail value slice (.str x t) (.int 7 u)) Q E s := by
  have hc : (seqIndex? 7 x.length).bind (x.cps[·]?) = some (if readable md = true then 114 else 45) := by
    have e : seqIndex? 7 x.length = some 7 := by
      have hl : x.length = 10 := hz
      rw [hl]; rfl
    rw [e]
    exact h7
  refine tail_of_ItemOn ⟨"str", _, slot_str_getitem.lookup, typeIs_str _ _ _, getItem_str rfl hc ?_⟩ hs ht
  cases hb : readable md with
  | true => exact h1 hb
  | false => exact h2 hb
theorem push_loop {prog : Program} {A : Around} {env : Env} {Q : Flow → Shared → Prop} {hl sl gl r : Addr} {e0 eg e1 e2 e3 : Addr × Obj} {R0 : List (Addr × Obj)} {px : Pos} {t₀ u₀ v₀ : Tok} {n : Nat} {page : Str} {d0 : Site} {its sits : Array Value} {hk sk : Nat} {m₀ : Str → Option Value} {body : List Stmt} (now dl : Int)
   (hh : A.handled = none) (hr : IsRange s.heap r 0 ((linksOf page).length : Int) 1 t₀ u₀ v₀) (hp : page ∈ pagesP)
   (F : Fr h₀ env.locals s.heap m₀) (N : News h₀ env.locals s.heap (e0 :: (hl, listOf its hk) :: (sl, listOf sits sk) :: eg :: e1 :: e2 :: e3 :: R0))
   (hP : Prs R0 its.toList d0.1) (hS : StrsAre sits.toList d0.2) (hO : Off [hl, sl, gl] R0) (hJ : JK n page d0)
   (turn : ∀ i y t (c : BSt) (u : Str → Option Value) h tk (I : Addr) (oI : Obj), (linksOf page)[i]? = some y → i < 4 → BFacts hl sl gl R0 n page now dl d0 i c → Off [I, hl, sl, gl] c.R → (∀ p ∈ e0 :: (hl, listOf c.hi c.hk) :: (sl, listOf c.si c.sk) :: eg :: e1 :: e2 :: e3 :: c.R, p.1 ≠ I) →
     Fr h₀ env.locals h (fun z => if [Str.ofString "k", Str.ofString "link"].contains z then u z else m₀ z) → News h₀ env.locals h ((I, oI) :: e0 :: (hl, listOf c.hi c.hk) :: (sl, listOf c.si c.sk) :: eg :: e1 :: e2 :: e3 :: c.R) →
     wpAny (model prog w) A (assign (.Name (Str.ofString "k") px) env (.int (i : Int) t)) (fun _ s₂ => wpAny (model prog w) A (execs body env)
       (ItPost h₀ env.locals s [(I, oI)] (fun (c : BSt) => e0 :: (hl, listOf c.hi c.hk) :: (sl, listOf c.si c.sk) :: eg :: e1 :: e2 :: e3 :: c.R) (fun _ => []) [Str.ofString "k", Str.ofString "link"] m₀ (BFacts hl sl gl R0 n page now dl d0 (i + 1)) Q) E s₂) E { s with heap := h, toks := tk })
   (done : ∀ (c : BSt) (u : Str → Option Value) h tk, BFacts hl sl gl R0 n page now dl d0 (linksOf page).length c → Fr h₀ env.locals h (fun z => if [Str.ofString "k", Str.ofString "link"].contains z then u z else m₀ z) → News h₀ env.locals h (e0 :: (hl, listOf c.hi c.hk) :: (sl, listOf c.si c.sk) :: eg :: e1 :: e2 :: e3 :: c.R) → Q .next { s with heap := h, toks := tk }) :
   wpAny (model prog w) A (pyIter (.ref r)) (fun it s₂ => TurnsAt prog w A h₀ env (.Name (Str.ofString "k") px) body Q E it s₂) E s := by
  have l4 := links_len page hp
  have hn : ∀ k : Nat, k ≤ 4 → Builtin.Range.small 0 (k : Int) 1 = true ∧ Builtin.Range.rangeSize 0 (k : Int) 1 = (k : Int) := by
    intro k hk
    match k, hk with
    | 0, _ => exact ⟨rfl, rfl⟩
    | 1, _ => exact ⟨rfl, rfl⟩
    | 2, _ => exact ⟨rfl, rfl⟩
    | 3, _ => exact ⟨rfl, rfl⟩
    | 4, _ => exact ⟨rfl, rfl⟩
  refine range_st (fun (c : BSt) => e0 :: (hl, listOf c.hi c.hk) :: (sl, listOf c.si c.sk) :: eg :: e1 :: e2 :: e3 :: c.R) (fun _ => []) [Str.ofString "k", Str.ofString "link"] (BFacts hl sl gl R0 n page now dl d0) ⟨its, hk, sits, sk, R0, d0⟩ hh hr (hn _ l4).1 (hn _ l4).2 F N ⟨hP, hS, hO, fun _ h => h, hJ, rfl⟩ (fun _ h => nomatch h) ?_ (fun c u h tk hB F N => done c u h tk hB F N)
  intro i t c u h tk I oI hi hB hoff F N
  have hy : (linksOf page)[i]? = some (linksOf page)[i] := List.getElem?_eq_getElem hi
  refine turn i _ t c u h tk I oI hy (by omega) hB (Off.cons (fun p hp => hoff p (by simp [hp])) hB.2.2.1) hoff F N
theorem cf_end {hl sl gl : Addr} {e1 e2 e3 : Addr × Obj} {rest news' : List (Addr × Obj)} {ans : Str → Str} {dl : Int} {c : CSt} {m' m₀ : Str → Option Value} {stored : List Str} {h' : Heap} {tk' : Nat} (h : CFacts hl sl gl rest ans dl c) (hne : c.c.1.1 ≠ []) {hi si : Array Value} {hk sk gk : Nat} {D : Addr} {t : Int} {u v q : Tok} {x b : Str} (R : List (Addr × Obj)) {d : Site}
    (F : Fr h₀ L h' m') (N : News h₀ L h' news') (hs : stepC ans dl c.c = (d, c.c.2 ++ [(t, x, b)])) (hP : Prs R hi.toList d.1) (hS : StrsAre si.toList d.2)
    (hm : ∀ p ∈ (hl, listOf hi hk) :: (sl, listOf si sk) :: (gl, listOf (c.gi.push (.ref D)) gk) :: e1 :: e2 :: e3 :: (D, logO t u x v b q) :: R, p ∈ news')
    (hO : Off [hl, sl, gl] ((D, logO t u x v b q) :: R)) (hR : ∀ z ∈ c.R, z ∈ R) (h2 : ∀ z, stored.contains z = false → m' z = m₀ z) :
    WhPost h₀ L s (CLed hl sl gl e1 e2 e3) stored m₀ (CFacts hl sl gl rest ans dl) (fun c => 7 - c.c.2.length) c .next { s with heap := h', toks := tk' } := by
  obtain ⟨hcf, hmu⟩ := h.next (hk := hk) (sk := sk) (gk := gk) hne hs hP hS hO hR
  exact wh_end ⟨hi, hk, si, sk, c.gi.push (.ref D), gk, (D, logO t u x v b q) :: R, stepC ans dl c.c⟩ F N hm h2 hcf hmu
theorem crawl_while {prog : Program} {A : Around} {env : Env} {Q : Flow → Shared → Prop} {hl sl gl D : Addr} {u v ts : Tok} {its : Array Value} {kh ks kg : Nat} {e1 e2 e3 : Addr × Obj} {rest : List (Addr × Obj)} {m₀ : Str → Option Value} {test : Expr} {body : List Stmt} {pos : Pos} (ans : Str → Str) (dl : Int)
   (F : Fr h₀ L s.heap m₀) (N : News h₀ L s.heap ((gl, listOf #[] kg) :: (sl, listOf #[.str (Str.ofString "/") ts] ks) :: (D, tupO 0 u (Str.ofString "/") v) :: (hl, listOf its kh) :: e1 :: e2 :: e3 :: rest))
   (hP : Prs [(D, tupO 0 u (Str.ofString "/") v)] its.toList (pushR [] (0, Str.ofString "/"))) (hO : Off [hl, sl, gl] ((D, tupO 0 u (Str.ofString "/") v) :: rest))
   (turn : ∀ (c : CSt) (u : Str → Option Value) h tk, CFacts hl sl gl rest ans dl c → Fr h₀ L h (fun z => if [Str.ofString "now", Str.ofString "page", Str.ofString "k", Str.ofString "link"].contains z then u z else m₀ z) → News h₀ L h ((hl, listOf c.hi c.hk) :: (sl, listOf c.si c.sk) :: (gl, listOf c.gi c.gk) :: e1 :: e2 :: e3 :: c.R) →
      wpAny (model prog w) A (isTrue test env (eval test env)) (fun b s₂ =>
        if b = true then wpAny (model prog w) A (execs body env) (WhPost h₀ L s (CLed hl sl gl e1 e2 e3) [Str.ofString "now", Str.ofString "page", Str.ofString "k", Str.ofString "link"] m₀ (CFacts hl sl gl rest ans dl) (fun c => 7 - c.c.2.length) c) E s₂ else Q .next s₂) E { s with heap := h, toks := tk })
   (hE : PassesOwn (model prog w) A env E := by passes_own) :
   wpAny (model prog w) A (exec (.While test body [] pos) env) Q E s := by
  refine while_st (CLed hl sl gl e1 e2 e3) _ (CFacts hl sl gl rest ans dl) (fun c => 7 - c.c.2.length) ⟨its, kh, #[.str (Str.ofString "/") ts], ks, #[], kg, (D, tupO 0 u (Str.ofString "/") v) :: rest, (([(0, Str.ofString "/")], [Str.ofString "/"]), [])⟩ F (fun q hq => N q ?_) ?_ (fun c u h tk hc F N => turn c u h tk hc F N) hE
  · revert q; dsimp only [CLed]; (repeat (refine List.forall_mem_cons.mpr ⟨by (repeat (first | exact List.Mem.head _ | refine List.Mem.tail _ ?_)), ?_⟩)); intro q hq; (repeat (first | exact hq | refine List.Mem.tail _ ?_))
  · exact ⟨hP.mono fun q hq => by simp at hq; simp [hq], .cons _ _ .nil, trivial, hO, fun q hq => by simp [hq], JC.start, rfl⟩
end
theorem CFacts.sizes {hl sl gl : Addr} {rest : List (Addr × Obj)} {ans : Str → Str} {dl : Int} {c : CSt} (h : CFacts hl sl gl rest ans dl c) : c.hi.size ≤ 4 ∧ c.si.size ≤ 6 ∧ c.gi.size ≤ 6 := by
  obtain ⟨c1, c2, c3, c4, c5, c6, c7⟩ := h
  have e1 := c1.length
  have e2 := c2.length
  have e3 := c3.length
  have l4 := c6.len4
  have l6 : c.c.1.2.length ≤ pagesP.length := nodup_le c6.1 c6.2.1
  have e6 : pagesP.length = 6 := rfl
  have l5 := c6.2.2.2.2.1
  simp only [Array.length_toList] at e1 e2 e3
  omega
theorem fm_bound {f : Str → Int} {x : Str} (hf : ∀ pg ∈ pagesP, 32768 ≤ f pg ∧ f pg < 36864) (hx : x ∈ pagesP) : 32768 ≤ f x ∧ f x < 36864 := hf x hx
theorem prs0 : Prs [] (#[] : Array Value).toList [] := trivial
theorem kw_Crawl : True := by
  k_with "truthy ref" => (k_here; (with_reducible show wpAny _ _ (truthy (Value.ref _)) _ _ _); k_dflt (refine wpAny_truthy_list (by exact News.isList (by k_asm) (by k_mem)) (by omega) ?_; k_whole))
  k_with "call ref" => (k_here; k_dflt (refine pop_use (by k_asm) (by k_asm) (by k_asm) (by k_asm) (by k_asm) (by ktr_room) (by ktr_units) (by assumption) (by k_updF) (by ktr_rel) (by assumption) (by assumption) ?_; k_whole; intro h' tk' its' k' b' t' u' x' v' e1' e2' e3' e4' hJ' hb' hPr' F' N'; (try dsimp only); (try k_sweep)))
  k_with "call ref" => (k_here; k_dflt (refine heaped_use (by k_asm) (by k_asm) (by k_asm) (by k_asm) (by k_asm) (by ktr_room) (by ktr_units) (by assumption) (by k_updF) (by ktr_rel) (by first | assumption | exact JK.hp (by assumption) | exact JK.hpc (by assumption) | exact JK.hpp (by assumption) (by assumption) (by assumption) (by assumption)) ?_; k_whole; intro h' tk' F' N'; (try dsimp only); (try k_sweep)))
  k_with "call ref" => (k_here; k_dflt (refine allow_spec (by k_asm) (by k_asm) (by k_asm) (by k_asm) (by k_asm) (by first | assumption | exact CodeHd.keeps (by assumption) (Below.stays (by assumption))) (by ktr_room) (by ktr_units) (by assumption) (by ktr_rel) (by assumption) ?_; k_whole; intro h' tk' F' N'; (try dsimp only); (try k_sweep)))
  k_with "call ref" => (k_here; k_dflt (refine fm_spec (by k_asm) (by k_asm) (by k_asm) (by k_asm) (by k_asm) (by ktr_room) (by ktr_units) (by exact fm_bound (by assumption) (by assumption)) ?_; k_whole; intro x' tx' h' tk' hz' h7' F' N'; (try dsimp only); (try k_sweep)))
  k_with "subscriptTail" => (k_here; k_dflt (with_reducible show wpAny _ _ (subscriptTail _ _ (Value.ref _) (Value.str _ _)) _ _ _); k_dflt (refine mode_item (by k_asm) (by k_mem) (by assumption) (by assumption) (by assumption) ?_ (by with_unfolding_all rfl); k_whole; intro t'))
  k_with "subscriptTail" => (k_here; k_dflt (with_reducible show wpAny _ _ (subscriptTail _ _ (Value.ref _) (Value.str _ _)) _ _ _); k_dflt (refine link_item (by k_asm) (by assumption) (by ktr_rel) (by assumption) ?_ (by with_unfolding_all rfl); k_whole; intro la' its' k' m1' m2' m3' m4'))
  k_with "subscriptTail" => (k_here; k_dflt (with_reducible show wpAny _ _ (subscriptTail _ _ (Value.ref _) (Value.int _ _)) _ _ _); k_dflt (refine str_item (by k_asm) (by k_mem) (by assumption) (by assumption) (by omega) ?_ (by with_unfolding_all rfl); k_whole; intro t'))
  k_with "subscriptTail" => (k_here; k_dflt (with_reducible show wpAny _ _ (subscriptTail _ _ (Value.ref _) (Value.int _ _)) _ _ _); k_dflt (refine wt_item (by k_asm) (by k_mem) (by assumption) ?_ (by with_unfolding_all rfl); k_whole; intro t' w1' w2'))
  k_with "subscriptTail Call" => (k_here; k_dflt (with_reducible show wpAny _ _ (subscriptTail _ _ (Value.str _ _) (Value.int _ _)) _ _ _); k_dflt (refine str7 (by assumption) (by assumption) ?_ ?_ (by with_unfolding_all rfl) (by intro _; with_unfolding_all rfl)); (all_goals k_whole); (all_goals intro hrd'))
  k_with "exec For Name Call cons nil" => (k_here; (rename Fr _ _ _ _ => lF'); (with_unfolding_all refine For_turns lF' ?_; k_whole))
  k_with "pyIter ref" => (k_here; (with_reducible show wpAny _ _ (pyIter (Value.ref _)) (fun it s₂ => TurnsAt _ _ _ _ _ _ _ _ _ it s₂) _ _); refine stop_in ?_)
  k_with "exec While Name cons nil" => (k_here; refine stop_in ?_)
  k_with "call ref" => (k_here; k_dflt (refine push_use (by k_asm) (by k_asm) (by k_asm) (by k_asm) (by k_asm) (by ktr_room) (by ktr_units) (by first | assumption | exact prs0) (by k_updF) (by ktr_rel) (by k_mem) (by first | assumption | decide | exact JK.room3 (by assumption) (by assumption) (by assumption) (by assumption)) ?_; k_whole; intro h' tk' its' k' hPr' F' N'; (try dsimp only); (try k_sweep)))
  trivial
section
variable {w : World} {dp un : Nat} {gd : Option (List Code)} {cn : Str} {nm : List (Str × NameKind)} {ig ic : Bool} {mr : List (Str × Const)} {a : Addr} {ccd : Value} {cl : List (Str × Addr)} {outer : List Env} {A₀ : Around} {base h₀ : Heap} {L : Addr} {m : Str → Option Value} {s : Shared} {Q E : Value → Shared → Prop}
   {mean : ExcName → Option Value} {mg mb : Str → Option Value} {loose : List Str}
set_option maxHeartbeats 4000000 in
theorem crawled0 {e de ag rl md : Addr} {t1 t2 t3 t4 dt : Tok} {rq : Value} {dl : Int} {mo : Obj} {rules : List (Str × Bool)} {f : Str → Int} {kvs : List (Str × Value)} {rest : List (Addr × Obj)}
   (B : Below A₀ base outer h₀) (F : Fr h₀ L s.heap m) (X : (heapK w.params).In h₀)
   (N : News h₀ L s.heap ((e, instObj 52 de) :: (de, dictOf [⟨PyData.keyHash w.params (Str.ofString "useragents"), .str (Str.ofString "useragents") t1, .ref ag⟩, ⟨PyData.keyHash w.params (Str.ofString "rulelines"), .str (Str.ofString "rulelines") t2, .ref rl⟩, ⟨PyData.keyHash w.params (Str.ofString "delay"), .str (Str.ofString "delay") t3, .int dl dt⟩, ⟨PyData.keyHash w.params (Str.ofString "req_rate"), .str (Str.ofString "req_rate") t4, rq⟩] 4) :: (md, mo) :: rest))
   (T : Top topProg loose mean mg mb h₀) (C : CodeHd base 149 145) (hdp : dp + 8 < recursionLimit) (hun : un + 400 < cLine)
   (hE : EntryAt w mean mg mb loose ((e, instObj 52 de) :: (de, dictOf [⟨PyData.keyHash w.params (Str.ofString "useragents"), .str (Str.ofString "useragents") t1, .ref ag⟩, ⟨PyData.keyHash w.params (Str.ofString "rulelines"), .str (Str.ofString "rulelines") t2, .ref rl⟩, ⟨PyData.keyHash w.params (Str.ofString "delay"), .str (Str.ofString "delay") t3, .int dl dt⟩, ⟨PyData.keyHash w.params (Str.ofString "req_rate"), .str (Str.ofString "req_rate") t4, rq⟩] 4) :: (md, mo) :: rest) e (.int dl dt) rules) (hdl : 0 ≤ dl ∧ dl ≤ 9)
   (hME : mo.IsDictOf (PySem.strKind PySem.Challenge.rw_oy0154_01.prog w) kvs) (hM : ∀ pg ∈ pagesP, ∃ t, valueAt kvs pg = some (.int (f pg) t)) (hf : ∀ pg ∈ pagesP, 32768 ≤ f pg ∧ f pg < 36864)
   (hret : ∀ gl gi gk R' h' tk', Logs R' gi.toList (crawlN (ansOf rules f) dl 7 (([(0, Str.ofString "/")], [Str.ofString "/"]), [])) → gi.size ≤ 6 → (∀ q ∈ rest, q ∈ R') → Fr h₀ L h' m → News h₀ L h' ((gl, listOf gi gk) :: R') → Q (.ref gl) { s with heap := h', toks := tk' }) :
   wpAny (model PySem.Challenge.rw_oy0154_01.prog w) (ktrTop dp un gd cn ⟨.function, nm, ig, ic, mr⟩ L a ccd cl outer) (call (.ref 169) [.ref e, .ref md]) Q E s := by
  revert T N X
  k_fill
  intro X N T
  refine wpAny_call ?_
  k_dflt k_enter
  k_steps
  refine stop_out ?_
  (rename News _ _ _ _ => lN')
  (rename Fr _ _ _ _ => lF')
  (rename Prs _ _ _ => hP0)
  with_unfolding_all refine' crawl_while (ansOf rules f) dl lF' lN' hP0 ?hO ?tn
  case hO =>
    refine Off.led ?_ (Off.cons (by k_all) (Off.cons (by k_all) (Off.cons (by k_all) Off.nil)))
    refine List.forall_mem_cons.mpr ⟨by k_ne, List.forall_mem_cons.mpr ⟨by k_ne, List.forall_mem_cons.mpr ⟨by k_ne, List.forall_mem_nil _⟩⟩⟩
  case tn =>
    intro c u h9 tk9 hC F9 N9
    clear lN' lF'
    obtain ⟨hhi, hsi, hgi⟩ := hC.sizes
    have hC' := hC
    obtain ⟨c1, c2, c3, c4, c5, c6, c7⟩ := hC
    have hE9 : EntryAt w mean mg mb loose _ e _ rules := hE.mono (R' := (e, _) :: (de, _) :: (md, mo) :: c.R) (by
      refine List.forall_mem_cons.mpr ⟨.head _, List.forall_mem_cons.mpr ⟨.tail _ (.head _), List.forall_mem_cons.mpr ⟨.tail _ (.tail _ (.head _)), fun q hq => .tail _ (.tail _ (.tail _ (c5 q hq)))⟩⟩⟩)
    k_steps
    rotate_left 1
    refine stop_out ?_
    (rename News _ _ _ _ => lN')
    (rename Fr _ _ _ _ => lF')
    (rename IsRange _ _ _ _ _ _ _ _ => lR')
    (rename Off _ _ => lO')
    (rename Prs _ _ _ => lP')
    (rename JK _ _ _ => lJ')
    (rename List.headD _ _ = _ => he1)
    (rename _ ∈ pagesP => hp9)
    with_unfolding_all refine' push_loop (d0 := (popR c.c.1.1, c.c.1.2)) (c.c.1.1.headD default).1 dl ?hh lR' ?hp lF' lN' ?hP c2 lO' lJ' ?tn2 ?dn2
    case hh => rfl
    case hp => assumption
    case hP => exact lP'.mono fun q hq => List.mem_append_right _ hq
    case tn2 =>
      intro i y t c9 u2 h2 tk2 I oI hy hi4 hB hO9 hoff F2 N2
      clear lN' lF'
      obtain ⟨hz1, hz2⟩ := hB.sizes
      obtain ⟨b1, b2, b3, b4, b5, b6⟩ := hB
      simp only [List.forall_mem_cons] at hoff
      obtain ⟨ho1, ho2, ho3, ho4, ho5, ho6, ho7, ho8⟩ := hoff
      (replace ho1 : @Ne Nat _ _ := ho1); (replace ho2 : @Ne Nat _ _ := ho2); (replace ho3 : @Ne Nat _ _ := ho3); (replace ho4 : @Ne Nat _ _ := ho4); (replace ho5 : @Ne Nat _ _ := ho5); (replace ho6 : @Ne Nat _ _ := ho6); (replace ho7 : @Ne Nat _ _ := ho7)
      dsimp only at *
      k_steps
      · (rename News _ _ _ _ => nE)
        (rename Fr _ _ _ _ => fE)
        (rename List.any _ _ = _ => hsn)
        refine it_end c9 fE nE ?_ ?_ (fun _ h => nomatch h) ?_ ⟨b1, b2, b3, b4, b5, pushN_seen b6 hy hsn⟩
        · refine List.forall_mem_cons.mpr ⟨by k_mem, List.forall_mem_cons.mpr ⟨by k_mem, List.forall_mem_cons.mpr ⟨by k_mem, List.forall_mem_cons.mpr ⟨by k_mem, List.forall_mem_cons.mpr ⟨by k_mem, List.forall_mem_cons.mpr ⟨by k_mem, List.forall_mem_cons.mpr ⟨by k_mem, List.forall_mem_cons.mpr ⟨by k_mem, ?_⟩⟩⟩⟩⟩⟩⟩⟩
          ktr_rel
        · simp only [List.forall_mem_cons]
          exact ⟨ho1, ho2, ho3, ho4, ho5, ho6, ho7, ho8⟩
        · intro z _ h3
          simp only [List.contains_cons, List.contains_nil, Bool.or_false, Bool.or_eq_false_iff, beq_eq_false_iff_ne, ne_eq] at h3
          simp [h3]
      · (rename News _ _ _ _ => nE)
        (rename Fr _ _ _ _ => fE)
        (rename List.any _ _ = _ => hsn)
        (rename Prs _ _ _ => hPn)
        have he2 := congrArg Prod.fst he1
        dsimp only at he2
        rw [he2] at b6
        refine it_end (BSt.mk _ ?hk9 (c9.si.push (.str y ?tt9)) (c9.sk + 1) _ _) fE nE ?hs9 ?ho9 (fun _ h => nomatch h) ?h29 ⟨hPn, ?sa9, ?of9, ?sb9, b5.next hp9 hy hsn, ?eq9⟩
        case hs9 =>
          refine List.forall_mem_cons.mpr ⟨by k_mem, List.forall_mem_cons.mpr ⟨by k_mem, List.forall_mem_cons.mpr ⟨by k_mem, List.forall_mem_cons.mpr ⟨by k_mem, List.forall_mem_cons.mpr ⟨by k_mem, List.forall_mem_cons.mpr ⟨by k_mem, List.forall_mem_cons.mpr ⟨by k_mem, List.forall_mem_cons.mpr ⟨by k_mem, ?_⟩⟩⟩⟩⟩⟩⟩⟩
          dsimp only
          ktr_rel
        case ho9 =>
          simp only [List.forall_mem_cons]
          refine ⟨ho1, ho2, ho3, ho4, ho5, ho6, ho7, ?_, ho8⟩
          k_ne
        case h29 =>
          intro z _ h3
          simp only [List.contains_cons, List.contains_nil, Bool.or_false, Bool.or_eq_false_iff, beq_eq_false_iff_ne, ne_eq] at h3
          simp [h3]
        case sa9 =>
          dsimp only
          first | rw [Array.toList_push] | rw [List.concat_eq_append]
          exact b2.append' (.cons _ _ .nil)
        case of9 =>
          refine Off.led ?_ b3
          refine List.forall_mem_cons.mpr ⟨by k_ne, List.forall_mem_cons.mpr ⟨by k_ne, List.forall_mem_cons.mpr ⟨by k_ne, List.forall_mem_nil _⟩⟩⟩
        case sb9 => exact fun q hq => List.mem_cons_of_mem _ (b4 q hq)
        case eq9 =>
          dsimp only
          rw [he2]
          exact pushN_new b6 hy hsn
    case dn2 =>
      intro c9 u2 h2 tk2 hB F2 N2
      clear lN' lF'
      obtain ⟨hz1, hz2⟩ := hB.sizes
      obtain ⟨b1, b2, b3, b4, b5, b6⟩ := hB
      k_steps
      (rename readable _ = true => hrd)
      (rename allowP _ _ = true => hal)
      have he2 := congrArg Prod.fst he1
      dsimp only at he2
      rw [he2] at b6
      (rename News _ _ _ _ => nE)
      (rename Fr _ _ _ _ => fE)
      (rename List.headD _ _ = _ => he1)
      (rename _ ≠ [] => hne)
      refine' cf_end hC' hne (c9.R) fE nE ?gahs ?gahP ?gahS ?gahm ?gahO ?gahR ?gah2
      case gahs => exact ((stepC_got he1 (ans_got hal hrd)).trans (by rw [← b6]))
      case gahP => exact b1
      case gahS => exact b2
      case gahm =>
        refine List.forall_mem_cons.mpr ⟨by k_mem, List.forall_mem_cons.mpr ⟨by k_mem, List.forall_mem_cons.mpr ⟨by k_mem, List.forall_mem_cons.mpr ⟨by k_mem, List.forall_mem_cons.mpr ⟨by k_mem, List.forall_mem_cons.mpr ⟨by k_mem, List.forall_mem_cons.mpr ⟨by k_mem, ?_⟩⟩⟩⟩⟩⟩⟩
        ktr_rel
      case gahO => 
        refine Off.led ?_ b3
        refine List.forall_mem_cons.mpr ⟨by k_ne, List.forall_mem_cons.mpr ⟨by k_ne, List.forall_mem_cons.mpr ⟨by k_ne, List.forall_mem_nil _⟩⟩⟩
      case gahR => exact (fun z hz => b4 z (List.mem_append_right _ hz))
      case gah2 =>
        intro z h3
        simp only [List.contains_cons, List.contains_nil, Bool.or_false, Bool.or_eq_false_iff, beq_eq_false_iff_ne, ne_eq] at h3
        simp [h3]
    · (rename readable _ = false => hrd)
      (rename allowP _ _ = true => hal)
      (rename Prs _ _ _ => hPq)
      (rename News _ _ _ _ => nE)
      (rename Fr _ _ _ _ => fE)
      (rename List.headD _ _ = _ => he1)
      (rename _ ≠ [] => hne)
      refine' cf_end hC' hne (c.R) fE nE ?gbhs ?gbhP ?gbhS ?gbhm ?gbhO ?gbhR ?gbh2
      case gbhs => exact (stepC_not he1 (ans_shut hal hrd) (by decide))
      case gbhP => exact hPq
      case gbhS => exact c2
      case gbhm =>
        refine List.forall_mem_cons.mpr ⟨by k_mem, List.forall_mem_cons.mpr ⟨by k_mem, List.forall_mem_cons.mpr ⟨by k_mem, List.forall_mem_cons.mpr ⟨by k_mem, List.forall_mem_cons.mpr ⟨by k_mem, List.forall_mem_cons.mpr ⟨by k_mem, List.forall_mem_cons.mpr ⟨by k_mem, ?_⟩⟩⟩⟩⟩⟩⟩
        ktr_rel
      case gbhO => 
        refine Off.led ?_ c4
        refine List.forall_mem_cons.mpr ⟨by k_ne, List.forall_mem_cons.mpr ⟨by k_ne, List.forall_mem_cons.mpr ⟨by k_ne, List.forall_mem_nil _⟩⟩⟩
      case gbhR => exact (fun z hz => hz)
      case gbh2 =>
        intro z h3
        simp only [List.contains_cons, List.contains_nil, Bool.or_false, Bool.or_eq_false_iff, beq_eq_false_iff_ne, ne_eq] at h3
        simp [h3]
    · (rename allowP _ _ = false => hal)
      (rename Prs _ _ _ => hPq)
      (rename News _ _ _ _ => nE)
      (rename Fr _ _ _ _ => fE)
      (rename List.headD _ _ = _ => he1)
      (rename _ ≠ [] => hne)
      refine' cf_end hC' hne (c.R) fE nE ?gchs ?gchP ?gchS ?gchm ?gchO ?gchR ?gch2
      case gchs => exact (stepC_not he1 (ans_barred hal) (by decide))
      case gchP => exact hPq
      case gchS => exact c2
      case gchm =>
        refine List.forall_mem_cons.mpr ⟨by k_mem, List.forall_mem_cons.mpr ⟨by k_mem, List.forall_mem_cons.mpr ⟨by k_mem, List.forall_mem_cons.mpr ⟨by k_mem, List.forall_mem_cons.mpr ⟨by k_mem, List.forall_mem_cons.mpr ⟨by k_mem, List.forall_mem_cons.mpr ⟨by k_mem, ?_⟩⟩⟩⟩⟩⟩⟩
        ktr_rel
      case gchO => 
        refine Off.led ?_ c4
        refine List.forall_mem_cons.mpr ⟨by k_ne, List.forall_mem_cons.mpr ⟨by k_ne, List.forall_mem_cons.mpr ⟨by k_ne, List.forall_mem_nil _⟩⟩⟩
      case gchR => exact (fun z hz => hz)
      case gch2 =>
        intro z h3
        simp only [List.contains_cons, List.contains_nil, Bool.or_false, Bool.or_eq_false_iff, beq_eq_false_iff_ne, ne_eq] at h3
        simp [h3]
    · (rename News _ _ _ _ => nE)
      (rename Fr _ _ _ _ => fE)
      (rename Array.isEmpty _ = true => hem)
      exact hret _ c.gi c.gk c.R _ _ (hC'.last hem) hgi c5 fE (cb_drop nE (List.forall_mem_cons.mpr ⟨by k_mem, by ktr_rel⟩))
theorem crawl_spec {e md : Addr} {dt : Tok} {dl : Int} {rules : List (Str × Bool)} {f : Str → Int} {R news : List (Addr × Obj)}
   (B : Below A₀ base outer h₀) (F : Fr h₀ L s.heap m) (X : (heapK w.params).In h₀) (N : News h₀ L s.heap news)
   (T : Top topProg loose mean mg mb h₀) (C : CodeHd base 149 145) (hdp : dp + 8 < recursionLimit) (hun : un + 400 < cLine)
   (hE : EntryRec w mean mg mb loose R e (.int dl dt) rules) (hM : ModesAt w R md f) (hR : ∀ q ∈ R, q ∈ news) (hdl : 0 ≤ dl ∧ dl ≤ 9) (hf : ∀ pg ∈ pagesP, 32768 ≤ f pg ∧ f pg < 36864)
   (hret : ∀ gl gi gk R' h' tk', Logs R' gi.toList (crawlN (ansOf rules f) dl 7 (([(0, Str.ofString "/")], [Str.ofString "/"]), [])) → gi.size ≤ 6 → (∀ q ∈ news, q ∈ R') → Fr h₀ L h' m → News h₀ L h' ((gl, listOf gi gk) :: R') → Q (.ref gl) { s with heap := h', toks := tk' }) :
   wpAny (model PySem.Challenge.rw_oy0154_01.prog w) (ktrTop dp un gd cn ⟨.function, nm, ig, ic, mr⟩ L a ccd cl outer) (call (.ref 169) [.ref e, .ref md]) Q E s := by
  have hE2 := hE.at
  obtain ⟨de, ag, rl, t1, t2, t3, t4, rq, vs, k, u1, u2, k2, h1, h2, h3, h4, h5⟩ := hE
  obtain ⟨o, kvs, m1, m2, m3, m4⟩ := hM
  refine crawled0 (rest := news) (de := de) (ag := ag) (rl := rl) (t1 := t1) (t2 := t2) (t3 := t3) (t4 := t4) (dt := dt) (rq := rq) (mo := o) (kvs := kvs) B F X (fun q hq => ?_) T C hdp hun (hE2.mono fun q hq => by simp [hR q hq]) hdl m2 m4 hf hret
  rcases List.mem_cons.mp hq with rfl | hq
  · exact N _ (hR _ h1)
  rcases List.mem_cons.mp hq with rfl | hq
  · exact N _ (hR _ h2)
  rcases List.mem_cons.mp hq with rfl | hq
  · exact N _ (hR _ m1)
  · exact N _ hq
end
end Mine
end
section
open PySem PySem.W PyProof.Rows PySem.Calls PySem.Spec
namespace Mine
noncomputable def prD (p : Int × Str) : PyData := .tuple [.int p.1, .str p.2]
noncomputable def hD (p : Int × Bool) : PyData := .tuple [.int p.1, .bool p.2]
theorem pages_ok : ∀ x ∈ pagesP, PyData.strOk x = true := by decide +kernel
theorem prD_ok {p : Int × Str} (h : p.2 ∈ pagesP) : (prD p).canLay0 = true ∧ (prD p).depth ≤ 1 := by
  refine ⟨?_, ?_⟩
  · simp only [prD, PyData.canLay0, PyData.canLayAll0, pages_ok _ h, Bool.and_true, Bool.true_and]
  · simp [prD, PyData.depth, PyData.depthAll]
theorem hD_ok (p : Int × Bool) : (hD p).canLay0 = true ∧ (hD p).depth ≤ 1 := by
  refine ⟨?_, ?_⟩
  · simp only [hD, PyData.canLay0, PyData.canLayAll0, Bool.and_true, Bool.true_and]
  · simp [hD, PyData.depth, PyData.depthAll]
theorem all_ok : ∀ {ds : List PyData}, (∀ d ∈ ds, d.canLay0 = true ∧ d.depth ≤ 1) → PyData.canLayAll0 ds = true ∧ PyData.depthAll ds ≤ 1
  | [], _ => ⟨rfl, Nat.zero_le _⟩
  | d :: ds, h => by
    have h1 := h d (.head _)
    have h2 := all_ok fun e he => h e (.tail _ he)
    simp only [PyData.canLayAll0, PyData.depthAll, h1.1, h2.1, Bool.and_true, true_and]
    exact Nat.max_le.mpr ⟨h1.2, h2.2⟩
theorem list_ok {ds : List PyData} (h : ∀ d ∈ ds, d.canLay0 = true ∧ d.depth ≤ 1) : SeqAt.shaped (.list ds) = true := by
  obtain ⟨h1, h2⟩ := all_ok h
  unfold SeqAt.shaped
  rw [show (PyData.list ds).canLay0 = true from h1, Bool.true_and]
  refine decide_eq_true ?_
  first
  | (show PyData.depthAll ds + 1 ≤ 64; omega)
  | (show 1 + PyData.depthAll ds ≤ 64; omega)
/-- the values are pairs of an int and a bool, by the ledger -/
noncomputable def Hs (R : List (Addr × Obj)) : List Value → List (Int × Bool) → Prop :=
  All2 fun v p => ∃ a u, v = .ref a ∧ (a, hO p.1 u p.2) ∈ R
theorem Hs.mono {R R' : List (Addr × Obj)} (hs : ∀ q ∈ R, q ∈ R') {vs : List Value} {rs : List (Int × Bool)} (h : Hs R vs rs) : Hs R' vs rs :=
  All2.imp (fun _ _ => Exists.imp fun _ => Exists.imp fun _ => And.imp_right (hs _)) h
theorem Hs.length {R : List (Addr × Obj)} {vs : List Value} {rs : List (Int × Bool)} (h : Hs R vs rs) : vs.length = rs.length := All2.length h
theorem Hs.snoc {R : List (Addr × Obj)} {v : Value} {r : Int × Bool} {a : Addr} {u : Tok} (e : v = .ref a) (hm : (a, hO r.1 u r.2) ∈ R) {vs : List Value} {rs : List (Int × Bool)} (h : Hs R vs rs) : Hs R (vs ++ [v]) (rs ++ [r]) :=
  All2.snoc ⟨a, u, e, hm⟩ h
theorem Hs.at {R : List (Addr × Obj)} {vs : List Value} {ps : List (Int × Bool)} (h : Hs R vs ps) (i : Nat) (v : Value) (e : vs[i]? = some v) : i < ps.length ∧ ∃ a u, v = .ref a ∧ (a, hO (ps.getD i default).1 u (ps.getD i default).2) ∈ R :=
  All2.at h i v e
theorem Prs.snoc {R : List (Addr × Obj)} {v : Value} {r : Int × Str} {a : Addr} {u x : Tok} (e : v = .ref a) (hm : (a, tupO r.1 u r.2 x) ∈ R) {vs : List Value} {rs : List (Int × Str)} (h : Prs R vs rs) : Prs R (vs ++ [v]) (rs ++ [r]) :=
  All2.snoc ⟨a, u, x, e, hm⟩ h
theorem Prs.app {R : List (Addr × Obj)} {vs us : List Value} {ps qs : List (Int × Str)} (h : Prs R vs ps) (k : Prs R us qs) : Prs R (vs ++ us) (ps ++ qs) := All2.app h k
theorem tf_yes {α : Type} [Inhabited α] {l : List α} {p : α → Bool} {i : Nat} (hi : i < l.length) (h : p (l.getD i default) = true) : (l.take (i + 1)).filter p = (l.take i).filter p ++ [l.getD i default] := by
  rw [List.getD_eq_getElem?_getD, List.getElem?_eq_getElem hi, Option.getD_some] at h ⊢
  rw [List.take_succ, List.getElem?_eq_getElem hi, Option.toList_some, List.filter_append, List.filter_cons, if_pos h, List.filter_nil]
theorem tf_no {α : Type} [Inhabited α] {l : List α} {p : α → Bool} {i : Nat} (hi : i < l.length) (h : p (l.getD i default) = false) : (l.take (i + 1)).filter p = (l.take i).filter p := by
  rw [List.getD_eq_getElem?_getD, List.getElem?_eq_getElem hi, Option.getD_some] at h
  rw [List.take_succ, List.getElem?_eq_getElem hi, Option.toList_some, List.filter_append, List.filter_cons, if_neg (by rw [h]; exact Bool.false_ne_true), List.filter_nil, List.append_nil]
theorem Prs.at' {R : List (Addr × Obj)} {vs : List Value} {ps : List (Int × Str)} (h : Prs R vs ps) {i : Nat} {v : Value} (hv : vs[i]? = some v) : i < ps.length ∧ ∃ a u x, v = .ref a ∧ (a, tupO (ps.getD i default).1 u (ps.getD i default).2 x) ∈ R :=
  All2.at h i v hv
section
variable {prog : Program} {w : World} {A : Around} {E : Value → Shared → Prop} {s : Shared} {h₀ : Heap} {L a b : Addr} {news R : List (Addr × Obj)} {Q : Value → Shared → Prop} {m : Str → Option Value}
theorem Prs.reads {h : Heap} (N : News h₀ L h news) (hR : ∀ q ∈ R, q ∈ news) {vs : List Value} {ps : List (Int × Str)} (hp : Prs R vs ps) : ∃ as, ReadsAll h vs (ps.map prD) as :=
  All2.reads (fun v p ⟨a, u, x, e, hm⟩ => by
    subst e
    exact ⟨_, reads_tuple_at (N.get (hR _ hm)) rfl rfl (ReadsAll.cons (Reads.int _ _) (ReadsAll.cons (Reads.str _ _) ReadsAll.nil))⟩) hp
theorem Hs.reads {h : Heap} (N : News h₀ L h news) (hR : ∀ q ∈ R, q ∈ news) {vs : List Value} {ps : List (Int × Bool)} (hp : Hs R vs ps) : ∃ as, ReadsAll h vs (ps.map hD) as :=
  All2.reads (fun v p ⟨a, u, e, hm⟩ => by
    subst e
    exact ⟨_, reads_tuple_at (N.get (hR _ hm)) rfl rfl (ReadsAll.cons (Reads.int _ _) (ReadsAll.cons (Reads.bool _) ReadsAll.nil))⟩) hp
theorem eqv_nil {ds : List PyData} : (!PyData.eqv (.list ds) (.list [])) = !ds.isEmpty := by
  cases ds <;> simp [PyData.eqv, PyData.eqvAll]
/-- waiting != [] -/
theorem wait_ne {vs : Array Value} {ps : List (Int × Str)} {ka kb : Nat} (N : News h₀ L s.heap news) (ma : (a, listOf vs ka) ∈ news) (hp : Prs R vs.toList ps) (hs : OnSite ps) (hR : ∀ q ∈ R, q ∈ news) (mb : (b, listOf #[] kb) ∈ news) (hu : A.units + 64 < cLine)
   (h1 : ps ≠ [] → Q (.bool true) s) (h2 : ps = [] → Q (.bool false) s) : wpAny (model prog w) A (compareOp .NotEq (.ref a) (.ref b)) Q E s := by
  obtain ⟨as, ra⟩ := hp.reads N hR
  refine ne_dataH (reads_list_at (N.get ma) rfl rfl ra) (reads_list_at (N.get mb) rfl rfl ReadsAll.nil) (list_ok fun d hd => ?_) rfl hu ?_
  · obtain ⟨p, hp, rfl⟩ := List.mem_map.mp hd
    exact prD_ok (hs p hp)
  · rw [eqv_nil]
    cases ps with
    | nil => exact h2 rfl
    | cons p r => exact h1 (by simp)
/-- held != [] -/
theorem held_ne {vs : List Value} {ps : List (Int × Bool)} {kb : Nat} (N : News h₀ L s.heap news) (ma : (a, LCg.lst vs) ∈ news) (hp : Hs R vs ps) (hR : ∀ q ∈ R, q ∈ news) (mb : (b, listOf #[] kb) ∈ news) (hu : A.units + 64 < cLine)
   (h1 : ps ≠ [] → Q (.bool true) s) (h2 : ps = [] → Q (.bool false) s) : wpAny (model prog w) A (compareOp .NotEq (.ref a) (.ref b)) Q E s := by
  obtain ⟨as, ra⟩ := hp.reads N hR
  refine ne_dataH (reads_list_at (N.get ma) rfl rfl (by simpa using ra)) (reads_list_at (N.get mb) rfl rfl ReadsAll.nil) (list_ok fun d hd => ?_) rfl hu ?_
  · obtain ⟨p, hp, rfl⟩ := List.mem_map.mp hd
    exact hD_ok p
  · rw [eqv_nil]
    cases ps with
    | nil => exact h2 rfl
    | cons p r => exact h1 (by simp)
/-- two pairs -/
theorem pair_ne {t0 t1 : Int} {u0 u1 v0 v1 : Tok} {x0 x1 : Str} (N : News h₀ L s.heap news) (ma : (a, tupO t0 u0 x0 v0) ∈ R) (hR : ∀ q ∈ R, q ∈ news) (mb : (b, tupO t1 u1 x1 v1) ∈ news) (hx : x0 ∈ pagesP) (hy : x1 ∈ pagesP) (hu : A.units + 64 < cLine)
   (h1 : (t0, x0) ≠ (t1, x1) → Q (.bool true) s) (h2 : (t0, x0) = (t1, x1) → Q (.bool false) s) : wpAny (model prog w) A (compareOp .NotEq (.ref a) (.ref b)) Q E s := by
  have r : ∀ {a t u x v}, (a, tupO t u x v) ∈ news → Reads s.heap (.ref a) (prD (t, x)) _ := fun hm => reads_tuple_at (N.get hm) rfl rfl (ReadsAll.cons (Reads.int _ _) (ReadsAll.cons (Reads.str _ _) ReadsAll.nil))
  have sh : ∀ {t x}, x ∈ pagesP → SeqAt.shaped (prD (t, x)) = true := fun {t x} h => by
    obtain ⟨h1, h2⟩ := prD_ok (p := (t, x)) h
    simp only [SeqAt.shaped, h1, Bool.true_and, decide_eq_true_eq]
    omega
  refine ne_dataH (r (hR _ ma)) (r mb) (sh hx) (sh hy) hu ?_
  have e : (!PyData.eqv (prD (t0, x0)) (prD (t1, x1))) = decide ((t0, x0) ≠ (t1, x1)) := by
    simp only [prD, PyData.eqv, PyData.eqvAll, Bool.and_true]
    by_cases e1 : t0 = t1 <;> by_cases e2 : x0 = x1 <;> simp [e1, e2]
  rw [e]
  by_cases hq : (t0, x0) = (t1, x1)
  · rw [decide_eq_false (by simpa using hq)]; exact h2 hq
  · rw [decide_eq_true hq]; exact h1 hq
theorem item0 {l : Addr} {its : Array Value} {v : Value} {k : Nat} {t : Tok} {value slice : PySem.Expr} (N : News h₀ L s.heap news) (hm : (l, listOf its k) ∈ news) (hv : its[0]? = some v)
   (h : Q v s) (hs : subscripted slice false (.ref l) (.int 0 t) = operate [.ref l, .int 0 t] (getItem (.ref l) (.int 0 t)) := by with_unfolding_all rfl) :
   wpAny (model prog w) A (subscriptTail value slice (.ref l) (.int 0 t)) Q E s := by
  have hl : s.heap.IsList l its := News.isList N hm
  exact tail_any hl.typeIs slot_list_getitem.lookup (wpAny_getItem_list (k := 0) hl (by omega) (by omega) (by simpa using hv) h) hs
/-- sorted(waiting): the heap's head comes first -/
theorem sorted_use {l : Addr} {vs : Array Value} {k : Nat} {ws : List (Int × Str)} {c : Site × List Entry3} (F : Fr h₀ L s.heap m) (N : News h₀ L s.heap news) (hm : (l, listOf vs k) ∈ news) (hp : Prs R vs.toList ws) (hR : ∀ q ∈ R, q ∈ news) (hpm : ws.Perm c.1.1) (hne : ws ≠ []) (hJ : JC c) (hw : JW c.1)
    (h : ∀ D out kk h' b t u x v, Fr h₀ L h' m → News h₀ L h' ((D, listOf out kk) :: news) → (∀ q ∈ news, q.1 < D) → out[0]? = some (.ref b) → (b, tupO t u x v) ∈ R → c.1.1.headD default = (t, x) → c.1.1 ≠ [] → x ∈ pagesP → x.length ≤ 100 → JK (c.2.length + 1) x (popR c.1.1, c.1.2) → Q (.ref D) { s with heap := h' }) :
    wpAny (model prog w) A (call (.builtin "sorted") [.ref l]) Q E s := by
  have hlen := hpm.length_eq
  have hne' : c.1.1 ≠ [] := fun e => hne (by rw [e] at hpm; exact hpm.eq_nil)
  have hs : OnSite ws := fun p hp => hJ.2.2.1 p (hpm.mem_iff.mp hp)
  have hnd : ws.Nodup := hpm.nodup_iff.mpr (nodup_fst hw.1)
  have hp' : Prs news vs.toList ws := hp.mono hR
  have hv : vs.toList.toArray = vs := Array.toArray_toList
  refine sorted_pairs F N (vs := vs.toList) (by rw [hv]; exact News.isList N hm) hp' (List.length_pos_iff.mpr hne) (by rw [hlen]; exact hJ.len4) hs (rk_at hs hnd) fun D out kk h' i F' N' hD hz h0 hi hmin => ?_
  have hh := least_head hJ hpm hne' hi hmin
  obtain ⟨b, u, x, e, hb⟩ := hp.at i hi
  rw [e] at h0
  rw [hh] at hb
  exact h D out kk h' b _ u _ x F' N' hD h0 hb rfl hne' (hJ.page hne') (page_len _ (hJ.page hne')) (hJ.popped hne')
end
theorem RPs.at {R : List (Addr × Obj)} {vs : List Value} {ps : List (Str × Bool)} (h : RPs R vs ps) (i : Nat) (v : Value) (e : vs[i]? = some v) : i < ps.length ∧ ∃ a u, v = .ref a ∧ (a, ruleO (ps.getD i default).1 u (ps.getD i default).2) ∈ R :=
  All2.at h i v e
section
variable {prog : Program} {w : World} {A : Around} {s : Shared} {h₀ : Heap} {L : Addr} {m : Str → Option Value} {env : Env}
open LCg (NsObj Off1 Off3 CompEnd lst)
theorem pair_src {ct elt : Expr} {x x₂ y : Str} {scope : Scope} {cl : List (Str × Addr)} {Q : Flow → Shared → Prop} {ax : Addr} {its : Array Value} {k : Nat} {rules : List (Str × Bool)} (es : List (Addr × Obj)) {R : List (Addr × Obj)} (W : Nat → List Value → List (Addr × Obj) → Prop)
    (hh : A.handled = none) (F : Fr h₀ L s.heap m) (N : News h₀ L s.heap (es ++ R)) (hm : (ax, listOf its k) ∈ es) (hsz : its.size ≤ sizeLine) (hp : RPs R its.toList rules) (h0 : W 0 [] R) (hW : ∀ i ys R', W i ys R' → ∀ q ∈ R, q ∈ R')
    (turn : ∀ i p tp ys R' (g : Heap) I oI C oC D m₂ h tk (E' : Value → Shared → Prop), i < rules.length → rules.getD i default = p → W i ys R' → NsObj oC m₂ → m₂ x = some (.str p.1 tp) → m₂ x₂ = some (.bool p.2) → Fr h₀ L h m → News h₀ L h ((I, oI) :: (C, oC) :: (D, lst ys) :: (es ++ R')) → Off3 I C D (es ++ R') → ((@Ne Nat I C) ∧ (@Ne Nat I D) ∧ (@Ne Nat C D)) →
      wpAny (model prog w) A (isTrue ct (compEnvC scope cl C env) (eval ct (compEnvC scope cl C env))) (fun ok s' => if ok = true then
        wpAny (model prog w) A (eval elt (compEnvC scope cl C env)) (CompEnd h₀ L m { s with heap := h, toks := tk } I oI C oC D (lst ys) (fun _ => True) (fun y nw' => ∃ R', nw' = es ++ R' ∧ W (i + 1) (ys ++ [y]) R')) E' s'
        else CompEnd h₀ L m { s with heap := h, toks := tk } I oI C oC D (lst ys) (fun _ => True) (fun _ nw' => ∃ R', nw' = es ++ R' ∧ W (i + 1) ys R') Value.none s') E' { s with heap := h, toks := tk })
    (fin : ∀ (g : Heap) ys R', W its.size ys R' → LCg.FinA h₀ L m { s with heap := g } y Q ys (es ++ R')) : PairSrcT prog w A h₀ L m env ct elt x x₂ scope cl y Q (.ref ax) s := by
  refine ⟨ax, its, k, es ++ R, fun i ys nw => ∃ R', nw = es ++ R' ∧ W i ys R', rfl, hh, F, N, hsz, ⟨R, rfl, h0⟩, ?_, ?_, ?_⟩
  · rintro i ys nw ⟨R', rfl, _⟩
    exact List.mem_append_left _ hm
  · rintro i v ys nw hv ⟨R', rfl, hw⟩
    obtain ⟨hi, t, u, rfl, hmt⟩ := hp.at i v (by simpa using hv)
    refine ⟨t, _, _, 0, rfl, List.mem_append_right _ (hW i ys R' hw _ hmt), ?_⟩
    rintro s₂ I oI C oC D m₂ h tk E' ⟨g, rfl⟩ hC hx hx2 F' N' off ne
    exact turn i _ u ys R' g I oI C oC D m₂ h tk E' hi rfl hw hC hx hx2 F' N' off ne
  · rintro s₂ ys nw ⟨g, rfl⟩ ⟨R', rfl, hw⟩
    exact fin g ys R' hw
end
theorem cov_1 {p page : Str} (h : ([Str.ofString "/", page].any fun x => x == p) = true) : mval p page ≠ 0 := by
  rw [mval_1 h]; omega
theorem cov_2 {p page : Str} (hp : p ∈ pagesP) (hw : page ∈ pagesP) (h2 : (Txt.slice (page ++ Str.ofString "/") none (some (↑p.length + 1)) == p ++ Str.ofString "/") = true) : mval p page ≠ 0 := by
  have e := covW_mval p hp page hw
  unfold covW at e
  rw [h2, Bool.or_true] at e
  exact of_decide_eq_true e.symm
theorem cov_3 {p page : Str} (hp : p ∈ pagesP) (hw : page ∈ pagesP) (h : ([Str.ofString "/", page].any fun x => x == p) = false) (h2 : (Txt.slice (page ++ Str.ofString "/") none (some (↑p.length + 1)) == p ++ Str.ofString "/") = false) : mval p page = 0 := by
  have e := covW_mval p hp page hw
  unfold covW at e
  rw [h, h2, Bool.or_false] at e
  have := of_decide_eq_false e.symm
  exact Classical.not_not.mp this
theorem held_yes {rules : List (Str × Bool)} {page : Str} {i : Nat} {p : Str × Bool} (hi : i < rules.length) (hp : rules.getD i default = p) (h : mval p.1 page ≠ 0) : heldL (rules.take (i + 1)) page = heldL (rules.take i) page ++ [((p.1.length : Int), p.2)] := by
  unfold heldL
  rw [tf_yes hi (by rw [hp]; exact decide_eq_true h), List.map_append, hp]
  rfl
theorem held_no {rules : List (Str × Bool)} {page : Str} {i : Nat} {p : Str × Bool} (hi : i < rules.length) (hp : rules.getD i default = p) (h : mval p.1 page = 0) : heldL (rules.take (i + 1)) page = heldL (rules.take i) page := by
  unfold heldL
  rw [tf_no hi (by rw [hp]; exact decide_eq_false (fun q => q h))]
theorem off3_ins {I C D : Addr} {es R : List (Addr × Obj)} {e : Addr × Obj} (h : LCg.Off3 I C D (es ++ R)) (h1 : @Ne Nat e.1 I) (h2 : @Ne Nat e.1 C) (h3 : @Ne Nat e.1 D) : LCg.Off3 I C D (es ++ (e :: R)) := by
  refine LCg.Off3.of fun p hp => ?_
  rcases List.mem_append.mp hp with hp | hp
  · exact h.mem p (List.mem_append_left _ hp)
  rcases List.mem_cons.mp hp with rfl | hp
  · exact ⟨h1, h2, h3⟩
  · exact h.mem p (List.mem_append_right _ hp)
section
variable {prog : Program} {w : World} {A : Around} {E : Value → Shared → Prop} {s : Shared} {h₀ : Heap} {L a b : Addr} {news R : List (Addr × Obj)} {Q : Value → Shared → Prop} {m : Str → Option Value}
theorem max_held {l : Addr} {ys : List Value} {rules : List (Str × Bool)} {page : Str} (hh : A.handled = none) (F : Fr h₀ L s.heap m) (N : News h₀ L s.heap news) (hm : (l, LCg.lst ys) ∈ news) (hp : Hs R ys (heldL rules page)) (hR : ∀ q ∈ R, q ∈ news) (hne : heldL rules page ≠ []) (hu : A.in1.units + 100 < cLine)
    (h : ∀ h' tk b t u, (b, hO t u (allowP rules page)) ∈ R → Fr h₀ L h' m → News h₀ L h' news → Q (.ref b) { s with heap := h', toks := tk }) :
    wpAny (model prog w) A (call (.builtin "max") [.ref l]) Q E s := by
  have hlen := hp.length
  have h0 : 0 < (heldL rules page).length := List.length_pos_iff.mpr hne
  have lt : ∀ q ∈ news, @LT.lt Nat _ q.1 s.heap.objs.size := fun q hq => Heap.lt_size (N q hq).1
  refine max_list_any (vs := ys) (bt := fun i j => hgt ((heldL rules page).getD i default) ((heldL rules page).getD j default)) (G := fun h => News h₀ L h news) hh (by omega) (fun h g => ⟨_, (g _ hm).1, rfl, _, rfl⟩) N (fun h h' g k q hq => ⟨k _ _ (lt q hq) (g q hq).1, (g q hq).2⟩) ?_ ?_
  · intro i j vi vj s' Q' E' g hi hj hQ
    obtain ⟨hi', ai, ui, rfl, mi⟩ := hp.at i vi hi
    obtain ⟨hj', aj, uj, rfl, mj⟩ := hp.at j vj hj
    exact h_gt hu (g _ (hR _ mi)).1 (g _ (hR _ mj)).1 hQ
  · intro v h' tk hv k
    obtain ⟨hi', b, u, rfl, mb⟩ := hp.at _ v hv
    rw [hlen] at mb
    rw [← allowP_max hne] at mb
    have up : ∀ b o, s.heap.get? b = some o → h'.get? b = some o := fun b o e => k b o (Heap.lt_size e) e
    exact h h' tk b _ u mb (F.keeps up) (N.grown up)
theorem item1 {l : Addr} {x : Int} {t u : Tok} {v : Bool} {value slice : PySem.Expr} (N : News h₀ L s.heap news) (hm : (l, hO x u v) ∈ R) (hR : ∀ q ∈ R, q ∈ news)
   (h : Q (.bool v) s) (hs : subscripted slice false (.ref l) (.int 1 t) = operate [.ref l, .int 1 t] (getItem (.ref l) (.int 1 t)) := by with_unfolding_all rfl) :
   wpAny (model prog w) A (subscriptTail value slice (.ref l) (.int 1 t)) Q E s := by
  have ht : IsTup s.heap l #[.int x u, .bool v] := ⟨_, (N _ (hR _ hm)).1, rfl, _, rfl⟩
  exact tail_any ht.typeIs slot_tuple_getitem.lookup (getItem_tuple (j := 1) ht (by decide) (by decide) rfl rfl h) hs
end
theorem comp_grow {h₀ : Heap} {L I C D : Addr} {m : Str → Option Value} {s₁ : Shared} {oI oC oD : Obj} {rest : Value → List (Addr × Obj) → Prop} {y : Value} {h' : Heap} {tk : Nat} {all es R : List (Addr × Obj)} {e : Addr × Obj} (off : LCg.Off3 I C D (es ++ R))
    (F : Fr h₀ L h' m) (N : News h₀ L h' all) (sub : ∀ p ∈ (I, oI) :: (C, oC) :: (D, oD) :: (es ++ (e :: R)), p ∈ all) (h1 : @Ne Nat e.1 I) (h2 : @Ne Nat e.1 C) (h3 : @Ne Nat e.1 D) (r : rest y (es ++ (e :: R))) :
    LCg.CompEnd h₀ L m s₁ I oI C oC D oD (fun _ => True) rest y { s₁ with heap := h', toks := tk } := LCg.CompEnd.intro F N _ sub (off3_ins off h1 h2 h3) trivial r
/-- the end of a test that answers and keeps the ledger -/
noncomputable def CutEnd (h₀ : Heap) (L : Addr) (m : Str → Option Value) (s : Shared) (news : List (Addr × Obj)) (b0 : Bool) (b : Bool) (s' : Shared) : Prop :=
  b = b0 ∧ ∃ h' tk, s' = { s with heap := h', toks := tk } ∧ Fr h₀ L h' m ∧ News h₀ L h' news
theorem cut_end {h₀ : Heap} {L : Addr} {m : Str → Option Value} {s : Shared} {news all : List (Addr × Obj)} {b0 b : Bool} {h' : Heap} {tk : Nat} (F : Fr h₀ L h' m) (N : News h₀ L h' all) (hs : ∀ q ∈ news, q ∈ all) (hb : b = b0) : CutEnd h₀ L m s news b0 b { s with heap := h', toks := tk } :=
  ⟨hb, h', tk, rfl, F, fun q hq => N q (hs q hq)⟩
theorem cut_test {M : Model} {A : Around} {E : Value → Shared → Prop} {s : Shared} {h₀ : Heap} {L : Addr} {m : Str → Option Value} {news : List (Addr × Obj)} {t : Sem Bool} {Q : Bool → Shared → Prop} (b0 : Bool) (F : Fr h₀ L s.heap m) (N : News h₀ L s.heap news)
    (test : wpAny M A t (CutEnd h₀ L m s news b0) E s) (cont : ∀ h' tk, Fr h₀ L h' m → News h₀ L h' news → Q b0 { s with heap := h', toks := tk }) : wpAny M A t Q E s := by
  refine wpAny_mono test (fun b s' h => ?_) fun _ _ e => e
  obtain ⟨rfl, h', tk, rfl, F', N'⟩ := h
  exact cont h' tk F' N'
theorem shrink13 {h₀ h : Heap} {L : Addr} {a1 a2 a3 a4 a5 a6 a7 a8 a9 a10 a11 a12 a13 : Addr × Obj} {R : List (Addr × Obj)} (N : News h₀ L h (a1 :: a2 :: a3 :: a4 :: a5 :: a6 :: a7 :: a8 :: a9 :: a10 :: a11 :: a12 :: a13 :: R)) :
    News h₀ L h (a1 :: a2 :: a5 :: a7 :: a8 :: a9 :: a10 :: a11 :: a12 :: a13 :: R) := fun q hq => N q (by
    revert q
    (repeat (refine List.forall_mem_cons.mpr ⟨by (repeat (first | exact List.Mem.head _ | refine List.Mem.tail _ ?_)), ?_⟩))
    intro q hq
    (repeat (first | exact hq | refine List.Mem.tail _ ?_)))
theorem links_range {n : Nat} (h : n ≤ 4) : Builtin.Range.small 0 (n : Int) 1 = true ∧ Builtin.Range.rangeSize 0 (n : Int) 1 = (n : Int) := by
  rcases Nat.lt_or_ge n 1 with h0 | h0
  · rw [show n = 0 by omega]; exact ⟨rfl, rfl⟩
  rcases Nat.lt_or_ge n 2 with h1 | h1
  · rw [show n = 1 by omega]; exact ⟨rfl, rfl⟩
  rcases Nat.lt_or_ge n 3 with h2 | h2
  · rw [show n = 2 by omega]; exact ⟨rfl, rfl⟩
  rcases Nat.lt_or_ge n 4 with h3 | h3
  · rw [show n = 3 by omega]; exact ⟨rfl, rfl⟩
  · rw [show n = 4 by omega]; exact ⟨rfl, rfl⟩
theorem fresh_yes {page y : Str} {seen : List Str} {i : Nat} {ys : List Value} {t : Tok} (hy : (linksOf page)[i]? = some y) (hs : (seen.any fun z => z == y) = false) (h : IntsAre ys ((freshK page seen i).map Int.ofNat)) : IntsAre (ys ++ [.int (i : Int) t]) ((freshK page seen (i + 1)).map Int.ofNat) := by
  rw [freshK_succ page seen i hy, if_neg (by rw [hs]; exact Bool.false_ne_true), List.map_append]
  exact h.append (.cons _ _ .nil)
theorem fresh_no {page y : Str} {seen : List Str} {i : Nat} {ys : List Value} (hy : (linksOf page)[i]? = some y) (hs : (seen.any fun z => z == y) = true) (h : IntsAre ys ((freshK page seen i).map Int.ofNat)) : IntsAre ys ((freshK page seen (i + 1)).map Int.ofNat) := by
  rw [freshK_succ page seen i hy, if_pos hs, List.append_nil]
  exact h
end Mine
end
section
open PySem PySem.W PyProof.Rows PySem.Calls PySem.Spec
namespace Mine
theorem fresh_at {ys : List Value} {fr : List Nat} (h : IntsAre ys (fr.map Int.ofNat)) {i : Nat} {v : Value} (hv : ys[i]? = some v) : ∃ (k : Nat) (t : Tok), v = .int (k : Int) t ∧ fr[i]? = some k := by
  obtain ⟨n, t, rfl, hn⟩ := h.at i v hv
  rw [List.getElem?_map, Option.map_eq_some_iff] at hn
  obtain ⟨k, hk, rfl⟩ := hn
  exact ⟨k, t, rfl, hk⟩
theorem link_of {page : Str} {seen : List Str} {n i k : Nat} (hn : n ≤ (linksOf page).length) (h : (freshK page seen n)[i]? = some k) : k < n ∧ (linksOf page)[k]? = some (linkA page k) := by
  have hk := freshK_lt (List.mem_of_getElem? h)
  refine ⟨hk, ?_⟩
  unfold linkA
  rw [List.getD_eq_getElem?_getD, List.getElem?_eq_getElem (by omega)]
  rfl
theorem pr_next {R : List (Addr × Obj)} {ys : List Value} {fr : List Nat} {g : Nat → Int × Str} {i k : Nat} {a : Addr} {u x : Tok} (hk : fr[i]? = some k) (hm : (a, tupO (g k).1 u (g k).2 x) ∈ R) (h : Prs R ys ((fr.take i).map g)) : Prs R (ys ++ [.ref a]) ((fr.take (i + 1)).map g) := by
  rw [List.take_add_one, hk, List.map_append]
  exact Prs.snoc (r := g k) rfl hm h
theorem st_next {ys : List Value} {fr : List Nat} {g : Nat → Str} {i k : Nat} {t : Tok} (hk : fr[i]? = some k) (h : StrsAre ys ((fr.take i).map g)) : StrsAre (ys ++ [.str (g k) t]) ((fr.take (i + 1)).map g) := by
  rw [List.take_add_one, hk, List.map_append]
  exact h.append' (.cons _ _ .nil)
theorem fresh_len {page : Str} {seen : List Str} {n : Nat} : (freshK page seen n).length ≤ n := by
  unfold freshK
  exact Nat.le_trans (List.length_filter_le _ _) (by simp)
theorem fresh_size {ys : List Value} {page : Str} {seen : List Str} {n : Nat} (h : IntsAre ys ((freshK page seen n).map Int.ofNat)) : ys.length = (freshK page seen n).length := by
  have := h.length
  simpa using this
theorem shrink14 {h₀ h : Heap} {L : Addr} {a1 a2 a3 a4 a5 a6 a7 a8 a9 a10 a11 a12 a13 a14 : Addr × Obj} {R : List (Addr × Obj)} (N : News h₀ L h (a1 :: a2 :: a3 :: a4 :: a5 :: a6 :: a7 :: a8 :: a9 :: a10 :: a11 :: a12 :: a13 :: a14 :: R)) :
    News h₀ L h (a1 :: a3 :: a4 :: a7 :: a8 :: a9 :: a10 :: a11 :: a12 :: a13 :: a14 :: R) := fun q hq => N q (by
    revert q
    (repeat (refine List.forall_mem_cons.mpr ⟨by (repeat (first | exact List.Mem.head _ | refine List.Mem.tail _ ?_)), ?_⟩))
    intro q hq
    (repeat (first | exact hq | refine List.Mem.tail _ ?_)))
theorem got_perm {c : Site × List Entry3} {ws : List (Int × Str)} {t dl : Int} {x : Str} (hx : x ∈ pagesP) (hJ : JC c) (hw : JW c.1) (hp : ws.Perm c.1.1) (hne : c.1.1 ≠ []) (hK : JK (c.2.length + 1) x (popR c.1.1, c.1.2)) :
    ((ws.filter fun p => decide (p ≠ c.1.1.headD default)) ++ (freshK x c.1.2 (linksOf x).length).map fun k => (t + wtOf k * dl, linkA x k)).Perm (pushN t dl x (popR c.1.1, c.1.2) (linksOf x).length).1 ∧
    (pushN t dl x (popR c.1.1, c.1.2) (linksOf x).length).2 = c.1.2 ++ (freshK x c.1.2 (linksOf x).length).map (linkA x) ∧ JW (pushN t dl x (popR c.1.1, c.1.2) (linksOf x).length) := by
  obtain ⟨h1, h2, h3⟩ := pushN_all (now := t) (dl := dl) hx hK (hw.pop hJ hne) _ (Nat.le_refl _)
  exact ⟨((rest_perm hJ hw hp hne).append_right _).trans h1.symm, h2, h3⟩
theorem log_last {R : List (Addr × Obj)} {vs : List Value} {ans : Str → Str} {dl : Int} {c : Site × List Entry3} {ws : List (Int × Str)} {X : List Entry3} {n : Nat} (h : Logs R vs c.2) (hp : ws.Perm c.1.1) (he : ws = []) (hX : crawlN ans dl n c = X) : Logs R vs X := by
  subst he
  rw [← hX, crawl_end hp.nil_eq.symm]
  exact h
theorem add_lst {prog : Program} {w : World} {A : Around} {E : Value → Shared → Prop} {s : Shared} {h₀ : Heap} {L a b : Addr} {m : Str → Option Value} {news : List (Addr × Obj)} {xs : Array Value} {ys : List Value} {ka : Nat} {Q : Value → Shared → Prop} (F : Fr h₀ L s.heap m) (N : News h₀ L s.heap news) (ma : (a, listOf xs ka) ∈ news) (mb : (b, LCg.lst ys) ∈ news) (hz : xs.size ≤ 100 ∧ ys.length ≤ 100)
    (h : ∀ D h', Fr h₀ L h' m → News h₀ L h' ((D, listOf (xs.toList ++ ys).toArray 0) :: news) → (∀ p ∈ news, p.1 < D) → Q (.ref D) { s with heap := h' }) :
    wpAny (model prog w) A (binaryOp .Add (.ref a) (.ref b)) Q E s := by
  have ha' : s.heap.IsList a xs.toList.toArray := by rw [Array.toArray_toList]; exact News.isList N ma
  have hb' : s.heap.IsList b ys.toArray := News.isList N mb
  refine add_lists F N ha' hb' (fun h' F' N' => ?_) (by rw [PySem.sizeLine_eq, Array.length_toList]; omega)
  exact h _ h' F' N' fun p hp => Heap.lt_size (N p hp).1
end Mine
end
section
open PySem PySem.W PyProof.Rows PySem.Calls PySem.Spec
namespace Mine
theorem kt_Walked : True := by
  k_with_none
  k_with "eval Constant str" => (k_here; with_reducible refine const_str ?_)
  k_with "eval Constant int" => (k_here; with_reducible refine const_int ?_)
  k_with "spliced" => (k_here; dsimp only)
  k_with "storeName" => (k_here; dsimp only)
  k_with "call ref" => (k_here; k_dflt ((first | refine links_use (es := [_, _, _, _, _, _, _, _, _, _]) (by k_asm) (by k_asm) (by k_asm) (by k_asm) (by k_asm) (by ktr_room) (by ktr_units) (by assumption) (by tb_start) ?_ | refine links_use (es := [_, _, _, _, _, _, _, _, _, _, _]) (by k_asm) (by k_asm) (by k_asm) (by k_asm) (by k_asm) (by ktr_room) (by ktr_units) (by assumption) (by tb_start) ?_ | refine links_use (es := [_, _, _, _, _, _, _, _, _, _, _, _]) (by k_asm) (by k_asm) (by k_asm) (by k_asm) (by k_asm) (by ktr_room) (by ktr_units) (by assumption) (by tb_start) ?_ | refine links_use (es := [_, _, _, _, _, _, _, _, _, _, _, _, _]) (by k_asm) (by k_asm) (by k_asm) (by k_asm) (by k_asm) (by ktr_room) (by ktr_units) (by assumption) (by tb_start) ?_ | refine links_use (es := [_, _, _, _, _, _, _, _, _, _, _, _, _, _]) (by k_asm) (by k_asm) (by k_asm) (by k_asm) (by k_asm) (by ktr_room) (by ktr_units) (by assumption) (by tb_start) ?_ | refine links_use (es := [_, _, _, _, _, _, _, _, _, _, _, _, _, _, _]) (by k_asm) (by k_asm) (by k_asm) (by k_asm) (by k_asm) (by ktr_room) (by ktr_units) (by assumption) (by tb_start) ?_ | refine links_use (es := [_, _, _, _, _, _, _, _, _, _, _, _, _, _, _, _]) (by k_asm) (by k_asm) (by k_asm) (by k_asm) (by k_asm) (by ktr_room) (by ktr_units) (by assumption) (by tb_start) ?_); k_whole; intro d' tl' h' tk' hL' hO' F' N'; (try dsimp only); (simp only [List.cons_append, List.nil_append] at N'); (try k_sweep)))
  k_with "m ne" => (first | assumption | exact Ne.symm (by assumption) | (refine neN ?_; (try dsimp only); (repeat (rename @Ne Nat _ _ => hz9; clear hz9)); (repeat (rename @Ne Nat _ _ ∧ _ => hz9; clear hz9)); (repeat (rename (@Ne Nat _ _ ∧ _) ∧ _ => hz9; clear hz9)); omega) | ((repeat (rename @Ne Nat _ _ ∧ _ => hz9; first | exact hz9.1 | exact hz9.1.symm | exact hz9.2.1 | exact hz9.2.1.symm | exact hz9.2.2.1 | exact hz9.2.2.1.symm | exact hz9.2.2.2.1 | exact hz9.2.2.2.1.symm | exact hz9.2.2.2.2.1 | exact hz9.2.2.2.2.1.symm | exact hz9.2.2.2.2.2.1 | exact hz9.2.2.2.2.2.1.symm | exact hz9.2.2.2.2.2.2.1 | exact hz9.2.2.2.2.2.2.1.symm | exact hz9.2.2.2.2.2.2.2.1 | exact hz9.2.2.2.2.2.2.2.1.symm | exact hz9.2.2.2.2.2.2.2.2.1 | exact hz9.2.2.2.2.2.2.2.2.1.symm | exact hz9.2.2.2.2.2.2.2.2.2.1 | exact hz9.2.2.2.2.2.2.2.2.2.1.symm | exact hz9.2.2.2.2.2.2.2.2.2.2.1 | exact hz9.2.2.2.2.2.2.2.2.2.2.1.symm | exact hz9.2.2.2.2.2.2.2.2.2.2.2.1 | exact hz9.2.2.2.2.2.2.2.2.2.2.2.1.symm | exact hz9.2.2.2.2.2.2.2.2.2.2.2.2.1 | exact hz9.2.2.2.2.2.2.2.2.2.2.2.2.1.symm | exact hz9.2.2.2.2.2.2.2.2.2.2.2.2.2.1 | exact hz9.2.2.2.2.2.2.2.2.2.2.2.2.2.1.symm | exact hz9.2.2.2.2.2.2.2.2.2.2.2.2.2.2.1 | exact hz9.2.2.2.2.2.2.2.2.2.2.2.2.2.2.1.symm | clear hz9)); done) | ((repeat (rename (@Ne Nat _ _ ∧ _) ∧ _ => hz9; first | exact hz9.1.1 | exact hz9.1.1.symm | exact hz9.1.2.1 | exact hz9.1.2.1.symm | exact hz9.1.2.2 | exact hz9.1.2.2.symm | exact hz9.2.1.1 | exact hz9.2.1.1.symm | exact hz9.2.1.2.1 | exact hz9.2.1.2.1.symm | exact hz9.2.1.2.2 | exact hz9.2.1.2.2.symm | exact hz9.2.2.1.1 | exact hz9.2.2.1.1.symm | exact hz9.2.2.1.2.1 | exact hz9.2.2.1.2.1.symm | exact hz9.2.2.1.2.2 | exact hz9.2.2.1.2.2.symm | exact hz9.2.2.2.1.1 | exact hz9.2.2.2.1.1.symm | exact hz9.2.2.2.1.2.1 | exact hz9.2.2.2.1.2.1.symm | exact hz9.2.2.2.1.2.2 | exact hz9.2.2.2.1.2.2.symm | exact hz9.2.2.2.2.1.1 | exact hz9.2.2.2.2.1.1.symm | exact hz9.2.2.2.2.1.2.1 | exact hz9.2.2.2.2.1.2.1.symm | exact hz9.2.2.2.2.1.2.2 | exact hz9.2.2.2.2.1.2.2.symm | exact hz9.2.2.2.2.2.1.1 | exact hz9.2.2.2.2.2.1.1.symm | exact hz9.2.2.2.2.2.1.2.1 | exact hz9.2.2.2.2.2.1.2.1.symm | exact hz9.2.2.2.2.2.1.2.2 | exact hz9.2.2.2.2.2.1.2.2.symm | exact hz9.2.2.2.2.2.2.1.1 | exact hz9.2.2.2.2.2.2.1.1.symm | exact hz9.2.2.2.2.2.2.1.2.1 | exact hz9.2.2.2.2.2.2.1.2.1.symm | exact hz9.2.2.2.2.2.2.1.2.2 | exact hz9.2.2.2.2.2.2.1.2.2.symm | exact hz9.2.2.2.2.2.2.2.1.1 | exact hz9.2.2.2.2.2.2.2.1.1.symm | exact hz9.2.2.2.2.2.2.2.1.2.1 | exact hz9.2.2.2.2.2.2.2.1.2.1.symm | exact hz9.2.2.2.2.2.2.2.1.2.2 | exact hz9.2.2.2.2.2.2.2.1.2.2.symm | exact hz9.2.2.2.2.2.2.2.2.1.1 | exact hz9.2.2.2.2.2.2.2.2.1.1.symm | exact hz9.2.2.2.2.2.2.2.2.1.2.1 | exact hz9.2.2.2.2.2.2.2.2.1.2.1.symm | exact hz9.2.2.2.2.2.2.2.2.1.2.2 | exact hz9.2.2.2.2.2.2.2.2.1.2.2.symm | exact hz9.2.2.2.2.2.2.2.2.2.1.1 | exact hz9.2.2.2.2.2.2.2.2.2.1.1.symm | exact hz9.2.2.2.2.2.2.2.2.2.1.2.1 | exact hz9.2.2.2.2.2.2.2.2.2.1.2.1.symm | exact hz9.2.2.2.2.2.2.2.2.2.1.2.2 | exact hz9.2.2.2.2.2.2.2.2.2.1.2.2.symm | exact hz9.2.2.2.2.2.2.2.2.2.2.1.1 | exact hz9.2.2.2.2.2.2.2.2.2.2.1.1.symm | exact hz9.2.2.2.2.2.2.2.2.2.2.1.2.1 | exact hz9.2.2.2.2.2.2.2.2.2.2.1.2.1.symm | exact hz9.2.2.2.2.2.2.2.2.2.2.1.2.2 | exact hz9.2.2.2.2.2.2.2.2.2.2.1.2.2.symm | exact hz9.2.2.2.2.2.2.2.2.2.2.2.1.1 | exact hz9.2.2.2.2.2.2.2.2.2.2.2.1.1.symm | exact hz9.2.2.2.2.2.2.2.2.2.2.2.1.2.1 | exact hz9.2.2.2.2.2.2.2.2.2.2.2.1.2.1.symm | exact hz9.2.2.2.2.2.2.2.2.2.2.2.1.2.2 | exact hz9.2.2.2.2.2.2.2.2.2.2.2.1.2.2.symm | exact hz9.2.2.2.2.2.2.2.2.2.2.2.2.1.1 | exact hz9.2.2.2.2.2.2.2.2.2.2.2.2.1.1.symm | exact hz9.2.2.2.2.2.2.2.2.2.2.2.2.1.2.1 | exact hz9.2.2.2.2.2.2.2.2.2.2.2.2.1.2.1.symm | exact hz9.2.2.2.2.2.2.2.2.2.2.2.2.1.2.2 | exact hz9.2.2.2.2.2.2.2.2.2.2.2.2.1.2.2.symm | exact hz9.2.2.2.2.2.2.2.2.2.2.2.2.2.1.1 | exact hz9.2.2.2.2.2.2.2.2.2.2.2.2.2.1.1.symm | exact hz9.2.2.2.2.2.2.2.2.2.2.2.2.2.1.2.1 | exact hz9.2.2.2.2.2.2.2.2.2.2.2.2.2.1.2.1.symm | exact hz9.2.2.2.2.2.2.2.2.2.2.2.2.2.1.2.2 | exact hz9.2.2.2.2.2.2.2.2.2.2.2.2.2.1.2.2.symm | exact hz9.2.2.2.2.2.2.2.2.2.2.2.2.2.2.1.1 | exact hz9.2.2.2.2.2.2.2.2.2.2.2.2.2.2.1.1.symm | exact hz9.2.2.2.2.2.2.2.2.2.2.2.2.2.2.1.2.1 | exact hz9.2.2.2.2.2.2.2.2.2.2.2.2.2.2.1.2.1.symm | exact hz9.2.2.2.2.2.2.2.2.2.2.2.2.2.2.1.2.2 | exact hz9.2.2.2.2.2.2.2.2.2.2.2.2.2.2.1.2.2.symm | exact hz9.2.2.2.2.2.2.2.2.2.2.2.2.2.2.2.1.1 | exact hz9.2.2.2.2.2.2.2.2.2.2.2.2.2.2.2.1.1.symm | exact hz9.2.2.2.2.2.2.2.2.2.2.2.2.2.2.2.1.2.1 | exact hz9.2.2.2.2.2.2.2.2.2.2.2.2.2.2.2.1.2.1.symm | exact hz9.2.2.2.2.2.2.2.2.2.2.2.2.2.2.2.1.2.2 | exact hz9.2.2.2.2.2.2.2.2.2.2.2.2.2.2.2.1.2.2.symm | exact hz9.2.2.2.2.2.2.2.2.2.2.2.2.2.2.2.2.1.1 | exact hz9.2.2.2.2.2.2.2.2.2.2.2.2.2.2.2.2.1.1.symm | exact hz9.2.2.2.2.2.2.2.2.2.2.2.2.2.2.2.2.1.2.1 | exact hz9.2.2.2.2.2.2.2.2.2.2.2.2.2.2.2.2.1.2.1.symm | exact hz9.2.2.2.2.2.2.2.2.2.2.2.2.2.2.2.2.1.2.2 | exact hz9.2.2.2.2.2.2.2.2.2.2.2.2.2.2.2.2.1.2.2.symm | clear hz9)); done) | (refine neN ?_; (try dsimp only); omega))
  k_with "m fits" => ((rw [PySem.sizeLine_eq]; omega))
  k_with "m in" => (first | assumption | exact Frag.In.keeps (by k_asm) (Fr.keep (by k_asm)))
  k_with "m all" => (first | assumption | exact Off.at (by assumption) (by (repeat (first | exact List.Mem.head _ | refine List.Mem.tail _ ?_))) | (tbn_letter; refine all_of_lt (by tbn_find) (by omega)))
  k_with "m mem" => (assumption)
  k_with "m rel" => (first | exact List.forall_mem_nil _ | exact fun q hq => hq | (refine List.forall_mem_cons.mpr ⟨by k_mem, ?_⟩; ktr_rel) | (intro q hq; repeat (first | exact hq | refine List.Mem.tail _ ?_ | exact List.mem_append_right _ hq)))
  k_with "m start" => (first | exact List.forall_mem_nil _ | (refine List.forall_mem_cons.mpr ⟨by (repeat (first | exact List.Mem.head _ | refine List.Mem.tail _ ?_)), ?_⟩; tb_start))
  trivial
structure WSt where
  wl : Addr
  wi : Array Value
  wk : Nat
  sl : Addr
  si : Array Value
  sk : Nat
  gi : Array Value
  gk : Nat
  oS : Obj
  oN : Obj
  oP : Obj
  R : List (Addr × Obj)
  ws : List (Int × Str)
  c : Site × List Entry3
noncomputable def WFacts (gl cS cN cP : Addr) (rest : List (Addr × Obj)) (ans : Str → Str) (dl : Int) (s : WSt) : Prop :=
  Prs s.R s.wi.toList s.ws ∧ s.ws.Perm s.c.1.1 ∧ StrsAre s.si.toList s.c.1.2 ∧ Logs s.R s.gi.toList s.c.2 ∧ Off [gl, cS, cN, cP] s.R ∧ (@Ne Nat s.wl gl ∧ @Ne Nat s.wl cS ∧ @Ne Nat s.wl cN ∧ @Ne Nat s.wl cP) ∧ (@Ne Nat s.sl gl ∧ @Ne Nat s.sl cS ∧ @Ne Nat s.sl cN ∧ @Ne Nat s.sl cP) ∧
  (∀ q ∈ rest, q ∈ s.R) ∧ s.oS.data = .cell (some (.ref s.sl)) ∧ (∃ v, s.oN.data = .cell v) ∧ (∃ v, s.oP.data = .cell v) ∧ JC s.c ∧ JW s.c.1 ∧ crawlN ans dl (7 - s.c.2.length) s.c = crawlN ans dl 7 (([(0, Str.ofString "/")], [Str.ofString "/"]), [])
noncomputable def WLed (gl cS cN cP : Addr) (e1 e2 e3 : Addr × Obj) (s : WSt) : List (Addr × Obj) := (gl, listOf s.gi s.gk) :: (s.wl, listOf s.wi s.wk) :: (s.sl, listOf s.si s.sk) :: (cP, s.oP) :: (cN, s.oN) :: (cS, s.oS) :: e1 :: e2 :: e3 :: s.R
noncomputable abbrev wNames : List Str := [Str.ofString "held", Str.ofString "fresh"]
section
variable {prog : Program} {w : World} {A : Around} {E : Value → Shared → Prop} {s : Shared} {env : Env} {h₀ : Heap} {L : Addr} {body : List Stmt} {Q : Flow → Shared → Prop}
noncomputable def WPost (h₀ : Heap) (L : Addr) (s : Shared) (gl cS cN cP : Addr) (e1 e2 e3 : Addr × Obj) (rest : List (Addr × Obj)) (ans : Str → Str) (dl : Int) (m₀ : Str → Option Value) (c : WSt) (f : Flow) (s₂ : Shared) : Prop :=
  f = .next ∧ ∃ (c' : WSt) (h' : Heap) (tk : Nat) (m' : Str → Option Value) (news' : List (Addr × Obj)), s₂ = { s with heap := h', toks := tk } ∧ Fr h₀ L h' m' ∧ News h₀ L h' news' ∧ (∀ p ∈ WLed gl cS cN cP e1 e2 e3 c', p ∈ news') ∧ m' (Str.ofString "waiting") = some (.ref c'.wl) ∧ (∀ z, z ≠ Str.ofString "waiting" → wNames.contains z = false → m' z = m₀ z) ∧ WFacts gl cS cN cP rest ans dl c' ∧ 7 - c'.c.2.length < 7 - c.c.2.length
theorem walk_while {gl cS cN cP sl wl D : Addr} {u v ts : Tok} {kw ks kg : Nat} {oS oN oP : Obj} {vN vP : Option Value} {e1 e2 e3 : Addr × Obj} {rest : List (Addr × Obj)} {m₀ : Str → Option Value} {test : Expr} {pos : Pos} (ans : Str → Str) (dl : Int)
   (F : Fr h₀ L s.heap m₀) (N : News h₀ L s.heap ((gl, listOf #[] kg) :: (sl, listOf #[.str (Str.ofString "/") ts] ks) :: (wl, listOf #[.ref D] kw) :: (D, tupO 0 u (Str.ofString "/") v) :: (cP, oP) :: (cN, oN) :: (cS, oS) :: e1 :: e2 :: e3 :: rest))
   (hO : Off [gl, cS, cN, cP] ((D, tupO 0 u (Str.ofString "/") v) :: rest)) (hw : @Ne Nat wl gl ∧ @Ne Nat wl cS ∧ @Ne Nat wl cN ∧ @Ne Nat wl cP) (hsl : @Ne Nat sl gl ∧ @Ne Nat sl cS ∧ @Ne Nat sl cN ∧ @Ne Nat sl cP)
   (hS : oS.data = .cell (some (.ref sl))) (hN : oN.data = .cell vN) (hPp : oP.data = .cell vP) (hm : m₀ (Str.ofString "waiting") = some (.ref wl))
   (turn : ∀ (c : WSt) (u : Str → Option Value) h tk, WFacts gl cS cN cP rest ans dl c → Fr h₀ L h (fun z => if z = Str.ofString "waiting" then some (.ref c.wl) else if wNames.contains z then u z else m₀ z) → News h₀ L h ((gl, listOf c.gi c.gk) :: (c.wl, listOf c.wi c.wk) :: (c.sl, listOf c.si c.sk) :: (cP, c.oP) :: (cN, c.oN) :: (cS, c.oS) :: e1 :: e2 :: e3 :: c.R) →
      wpAny (model prog w) A (isTrue test env (eval test env)) (fun b s₂ =>
        if b = true then wpAny (model prog w) A (execs body env) (WPost h₀ L s gl cS cN cP e1 e2 e3 rest ans dl m₀ c) E s₂ else Q .next s₂) E { s with heap := h, toks := tk })
   (hE : PassesOwn (model prog w) A env E := by passes_own) :
   wpAny (model prog w) A (exec (.While test body [] pos) env) Q E s := by
  refine ksw_while (WLed gl cS cN cP e1 e2 e3) (fun c => [(Str.ofString "waiting", .ref c.wl)]) (fun _ => True) wNames (WFacts gl cS cN cP rest ans dl) (fun c => 7 - c.c.2.length) ⟨wl, #[.ref D], kw, sl, #[.str (Str.ofString "/") ts], ks, #[], kg, oS, oN, oP, (D, tupO 0 u (Str.ofString "/") v) :: rest, [(0, Str.ofString "/")], (([(0, Str.ofString "/")], [Str.ofString "/"]), [])⟩ F (fun q hq => N q ?_) trivial ?_ ?_ (fun c u h tk _ hp F N => ?_) hE
  · revert q; dsimp only [WLed]; (repeat (refine List.forall_mem_cons.mpr ⟨by (repeat (first | exact List.Mem.head _ | refine List.Mem.tail _ ?_)), ?_⟩)); intro q hq; (repeat (first | exact hq | refine List.Mem.tail _ ?_))
  · intro p hp
    rw [List.mem_singleton.mp hp]
    exact hm
  · exact ⟨⟨⟨D, u, v, rfl, by simp⟩, trivial⟩, .refl _, .cons _ _ .nil, trivial, hO, hw, hsl, fun q hq => by simp [hq], hS, ⟨_, hN⟩, ⟨_, hPp⟩, JC.start, ⟨by simp, fun p hp => by (dsimp only at hp ⊢; rw [List.mem_singleton.mp hp]; simp)⟩, rfl⟩
  · refine wpAny_mono (turn c u h tk hp F N) (fun b s₂ x => ?_) fun _ _ e => e
    cases b with
    | false => simpa using x
    | true =>
      simp only [if_true] at x ⊢
      refine wpAny_mono x (fun f s₃ y => ?_) fun _ _ e => e
      obtain ⟨rfl, c', h', tk', m', news', e, F', N', hs, h1, h2, h3, h4⟩ := y
      exact ⟨c', h', tk', m', news', e, F', N', hs, trivial, (fun p hp => by rw [List.mem_singleton.mp hp]; exact h1), (fun z hz hz2 => h2 z (hz _ (.head _)) hz2), h3, h4⟩
end
theorem walk_end {h₀ : Heap} {L : Addr} {s : Shared} {gl cS cN cP : Addr} {e1 e2 e3 : Addr × Obj} {rest news' : List (Addr × Obj)} {ans : Str → Str} {dl : Int} {c : WSt} {m' m₀ : Str → Option Value} {h' : Heap} {tk' : Nat} (h : WFacts gl cS cN cP rest ans dl c) (hne : c.c.1.1 ≠ [])
    {wl sl : Addr} {wi si : Array Value} {wk sk gk : Nat} {oS oN oP : Obj} {D : Addr} {t : Int} {u v q : Tok} {x b : Str} {vN vP : Option Value} (R : List (Addr × Obj)) (ws : List (Int × Str)) {d : Site}
    (F : Fr h₀ L h' m') (N : News h₀ L h' news') (hs : stepC ans dl c.c = (d, c.c.2 ++ [(t, x, b)])) (hJ : JW d) (hP : Prs R wi.toList ws) (hpm : ws.Perm d.1) (hS : StrsAre si.toList d.2)
    (hm : ∀ p ∈ (gl, listOf (c.gi.push (.ref D)) gk) :: (wl, listOf wi wk) :: (sl, listOf si sk) :: (cP, oP) :: (cN, oN) :: (cS, oS) :: e1 :: e2 :: e3 :: (D, logO t u x v b q) :: R, p ∈ news')
    (hO : Off [gl, cS, cN, cP] ((D, logO t u x v b q) :: R)) (hw : @Ne Nat wl gl ∧ @Ne Nat wl cS ∧ @Ne Nat wl cN ∧ @Ne Nat wl cP) (hsl : @Ne Nat sl gl ∧ @Ne Nat sl cS ∧ @Ne Nat sl cN ∧ @Ne Nat sl cP) (hR : ∀ z ∈ c.R, z ∈ R)
    (h1 : oS.data = .cell (some (.ref sl))) (h2 : oN.data = .cell vN) (h3 : oP.data = .cell vP) (g1 : m' (Str.ofString "waiting") = some (.ref wl)) (g2 : ∀ z, z ≠ Str.ofString "waiting" → wNames.contains z = false → m' z = m₀ z) :
    WPost h₀ L s gl cS cN cP e1 e2 e3 rest ans dl m₀ c .next { s with heap := h', toks := tk' } := by
  obtain ⟨c1, c2, c3, c4, c5, c6, c7, c8, c9, c10, c11, c12, c13, c14⟩ := h
  obtain ⟨n1, n2, n3⟩ := c12.next hne c14
  refine ⟨rfl, ⟨wl, wi, wk, sl, si, sk, c.gi.push (.ref D), gk, oS, oN, oP, (D, logO t u x v b q) :: R, ws, stepC ans dl c.c⟩, h', tk', m', news', rfl, F, N, hm, g1, g2, ⟨hP.mono fun z hz => List.mem_cons_of_mem _ hz, ?_, ?_, ?_, hO, hw, hsl, fun z hz => List.mem_cons_of_mem _ (hR z (c8 z hz)), h1, ⟨_, h2⟩, ⟨_, h3⟩, n1, ?_, n2⟩, n3⟩
  · show ws.Perm (stepC ans dl c.c).1.1
    rw [hs]; exact hpm
  · show StrsAre si.toList (stepC ans dl c.c).1.2
    rw [hs]; exact hS
  · show Logs _ (c.gi.push (.ref D)).toList (stepC ans dl c.c).2
    rw [hs, Array.toList_push]
    exact Logs.snoc (r := (t, x, b)) rfl (.head _) (c4.mono fun z hz => List.mem_cons_of_mem _ (hR z hz))
  · show JW (stepC ans dl c.c).1
    rw [hs]; exact hJ
theorem shut_4 {md : Int} (h : (md.fdiv 4).fmod 2 = 0) : readable md = false := by
  rw [Int.fdiv_eq_ediv_of_nonneg _ (by omega), Int.fmod_eq_emod_of_nonneg _ (by omega)] at h
  unfold readable
  exact decide_eq_false (by omega)
theorem shut_5 {md : Int} (h : (md.fdiv 4).fmod 2 ≠ 0) : readable md = true := by
  rw [Int.fdiv_eq_ediv_of_nonneg _ (by omega), Int.fmod_eq_emod_of_nonneg _ (by omega)] at h
  unfold readable
  exact decide_eq_true (by omega)
theorem WFacts.sizes {gl cS cN cP : Addr} {rest : List (Addr × Obj)} {ans : Str → Str} {dl : Int} {c : WSt} (h : WFacts gl cS cN cP rest ans dl c) : c.wi.size ≤ 4 ∧ c.si.size ≤ 6 ∧ c.gi.size ≤ 6 := by
  obtain ⟨c1, c2, c3, c4, _, _, _, _, _, _, _, c6, c7, _⟩ := h
  have e1 := c1.length
  have e0 := c2.length_eq
  have e2 := c3.length
  have e3 := c4.length
  have l4 := c6.len4
  have l6 : c.c.1.2.length ≤ pagesP.length := nodup_le c6.1 c6.2.1
  have e6 : pagesP.length = 6 := rfl
  have l5 := c6.2.2.2.2.1
  simp only [Array.length_toList] at e1 e2 e3
  omega
theorem kw_Walked : True := by
  k_with "compareOp NotEq ref ref" => (k_here; k_dflt (with_reducible show wpAny _ _ (compareOp CmpOp.NotEq (Value.ref _) (Value.ref _)) _ _ _); k_dflt (refine wait_ne (by k_asm) (by k_mem) (by assumption) (by assumption) (by ktr_rel) (by k_mem) (by ktr_units) ?_ ?_; (all_goals k_whole); (all_goals intro hnw')))
  k_with "compareOp NotEq ref ref" => (k_here; k_dflt (with_reducible show wpAny _ _ (compareOp CmpOp.NotEq (Value.ref _) (Value.ref _)) _ _ _); k_dflt (refine pair_ne (by k_asm) (by assumption) (by ktr_rel) (by k_mem) (by assumption) (by assumption) (by ktr_units) ?_ ?_; (all_goals k_whole); (all_goals intro hnw')))
  k_with "call builtin:sorted" => (k_here; k_dflt (refine sorted_use (by k_asm) (by k_asm) (by k_mem) (by assumption) (by ktr_rel) (by assumption) (by assumption) (by assumption) (by assumption) ?_; k_whole; intro D' out' kk' h' b' t' u' x' v' F' N' l1' o1' hb' e1' e2' e3' e4' hJ'; (try k_lt l1'); (try k_sweep)))
  k_with "subscriptTail" => (k_here; k_dflt (with_reducible show wpAny _ _ (subscriptTail _ _ (Value.ref _) (Value.int 0 _)) _ _ _); k_dflt (refine item0 (by k_asm) (by k_mem) (by assumption) ?_ (by with_unfolding_all rfl); k_whole))
  k_with "exec Assign cons ListComp" => (k_here; (with_reducible show wpAny _ _ (exec (Stmt.Assign _ (Expr.ListComp _ [⟨Expr.Name _ _, _, [_], _⟩] _ _) _) _) _ _ _); k_dflt (refine LCt.Assign_ListComp_T (F₀ := by k_asm) (by rfl) (by with_unfolding_all rfl) (by with_unfolding_all rfl) (by decide) (by rfl) (by decide) (by rfl) (by rfl) (by rfl) ?_); k_dflt lct_toSrc)
  k_with "exec Assign cons ListComp" => (k_here; (with_reducible show wpAny _ _ (exec (Stmt.Assign _ (Expr.ListComp _ [⟨Expr.Tuple _ _ _, _, _, _⟩] _ _) _) _) _ _ _); k_dflt (refine comp_pair (F₀ := by k_asm) (by rfl) (by with_unfolding_all rfl) (by with_unfolding_all rfl) (by decide) (by rfl) (by decide) (by rfl) (by rfl) (by decide) (by rfl) (by rfl) ?_))
  k_with "CompSrcT" => (k_here; refine stop_in ?_)
  k_with "CompSrc" => (k_here; refine stop_in ?_)
  k_with "eval ListComp" => (k_here; (with_reducible show wpAny _ _ (eval (Expr.ListComp _ [⟨Expr.Name _ _, _, [_], _⟩] _ _) _) _ _ _); lct_look; lcg_calm; k_dflt (refine LCt.ListComp_T (F₀ := by k_asm) (by with_unfolding_all rfl) (by decide) (by rfl) (by decide) (by rfl) ?_); k_dflt lct_toSrc)
  k_with "eval ListComp" => (k_here; (with_reducible show wpAny _ _ (eval (Expr.ListComp _ [⟨Expr.Name _ _, _, [], _⟩] _ _) _) _ _ _); k_dflt (refine LCg.ListComp_U (F₀ := by k_asm) (by with_unfolding_all rfl) (by decide) (by rfl) (by decide) (by rfl) ?_); k_dflt lcg_toSrc)
  k_with "PairSrcT" => (k_here; refine stop_in ?_)
  k_with "compareOp NotEq ref ref" => (k_here; k_dflt (with_reducible show wpAny _ _ (compareOp CmpOp.NotEq (Value.ref _) (Value.ref _)) _ _ _); k_dflt (refine held_ne (by k_asm) (by k_mem) (by assumption) (by ktr_rel) (by k_mem) (by ktr_units) ?_ ?_; (all_goals k_whole); (all_goals intro hnh')))
  k_with "call builtin:max" => (k_here; k_dflt (refine max_held (by rfl) (by k_asm) (by k_asm) (by k_mem) (by assumption) (by ktr_rel) (by assumption) (by ktr_units) ?_; k_whole; intro h' tk' b' t' u' hb' F' N'; (try dsimp only); (try k_sweep)))
  k_with "subscriptTail" => (k_here; k_dflt (with_reducible show wpAny _ _ (subscriptTail _ _ (Value.ref _) (Value.int 1 _)) _ _ _); k_dflt (refine item1 (by k_asm) (by assumption) (by ktr_rel) ?_ (by with_unfolding_all rfl); k_whole))
  k_with "subscriptTail" => (k_here; k_dflt (with_reducible show wpAny _ _ (subscriptTail _ _ (Value.ref _) (Value.str _ _)) _ _ _); k_dflt (refine mode_item (by k_asm) (by k_mem) (by assumption) (by assumption) (by assumption) ?_ (by with_unfolding_all rfl); k_whole; intro t'))
  k_with "isTrue BoolOp" => (k_here; (with_reducible show wpAny _ _ (isTrue (Expr.BoolOp BoolOp.And [Expr.Compare _ [CmpOp.NotEq] _ _, _] _) _ _) _ _ _); refine stop_in ?_)
  k_with "subscriptTail" => (k_here; k_dflt (with_reducible show wpAny _ _ (subscriptTail _ _ (Value.ref _) (Value.str _ _)) _ _ _); k_dflt (refine link_item (by k_asm) (by assumption) (by ktr_rel) (by assumption) ?_ (by with_unfolding_all rfl); k_whole; intro la' its' k' m1' m2' m3' m4'))
  k_with "subscriptTail" => (k_here; k_dflt (with_reducible show wpAny _ _ (subscriptTail _ _ (Value.ref _) (Value.int _ _)) _ _ _); k_dflt (refine str_item (by k_asm) (by k_mem) (by assumption) (by assumption) (by omega) ?_ (by with_unfolding_all rfl); k_whole; intro t'))
  k_with "subscriptTail" => (k_here; k_dflt (with_reducible show wpAny _ _ (subscriptTail _ _ (Value.ref _) (Value.int _ _)) _ _ _); k_dflt (refine wt_item (by k_asm) (by k_mem) (by assumption) ?_ (by with_unfolding_all rfl); k_whole; intro t' w1' w2'))
  k_with "compareOp NotIn str ref" => (k_here; k_dflt (with_reducible show wpAny _ _ (compareOp CmpOp.NotIn (Value.str _ _) (Value.ref _)) _ _ _); k_dflt (refine notin_list_strs (by exact News.isList (by k_asm) (by k_mem)) (by assumption) ?_; k_whole))
  k_with "binaryOp Add ref ref" => (k_here; k_dflt (refine add_lst (by k_asm) (by k_asm) (by k_mem) (by k_mem) (by constructor <;> first | omega | (rw [List.size_toArray]; omega)) ?_; k_whole; intro D' h' F' N' l1'; (try k_lt l1'); (try k_sweep)))
  k_with "exec While Compare cons nil" => (k_here; refine stop_in ?_)
  trivial
section
variable {w : World} {dp un : Nat} {gd : Option (List Code)} {cn : Str} {nm : List (Str × NameKind)} {ig ic : Bool} {mr : List (Str × Const)} {a : Addr} {ccd : Value} {cl : List (Str × Addr)} {outer : List Env} {A₀ : Around} {base h₀ : Heap} {L : Addr} {m : Str → Option Value} {s : Shared} {Q E : Value → Shared → Prop}
   {mean : ExcName → Option Value} {mg mb : Str → Option Value} {loose : List Str}
set_option maxHeartbeats 4000000 in
theorem walked0 {md rl : Addr} {vs : Array Value} {k : Nat} {mo : Obj} {dl : Int} {dt : Tok} {rules : List (Str × Bool)} {f : Str → Int} {kvs : List (Str × Value)} {rest : List (Addr × Obj)}
   (B : Below A₀ base outer h₀) (F : Fr h₀ L s.heap m) (X : (heapK w.params).In h₀)
   (N : News h₀ L s.heap ((md, mo) :: (rl, listOf vs k) :: rest))
   (T : Top topProg loose mean mg mb h₀) (hdp : dp + 8 < recursionLimit) (hun : un + 400 < cLine)
   (hRP : RPs rest vs.toList rules) (hRg : ∀ r ∈ rules, r.1 ∈ pagesP) (hRl : rules.length ≤ 100) (hdl : 0 ≤ dl ∧ dl ≤ 9)
   (hME : mo.IsDictOf (PySem.strKind PySem.Challenge.rw_oy0154_01.prog w) kvs) (hM : ∀ pg ∈ pagesP, ∃ t, valueAt kvs pg = some (.int (f pg) t)) (hf : ∀ pg ∈ pagesP, 32768 ≤ f pg ∧ f pg < 36864)
   (hret : ∀ gl gi gk R' h' tk', Logs R' gi.toList (crawlN (ansOf rules f) dl 7 (([(0, Str.ofString "/")], [Str.ofString "/"]), [])) → gi.size ≤ 6 → (∀ q ∈ rest, q ∈ R') → Fr h₀ L h' m → News h₀ L h' ((gl, listOf gi gk) :: R') → Q (.ref gl) { s with heap := h', toks := tk' }) :
   wpAny (model PySem.Challenge.rw_oy0154_01.prog w) (ktrTop dp un gd cn ⟨.function, nm, ig, ic, mr⟩ L a ccd cl outer) (call (.ref 174) [.ref md, .ref rl, .int dl dt]) Q E s := by
  revert T N X
  k_fill
  intro X N T
  refine wpAny_call ?_
  k_dflt k_enter
  k_steps
  refine stop_out ?_
  (rename News _ _ _ _ => lN')
  (rename Fr _ _ _ _ => lF')
  with_unfolding_all refine' walk_while (ansOf rules f) dl lF' lN' ?whO ?whw ?whs ?whS ?whN ?whP ?whm ?wtn
  case whO =>
    refine Off.led ?_ (Off.cons (by k_all) (Off.cons (by k_all) (Off.cons (by k_all) (Off.cons (by k_all) Off.nil))))
    refine List.forall_mem_cons.mpr ⟨by k_ne, List.forall_mem_cons.mpr ⟨by k_ne, List.forall_mem_cons.mpr ⟨by k_ne, List.forall_mem_cons.mpr ⟨by k_ne, List.forall_mem_nil _⟩⟩⟩⟩
  case whw => exact ⟨by k_ne, by k_ne, by k_ne, by k_ne⟩
  case whs => exact ⟨by k_ne, by k_ne, by k_ne, by k_ne⟩
  case whS => assumption
  case whN => assumption
  case whP => assumption
  case whm => rfl
  case wtn =>
    intro c u h9 tk9 hC F9 N9
    clear lN' lF'
    have hC' := hC
    obtain ⟨hz1, hz2, hz3⟩ := hC.sizes
    obtain ⟨c1, c2, c3, c4, c5, ⟨w1, w2, w3, w4⟩, ⟨w5, w6, w7, w8⟩, c6, cS, ⟨vN, cN⟩, ⟨vP, cP⟩, c7, c8, c9⟩ := hC
    have hOn : OnSite c.ws := fun p hp => c7.2.2.1 p (c2.mem_iff.mp hp)
    k_steps
    refine stop_out ?_
    (rename News _ _ _ _ => lN')
    (rename Fr _ _ _ _ => lF')
    (rename List.headD _ _ = _ => he1)
    refine' dropT_src (fun i ys => Prs c.R ys ((c.ws.take i).filter fun p => decide (p ≠ c.c.1.1.headD default))) ?waH lF' lN' ?waM ?waZ ?waI ?waT ?waE
    case waH => rfl
    case waM => k_mem
    case waZ => rw [PySem.sizeLine_eq]; omega
    case waI => exact trivial
    case waT =>
      intro i v ys I oI C oC D m₂ g h tk E' hv hj hC hx F' N' off ne
      clear lF' lN'
      have off0 := off
      simp only [LCg.Off3, and_true] at off
      obtain ⟨hi8, a8, u8, x8, rfl, hm8⟩ := c1.at' (i := i) (v := v) (by simpa using hv)
      have hx8 : (c.ws.getD i default).2 ∈ pagesP := hOn _ (by rw [List.getD_eq_getElem?_getD, List.getElem?_eq_getElem hi8]; exact List.getElem_mem _)
      k_steps
      · (rename News _ _ _ _ => nE)
        (rename Fr _ _ _ _ => fE)
        refine LCg.CompEnd.intro fE nE _ (by ktr_rel) off0 trivial ⟨rfl, ?_⟩
        rw [tf_yes hi8 (decide_eq_true (by rw [he1]; assumption))]
        exact Prs.snoc rfl hm8 hj
      · (rename News _ _ _ _ => nE)
        (rename Fr _ _ _ _ => fE)
        refine LCg.CompEnd.intro fE nE _ (by ktr_rel) off0 trivial ⟨rfl, ?_⟩
        rw [tf_no hi8 (decide_eq_false (by rw [he1]; intro hq; exact hq (by assumption)))]
        exact hj
    case waE =>
      intro g7 ys hy
      clear lF' lN'
      have hWs : Prs c.R ys (c.ws.filter fun p => decide (p ≠ c.c.1.1.headD default)) := by
        have := c1.length
        simp only [Array.length_toList] at this
        rwa [List.take_of_length_le (by omega)] at hy
      obtain ⟨t9, x9, ht9⟩ : ∃ t x, c.c.1.1.headD default = (t, x) := ⟨_, _, rfl⟩
      obtain ⟨hq1, hq2⟩ := Prod.mk.inj (ht9.symm.trans he1)
      subst hq1
      subst hq2
      clear ht9
      have hRP' : RPs c.R vs.toList rules := hRP.mono c6
      have hvl : vs.size = rules.length := by simpa using hRP.length
      k_steps
      refine stop_out ?_
      (rename News _ _ _ _ => lN')
      (rename Fr _ _ _ _ => lF')
      refine' pair_src (es := [_, _, _, _, _, _, _, _, _, _, _, _]) (R := c.R) (rules := rules) (fun i ys R' => Hs R' ys (heldL (rules.take i) x9) ∧ (∀ q ∈ c.R, q ∈ R') ∧ Off [_, _, _, _] R') ?pbH lF' lN' ?pbM ?pbZ hRP' ⟨trivial, fun _ h => h, c5⟩ ?pbW ?pbT ?pbE
      case pbH => rfl
      case pbM => (repeat (first | exact List.Mem.head _ | refine List.Mem.tail _ ?_))
      case pbZ => rw [PySem.sizeLine_eq]; omega
      case pbW => exact fun i ys R' h => h.2.1
      case pbT =>
        intro i p tp ys2 R2 g2 I oI C oC D m₂ h tk E' hi hpi hW hC hx hx2 F' N' off ne
        obtain ⟨hw1, hw2, hw3⟩ := hW
        clear lF' lN'
        have off0 := off
        simp only [LCg.Off3, and_true, List.cons_append, List.nil_append] at off N'
        have hpp : p.1 ∈ pagesP := hRg p (by rw [← hpi, List.getD_eq_getElem?_getD, List.getElem?_eq_getElem hi]; exact List.getElem_mem _)
        have hp100 := page_len _ hpp
        k_steps
        · (rename News _ _ _ _ => nE)
          (rename Fr _ _ _ _ => fE)
          (rename List.any _ _ = _ => ha1)
          refine' comp_grow off0 fE nE (e := (_, hO p.1.length _ p.2)) ?pcS ?pc1 ?pc2 ?pc3 ⟨(_, hO p.1.length _ p.2) :: R2, rfl, ?pcW, fun q hq => List.mem_cons_of_mem _ (hw2 q hq), ?pcA⟩
          case pcS =>
            simp only [List.cons_append, List.nil_append]
            ktr_rel
          case pc1 => k_ne
          case pc2 => k_ne
          case pc3 => k_ne
          case pcW =>
            rw [held_yes hi hpi (cov_1 ha1)]
            exact Hs.snoc (r := ((p.1.length : Int), p.2)) rfl (.head _) (hw1.mono fun q hq => List.mem_cons_of_mem _ hq)
          case pcA => exact Off.led (List.forall_mem_cons.mpr ⟨by k_ne, List.forall_mem_cons.mpr ⟨by k_ne, List.forall_mem_cons.mpr ⟨by k_ne, List.forall_mem_cons.mpr ⟨by k_ne, List.forall_mem_nil _⟩⟩⟩⟩) hw3
        · (rename News _ _ _ _ => nE)
          (rename Fr _ _ _ _ => fE)
          (rename (Txt.slice _ _ _ == _) = true => ha2)
          refine' comp_grow off0 fE nE (e := (_, hO p.1.length _ p.2)) ?pdS ?pd1 ?pd2 ?pd3 ⟨(_, hO p.1.length _ p.2) :: R2, rfl, ?pdW, fun q hq => List.mem_cons_of_mem _ (hw2 q hq), ?pdA⟩
          case pdS =>
            simp only [List.cons_append, List.nil_append]
            ktr_rel
          case pd1 => k_ne
          case pd2 => k_ne
          case pd3 => k_ne
          case pdW =>
            rw [held_yes hi hpi (cov_2 hpp (by assumption) ha2)]
            exact Hs.snoc (r := ((p.1.length : Int), p.2)) rfl (.head _) (hw1.mono fun q hq => List.mem_cons_of_mem _ hq)
          case pdA => exact Off.led (List.forall_mem_cons.mpr ⟨by k_ne, List.forall_mem_cons.mpr ⟨by k_ne, List.forall_mem_cons.mpr ⟨by k_ne, List.forall_mem_cons.mpr ⟨by k_ne, List.forall_mem_nil _⟩⟩⟩⟩) hw3
        · (rename News _ _ _ _ => nE)
          (rename Fr _ _ _ _ => fE)
          (rename List.any _ _ = false => ha1)
          (rename (Txt.slice _ _ _ == _) = false => ha2)
          refine' LCg.CompEnd.intro fE nE ([_, _, _, _, _, _, _, _, _, _, _, _] ++ R2) ?peS off0 trivial ⟨_, rfl, ?peW, hw2, hw3⟩
          case peS =>
            simp only [List.cons_append, List.nil_append]
            ktr_rel
          case peW =>
            rw [held_no hi hpi (cov_3 hpp (by assumption) ha1 ha2)]
            exact hw1
      case pbE =>
        intro g3 ys3 R3 hW
        obtain ⟨hh1, hh2, hh3⟩ := hW
        rw [hvl, List.take_length] at hh1
        clear lF' lN'
        intro D8 h8 tk8 F8 N8 o8
        simp only [List.cons_append, List.nil_append, LCg.Off1, and_true] at o8 N8
        k_steps
        refine stop_out ?_
        (rename News _ _ _ _ => lN')
        (rename Fr _ _ _ _ => lF')
        have lS := shrink13 lN'
        clear lN'
        refine' cut_test (!allowP rules x9) lF' lS ?cuT ?cuC
        case cuT =>
          refine isTrue_and ?_
          k_steps
          · (rename News _ _ _ _ => nE)
            (rename Fr _ _ _ _ => fE)
            (rename allowP _ _ = true => hal)
            exact cut_end fE nE (by ktr_rel) (by rw [hal]; rfl)
          · (rename News _ _ _ _ => nE)
            (rename Fr _ _ _ _ => fE)
            (rename allowP _ _ = false => hal)
            exact cut_end fE nE (by ktr_rel) (by rw [hal]; rfl)
          · (rename News _ _ _ _ => nE)
            (rename Fr _ _ _ _ => fE)
            (rename heldL _ _ = [] => hal)
            exact cut_end fE nE (by ktr_rel) (by rw [allowP_none hal]; rfl)
        case cuC =>
          intro h7 tk7 F7 N7
          clear lF' lS
          rcases Bool.eq_false_or_eq_true (allowP rules x9) with hal | hal
          · rw [hal]
            dsimp only [Bool.not_true]
            k_steps
            · (rename News _ _ _ _ => nE)
              (rename Fr _ _ _ _ => fE)
              refine' walk_end hC' (by assumption) R3 (c.ws.filter fun p => decide (p ≠ c.c.1.1.headD default)) fE nE (stepC_not he1 (ans_shut hal (shut_4 (by assumption))) (by decide)) ?qaj ?qap ?qam ?qaS ?qas ?qaO ?qaw ?qal hh2 ?qah1 ?qah2 ?qah3 ?qag1 ?qag2
              case qaj => exact c8.pop c7 (by assumption)
              case qam => exact rest_perm c7 c8 c2 (by assumption)
              case qaS => exact c3
              case qap => exact (by simpa using hWs.mono hh2)
              case qas =>
                refine List.forall_mem_cons.mpr ⟨by k_mem, List.forall_mem_cons.mpr ⟨by k_mem, List.forall_mem_cons.mpr ⟨by k_mem, List.forall_mem_cons.mpr ⟨by k_mem, List.forall_mem_cons.mpr ⟨by k_mem, List.forall_mem_cons.mpr ⟨by k_mem, List.forall_mem_cons.mpr ⟨by k_mem, List.forall_mem_cons.mpr ⟨by k_mem, List.forall_mem_cons.mpr ⟨by k_mem, List.forall_mem_cons.mpr ⟨by k_mem, ?_⟩⟩⟩⟩⟩⟩⟩⟩⟩⟩
                ktr_rel
              case qaO =>
                refine Off.led ?_ hh3
                refine List.forall_mem_cons.mpr ⟨by k_ne, List.forall_mem_cons.mpr ⟨by k_ne, List.forall_mem_cons.mpr ⟨by k_ne, List.forall_mem_cons.mpr ⟨by k_ne, List.forall_mem_nil _⟩⟩⟩⟩
              case qaw => exact ⟨by k_ne, by k_ne, by k_ne, by k_ne⟩
              case qal => exact ⟨w5, w6, w7, w8⟩
              case qah1 => assumption
              case qah2 => assumption
              case qah3 => assumption
              case qag1 => exact (if_neg (by decide)).trans (if_pos rfl)
              case qag2 =>
                intro z hz1 hz2
                simp only [wNames, List.contains_cons, List.contains_nil, Bool.or_false, Bool.or_eq_false_iff, beq_eq_false_iff_ne, ne_eq] at hz2
                simp [hz1, hz2]
            refine stop_out ?_
            (rename News _ _ _ _ => lN')
            (rename Fr _ _ _ _ => lF')
            (rename IsRange _ _ _ _ _ _ _ _ => lR')
            (rename _ ∈ pagesP => hp9)
            have l4 := links_len x9 hp9
            refine' dropTR_src (n := (linksOf x9).length) (fun i ys => IntsAre ys ((freshK x9 c.c.1.2 i).map Int.ofNat)) ?feH lF' lN' lR' (links_range l4).1 (links_range l4).2 ?feZ ?fe0 ?feT ?feE
            case feH => rfl
            case feZ => rw [PySem.sizeLine_eq]; omega
            case fe0 => exact .nil
            case feT =>
              intro i t ys4 I oI C oC D m₂ g4 h tk E' hi hj hC hx F' N' off ne
              clear lF' lN' lR'
              have off0 := off
              simp only [LCg.Off3, and_true] at off
              obtain ⟨y, hy⟩ : ∃ y, (linksOf x9)[i]? = some y := ⟨_, List.getElem?_eq_getElem hi⟩
              have hi4 : i < 4 := by omega
              k_steps
              · (rename News _ _ _ _ => nE)
                (rename Fr _ _ _ _ => fE)
                (rename List.any _ _ = true => hsn)
                exact LCg.CompEnd.intro fE nE _ (by ktr_rel) off0 trivial ⟨rfl, fresh_no hy hsn hj⟩
              · (rename News _ _ _ _ => nE)
                (rename Fr _ _ _ _ => fE)
                (rename List.any _ _ = false => hsn)
                exact LCg.CompEnd.intro fE nE _ (by ktr_rel) off0 trivial ⟨rfl, fresh_yes hy hsn hj⟩
            case feE =>
              intro g4 ys4 hfr D7 h7 tk7 F7 N7 o7
              clear lF' lN' lR'
              simp only [LCg.Off1, and_true] at o7
              k_steps
              refine stop_out ?_
              (rename News _ _ _ _ => lN')
              (rename Fr _ _ _ _ => lF')
              (rename Off _ _ => hO8)
              have hfl := fresh_len (page := x9) (seen := c.c.1.2) (n := (linksOf x9).length)
              have hys := fresh_size hfr
              refine' grow_src (es := [_, _, _, _, _, _, _, _, _, _, _, _]) (R := _ ++ R3) (fun i ys R' => Prs R' ys (((freshK x9 c.c.1.2 (linksOf x9).length).take i).map fun k => (t9 + wtOf k * dl, linkA x9 k)) ∧ (∀ q ∈ R3, q ∈ R') ∧ Off [_, _, _, _] R') ?gaH lF' lN' ?gaM ?gaZ ⟨trivial, fun q hq => List.mem_append_right _ hq, hO8⟩ ?gaT ?gaE
              case gaH => rfl
              case gaM => (repeat (first | exact List.Mem.head _ | refine List.Mem.tail _ ?_))
              case gaZ =>
                rw [List.size_toArray, PySem.sizeLine_eq]
                omega
              case gaT =>
                intro i v ys5 R5 I oI C oC D m₂ g5 h tk E' hv hW hC hx F' N' off ne
                obtain ⟨hw1, hw2, hw3⟩ := hW
                clear lF' lN'
                have off0 := off
                simp only [LCg.Off3, and_true, List.cons_append, List.nil_append] at off N'
                obtain ⟨k5, t5, rfl, hk5⟩ := fresh_at hfr (by simpa using hv)
                obtain ⟨hk5n, hy5⟩ := link_of (Nat.le_refl _) hk5
                have hk54 : k5 < 4 := by omega
                k_steps
                (rename News _ _ _ _ => nE)
                (rename Fr _ _ _ _ => fE)
                refine' comp_grow off0 fE nE (e := (_, tupO (t9 + wtOf k5 * dl) _ (linkA x9 k5) _)) ?gcS ?gc1 ?gc2 ?gc3 ⟨(_, tupO (t9 + wtOf k5 * dl) _ (linkA x9 k5) _) :: R5, rfl, pr_next hk5 (.head _) (hw1.mono fun q hq => List.mem_cons_of_mem _ hq), fun q hq => List.mem_cons_of_mem _ (hw2 q hq), ?gcA⟩
                case gcS =>
                  simp only [List.cons_append, List.nil_append]
                  ktr_rel
                case gc1 => k_ne
                case gc2 => k_ne
                case gc3 => k_ne
                case gcA => exact Off.led (List.forall_mem_cons.mpr ⟨by k_ne, List.forall_mem_cons.mpr ⟨by k_ne, List.forall_mem_cons.mpr ⟨by k_ne, List.forall_mem_cons.mpr ⟨by k_ne, List.forall_mem_nil _⟩⟩⟩⟩) hw3
              case gaE =>
                intro g5 ys5 R5 hW
                obtain ⟨hw1, hw2, hw3⟩ := hW
                clear lF' lN'
                rw [List.size_toArray, hys, List.take_length] at hw1
                have hy5 := hw1.length
                rw [List.length_map] at hy5
                have hys2 := hWs.length
                have hys3 := List.length_filter_le (fun p => decide (p ≠ c.c.1.1.headD default)) c.ws
                have hys4 := c1.length
                rw [Array.length_toList] at hys4
                have hyl : ys.length ≤ 100 := by omega
                have hyl5 : ys5.length ≤ 100 := by omega
                intro D6 h6 tk6 F6 N6 o6
                simp only [List.cons_append, List.nil_append, LCg.Off1, and_true] at o6 N6
                k_steps
                refine stop_out ?_
                (rename News _ _ _ _ => lN')
                (rename Fr _ _ _ _ => lF')
                have lS := shrink14 lN'
                clear lN'
                refine' drop_src (fun i ys => StrsAre ys (((freshK x9 c.c.1.2 (linksOf x9).length).take i).map (linkA x9))) ?gfH lF' lS ?gfM ?gfZ .nil ?gfT ?gfE
                case gfH => rfl
                case gfM => k_mem
                case gfZ =>
                  rw [List.size_toArray, PySem.sizeLine_eq]
                  omega
                case gfT =>
                  intro i v ys6 I oI C oC D m₂ g6 h tk E' hv hw0 hC hx F' N' off ne
                  clear lF' lS
                  have off0 := off
                  simp only [LCg.Off3, and_true] at off
                  obtain ⟨k5, t5, rfl, hk5⟩ := fresh_at hfr (by simpa using hv)
                  obtain ⟨hk5n, hy5⟩ := link_of (Nat.le_refl _) hk5
                  have hk54 : k5 < 4 := by omega
                  k_steps
                  (rename News _ _ _ _ => nE)
                  (rename Fr _ _ _ _ => fE)
                  exact LCg.CompEnd.intro fE nE _ (by ktr_rel) off0 trivial ⟨rfl, st_next hk5 hw0⟩
                case gfE =>
                  intro g6 ys6 hw6 D4 h4 tk4 F4 N4 o4
                  clear lF' lS
                  rw [List.size_toArray, hys, List.take_length] at hw6
                  have hy6 := hw6.length
                  rw [List.length_map] at hy6
                  have hyl6 : ys6.length ≤ 100 := by omega
                  simp only [LCg.Off1, and_true] at o4
                  k_steps
                  (rename News _ _ _ _ => nE)
                  (rename Fr _ _ _ _ => fE)
                  (rename _ ≠ [] => hne9)
                  obtain ⟨gp1, gp2, gp3⟩ := got_perm (t := t9) (dl := dl) hp9 c7 c8 c2 (by assumption) (by assumption)
                  refine' walk_end hC' (by assumption) R5 ((c.ws.filter fun p => decide (p ≠ c.c.1.1.headD default)) ++ (freshK x9 c.c.1.2 (linksOf x9).length).map fun k => (t9 + wtOf k * dl, linkA x9 k)) fE nE (stepC_got he1 (ans_got hal (shut_5 (by assumption)))) gp3 ?qcp gp1 ?qcS ?qcs ?qcO ?qcw ?qcl (fun z hz => hw2 z (hh2 z hz)) ?qch1 ?qch2 ?qch3 ?qcg1 ?qcg2
                  case qcp => exact (by simpa using (hWs.mono fun z hz => hw2 z (hh2 z hz)).app hw1)
                  case qcS =>
                    rw [gp2]
                    exact (by simpa using c3.append' hw6)
                  case qcs =>
                    refine List.forall_mem_cons.mpr ⟨by k_mem, List.forall_mem_cons.mpr ⟨by k_mem, List.forall_mem_cons.mpr ⟨by k_mem, List.forall_mem_cons.mpr ⟨by k_mem, List.forall_mem_cons.mpr ⟨by k_mem, List.forall_mem_cons.mpr ⟨by k_mem, List.forall_mem_cons.mpr ⟨by k_mem, List.forall_mem_cons.mpr ⟨by k_mem, List.forall_mem_cons.mpr ⟨by k_mem, List.forall_mem_cons.mpr ⟨by k_mem, ?_⟩⟩⟩⟩⟩⟩⟩⟩⟩⟩
                    ktr_rel
                  case qcO =>
                    refine Off.led ?_ hw3
                    refine List.forall_mem_cons.mpr ⟨by k_ne, List.forall_mem_cons.mpr ⟨by k_ne, List.forall_mem_cons.mpr ⟨by k_ne, List.forall_mem_cons.mpr ⟨by k_ne, List.forall_mem_nil _⟩⟩⟩⟩
                  case qcw => exact ⟨by k_ne, by k_ne, by k_ne, by k_ne⟩
                  case qcl => exact ⟨by k_ne, by k_ne, by k_ne, by k_ne⟩
                  case qch1 => assumption
                  case qch2 => assumption
                  case qch3 => assumption
                  case qcg1 => exact if_pos rfl
                  case qcg2 =>
                    intro z hz1 hz2
                    simp only [wNames, List.contains_cons, List.contains_nil, Bool.or_false, Bool.or_eq_false_iff, beq_eq_false_iff_ne, ne_eq] at hz2
                    simp [hz1, hz2]
          · rw [hal]
            dsimp only [Bool.not_false]
            k_steps
            · (rename News _ _ _ _ => nE)
              (rename Fr _ _ _ _ => fE)
              refine' walk_end hC' (by assumption) R3 (c.ws.filter fun p => decide (p ≠ c.c.1.1.headD default)) fE nE (stepC_not he1 (ans_barred hal) (by decide)) ?qbj ?qbp ?qbm ?qbS ?qbs ?qbO ?qbw ?qbl hh2 ?qbh1 ?qbh2 ?qbh3 ?qbg1 ?qbg2
              case qbj => exact c8.pop c7 (by assumption)
              case qbm => exact rest_perm c7 c8 c2 (by assumption)
              case qbS => exact c3
              case qbp => exact (by simpa using hWs.mono hh2)
              case qbs =>
                refine List.forall_mem_cons.mpr ⟨by k_mem, List.forall_mem_cons.mpr ⟨by k_mem, List.forall_mem_cons.mpr ⟨by k_mem, List.forall_mem_cons.mpr ⟨by k_mem, List.forall_mem_cons.mpr ⟨by k_mem, List.forall_mem_cons.mpr ⟨by k_mem, List.forall_mem_cons.mpr ⟨by k_mem, List.forall_mem_cons.mpr ⟨by k_mem, List.forall_mem_cons.mpr ⟨by k_mem, List.forall_mem_cons.mpr ⟨by k_mem, ?_⟩⟩⟩⟩⟩⟩⟩⟩⟩⟩
                ktr_rel
              case qbO =>
                refine Off.led ?_ hh3
                refine List.forall_mem_cons.mpr ⟨by k_ne, List.forall_mem_cons.mpr ⟨by k_ne, List.forall_mem_cons.mpr ⟨by k_ne, List.forall_mem_cons.mpr ⟨by k_ne, List.forall_mem_nil _⟩⟩⟩⟩
              case qbw => exact ⟨by k_ne, by k_ne, by k_ne, by k_ne⟩
              case qbl => exact ⟨w5, w6, w7, w8⟩
              case qbh1 => assumption
              case qbh2 => assumption
              case qbh3 => assumption
              case qbg1 => exact (if_neg (by decide)).trans (if_pos rfl)
              case qbg2 =>
                intro z hz1 hz2
                simp only [wNames, List.contains_cons, List.contains_nil, Bool.or_false, Bool.or_eq_false_iff, beq_eq_false_iff_ne, ne_eq] at hz2
                simp [hz1, hz2]
    (rename News _ _ _ _ => nE)
    (rename Fr _ _ _ _ => fE)
    (rename _ = [] => hnw)
    exact hret _ c.gi c.gk c.R _ _ (log_last c4 c2 hnw c9) hz3 c6 fE (cb_drop nE (List.forall_mem_cons.mpr ⟨by k_mem, by ktr_rel⟩))
end
end Mine
end
section
open PySem PySem.W PyProof.Rows PySem.Calls PySem.Spec
namespace Mine
noncomputable def pickP (j : Int) : Str := pagesP.getD j.toNat default
theorem pick_get {j : Int} (h0 : 0 ≤ j) (h6 : j < 6) : pagesP[j.toNat]? = some (pickP j) ∧ pickP j ∈ pagesP := by
  have hl : j.toNat < pagesP.length := by show j.toNat < 6; omega
  have e : pagesP[j.toNat]? = some (pickP j) := by
    unfold pickP
    rw [List.getD_eq_getElem?_getD, List.getElem?_eq_getElem hl]
    rfl
  exact ⟨e, List.mem_of_getElem? e⟩
section
variable {prog : Program} {w : World} {A : Around} {E : Value → Shared → Prop} {s : Shared} {h₀ : Heap} {L : Addr} {news : List (Addr × Obj)} {Q : Value → Shared → Prop}
theorem page_item {l : Addr} {its : Array Value} {k : Nat} {a : Int} {t : Tok} {value slice : PySem.Expr} (N : News h₀ L s.heap news) (hm : (l, listOf its k) ∈ news) (hS : StrsAre its.toList pagesP)
   (h : ∀ t', pickP (a.fmod 6) ∈ pagesP → Q (.str (pickP (a.fmod 6)) t') s) (hs : subscripted slice false (.ref l) (.int (a.fmod 6) t) = operate [.ref l, .int (a.fmod 6) t] (getItem (.ref l) (.int (a.fmod 6) t)) := by with_unfolding_all rfl) :
   wpAny (model prog w) A (subscriptTail value slice (.ref l) (.int (a.fmod 6) t)) Q E s := by
  have h0 : 0 ≤ a.fmod 6 := Int.fmod_nonneg_of_pos a (by omega)
  have h6 : a.fmod 6 < 6 := Int.fmod_lt_of_pos a (by omega)
  generalize a.fmod 6 = b at *
  obtain ⟨n, rfl⟩ : ∃ n : Nat, b = (n : Int) := ⟨b.toNat, by omega⟩
  obtain ⟨e1, e2⟩ := pick_get h0 h6
  obtain ⟨t', ht⟩ := hS.get _ _ e1
  have hl : s.heap.IsList l its := News.isList N hm
  rw [Int.toNat_natCast] at ht
  exact tail_any hl.typeIs slot_list_getitem.lookup (wpAny_getItem_list hl (by omega) (by omega) (by simpa using ht) (h t' e2)) hs
end
noncomputable abbrev rules0 : List (Str × Bool) := [(Str.ofString "/b/y", false), (Str.ofString "/b/y", true), (Str.ofString "/b", true), (Str.ofString "/b", false), (Str.ofString "/c", false), (Str.ofString "/", true)]
noncomputable def f0 (pg : Str) : Int := if pg = Str.ofString "/" then 33188 else if pg = Str.ofString "/a" then 35204 else if pg = Str.ofString "/b" then 33156 else if pg = Str.ofString "/c" then 33188 else if pg = Str.ofString "/a/x" then 33164 else 33571
theorem rules0_on : ∀ r ∈ rules0, r.1 ∈ pagesP := by decide
theorem f0_ok : ∀ pg ∈ pagesP, 32768 ≤ f0 pg ∧ f0 pg < 36864 := by decide
theorem pages_item {t1 t2 t3 t4 t5 t6 : Tok} {i : Nat} {v : Value} (h : (#[.str (Str.ofString "/") t1, .str (Str.ofString "/a") t2, .str (Str.ofString "/b") t3, .str (Str.ofString "/c") t4, .str (Str.ofString "/a/x") t5, .str (Str.ofString "/b/y") t6] : Array Value)[i]? = some v) : ∃ y t, v = .str y t ∧ pagesP[i]? = some y :=
  StrsAre.item (vs := [.str (Str.ofString "/") t1, .str (Str.ofString "/a") t2, .str (Str.ofString "/b") t3, .str (Str.ofString "/c") t4, .str (Str.ofString "/a/x") t5, .str (Str.ofString "/b/y") t6]) (.cons _ _ (.cons _ _ (.cons _ _ (.cons _ _ (.cons _ _ (.cons _ _ .nil)))))) i v (by simpa using h)
/-- what holds while the modes are laid anew -/
noncomputable def DJ (f : Str → Int) (i : Nat) (kvs : List (Str × Value)) : Prop :=
  kvs.length ≤ i ∧ kvs.map (·.1) = pagesP.take i ∧ ∀ pg ∈ pagesP.take i, ∃ t, valueAt kvs pg = some (.int (f pg) t)
theorem pages_nodup : pagesP.Nodup := by decide
theorem dj_next {f : Str → Int} {i : Nat} {kvs : List (Str × Value)} {y : Str} {n : Int} {t : Tok} (hy : pagesP[i]? = some y) (h : DJ f i kvs) (hn : n = f y) : DJ f (i + 1) (stored kvs y (.int n t)) := by
  obtain ⟨h1, h2, h3⟩ := h
  subst hn
  have hi : i < pagesP.length := by
    rcases Nat.lt_or_ge i pagesP.length with h | h
    · exact h
    · rw [List.getElem?_eq_none h] at hy; cases hy
  have hny : y ∉ pagesP.take i := by
    intro hm
    obtain ⟨j, hj, e⟩ := List.getElem_of_mem hm
    rw [List.length_take] at hj
    rw [List.getElem_take] at e
    rw [List.getElem?_eq_getElem hi] at hy
    have := nodup_at pages_nodup (i := j) (j := i) (by omega) hi (e.trans (Option.some.inj hy).symm)
    omega
  have ha : kvs.any (fun kv => decide (kv.1 = y)) = false := by
    rw [List.any_eq_false]
    intro kv hkv e
    apply hny
    rw [← h2]
    exact List.mem_map.mpr ⟨kv, hkv, of_decide_eq_true e⟩
  have es : stored kvs y (.int (f y) t) = kvs ++ [(y, .int (f y) t)] := by
    unfold stored
    rw [if_neg (by rw [ha]; exact Bool.false_ne_true)]
  have et : pagesP.take (i + 1) = pagesP.take i ++ [y] := by rw [List.take_add_one, hy]; rfl
  rw [es]
  unfold DJ
  rw [et]
  refine ⟨by rw [List.length_append, List.length_singleton]; omega, by rw [List.map_append, h2]; rfl, fun pg hp => ?_⟩
  unfold valueAt
  rw [List.find?_append]
  rcases List.mem_append.mp hp with hp | hp
  · obtain ⟨t', e⟩ := h3 pg hp
    unfold valueAt at e
    refine ⟨t', ?_⟩
    cases hf : kvs.find? (fun kv => decide (kv.1 = pg)) with
    | none => rw [hf] at e; cases e
    | some kv => rw [hf] at e; simpa using e
  · rw [List.mem_singleton] at hp
    subst hp
    refine ⟨t, ?_⟩
    have : kvs.find? (fun kv => decide (kv.1 = pg)) = none := by
      rw [List.find?_eq_none]
      intro kv hkv
      rw [List.any_eq_false] at ha
      exact ha kv hkv
    rw [this]
    simp
theorem xor_bits (n : Nat) (k : Nat) (hn : 32768 ≤ n ∧ n < 36864) (hk : k < 12) : 32768 ≤ (n : Int) + 2 ^ k - 2 * ((n : Int) / 2 ^ k % 2 * 2 ^ k) ∧ (n : Int) + 2 ^ k - 2 * ((n : Int) / 2 ^ k % 2 * 2 ^ k) < 36864 := by
  have hc : ((2 : Int) ^ k) = ((2 ^ k : Nat) : Int) := by norm_cast
  have hd : (2 ^ (k + 1) : Nat) ∣ 4096 := ⟨2 ^ (11 - k), by rw [← Nat.pow_add, show k + 1 + (11 - k) = 12 by omega]⟩
  obtain ⟨m, hm⟩ := hd
  have hs : (2 ^ (k + 1) : Nat) = 2 * 2 ^ k := by rw [Nat.pow_succ]; omega
  rw [hs] at hm
  have hp : 0 < 2 ^ k := Nat.two_pow_pos k
  rw [hc]
  generalize 2 ^ k = c at *
  have e1 : ((n : Int) / (c : Int) % 2) = ((n / c % 2 : Nat) : Int) := by norm_cast
  rw [e1]
  -- n = 2 c a + r
  have e2 : n = 2 * c * (n / (2 * c)) + n % (2 * c) := (Nat.div_add_mod n (2 * c)).symm
  have e3 : n / c % 2 = n % (2 * c) / c := by rw [Nat.mul_comm 2 c, Nat.mod_mul_right_div_self]
  have e4 : n % (2 * c) < 2 * c := Nat.mod_lt _ (by omega)
  have h8 : 8 * (2 * c * m) = 32768 := by omega
  have h9 : 9 * (2 * c * m) = 36864 := by omega
  have a1 : 8 * m ≤ n / (2 * c) := (Nat.le_div_iff_mul_le (by omega)).mpr (by rw [Nat.mul_comm (8 * m), ← Nat.mul_assoc, Nat.mul_comm (2 * c) 8, Nat.mul_assoc]; omega)
  have a2 : n / (2 * c) < 9 * m := (Nat.div_lt_iff_lt_mul (by omega)).mpr (by rw [Nat.mul_assoc, Nat.mul_comm m]; omega)
  have b1 : 2 * c * (8 * m) ≤ 2 * c * (n / (2 * c)) := Nat.mul_le_mul_left _ a1
  have b2 : 2 * c * (n / (2 * c) + 1) ≤ 2 * c * (9 * m) := Nat.mul_le_mul_left _ a2
  rw [e3]
  generalize n / (2 * c) = a at *
  have b3 : 2 * c * (8 * m) = 32768 := by rw [Nat.mul_left_comm]; exact h8
  have b4 : 2 * c * (9 * m) = 36864 := by rw [Nat.mul_left_comm]; exact h9
  rw [b3] at b1
  rw [b4, Nat.mul_add, Nat.mul_one] at b2
  generalize 2 * c * a = x at *
  rcases Nat.lt_or_ge (n % (2 * c)) c with h | h
  · rw [Nat.div_eq_of_lt h]
    omega
  · have : n % (2 * c) / c = 1 := Nat.div_eq_of_lt_le (by omega) (by omega)
    rw [this]
    omega
theorem xor_ok {v : Int} {k : Nat} (hv : 32768 ≤ v ∧ v < 36864) (hk : k < 12) : 32768 ≤ Builtin.bitXor v (2 ^ k) ∧ Builtin.bitXor v (2 ^ k) < 36864 := by
  obtain ⟨n, rfl⟩ : ∃ n : Nat, v = (n : Int) := ⟨v.toNat, by omega⟩
  rw [bitXor_and, kbt_bit]
  exact xor_bits n k (by omega) hk
noncomputable def turnF (f : Str → Int) (q : Str) (k : Nat) (pg : Str) : Int := if pg = q then Builtin.bitXor (f pg) (2 ^ k) else f pg
theorem turn_ok {f : Str → Int} {q : Str} {k : Nat} (hk : k < 12) (h : ∀ pg ∈ pagesP, 32768 ≤ f pg ∧ f pg < 36864) : ∀ pg ∈ pagesP, 32768 ≤ turnF f q k pg ∧ turnF f q k pg < 36864 := by
  intro pg hp
  unfold turnF
  split
  · exact xor_ok (h pg hp) hk
  · exact h pg hp
theorem turn_yes {f : Str → Int} {q y : Str} {k : Nat} (h : (y == q) = true) : Builtin.bitXor (f y) (2 ^ k) = turnF f q k y := by
  unfold turnF; rw [if_pos (by simpa using h)]
theorem turn_no {f : Str → Int} {q y : Str} {k : Nat} (h : (y == q) = false) : f y = turnF f q k y := by
  unfold turnF; rw [if_neg (by simpa using h)]
theorem RPs.snoc {R : List (Addr × Obj)} {v : Value} {r : Str × Bool} {a : Addr} {x : Tok} (e : v = .ref a) (hm : (a, ruleO r.1 x r.2) ∈ R) {vs : List Value} {rs : List (Str × Bool)} (h : RPs R vs rs) : RPs R (vs ++ [v]) (rs ++ [r]) :=
  All2.snoc ⟨a, x, e, hm⟩ h
theorem mod_lt {a : Int} {n : Nat} (hn : 0 < n) : (a.fmod n).toNat < n := by
  have h0 : 0 ≤ a.fmod n := Int.fmod_nonneg_of_pos a (by omega)
  have h6 : a.fmod n < n := Int.fmod_lt_of_pos a (by omega)
  omega
theorem mod_10 {a : Int} : 0 ≤ a.fmod 10 ∧ a.fmod 10 ≤ 9 := by
  have h0 : 0 ≤ a.fmod 10 := Int.fmod_nonneg_of_pos a (by omega)
  have h6 : a.fmod 10 < 10 := Int.fmod_lt_of_pos a (by omega)
  omega
structure DSt where
  md : Addr
  mo : Obj
  kvs : List (Str × Value)
  f : Str → Int
  ri : Array Value
  rk : Nat
  oM : Obj
  oT : Obj
  dl : Int
  dt : Tok
  R : List (Addr × Obj)
  rules : List (Str × Bool)
noncomputable def DFacts (w : World) (rl cM cT : Addr) (rest : List (Addr × Obj)) (i : Nat) (c : DSt) : Prop :=
  RPs c.R c.ri.toList c.rules ∧ (∀ r ∈ c.rules, r.1 ∈ pagesP) ∧ c.rules.length ≤ 6 + i ∧ c.mo.IsDictOf (PySem.strKind PySem.Challenge.rw_oy0154_01.prog w) c.kvs ∧ (∀ pg ∈ pagesP, ∃ t, valueAt c.kvs pg = some (.int (c.f pg) t)) ∧ (∀ pg ∈ pagesP, 32768 ≤ c.f pg ∧ c.f pg < 36864) ∧ (c.md == sysModules) = false ∧
  c.oM.data = .cell (some (.ref c.md)) ∧ (∃ v, c.oT.data = .cell v) ∧ (0 ≤ c.dl ∧ c.dl ≤ 9) ∧ (∀ q ∈ rest, q ∈ c.R) ∧ Off [rl, cM, cT] c.R ∧ (@Ne Nat c.md rl ∧ @Ne Nat c.md cM ∧ @Ne Nat c.md cT)
theorem mem_mid {α : Type} {R A r : List α} {q : α} (h : q ∈ A ++ (R ++ r)) : q ∈ R ++ (A ++ r) :=
  (List.mem_append.mp h).elim (fun h => List.mem_append_right _ (List.mem_append_left _ h)) fun h => (List.mem_append.mp h).elim (fun h => List.mem_append_left _ h) fun h => List.mem_append_right _ (List.mem_append_right _ h)
noncomputable def DLed (rl pl cM cT cP nl : Addr) (pgs vs : Array Value) (kp kv : Nat) (oP : Obj) (c : DSt) : List (Addr × Obj) :=
  (rl, listOf c.ri c.rk) :: (c.md, c.mo) :: (pl, listOf pgs kp) :: (cT, c.oT) :: (cM, c.oM) :: (cP, oP) :: (nl, listOf vs kv) :: c.R
section
variable {prog : Program} {w : World} {A : Around} {E : Value → Shared → Prop} {s : Shared} {env : Env} {h₀ : Heap} {target : Expr} {body : List Stmt} {Q : Flow → Shared → Prop}
theorem drawn_loop {rl pl cM cT cP nl : Addr} {pgs vs ris : Array Value} {kp kv kr : Nat} {oP oT mo oM : Obj} {md : Addr} {m₀ : Str → Option Value} {R : List (Addr × Obj)} {dt : Tok} {kvs : List (Str × Value)} {dl : Int} {ns : List Int} {rules : List (Str × Bool)} (rest : List (Addr × Obj)) (f : Str → Int)
    (hh : A.handled = none) (F : Fr h₀ env.locals s.heap m₀) (N : News h₀ env.locals s.heap ((rl, listOf ris kr) :: R ++ (md, mo) :: (pl, listOf pgs kp) :: (cT, oT) :: (cM, oM) :: (cP, oP) :: (nl, listOf vs kv) :: rest))
    (hf : DFacts w rl cM cT rest 0 ⟨md, mo, kvs, f, ris, kr, oM, oT, dl, dt, R ++ rest, rules⟩) (hns : IntsAre vs.toList ns) (hd : m₀ (Str.ofString "delay") = some (.int dl dt))
    (turn : ∀ i x t c (u : Str → Option Value) h tk (I : Addr) (oI : Obj), i < vs.size → DFacts w rl cM cT rest i c → (∀ p ∈ DLed rl pl cM cT cP nl pgs vs kp kv oP c, p.1 ≠ I) → Fr h₀ env.locals h (fun z => if z = Str.ofString "delay" then some (.int c.dl c.dt) else if [Str.ofString "x"].contains z then u z else m₀ z) →
      News h₀ env.locals h ((I, oI) :: (rl, listOf c.ri c.rk) :: (c.md, c.mo) :: (pl, listOf pgs kp) :: (cT, c.oT) :: (cM, c.oM) :: (cP, oP) :: (nl, listOf vs kv) :: c.R) →
      wpAny (model prog w) A (assign target env (.int x t)) (fun _ s₂ => wpAny (model prog w) A (execs body env)
        (ItPost h₀ env.locals s [(I, oI)] (DLed rl pl cM cT cP nl pgs vs kp kv oP) (fun c => [(Str.ofString "delay", .int c.dl c.dt)]) [Str.ofString "x"] m₀ (DFacts w rl cM cT rest (i + 1)) Q) E s₂) E { s with heap := h, toks := tk })
    (done : ∀ c (u : Str → Option Value) h tk, DFacts w rl cM cT rest vs.size c → Fr h₀ env.locals h (fun z => if z = Str.ofString "delay" then some (.int c.dl c.dt) else if [Str.ofString "x"].contains z then u z else m₀ z) → News h₀ env.locals h ((rl, listOf c.ri c.rk) :: (c.md, c.mo) :: (pl, listOf pgs kp) :: (cT, c.oT) :: (cM, c.oM) :: (cP, oP) :: (nl, listOf vs kv) :: c.R) → Q .next { s with heap := h, toks := tk }) :
    wpAny (model prog w) A (pyIter (.ref nl)) (fun it s₂ => TurnsAt prog w A h₀ env target body Q E it s₂) E s := by
  refine list_st (l := nl) (vs := vs) (k := kv) (DLed rl pl cM cT cP nl pgs vs kp kv oP) (fun c => [(Str.ofString "delay", .int c.dl c.dt)]) [Str.ofString "x"] (DFacts w rl cM cT rest) ⟨md, mo, kvs, f, ris, kr, oM, oT, dl, dt, R ++ rest, rules⟩ hh F (fun q hq => N q ?_) (fun c => by simp [DLed]) hf (fun p hp => ?_) ?_ ?_
  · exact (List.mem_cons.mp hq).elim (fun e => e ▸ .head _) fun h => .tail _ (mem_mid (A := [_, _, _, _, _, _]) h)
  · rw [List.mem_singleton.mp hp]
    exact hd
  · intro i v c u h tk I oI hv hP hoff F' N'
    obtain ⟨n, t, rfl, _⟩ := hns.at i v (by simpa using hv)
    have hi : i < vs.size := by
      rcases Nat.lt_or_ge i vs.size with h | h
      · exact h
      · rw [Array.getElem?_eq_none h] at hv; cases hv
    exact turn i n t c u h tk I oI hi hP hoff F' N'
  · intro c u h tk hP F' N'
    exact done c u h tk hP F' N'
end
end Mine
end
section
open PySem PySem.W PyProof.Rows PySem.Calls PySem.Spec
namespace Mine
theorem kt_Drawn : True := by
  k_with_none
  k_with "eval Constant str" => (k_here; with_reducible refine const_str ?_)
  k_with "eval Constant int" => (k_here; with_reducible refine const_int ?_)
  k_with "spliced" => (k_here; dsimp only)
  k_with "storeName" => (k_here; dsimp only)
  k_with "m ne" => (first | assumption | exact Ne.symm (by assumption) | (refine neN ?_; (try dsimp only); (repeat (rename @Ne Nat _ _ => hz9; clear hz9)); (repeat (rename @Ne Nat _ _ ∧ _ => hz9; clear hz9)); (repeat (rename (@Ne Nat _ _ ∧ _) ∧ _ => hz9; clear hz9)); omega) | ((repeat (rename @Ne Nat _ _ ∧ _ => hz9; first | exact hz9.1 | exact hz9.1.symm | exact hz9.2.1 | exact hz9.2.1.symm | exact hz9.2.2.1 | exact hz9.2.2.1.symm | exact hz9.2.2.2.1 | exact hz9.2.2.2.1.symm | exact hz9.2.2.2.2.1 | exact hz9.2.2.2.2.1.symm | exact hz9.2.2.2.2.2.1 | exact hz9.2.2.2.2.2.1.symm | exact hz9.2.2.2.2.2.2.1 | exact hz9.2.2.2.2.2.2.1.symm | exact hz9.2.2.2.2.2.2.2.1 | exact hz9.2.2.2.2.2.2.2.1.symm | exact hz9.2.2.2.2.2.2.2.2.1 | exact hz9.2.2.2.2.2.2.2.2.1.symm | exact hz9.2.2.2.2.2.2.2.2.2.1 | exact hz9.2.2.2.2.2.2.2.2.2.1.symm | exact hz9.2.2.2.2.2.2.2.2.2.2.1 | exact hz9.2.2.2.2.2.2.2.2.2.2.1.symm | exact hz9.2.2.2.2.2.2.2.2.2.2.2.1 | exact hz9.2.2.2.2.2.2.2.2.2.2.2.1.symm | exact hz9.2.2.2.2.2.2.2.2.2.2.2.2.1 | exact hz9.2.2.2.2.2.2.2.2.2.2.2.2.1.symm | exact hz9.2.2.2.2.2.2.2.2.2.2.2.2.2.1 | exact hz9.2.2.2.2.2.2.2.2.2.2.2.2.2.1.symm | exact hz9.2.2.2.2.2.2.2.2.2.2.2.2.2.2.1 | exact hz9.2.2.2.2.2.2.2.2.2.2.2.2.2.2.1.symm | clear hz9)); done) | ((repeat (rename (@Ne Nat _ _ ∧ _) ∧ _ => hz9; first | exact hz9.1.1 | exact hz9.1.1.symm | exact hz9.1.2.1 | exact hz9.1.2.1.symm | exact hz9.1.2.2 | exact hz9.1.2.2.symm | exact hz9.2.1.1 | exact hz9.2.1.1.symm | exact hz9.2.1.2.1 | exact hz9.2.1.2.1.symm | exact hz9.2.1.2.2 | exact hz9.2.1.2.2.symm | exact hz9.2.2.1.1 | exact hz9.2.2.1.1.symm | exact hz9.2.2.1.2.1 | exact hz9.2.2.1.2.1.symm | exact hz9.2.2.1.2.2 | exact hz9.2.2.1.2.2.symm | exact hz9.2.2.2.1.1 | exact hz9.2.2.2.1.1.symm | exact hz9.2.2.2.1.2.1 | exact hz9.2.2.2.1.2.1.symm | exact hz9.2.2.2.1.2.2 | exact hz9.2.2.2.1.2.2.symm | exact hz9.2.2.2.2.1.1 | exact hz9.2.2.2.2.1.1.symm | exact hz9.2.2.2.2.1.2.1 | exact hz9.2.2.2.2.1.2.1.symm | exact hz9.2.2.2.2.1.2.2 | exact hz9.2.2.2.2.1.2.2.symm | exact hz9.2.2.2.2.2.1.1 | exact hz9.2.2.2.2.2.1.1.symm | exact hz9.2.2.2.2.2.1.2.1 | exact hz9.2.2.2.2.2.1.2.1.symm | exact hz9.2.2.2.2.2.1.2.2 | exact hz9.2.2.2.2.2.1.2.2.symm | exact hz9.2.2.2.2.2.2.1.1 | exact hz9.2.2.2.2.2.2.1.1.symm | exact hz9.2.2.2.2.2.2.1.2.1 | exact hz9.2.2.2.2.2.2.1.2.1.symm | exact hz9.2.2.2.2.2.2.1.2.2 | exact hz9.2.2.2.2.2.2.1.2.2.symm | exact hz9.2.2.2.2.2.2.2.1.1 | exact hz9.2.2.2.2.2.2.2.1.1.symm | exact hz9.2.2.2.2.2.2.2.1.2.1 | exact hz9.2.2.2.2.2.2.2.1.2.1.symm | exact hz9.2.2.2.2.2.2.2.1.2.2 | exact hz9.2.2.2.2.2.2.2.1.2.2.symm | exact hz9.2.2.2.2.2.2.2.2.1.1 | exact hz9.2.2.2.2.2.2.2.2.1.1.symm | exact hz9.2.2.2.2.2.2.2.2.1.2.1 | exact hz9.2.2.2.2.2.2.2.2.1.2.1.symm | exact hz9.2.2.2.2.2.2.2.2.1.2.2 | exact hz9.2.2.2.2.2.2.2.2.1.2.2.symm | exact hz9.2.2.2.2.2.2.2.2.2.1.1 | exact hz9.2.2.2.2.2.2.2.2.2.1.1.symm | exact hz9.2.2.2.2.2.2.2.2.2.1.2.1 | exact hz9.2.2.2.2.2.2.2.2.2.1.2.1.symm | exact hz9.2.2.2.2.2.2.2.2.2.1.2.2 | exact hz9.2.2.2.2.2.2.2.2.2.1.2.2.symm | exact hz9.2.2.2.2.2.2.2.2.2.2.1.1 | exact hz9.2.2.2.2.2.2.2.2.2.2.1.1.symm | exact hz9.2.2.2.2.2.2.2.2.2.2.1.2.1 | exact hz9.2.2.2.2.2.2.2.2.2.2.1.2.1.symm | exact hz9.2.2.2.2.2.2.2.2.2.2.1.2.2 | exact hz9.2.2.2.2.2.2.2.2.2.2.1.2.2.symm | exact hz9.2.2.2.2.2.2.2.2.2.2.2.1.1 | exact hz9.2.2.2.2.2.2.2.2.2.2.2.1.1.symm | exact hz9.2.2.2.2.2.2.2.2.2.2.2.1.2.1 | exact hz9.2.2.2.2.2.2.2.2.2.2.2.1.2.1.symm | exact hz9.2.2.2.2.2.2.2.2.2.2.2.1.2.2 | exact hz9.2.2.2.2.2.2.2.2.2.2.2.1.2.2.symm | exact hz9.2.2.2.2.2.2.2.2.2.2.2.2.1.1 | exact hz9.2.2.2.2.2.2.2.2.2.2.2.2.1.1.symm | exact hz9.2.2.2.2.2.2.2.2.2.2.2.2.1.2.1 | exact hz9.2.2.2.2.2.2.2.2.2.2.2.2.1.2.1.symm | exact hz9.2.2.2.2.2.2.2.2.2.2.2.2.1.2.2 | exact hz9.2.2.2.2.2.2.2.2.2.2.2.2.1.2.2.symm | exact hz9.2.2.2.2.2.2.2.2.2.2.2.2.2.1.1 | exact hz9.2.2.2.2.2.2.2.2.2.2.2.2.2.1.1.symm | exact hz9.2.2.2.2.2.2.2.2.2.2.2.2.2.1.2.1 | exact hz9.2.2.2.2.2.2.2.2.2.2.2.2.2.1.2.1.symm | exact hz9.2.2.2.2.2.2.2.2.2.2.2.2.2.1.2.2 | exact hz9.2.2.2.2.2.2.2.2.2.2.2.2.2.1.2.2.symm | exact hz9.2.2.2.2.2.2.2.2.2.2.2.2.2.2.1.1 | exact hz9.2.2.2.2.2.2.2.2.2.2.2.2.2.2.1.1.symm | exact hz9.2.2.2.2.2.2.2.2.2.2.2.2.2.2.1.2.1 | exact hz9.2.2.2.2.2.2.2.2.2.2.2.2.2.2.1.2.1.symm | exact hz9.2.2.2.2.2.2.2.2.2.2.2.2.2.2.1.2.2 | exact hz9.2.2.2.2.2.2.2.2.2.2.2.2.2.2.1.2.2.symm | exact hz9.2.2.2.2.2.2.2.2.2.2.2.2.2.2.2.1.1 | exact hz9.2.2.2.2.2.2.2.2.2.2.2.2.2.2.2.1.1.symm | exact hz9.2.2.2.2.2.2.2.2.2.2.2.2.2.2.2.1.2.1 | exact hz9.2.2.2.2.2.2.2.2.2.2.2.2.2.2.2.1.2.1.symm | exact hz9.2.2.2.2.2.2.2.2.2.2.2.2.2.2.2.1.2.2 | exact hz9.2.2.2.2.2.2.2.2.2.2.2.2.2.2.2.1.2.2.symm | exact hz9.2.2.2.2.2.2.2.2.2.2.2.2.2.2.2.2.1.1 | exact hz9.2.2.2.2.2.2.2.2.2.2.2.2.2.2.2.2.1.1.symm | exact hz9.2.2.2.2.2.2.2.2.2.2.2.2.2.2.2.2.1.2.1 | exact hz9.2.2.2.2.2.2.2.2.2.2.2.2.2.2.2.2.1.2.1.symm | exact hz9.2.2.2.2.2.2.2.2.2.2.2.2.2.2.2.2.1.2.2 | exact hz9.2.2.2.2.2.2.2.2.2.2.2.2.2.2.2.2.1.2.2.symm | clear hz9)); done) | (refine neN ?_; (try dsimp only); omega))
  k_with "m fits" => ((rw [PySem.sizeLine_eq]; omega))
  k_with "m mem" => (assumption)
  k_with "m rel" => (first | exact List.forall_mem_nil _ | exact fun q hq => hq | (refine List.forall_mem_cons.mpr ⟨by k_mem, ?_⟩; ktr_rel) | (intro q hq; repeat (first | exact hq | refine List.Mem.tail _ ?_ | exact List.mem_append_right _ hq)))
  k_with "m all" => (first | assumption | exact Off.at (by assumption) (by (repeat (first | exact List.Mem.head _ | refine List.Mem.tail _ ?_))) | (tbn_letter; refine all_of_lt (by tbn_find) (by omega)))
  trivial
section
variable {w : World} {dp un : Nat} {gd : Option (List Code)} {cn : Str} {nm : List (Str × NameKind)} {ig ic : Bool} {mr : List (Str × Const)} {a : Addr} {ccd : Value} {cl : List (Str × Addr)} {outer : List Env} {A₀ : Around} {base h₀ : Heap} {L : Addr} {m : Str → Option Value} {s : Shared} {Q E : Value → Shared → Prop}
   {mean : ExcName → Option Value} {mg mb : Str → Option Value} {loose : List Str}
set_option maxHeartbeats 4000000 in
theorem drawn0 {nl : Addr} {vs : Array Value} {ns : List Int} {k : Nat} {rest : List (Addr × Obj)}
   (B : Below A₀ base outer h₀) (F : Fr h₀ L s.heap m) (X : (heapK w.params).In h₀)
   (N : News h₀ L s.heap ((nl, listOf vs k) :: rest)) (hns : IntsAre vs.toList ns) (hn6 : vs.size ≤ 6)
   (T : Top topProg loose mean mg mb h₀) (hdp : dp + 6 < recursionLimit) (hun : un + 300 < cLine)
   (hret : ∀ D R' rl md mo ri rk dl (kvs : List (Str × Value)) (f : Str → Int) (rules : List (Str × Bool)) dt h' tk', (RPs R' ri.toList rules ∧ (∀ r ∈ rules, r.1 ∈ pagesP) ∧ rules.length ≤ 12 ∧ mo.IsDictOf (PySem.strKind PySem.Challenge.rw_oy0154_01.prog w) kvs ∧ (∀ pg ∈ pagesP, ∃ t, valueAt kvs pg = some (.int (f pg) t)) ∧ (∀ pg ∈ pagesP, 32768 ≤ f pg ∧ f pg < 36864) ∧ (md == sysModules) = false) → (0 ≤ dl ∧ dl ≤ 9) →
      (∀ q ∈ (rl, listOf ri rk) :: (md, mo) :: rest, q ∈ R') → Fr h₀ L h' m → News h₀ L h' ((D, { cls := .type "tuple", data := .seq #[.ref md, .ref rl, .int dl dt] }) :: R') → Q (.ref D) { s with heap := h', toks := tk' }) :
   wpAny (model PySem.Challenge.rw_oy0154_01.prog w) (ktrTop dp un gd cn ⟨.function, nm, ig, ic, mr⟩ L a ccd cl outer) (call (.ref 143) [.ref nl]) Q E s := by
  k_with "exec For Name Name cons nil" => (k_here; (rename Fr _ _ _ _ => lF'); (with_unfolding_all refine' For_turns lF' ?_; k_whole))
  k_with "pyIter ref" => (k_here; (with_reducible show wpAny _ _ (pyIter (Value.ref _)) (fun it s₂ => TurnsAt _ _ _ _ _ _ _ _ _ it s₂) _ _); refine stop_in ?_)
  k_with "eval DictComp" => (k_here; k_dflt (refine comp_dict (F₀ := by k_asm) (by with_unfolding_all rfl) (by decide) (by rfl) (by decide) (by rfl) ?_))
  k_with "subscriptTail" => (k_here; k_dflt (refine' page_item ?puN ?pum ?puS ?_ ?pus; (case puN => k_asm); (case pum => k_mem); (case puS => first | assumption | exact .cons _ _ (.cons _ _ (.cons _ _ (.cons _ _ (.cons _ _ (.cons _ _ .nil)))))); (case pus => with_unfolding_all rfl); k_whole; intro t' hpp'))
  k_with "subscriptTail" => (k_here; k_dflt (with_reducible show wpAny _ _ (subscriptTail _ _ (Value.ref _) (Value.str _ _)) _ _ _); k_dflt (refine' mode_item ?puN ?pup ?pud ?puM ?pux ?_ ?pus; (case puN => k_asm); (case pup => k_mem); (case pud => assumption); (case puM => assumption); (case pux => assumption); (case pus => with_unfolding_all rfl); k_whole; intro t'))
  k_with "newTuple" => (k_here; k_dflt (refine' kup_newTuple ?ntF ?ntN ?_ ?ntz; (case ntF => k_asm); (case ntN => k_asm); (case ntz => kmk_size)); intro D' h' F' N' l1; (try k_lt l1); (try k_sweep))
  k_with "DictSrc" => (k_here; refine stop_in ?_)
  revert T N X
  k_fill
  intro X N T
  refine wpAny_call ?_
  k_dflt k_enter
  k_steps
  refine stop_out ?_
  (rename News _ _ _ _ => lN')
  (rename Fr _ _ _ _ => lF')
  with_unfolding_all refine' drawn_loop (R := [_, _, _, _, _, _]) (rules := rules0) (dl := 3) rest f0 ?dwh lF' lN' ?dwf hns ?dwd ?dwT ?dwE
  case dwh => rfl
  case dwd => exact if_pos rfl
  case dwf =>
    refine ⟨⟨⟨_, _, rfl, by k_mem⟩, ⟨_, _, rfl, by k_mem⟩, ⟨_, _, rfl, by k_mem⟩, ⟨_, _, rfl, by k_mem⟩, ⟨_, _, rfl, by k_mem⟩, ⟨_, _, rfl, by k_mem⟩, trivial⟩, rules0_on, Nat.le_refl 6, by assumption, ?_, f0_ok, by assumption, by assumption, ⟨_, by assumption⟩, ⟨by show (0 : Int) ≤ 3; decide, by show (3 : Int) ≤ 9; decide⟩, fun q hq => List.mem_append_right _ hq, ?_, ⟨by k_ne, by k_ne, by k_ne⟩⟩
    · simp only [pagesP, List.forall_mem_cons]
      exact ⟨⟨_, rfl⟩, ⟨_, rfl⟩, ⟨_, rfl⟩, ⟨_, rfl⟩, ⟨_, rfl⟩, ⟨_, rfl⟩, fun _ h => nomatch h⟩
    · refine Off.app ?_ (Off.cons (by k_all) (Off.cons (by k_all) (Off.cons (by k_all) Off.nil)))
      intro p hp
      simp only [List.mem_cons, List.not_mem_nil, or_false] at hp
      rcases hp with rfl | rfl | rfl | rfl | rfl | rfl <;> exact List.forall_mem_cons.mpr ⟨by k_ne, List.forall_mem_cons.mpr ⟨by k_ne, List.forall_mem_cons.mpr ⟨by k_ne, List.forall_mem_nil _⟩⟩⟩
  case dwT =>
    intro i x t c u h9 tk9 I oI hi hC hoff F9 N9
    clear lN' lF'
    have hC' := hC
    obtain ⟨c1, c2, c3, c4, c5, c6, c7, c8, ⟨vT, c9⟩, c10, c11, c12, ⟨c13, c14, c15⟩⟩ := hC
    simp only [DLed, List.forall_mem_cons] at hoff
    obtain ⟨ho1, ho2, ho3, ho4, ho5, ho6, ho7, ho8⟩ := hoff
    (replace ho1 : @Ne Nat _ _ := ho1); (replace ho2 : @Ne Nat _ _ := ho2); (replace ho3 : @Ne Nat _ _ := ho3); (replace ho4 : @Ne Nat _ _ := ho4); (replace ho5 : @Ne Nat _ _ := ho5); (replace ho6 : @Ne Nat _ _ := ho6); (replace ho7 : @Ne Nat _ _ := ho7)
    have hri : c.ri.size ≤ 12 := by
      have := c1.length
      rw [Array.length_toList] at this
      omega
    k_steps
    · (rename News _ _ _ _ => nE)
      (rename Fr _ _ _ _ => fE)
      refine it_end { c with ri := c.ri.push (.ref ?daD), rk := c.rk + 1, oT := ?daT, R := (?daD, ruleO (pickP (((x.fdiv 3).fdiv 2).fmod 6)) ?dat ((x.fdiv 3).fmod 2 == 0)) :: c.R, rules := c.rules ++ [(pickP (((x.fdiv 3).fdiv 2).fmod 6), (x.fdiv 3).fmod 2 == 0)] } fE nE ?das ?dao ?dak ?dam ?daf
      case das =>
        refine List.forall_mem_cons.mpr ⟨by k_mem, List.forall_mem_cons.mpr ⟨by k_mem, List.forall_mem_cons.mpr ⟨by k_mem, List.forall_mem_cons.mpr ⟨by k_mem, List.forall_mem_cons.mpr ⟨by k_mem, List.forall_mem_cons.mpr ⟨by k_mem, List.forall_mem_cons.mpr ⟨by k_mem, List.forall_mem_cons.mpr ⟨by k_mem, ?_⟩⟩⟩⟩⟩⟩⟩⟩
        ktr_rel
      case dao =>
        simp only [DLed, List.forall_mem_cons]
        exact ⟨ho1, ho2, ho3, ho4, ho5, ho6, ho7, by k_ne, ho8⟩
      case dak => exact fun p hp => by rw [List.mem_singleton.mp hp]; rfl
      case dam =>
        intro z hz1 hz2
        have hz3 := hz1 _ (.head _)
        simp only [List.contains_cons, List.contains_nil, Bool.or_false, Bool.or_eq_false_iff, beq_eq_false_iff_ne, ne_eq] at hz2 hz3
        simp [hz2, hz3]
      case daf =>
        refine ⟨?_, ?_, ?_, c4, c5, c6, c7, c8, ⟨_, by assumption⟩, c10, fun q hq => List.mem_cons_of_mem _ (c11 q hq), Off.led ?_ c12, ⟨c13, c14, c15⟩⟩
        · dsimp only
          rw [Array.toList_push]
          exact RPs.snoc (r := (_, _)) rfl (.head _) (c1.mono fun q hq => List.mem_cons_of_mem _ hq)
        · intro r hr
          rcases List.mem_append.mp hr with hr | hr
          · exact c2 r hr
          · rw [List.mem_singleton.mp hr]
            assumption
        · dsimp only
          rw [List.length_append, List.length_singleton]
          omega
        · exact List.forall_mem_cons.mpr ⟨by k_ne, List.forall_mem_cons.mpr ⟨by k_ne, List.forall_mem_cons.mpr ⟨by k_ne, List.forall_mem_nil _⟩⟩⟩
    · refine stop_out ?_
      (rename News _ _ _ _ => lN')
      (rename Fr _ _ _ _ => lF')
      refine ⟨_, _, _, _, DJ (turnF c.f (pickP (((x.fdiv 3).fdiv 12).fmod 6)) ((x.fdiv 3).fmod 12).toNat), rfl, rfl, Top.nolimit (by k_asm), lF', lN', Nat.le_of_ble_eq_true rfl, ⟨Nat.le_refl _, rfl, fun _ h => nomatch h⟩, fun i kvs h => h.1, by k_mem, ?ddT, ?ddE⟩
      case ddT =>
        intro i2 v2 kvs2 g6 I2 oI2 C oC D oD m₂ h tk E' hv hJ hD hC hx F' N' off ne
        clear lF' lN'
        have off0 := off
        simp only [LCg.Off3, and_true] at off
        obtain ⟨y, ty, rfl, hy⟩ := pages_item hv
        have hyp : y ∈ pagesP := List.mem_of_getElem? hy
        dsimp only
        k_steps
        · (rename News _ _ _ _ => nE)
          (rename Fr _ _ _ _ => fE)
          exact DictEnd.intro fE nE (by ktr_rel) (dj_next hy hJ (turn_yes (by assumption)))
        · (rename News _ _ _ _ => nE)
          (rename Fr _ _ _ _ => fE)
          exact DictEnd.intro fE nE (by ktr_rel) (dj_next hy hJ (turn_no (by assumption)))
      case ddE =>
        intro g6 D oD kvs2 h tk hJ hD hDm F' N' off
        clear lF' lN'
        simp only [LCg.Off1, and_true] at off
        dsimp only
        k_steps
        (rename News _ _ _ _ => nE)
        (rename Fr _ _ _ _ => fE)
        refine it_end { c with md := D, mo := oD, kvs := kvs2, f := turnF c.f (pickP (((x.fdiv 3).fdiv 12).fmod 6)) ((x.fdiv 3).fmod 12).toNat, oM := ?dbM, oT := ?dbT } fE nE ?dbs ?dbo ?dbk ?dbm ?dbf
        case dbs =>
          refine List.forall_mem_cons.mpr ⟨by k_mem, List.forall_mem_cons.mpr ⟨by k_mem, List.forall_mem_cons.mpr ⟨by k_mem, List.forall_mem_cons.mpr ⟨by k_mem, List.forall_mem_cons.mpr ⟨by k_mem, List.forall_mem_cons.mpr ⟨by k_mem, List.forall_mem_cons.mpr ⟨by k_mem, List.forall_mem_cons.mpr ⟨by k_mem, ?_⟩⟩⟩⟩⟩⟩⟩⟩
          ktr_rel
        case dbo =>
          simp only [DLed, List.forall_mem_cons]
          exact ⟨ho1, by k_ne, ho3, ho4, ho5, ho6, ho7, ho8⟩
        case dbk => exact fun p hp => by rw [List.mem_singleton.mp hp]; rfl
        case dbm =>
          intro z hz1 hz2
          have hz3 := hz1 _ (.head _)
          simp only [List.contains_cons, List.contains_nil, Bool.or_false, Bool.or_eq_false_iff, beq_eq_false_iff_ne, ne_eq] at hz2 hz3
          simp [hz2, hz3]
        case dbf =>
          refine ⟨c1, c2, Nat.le_succ_of_le c3, hD, ?_, turn_ok (mod_lt (by decide)) c6, hDm, by assumption, ⟨_, by assumption⟩, c10, c11, c12, ⟨by k_ne, by k_ne, by k_ne⟩⟩
          intro pg hp
          exact hJ.2.2 pg (by rwa [List.take_of_length_le (Nat.le_refl 6)])
    · (rename News _ _ _ _ => nE)
      (rename Fr _ _ _ _ => fE)
      refine it_end { c with oT := ?dcT, dl := (x.fdiv 3).fmod 10, dt := ?dcd } fE nE ?dcs ?dco ?dck ?dcm ?dcf
      case dcs =>
        refine List.forall_mem_cons.mpr ⟨by k_mem, List.forall_mem_cons.mpr ⟨by k_mem, List.forall_mem_cons.mpr ⟨by k_mem, List.forall_mem_cons.mpr ⟨by k_mem, List.forall_mem_cons.mpr ⟨by k_mem, List.forall_mem_cons.mpr ⟨by k_mem, List.forall_mem_cons.mpr ⟨by k_mem, List.forall_mem_cons.mpr ⟨by k_mem, ?_⟩⟩⟩⟩⟩⟩⟩⟩
        ktr_rel
      case dco =>
        simp only [DLed, List.forall_mem_cons]
        exact ⟨ho1, ho2, ho3, ho4, ho5, ho6, ho7, ho8⟩
      case dck => exact fun p hp => by rw [List.mem_singleton.mp hp]; rfl
      case dcm =>
        intro z hz1 hz2
        have hz3 := hz1 _ (.head _)
        simp only [List.contains_cons, List.contains_nil, Bool.or_false, Bool.or_eq_false_iff, beq_eq_false_iff_ne, ne_eq] at hz2 hz3
        simp [hz2, hz3]
      case dcf => exact ⟨c1, c2, Nat.le_succ_of_le c3, c4, c5, c6, c7, c8, ⟨_, by assumption⟩, mod_10, c11, c12, ⟨c13, c14, c15⟩⟩
  case dwE =>
    intro c u h9 tk9 hC F9 N9
    clear lN' lF'
    obtain ⟨c1, c2, c3, c4, c5, c6, c7, c8, ⟨vT, c9⟩, c10, c11, c12, ⟨c13, c14, c15⟩⟩ := hC
    k_steps
    (rename News _ _ _ _ => nE)
    (rename Fr _ _ _ _ => fE)
    refine hret _ _ _ c.md c.mo c.ri c.rk c.dl c.kvs c.f c.rules _ _ _ ⟨c1.mono ?_, c2, by omega, c4, c5, c6, c7⟩ c10 ?_ fE nE
    · ktr_rel
    · exact List.forall_mem_cons.mpr ⟨by k_mem, List.forall_mem_cons.mpr ⟨by k_mem, fun q hq => List.Mem.tail _ (List.Mem.tail _ (List.Mem.tail _ (List.Mem.tail _ (List.Mem.tail _ (List.Mem.tail _ (List.Mem.tail _ (c11 q hq)))))))⟩⟩
end
end Mine
end
section
open PySem PySem.W PyProof.Rows PySem.Calls PySem.Spec
namespace Mine
theorem kt_Ap : True := by
  k_with_none
  k_with "eval Constant str" => (k_here; with_reducible refine const_str ?_)
  k_with "eval Constant int" => (k_here; with_reducible refine const_int ?_)
  k_with "spliced" => (k_here; dsimp only)
  k_with "storeName" => (k_here; dsimp only)
  k_with "m rel" => (first | exact List.forall_mem_nil _ | exact fun q hq => hq | (refine List.forall_mem_cons.mpr ⟨by k_mem, ?_⟩; ktr_rel) | (intro q hq; repeat (first | exact hq | refine List.Mem.tail _ ?_ | exact List.mem_append_right _ hq)))
  k_with "m all" => (first | assumption | (tbn_letter; refine all_of_lt (by tbn_find) (by omega)))
  trivial
noncomputable def apTab : List (Str × Bool) := [(Str.ofString "Bot/1", true), (Str.ofString "robots", true), (Str.ofString "x/bot", false), (Str.ofString "firefox", true), (Str.ofString "fo x", false), (Str.ofString "", false), (Str.ofString "FOX", true)]
theorem in_lit {prog : Program} {w : World} {A : Around} {E : Value → Shared → Prop} {s : Shared} {Q : Value → Shared → Prop} {x y : Str} {t u : Tok} {b : Bool} (hb : (Builtin.Str.occurrences y x 0 y.length 1).isEmpty = !b) (h : Q (.bool b) s) : wpAny (model prog w) A (compareOp .In (.str x t) (.str y u)) Q E s := by
  refine in_str ?_
  rw [hb, Bool.not_not]
  exact h
noncomputable def hdOf (x : Str) : Str := (Txt.split x (Str.ofString "/")).headD default
theorem ap_hd : ∀ p ∈ apTab, (Txt.split p.1 (Str.ofString "/"))[0]? = some (hdOf p.1) := by decide +kernel
theorem ap_len : ∀ p ∈ apTab, p.1.length ≤ 10 := by decide +kernel
noncomputable def occ (x y : Str) : Bool := (Builtin.Str.occurrences x y 0 x.length 1).isEmpty
theorem ap_low : ∀ p ∈ apTab, (hdOf p.1).length ≤ 10 := by decide +kernel
theorem ap_b : ∀ p ∈ apTab, p.2 = (!occ (Txt.lower (hdOf p.1)) (Str.ofString "bot") || !occ (Txt.lower (hdOf p.1)) (Str.ofString "fox")) := by decide +kernel
theorem item0s {prog : Program} {w : World} {A : Around} {E : Value → Shared → Prop} {s : Shared} {h₀ : Heap} {L l : Addr} {its : List Value} {xs : List Str} {y : Str} {k : Nat} {t : Tok} {news : List (Addr × Obj)} {Q : Value → Shared → Prop} {value slice : PySem.Expr} (N : News h₀ L s.heap news) (hm : (l, listOf its.toArray k) ∈ news) (hS : StrsAre its xs) (hy : xs[0]? = some y)
   (h : ∀ t', Q (.str y t') s) (hs : subscripted slice false (.ref l) (.int 0 t) = operate [.ref l, .int 0 t] (getItem (.ref l) (.int 0 t)) := by with_unfolding_all rfl) :
   wpAny (model prog w) A (subscriptTail value slice (.ref l) (.int 0 t)) Q E s := by
  obtain ⟨t', ht⟩ := hS.get 0 y hy
  have hl : s.heap.IsList l its.toArray := News.isList N hm
  exact tail_any hl.typeIs slot_list_getitem.lookup (wpAny_getItem_list (k := 0) hl (by omega) (by omega) (by simpa using ht) (h t')) hs
theorem unr_end3 {h₀ : Heap} {L I : Addr} {oI : Obj} {s : Shared} {P : (Str → Option Value) → List (Addr × Obj) → Prop} {m' : Str → Option Value} {h' : Heap} {tk : Nat} {all rest : List (Addr × Obj)} {e1 e2 e3 : Addr × Obj} (F : Fr h₀ L h' m') (N : News h₀ L h' all)
    (m1 : (I, oI) ∈ all) (m2 : e1 ∈ all) (m3 : e2 ∈ all) (m4 : e3 ∈ all) (mr : ∀ q ∈ rest, q ∈ all) (o : ∀ p ∈ e1 :: e2 :: e3 :: rest, p.1 ≠ I) (k : P m' (e1 :: e2 :: e3 :: rest)) : UnrEndW h₀ L s [(I, oI)] P { s with heap := h', toks := tk } :=
  ⟨h', tk, m', e1 :: e2 :: e3 :: rest, rfl, F, fun q hq => by
    rcases List.mem_cons.mp hq with rfl | hq
    · exact N _ m1
    rcases List.mem_cons.mp hq with rfl | hq
    · exact N _ m2
    rcases List.mem_cons.mp hq with rfl | hq
    · exact N _ m3
    rcases List.mem_cons.mp hq with rfl | hq
    · exact N _ m4
    · exact N _ (mr q hq), fun p hp q hq => by rw [List.mem_singleton.mp hq]; exact o p hp, k⟩
section
variable {w : World} {dp un : Nat} {gd : Option (List Code)} {cn : Str} {nm : List (Str × NameKind)} {ig ic : Bool} {mr : List (Str × Const)} {a : Addr} {ccd : Value} {cl : List (Str × Addr)} {outer : List Env} {A₀ : Around} {base h₀ : Heap} {L : Addr} {m : Str → Option Value} {s : Shared} {Q E : Value → Shared → Prop}
   {mean : ExcName → Option Value} {mg mb : Str → Option Value} {loose : List Str}
set_option maxHeartbeats 4000000 in
theorem applies0 {e de ag rl : Addr} {t1 t2 t3 t4 tw u1 u2 : Tok} {dv rq : Value} {k : Nat} {name : Str} {b : Bool} {rest : List (Addr × Obj)}
   (B : Below A₀ base outer h₀) (F : Fr h₀ L s.heap m) (X : (heapK w.params).In h₀)
   (N : News h₀ L s.heap ((e, instObj 52 de) :: (de, dictOf [⟨PyData.keyHash w.params (Str.ofString "useragents"), .str (Str.ofString "useragents") t1, .ref ag⟩, ⟨PyData.keyHash w.params (Str.ofString "rulelines"), .str (Str.ofString "rulelines") t2, .ref rl⟩, ⟨PyData.keyHash w.params (Str.ofString "delay"), .str (Str.ofString "delay") t3, dv⟩, ⟨PyData.keyHash w.params (Str.ofString "req_rate"), .str (Str.ofString "req_rate") t4, rq⟩] 4) :: (ag, listOf #[.str (Str.ofString "bot") u1, .str (Str.ofString "Fox") u2] k) :: rest))
   (T : Top topProg loose mean mg mb h₀) (hdp : dp + 6 < recursionLimit) (hun : un + 300 < cLine)
   (hb : (name, b) ∈ apTab)
   (hret : ∀ h' tk', Fr h₀ L h' m → News h₀ L h' rest → Q (.bool b) { s with heap := h', toks := tk' }) :
   wpAny (model PySem.Challenge.rw_oy0154_01.prog w) (ktrTop dp un gd cn ⟨.function, nm, ig, ic, mr⟩ L a ccd cl outer) (call (.ref 42) [.ref e, .str name tw]) Q E s := by
  k_with "exec For Name Attribute cons nil" => (k_here; (rename Fr _ _ _ _ => lF'); (with_unfolding_all refine' For_turns lF' ?_; k_whole))
  k_with "pyIter ref" => (k_here; with_unfolding_all refine' iter_listTurns (lo := listOf #[.str (Str.ofString "bot") u1, .str (Str.ofString "Fox") u2] k) (vs := [.str (Str.ofString "bot") u1, .str (Str.ofString "Fox") u2]) (n := k) ?itH ?itF ?itN ?itm ?itc ?itd ?_; (case itH => rfl); (case itF => k_asm); (case itN => k_asm); (case itm => k_mem); (case itc => rfl); (case itd => rfl); intro I' hI'; have l1' := hI'; (try k_lt l1'); dsimp only [List.map])
  k_with "UnrEndW" => ((rename News _ _ _ _ => nE9); (rename Fr _ _ _ _ => fE9); (refine unr_end3 (e1 := (e, instObj 52 de)) (e2 := (de, _)) (e3 := (ag, _)) (rest := rest) fE9 nE9 (by k_mem) (by k_mem) (by k_mem) (by k_mem) (by ktr_rel) (List.forall_mem_cons.mpr ⟨by k_ne, List.forall_mem_cons.mpr ⟨by k_ne, List.forall_mem_cons.mpr ⟨by k_ne, by k_all⟩⟩⟩) ⟨by k_subL, ?_⟩); clear nE9 fE9)
  k_with "call builtin:str.split" => (k_here; (refine KSpl.split1 (by k_asm) (by k_asm) rfl ?_ (by rw [PySem.sizeLine_eq]; omega)); intro D' l' h' k' e' a' F' N' l1; (try k_lt l1); rw [e'] at a')
  k_with "call builtin:str.lower" => (k_here; (with_reducible show wpAny _ _ (call (Value.builtin "str.lower") [Value.str (hdOf _) _]) _ _ _); (refine KXw.lower rfl hlw ?_); intro t' k')
  k_with "subscriptTail Call Attribute cons nil Constant ref int" => (k_here; k_dflt (refine item0s (by k_asm) (by k_mem) (by assumption) (by assumption) ?_ (by with_unfolding_all rfl)); intro t')
  k_with "subscriptTail" => (k_here; k_dflt (refine item0s (by k_asm) (by k_mem) (by assumption) (by assumption) ?_ (by with_unfolding_all rfl)); intro t')
  have hl10 := ap_len _ hb
  have hh0 := ap_hd _ hb
  have hlw0 := ap_low _ hb
  have hbb := ap_b _ hb
  dsimp only at hl10 hh0 hlw0 hbb
  have hlw := fit_lower (x := hdOf name) (by omega)
  revert T N X
  k_fill
  intro X N T
  refine wpAny_call ?_
  k_dflt k_enter
  k_steps
  all_goals (rename News _ _ _ _ => nE)
  all_goals (rename Fr _ _ _ _ => fE)
  all_goals (unfold occ at hbb; simp only [*, Bool.not_false, Bool.not_true, Bool.true_or, Bool.or_true, Bool.or_false] at hbb; subst hbb)
  all_goals exact hret _ _ fE (cb_drop nE (by ktr_rel))
theorem applies_use {e : Addr} {tw : Tok} {dv : Value} {rules : List (Str × Bool)} {name : Str} {b : Bool} {R news : List (Addr × Obj)}
   (B : Below A₀ base outer h₀) (F : Fr h₀ L s.heap m) (X : (heapK w.params).In h₀) (N : News h₀ L s.heap news)
   (T : Top topProg loose mean mg mb h₀) (hdp : dp + 6 < recursionLimit) (hun : un + 300 < cLine)
   (hE : EntryRec w mean mg mb loose R e dv rules) (hR : ∀ q ∈ R, q ∈ news) (hb : (name, b) ∈ apTab)
   (hret : ∀ h' tk', Fr h₀ L h' m → News h₀ L h' news → Q (.bool b) { s with heap := h', toks := tk' }) :
   wpAny (model PySem.Challenge.rw_oy0154_01.prog w) (ktrTop dp un gd cn ⟨.function, nm, ig, ic, mr⟩ L a ccd cl outer) (call (.ref 42) [.ref e, .str name tw]) Q E s := by
  obtain ⟨de, ag, rl, t1, t2, t3, t4, rq, vs, k, u1, u2, k2, h1, h2, h3, h4, h5⟩ := hE
  refine applies0 (rest := news) (de := de) (ag := ag) (rl := rl) (t1 := t1) (t2 := t2) (t3 := t3) (t4 := t4) (u1 := u1) (u2 := u2) (dv := dv) (rq := rq) (k := k2) B F X (fun q hq => ?_) T hdp hun hb hret
  rcases List.mem_cons.mp hq with rfl | hq
  · exact N _ (hR _ h1)
  rcases List.mem_cons.mp hq with rfl | hq
  · exact N _ (hR _ h2)
  rcases List.mem_cons.mp hq with rfl | hq
  · exact N _ (hR _ h5)
  · exact N _ hq
end
end Mine
end
section
open PySem PySem.W PyProof.Rows PySem.Calls PySem.Spec
namespace Mine
theorem six {ws : List Value} {ns : List Int} (h : IntsAre ws (ns.take 6)) : ws.toArray.size ≤ 6 := by
  have := h.length
  rw [List.size_toArray, this, List.length_take]
  omega
/-- the log's data -/
noncomputable def lgD (e : Entry3) : PyData := .tuple [.int e.1, .str e.2.1, .str e.2.2]
theorem Logs.reads {h₀ h : Heap} {L : Addr} {news R : List (Addr × Obj)} (N : News h₀ L h news) (hR : ∀ q ∈ R, q ∈ news) {vs : List Value} {ps : List Entry3} (hl : Logs R vs ps) : ∃ as, ReadsAll h vs (ps.map lgD) as :=
  All2.reads (fun v p ⟨a, u, x, q, e, hm⟩ => by
    subst e
    exact ⟨_, reads_tuple_at (N.get (hR _ hm)) rfl rfl (ReadsAll.cons (Reads.int _ _) (ReadsAll.cons (Reads.str _ _) (ReadsAll.cons (Reads.str _ _) ReadsAll.nil)))⟩) hl
noncomputable def lgOk (e : Entry3) : Prop := e.2.1 ∈ pagesP ∧ PyData.strOk e.2.2 = true
theorem lgD_ok {e : Entry3} (h : lgOk e) : (lgD e).canLay0 = true ∧ (lgD e).depth ≤ 1 := by
  refine ⟨?_, ?_⟩
  · simp only [lgD, PyData.canLay0, PyData.canLayAll0, pages_ok _ h.1, h.2, Bool.and_true, Bool.true_and]
  · simp [lgD, PyData.depth, PyData.depthAll]
theorem ans_ok (rules : List (Str × Bool)) (f : Str → Int) (x : Str) : PyData.strOk (ansOf rules f x) = true := by
  unfold ansOf
  split
  · split <;> decide +kernel
  · decide +kernel
theorem crawl_ok {rules : List (Str × Bool)} {f : Str → Int} {dl : Int} : ∀ (n : Nat) {c : Site × List Entry3}, JC c → (∀ e ∈ c.2, lgOk e) → ∀ e ∈ crawlN (ansOf rules f) dl n c, lgOk e
  | 0, _, _, h => h
  | n + 1, c, hJ, h => by
    show ∀ e ∈ (if c.1.1 = [] then c.2 else crawlN (ansOf rules f) dl n (stepC (ansOf rules f) dl c)), lgOk e
    split
    · exact h
    · rename_i hne
      refine crawl_ok n (hJ.step hne) fun e he => ?_
      unfold stepC at he
      rcases List.mem_append.mp he with he | he
      · exact h e he
      · rw [List.mem_singleton.mp he]
        exact ⟨hJ.page hne, ans_ok _ _ _⟩
theorem eq_logs {prog : Program} {w : World} {A : Around} {E : Value → Shared → Prop} {s : Shared} {h₀ : Heap} {L a b : Addr} {news R R' : List (Addr × Obj)} {Q : Value → Shared → Prop} {vs ws : Array Value} {ka kb : Nat} {rules : List (Str × Bool)} {f : Str → Int} {dl : Int} {n : Nat}
    (N : News h₀ L s.heap news) (ma : (a, listOf vs ka) ∈ news) (mb : (b, listOf ws kb) ∈ news)
    (ha : Logs R vs.toList (crawlN (ansOf rules f) dl n (([(0, Str.ofString "/")], [Str.ofString "/"]), []))) (hR : ∀ q ∈ R, q ∈ news) (hb : Logs R' ws.toList (crawlN (ansOf rules f) dl n (([(0, Str.ofString "/")], [Str.ofString "/"]), []))) (hR' : ∀ q ∈ R', q ∈ news) (hu : A.units + 64 < cLine)
    (h : Q (.bool true) s) : wpAny (model prog w) A (compareOp .Eq (.ref a) (.ref b)) Q E s := by
  have hok := crawl_ok (rules := rules) (f := f) (dl := dl) n JC.start (fun _ h => nomatch h)
  generalize crawlN (ansOf rules f) dl n (([(0, Str.ofString "/")], [Str.ofString "/"]), []) = lg at *
  obtain ⟨as, ra⟩ := ha.reads N hR
  obtain ⟨bs, rb⟩ := hb.reads N hR'
  have hsh : SeqAt.shaped (.list (lg.map lgD)) = true := list_ok fun d hd => by
    obtain ⟨e, he, rfl⟩ := List.mem_map.mp hd
    exact lgD_ok (hok e he)
  refine eq_dataH (reads_list_at (N.get ma) rfl rfl ra) (reads_list_at (N.get mb) rfl rfl rb) hsh hsh hu ?_
  have hc : (PyData.list (lg.map lgD)).canLay0 = true := by
    unfold SeqAt.shaped at hsh
    exact (Bool.and_eq_true_iff.mp hsh).1
  rw [PySem.SeqAt.eqv_refl _ hc]
  exact h
/-- the entries but one address -/
noncomputable def but (c : Addr) (R : List (Addr × Obj)) : List (Addr × Obj) := R.filter fun q => decide (@Ne Nat q.1 c)
theorem but_mem {c : Addr} {R : List (Addr × Obj)} {q : Addr × Obj} : q ∈ but c R ↔ q ∈ R ∧ @Ne Nat q.1 c := by
  unfold but
  rw [List.mem_filter, decide_eq_true_eq]
theorem RPs.but {c : Addr} {R : List (Addr × Obj)} (hn : ∀ a x y b, (a, ruleO x y b) ∈ R → @Ne Nat a c) {vs : List Value} {rs : List (Str × Bool)} (h : RPs R vs rs) : RPs (but c R) vs rs :=
  All2.imp (fun _ _ => Exists.imp fun _ => Exists.imp fun _ => And.imp_right fun hm => but_mem.mpr ⟨hm, hn _ _ _ _ hm⟩) h
section
variable {w : World} {mean : ExcName → Option Value} {mg mb : Str → Option Value} {loose : List Str} {c : Addr} {R : List (Addr × Obj)}
theorem RuleAt.but (hn : ∀ q ∈ R, q.2.data ≠ .cell none → @Ne Nat q.1 c) {v : Value} {r : Str × Bool} (h : RuleAt w mean mg mb loose R v r) : RuleAt w mean mg mb loose (but c R) v r :=
  h.gen fun q hq hd => but_mem.mpr ⟨hq, hn q hq hd⟩
theorem EntryRec.but (hn : ∀ q ∈ R, q.2.data ≠ .cell none → @Ne Nat q.1 c) {e : Addr} {dv : Value} {rules : List (Str × Bool)} (h : EntryRec w mean mg mb loose R e dv rules) : EntryRec w mean mg mb loose (but c R) e dv rules :=
  h.gen fun q hq hd => but_mem.mpr ⟨hq, hn q hq hd⟩
end
section
variable {w : World} {dp un : Nat} {gd : Option (List Code)} {cn : Str} {nm : List (Str × NameKind)} {ig ic : Bool} {mr : List (Str × Const)} {a : Addr} {ccd : Value} {cl : List (Str × Addr)} {outer : List Env} {A₀ : Around} {base h₀ : Heap} {L : Addr} {m : Str → Option Value} {s : Shared} {Q E : Value → Shared → Prop}
   {mean : ExcName → Option Value} {mg mb : Str → Option Value} {loose : List Str}
/-- the call of _law_entry where one cell still waits for its value -/
theorem entry_use {ca rl md : Addr} {oc mo : Obj} {vs : Array Value} {k : Nat} {rules : List (Str × Bool)} {dl : Int} {dt : Tok} {news : List (Addr × Obj)}
   (B : Below A₀ base outer h₀) (F : Fr h₀ L s.heap m) (X : (heapK w.params).In h₀) (N : News h₀ L s.heap news) (m1 : (145, tabObj #[]) ∈ news) (m2 : (ca, oc) ∈ news) (m3 : (rl, listOf vs k) ∈ news) (m4 : (md, mo) ∈ news)
   (hoc : oc.data = .cell none) (hmo : ∃ es n, mo.data = .dict es n) (hr : RPs news vs.toList rules) (hl : ∀ r ∈ rules, r.1 ∈ pagesP) (hn : rules.length ≤ 12)
   (T : Top topProg loose mean mg mb h₀) (C : CodeHd base 149 145) (hdp : dp + 6 < recursionLimit) (hun : un + 300 < cLine)
   (hret : ∀ e h' tk' R', EntryRec w mean mg mb loose R' e (.int dl dt) rules → (∃ ps, (145, tabObj ps) ∈ R') → RPs R' vs.toList rules → (rl, listOf vs k) ∈ R' → (md, mo) ∈ R' → (∀ q ∈ R', q.1 ≠ ca) → Fr h₀ L h' m → News h₀ L h' ((ca, oc) :: R') → Q (.ref e) { s with heap := h', toks := tk' }) :
   wpAny (model PySem.Challenge.rw_oy0154_01.prog w) (ktrTop dp un gd cn ⟨.function, nm, ig, ic, mr⟩ L a ccd cl outer) (call (.ref 157) [.ref rl, .int dl dt]) Q E s := by
  have key : ∀ {x : Addr} {o : Obj} {R : List (Addr × Obj)} {h : Heap}, News h₀ L h R → (x, o) ∈ R → ∀ q ∈ R, q.2 ≠ o → @Ne Nat q.1 x := fun {x o R h} N hm q hq hne e => by
    have h1 := (N _ hm).1
    have h2 := (N _ hq).1
    have e' : q.1 = x := e
    rw [e', h1] at h2
    exact hne (Option.some.inj h2).symm
  have k145 := key N m1
  have n2 : @Ne Nat ca 145 := k145 _ m2 fun e => by rw [show oc = _ from e] at hoc; cases hoc
  have n3 : @Ne Nat rl 145 := k145 _ m3 fun e => by cases e
  have n4 : @Ne Nat md 145 := k145 _ m4 fun e => by
    obtain ⟨es, n, h⟩ := hmo
    rw [show mo = _ from e] at h
    cases h
  have hr2 := hr.but (c := 145) fun a x y b hm => k145 _ hm fun e => by cases e
  refine entry0 (k := k) (rest := but 145 news) B F X (fun q hq => ?_) (.inl rfl) n3 (fun p hp => (but_mem.mp hp).2) hr2 (fun r h => page_len _ (hl r h)) (by omega) T C hdp hun fun e h' tk' R' hE ⟨ps, hps⟩ hs F' N' => ?_
  · rcases List.mem_cons.mp hq with rfl | hq
    · exact N _ m1
    rcases List.mem_cons.mp hq with rfl | hq
    · exact N _ m3
    · exact N _ (but_mem.mp hq).1
  · have z2 : (ca, oc) ∈ R' := hs _ (.tail _ (but_mem.mpr ⟨m2, n2⟩))
    have kc := key N' z2
    have hn : ∀ q ∈ R', q.2.data ≠ .cell none → @Ne Nat q.1 ca := fun q hq hd => kc q hq fun e => hd (by rw [e]; exact hoc)
    refine hret e h' tk' (but ca R') (hE.but hn) ⟨ps, but_mem.mpr ⟨hps, hn _ hps fun e => by cases e⟩⟩ ?_ ?_ ?_ (fun q hq => (but_mem.mp hq).2) F' fun q hq => ?_
    · refine RPs.but (fun a x y b hm => hn _ hm fun e => by cases e) (hr2.mono fun q hq => hs q (.tail _ hq))
    · exact but_mem.mpr ⟨hs _ (.head _), hn _ (hs _ (.head _)) fun e => by cases e⟩
    · have z4 := hs _ (.tail _ (but_mem.mpr ⟨m4, n4⟩))
      exact but_mem.mpr ⟨z4, hn _ z4 fun e => by
        obtain ⟨es, n, h⟩ := hmo
        rw [show mo.data = _ from e] at h
        cases h⟩
    · rcases List.mem_cons.mp hq with rfl | hq
      · exact N' _ z2
      · exact N' _ (but_mem.mp hq).1
end
theorem ins2 {h₀ h : Heap} {L : Addr} {c a b : Addr × Obj} {R : List (Addr × Obj)} (N : News h₀ L h (c :: R)) (ha : a ∈ R) (hb : b ∈ R) : News h₀ L h (c :: a :: b :: R) := fun q hq => by
  rcases List.mem_cons.mp hq with rfl | hq
  · exact N _ (.head _)
  rcases List.mem_cons.mp hq with rfl | hq
  · exact N _ (.tail _ ha)
  rcases List.mem_cons.mp hq with rfl | hq
  · exact N _ (.tail _ hb)
  · exact N _ (.tail _ hq)
theorem ins3 {h₀ h : Heap} {L : Addr} {c a b : Addr × Obj} {R : List (Addr × Obj)} (N : News h₀ L h (c :: R)) (ha : a ∈ R) (hb : b ∈ R) : News h₀ L h (a :: b :: c :: R) := fun q hq => by
  rcases List.mem_cons.mp hq with rfl | hq
  · exact N _ (.tail _ ha)
  rcases List.mem_cons.mp hq with rfl | hq
  · exact N _ (.tail _ hb)
  · exact N _ hq
theorem ap_item {t1 t2 t3 t4 t5 t6 t7 : Tok} {i : Nat} {v : Value} (h : (#[.str (Str.ofString "Bot/1") t1, .str (Str.ofString "robots") t2, .str (Str.ofString "x/bot") t3, .str (Str.ofString "firefox") t4, .str (Str.ofString "fo x") t5, .str (Str.ofString "") t6, .str (Str.ofString "FOX") t7] : Array Value)[i]? = some v) : ∃ n b t, v = .str n t ∧ apTab[i]? = some (n, b) := by
  match i, h with
  | 0, h => exact ⟨_, _, t1, (Option.some.inj h).symm, rfl⟩
  | 1, h => exact ⟨_, _, t2, (Option.some.inj h).symm, rfl⟩
  | 2, h => exact ⟨_, _, t3, (Option.some.inj h).symm, rfl⟩
  | 3, h => exact ⟨_, _, t4, (Option.some.inj h).symm, rfl⟩
  | 4, h => exact ⟨_, _, t5, (Option.some.inj h).symm, rfl⟩
  | 5, h => exact ⟨_, _, t6, (Option.some.inj h).symm, rfl⟩
  | 6, h => exact ⟨_, _, t7, (Option.some.inj h).symm, rfl⟩
  | n + 7, h => simp at h
noncomputable def apVs (i : Nat) : List Value := (apTab.take i).map fun p => .bool p.2
theorem ap_next {i : Nat} {n : Str} {b : Bool} (h : apTab[i]? = some (n, b)) : apVs (i + 1) = apVs i ++ [.bool b] := by
  unfold apVs
  rw [List.take_add_one, h, List.map_append]
  rfl
theorem ne_bools {prog : Program} {w : World} {A : Around} {E : Value → Shared → Prop} {s : Shared} {h₀ : Heap} {L a b : Addr} {news : List (Addr × Obj)} {Q : Value → Shared → Prop} {k : Nat}
    (N : News h₀ L s.heap news) (ma : (a, LCg.lst (apVs 7)) ∈ news) (mb : (b, listOf #[.bool true, .bool true, .bool false, .bool true, .bool false, .bool false, .bool true] k) ∈ news) (hu : A.units + 64 < cLine)
    (h : Q (.bool false) s) : wpAny (model prog w) A (compareOp .NotEq (.ref a) (.ref b)) Q E s := by
  have r : ReadsAll s.heap [.bool true, .bool true, .bool false, .bool true, .bool false, .bool false, .bool true] [.bool true, .bool true, .bool false, .bool true, .bool false, .bool false, .bool true] _ := .cons (.bool _) (.cons (.bool _) (.cons (.bool _) (.cons (.bool _) (.cons (.bool _) (.cons (.bool _) (.cons (.bool _) .nil))))))
  refine ne_dataH (reads_list_at (N.get ma) rfl rfl (show ReadsAll s.heap (apVs 7).toArray.toList _ _ from r)) (reads_list_at (N.get mb) rfl rfl r) (by decide) (by decide) hu ?_
  exact h
end Mine
end
section
open PySem PySem.W PyProof.Rows PySem.Calls PySem.Spec
namespace Mine
theorem kt_Main : True := by
  k_with_none
  k_with "eval Constant str" => (k_here; with_reducible refine const_str ?_)
  k_with "eval Constant int" => (k_here; with_reducible refine const_int ?_)
  k_with "spliced" => (k_here; dsimp only)
  k_with "storeName" => (k_here; dsimp only)
  k_with "m ne" => (first | assumption | exact Ne.symm (by assumption) | (refine neN ?_; (try dsimp only); (repeat (rename @Ne Nat _ _ => hz9; clear hz9)); (repeat (rename @Ne Nat _ _ ∧ _ => hz9; clear hz9)); (repeat (rename (@Ne Nat _ _ ∧ _) ∧ _ => hz9; clear hz9)); omega) | ((repeat (rename @Ne Nat _ _ ∧ _ => hz9; first | exact hz9.1 | exact hz9.1.symm | exact hz9.2.1 | exact hz9.2.1.symm | exact hz9.2.2.1 | exact hz9.2.2.1.symm | exact hz9.2.2.2.1 | exact hz9.2.2.2.1.symm | exact hz9.2.2.2.2.1 | exact hz9.2.2.2.2.1.symm | exact hz9.2.2.2.2.2.1 | exact hz9.2.2.2.2.2.1.symm | exact hz9.2.2.2.2.2.2.1 | exact hz9.2.2.2.2.2.2.1.symm | exact hz9.2.2.2.2.2.2.2.1 | exact hz9.2.2.2.2.2.2.2.1.symm | exact hz9.2.2.2.2.2.2.2.2.1 | exact hz9.2.2.2.2.2.2.2.2.1.symm | exact hz9.2.2.2.2.2.2.2.2.2.1 | exact hz9.2.2.2.2.2.2.2.2.2.1.symm | exact hz9.2.2.2.2.2.2.2.2.2.2.1 | exact hz9.2.2.2.2.2.2.2.2.2.2.1.symm | exact hz9.2.2.2.2.2.2.2.2.2.2.2.1 | exact hz9.2.2.2.2.2.2.2.2.2.2.2.1.symm | exact hz9.2.2.2.2.2.2.2.2.2.2.2.2.1 | exact hz9.2.2.2.2.2.2.2.2.2.2.2.2.1.symm | exact hz9.2.2.2.2.2.2.2.2.2.2.2.2.2.1 | exact hz9.2.2.2.2.2.2.2.2.2.2.2.2.2.1.symm | exact hz9.2.2.2.2.2.2.2.2.2.2.2.2.2.2.1 | exact hz9.2.2.2.2.2.2.2.2.2.2.2.2.2.2.1.symm | clear hz9)); done) | ((repeat (rename (@Ne Nat _ _ ∧ _) ∧ _ => hz9; first | exact hz9.1.1 | exact hz9.1.1.symm | exact hz9.1.2.1 | exact hz9.1.2.1.symm | exact hz9.1.2.2 | exact hz9.1.2.2.symm | exact hz9.2.1.1 | exact hz9.2.1.1.symm | exact hz9.2.1.2.1 | exact hz9.2.1.2.1.symm | exact hz9.2.1.2.2 | exact hz9.2.1.2.2.symm | exact hz9.2.2.1.1 | exact hz9.2.2.1.1.symm | exact hz9.2.2.1.2.1 | exact hz9.2.2.1.2.1.symm | exact hz9.2.2.1.2.2 | exact hz9.2.2.1.2.2.symm | exact hz9.2.2.2.1.1 | exact hz9.2.2.2.1.1.symm | exact hz9.2.2.2.1.2.1 | exact hz9.2.2.2.1.2.1.symm | exact hz9.2.2.2.1.2.2 | exact hz9.2.2.2.1.2.2.symm | exact hz9.2.2.2.2.1.1 | exact hz9.2.2.2.2.1.1.symm | exact hz9.2.2.2.2.1.2.1 | exact hz9.2.2.2.2.1.2.1.symm | exact hz9.2.2.2.2.1.2.2 | exact hz9.2.2.2.2.1.2.2.symm | exact hz9.2.2.2.2.2.1.1 | exact hz9.2.2.2.2.2.1.1.symm | exact hz9.2.2.2.2.2.1.2.1 | exact hz9.2.2.2.2.2.1.2.1.symm | exact hz9.2.2.2.2.2.1.2.2 | exact hz9.2.2.2.2.2.1.2.2.symm | exact hz9.2.2.2.2.2.2.1.1 | exact hz9.2.2.2.2.2.2.1.1.symm | exact hz9.2.2.2.2.2.2.1.2.1 | exact hz9.2.2.2.2.2.2.1.2.1.symm | exact hz9.2.2.2.2.2.2.1.2.2 | exact hz9.2.2.2.2.2.2.1.2.2.symm | exact hz9.2.2.2.2.2.2.2.1.1 | exact hz9.2.2.2.2.2.2.2.1.1.symm | exact hz9.2.2.2.2.2.2.2.1.2.1 | exact hz9.2.2.2.2.2.2.2.1.2.1.symm | exact hz9.2.2.2.2.2.2.2.1.2.2 | exact hz9.2.2.2.2.2.2.2.1.2.2.symm | exact hz9.2.2.2.2.2.2.2.2.1.1 | exact hz9.2.2.2.2.2.2.2.2.1.1.symm | exact hz9.2.2.2.2.2.2.2.2.1.2.1 | exact hz9.2.2.2.2.2.2.2.2.1.2.1.symm | exact hz9.2.2.2.2.2.2.2.2.1.2.2 | exact hz9.2.2.2.2.2.2.2.2.1.2.2.symm | exact hz9.2.2.2.2.2.2.2.2.2.1.1 | exact hz9.2.2.2.2.2.2.2.2.2.1.1.symm | exact hz9.2.2.2.2.2.2.2.2.2.1.2.1 | exact hz9.2.2.2.2.2.2.2.2.2.1.2.1.symm | exact hz9.2.2.2.2.2.2.2.2.2.1.2.2 | exact hz9.2.2.2.2.2.2.2.2.2.1.2.2.symm | exact hz9.2.2.2.2.2.2.2.2.2.2.1.1 | exact hz9.2.2.2.2.2.2.2.2.2.2.1.1.symm | exact hz9.2.2.2.2.2.2.2.2.2.2.1.2.1 | exact hz9.2.2.2.2.2.2.2.2.2.2.1.2.1.symm | exact hz9.2.2.2.2.2.2.2.2.2.2.1.2.2 | exact hz9.2.2.2.2.2.2.2.2.2.2.1.2.2.symm | exact hz9.2.2.2.2.2.2.2.2.2.2.2.1.1 | exact hz9.2.2.2.2.2.2.2.2.2.2.2.1.1.symm | exact hz9.2.2.2.2.2.2.2.2.2.2.2.1.2.1 | exact hz9.2.2.2.2.2.2.2.2.2.2.2.1.2.1.symm | exact hz9.2.2.2.2.2.2.2.2.2.2.2.1.2.2 | exact hz9.2.2.2.2.2.2.2.2.2.2.2.1.2.2.symm | exact hz9.2.2.2.2.2.2.2.2.2.2.2.2.1.1 | exact hz9.2.2.2.2.2.2.2.2.2.2.2.2.1.1.symm | exact hz9.2.2.2.2.2.2.2.2.2.2.2.2.1.2.1 | exact hz9.2.2.2.2.2.2.2.2.2.2.2.2.1.2.1.symm | exact hz9.2.2.2.2.2.2.2.2.2.2.2.2.1.2.2 | exact hz9.2.2.2.2.2.2.2.2.2.2.2.2.1.2.2.symm | exact hz9.2.2.2.2.2.2.2.2.2.2.2.2.2.1.1 | exact hz9.2.2.2.2.2.2.2.2.2.2.2.2.2.1.1.symm | exact hz9.2.2.2.2.2.2.2.2.2.2.2.2.2.1.2.1 | exact hz9.2.2.2.2.2.2.2.2.2.2.2.2.2.1.2.1.symm | exact hz9.2.2.2.2.2.2.2.2.2.2.2.2.2.1.2.2 | exact hz9.2.2.2.2.2.2.2.2.2.2.2.2.2.1.2.2.symm | exact hz9.2.2.2.2.2.2.2.2.2.2.2.2.2.2.1.1 | exact hz9.2.2.2.2.2.2.2.2.2.2.2.2.2.2.1.1.symm | exact hz9.2.2.2.2.2.2.2.2.2.2.2.2.2.2.1.2.1 | exact hz9.2.2.2.2.2.2.2.2.2.2.2.2.2.2.1.2.1.symm | exact hz9.2.2.2.2.2.2.2.2.2.2.2.2.2.2.1.2.2 | exact hz9.2.2.2.2.2.2.2.2.2.2.2.2.2.2.1.2.2.symm | exact hz9.2.2.2.2.2.2.2.2.2.2.2.2.2.2.2.1.1 | exact hz9.2.2.2.2.2.2.2.2.2.2.2.2.2.2.2.1.1.symm | exact hz9.2.2.2.2.2.2.2.2.2.2.2.2.2.2.2.1.2.1 | exact hz9.2.2.2.2.2.2.2.2.2.2.2.2.2.2.2.1.2.1.symm | exact hz9.2.2.2.2.2.2.2.2.2.2.2.2.2.2.2.1.2.2 | exact hz9.2.2.2.2.2.2.2.2.2.2.2.2.2.2.2.1.2.2.symm | exact hz9.2.2.2.2.2.2.2.2.2.2.2.2.2.2.2.2.1.1 | exact hz9.2.2.2.2.2.2.2.2.2.2.2.2.2.2.2.2.1.1.symm | exact hz9.2.2.2.2.2.2.2.2.2.2.2.2.2.2.2.2.1.2.1 | exact hz9.2.2.2.2.2.2.2.2.2.2.2.2.2.2.2.2.1.2.1.symm | exact hz9.2.2.2.2.2.2.2.2.2.2.2.2.2.2.2.2.1.2.2 | exact hz9.2.2.2.2.2.2.2.2.2.2.2.2.2.2.2.2.1.2.2.symm | clear hz9)); done) | (refine neN ?_; (try dsimp only); omega))
  k_with "m mem" => (assumption)
  k_with "m rel" => (first | exact List.forall_mem_nil _ | exact fun q hq => hq | (refine List.forall_mem_cons.mpr ⟨by k_mem, ?_⟩; ktr_rel) | (intro q hq; repeat (first | exact hq | refine List.Mem.tail _ ?_ | exact List.mem_append_right _ hq)))
  k_with "m all" => (first | assumption | (tbn_letter; refine all_of_lt (by tbn_find) (by omega)))
  trivial
set_option maxHeartbeats 4000000 in
theorem main0 : PySem.Challenge.rw_oy0154_01.Holds := by
  k_with "call ref" => (k_here; refine stop_in ?_)
  k_with "CompSrc" => (k_here; refine stop_in ?_)
  k_with "eval ListComp" => (k_here; (with_reducible show wpAny _ _ (eval (Expr.ListComp _ [⟨Expr.Name _ _, _, [], _⟩] _ _) _) _ _ _); k_dflt (refine LCg.ListComp_U (F₀ := by k_asm) (by with_unfolding_all rfl) (by decide) (by rfl) (by decide) (by rfl) ?_); k_dflt lcg_toSrc)
  k_with "compareOp NotEq ref ref" => (k_here; k_dflt (refine' ne_bools ?nbN ?nba ?nbb ?nbu ?_; (case nbN => k_asm); (case nba => k_mem); (case nbb => k_mem); (case nbu => ktr_units); k_whole))
  k_with "compareOp Eq ref ref" => (k_here; refine stop_in ?_)
  k_with "eval Name" => (k_here; (with_reducible show wpAny _ _ (eval (Expr.Name _ _) (compEnvC _ _ _ _)) _ _ _); k_dflt (first | refine kcf_cell (by k_asm) (by rfl) (by k_mem) (by assumption) ?_ | refine LCgL.ld_own (by k_asm) (by k_mem) (by assumption) (by assumption) ?_))
  w_on
  refine holds_law saidK fun said => ?_
  refine holds_open (r := PySem.Challenge.rw_oy0154_01.row) (q := viewV) (loose := looseL) (Xt := fun s => xlAt viewV lvT s && recOk (RowW.records rowR.toRowW) s) (XP := XL viewV lvT) (Yf := Hook.obs (kmHook heapK adsK ads_ok [145])) (Ya := Hook.val (kmHook heapK adsK ads_ok [145])) (YP := Hook.says (kmHook heapK adsK ads_ok [145])) (N := 2370) leftK (Hook.of _) (Hook.keeps _) (fun s e => xl_of s (Bool.and_eq_true_iff.mp e).1) XL.keeps (by rfl) (by rfl) (by rfl) (fun s e => recFacts_of (Bool.and_eq_true_iff.mp e).2) (by rfl) partP (by decide +kernel) ⟨rfl, rfl, rfl, rfl, rfl, by decide +kernel⟩ ?hw ?hc
  case hw => w_witness2
  clear said
  w_strict (k_go0; (all_goals try k_fold); k_steps)
  refine stop_out ?_
  (rename IntsAre _ (List.take 6 _) => hI6)
  (rename CodeHd _ _ _ => hC8)
  (rename _ = Data.cell _ => hcell)
  refine' drawn0 ?drB ?drF ?drX ?drN ?drI ?dr6 ?drT ?drd ?dru ?drR
  case drB => k_asm
  case drF => k_asm
  case drN => k_asm
  case drT => k_asm
  case drX => k_asm
  case drI => exact hI6
  case dr6 => exact six hI6
  case drd => ktr_room
  case dru => ktr_units
  case drR =>
    intro D1 R1 rl1 md1 mo1 ri1 rk1 dl1 kvs1 f1 rules1 dt1 h1 tk1 hA1 hdl1 hs1 F1 N1
    obtain ⟨r1, r2, r3, r4, r5, r6, r7⟩ := hA1
    simp only [List.forall_mem_cons] at hs1
    obtain ⟨mrl, mmd, mcell, m145, _⟩ := hs1
    k_steps
    refine stop_out ?_
    (rename News _ _ _ _ => lN')
    (rename Fr _ _ _ _ => lF')
    refine' entry_use ?enB ?enF ?enX ?enN ?en1 ?en2 ?en3 ?en4 ?eno ?enm ?enr ?enl ?enn ?enT ?enC ?enZ ?enu ?enR
    case enB => k_asm
    case enF => k_asm
    case enN => k_asm
    case enT => k_asm
    case enX => k_asm
    case en1 => exact List.Mem.tail _ m145
    case en2 => exact List.Mem.tail _ mcell
    case en3 => exact List.Mem.tail _ mrl
    case en4 => exact List.Mem.tail _ mmd
    case eno => exact hcell
    case enm =>
      obtain ⟨es, ep, _, hd, _⟩ := r4
      exact ⟨es, ep, hd⟩
    case enr => exact r1.mono fun q hq => List.Mem.tail _ hq
    case enl => exact r2
    case enn => exact r3
    case enC => exact hC8
    case enZ => ktr_room
    case enu => ktr_units
    case enR =>
      intro e2 h2 tk2 R2 hE2 ⟨ps2, hps2⟩ hP2 mrl2 mmd2 hca2 F2 N2
      clear lF' lN'
      have hE3 := hE2
      obtain ⟨de, ag, rl0, t1, t2, t3, t4, rq, vs0, k0, u1, u2, k2, z1, z2, z3, z4, z5⟩ := hE3
      have N3 := ins2 N2 z1 z2
      have ne1 : @Ne Nat e2 _ := hca2 _ z1
      have ne2 : @Ne Nat de _ := hca2 _ z2
      clear N2
      k_steps
      refine stop_out ?_
      (rename News _ _ _ _ => lN')
      (rename Fr _ _ _ _ => lF')
      refine' drop_src (fun i ys => ys = apVs i) ?apH lF' lN' ?apM ?apZ rfl ?apT ?apE
      case apH => rfl
      case apM => k_mem
      case apZ => rw [PySem.sizeLine_eq]; exact Nat.le_of_ble_eq_true rfl
      case apT =>
        intro i v ys I oI C oC D m₂ g h tk E' hv hw hC hx F' N' off ne
        clear lF' lN'
        have off0 := off
        simp only [LCg.Off3, and_true] at off
        obtain ⟨n9, b9, t9, rfl, hn9⟩ := ap_item hv
        have hm9 := List.mem_of_getElem? hn9
        subst hw
        k_steps
        refine stop_out ?_
        (rename News _ _ _ _ => lN')
        (rename Fr _ _ _ _ => lF')
        refine' applies_use ?auB lF' ?auX lN' ?auT ?aud ?auu hE2 ?auR hm9 ?auQ
        case auB => k_asm
        case auT => k_asm
        case auX => k_asm
        case aud => ktr_room
        case auu => ktr_units
        case auR => ktr_rel
        case auQ =>
          intro h9 tk9 F9 N9
          clear lF' lN'
          k_steps
          (rename News _ _ _ _ => nE)
          (rename Fr _ _ _ _ => fE)
          exact LCg.CompEnd.intro fE nE _ (by ktr_rel) off0 trivial ⟨rfl, (ap_next hn9).symm⟩
      case apE =>
        intro g7 ys hy D7 h7 tk7 F7 N7 o7
        clear lF' lN'
        simp only [LCg.Off1, and_true] at o7
        have hy7 : ys = apVs 7 := hy
        subst hy7
        k_steps
        refine stop_out ?_
        (rename News _ _ _ _ => lN')
        (rename Fr _ _ _ _ => lF')
        refine' crawl_spec ?crB lF' ?crX lN' ?crT hC8 ?crd ?cru hE2 ⟨mo1, kvs1, mmd2, r4, r7, r5⟩ ?crR hdl1 r6 ?crQ
        case crB => k_asm
        case crT => k_asm
        case crX => k_asm
        case crd => ktr_room
        case cru => ktr_units
        case crR => ktr_rel
        case crQ =>
          intro gl3 gi3 gk3 R3 h3 tk3 hL3 hz3 hs3 F3 N3
          clear lF' lN'
          have sub3 : ∀ q ∈ R2, q ∈ R3 := by
            intro q hq
            refine hs3 q ?_
            revert q
            ktr_rel
          clear hs3
          k_steps
          refine stop_out ?_
          (rename News _ _ _ _ => lN')
          (rename Fr _ _ _ _ => lF')
          have lN2 := ins3 lN' (sub3 _ mmd2) (sub3 _ mrl2)
          refine' walked0 (f := f1) ?waB lF' ?waX lN2 ?waT ?wad ?wau ((hP2.mono sub3).mono fun q hq => List.mem_cons_of_mem _ hq) r2 ?wal hdl1 r4 r5 r6 ?waQ
          case waB => k_asm
          case waT => k_asm
          case waX => k_asm
          case wad => ktr_room
          case wau => ktr_units
          case wal => omega
          case waQ =>
            intro gl4 gi4 gk4 R4 h4 tk4 hL4 hz4 hs4 F4 N4
            clear lF' lN' lN2
            k_steps
            refine stop_out ?_
            (rename News _ _ _ _ => lN')
            (rename Fr _ _ _ _ => lF')
            refine' eq_logs lN' (List.mem_cons_of_mem _ (hs4 _ (.head _))) (.head _) hL3 (fun q hq => List.mem_cons_of_mem _ (hs4 _ (.tail _ hq))) hL4 (fun q hq => List.mem_cons_of_mem _ hq) ?equ ?eqQ
            case equ => ktr_units
            case eqQ =>
              refine ⟨?gdW, And.intro ⟨ps2, (lN' _ (List.mem_cons_of_mem _ (hs4 _ (.tail _ (sub3 _ hps2))))).1⟩ trivial⟩
              clear hL3 hL4 hs4 sub3 lN' hE2 hP2
              refine goodW_bool lF' ?gdg ?gdn ?gdp
              case gdg => assumption
              case gdn => exact raisesW_false (by wrow_none_raised)
              case gdp => wrow_post
end Mine
end
set_option maxHeartbeats 4000000 in
theorem PySem.Challenge.cw_oy0154_01_holds : PySem.Challenge.rw_oy0154_01.Holds := by
  exact Mine.main0

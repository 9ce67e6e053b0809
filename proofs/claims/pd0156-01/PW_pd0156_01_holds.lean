import PyProof.Rows.All
import Wide.All
import OpenK.AllK
import Wide.FinOn
import PySem.Challenge.RW_pd0156_01
set_option Elab.async false
set_option maxRecDepth 100000
set_option maxHeartbeats 40000000
namespace Mine
open PySem PySem.W PyProof.Rows
/-- the cell of a def of the text, its parts read off the text itself -/
abbrev fnCell (i : Nat) (nm : Str) (ps : Arguments) (b : List Stmt) (dl : List PySem.Expr) (rt : Option PySem.Expr) (tp : List TypeParam) (sc : Scope) (ts : Option Scope) (bd : Str) (po : Pos) (_ : PySem.Challenge.pw_pd0156_01.main.body[i]? = some (.FunctionDef nm ps b dl rt tp sc ts bd po)) (n : Str) (md : Str) (mt : Nat) (cd : Nat) : Obj :=
  { cls := Value.type "function", data := Data.func { name := n, qualname := n, params := ps, body := FuncBody.stmts b, scope := sc, globals := 3, closure := [], defaults := Value.none, kwdefaults := Value.none, pyModule := Value.str md mt, code := Value.ref cd } }
/-- what of the heap the walk reads -/
noncomputable def hd.heap_39 (P : Params) : Frag :=
  (nat_lit 2, { cls := Value.none, data := Data.dict #[] }) ::
  (nat_lit 3, { cls := Value.type "dict", data := Data.dict #[{ hash := PyData.keyHash P (Str.ofString "__name__"), key := Value.str (Str.ofString "__name__") 165, val := Value.str (Str.ofString "law_pd0156_01") 504 }, { hash := PyData.keyHash P (Str.ofString "__doc__"), key := Value.str (Str.ofString "__doc__") 166, val := Value.none }, { hash := PyData.keyHash P (Str.ofString "__package__"), key := Value.str (Str.ofString "__package__") 167, val := Value.none }, { hash := PyData.keyHash P (Str.ofString "__loader__"), key := Value.str (Str.ofString "__loader__") 168, val := Value.builtin "__main__.__loader__#opaque" }, { hash := PyData.keyHash P (Str.ofString "__spec__"), key := Value.str (Str.ofString "__spec__") 169, val := Value.none }, { hash := PyData.keyHash P (Str.ofString "__annotations__"), key := Value.str (Str.ofString "__annotations__") 170, val := Value.ref 6 }, { hash := PyData.keyHash P (Str.ofString "__builtins__"), key := Value.str (Str.ofString "__builtins__") 171, val := Value.ref 4 }, { hash := PyData.keyHash P (Str.ofString "__file__"), key := Value.str (Str.ofString "__file__") 173, val := Value.str (Str.ofString "/claim/cut.py") 172 }, { hash := PyData.keyHash P (Str.ofString "__cached__"), key := Value.str (Str.ofString "__cached__") 174, val := Value.none }, { hash := PyData.keyHash P (Str.ofString "_wall"), key := Value.str (Str.ofString "_wall") 193, val := Value.ref 21 }, { hash := PyData.keyHash P (Str.ofString "S_IFMT"), key := Value.str (Str.ofString "S_IFMT") 202, val := Value.ref 28 }, { hash := PyData.keyHash P (Str.ofString "S_IFDIR"), key := Value.str (Str.ofString "S_IFDIR") 204, val := Value.int 16384 203 }, { hash := PyData.keyHash P (Str.ofString "S_IFCHR"), key := Value.str (Str.ofString "S_IFCHR") 206, val := Value.int 8192 205 }, { hash := PyData.keyHash P (Str.ofString "S_IFBLK"), key := Value.str (Str.ofString "S_IFBLK") 208, val := Value.int 24576 207 }, { hash := PyData.keyHash P (Str.ofString "S_IFREG"), key := Value.str (Str.ofString "S_IFREG") 210, val := Value.int 32768 209 }, { hash := PyData.keyHash P (Str.ofString "S_IFIFO"), key := Value.str (Str.ofString "S_IFIFO") 212, val := Value.int 4096 211 }, { hash := PyData.keyHash P (Str.ofString "S_IFLNK"), key := Value.str (Str.ofString "S_IFLNK") 214, val := Value.int 40960 213 }, { hash := PyData.keyHash P (Str.ofString "S_IFSOCK"), key := Value.str (Str.ofString "S_IFSOCK") 216, val := Value.int 49152 215 }, { hash := PyData.keyHash P (Str.ofString "S_ISDIR"), key := Value.str (Str.ofString "S_ISDIR") 223, val := Value.ref 35 }, { hash := PyData.keyHash P (Str.ofString "S_ISCHR"), key := Value.str (Str.ofString "S_ISCHR") 230, val := Value.ref 42 }, { hash := PyData.keyHash P (Str.ofString "S_ISUID"), key := Value.str (Str.ofString "S_ISUID") 232, val := Value.int 2048 231 }, { hash := PyData.keyHash P (Str.ofString "S_ISGID"), key := Value.str (Str.ofString "S_ISGID") 234, val := Value.int 1024 233 }, { hash := PyData.keyHash P (Str.ofString "S_ISVTX"), key := Value.str (Str.ofString "S_ISVTX") 236, val := Value.int 512 235 }, { hash := PyData.keyHash P (Str.ofString "S_IRUSR"), key := Value.str (Str.ofString "S_IRUSR") 238, val := Value.int 256 237 }, { hash := PyData.keyHash P (Str.ofString "S_IWUSR"), key := Value.str (Str.ofString "S_IWUSR") 240, val := Value.int 128 239 }, { hash := PyData.keyHash P (Str.ofString "S_IXUSR"), key := Value.str (Str.ofString "S_IXUSR") 242, val := Value.int 64 241 }, { hash := PyData.keyHash P (Str.ofString "S_IRGRP"), key := Value.str (Str.ofString "S_IRGRP") 244, val := Value.int 32 243 }, { hash := PyData.keyHash P (Str.ofString "S_IWGRP"), key := Value.str (Str.ofString "S_IWGRP") 246, val := Value.int 16 245 }, { hash := PyData.keyHash P (Str.ofString "S_IXGRP"), key := Value.str (Str.ofString "S_IXGRP") 248, val := Value.int 8 247 }, { hash := PyData.keyHash P (Str.ofString "S_IROTH"), key := Value.str (Str.ofString "S_IROTH") 250, val := Value.int 4 249 }, { hash := PyData.keyHash P (Str.ofString "S_IWOTH"), key := Value.str (Str.ofString "S_IWOTH") 252, val := Value.int 2 251 }, { hash := PyData.keyHash P (Str.ofString "S_IXOTH"), key := Value.str (Str.ofString "S_IXOTH") 254, val := Value.int 1 253 }, { hash := PyData.keyHash P (Str.ofString "_filemode_table"), key := Value.str (Str.ofString "_filemode_table") 280, val := Value.ref 75 }, { hash := PyData.keyHash P (Str.ofString "filemode"), key := Value.str (Str.ofString "filemode") 292, val := Value.ref 82 }, { hash := PyData.keyHash P (Str.ofString "heappop"), key := Value.str (Str.ofString "heappop") 303, val := Value.ref 89 }, { hash := PyData.keyHash P (Str.ofString "heapify"), key := Value.str (Str.ofString "heapify") 312, val := Value.ref 96 }, { hash := PyData.keyHash P (Str.ofString "_siftdown"), key := Value.str (Str.ofString "_siftdown") 324, val := Value.ref 103 }, { hash := PyData.keyHash P (Str.ofString "_siftup"), key := Value.str (Str.ofString "_siftup") 337, val := Value.ref 110 }, { hash := PyData.keyHash P (Str.ofString "_plain_name"), key := Value.str (Str.ofString "_plain_name") 348, val := Value.ref 117 }, { hash := PyData.keyHash P (Str.ofString "ABCMeta"), key := Value.str (Str.ofString "ABCMeta") 374, val := Value.ref 134 }, { hash := PyData.keyHash P (Str.ofString "_ABCLike"), key := Value.str (Str.ofString "_ABCLike") 417, val := Value.ref 167 }, { hash := PyData.keyHash P (Str.ofString "_abc_plain_meta"), key := Value.str (Str.ofString "_abc_plain_meta") 424, val := Value.ref 176 }, { hash := PyData.keyHash P (Str.ofString "fspath"), key := Value.str (Str.ofString "fspath") 436, val := Value.ref 183 }, { hash := PyData.keyHash P (Str.ofString "_check_arg_types"), key := Value.str (Str.ofString "_check_arg_types") 449, val := Value.ref 190 }, { hash := PyData.keyHash P (Str.ofString "_get_sep"), key := Value.str (Str.ofString "_get_sep") 458, val := Value.ref 197 }, { hash := PyData.keyHash P (Str.ofString "join"), key := Value.str (Str.ofString "join") 469, val := Value.ref 204 }, { hash := PyData.keyHash P (Str.ofString "splitroot"), key := Value.str (Str.ofString "splitroot") 478, val := Value.ref 211 }, { hash := PyData.keyHash P (Str.ofString "dirname"), key := Value.str (Str.ofString "dirname") 488, val := Value.ref 218 }, { hash := PyData.keyHash P (Str.ofString "normpath"), key := Value.str (Str.ofString "normpath") 503, val := Value.ref 225 }, { hash := PyData.keyHash P (Str.ofString "_law_numbers"), key := Value.str (Str.ofString "_law_numbers") 511, val := Value.ref 230 }, { hash := PyData.keyHash P (Str.ofString "_law_line"), key := Value.str (Str.ofString "_law_line") 519, val := Value.ref 237 }, { hash := PyData.keyHash P (Str.ofString "_law_text"), key := Value.str (Str.ofString "_law_text") 525, val := Value.ref 242 }, { hash := PyData.keyHash P (Str.ofString "_law_layers"), key := Value.str (Str.ofString "_law_layers") 531, val := Value.ref 247 }, { hash := PyData.keyHash P (Str.ofString "_law_rows"), key := Value.str (Str.ofString "_law_rows") 543, val := Value.ref 254 }, { hash := PyData.keyHash P (Str.ofString "_law_swept"), key := Value.str (Str.ofString "_law_swept") 549, val := Value.ref 259 }, { hash := PyData.keyHash P (Str.ofString "_law_signs"), key := Value.str (Str.ofString "_law_signs") 555, val := Value.ref 264 }, { hash := PyData.keyHash P (Str.ofString "_law_laid"), key := Value.str (Str.ofString "_law_laid") 561, val := Value.ref 269 }, { hash := PyData.keyHash P (Str.ofString "law"), key := Value.str (Str.ofString "law") 570, val := Value.ref 276 }] 58 }) ::
  (nat_lit 27, { cls := Value.type "code", data := Data.fields #[Value.str (Str.ofString "S_IFMT") 196, Value.str (Str.ofString "S_IFMT") 197, Value.str (Str.ofString "/claim/cut.py") 198, Value.int 5 0, Value.int 1 0, Value.int 0 0, Value.int 0 0, Value.int 3 0, Value.ref 22, Value.bool true, Value.int 181 0, Value.ref 23, Value.none, Value.ref 24, Value.ref 25, Value.ref 26, Value.int 200 0, Value.int 5 0, Value.str (Str.ofString "/claim/cut.py") 201] }) ::
  (nat_lit 28, fnCell 2 _ _ _ _ _ _ _ _ _ _ rfl (Str.ofString "S_IFMT") (Str.ofString "cpy313.stat") 194 27) ::
  (nat_lit 34, { cls := Value.type "code", data := Data.fields #[Value.str (Str.ofString "S_ISDIR") 217, Value.str (Str.ofString "S_ISDIR") 218, Value.str (Str.ofString "/claim/cut.py") 219, Value.int 14 0, Value.int 1 0, Value.int 0 0, Value.int 0 0, Value.int 3 0, Value.ref 29, Value.bool true, Value.int 181 0, Value.ref 30, Value.none, Value.ref 31, Value.ref 32, Value.ref 33, Value.int 221 0, Value.int 14 0, Value.str (Str.ofString "/claim/cut.py") 222] }) ::
  (nat_lit 35, fnCell 10 _ _ _ _ _ _ _ _ _ _ rfl (Str.ofString "S_ISDIR") (Str.ofString "cpy313.stat") 194 34) ::
  (nat_lit 41, { cls := Value.type "code", data := Data.fields #[Value.str (Str.ofString "S_ISCHR") 224, Value.str (Str.ofString "S_ISCHR") 225, Value.str (Str.ofString "/claim/cut.py") 226, Value.int 16 0, Value.int 1 0, Value.int 0 0, Value.int 0 0, Value.int 3 0, Value.ref 36, Value.bool true, Value.int 181 0, Value.ref 37, Value.none, Value.ref 38, Value.ref 39, Value.ref 40, Value.int 228 0, Value.int 16 0, Value.str (Str.ofString "/claim/cut.py") 229] }) ::
  (nat_lit 42, fnCell 11 _ _ _ _ _ _ _ _ _ _ rfl (Str.ofString "S_ISCHR") (Str.ofString "cpy313.stat") 194 41) ::
  (nat_lit 43, { cls := Value.type "tuple", data := Data.seq #[Value.int 40960 213, Value.str (Str.ofString "l") 255] }) ::
  (nat_lit 44, { cls := Value.type "tuple", data := Data.seq #[Value.int 49152 215, Value.str (Str.ofString "s") 256] }) ::
  (nat_lit 45, { cls := Value.type "tuple", data := Data.seq #[Value.int 32768 209, Value.str (Str.ofString "-") 257] }) ::
  (nat_lit 46, { cls := Value.type "tuple", data := Data.seq #[Value.int 24576 207, Value.str (Str.ofString "b") 258] }) ::
  (nat_lit 47, { cls := Value.type "tuple", data := Data.seq #[Value.int 16384 203, Value.str (Str.ofString "d") 259] }) ::
  (nat_lit 48, { cls := Value.type "tuple", data := Data.seq #[Value.int 8192 205, Value.str (Str.ofString "c") 260] }) ::
  (nat_lit 49, { cls := Value.type "tuple", data := Data.seq #[Value.int 4096 211, Value.str (Str.ofString "p") 261] }) ::
  (nat_lit 50, { cls := Value.type "tuple", data := Data.seq #[Value.ref 43, Value.ref 44, Value.ref 45, Value.ref 46, Value.ref 47, Value.ref 48, Value.ref 49] }) ::
  (nat_lit 51, { cls := Value.type "tuple", data := Data.seq #[Value.int 256 237, Value.str (Str.ofString "r") 262] }) ::
  (nat_lit 52, { cls := Value.type "tuple", data := Data.seq #[Value.ref 51] }) ::
  (nat_lit 53, { cls := Value.type "tuple", data := Data.seq #[Value.int 128 239, Value.str (Str.ofString "w") 263] }) ::
  (nat_lit 54, { cls := Value.type "tuple", data := Data.seq #[Value.ref 53] }) ::
  (nat_lit 55, { cls := Value.type "tuple", data := Data.seq #[Value.int 2112 264, Value.str (Str.ofString "s") 265] }) ::
  (nat_lit 56, { cls := Value.type "tuple", data := Data.seq #[Value.int 2048 231, Value.str (Str.ofString "S") 266] }) ::
  (nat_lit 57, { cls := Value.type "tuple", data := Data.seq #[Value.int 64 241, Value.str (Str.ofString "x") 267] }) ::
  (nat_lit 58, { cls := Value.type "tuple", data := Data.seq #[Value.ref 55, Value.ref 56, Value.ref 57] }) ::
  (nat_lit 59, { cls := Value.type "tuple", data := Data.seq #[Value.int 32 243, Value.str (Str.ofString "r") 268] }) ::
  (nat_lit 60, { cls := Value.type "tuple", data := Data.seq #[Value.ref 59] }) ::
  (nat_lit 61, { cls := Value.type "tuple", data := Data.seq #[Value.int 16 245, Value.str (Str.ofString "w") 269] }) ::
  (nat_lit 62, { cls := Value.type "tuple", data := Data.seq #[Value.ref 61] }) ::
  (nat_lit 63, { cls := Value.type "tuple", data := Data.seq #[Value.int 1032 270, Value.str (Str.ofString "s") 271] }) ::
  (nat_lit 64, { cls := Value.type "tuple", data := Data.seq #[Value.int 1024 233, Value.str (Str.ofString "S") 272] }) ::
  (nat_lit 65, { cls := Value.type "tuple", data := Data.seq #[Value.int 8 247, Value.str (Str.ofString "x") 273] }) ::
  (nat_lit 66, { cls := Value.type "tuple", data := Data.seq #[Value.ref 63, Value.ref 64, Value.ref 65] }) ::
  (nat_lit 67, { cls := Value.type "tuple", data := Data.seq #[Value.int 4 249, Value.str (Str.ofString "r") 274] }) ::
  (nat_lit 68, { cls := Value.type "tuple", data := Data.seq #[Value.ref 67] }) ::
  (nat_lit 69, { cls := Value.type "tuple", data := Data.seq #[Value.int 2 251, Value.str (Str.ofString "w") 275] }) ::
  (nat_lit 70, { cls := Value.type "tuple", data := Data.seq #[Value.ref 69] }) ::
  (nat_lit 71, { cls := Value.type "tuple", data := Data.seq #[Value.int 513 276, Value.str (Str.ofString "t") 277] }) ::
  (nat_lit 72, { cls := Value.type "tuple", data := Data.seq #[Value.int 512 235, Value.str (Str.ofString "T") 278] }) ::
  (nat_lit 73, { cls := Value.type "tuple", data := Data.seq #[Value.int 1 253, Value.str (Str.ofString "x") 279] }) ::
  (nat_lit 74, { cls := Value.type "tuple", data := Data.seq #[Value.ref 71, Value.ref 72, Value.ref 73] }) ::
  (nat_lit 75, { cls := Value.type "tuple", data := Data.seq #[Value.ref 50, Value.ref 52, Value.ref 54, Value.ref 58, Value.ref 60, Value.ref 62, Value.ref 66, Value.ref 68, Value.ref 70, Value.ref 74] }) ::
  (nat_lit 81, { cls := Value.type "code", data := Data.fields #[Value.str (Str.ofString "filemode") 281, Value.str (Str.ofString "filemode") 282, Value.str (Str.ofString "/claim/cut.py") 283, Value.int 31 0, Value.int 1 0, Value.int 0 0, Value.int 0 0, Value.int 3 0, Value.ref 76, Value.bool true, Value.int 181 0, Value.ref 77, Value.none, Value.ref 78, Value.ref 79, Value.ref 80, Value.int 290 0, Value.int 31 0, Value.str (Str.ofString "/claim/cut.py") 291] }) ::
  (nat_lit 82, fnCell 25 _ _ _ _ _ _ _ _ _ _ rfl (Str.ofString "filemode") (Str.ofString "cpy313.stat") 194 81) ::
  (nat_lit 88, { cls := Value.type "code", data := Data.fields #[Value.str (Str.ofString "heappop") 295, Value.str (Str.ofString "heappop") 296, Value.str (Str.ofString "/claim/cut.py") 297, Value.int 49 0, Value.int 1 0, Value.int 0 0, Value.int 0 0, Value.int 3 0, Value.ref 83, Value.bool true, Value.int 181 0, Value.ref 84, Value.none, Value.ref 85, Value.ref 86, Value.ref 87, Value.int 301 0, Value.int 49 0, Value.str (Str.ofString "/claim/cut.py") 302] }) ::
  (nat_lit 89, fnCell 27 _ _ _ _ _ _ _ _ _ _ rfl (Str.ofString "heappop") (Str.ofString "cpy313.heapq") 293 88) ::
  (nat_lit 95, { cls := Value.type "code", data := Data.fields #[Value.str (Str.ofString "heapify") 304, Value.str (Str.ofString "heapify") 305, Value.str (Str.ofString "/claim/cut.py") 306, Value.int 57 0, Value.int 1 0, Value.int 0 0, Value.int 0 0, Value.int 3 0, Value.ref 90, Value.bool true, Value.int 181 0, Value.ref 91, Value.none, Value.ref 92, Value.ref 93, Value.ref 94, Value.int 310 0, Value.int 57 0, Value.str (Str.ofString "/claim/cut.py") 311] }) ::
  (nat_lit 96, fnCell 28 _ _ _ _ _ _ _ _ _ _ rfl (Str.ofString "heapify") (Str.ofString "cpy313.heapq") 293 95) ::
  (nat_lit 102, { cls := Value.type "code", data := Data.fields #[Value.str (Str.ofString "_siftdown") 313, Value.str (Str.ofString "_siftdown") 314, Value.str (Str.ofString "/claim/cut.py") 315, Value.int 61 0, Value.int 3 0, Value.int 0 0, Value.int 0 0, Value.int 3 0, Value.ref 97, Value.bool true, Value.int 181 0, Value.ref 98, Value.none, Value.ref 99, Value.ref 100, Value.ref 101, Value.int 322 0, Value.int 61 0, Value.str (Str.ofString "/claim/cut.py") 323] }) ::
  (nat_lit 103, fnCell 29 _ _ _ _ _ _ _ _ _ _ rfl (Str.ofString "_siftdown") (Str.ofString "cpy313.heapq") 293 102) ::
  (nat_lit 109, { cls := Value.type "code", data := Data.fields #[Value.str (Str.ofString "_siftup") 325, Value.str (Str.ofString "_siftup") 326, Value.str (Str.ofString "/claim/cut.py") 327, Value.int 72 0, Value.int 2 0, Value.int 0 0, Value.int 0 0, Value.int 3 0, Value.ref 104, Value.bool true, Value.int 181 0, Value.ref 105, Value.none, Value.ref 106, Value.ref 107, Value.ref 108, Value.int 335 0, Value.int 72 0, Value.str (Str.ofString "/claim/cut.py") 336] }) ::
  (nat_lit 110, fnCell 30 _ _ _ _ _ _ _ _ _ _ rfl (Str.ofString "_siftup") (Str.ofString "cpy313.heapq") 293 109) ::
  (nat_lit 182, { cls := Value.type "code", data := Data.fields #[Value.str (Str.ofString "fspath") 427, Value.str (Str.ofString "fspath") 428, Value.str (Str.ofString "/claim/cut.py") 429, Value.int 117 0, Value.int 1 0, Value.int 0 0, Value.int 0 0, Value.int 3 0, Value.ref 177, Value.bool true, Value.int 181 0, Value.ref 178, Value.none, Value.ref 179, Value.ref 180, Value.ref 181, Value.int 434 0, Value.int 117 0, Value.str (Str.ofString "/claim/cut.py") 435] }) ::
  (nat_lit 183, fnCell 39 _ _ _ _ _ _ _ _ _ _ rfl (Str.ofString "fspath") (Str.ofString "os") 425 182) ::
  (nat_lit 196, { cls := Value.type "code", data := Data.fields #[Value.str (Str.ofString "_get_sep") 452, Value.str (Str.ofString "_get_sep") 453, Value.str (Str.ofString "/claim/cut.py") 454, Value.int 146 0, Value.int 1 0, Value.int 0 0, Value.int 0 0, Value.int 3 0, Value.ref 191, Value.bool true, Value.int 181 0, Value.ref 192, Value.none, Value.ref 193, Value.ref 194, Value.ref 195, Value.int 456 0, Value.int 146 0, Value.str (Str.ofString "/claim/cut.py") 457] }) ::
  (nat_lit 197, fnCell 43 _ _ _ _ _ _ _ _ _ _ rfl (Str.ofString "_get_sep") (Str.ofString "cpy313.posixpath") 450 196) ::
  (nat_lit 203, { cls := Value.type "code", data := Data.fields #[Value.str (Str.ofString "join") 459, Value.str (Str.ofString "join") 460, Value.str (Str.ofString "/claim/cut.py") 461, Value.int 151 0, Value.int 1 0, Value.int 0 0, Value.int 0 0, Value.int 7 0, Value.ref 198, Value.bool true, Value.int 181 0, Value.ref 199, Value.none, Value.ref 200, Value.ref 201, Value.ref 202, Value.int 467 0, Value.int 151 0, Value.str (Str.ofString "/claim/cut.py") 468] }) ::
  (nat_lit 204, fnCell 44 _ _ _ _ _ _ _ _ _ _ rfl (Str.ofString "join") (Str.ofString "cpy313.posixpath") 450 203) ::
  (nat_lit 210, { cls := Value.type "code", data := Data.fields #[Value.str (Str.ofString "splitroot") 470, Value.str (Str.ofString "splitroot") 471, Value.str (Str.ofString "/claim/cut.py") 472, Value.int 168 0, Value.int 1 0, Value.int 0 0, Value.int 0 0, Value.int 3 0, Value.ref 205, Value.bool true, Value.int 181 0, Value.ref 206, Value.none, Value.ref 207, Value.ref 208, Value.ref 209, Value.int 476 0, Value.int 168 0, Value.str (Str.ofString "/claim/cut.py") 477] }) ::
  (nat_lit 211, fnCell 45 _ _ _ _ _ _ _ _ _ _ rfl (Str.ofString "splitroot") (Str.ofString "cpy313.posixpath") 450 210) ::
  (nat_lit 217, { cls := Value.type "code", data := Data.fields #[Value.str (Str.ofString "dirname") 479, Value.str (Str.ofString "dirname") 480, Value.str (Str.ofString "/claim/cut.py") 481, Value.int 182 0, Value.int 1 0, Value.int 0 0, Value.int 0 0, Value.int 3 0, Value.ref 212, Value.bool true, Value.int 181 0, Value.ref 213, Value.none, Value.ref 214, Value.ref 215, Value.ref 216, Value.int 486 0, Value.int 182 0, Value.str (Str.ofString "/claim/cut.py") 487] }) ::
  (nat_lit 218, fnCell 46 _ _ _ _ _ _ _ _ _ _ rfl (Str.ofString "dirname") (Str.ofString "cpy313.posixpath") 450 217) ::
  (nat_lit 224, { cls := Value.type "code", data := Data.fields #[Value.str (Str.ofString "normpath") 489, Value.str (Str.ofString "normpath") 490, Value.str (Str.ofString "/claim/cut.py") 491, Value.int 190 0, Value.int 1 0, Value.int 0 0, Value.int 0 0, Value.int 3 0, Value.ref 219, Value.bool true, Value.int 181 0, Value.ref 220, Value.none, Value.ref 221, Value.ref 222, Value.ref 223, Value.int 501 0, Value.int 190 0, Value.str (Str.ofString "/claim/cut.py") 502] }) ::
  (nat_lit 225, fnCell 47 _ _ _ _ _ _ _ _ _ _ rfl (Str.ofString "normpath") (Str.ofString "cpy313.posixpath") 450 224) ::
  (nat_lit 229, { cls := Value.type "code", data := Data.fields #[Value.str (Str.ofString "_law_numbers") 506, Value.str (Str.ofString "_law_numbers") 507, Value.str (Str.ofString "/claim/cut.py") 508, Value.int 216 0, Value.int 1 0, Value.int 0 0, Value.int 0 0, Value.int 3 0, Value.ref 226, Value.bool true, Value.int 181 0, Value.ref 227, Value.none, Value.none, Value.none, Value.ref 228, Value.int 509 0, Value.int 216 0, Value.str (Str.ofString "/claim/cut.py") 510] }) ::
  (nat_lit 230, fnCell 49 _ _ _ _ _ _ _ _ _ _ rfl (Str.ofString "_law_numbers") (Str.ofString "law_pd0156_01") 504 229) ::
  (nat_lit 236, { cls := Value.type "code", data := Data.fields #[Value.str (Str.ofString "_law_line") 512, Value.str (Str.ofString "_law_line") 513, Value.str (Str.ofString "/claim/cut.py") 514, Value.int 219 0, Value.int 1 0, Value.int 0 0, Value.int 0 0, Value.int 3 0, Value.ref 231, Value.bool true, Value.int 181 0, Value.ref 232, Value.none, Value.ref 233, Value.ref 234, Value.ref 235, Value.int 517 0, Value.int 219 0, Value.str (Str.ofString "/claim/cut.py") 518] }) ::
  (nat_lit 237, fnCell 50 _ _ _ _ _ _ _ _ _ _ rfl (Str.ofString "_law_line") (Str.ofString "law_pd0156_01") 504 236) ::
  (nat_lit 241, { cls := Value.type "code", data := Data.fields #[Value.str (Str.ofString "_law_text") 520, Value.str (Str.ofString "_law_text") 521, Value.str (Str.ofString "/claim/cut.py") 522, Value.int 225 0, Value.int 1 0, Value.int 0 0, Value.int 0 0, Value.int 3 0, Value.ref 238, Value.bool true, Value.int 181 0, Value.ref 239, Value.none, Value.none, Value.none, Value.ref 240, Value.int 523 0, Value.int 225 0, Value.str (Str.ofString "/claim/cut.py") 524] }) ::
  (nat_lit 242, fnCell 51 _ _ _ _ _ _ _ _ _ _ rfl (Str.ofString "_law_text") (Str.ofString "law_pd0156_01") 504 241) ::
  (nat_lit 246, { cls := Value.type "code", data := Data.fields #[Value.str (Str.ofString "_law_layers") 526, Value.str (Str.ofString "_law_layers") 527, Value.str (Str.ofString "/claim/cut.py") 528, Value.int 227 0, Value.int 1 0, Value.int 0 0, Value.int 0 0, Value.int 3 0, Value.ref 243, Value.bool true, Value.int 181 0, Value.ref 244, Value.none, Value.none, Value.none, Value.ref 245, Value.int 529 0, Value.int 227 0, Value.str (Str.ofString "/claim/cut.py") 530] }) ::
  (nat_lit 247, fnCell 52 _ _ _ _ _ _ _ _ _ _ rfl (Str.ofString "_law_layers") (Str.ofString "law_pd0156_01") 504 246) ::
  (nat_lit 253, { cls := Value.type "code", data := Data.fields #[Value.str (Str.ofString "_law_rows") 532, Value.str (Str.ofString "_law_rows") 533, Value.str (Str.ofString "/claim/cut.py") 534, Value.int 237 0, Value.int 2 0, Value.int 0 0, Value.int 0 0, Value.int 3 0, Value.ref 248, Value.bool true, Value.int 181 0, Value.ref 249, Value.none, Value.ref 250, Value.ref 251, Value.ref 252, Value.int 541 0, Value.int 237 0, Value.str (Str.ofString "/claim/cut.py") 542] }) ::
  (nat_lit 254, fnCell 53 _ _ _ _ _ _ _ _ _ _ rfl (Str.ofString "_law_rows") (Str.ofString "law_pd0156_01") 504 253) ::
  (nat_lit 258, { cls := Value.type "code", data := Data.fields #[Value.str (Str.ofString "_law_swept") 544, Value.str (Str.ofString "_law_swept") 545, Value.str (Str.ofString "/claim/cut.py") 546, Value.int 244 0, Value.int 1 0, Value.int 0 0, Value.int 0 0, Value.int 3 0, Value.ref 255, Value.bool true, Value.int 181 0, Value.ref 256, Value.none, Value.none, Value.none, Value.ref 257, Value.int 547 0, Value.int 244 0, Value.str (Str.ofString "/claim/cut.py") 548] }) ::
  (nat_lit 259, fnCell 54 _ _ _ _ _ _ _ _ _ _ rfl (Str.ofString "_law_swept") (Str.ofString "law_pd0156_01") 504 258) ::
  (nat_lit 263, { cls := Value.type "code", data := Data.fields #[Value.str (Str.ofString "_law_signs") 550, Value.str (Str.ofString "_law_signs") 551, Value.str (Str.ofString "/claim/cut.py") 552, Value.int 257 0, Value.int 1 0, Value.int 0 0, Value.int 0 0, Value.int 3 0, Value.ref 260, Value.bool true, Value.int 181 0, Value.ref 261, Value.none, Value.none, Value.none, Value.ref 262, Value.int 553 0, Value.int 257 0, Value.str (Str.ofString "/claim/cut.py") 554] }) ::
  (nat_lit 264, fnCell 55 _ _ _ _ _ _ _ _ _ _ rfl (Str.ofString "_law_signs") (Str.ofString "law_pd0156_01") 504 263) ::
  (nat_lit 268, { cls := Value.type "code", data := Data.fields #[Value.str (Str.ofString "_law_laid") 556, Value.str (Str.ofString "_law_laid") 557, Value.str (Str.ofString "/claim/cut.py") 558, Value.int 260 0, Value.int 1 0, Value.int 0 0, Value.int 0 0, Value.int 3 0, Value.ref 265, Value.bool true, Value.int 181 0, Value.ref 266, Value.none, Value.none, Value.none, Value.ref 267, Value.int 559 0, Value.int 260 0, Value.str (Str.ofString "/claim/cut.py") 560] }) ::
  (nat_lit 269, fnCell 56 _ _ _ _ _ _ _ _ _ _ rfl (Str.ofString "_law_laid") (Str.ofString "law_pd0156_01") 504 268) ::
  (nat_lit 275, { cls := Value.type "code", data := Data.fields #[Value.str (Str.ofString "law") 562, Value.str (Str.ofString "law") 563, Value.str (Str.ofString "/claim/cut.py") 564, Value.int 272 0, Value.int 1 0, Value.int 0 0, Value.int 0 0, Value.int 3 0, Value.ref 270, Value.bool true, Value.int 181 0, Value.ref 271, Value.none, Value.ref 272, Value.ref 273, Value.ref 274, Value.int 568 0, Value.int 272 0, Value.str (Str.ofString "/claim/cut.py") 569] }) ::
  (nat_lit 276, fnCell 57 _ _ _ _ _ _ _ _ _ _ rfl (Str.ofString "law") (Str.ofString "law_pd0156_01") 504 275) :: []
abbrev onlyDef (i : Nat) (st : Stmt) (_ : PySem.Challenge.pw_pd0156_01.main.body[i]? = some st) : Program := { PySem.Challenge.pw_pd0156_01 with main := { PySem.Challenge.pw_pd0156_01.main with body := [st] } }
end Mine
namespace Mine
open PySem PySem.W PyProof.Rows
noncomputable def hd.only : Program := onlyDef 57 _ rfl
theorem hd.left : LeftO PySem.Challenge.pw_pd0156_01 hd.only (Str.ofString "_wall" :: Str.ofString "S_IFMT" :: Str.ofString "S_IFDIR" :: Str.ofString "S_IFCHR" :: Str.ofString "S_IFBLK" :: Str.ofString "S_IFREG" :: Str.ofString "S_IFIFO" :: Str.ofString "S_IFLNK" :: Str.ofString "S_IFSOCK" :: Str.ofString "S_ISDIR" :: Str.ofString "S_ISCHR" :: Str.ofString "S_ISUID" :: Str.ofString "S_ISGID" :: Str.ofString "S_ISVTX" :: Str.ofString "S_IRUSR" :: Str.ofString "S_IWUSR" :: Str.ofString "S_IXUSR" :: Str.ofString "S_IRGRP" :: Str.ofString "S_IWGRP" :: Str.ofString "S_IXGRP" :: Str.ofString "S_IROTH" :: Str.ofString "S_IWOTH" :: Str.ofString "S_IXOTH" :: Str.ofString "_filemode_table" :: Str.ofString "filemode" :: Str.ofString "heappop" :: Str.ofString "heapify" :: Str.ofString "_siftdown" :: Str.ofString "_siftup" :: Str.ofString "_plain_name" :: Str.ofString "ABCMeta" :: Str.ofString "_ABCLike" :: Str.ofString "_abc_plain_meta" :: Str.ofString "fspath" :: Str.ofString "_check_arg_types" :: Str.ofString "_get_sep" :: Str.ofString "join" :: Str.ofString "splitroot" :: Str.ofString "dirname" :: Str.ofString "normpath" :: Str.ofString "_law_numbers" :: Str.ofString "_law_line" :: Str.ofString "_law_text" :: Str.ofString "_law_layers" :: Str.ofString "_law_rows" :: Str.ofString "_law_swept" :: Str.ofString "_law_signs" :: Str.ofString "_law_laid" :: []) (fun s => xlAt hd.only [] s && recOk (RowW.records (OpenRow.toRowW (OpenLaw.row PySem.Challenge.rw_pd0156_01))) s) (Hook.obs (kHook hd.heap_39 (nat_lit 2 :: nat_lit 3 :: nat_lit 27 :: nat_lit 28 :: nat_lit 34 :: nat_lit 35 :: nat_lit 41 :: nat_lit 42 :: nat_lit 43 :: nat_lit 44 :: nat_lit 45 :: nat_lit 46 :: nat_lit 47 :: nat_lit 48 :: nat_lit 49 :: nat_lit 50 :: nat_lit 51 :: nat_lit 52 :: nat_lit 53 :: nat_lit 54 :: nat_lit 55 :: nat_lit 56 :: nat_lit 57 :: nat_lit 58 :: nat_lit 59 :: nat_lit 60 :: nat_lit 61 :: nat_lit 62 :: nat_lit 63 :: nat_lit 64 :: nat_lit 65 :: nat_lit 66 :: nat_lit 67 :: nat_lit 68 :: nat_lit 69 :: nat_lit 70 :: nat_lit 71 :: nat_lit 72 :: nat_lit 73 :: nat_lit 74 :: nat_lit 75 :: nat_lit 81 :: nat_lit 82 :: nat_lit 88 :: nat_lit 89 :: nat_lit 95 :: nat_lit 96 :: nat_lit 102 :: nat_lit 103 :: nat_lit 109 :: nat_lit 110 :: nat_lit 182 :: nat_lit 183 :: nat_lit 196 :: nat_lit 197 :: nat_lit 203 :: nat_lit 204 :: nat_lit 210 :: nat_lit 211 :: nat_lit 217 :: nat_lit 218 :: nat_lit 224 :: nat_lit 225 :: nat_lit 229 :: nat_lit 230 :: nat_lit 236 :: nat_lit 237 :: nat_lit 241 :: nat_lit 242 :: nat_lit 246 :: nat_lit 247 :: nat_lit 253 :: nat_lit 254 :: nat_lit 258 :: nat_lit 259 :: nat_lit 263 :: nat_lit 264 :: nat_lit 268 :: nat_lit 269 :: nat_lit 275 :: nat_lit 276 :: []) (fun _ => by kernel_rfl))) (Hook.val (kHook hd.heap_39 (nat_lit 2 :: nat_lit 3 :: nat_lit 27 :: nat_lit 28 :: nat_lit 34 :: nat_lit 35 :: nat_lit 41 :: nat_lit 42 :: nat_lit 43 :: nat_lit 44 :: nat_lit 45 :: nat_lit 46 :: nat_lit 47 :: nat_lit 48 :: nat_lit 49 :: nat_lit 50 :: nat_lit 51 :: nat_lit 52 :: nat_lit 53 :: nat_lit 54 :: nat_lit 55 :: nat_lit 56 :: nat_lit 57 :: nat_lit 58 :: nat_lit 59 :: nat_lit 60 :: nat_lit 61 :: nat_lit 62 :: nat_lit 63 :: nat_lit 64 :: nat_lit 65 :: nat_lit 66 :: nat_lit 67 :: nat_lit 68 :: nat_lit 69 :: nat_lit 70 :: nat_lit 71 :: nat_lit 72 :: nat_lit 73 :: nat_lit 74 :: nat_lit 75 :: nat_lit 81 :: nat_lit 82 :: nat_lit 88 :: nat_lit 89 :: nat_lit 95 :: nat_lit 96 :: nat_lit 102 :: nat_lit 103 :: nat_lit 109 :: nat_lit 110 :: nat_lit 182 :: nat_lit 183 :: nat_lit 196 :: nat_lit 197 :: nat_lit 203 :: nat_lit 204 :: nat_lit 210 :: nat_lit 211 :: nat_lit 217 :: nat_lit 218 :: nat_lit 224 :: nat_lit 225 :: nat_lit 229 :: nat_lit 230 :: nat_lit 236 :: nat_lit 237 :: nat_lit 241 :: nat_lit 242 :: nat_lit 246 :: nat_lit 247 :: nat_lit 253 :: nat_lit 254 :: nat_lit 258 :: nat_lit 259 :: nat_lit 263 :: nat_lit 264 :: nat_lit 268 :: nat_lit 269 :: nat_lit 275 :: nat_lit 276 :: []) (fun _ => by kernel_rfl))) 3626 := fun w => by
  kernel_rfl
end Mine
namespace Mine
open PySem PySem.W PyProof.Rows
theorem hd.wellSaid : OpenLaw.wellSaid PySem.Challenge.rw_pd0156_01 = true := by
  kernel_rfl
end Mine
local macro_rules | `(tactic| size_fits) => `(tactic| (simp only [List.size_toArray, List.length_append, List.length_cons, List.length_nil, PySem.sizeLine_eq]; first | decide | exact Nat.le_trans (by assumption) (by decide) | omega))
namespace Mine
open PySem PySem.W PySem.Calls PyProof.Rows

theorem fillT : (PySem.Challenge.rw_pd0156_01 = PySem.Challenge.rw_pd0156_01) ∧ hd.heap_39 = hd.heap_39 := by
  k_fill
  exact ⟨rfl, rfl⟩

/-- what stays of the top -/
structure Base (w : World) (h : Heap) : Prop where
  X : (hd.heap_39 w.params).In h
  T : ∃ (p : Program) (loose : List Str) (mg mb : Str → Option Value), TopRead p loose mg mb h

theorem Base.keeps {w : World} {h h' : Heap} (B : Base w h) (k : h.StaysIn h') : Base w h' :=
  ⟨B.X.keeps k, by obtain ⟨p, l, mg, mb, T⟩ := B.T; exact ⟨p, l, mg, mb, T.keeps k⟩⟩

/-- all but the addresses of S stands as it stood -/
def Mod (S : List Addr) (h h' : Heap) : Prop := ∀ b o, b ∉ S → h.get? b = some o → h'.get? b = some o
theorem Mod.refl {S : List Addr} {h : Heap} : Mod S h h := fun _ _ _ e => e
theorem Mod.trans {S : List Addr} {h h' h'' : Heap} (a : Mod S h h') (b : Mod S h' h'') : Mod S h h'' := fun x o n e => b x o n (a x o n e)
theorem Mod.nil {h h' : Heap} (a : Mod [] h h') : ∀ b o, h.get? b = some o → h'.get? b = some o := fun b o e => a b o (by simp) e
theorem Mod.wide {S S' : List Addr} {h h' : Heap} (a : Mod S h h') (hs : ∀ x ∈ S, x ∈ S') : Mod S' h h' := fun x o n e => a x o (fun q => n (hs x q)) e
theorem Mod.stays {S : List Addr} {h₀ h h' : Heap} (a : Mod S h h') (st : h₀.StaysIn h) (hS : ∀ x ∈ S, h₀.get? x = none) : h₀.StaysIn h' := fun b o e => a b o (fun q => by rw [hS b q] at e; cases e) (st b o e)
theorem Fr.mod {g h h' : Heap} {L : Addr} {m : Str → Option Value} {S : List Addr} (F : Fr g L h m) (a : Mod S h h') (hL : L ∉ S) (hS : ∀ x ∈ S, g.get? x = none) : Fr g L h' m :=
  ⟨F.ns.at' fun o e => a L o hL e, fun b o e => a b o (fun q => by rw [hS b q] at e; cases e) (F.keep b o e), F.above⟩
theorem News.mod {g h h' : Heap} {L : Addr} {news : List (Addr × Obj)} {S : List Addr} (N : News g L h news) (a : Mod S h h') (hn : ∀ p ∈ news, p.1 ∉ S) : News g L h' news :=
  fun p hp => ⟨a p.1 p.2 (hn p hp) (N p hp).1, (N p hp).2⟩
theorem Fr.keeps' {g h h' : Heap} {L : Addr} {m : Str → Option Value} (F : Fr g L h m) (a : Mod [] h h') : Fr g L h' m := Fr.mod F a (by simp) (by simp)
theorem News.keeps' {g h h' : Heap} {L : Addr} {news : List (Addr × Obj)} (N : News g L h news) (a : Mod [] h h') : News g L h' news := News.mod N a (by simp)
theorem News.sub {g h : Heap} {L : Addr} {news news' : List (Addr × Obj)} (N : News g L h news) (hs : ∀ p ∈ news', p ∈ news) : News g L h news' := fun p hp => N p (hs p hp)

section
variable {prog : Program} {w : World} {A : Around} {R : Result → Shared → Prop} {s : Shared}

/-- a def of the text is entered: S are the objects that it may change -/
theorem enter {h₀ : Heap} {name qual : Str} {params : Arguments} {body : List Stmt} {scope : Scope} {dV kV doc pm cdv ct oc : Value} {an od : Option Addr} {osl : Array (Option Value)} {f : Addr} {args : Args} {binds : List (Str × Value)}
    (S : List (Addr × Obj)) (B : Base w h₀) (st : h₀.StaysIn s.heap) (hS : ∀ p ∈ S, s.heap.get? p.1 = some p.2 ∧ h₀.get? p.1 = none)
    (ho : (hd.heap_39 w.params).lookup f = some ⟨oc, od, .func (fnOf name qual params body scope dV kV doc pm an cdv ct), osl⟩) (hcd : codeIn (hd.heap_39 w.params) cdv qual = true) (hroom : A.depth < recursionLimit)
    (hbind : BindsTo s (fnOf name qual params body scope dV kV doc pm an cdv ct) args binds) (hloc : ∀ y ∈ binds, scope.names.lookup y.1 = some .local)
    (h : ∀ g L h₁ tk, Base w g → Fr g L h₁ (fun y => binds.reverse.lookup y) → News g L h₁ S →
      (∀ h', g.StaysIn h' → Mod (S.map (·.1)) s.heap h') → s.heap.objs.size = L → 
      (∀ p ∈ S, g.get? p.1 = none) → (∀ b o, b ∉ S.map (·.1) → s.heap.get? b = some o → g.get? b = some o) →
      wpAny (model prog w) (A.deeper (envOf qual scope L f cdv)) (execs body (envOf qual scope L f cdv))
        (fun fl s' => R (.ok (.ret (match fl with | .ret v => v | _ => .none))) s') (fun _ _ => False)
        ⟨h₁, s.gens, s.drawn, tk, s.os⟩)
    (hco : scope.isCoroutine = false) (hgen : scope.isGenerator = false) (hk : scope.kind = .function)
    (hcell : ∀ x ∈ scope.names, x.2 ≠ .cell) : codeAny (model prog w) A (.call (.ref f) args) R s := by
  have X : (hd.heap_39 w.params).In s.heap := B.X.keeps st
  obtain ⟨p, l, mg, mb, T⟩ := B.T
  refine codeAny_call_def (fd := fnOf name qual params body scope dV kV doc pm an cdv ct) (body := body) (binds := binds) hroom (X _ _ ho) rfl (T.nolimit.keeps st) (codeRec_of X hcd) rfl hbind hcell hloc (fun h₁ hns hk₁ => ?_) hco hgen hk
  have hg : ∀ b o, b ∉ S.map (·.1) → s.heap.get? b = some o → (hideAll s.heap (S.map (·.1))).get? b = some o := fun b o n e => hideAll_get _ e n
  have stg : h₀.StaysIn (hideAll s.heap (S.map (·.1))) := fun b o e => hg b o (fun q => by
    obtain ⟨p, hp, rfl⟩ := List.mem_map.mp q
    rw [(hS p hp).2] at e; cases e) (st b o e)
  refine wpAny_mono (h (hideAll s.heap (S.map (·.1))) s.heap.objs.size h₁ _ (B.keeps stg) ⟨hns, fun b o e => hk₁ b o (of_hideAll _ e), Nat.le_of_eq (hideAll_size _ _)⟩
    (fun p hp => ⟨hk₁ _ _ (hS p hp).1, Nat.ne_of_lt (Heap.lt_size (hS p hp).1), hideAll_none _ (List.mem_map_of_mem hp)⟩)
    (fun h' k b o n e => k b o (hg b o n e)) rfl (fun p hp => hideAll_none _ (List.mem_map_of_mem hp)) hg) (fun _ _ x => x) (fun _ _ x => x.elim)
end
end Mine
namespace Mine
open PySem PySem.W PySem.Calls PyProof.Rows

def NoE : Value → Shared → Prop := fun _ _ => False

section
variable {prog : Program} {w : World} {A : Around} {s : Shared} {env : Env} {Q : Flow → Shared → Prop} {body : List Stmt}

def WEnd (I : Nat → Shared → Prop) (n : Nat) (s : Shared) : Prop := ∃ m, m < n ∧ I m s
def WPost (I : Nat → Shared → Prop) (n : Nat) (Q : Flow → Shared → Prop) (f : Flow) (s : Shared) : Prop :=
  match f with
  | .next | .cont => WEnd I n s
  | .brk => Q .next s
  | .ret v => Q (.ret v) s
theorem while_ {test : Expr} {pos : Pos} (I : Nat → Shared → Prop)
    (turn : ∀ n s, I n s → wpAny (model prog w) A (isTrue test env (eval test env)) (fun b s₁ =>
      if b = true then wpAny (model prog w) A (execs body env) (WPost I n Q) (fun _ _ => False) s₁ else Q .next s₁) (fun _ _ => False) s)
    (n : Nat) (h : I n s) : wpAny (model prog w) A (exec (.While test body [] pos) env) Q (fun _ _ => False) s := by
  refine wpAny_While (codeAny_whileLoop I (fun n s hI => ?_) n h)
  refine wpAny_mono (turn n s hI) (fun b s₁ h₁ => ?_) (fun _ _ x => x.elim)
  cases b with
  | true =>
    simp only [if_true] at h₁ ⊢
    refine wpAny_mono h₁ (fun f s₂ h₂ => ?_) (fun _ _ x => x.elim)
    cases f <;> exact h₂
  | false => 
    simp only [Bool.false_eq_true, if_false] at h₁ ⊢
    exact wpAny_execs_nil h₁

def TEnd (g : Heap) (L I : Addr) (oI : Obj) (keep : List (Addr × Obj)) (J : (Str → Option Value) → List (Addr × Obj) → Prop) (s : Shared) (s' : Shared) : Prop :=
  ∃ h' tk m' nx' news', s' = ⟨h', s.gens, s.drawn, tk, s.os⟩ ∧ Fr g L h' m' ∧ News g L h' news' ∧ (∀ p ∈ nx', p ∈ news') ∧ (∀ p ∈ keep, p ∈ news') ∧ (I, oI) ∈ news' ∧ (∀ p ∈ nx', p.1 ≠ I) ∧ J m' nx'
def Turn (g : Heap) (L I : Addr) (oI : Obj) (keep : List (Addr × Obj)) (J : (Str → Option Value) → List (Addr × Obj) → Prop) (s : Shared) (Q : Flow → Shared → Prop) (f : Flow) (s' : Shared) : Prop :=
  match f with
  | .ret v => Q (.ret v) s'
  | .brk => Q .next s'
  | _ => TEnd g L I oI keep J s s'
theorem TEnd.intro {g h' : Heap} {L I : Addr} {oI : Obj} {keep : List (Addr × Obj)} {J : (Str → Option Value) → List (Addr × Obj) → Prop} {s : Shared} {tk : Nat} {m' : Str → Option Value} {news' : List (Addr × Obj)}
    (nx' : List (Addr × Obj)) (F : Fr g L h' m') (N : News g L h' news') (h1 : ∀ p ∈ nx', p ∈ news') (h2 : ∀ p ∈ keep, p ∈ news') (h3 : (I, oI) ∈ news') (h4 : ∀ p ∈ nx', p.1 ≠ I) (hJ : J m' nx') : TEnd g L I oI keep J s ⟨h', s.gens, s.drawn, tk, s.os⟩ :=
  ⟨h', tk, m', nx', news', rfl, F, N, h1, h2, h3, h4, hJ⟩

theorem loopAt {g : Heap} {x : Str} {I : Addr} {fp : List Addr} {n : Nat} {P : Nat → Value → Prop} {St : Nat → Heap → Prop} {m₀ : Str → Option Value} {nx₀ keep : List (Addr × Obj)}
    (W : Walks prog w A I fp [I] n P St) (hst : St 0 s.heap) (hI : g.get? I = none) (hLf : env.locals ∉ fp)
    (hpers : ∀ b ∈ fp, b = I ∨ (∃ o, g.get? b = some o) ∨ ∃ o, (b, o) ∈ keep)
    (F : Fr g env.locals s.heap m₀) (N : News g env.locals s.heap (nx₀ ++ keep)) (hne : ∀ p ∈ nx₀ ++ keep, p.1 ≠ I)
    (hIo : ∀ i h, St i h → ∃ o, h.get? I = some o) (hIf : I ∈ fp)
    (J : Nat → (Str → Option Value) → List (Addr × Obj) → Prop) (hJ : J 0 m₀ nx₀)
    (turn : ∀ i v m₁ nx h tk oI, i < n → P i v → J i m₁ nx → (∀ p ∈ nx ++ keep, p.1 ≠ I) → Fr g env.locals h (fun y => if y = x then some v else m₁ y) → News g env.locals h (nx ++ (keep ++ [(I, oI)])) →
      wpAny (model prog w) A (execs body env) (Turn g env.locals I oI keep (J (i + 1)) s Q) (fun _ _ => False) ⟨h, s.gens, s.drawn, tk, s.os⟩)
    (done : ∀ m' nx h tk, J n m' nx → Fr g env.locals h m' → News g env.locals h (nx ++ keep) → (∀ p ∈ nx ++ keep, p.1 ≠ I) → Q .next ⟨h, s.gens, s.drawn, tk, s.os⟩) :
    LoopAtV prog w A g env x body Q (fun _ _ => False) (.ref I) s := by
  let J' : Nat → (Str → Option Value) → List (Addr × Obj) → Prop := fun i m news => ∃ nx, news = nx ++ keep ∧ J i m nx
  refine ⟨I, fp, [I], n, P, St, m₀, nx₀ ++ keep, J', rfl, W, hLf, ?_, ?_, hst, F, N, ⟨nx₀, rfl, hJ⟩, ?_, ?_⟩
  · intro b hb; rw [List.mem_singleton.mp hb]; exact hI
  · intro p hp q; exact hne p hp (List.mem_singleton.mp q)
  · rintro i v m₁ news₁ s₁ own ⟨h, tk, rfl⟩ hin hP ⟨nx, rfl, hJ⟩ hoff hown hlive hmem hst' F₁ N₁
    have hne' : ∀ p ∈ nx ++ keep, p.1 ≠ I := fun p hp q => hoff p hp (by rw [q]; exact List.mem_singleton.mpr rfl)
    obtain ⟨oI, hoI⟩ := hIo _ _ hst'
    have hIown : (I, oI) ∈ own := hmem I hIf hI oI hoI
    have N₂ : News g env.locals h (nx ++ (keep ++ [(I, oI)])) := fun p hp => by
      rcases List.mem_append.mp hp with q | q
      · exact N₁ p (List.mem_append_right _ (List.mem_append_left _ q))
      · rcases List.mem_append.mp q with q | q
        · exact N₁ p (List.mem_append_right _ (List.mem_append_right _ q))
        · rw [List.mem_singleton.mp q]; exact N₁ _ (List.mem_append_left _ hIown)
    refine wpAny_mono (turn i v m₁ nx h tk oI hin hP hJ hne' F₁ N₂) (fun f s₂ p => ?_) fun _ _ e => e
    have fin : TEnd g env.locals I oI keep (J (i + 1)) s s₂ → LoopStepU g env.locals [I] own (J' (i + 1)) { s with heap := h, toks := tk } .next s₂ := by
      rintro ⟨h', tk', m', nx', news', e, F', N', hn1, hn2, hn3, hn4, hj⟩
      refine ⟨rfl, h', tk', m', nx' ++ keep, e, F', fun p hp => ?_, fun p hp q => ?_, nx', rfl, hj⟩
      · rcases List.mem_append.mp hp with q | q
        · -- an own object: I itself, or one that stands
          have hpf := hown p q
          rcases hpers p.1 hpf with e1 | ⟨o, e1⟩ | ⟨o, e1⟩
          · have : p = (I, oI) := by
              have e2 := hlive p q
              rw [e1, hoI] at e2
              cases p; simp only [Option.some.injEq] at e1 e2; subst e1; subst e2; rfl
            rw [this]; exact N' _ hn3
          · have e2 := (N₁ p (List.mem_append_left _ q)).2.2
            rw [e1] at e2; cases e2
          · have e3 := (N₁ _ (List.mem_append_right _ (List.mem_append_right _ e1))).1
            have e4 := (N₁ p (List.mem_append_left _ q)).1
            have : p = (p.1, o) := by
              rw [e3] at e4; cases p; simp only [Option.some.injEq] at e4; subst e4; rfl
            rw [this]; exact N' _ (hn2 _ e1)
        · rcases List.mem_append.mp q with q | q
          · exact N' _ (hn1 _ q)
          · exact N' _ (hn2 _ q)
      · have q' := List.mem_singleton.mp q
        rcases List.mem_append.mp hp with r | r
        · exact hn4 p r q'
        · exact hne' p (List.mem_append_right _ r) q'
    cases f with
    | ret v => exact .ret p
    | brk => exact .brk p
    | next => exact .next (fin p)
    | cont => exact .cont (fin p)
  · rintro h' tk m' news' F' N' hoff ⟨nx, rfl, hJ⟩
    exact done m' nx h' tk hJ F' N' (fun p hp q => hoff p hp (by rw [q]; exact List.mem_singleton.mpr rfl))

theorem freshI {g h : Heap} {L : Addr} {m : Str → Option Value} (F : Fr g L h m) : g.get? h.objs.size = none := by
  cases q : g.get? h.objs.size with
  | none => rfl
  | some o => exact absurd (Heap.lt_size (F.keep _ _ q)) (Nat.lt_irrefl _)
theorem News.push0 {g h : Heap} {L : Addr} {news : List (Addr × Obj)} (N : News g L h news) (o : Obj) : News g L (h.push o) news := fun p hp => ⟨Heap.get?_push_of_some _ (N p hp).1, (N p hp).2⟩
theorem News.neI {g h : Heap} {L : Addr} {news : List (Addr × Obj)} (N : News g L h news) : ∀ p ∈ news, p.1 ≠ h.objs.size := fun p hp => Nat.ne_of_lt (Heap.lt_size (N p hp).1)
theorem notL {g h : Heap} {L l : Addr} {m : Str → Option Value} {nx keep : List (Addr × Obj)} (F : Fr g L h m) (N : News g L h (nx ++ keep)) (hp : (∃ o, g.get? l = some o) ∨ ∃ o, (l, o) ∈ keep) : L ≠ l := by
  rcases hp with ⟨o, e⟩ | ⟨o, e⟩
  · exact fun q => absurd (Heap.lt_size e) (by rw [← q]; exact Nat.not_lt.mpr F.above)
  · exact fun q => (N _ (List.mem_append_right _ e)).2.1 q.symm

theorem for_list {g : Heap} {x : Str} {l : Addr} {vs : List Value} {m₀ : Str → Option Value} {nx₀ keep : List (Addr × Obj)} (hh : A.handled = none)
    (hl : s.heap.IsList l vs.toArray) (hp : (∃ o, g.get? l = some o) ∨ ∃ o, (l, o) ∈ keep)
    (F : Fr g env.locals s.heap m₀) (N : News g env.locals s.heap (nx₀ ++ keep))
    (J : Nat → (Str → Option Value) → List (Addr × Obj) → Prop) (hJ : J 0 m₀ nx₀)
    (turn : ∀ I i v m₁ nx h tk oI, vs[i]? = some v → J i m₁ nx → (∀ p ∈ nx ++ keep, p.1 ≠ I) → Fr g env.locals h (fun y => if y = x then some v else m₁ y) → News g env.locals h (nx ++ (keep ++ [(I, oI)])) →
      wpAny (model prog w) A (execs body env) (Turn g env.locals I oI keep (J (i + 1)) s Q) (fun _ _ => False) ⟨h, s.gens, s.drawn, tk, s.os⟩)
    (done : ∀ m' nx h tk, J vs.length m' nx → Fr g env.locals h m' → News g env.locals h (nx ++ keep) → Q .next ⟨h, s.gens, s.drawn, tk, s.os⟩) :
    wpAny (model prog w) A (pyIter (.ref l)) (fun it s₂ => LoopAtV prog w A g env x body Q (fun _ _ => False) it s₂) (fun _ _ => False) s := by
  have hlt : l < s.heap.objs.size := by obtain ⟨o, ho, _⟩ := id hl; exact Heap.lt_size ho
  refine wpAny_pyIter_list hl ?_
  have Wk := Walks.list (prog := prog) (w := w) hh s.heap.objs.size l (Nat.ne_of_lt hlt) vs.toArray
  refine loopAt (nx₀ := nx₀) (keep := keep) Wk ⟨⟨_, Heap.get?_push_size _ rfl, rfl, rfl⟩, hl.at fun o e => Heap.get?_push_of_some _ e⟩ (freshI F) ?_ ?_ (F.push _) (News.push0 N _) (News.neI N) ?_ (List.mem_cons_self ..) J hJ ?_ ?_
  · intro q
    rcases List.mem_cons.mp q with e | e
    · exact absurd F.ns.lt (by rw [e]; exact Nat.lt_irrefl _)
    · exact notL F N hp (List.mem_singleton.mp e)
  · intro b hb
    rcases List.mem_cons.mp hb with e | e
    · exact .inl e
    · rw [List.mem_singleton.mp e]; exact .inr hp
  · rintro i h ⟨⟨o, ho, _⟩, _⟩; exact ⟨o, ho⟩
  · intro i v m₁ nx h tk oI _ hv hJ hne F₁ N₁
    exact turn _ i v m₁ nx h tk oI (by simpa using hv) hJ hne F₁ N₁
  · intro m' nx h tk hj F₁ N₁ _
    exact done m' nx h tk (by simpa using hj) F₁ N₁

theorem for_tuple {g : Heap} {x : Str} {l : Addr} {vs : List Value} {m₀ : Str → Option Value} {nx₀ keep : List (Addr × Obj)} (hh : A.handled = none)
    (hl : s.heap.IsTuple l vs.toArray) (hp : (∃ o, g.get? l = some o) ∨ ∃ o, (l, o) ∈ keep)
    (F : Fr g env.locals s.heap m₀) (N : News g env.locals s.heap (nx₀ ++ keep))
    (J : Nat → (Str → Option Value) → List (Addr × Obj) → Prop) (hJ : J 0 m₀ nx₀)
    (turn : ∀ I i v m₁ nx h tk oI, vs[i]? = some v → J i m₁ nx → (∀ p ∈ nx ++ keep, p.1 ≠ I) → Fr g env.locals h (fun y => if y = x then some v else m₁ y) → News g env.locals h (nx ++ (keep ++ [(I, oI)])) →
      wpAny (model prog w) A (execs body env) (Turn g env.locals I oI keep (J (i + 1)) s Q) (fun _ _ => False) ⟨h, s.gens, s.drawn, tk, s.os⟩)
    (done : ∀ m' nx h tk, J vs.length m' nx → Fr g env.locals h m' → News g env.locals h (nx ++ keep) → Q .next ⟨h, s.gens, s.drawn, tk, s.os⟩) :
    wpAny (model prog w) A (pyIter (.ref l)) (fun it s₂ => LoopAtV prog w A g env x body Q (fun _ _ => False) it s₂) (fun _ _ => False) s := by
  have hlt : l < s.heap.objs.size := by obtain ⟨o, ho, _⟩ := id hl; exact Heap.lt_size ho
  refine wpAny_pyIter_tuple hl ?_
  have Wk := Walks.tuple (prog := prog) (w := w) hh s.heap.objs.size l (Nat.ne_of_lt hlt) vs.toArray
  refine loopAt (nx₀ := nx₀) (keep := keep) Wk ⟨⟨_, Heap.get?_push_size _ rfl, rfl, rfl⟩, hl.at fun o e => Heap.get?_push_of_some _ e⟩ (freshI F) ?_ ?_ (F.push _) (News.push0 N _) (News.neI N) ?_ (List.mem_cons_self ..) J hJ ?_ ?_
  · intro q
    rcases List.mem_cons.mp q with e | e
    · exact absurd F.ns.lt (by rw [e]; exact Nat.lt_irrefl _)
    · exact notL F N hp (List.mem_singleton.mp e)
  · intro b hb
    rcases List.mem_cons.mp hb with e | e
    · exact .inl e
    · rw [List.mem_singleton.mp e]; exact .inr hp
  · rintro i h ⟨⟨o, ho, _⟩, _⟩; exact ⟨o, ho⟩
  · intro i v m₁ nx h tk oI _ hv hJ hne F₁ N₁
    exact turn _ i v m₁ nx h tk oI (by simpa using hv) hJ hne F₁ N₁
  · intro m' nx h tk hj F₁ N₁ _
    exact done m' nx h tk (by simpa using hj) F₁ N₁

theorem for_dict {K : Type} [DecidableEq K] {knd : KeyKind prog w K} {g : Heap} {x : Str} {l : Addr} {kvs : List (K × Value)} {ep : Nat} {m₀ : Str → Option Value} {nx₀ keep : List (Addr × Obj)} (hh : A.handled = none)
    (hl : s.heap.DictAt knd l kvs ep) (hsm : (l == sysModules) = false) (hp : (∃ o, g.get? l = some o) ∨ ∃ o, (l, o) ∈ keep)
    (F : Fr g env.locals s.heap m₀) (N : News g env.locals s.heap (nx₀ ++ keep))
    (J : Nat → (Str → Option Value) → List (Addr × Obj) → Prop) (hJ : J 0 m₀ nx₀)
    (turn : ∀ I i k y v m₁ nx h tk oI, kvs[i]? = some (k, y) → knd.is k v = true → J i m₁ nx → (∀ p ∈ nx ++ keep, p.1 ≠ I) → Fr g env.locals h (fun y => if y = x then some v else m₁ y) → News g env.locals h (nx ++ (keep ++ [(I, oI)])) →
      wpAny (model prog w) A (execs body env) (Turn g env.locals I oI keep (J (i + 1)) s Q) (fun _ _ => False) ⟨h, s.gens, s.drawn, tk, s.os⟩)
    (done : ∀ m' nx h tk, J kvs.length m' nx → Fr g env.locals h m' → News g env.locals h (nx ++ keep) → Q .next ⟨h, s.gens, s.drawn, tk, s.os⟩) :
    wpAny (model prog w) A (pyIter (.ref l)) (fun it s₂ => LoopAtV prog w A g env x body Q (fun _ _ => False) it s₂) (fun _ _ => False) s := by
  have hlt : l < s.heap.objs.size := by obtain ⟨o, es, ho, _⟩ := id hl; exact Heap.lt_size ho
  refine wpAny_pyIter_dict hsm hl ?_
  have Wk := Walks.dictKeys (prog := prog) (w := w) (knd := knd) hh s.heap.objs.size l (Nat.ne_of_lt hlt) kvs ep
  refine loopAt (nx₀ := nx₀) (keep := keep) Wk ⟨⟨_, Heap.get?_push_size _ rfl, rfl, rfl⟩, hl.at' fun o e => Heap.get?_push_of_some _ e⟩ (freshI F) ?_ ?_ (F.push _) (News.push0 N _) (News.neI N) ?_ (List.mem_cons_self ..) J hJ ?_ ?_
  · intro q
    rcases List.mem_cons.mp q with e | e
    · exact absurd F.ns.lt (by rw [e]; exact Nat.lt_irrefl _)
    · exact notL F N hp (List.mem_singleton.mp e)
  · intro b hb
    rcases List.mem_cons.mp hb with e | e
    · exact .inl e
    · rw [List.mem_singleton.mp e]; exact .inr hp
  · rintro i h ⟨⟨o, ho, _⟩, _⟩; exact ⟨o, ho⟩
  · rintro i v m₁ nx h tk oI _ ⟨k, y, hk, hv⟩ hJ hne F₁ N₁
    exact turn _ i k y v m₁ nx h tk oI hk hv hJ hne F₁ N₁
  · intro m' nx h tk hj F₁ N₁ _
    exact done m' nx h tk hj F₁ N₁

theorem for_range {g : Heap} {x : Str} {r : Addr} {a b c : Int} {t u v' : Tok} {n : Nat} {m₀ : Str → Option Value} {nx₀ keep : List (Addr × Obj)} (hh : A.handled = none)
    (hr : IsRange s.heap r a b c t u v') (hsmall : Builtin.Range.small a b c = true) (hsz : Builtin.Range.rangeSize a b c = (n : Int))
    (F : Fr g env.locals s.heap m₀) (N : News g env.locals s.heap (nx₀ ++ keep))
    (J : Nat → (Str → Option Value) → List (Addr × Obj) → Prop) (hJ : J 0 m₀ nx₀)
    (turn : ∀ I i tv m₁ nx h tk oI, i < n → J i m₁ nx → (∀ p ∈ nx ++ keep, p.1 ≠ I) → Fr g env.locals h (fun y => if y = x then some (.int (a + (i : Nat) * c) tv) else m₁ y) → News g env.locals h (nx ++ (keep ++ [(I, oI)])) →
      wpAny (model prog w) A (execs body env) (Turn g env.locals I oI keep (J (i + 1)) s Q) (fun _ _ => False) ⟨h, s.gens, s.drawn, tk, s.os⟩)
    (done : ∀ m' nx h tk, J n m' nx → Fr g env.locals h m' → News g env.locals h (nx ++ keep) → Q .next ⟨h, s.gens, s.drawn, tk, s.os⟩) :
    wpAny (model prog w) A (pyIter (.ref r)) (fun it s₂ => LoopAtV prog w A g env x body Q (fun _ _ => False) it s₂) (fun _ _ => False) s := by
  refine wpAny_pyIter_range hr hsmall ?_
  have Wk := Walks.range (prog := prog) (w := w) hh s.heap.objs.size a c n
  refine loopAt (nx₀ := nx₀) (keep := keep) Wk (by show IsRangeIter _ _ _ _ _; rw [hsz]; simpa using Heap.get?_push_size _ rfl) (freshI F) ?_ ?_ (F.push _) (News.push0 N _) (News.neI N) ?_ (List.mem_cons_self ..) J hJ ?_ ?_
  · intro q
    exact absurd F.ns.lt (by rw [List.mem_singleton.mp q]; exact Nat.lt_irrefl _)
  · intro b hb
    exact .inl (List.mem_singleton.mp hb)
  · intro i h e; exact ⟨_, e⟩
  · rintro i v m₁ nx h tk oI hi ⟨t, rfl⟩ hJ hne F₁ N₁
    exact turn _ i t m₁ nx h tk oI hi hJ hne F₁ N₁
  · intro m' nx h tk hj F₁ N₁ _
    exact done m' nx h tk hj F₁ N₁
end
end Mine
namespace Mine
open PySem PySem.W PySem.Calls PyProof.Rows
def over : List (Str × Value) → (Str → Option Value) → Str → Option Value
  | [], m => m
  | (x, v) :: r, m => fun y => if y = x then some v else over r m y
def Has (m : Str → Option Value) : List (Str × Value) → Prop
  | [] => True
  | (x, v) :: r => m x = some v ∧ Has m r
theorem over_eq {m : Str → Option Value} : ∀ {ps : List (Str × Value)}, Has m ps → over ps m = m
  | [], _ => rfl
  | (x, v) :: r, ⟨h1, h2⟩ => by
    funext y
    show (if y = x then some v else over r m y) = m y
    by_cases e : y = x
    · rw [if_pos e, e, h1]
    · rw [if_neg e, over_eq h2]
theorem Fr.over {g h : Heap} {L : Addr} {m : Str → Option Value} {ps : List (Str × Value)} (F : Fr g L h m) (hp : Has m ps) : Fr g L h (over ps m) := by rw [over_eq hp]; exact F
end Mine
namespace Mine
open PySem PySem.W PySem.Calls PyProof.Rows
section
variable {g h h' : Heap} {L : Addr} {m : Str → Option Value} {news : List (Addr × Obj)} {a : Addr} {o : Obj}
theorem ne_fresh (N : News g L h news) (ha : h.get? a = none) : ∀ p ∈ news, p.1 ≠ a := fun p hp q => by
  have := (N p hp).1; rw [q, ha] at this; cases this
theorem base_fresh (F : Fr g L h m) (ha : h.get? a = none) : g.get? a = none := by
  cases q : g.get? a with
  | none => rfl
  | some o => rw [F.keep a o q] at ha; cases ha
theorem L_fresh (F : Fr g L h m) (ha : h.get? a = none) : a ≠ L := fun q => by
  obtain ⟨oL, _, _, hL, _⟩ := F.ns
  rw [← q, ha] at hL; cases hL
theorem News.born (F : Fr g L h m) (N : News g L h news) (M : Mod [] h h') (ha : h.get? a = none) (ho : h'.get? a = some o) : News g L h' ((a, o) :: news) := by
  intro p hp
  rcases List.mem_cons.mp hp with rfl | hp
  · exact ⟨ho, L_fresh F ha, base_fresh F ha⟩
  · exact News.keeps' N M p hp
/-- an address of the ledger that the entry did not know -/
theorem born_here {s : Heap} {S : List Addr} (hg : ∀ b o, b ∉ S → s.get? b = some o → g.get? b = some o) (N : News g L h news) (hm : (a, o) ∈ news) (hS : a ∉ S) : s.get? a = none := by
  cases q : s.get? a with
  | none => rfl
  | some o' => have := hg a o' hS q; rw [(N _ hm).2.2] at this; cases this
end
end Mine
namespace Mine
section
variable {α : Type} {le : α → α → Prop}
def Child (i j : Nat) : Prop := j = 2 * i + 1 ∨ j = 2 * i + 2
def upd (f : Nat → α) (p : Nat) (x : α) : Nat → α := fun i => if i = p then x else f i
theorem upd_self (f : Nat → α) (p : Nat) (x : α) : upd f p x p = x := if_pos rfl
theorem upd_ne (f : Nat → α) {p i : Nat} (x : α) (h : i ≠ p) : upd f p x i = f i := if_neg h
def HeapAt (le : α → α → Prop) (n st : Nat) (f : Nat → α) : Prop := ∀ i j, st ≤ i → j < n → Child i j → le (f i) (f j)
structure Hole (le : α → α → Prop) (n st p : Nat) (f : Nat → α) : Prop where
  edge : ∀ i j, st ≤ i → j < n → Child i j → i ≠ p → j ≠ p → le (f i) (f j)
  gp : ∀ q j, st ≤ q → j < n → Child q p → Child p j → le (f q) (f j)
theorem hole_start {n st : Nat} {f : Nat → α} (h : HeapAt le n (st + 1) f) : Hole le n st st f where
  edge := fun i j a b c d _ => h i j (by (first | decide | with_reducible assumption | with_reducible exact Nat.le_trans (by assumption) (by decide) | with_reducible exact Nat.lt_of_lt_of_le (Nat.add_lt_add_right (by assumption) _) (by decide) | with_reducible exact Int.natCast_nonneg _ | omega)) b c
  gp := fun q j a _ c _ => by unfold Child at c; (first | decide | with_reducible assumption | with_reducible exact Nat.le_trans (by assumption) (by decide) | with_reducible exact Nat.lt_of_lt_of_le (Nat.add_lt_add_right (by assumption) _) (by decide) | with_reducible exact Int.natCast_nonneg _ | omega)
theorem hole_down {n st p c : Nat} {f : Nat → α} (h : Hole le n st p f) (hp : st ≤ p) (hc : Child p c) (hcn : c < n) (ho : ∀ o, o < n → Child p o → o ≠ c → le (f c) (f o)) : Hole le n st c (upd f p (f c)) where
  edge := fun i j a b k i1 j1 => by
    by_cases hi : i = p
    · subst hi
      have hj : j ≠ i := by unfold Child at k; (first | decide | with_reducible assumption | with_reducible exact Nat.le_trans (by assumption) (by decide) | with_reducible exact Nat.lt_of_lt_of_le (Nat.add_lt_add_right (by assumption) _) (by decide) | with_reducible exact Int.natCast_nonneg _ | omega)
      rw [upd_self, upd_ne _ _ hj]
      exact ho j b k j1
    · rw [upd_ne _ _ hi]
      by_cases hj : j = p
      · subst hj
        rw [upd_self]
        exact h.gp i c a hcn k hc
      · rw [upd_ne _ _ hj]
        exact h.edge i j a b k hi hj
  gp := fun q j a b k k2 => by
    have hq : q = p := by unfold Child at k hc; (first | decide | with_reducible assumption | with_reducible exact Nat.le_trans (by assumption) (by decide) | with_reducible exact Nat.lt_of_lt_of_le (Nat.add_lt_add_right (by assumption) _) (by decide) | with_reducible exact Int.natCast_nonneg _ | omega)
    subst hq
    have hcq : c ≠ q := by unfold Child at hc; (first | decide | with_reducible assumption | with_reducible exact Nat.le_trans (by assumption) (by decide) | with_reducible exact Nat.lt_of_lt_of_le (Nat.add_lt_add_right (by assumption) _) (by decide) | with_reducible exact Int.natCast_nonneg _ | omega)
    have hj : j ≠ q := by unfold Child at hc k2; (first | decide | with_reducible assumption | with_reducible exact Nat.le_trans (by assumption) (by decide) | with_reducible exact Nat.lt_of_lt_of_le (Nat.add_lt_add_right (by assumption) _) (by decide) | with_reducible exact Int.natCast_nonneg _ | omega)
    rw [upd_self, upd_ne _ _ hj]
    exact h.edge c j (by unfold Child at hc; (first | decide | with_reducible assumption | with_reducible exact Nat.le_trans (by assumption) (by decide) | with_reducible exact Nat.lt_of_lt_of_le (Nat.add_lt_add_right (by assumption) _) (by decide) | with_reducible exact Int.natCast_nonneg _ | omega)) b k2 hcq hj
theorem hole_up {n st p q : Nat} {f : Nat → α} {x : α} (tr : ∀ a b c, le a b → le b c → le a c) (h : Hole le n st p f) (hx : ∀ j, j < n → Child p j → le x (f j)) (hq : Child q p) (hs : st ≤ q) (hpn : p < n) (hl : le x (f q)) :
    Hole le n st q (upd f p (f q)) ∧ ∀ j, j < n → Child q j → le x (upd f p (f q) j) := by
  refine ⟨⟨fun i j a b k i1 j1 => ?_, fun q' j a b k k2 => ?_⟩, fun j b k => ?_⟩
  · by_cases hi : i = p
    · subst hi
      have hj : j ≠ i := by unfold Child at k; (first | decide | with_reducible assumption | with_reducible exact Nat.le_trans (by assumption) (by decide) | with_reducible exact Nat.lt_of_lt_of_le (Nat.add_lt_add_right (by assumption) _) (by decide) | with_reducible exact Int.natCast_nonneg _ | omega)
      rw [upd_self, upd_ne _ _ hj]
      exact h.gp q j hs b hq k
    · by_cases hj : j = p
      · subst hj
        exact absurd (by unfold Child at k hq; (first | decide | with_reducible assumption | with_reducible exact Nat.le_trans (by assumption) (by decide) | with_reducible exact Nat.lt_of_lt_of_le (Nat.add_lt_add_right (by assumption) _) (by decide) | with_reducible exact Int.natCast_nonneg _ | omega)) i1
      · rw [upd_ne _ _ hi, upd_ne _ _ hj]
        exact h.edge i j a b k hi hj
  · have h1 : q' ≠ p := by unfold Child at k hq; (first | decide | with_reducible assumption | with_reducible exact Nat.le_trans (by assumption) (by decide) | with_reducible exact Nat.lt_of_lt_of_le (Nat.add_lt_add_right (by assumption) _) (by decide) | with_reducible exact Int.natCast_nonneg _ | omega)
    have h2 : q ≠ p := by unfold Child at hq; (first | decide | with_reducible assumption | with_reducible exact Nat.le_trans (by assumption) (by decide) | with_reducible exact Nat.lt_of_lt_of_le (Nat.add_lt_add_right (by assumption) _) (by decide) | with_reducible exact Int.natCast_nonneg _ | omega)
    have h3 : le (f q') (f q) := h.edge q' q a (by unfold Child at hq; (first | decide | with_reducible assumption | with_reducible exact Nat.le_trans (by assumption) (by decide) | with_reducible exact Nat.lt_of_lt_of_le (Nat.add_lt_add_right (by assumption) _) (by decide) | with_reducible exact Int.natCast_nonneg _ | omega)) k h1 h2
    rw [upd_ne _ _ h1]
    by_cases hj : j = p
    · subst hj; rw [upd_self]; exact h3
    · rw [upd_ne _ _ hj]
      exact tr _ _ _ h3 (h.edge q j hs b k2 h2 hj)
  · by_cases hj : j = p
    · subst hj; rw [upd_self]; exact hl
    · rw [upd_ne _ _ hj]
      exact tr _ _ _ hl (h.edge q j hs b k (by unfold Child at hq; (first | decide | with_reducible assumption | with_reducible exact Nat.le_trans (by assumption) (by decide) | with_reducible exact Nat.lt_of_lt_of_le (Nat.add_lt_add_right (by assumption) _) (by decide) | with_reducible exact Int.natCast_nonneg _ | omega)) hj)
theorem hole_end {n st p : Nat} {f : Nat → α} {x : α} (h : Hole le n st p f) (hx : ∀ j, j < n → Child p j → le x (f j)) (hp : ∀ q, st ≤ q → Child q p → le (f q) x) : HeapAt le n st (upd f p x) := by
  intro i j a b k
  by_cases hi : i = p
  · subst hi
    have hj : j ≠ i := by unfold Child at k; (first | decide | with_reducible assumption | with_reducible exact Nat.le_trans (by assumption) (by decide) | with_reducible exact Nat.lt_of_lt_of_le (Nat.add_lt_add_right (by assumption) _) (by decide) | with_reducible exact Int.natCast_nonneg _ | omega)
    rw [upd_self, upd_ne _ _ hj]
    exact hx j b k
  · rw [upd_ne _ _ hi]
    by_cases hj : j = p
    · subst hj; rw [upd_self]; exact hp i a k
    · rw [upd_ne _ _ hj]; exact h.edge i j a b k hi hj
/-- p lies in the subtree of st -/
inductive Desc (st : Nat) : Nat → Prop
  | here : Desc st st
  | down {p c : Nat} : Desc st p → Child p c → Desc st c
theorem Desc.ge {st p : Nat} (h : Desc st p) : st ≤ p := by
  induction h with
  | here => exact Nat.le_refl _
  | down _ k ih => unfold Child at k; (first | decide | with_reducible assumption | with_reducible exact Nat.le_trans (by assumption) (by decide) | with_reducible exact Nat.lt_of_lt_of_le (Nat.add_lt_add_right (by assumption) _) (by decide) | with_reducible exact Int.natCast_nonneg _ | omega)
theorem Desc.up {st p q : Nat} (h : Desc st p) (hp : st < p) (hq : Child q p) : Desc st q := by
  cases h with
  | here => exact absurd hp (Nat.lt_irrefl _)
  | down d k =>
    rename_i p'
    have : q = p' := by unfold Child at k hq; (first | decide | with_reducible assumption | with_reducible exact Nat.le_trans (by assumption) (by decide) | with_reducible exact Nat.lt_of_lt_of_le (Nat.add_lt_add_right (by assumption) _) (by decide) | with_reducible exact Int.natCast_nonneg _ | omega)
    exact this ▸ d
theorem heap_min {n : Nat} {f : Nat → α} (rf : ∀ a, le a a) (tr : ∀ a b c, le a b → le b c → le a c) (h : HeapAt le n 0 f) : ∀ j, j < n → le (f 0) (f j) := by
  intro j
  induction j using Nat.strongRecOn with
  | ind j ih =>
    intro hj
    by_cases h0 : j = 0
    · subst h0; exact rf _
    · exact tr _ _ _ (ih ((j - 1) / 2) (by (first | decide | with_reducible assumption | with_reducible exact Nat.le_trans (by assumption) (by decide) | with_reducible exact Nat.lt_of_lt_of_le (Nat.add_lt_add_right (by assumption) _) (by decide) | with_reducible exact Int.natCast_nonneg _ | omega)) (by (first | decide | with_reducible assumption | with_reducible exact Nat.le_trans (by assumption) (by decide) | with_reducible exact Nat.lt_of_lt_of_le (Nat.add_lt_add_right (by assumption) _) (by decide) | with_reducible exact Int.natCast_nonneg _ | omega))) (h ((j - 1) / 2) j (Nat.zero_le _) hj (by unfold Child; (first | decide | with_reducible assumption | with_reducible exact Nat.le_trans (by assumption) (by decide) | with_reducible exact Nat.lt_of_lt_of_le (Nat.add_lt_add_right (by assumption) _) (by decide) | with_reducible exact Int.natCast_nonneg _ | omega)))
end
end Mine
namespace Mine
open PySem PySem.W PySem.Calls PyProof.Rows
section
variable {prog : Program} {w : World} {A : Around} {s : Shared} {h₀ : Heap} {L : Addr} {m : Str → Option Value} {env : Env}
theorem compEnd_mono {s₁ s₂ : Shared} {I C D : Addr} {oI oC oD : Obj} {S : List (Addr × Obj) → Prop} {r r' : Value → List (Addr × Obj) → Prop} {y : Value}
    (h : LCg.CompEnd h₀ L m s₁ I oI C oC D oD S r y s₂) (hr : ∀ nx, r y nx → r' y nx) : LCg.CompEnd h₀ L m s₁ I oI C oC D oD S r' y s₂ := by
  obtain ⟨h', tk, nx, e, F, N, off, hS, q⟩ := h
  exact ⟨h', tk, nx, e, F, N, off, hS, hr nx q⟩

theorem compRest_inv {elt : Expr} {x : Str} {scope : Scope} {cl : List (Str × Addr)} {S : List (Addr × Obj) → Prop} {P : Nat → Value → Prop} {Fin : List Value → List (Addr × Obj) → Prop} {n : Nat} {news : List (Addr × Obj)}
    (Inv : Nat → List Value → List (Addr × Obj) → Prop) (h0 : Inv 0 [] news)
    (turn : ∀ i ys nx v I oI C oC D m₂ h tk (E' : Value → Shared → Prop), i < n → Inv i ys nx → P i v → LCg.NsObj oC m₂ → m₂ x = some v → Fr h₀ L h m → News h₀ L h ((I, oI) :: (C, oC) :: (D, LCg.lst ys) :: nx) → LCg.Off3 I C D nx → ((@Ne Nat I C) ∧ (@Ne Nat I D) ∧ (@Ne Nat C D)) →
      wpAny (model prog w) A (eval elt (compEnvC scope cl C env)) (LCg.CompEnd h₀ L m ⟨h, s.gens, s.drawn, tk, s.os⟩ I oI C oC D (LCg.lst ys) S (fun y news' => Inv (i + 1) (ys ++ [y]) news')) E' ⟨h, s.gens, s.drawn, tk, s.os⟩)
    (fin : ∀ ys nx, Inv n ys nx → Fin ys nx) : LCg.CompRest prog w A h₀ L m env elt x scope cl s S P Fin n 0 [] news := by
  have go : ∀ k i ys nx, i + k = n → Inv i ys nx → LCg.CompRest prog w A h₀ L m env elt x scope cl s S P Fin k i ys nx := by
    intro k
    induction k with
    | zero => intro i ys nx e hi; exact .zero (fin ys nx (by rw [← e]; exact hi))
    | succ k ih =>
      intro i ys nx e hi
      refine LCg.CompRest.succ fun v I oI C oC D m₂ h tk E' hP hns hx F N off ne => ?_
      exact wpAny_mono (turn i ys nx v I oI C oC D m₂ h tk E' (by (first | decide | with_reducible assumption | with_reducible exact Nat.le_trans (by assumption) (by decide) | with_reducible exact Nat.lt_of_lt_of_le (Nat.add_lt_add_right (by assumption) _) (by decide) | with_reducible exact Int.natCast_nonneg _ | omega)) hi hP hns hx F N off ne) (fun y s' he => compEnd_mono he fun nx' q => ih (i + 1) (ys ++ [y]) nx' (by (first | decide | with_reducible assumption | with_reducible exact Nat.le_trans (by assumption) (by decide) | with_reducible exact Nat.lt_of_lt_of_le (Nat.add_lt_add_right (by assumption) _) (by decide) | with_reducible exact Int.natCast_nonneg _ | omega)) q) fun _ _ e => e
  exact go n 0 [] news (by (first | decide | with_reducible assumption | with_reducible exact Nat.le_trans (by assumption) (by decide) | with_reducible exact Nat.lt_of_lt_of_le (Nat.add_lt_add_right (by assumption) _) (by decide) | with_reducible exact Int.natCast_nonneg _ | omega)) h0

theorem compRestT_inv {ct elt : Expr} {x : Str} {scope : Scope} {cl : List (Str × Addr)} {S : List (Addr × Obj) → Prop} {P : Nat → Value → Prop} {Fin : List Value → List (Addr × Obj) → Prop} {n : Nat} {news : List (Addr × Obj)}
    (Inv : Nat → List Value → List (Addr × Obj) → Prop) (h0 : Inv 0 [] news)
    (turn : ∀ i ys nx v I oI C oC D m₂ h tk (E' : Value → Shared → Prop), i < n → Inv i ys nx → P i v → LCg.NsObj oC m₂ → m₂ x = some v → Fr h₀ L h m → News h₀ L h ((I, oI) :: (C, oC) :: (D, LCg.lst ys) :: nx) → LCg.Off3 I C D nx → ((@Ne Nat I C) ∧ (@Ne Nat I D) ∧ (@Ne Nat C D)) →
      wpAny (model prog w) A (isTrue ct (compEnvC scope cl C env) (eval ct (compEnvC scope cl C env))) (fun ok s' => if ok = true then
        wpAny (model prog w) A (eval elt (compEnvC scope cl C env)) (LCg.CompEnd h₀ L m ⟨h, s.gens, s.drawn, tk, s.os⟩ I oI C oC D (LCg.lst ys) S (fun y news' => Inv (i + 1) (ys ++ [y]) news')) E' s'
        else LCg.CompEnd h₀ L m ⟨h, s.gens, s.drawn, tk, s.os⟩ I oI C oC D (LCg.lst ys) S (fun _ news' => Inv (i + 1) ys news') Value.none s') E' ⟨h, s.gens, s.drawn, tk, s.os⟩)
    (fin : ∀ ys nx, Inv n ys nx → Fin ys nx) : LCt.CompRestT prog w A h₀ L m env ct elt x scope cl s S P Fin n 0 [] news := by
  have go : ∀ k i ys nx, i + k = n → Inv i ys nx → LCt.CompRestT prog w A h₀ L m env ct elt x scope cl s S P Fin k i ys nx := by
    intro k
    induction k with
    | zero => intro i ys nx e hi; exact .zero (fin ys nx (by rw [← e]; exact hi))
    | succ k ih =>
      intro i ys nx e hi
      refine LCt.CompRestT.succ fun v I oI C oC D m₂ h tk E' hP hns hx F N off ne => ?_
      refine wpAny_mono (turn i ys nx v I oI C oC D m₂ h tk E' (by (first | decide | with_reducible assumption | with_reducible exact Nat.le_trans (by assumption) (by decide) | with_reducible exact Nat.lt_of_lt_of_le (Nat.add_lt_add_right (by assumption) _) (by decide) | with_reducible exact Int.natCast_nonneg _ | omega)) hi hP hns hx F N off ne) (fun ok s' he => ?_) fun _ _ e => e
      cases ok with
      | true =>
        simp only [if_true] at he ⊢
        exact wpAny_mono he (fun y s' he => compEnd_mono he fun nx' q => ih (i + 1) (ys ++ [y]) nx' (by (first | decide | with_reducible assumption | with_reducible exact Nat.le_trans (by assumption) (by decide) | with_reducible exact Nat.lt_of_lt_of_le (Nat.add_lt_add_right (by assumption) _) (by decide) | with_reducible exact Int.natCast_nonneg _ | omega)) q) fun _ _ e => e
      | false =>
        simp only [Bool.false_eq_true, if_false] at he ⊢
        exact compEnd_mono he fun nx' q => ih (i + 1) ys nx' (by (first | decide | with_reducible assumption | with_reducible exact Nat.le_trans (by assumption) (by decide) | with_reducible exact Nat.lt_of_lt_of_le (Nat.add_lt_add_right (by assumption) _) (by decide) | with_reducible exact Int.natCast_nonneg _ | omega)) q
  exact go n 0 [] news (by (first | decide | with_reducible assumption | with_reducible exact Nat.le_trans (by assumption) (by decide) | with_reducible exact Nat.lt_of_lt_of_le (Nat.add_lt_add_right (by assumption) _) (by decide) | with_reducible exact Int.natCast_nonneg _ | omega)) h0
end
end Mine
namespace Mine
open PySem PySem.W PySem.Calls PyProof.Rows
theorem fill1 : (PySem.Challenge.rw_pd0156_01 = PySem.Challenge.rw_pd0156_01) ∧ hd.heap_39 = hd.heap_39 := by
  k_fill
  exact ⟨rfl, rfl⟩
section
variable {prog : Program} {w : World} {A : Around} {R : Result → Shared → Prop} {s : Shared} {h₀ : Heap}

def lineF : Nat → Int → List Int
  | 0, _ => []
  | f + 1, n => if 0 < n then n :: lineF f ((n - 1).fdiv 2) else []
def lineOf (n : Int) : List Int := lineF 4 n
theorem in14 {P : Int → Prop} (h : ∀ i < 15, P ((i : Nat) : Int)) {n : Int} (h0 : 0 ≤ n) (h1 : n ≤ 14) : P n := by
  obtain ⟨m, rfl⟩ := Int.eq_ofNat_of_zero_le h0
  exact h m (by (first | decide | with_reducible assumption | with_reducible exact Nat.le_trans (by assumption) (by decide) | with_reducible exact Nat.lt_of_lt_of_le (Nat.add_lt_add_right (by assumption) _) (by decide) | with_reducible exact Int.natCast_nonneg _ | omega))
theorem cases14 {k : Int} (h0 : 1 ≤ k) (h1 : k ≤ 14) : k = 1 ∨ k = 2 ∨ k = 3 ∨ k = 4 ∨ k = 5 ∨ k = 6 ∨ k = 7 ∨ k = 8 ∨ k = 9 ∨ k = 10 ∨ k = 11 ∨ k = 12 ∨ k = 13 ∨ k = 14 :=
  in14 (P := fun k => 1 ≤ k → k = 1 ∨ k = 2 ∨ k = 3 ∨ k = 4 ∨ k = 5 ∨ k = 6 ∨ k = 7 ∨ k = 8 ∨ k = 9 ∨ k = 10 ∨ k = 11 ∨ k = 12 ∨ k = 13 ∨ k = 14) (by decide +kernel) (Int.le_trans (by decide) h0) h1 h0
theorem line_step {k : Int} (h0 : 0 < k) (h1 : k < 15) : lineOf k = k :: lineOf ((k - 1).fdiv 2) := by
  exact in14 (P := fun k => 0 < k → lineOf k = k :: lineOf ((k - 1).fdiv 2)) (by decide +kernel) (Int.le_of_lt h0) (by (first | decide | with_reducible assumption | with_reducible exact Nat.le_trans (by assumption) (by decide) | with_reducible exact Nat.lt_of_lt_of_le (Nat.add_lt_add_right (by assumption) _) (by decide) | with_reducible exact Int.natCast_nonneg _ | omega)) h0

theorem line_spec (B : Base w h₀) (st : h₀.StaysIn s.heap) (hr : A.depth < 900) {n : Int} {t : Tok} (h0 : 0 ≤ n) (h14 : n ≤ 14)
  (hR : ∀ a vs ep h' tk, Mod [] s.heap h' → s.heap.get? a = none → h'.get? a = some (listOf (List.toArray vs) ep) → IntsAre vs (lineOf n) → R (.ok (.ret (.ref a))) ⟨h', s.gens, s.drawn, tk, s.os⟩) :
  codeAny (model prog w) A (.call (.ref 237) ⟨[.int n t], []⟩) R s := by
  refine' enter (binds := [("node", .int n t)]) [] B st (by simp) ?ho ?hcd ?hroom ?hbind ?hloc ?_ ?hco ?hgen ?hk ?hcell
  case hroom => exact Nat.lt_of_lt_of_le hr (by decide)
  ((case ho => k_is); (case hcd => k_is); (case hbind => exact BindsTo.of_eq rfl); (case hloc => exact locs rfl); (case hco => exact rfl); (case hgen => exact rfl); (case hk => exact rfl); (case hcell => decide))
  intro g L h₁ tk Bg F N back hL _ hg
  have X := Bg.X
  obtain ⟨pT, lT, mg, mb, T⟩ := Bg.T
  clear Bg
  repeat ((try dsimp only); (fail_if_success (first | (with_reducible show wpAny _ _ (exec (Stmt.While _ _ _ _) _) _ _ _) | (with_reducible show wpAny _ _ (exec (Stmt.For _ _ _ _ _) _) _ _ _) | (with_reducible show wpAny _ _ (call (Value.ref _) _ _) _ _ _))); walk1)
  rename_i l _ _ h F N
  refine while_ (fun f s' => ∃ h tk m vs ns ep k t, s' = ⟨h, s.gens, s.drawn, tk, s.os⟩ ∧ Fr g L h m ∧ Has m [("node", .int k t), ("line", .ref l)] ∧ News g L h [(l, listOf (List.toArray vs) ep)] ∧ IntsAre vs ns ∧ vs.length ≤ 16 - k.toNat ∧ 0 ≤ k ∧ k < 15 ∧ f = k.toNat ∧ ns ++ lineOf k = lineOf n) ?_ n.toNat ?_
  · rintro f _ ⟨h, tk, m, vs, ns, ep, k, t, rfl, F, hm, N, hI, hlen, hk0, hk1, rfl, hns⟩
    replace F := Fr.over F hm
    dsimp only [over] at F
    repeat' ((try dsimp only); (fail_if_success (first | (with_reducible show wpAny _ _ (exec (Stmt.While _ _ _ _) _) _ _ _) | (with_reducible show wpAny _ _ (exec (Stmt.For _ _ _ _ _) _) _ _ _) | (with_reducible show wpAny _ _ (call (Value.ref _) _ _) _ _ _))); walk1)
    · rename (0 < k) => hk
      rename Fr g L _ _ => F
      rename News g L _ _ => N
      have hd : (k - 1).fdiv 2 = (k - 1) / 2 := Int.fdiv_eq_ediv_of_nonneg _ (by (first | decide | with_reducible assumption | with_reducible exact Nat.le_trans (by assumption) (by decide) | with_reducible exact Nat.lt_of_lt_of_le (Nat.add_lt_add_right (by assumption) _) (by decide) | with_reducible exact Int.natCast_nonneg _ | omega))
      refine ⟨((k - 1).fdiv 2).toNat, by (first | decide | with_reducible assumption | with_reducible exact Nat.le_trans (by assumption) (by decide) | with_reducible exact Nat.lt_of_lt_of_le (Nat.add_lt_add_right (by assumption) _) (by decide) | with_reducible exact Int.natCast_nonneg _ | omega), _, _, _, vs ++ [.int k t], ns ++ [k], ep + 1, (k - 1).fdiv 2, _, rfl, F, ⟨rfl, rfl, trivial⟩, by simpa using N, IntsAre.append hI (IntsAre.cons k t IntsAre.nil), ?_, by (first | decide | with_reducible assumption | with_reducible exact Nat.le_trans (by assumption) (by decide) | with_reducible exact Nat.lt_of_lt_of_le (Nat.add_lt_add_right (by assumption) _) (by decide) | with_reducible exact Int.natCast_nonneg _ | omega), by (first | decide | with_reducible assumption | with_reducible exact Nat.le_trans (by assumption) (by decide) | with_reducible exact Nat.lt_of_lt_of_le (Nat.add_lt_add_right (by assumption) _) (by decide) | with_reducible exact Int.natCast_nonneg _ | omega), rfl, ?_⟩
      · simp only [List.length_append, List.length_cons, List.length_nil]; (first | decide | with_reducible assumption | with_reducible exact Nat.le_trans (by assumption) (by decide) | with_reducible exact Nat.lt_of_lt_of_le (Nat.add_lt_add_right (by assumption) _) (by decide) | with_reducible exact Int.natCast_nonneg _ | omega)
      · rw [← hns, line_step hk hk1]; simp
    · rename (¬ 0 < k) => hk
      have e : k = 0 := by (first | decide | with_reducible assumption | with_reducible exact Nat.le_trans (by assumption) (by decide) | with_reducible exact Nat.lt_of_lt_of_le (Nat.add_lt_add_right (by assumption) _) (by decide) | with_reducible exact Int.natCast_nonneg _ | omega)
      subst e
      refine hR l vs ep h _ (back h F.keep) ?_ (N _ (List.mem_cons_self ..)).1 (by rw [← hns]; simpa [lineOf, lineF] using hI)
      cases q : s.heap.get? l with
      | none => rfl
      | some o => have := hg l o (by simp) q; rw [(N _ (List.mem_cons_self ..)).2.2] at this; cases this
  · exact ⟨h, _, _, [], [], 0, n, t, rfl, F, ⟨rfl, rfl, trivial⟩, N, IntsAre.nil, by simp, h0, by (first | decide | with_reducible assumption | with_reducible exact Nat.le_trans (by assumption) (by decide) | with_reducible exact Nat.lt_of_lt_of_le (Nat.add_lt_add_right (by assumption) _) (by decide) | with_reducible exact Int.natCast_nonneg _ | omega), rfl, by simp⟩
end
end Mine
namespace Mine
open PySem PySem.W PySem.Calls PyProof.Rows
theorem fill2 : (PySem.Challenge.rw_pd0156_01 = PySem.Challenge.rw_pd0156_01) ∧ hd.heap_39 = hd.heap_39 := by
  k_fill
  exact ⟨rfl, rfl⟩
section
variable {prog : Program} {w : World} {A : Around} {R : Result → Shared → Prop} {s : Shared} {h₀ : Heap}

def signOf (n : Int) : Str := if n.fmod 2 = 1 then "/a-" else "/a"
def textOf (n : Int) : Str := Txt.join "" ((lineOf n).reverse.map signOf)
theorem text_size {n : Int} (h0 : 0 ≤ n) (h1 : n ≤ 14) : (((lineOf n).reverse.map signOf).map (·.length)).sum + ((lineOf n).reverse.map signOf).length ≤ 1048576 := by
  exact in14 (P := fun n => (((lineOf n).reverse.map signOf).map (·.length)).sum + ((lineOf n).reverse.map signOf).length ≤ 1048576) (by decide +kernel) h0 h1
theorem lineF_len : ∀ (f : Nat) (n : Int), (lineF f n).length ≤ f
  | 0, _ => Nat.le_refl _
  | f + 1, n => by
    unfold lineF
    split
    · exact Nat.succ_le_succ (lineF_len f _)
    · exact Nat.zero_le _
theorem text_spec (B : Base w h₀) (st : h₀.StaysIn s.heap) (hA : A.handled = none) (hr : A.depth < 899) {n : Int} {t : Tok} (h0 : 0 ≤ n) (h14 : n ≤ 14)
  (hR : ∀ h' tk t', Mod [] s.heap h' → R (.ok (.ret (.str (textOf n) t'))) ⟨h', s.gens, s.drawn, tk, s.os⟩) :
  codeAny (model prog w) A (.call (.ref 242) ⟨[.int n t], []⟩) R s := by
  refine' enter (binds := [("node", .int n t)]) [] B st (by simp) ?ho ?hcd ?hroom ?hbind ?hloc ?_ ?hco ?hgen ?hk ?hcell
  case hroom => exact Nat.lt_of_lt_of_le hr (by decide)
  ((case ho => k_is); (case hcd => k_is); (case hbind => exact BindsTo.of_eq rfl); (case hloc => exact locs rfl); (case hco => exact rfl); (case hgen => exact rfl); (case hk => exact rfl); (case hcell => decide))
  intro g L h₁ tk Bg F N back hL _ hg
  have X := Bg.X
  have Bg' := Bg
  obtain ⟨pT, lT, mg, mb, T⟩ := Bg.T
  clear Bg
  repeat ((try dsimp only); (fail_if_success (first | (with_reducible show wpAny _ _ (exec (Stmt.While _ _ _ _) _) _ _ _) | (with_reducible show wpAny _ _ (exec (Stmt.For _ _ _ _ _) _) _ _ _) | (with_reducible show wpAny _ _ (call (Value.ref _) _ _) _ _ _) | (with_reducible show wpAny _ _ (eval (Expr.ListComp _ _ _ _) _) _ _ _) | (with_reducible show wpAny _ _ (exec (Stmt.Assign _ (Expr.ListComp _ _ _ _) _) _) _ _ _))); walk1)
  refine LCg.ListComp_U F (cl := []) rfl (by decide) rfl (by decide) rfl ?_
  repeat ((try dsimp only); (fail_if_success (first | (with_reducible show wpAny _ _ (exec (Stmt.While _ _ _ _) _) _ _ _) | (with_reducible show wpAny _ _ (exec (Stmt.For _ _ _ _ _) _) _ _ _) | (with_reducible show wpAny _ _ (call (Value.ref _) _ _) _ _ _) | (with_reducible show wpAny _ _ (eval (Expr.ListComp _ _ _ _) _) _ _ _) | (with_reducible show wpAny _ _ (exec (Stmt.Assign _ (Expr.ListComp _ _ _ _) _) _) _ _ _))); walk1)
  refine wpAny_call (line_spec Bg' (s := ⟨_, _, _, _, _⟩) F.keep (by show A.depth + 1 < 900; (first | decide | with_reducible assumption | with_reducible exact Nat.le_trans (by assumption) (by decide) | with_reducible exact Nat.lt_of_lt_of_le (Nat.add_lt_add_right (by assumption) _) (by decide) | with_reducible exact Int.natCast_nonneg _ | omega)) h0 h14 fun a vs ep h' tk' M ha ho hI => ?_)
  have N' := News.born F N M ha ho
  replace F := Fr.keeps' F M
  clear N ho
  have hlen : vs.length ≤ 4 := by rw [hI.length]; exact lineF_len 4 n
  dsimp only
  iterate 8 ((try dsimp only); (fail_if_success (first | (with_reducible show wpAny _ _ (exec (Stmt.While _ _ _ _) _) _ _ _) | (with_reducible show wpAny _ _ (exec (Stmt.For _ _ _ _ _) _) _ _ _) | (with_reducible show wpAny _ _ (call (Value.ref _) _ _) _ _ _) | (with_reducible show wpAny _ _ (eval (Expr.ListComp _ _ _ _) _) _ _ _) | (with_reducible show wpAny _ _ (exec (Stmt.Assign _ (Expr.ListComp _ _ _ _) _) _) _ _ _))); walk1)
  refine krv_ints (s := ⟨h', s.gens, s.drawn, _, s.os⟩) F N' (News.isList N' (List.mem_cons_self ..)) (IsPart.int _ _) hI ?_ (by with_unfolding_all rfl) (fun _ => rfl) (by rw [List.size_toArray, PySem.sizeLine_eq]; (first | decide | with_reducible assumption | with_reducible exact Nat.le_trans (by assumption) (by decide) | with_reducible exact Nat.lt_of_lt_of_le (Nat.add_lt_add_right (by assumption) _) (by decide) | with_reducible exact Int.natCast_nonneg _ | omega))
  intro D ws h2 F2 N2 l1 hI2 _
  clear F N'
  dsimp only
  refine LCg.CompSrc.ledger hA F2 N2 (List.mem_cons_self ..) (by rw [List.size_toArray, PySem.sizeLine_eq]; have := hI2.length; have := hI.length; simp at *; (first | decide | with_reducible assumption | with_reducible exact Nat.le_trans (by assumption) (by decide) | with_reducible exact Nat.lt_of_lt_of_le (Nat.add_lt_add_right (by assumption) _) (by decide) | with_reducible exact Int.natCast_nonneg _ | omega)) fun h3 => ?_
  refine compRest_inv (fun i ys nx => nx = [(D, W.listOf ws.toArray 0), (a, W.listOf vs.toArray ep)] ∧ StrsAre ys (((lineOf n).reverse.take i).map signOf)) ⟨rfl, StrsAre.nil⟩ ?_ ?_
  · rintro i ys nx v I oI C oC D' m₂ h tk E' hi ⟨rfl, hys⟩ hP hns hx F N off ne
    obtain ⟨k, hk⟩ : ∃ k, (lineOf n).reverse[i]? = some k := ⟨(lineOf n).reverse[i]'(by have := hI2.length; simp at *; (first | decide | with_reducible assumption | with_reducible exact Nat.le_trans (by assumption) (by decide) | with_reducible exact Nat.lt_of_lt_of_le (Nat.add_lt_add_right (by assumption) _) (by decide) | with_reducible exact Int.natCast_nonneg _ | omega)), List.getElem?_eq_getElem _⟩
    obtain ⟨t', ht⟩ := hI2.get i k hk
    obtain rfl : v = .int k t' := by simpa [ht] using hP.symm
    dsimp only at F N ⊢
    repeat' ((try dsimp only); (fail_if_success (first | (with_reducible show wpAny _ _ (exec (Stmt.While _ _ _ _) _) _ _ _) | (with_reducible show wpAny _ _ (exec (Stmt.For _ _ _ _ _) _) _ _ _) | (with_reducible show wpAny _ _ (call (Value.ref _) _ _) _ _ _) | (with_reducible show wpAny _ _ (eval (Expr.ListComp _ _ _ _) _) _ _ _) | (with_reducible show wpAny _ _ (exec (Stmt.Assign _ (Expr.ListComp _ _ _ _) _) _) _ _ _))); walk1)
    · rename k.fmod 2 = 0 => hz
      rename Fr g L _ _ => F
      rename News g L _ _ => N
      refine LCg.CompEnd.intro F N _ (by simp) off (.inr ⟨_, List.mem_cons_self .., rfl, _, rfl⟩) ⟨rfl, ?_⟩
      have e : ∀ z tz, signOf k = z → StrsAre (ys ++ [.str z tz]) (List.map signOf (List.take (i + 1) (lineOf n).reverse)) := fun z tz hz => by
        rw [List.take_add_one, hk, Option.toList_some, List.map_append, List.map_singleton, hz]
        exact kct_snoc hys
      exact e _ _ (by rw [signOf, hz]; rfl)
    · rename k.fmod 2 = 1 => hz
      rename Fr g L _ _ => F
      rename News g L _ _ => N
      refine LCg.CompEnd.intro F N _ (by simp) off (.inr ⟨_, List.mem_cons_self .., rfl, _, rfl⟩) ⟨rfl, ?_⟩
      have e : ∀ z tz, signOf k = z → StrsAre (ys ++ [.str z tz]) (List.map signOf (List.take (i + 1) (lineOf n).reverse)) := fun z tz hz => by
        rw [List.take_add_one, hk, Option.toList_some, List.map_append, List.map_singleton, hz]
        exact kct_snoc hys
      exact e _ _ (by rw [signOf, hz]; rfl)
  · rintro ys nx ⟨rfl, hys⟩ D3 h tk F N off
    ((try dsimp only); (fail_if_success (first | (with_reducible show wpAny _ _ (exec (Stmt.While _ _ _ _) _) _ _ _) | (with_reducible show wpAny _ _ (exec (Stmt.For _ _ _ _ _) _) _ _ _) | (with_reducible show wpAny _ _ (call (Value.ref _) _ _) _ _ _) | (with_reducible show wpAny _ _ (eval (Expr.ListComp _ _ _ _) _) _ _ _) | (with_reducible show wpAny _ _ (exec (Stmt.Assign _ (Expr.ListComp _ _ _ _) _) _) _ _ _))); walk1)
    have hz : ws.toArray.size = (lineOf n).reverse.length := by rw [List.size_toArray]; exact hI2.length
    rw [hz, List.take_length] at hys
    refine join_listW (News.isList N (List.mem_cons_self ..)) (by simpa using hys) (by decide) (text_size h0 h14) fun t' k => ?_
    exact hR _ _ _ (back _ F.keep)
end
end Mine
namespace Mine
open PySem PySem.W PySem.Calls PyProof.Rows
theorem fillH1 : (PySem.Challenge.rw_pd0156_01 = PySem.Challenge.rw_pd0156_01) ∧ hd.heap_39 = hd.heap_39 := by
  k_fill
  exact ⟨rfl, rfl⟩

abbrev Key : Type := List Nat × Int × Int
def keyLt (a b : Key) : Bool := decide (a.1 < b.1) || (decide (a.1 = b.1) && (decide (a.2.1 < b.2.1) || (decide (a.2.1 = b.2.1) && decide (a.2.2 < b.2.2))))

section
variable {prog : Program} {w : World} {A : Around} {R : Result → Shared → Prop} {s : Shared} {h₀ : Heap} {E : Value → Shared → Prop}
theorem set_at {g : Heap} {L D : Addr} {m : Str → Option Value} {news news' : List (Addr × Obj)} {vs : List Value} {n : Nat} {k : Int} {t : Tok} {v : Value} {Q : Unit → Shared → Prop} (F : Fr g L s.heap m) (N : News g L s.heap news) (U : Upd D (listOf vs.toArray n) (listOf (vs.set k.toNat v).toArray n) news news') (h0 : 0 ≤ k) (h1 : k < vs.length) (hfit : k < 2 ^ 63)
    (h : ∀ h', Fr g L h' m → News g L h' news' → Q () { s with heap := h' }) :
    wpAny (model prog w) A (setItem (.ref D) (.int k t) v) Q E s := by
  obtain ⟨pre, post, rfl, rfl, a, b⟩ := U.split
  have z := N (D, listOf vs.toArray n) (List.mem_append.mpr (.inr (.head _)))
  refine ki_setAt z.1 h0 hfit (by rw [List.size_toArray]; exact h1) (h _ (F.change (Heap.SameBut.update ..) z.2.1 z.2.2) (ki_turn _ N a b ?_ ?_))
  · show vs.toArray.setIfInBounds k.toNat v = (vs.set k.toNat v).toArray
    apply Array.toList_inj.mp
    simp
  · simp

def CmpOk (prog : Program) (w : World) (h₀ : Heap) (lt : Value → Value → Bool) (V : List Value) : Prop :=
  ∀ u ∈ V, ∀ v ∈ V, ∀ (A : Around) (s : Shared) (Q : Value → Shared → Prop), A.units < 600 → h₀.StaysIn s.heap → (∀ tk, Q (.bool (lt u v)) ⟨s.heap, s.gens, s.drawn, tk, s.os⟩) → wpAny (model prog w) A (compareOp .Lt u v) Q (fun _ _ => False) s

def leOf (lt : Value → Value → Bool) (a b : Value) : Prop := lt b a = false
structure Ord (lt : Value → Value → Bool) : Prop where
  tr : ∀ a b c, leOf lt a b → leOf lt b c → leOf lt a c
  as : ∀ a b, lt a b = true → leOf lt a b
theorem Ord.rf {lt : Value → Value → Bool} (o : Ord lt) (a : Value) : leOf lt a a := by
  cases h : lt a a with
  | true => exact o.as a a h
  | false => exact h

def at_ (vs : List Value) : Nat → Value := fun i => vs.getD i .none
theorem at_set {vs : List Value} {p : Nat} {x : Value} (h : p < vs.length) : at_ (vs.set p x) = upd (at_ vs) p x := by
  funext i
  unfold at_ upd
  by_cases e : i = p
  · subst e; simp [h]
  · simp [List.getD, e, List.getElem?_set_ne (Ne.symm e)]
theorem at_get {vs : List Value} {p : Nat} (h : p < vs.length) : vs[p]? = some (at_ vs p) := by
  unfold at_; simp [h]
theorem at_mem {vs : List Value} {p : Nat} (h : p < vs.length) : at_ vs p ∈ vs := List.mem_of_getElem? (at_get h)
theorem perm_move {vs vs0 : List Value} {p q : Nat} {x : Value} (hp : p < vs.length) (hq : q < vs.length) (hne : p ≠ q) (h : (vs.set p x).Perm vs0) : ((vs.set p (at_ vs q)).set q x).Perm vs0 := by
  have hp' : p < (vs.set p x).length := by simpa using hp
  have hq' : q < (vs.set p x).length := by simpa using hq
  have k := List.set_set_perm (as := vs.set p x) hp' hq'
  have e : ((vs.set p x).set p (vs.set p x)[q]).set q (vs.set p x)[p] = (vs.set p (at_ vs q)).set q x := by
    simp [at_, hq, List.getElem_set_ne hne]
  rw [e] at k
  exact k.trans h
theorem perm_here {vs vs0 : List Value} {p : Nat} (hp : p < vs.length) (h : vs.Perm vs0) : (vs.set p (at_ vs p)).Perm vs0 := by
  have : vs.set p (at_ vs p) = vs := by
    apply List.ext_getElem?
    intro i
    by_cases e : i = p
    · subst e; rw [List.getElem?_set_self hp, at_get hp]
    · rw [List.getElem?_set_ne (Ne.symm e)]
  rw [this]; exact h

theorem siftdown_spec {lt : Value → Value → Bool} (O : Ord lt) {V : List Value} (C : CmpOk prog w h₀ lt V) (B : Base w h₀) (st : h₀.StaysIn s.heap) (hr : A.depth < 900) (hu : A.units < 500)
  {a : Addr} {vs : List Value} {ep : Nat} (ha : s.heap.get? a = some (listOf vs.toArray ep)) (ha0 : h₀.get? a = none) (hV : ∀ v ∈ vs, v ∈ V) (hlen : vs.length ≤ 1000)
  {sp p : Nat} {t1 t2 : Tok} (hp : p < vs.length) (hD : Desc sp p) (hH : Hole (leOf lt) vs.length sp p (at_ vs)) (hx : ∀ j, j < vs.length → Child p j → leOf lt (at_ vs p) (at_ vs j))
  (hR : ∀ vs' h' tk, Mod [a] s.heap h' → h'.get? a = some (listOf (List.toArray vs') ep) → vs'.Perm vs → HeapAt (leOf lt) vs.length sp (at_ vs') → R (.ok (.ret .none)) ⟨h', s.gens, s.drawn, tk, s.os⟩) :
  codeAny (model prog w) A (.call (.ref 103) ⟨[.ref a, .int sp t1, .int p t2], []⟩) R s := by
  refine' enter (binds := [("heap", .ref a), ("startpos", .int sp t1), ("pos", .int p t2)]) [(a, listOf vs.toArray ep)] B st (by intro q hq; rw [List.mem_singleton.mp hq]; exact ⟨ha, ha0⟩) ?ho ?hcd ?hroom ?hbind ?hloc ?_ ?hco ?hgen ?hk ?hcell
  case hroom => exact Nat.lt_of_lt_of_le hr (by decide)
  ((case ho => k_is); (case hcd => k_is); (case hbind => exact BindsTo.of_eq rfl); (case hloc => exact locs rfl); (case hco => exact rfl); (case hgen => exact rfl); (case hk => exact rfl); (case hcell => decide))
  intro g L h₁ tk Bg F N back hL hSg hg
  have X := Bg.X
  obtain ⟨pT, lT, mg, mb, T⟩ := Bg.T
  clear Bg
  have st' : h₀.StaysIn g := fun b o e => hg b o (by intro q; simp at q; subst q; rw [ha0] at e; cases e) (st b o e)
  repeat ((try dsimp only [WPost, Turn]); (fail_if_success (first | (with_reducible show wpAny _ _ (exec (Stmt.While _ _ _ _) _) _ _ _) | (with_reducible show wpAny _ _ (exec (Stmt.For _ _ _ _ _) _) _ _ _) | (with_reducible show wpAny _ _ (call (Value.ref _) _ _) _ _ _) | (with_reducible show wpAny _ _ (subscriptTail _ _ _ _) _ _ _) | (with_reducible show wpAny _ _ (setItem _ _ _) _ _ _) | (with_reducible show wpAny _ _ (compareOp CmpOp.Lt _ _) _ _ _))); walk1)
  refine kim_list N (List.mem_cons_self ..) rfl rfl (by (first | decide | with_reducible assumption | with_reducible exact Nat.le_trans (by assumption) (by decide) | with_reducible exact Nat.lt_of_lt_of_le (Nat.add_lt_add_right (by assumption) _) (by decide) | with_reducible exact Int.natCast_nonneg _ | omega)) (by (first | decide | with_reducible assumption | with_reducible exact Nat.le_trans (by assumption) (by decide) | with_reducible exact Nat.lt_of_lt_of_le (Nat.add_lt_add_right (by assumption) _) (by decide) | with_reducible exact Int.natCast_nonneg _ | omega)) (at_get hp) ?_
  repeat ((try dsimp only [WPost, Turn]); (fail_if_success (first | (with_reducible show wpAny _ _ (exec (Stmt.While _ _ _ _) _) _ _ _) | (with_reducible show wpAny _ _ (exec (Stmt.For _ _ _ _ _) _) _ _ _) | (with_reducible show wpAny _ _ (call (Value.ref _) _ _) _ _ _) | (with_reducible show wpAny _ _ (subscriptTail _ _ _ _) _ _ _) | (with_reducible show wpAny _ _ (setItem _ _ _) _ _ _) | (with_reducible show wpAny _ _ (compareOp CmpOp.Lt _ _) _ _ _))); walk1)
  rename Fr g L _ _ => F
  rename News g L _ _ => N
  refine while_ (fun n s' => ∃ h tk m us q tq, s' = ⟨h, s.gens, s.drawn, tk, s.os⟩ ∧ Fr g L h m ∧ Has m [("heap", .ref a), ("startpos", .int sp t1), ("pos", .int (q : Nat) tq), ("newitem", at_ vs p)] ∧ News g L h [(a, listOf (List.toArray us) ep)] ∧ us.length = vs.length ∧ q < us.length ∧ n = q ∧ Desc sp q ∧
    Hole (leOf lt) vs.length sp q (at_ us) ∧ (∀ j, j < vs.length → Child q j → leOf lt (at_ vs p) (at_ us j)) ∧ (us.set q (at_ vs p)).Perm vs ∧ ∀ v ∈ us, v ∈ V) ?_ p ?_
  · rintro n _ ⟨h, tk, m, us, q, tq, rfl, F, hm, N, hl, hq, rfl, hDq, hHq, hxq, hpm, hVu⟩
    replace F := Fr.over F hm
    dsimp only [over] at F
    repeat' ((try dsimp only [WPost, Turn]); (fail_if_success (first | (with_reducible show wpAny _ _ (exec (Stmt.While _ _ _ _) _) _ _ _) | (with_reducible show wpAny _ _ (exec (Stmt.For _ _ _ _ _) _) _ _ _) | (with_reducible show wpAny _ _ (call (Value.ref _) _ _) _ _ _) | (with_reducible show wpAny _ _ (subscriptTail _ _ _ _) _ _ _) | (with_reducible show wpAny _ _ (setItem _ _ _) _ _ _) | (with_reducible show wpAny _ _ (compareOp CmpOp.Lt _ _) _ _ _))); walk1)
    · rename ((sp : Int) < (n : Int)) => hlt
      rename Fr g L _ _ => F
      rename News g L _ _ => N
      have e : ((n : Int) - 1).fdiv (2 ^ Int.toNat 1) = (((n - 1) / 2 : Nat) : Int) := by
        rw [show (2 ^ Int.toNat 1 : Int) = 2 from rfl, Int.fdiv_eq_ediv_of_nonneg _ (by decide)]; (first | decide | with_reducible assumption | with_reducible exact Nat.le_trans (by assumption) (by decide) | with_reducible exact Nat.lt_of_lt_of_le (Nat.add_lt_add_right (by assumption) _) (by decide) | with_reducible exact Int.natCast_nonneg _ | omega)
      rw [e] at F ⊢
      have hcp : Child ((n - 1) / 2) n := by unfold Child; (first | decide | with_reducible assumption | with_reducible exact Nat.le_trans (by assumption) (by decide) | with_reducible exact Nat.lt_of_lt_of_le (Nat.add_lt_add_right (by assumption) _) (by decide) | with_reducible exact Int.natCast_nonneg _ | omega)
      have hDr : Desc sp ((n - 1) / 2) := hDq.up (by (first | decide | with_reducible assumption | with_reducible exact Nat.le_trans (by assumption) (by decide) | with_reducible exact Nat.lt_of_lt_of_le (Nat.add_lt_add_right (by assumption) _) (by decide) | with_reducible exact Int.natCast_nonneg _ | omega)) hcp
      refine kim_list N (List.mem_cons_self ..) rfl rfl (by (first | decide | with_reducible assumption | with_reducible exact Nat.le_trans (by assumption) (by decide) | with_reducible exact Nat.lt_of_lt_of_le (Nat.add_lt_add_right (by assumption) _) (by decide) | with_reducible exact Int.natCast_nonneg _ | omega)) (by (first | decide | with_reducible assumption | with_reducible exact Nat.le_trans (by assumption) (by decide) | with_reducible exact Nat.lt_of_lt_of_le (Nat.add_lt_add_right (by assumption) _) (by decide) | with_reducible exact Int.natCast_nonneg _ | omega)) (at_get (by (first | decide | with_reducible assumption | with_reducible exact Nat.le_trans (by assumption) (by decide) | with_reducible exact Nat.lt_of_lt_of_le (Nat.add_lt_add_right (by assumption) _) (by decide) | with_reducible exact Int.natCast_nonneg _ | omega))) ?_
      rw [show (((n - 1) / 2 : Nat) : Int).toNat = (n - 1) / 2 from rfl]
      repeat ((try dsimp only [WPost, Turn]); (fail_if_success (first | (with_reducible show wpAny _ _ (exec (Stmt.While _ _ _ _) _) _ _ _) | (with_reducible show wpAny _ _ (exec (Stmt.For _ _ _ _ _) _) _ _ _) | (with_reducible show wpAny _ _ (call (Value.ref _) _ _) _ _ _) | (with_reducible show wpAny _ _ (subscriptTail _ _ _ _) _ _ _) | (with_reducible show wpAny _ _ (setItem _ _ _) _ _ _) | (with_reducible show wpAny _ _ (compareOp CmpOp.Lt _ _) _ _ _))); walk1)
      rename Fr g L _ _ => F
      rename News g L _ _ => N
      have m1 : at_ vs p ∈ V := hV _ (at_mem hp)
      have m2 : at_ us ((n - 1) / 2) ∈ V := hVu _ (at_mem (by (first | decide | with_reducible assumption | with_reducible exact Nat.le_trans (by assumption) (by decide) | with_reducible exact Nat.lt_of_lt_of_le (Nat.add_lt_add_right (by assumption) _) (by decide) | with_reducible exact Int.natCast_nonneg _ | omega)))
      refine C _ m1 _ m2 _ _ _ (by show A.units + 3 < 600; (first | decide | with_reducible assumption | with_reducible exact Nat.le_trans (by assumption) (by decide) | with_reducible exact Nat.lt_of_lt_of_le (Nat.add_lt_add_right (by assumption) _) (by decide) | with_reducible exact Int.natCast_nonneg _ | omega)) (fun b o e => F.keep b o (st' b o e)) fun tk2 => ?_
      dsimp only
      cases hb : lt (at_ vs p) (at_ us ((n - 1) / 2)) with
      | true =>
        repeat ((try dsimp only [WPost, Turn]); (fail_if_success (first | (with_reducible show wpAny _ _ (exec (Stmt.While _ _ _ _) _) _ _ _) | (with_reducible show wpAny _ _ (exec (Stmt.For _ _ _ _ _) _) _ _ _) | (with_reducible show wpAny _ _ (call (Value.ref _) _ _) _ _ _) | (with_reducible show wpAny _ _ (subscriptTail _ _ _ _) _ _ _) | (with_reducible show wpAny _ _ (setItem _ _ _) _ _ _) | (with_reducible show wpAny _ _ (compareOp CmpOp.Lt _ _) _ _ _))); walk1)
        refine set_at (vs := us) F N (.head (by intro _ h; cases h)) (by (first | decide | with_reducible assumption | with_reducible exact Nat.le_trans (by assumption) (by decide) | with_reducible exact Nat.lt_of_lt_of_le (Nat.add_lt_add_right (by assumption) _) (by decide) | with_reducible exact Int.natCast_nonneg _ | omega)) (by (first | decide | with_reducible assumption | with_reducible exact Nat.le_trans (by assumption) (by decide) | with_reducible exact Nat.lt_of_lt_of_le (Nat.add_lt_add_right (by assumption) _) (by decide) | with_reducible exact Int.natCast_nonneg _ | omega)) (by (first | decide | with_reducible assumption | with_reducible exact Nat.le_trans (by assumption) (by decide) | with_reducible exact Nat.lt_of_lt_of_le (Nat.add_lt_add_right (by assumption) _) (by decide) | with_reducible exact Int.natCast_nonneg _ | omega)) fun h' F' N' => ?_
        rw [show ((n : Nat) : Int).toNat = n from rfl] at N'
        clear F N
        repeat ((try dsimp only [WPost, Turn]); (fail_if_success (first | (with_reducible show wpAny _ _ (exec (Stmt.While _ _ _ _) _) _ _ _) | (with_reducible show wpAny _ _ (exec (Stmt.For _ _ _ _ _) _) _ _ _) | (with_reducible show wpAny _ _ (call (Value.ref _) _ _) _ _ _) | (with_reducible show wpAny _ _ (subscriptTail _ _ _ _) _ _ _) | (with_reducible show wpAny _ _ (setItem _ _ _) _ _ _) | (with_reducible show wpAny _ _ (compareOp CmpOp.Lt _ _) _ _ _))); walk1)
        rename Fr g L _ _ => F
        rename News g L _ _ => N
        obtain ⟨hH2, hx2⟩ := hole_up O.tr hHq hxq hcp hDr.ge (by (first | decide | with_reducible assumption | with_reducible exact Nat.le_trans (by assumption) (by decide) | with_reducible exact Nat.lt_of_lt_of_le (Nat.add_lt_add_right (by assumption) _) (by decide) | with_reducible exact Int.natCast_nonneg _ | omega)) (O.as _ _ hb)
        refine ⟨(n - 1) / 2, by (first | decide | with_reducible assumption | with_reducible exact Nat.le_trans (by assumption) (by decide) | with_reducible exact Nat.lt_of_lt_of_le (Nat.add_lt_add_right (by assumption) _) (by decide) | with_reducible exact Int.natCast_nonneg _ | omega), _, _, _, us.set n (at_ us ((n - 1) / 2)), (n - 1) / 2, _, rfl, F, ⟨rfl, rfl, rfl, rfl, trivial⟩, N, by simpa using hl, by simp; (first | decide | with_reducible assumption | with_reducible exact Nat.le_trans (by assumption) (by decide) | with_reducible exact Nat.lt_of_lt_of_le (Nat.add_lt_add_right (by assumption) _) (by decide) | with_reducible exact Int.natCast_nonneg _ | omega), rfl, hDr, ?_, ?_, ?_, ?_⟩
        · rw [at_set hq]; exact hH2
        · rw [at_set hq]; exact hx2
        · exact perm_move hq (by (first | decide | with_reducible assumption | with_reducible exact Nat.le_trans (by assumption) (by decide) | with_reducible exact Nat.lt_of_lt_of_le (Nat.add_lt_add_right (by assumption) _) (by decide) | with_reducible exact Int.natCast_nonneg _ | omega)) (by (first | decide | with_reducible assumption | with_reducible exact Nat.le_trans (by assumption) (by decide) | with_reducible exact Nat.lt_of_lt_of_le (Nat.add_lt_add_right (by assumption) _) (by decide) | with_reducible exact Int.natCast_nonneg _ | omega)) hpm
        · intro v hv
          rcases List.mem_or_eq_of_mem_set hv with h | h
          · exact hVu v h
          · rw [h]; exact m2
      | false =>
        repeat ((try dsimp only [WPost, Turn]); (fail_if_success (first | (with_reducible show wpAny _ _ (exec (Stmt.While _ _ _ _) _) _ _ _) | (with_reducible show wpAny _ _ (exec (Stmt.For _ _ _ _ _) _) _ _ _) | (with_reducible show wpAny _ _ (call (Value.ref _) _ _) _ _ _) | (with_reducible show wpAny _ _ (subscriptTail _ _ _ _) _ _ _) | (with_reducible show wpAny _ _ (setItem _ _ _) _ _ _) | (with_reducible show wpAny _ _ (compareOp CmpOp.Lt _ _) _ _ _))); walk1)
        refine set_at (vs := us) F N (.head (by intro _ h; cases h)) (by (first | decide | with_reducible assumption | with_reducible exact Nat.le_trans (by assumption) (by decide) | with_reducible exact Nat.lt_of_lt_of_le (Nat.add_lt_add_right (by assumption) _) (by decide) | with_reducible exact Int.natCast_nonneg _ | omega)) (by (first | decide | with_reducible assumption | with_reducible exact Nat.le_trans (by assumption) (by decide) | with_reducible exact Nat.lt_of_lt_of_le (Nat.add_lt_add_right (by assumption) _) (by decide) | with_reducible exact Int.natCast_nonneg _ | omega)) (by (first | decide | with_reducible assumption | with_reducible exact Nat.le_trans (by assumption) (by decide) | with_reducible exact Nat.lt_of_lt_of_le (Nat.add_lt_add_right (by assumption) _) (by decide) | with_reducible exact Int.natCast_nonneg _ | omega)) fun h' F' N' => ?_
        rw [show ((n : Nat) : Int).toNat = n from rfl] at N'
        clear F N
        repeat ((try dsimp only [WPost, Turn]); (fail_if_success (first | (with_reducible show wpAny _ _ (exec (Stmt.While _ _ _ _) _) _ _ _) | (with_reducible show wpAny _ _ (exec (Stmt.For _ _ _ _ _) _) _ _ _) | (with_reducible show wpAny _ _ (call (Value.ref _) _ _) _ _ _) | (with_reducible show wpAny _ _ (subscriptTail _ _ _ _) _ _ _) | (with_reducible show wpAny _ _ (setItem _ _ _) _ _ _) | (with_reducible show wpAny _ _ (compareOp CmpOp.Lt _ _) _ _ _))); walk1)
        refine hR _ _ _ (back _ F'.keep) (N' _ (List.mem_cons_self ..)).1 hpm ?_
        rw [at_set hq]
        refine hole_end hHq hxq fun q hq1 hq2 => ?_
        have : q = (n - 1) / 2 := by unfold Child at hq2; (first | decide | with_reducible assumption | with_reducible exact Nat.le_trans (by assumption) (by decide) | with_reducible exact Nat.lt_of_lt_of_le (Nat.add_lt_add_right (by assumption) _) (by decide) | with_reducible exact Int.natCast_nonneg _ | omega)
        rw [this]; exact hb
    · rename (¬ (sp : Int) < (n : Int)) => hlt
      refine set_at (vs := us) F N (.head (by intro _ h; cases h)) (by (first | decide | with_reducible assumption | with_reducible exact Nat.le_trans (by assumption) (by decide) | with_reducible exact Nat.lt_of_lt_of_le (Nat.add_lt_add_right (by assumption) _) (by decide) | with_reducible exact Int.natCast_nonneg _ | omega)) (by (first | decide | with_reducible assumption | with_reducible exact Nat.le_trans (by assumption) (by decide) | with_reducible exact Nat.lt_of_lt_of_le (Nat.add_lt_add_right (by assumption) _) (by decide) | with_reducible exact Int.natCast_nonneg _ | omega)) (by (first | decide | with_reducible assumption | with_reducible exact Nat.le_trans (by assumption) (by decide) | with_reducible exact Nat.lt_of_lt_of_le (Nat.add_lt_add_right (by assumption) _) (by decide) | with_reducible exact Int.natCast_nonneg _ | omega)) fun h' F' N' => ?_
      rw [show ((n : Nat) : Int).toNat = n from rfl] at N'
      clear F N
      repeat ((try dsimp only [WPost, Turn]); (fail_if_success (first | (with_reducible show wpAny _ _ (exec (Stmt.While _ _ _ _) _) _ _ _) | (with_reducible show wpAny _ _ (exec (Stmt.For _ _ _ _ _) _) _ _ _) | (with_reducible show wpAny _ _ (call (Value.ref _) _ _) _ _ _) | (with_reducible show wpAny _ _ (subscriptTail _ _ _ _) _ _ _) | (with_reducible show wpAny _ _ (setItem _ _ _) _ _ _) | (with_reducible show wpAny _ _ (compareOp CmpOp.Lt _ _) _ _ _))); walk1)
      refine hR _ _ _ (back _ F'.keep) (N' _ (List.mem_cons_self ..)).1 hpm ?_
      rw [at_set hq]
      refine hole_end hHq hxq fun q hq1 hq2 => ?_
      have := hDq.ge
      unfold Child at hq2
      (first | decide | with_reducible assumption | with_reducible exact Nat.le_trans (by assumption) (by decide) | with_reducible exact Nat.lt_of_lt_of_le (Nat.add_lt_add_right (by assumption) _) (by decide) | with_reducible exact Int.natCast_nonneg _ | omega)
  · exact ⟨_, _, _, vs, p, t2, rfl, F, ⟨rfl, rfl, rfl, rfl, trivial⟩, N, rfl, hp, rfl, hD, hH, hx, perm_here hp (.refl _), hV⟩
end
end Mine
namespace Mine
open PySem PySem.W PySem.Calls PyProof.Rows
theorem fillH2 : (PySem.Challenge.rw_pd0156_01 = PySem.Challenge.rw_pd0156_01) ∧ hd.heap_39 = hd.heap_39 := by
  k_fill
  exact ⟨rfl, rfl⟩

theorem hole_upd {α : Type} {le : α → α → Prop} {n st p : Nat} {f : Nat → α} {x : α} (h : Hole le n st p f) : Hole le n st p (upd f p x) where
  edge := fun i j a b k i1 j1 => by rw [upd_ne _ _ i1, upd_ne _ _ j1]; exact h.edge i j a b k i1 j1
  gp := fun q j a b k k2 => by
    rw [upd_ne _ _ (by unfold Child at k; (first | decide | with_reducible assumption | with_reducible exact Nat.le_trans (by assumption) (by decide) | with_reducible exact Nat.lt_of_lt_of_le (Nat.add_lt_add_right (by assumption) _) (by decide) | with_reducible exact Int.natCast_nonneg _ | omega)), upd_ne _ _ (by unfold Child at k2; (first | decide | with_reducible assumption | with_reducible exact Nat.le_trans (by assumption) (by decide) | with_reducible exact Nat.lt_of_lt_of_le (Nat.add_lt_add_right (by assumption) _) (by decide) | with_reducible exact Int.natCast_nonneg _ | omega))]; exact h.gp q j a b k k2
section
variable {prog : Program} {w : World} {A : Around} {R : Result → Shared → Prop} {s : Shared} {h₀ : Heap} {E : Value → Shared → Prop}

theorem siftup_spec {lt : Value → Value → Bool} (O : Ord lt) {V : List Value} (C : CmpOk prog w h₀ lt V) (B : Base w h₀) (st : h₀.StaysIn s.heap) (hr : A.depth < 899) (hu : A.units < 490)
  {a : Addr} {vs : List Value} {ep : Nat} (ha : s.heap.get? a = some (listOf vs.toArray ep)) (ha0 : h₀.get? a = none) (hV : ∀ v ∈ vs, v ∈ V) (hlen : vs.length ≤ 1000)
  {p : Nat} {t2 : Tok} (hp : p < vs.length) (hH : HeapAt (leOf lt) vs.length (p + 1) (at_ vs))
  (hR : ∀ vs' h' tk, Mod [a] s.heap h' → h'.get? a = some (listOf (List.toArray vs') ep) → vs'.Perm vs → HeapAt (leOf lt) vs.length p (at_ vs') → R (.ok (.ret .none)) ⟨h', s.gens, s.drawn, tk, s.os⟩) :
  codeAny (model prog w) A (.call (.ref 110) ⟨[.ref a, .int p t2], []⟩) R s := by
  refine' enter (binds := [("heap", .ref a), ("pos", .int p t2)]) [(a, listOf vs.toArray ep)] B st (by intro q hq; rw [List.mem_singleton.mp hq]; exact ⟨ha, ha0⟩) ?ho ?hcd ?hroom ?hbind ?hloc ?_ ?hco ?hgen ?hk ?hcell
  case hroom => exact Nat.lt_of_lt_of_le hr (by decide)
  ((case ho => k_is); (case hcd => k_is); (case hbind => exact BindsTo.of_eq rfl); (case hloc => exact locs rfl); (case hco => exact rfl); (case hgen => exact rfl); (case hk => exact rfl); (case hcell => decide))
  intro g L h₁ tk Bg F N back hL hSg hg
  have X := Bg.X
  obtain ⟨pT, lT, mg, mb, T⟩ := Bg.T
  have st' : h₀.StaysIn g := fun b o e => hg b o (by intro q; simp at q; subst q; rw [ha0] at e; cases e) (st b o e)
  repeat ((try dsimp only [WPost, Turn]); (fail_if_success (first | (with_reducible show wpAny _ _ (exec (Stmt.While _ _ _ _) _) _ _ _) | (with_reducible show wpAny _ _ (exec (Stmt.For _ _ _ _ _) _) _ _ _) | (with_reducible show wpAny _ _ (call (Value.ref _) _ _) _ _ _) | (with_reducible show wpAny _ _ (subscriptTail _ _ _ _) _ _ _) | (with_reducible show wpAny _ _ (getItem _ _) _ _ _) | (with_reducible show wpAny _ _ (setItem _ _ _) _ _ _) | (with_reducible show wpAny _ _ (compareOp CmpOp.Lt (at_ _ _) _) _ _ _))); walk1)
  refine len_list (News.isList N (List.mem_cons_self ..)) (by rw [List.size_toArray]; (first | decide | with_reducible assumption | with_reducible exact Nat.le_trans (by assumption) (by decide) | with_reducible exact Nat.lt_of_lt_of_le (Nat.add_lt_add_right (by assumption) _) (by decide) | with_reducible exact Int.natCast_nonneg _ | omega)) ?_
  rw [List.size_toArray]
  repeat ((try dsimp only [WPost, Turn]); (fail_if_success (first | (with_reducible show wpAny _ _ (exec (Stmt.While _ _ _ _) _) _ _ _) | (with_reducible show wpAny _ _ (exec (Stmt.For _ _ _ _ _) _) _ _ _) | (with_reducible show wpAny _ _ (call (Value.ref _) _ _) _ _ _) | (with_reducible show wpAny _ _ (subscriptTail _ _ _ _) _ _ _) | (with_reducible show wpAny _ _ (getItem _ _) _ _ _) | (with_reducible show wpAny _ _ (setItem _ _ _) _ _ _) | (with_reducible show wpAny _ _ (compareOp CmpOp.Lt (at_ _ _) _) _ _ _))); walk1)
  rename Fr g L _ _ => F
  rename News g L _ _ => N
  refine kim_list N (List.mem_cons_self ..) rfl rfl (by (first | decide | with_reducible assumption | with_reducible exact Nat.le_trans (by assumption) (by decide) | with_reducible exact Nat.lt_of_lt_of_le (Nat.add_lt_add_right (by assumption) _) (by decide) | with_reducible exact Int.natCast_nonneg _ | omega)) (by (first | decide | with_reducible assumption | with_reducible exact Nat.le_trans (by assumption) (by decide) | with_reducible exact Nat.lt_of_lt_of_le (Nat.add_lt_add_right (by assumption) _) (by decide) | with_reducible exact Int.natCast_nonneg _ | omega)) (at_get hp) ?_
  repeat ((try dsimp only [WPost, Turn]); (fail_if_success (first | (with_reducible show wpAny _ _ (exec (Stmt.While _ _ _ _) _) _ _ _) | (with_reducible show wpAny _ _ (exec (Stmt.For _ _ _ _ _) _) _ _ _) | (with_reducible show wpAny _ _ (call (Value.ref _) _ _) _ _ _) | (with_reducible show wpAny _ _ (subscriptTail _ _ _ _) _ _ _) | (with_reducible show wpAny _ _ (getItem _ _) _ _ _) | (with_reducible show wpAny _ _ (setItem _ _ _) _ _ _) | (with_reducible show wpAny _ _ (compareOp CmpOp.Lt (at_ _ _) _) _ _ _))); walk1)
  rename Fr g L _ _ => F
  rename News g L _ _ => N
  refine while_ (fun n s' => ∃ h tk m us q tq tc ts te, s' = ⟨h, s.gens, s.drawn, tk, s.os⟩ ∧ Fr g L h m ∧ Has m [("heap", .ref a), ("startpos", .int p ts), ("endpos", .int (vs.length : Nat) te), ("pos", .int (q : Nat) tq), ("childpos", .int (2 * (q : Nat) + 1) tc), ("newitem", at_ vs p)] ∧ News g L h [(a, listOf (List.toArray us) ep)] ∧ us.length = vs.length ∧ q < us.length ∧ n = vs.length - q ∧ Desc p q ∧
    Hole (leOf lt) vs.length p q (at_ us) ∧ (us.set q (at_ vs p)).Perm vs ∧ ∀ v ∈ us, v ∈ V) ?_ (vs.length - p) ?_
  · rintro n _ ⟨h, tk, m, us, q, tq, tc, ts, te, rfl, F, hm, N, hl, hq, rfl, hDq, hHq, hpm, hVu⟩
    replace F := Fr.over F hm
    dsimp only [over] at F
    repeat' ((try dsimp only [WPost, Turn]); (fail_if_success (first | (with_reducible show wpAny _ _ (exec (Stmt.While _ _ _ _) _) _ _ _) | (with_reducible show wpAny _ _ (exec (Stmt.For _ _ _ _ _) _) _ _ _) | (with_reducible show wpAny _ _ (call (Value.ref _) _ _) _ _ _) | (with_reducible show wpAny _ _ (subscriptTail _ _ _ _) _ _ _) | (with_reducible show wpAny _ _ (getItem _ _) _ _ _) | (with_reducible show wpAny _ _ (setItem _ _ _) _ _ _) | (with_reducible show wpAny _ _ (compareOp CmpOp.Lt (at_ _ _) _) _ _ _))); walk1)
    · rename Fr g L _ _ => F
      rename News g L _ _ => N
      have hc1 : (2 * (q : Int) + 1) < (vs.length : Int) := by assumption
      have hc2 : (2 * (q : Int) + 1 + 1) < (vs.length : Int) := by assumption
      refine kim_list N (List.mem_cons_self ..) rfl rfl (by (first | decide | with_reducible assumption | with_reducible exact Nat.le_trans (by assumption) (by decide) | with_reducible exact Nat.lt_of_lt_of_le (Nat.add_lt_add_right (by assumption) _) (by decide) | with_reducible exact Int.natCast_nonneg _ | omega)) (by (first | decide | with_reducible assumption | with_reducible exact Nat.le_trans (by assumption) (by decide) | with_reducible exact Nat.lt_of_lt_of_le (Nat.add_lt_add_right (by assumption) _) (by decide) | with_reducible exact Int.natCast_nonneg _ | omega)) (x := at_ us (2 * q + 1)) (by rw [show (2 * (q : Int) + 1).toNat = 2 * q + 1 by (first | decide | with_reducible assumption | with_reducible exact Nat.le_trans (by assumption) (by decide) | with_reducible exact Nat.lt_of_lt_of_le (Nat.add_lt_add_right (by assumption) _) (by decide) | with_reducible exact Int.natCast_nonneg _ | omega)]; exact at_get (by (first | decide | with_reducible assumption | with_reducible exact Nat.le_trans (by assumption) (by decide) | with_reducible exact Nat.lt_of_lt_of_le (Nat.add_lt_add_right (by assumption) _) (by decide) | with_reducible exact Int.natCast_nonneg _ | omega))) ?_
      repeat ((try dsimp only [WPost, Turn]); (fail_if_success (first | (with_reducible show wpAny _ _ (exec (Stmt.While _ _ _ _) _) _ _ _) | (with_reducible show wpAny _ _ (exec (Stmt.For _ _ _ _ _) _) _ _ _) | (with_reducible show wpAny _ _ (call (Value.ref _) _ _) _ _ _) | (with_reducible show wpAny _ _ (subscriptTail _ _ _ _) _ _ _) | (with_reducible show wpAny _ _ (getItem _ _) _ _ _) | (with_reducible show wpAny _ _ (setItem _ _ _) _ _ _) | (with_reducible show wpAny _ _ (compareOp CmpOp.Lt (at_ _ _) _) _ _ _))); walk1)
      refine kim_list N (List.mem_cons_self ..) rfl rfl (by (first | decide | with_reducible assumption | with_reducible exact Nat.le_trans (by assumption) (by decide) | with_reducible exact Nat.lt_of_lt_of_le (Nat.add_lt_add_right (by assumption) _) (by decide) | with_reducible exact Int.natCast_nonneg _ | omega)) (by (first | decide | with_reducible assumption | with_reducible exact Nat.le_trans (by assumption) (by decide) | with_reducible exact Nat.lt_of_lt_of_le (Nat.add_lt_add_right (by assumption) _) (by decide) | with_reducible exact Int.natCast_nonneg _ | omega)) (x := at_ us (2 * q + 2)) (by rw [show (2 * (q : Int) + 1 + 1).toNat = 2 * q + 2 by (first | decide | with_reducible assumption | with_reducible exact Nat.le_trans (by assumption) (by decide) | with_reducible exact Nat.lt_of_lt_of_le (Nat.add_lt_add_right (by assumption) _) (by decide) | with_reducible exact Int.natCast_nonneg _ | omega)]; exact at_get (by (first | decide | with_reducible assumption | with_reducible exact Nat.le_trans (by assumption) (by decide) | with_reducible exact Nat.lt_of_lt_of_le (Nat.add_lt_add_right (by assumption) _) (by decide) | with_reducible exact Int.natCast_nonneg _ | omega))) ?_
      repeat ((try dsimp only [WPost, Turn]); (fail_if_success (first | (with_reducible show wpAny _ _ (exec (Stmt.While _ _ _ _) _) _ _ _) | (with_reducible show wpAny _ _ (exec (Stmt.For _ _ _ _ _) _) _ _ _) | (with_reducible show wpAny _ _ (call (Value.ref _) _ _) _ _ _) | (with_reducible show wpAny _ _ (subscriptTail _ _ _ _) _ _ _) | (with_reducible show wpAny _ _ (getItem _ _) _ _ _) | (with_reducible show wpAny _ _ (setItem _ _ _) _ _ _) | (with_reducible show wpAny _ _ (compareOp CmpOp.Lt (at_ _ _) _) _ _ _))); walk1)
      refine C _ (hVu _ (at_mem (by (first | decide | with_reducible assumption | with_reducible exact Nat.le_trans (by assumption) (by decide) | with_reducible exact Nat.lt_of_lt_of_le (Nat.add_lt_add_right (by assumption) _) (by decide) | with_reducible exact Int.natCast_nonneg _ | omega)))) _ (hVu _ (at_mem (by (first | decide | with_reducible assumption | with_reducible exact Nat.le_trans (by assumption) (by decide) | with_reducible exact Nat.lt_of_lt_of_le (Nat.add_lt_add_right (by assumption) _) (by decide) | with_reducible exact Int.natCast_nonneg _ | omega)))) _ _ _ (by show A.units + 3 < 600; (first | decide | with_reducible assumption | with_reducible exact Nat.le_trans (by assumption) (by decide) | with_reducible exact Nat.lt_of_lt_of_le (Nat.add_lt_add_right (by assumption) _) (by decide) | with_reducible exact Int.natCast_nonneg _ | omega)) (fun b o e => F.keep b o (st' b o e)) fun tk2 => ?_
      dsimp only
      cases hb : lt (at_ us (2 * q + 1)) (at_ us (2 * q + 2)) with
      | true =>
        repeat ((try dsimp only [WPost, Turn]); (fail_if_success (first | (with_reducible show wpAny _ _ (exec (Stmt.While _ _ _ _) _) _ _ _) | (with_reducible show wpAny _ _ (exec (Stmt.For _ _ _ _ _) _) _ _ _) | (with_reducible show wpAny _ _ (call (Value.ref _) _ _) _ _ _) | (with_reducible show wpAny _ _ (subscriptTail _ _ _ _) _ _ _) | (with_reducible show wpAny _ _ (getItem _ _) _ _ _) | (with_reducible show wpAny _ _ (setItem _ _ _) _ _ _) | (with_reducible show wpAny _ _ (compareOp CmpOp.Lt (at_ _ _) _) _ _ _))); walk1)
        refine kim_list N (List.mem_cons_self ..) rfl rfl (by (first | decide | with_reducible assumption | with_reducible exact Nat.le_trans (by assumption) (by decide) | with_reducible exact Nat.lt_of_lt_of_le (Nat.add_lt_add_right (by assumption) _) (by decide) | with_reducible exact Int.natCast_nonneg _ | omega)) (by (first | decide | with_reducible assumption | with_reducible exact Nat.le_trans (by assumption) (by decide) | with_reducible exact Nat.lt_of_lt_of_le (Nat.add_lt_add_right (by assumption) _) (by decide) | with_reducible exact Int.natCast_nonneg _ | omega)) (x := at_ us (2 * q + 1)) (by rw [show (2 * (q : Int) + 1 : Int).toNat = 2 * q + 1 by (first | decide | with_reducible assumption | with_reducible exact Nat.le_trans (by assumption) (by decide) | with_reducible exact Nat.lt_of_lt_of_le (Nat.add_lt_add_right (by assumption) _) (by decide) | with_reducible exact Int.natCast_nonneg _ | omega)]; exact at_get (by (first | decide | with_reducible assumption | with_reducible exact Nat.le_trans (by assumption) (by decide) | with_reducible exact Nat.lt_of_lt_of_le (Nat.add_lt_add_right (by assumption) _) (by decide) | with_reducible exact Int.natCast_nonneg _ | omega))) ?_
        repeat ((try dsimp only [WPost, Turn]); (fail_if_success (first | (with_reducible show wpAny _ _ (exec (Stmt.While _ _ _ _) _) _ _ _) | (with_reducible show wpAny _ _ (exec (Stmt.For _ _ _ _ _) _) _ _ _) | (with_reducible show wpAny _ _ (call (Value.ref _) _ _) _ _ _) | (with_reducible show wpAny _ _ (subscriptTail _ _ _ _) _ _ _) | (with_reducible show wpAny _ _ (getItem _ _) _ _ _) | (with_reducible show wpAny _ _ (setItem _ _ _) _ _ _) | (with_reducible show wpAny _ _ (compareOp CmpOp.Lt (at_ _ _) _) _ _ _))); walk1)
        refine set_at (vs := us) F N (.head (by intro _ h; cases h)) (by (first | decide | with_reducible assumption | with_reducible exact Nat.le_trans (by assumption) (by decide) | with_reducible exact Nat.lt_of_lt_of_le (Nat.add_lt_add_right (by assumption) _) (by decide) | with_reducible exact Int.natCast_nonneg _ | omega)) (by (first | decide | with_reducible assumption | with_reducible exact Nat.le_trans (by assumption) (by decide) | with_reducible exact Nat.lt_of_lt_of_le (Nat.add_lt_add_right (by assumption) _) (by decide) | with_reducible exact Int.natCast_nonneg _ | omega)) (by (first | decide | with_reducible assumption | with_reducible exact Nat.le_trans (by assumption) (by decide) | with_reducible exact Nat.lt_of_lt_of_le (Nat.add_lt_add_right (by assumption) _) (by decide) | with_reducible exact Int.natCast_nonneg _ | omega)) fun h' F' N' => ?_
        rw [show ((q : Nat) : Int).toNat = q from rfl] at N'
        clear F N
        repeat ((try dsimp only [WPost, Turn]); (fail_if_success (first | (with_reducible show wpAny _ _ (exec (Stmt.While _ _ _ _) _) _ _ _) | (with_reducible show wpAny _ _ (exec (Stmt.For _ _ _ _ _) _) _ _ _) | (with_reducible show wpAny _ _ (call (Value.ref _) _ _) _ _ _) | (with_reducible show wpAny _ _ (subscriptTail _ _ _ _) _ _ _) | (with_reducible show wpAny _ _ (getItem _ _) _ _ _) | (with_reducible show wpAny _ _ (setItem _ _ _) _ _ _) | (with_reducible show wpAny _ _ (compareOp CmpOp.Lt (at_ _ _) _) _ _ _))); walk1)
        rename Fr g L _ _ => F
        rename News g L _ _ => N
        have hcc : Child q (2 * q + 1) := by unfold Child; (first | decide | with_reducible assumption | with_reducible exact Nat.le_trans (by assumption) (by decide) | with_reducible exact Nat.lt_of_lt_of_le (Nat.add_lt_add_right (by assumption) _) (by decide) | with_reducible exact Int.natCast_nonneg _ | omega)
        refine ⟨vs.length - (2 * q + 1), by (first | decide | with_reducible assumption | with_reducible exact Nat.le_trans (by assumption) (by decide) | with_reducible exact Nat.lt_of_lt_of_le (Nat.add_lt_add_right (by assumption) _) (by decide) | with_reducible exact Int.natCast_nonneg _ | omega), _, _, _, us.set q (at_ us (2 * q + 1)), 2 * q + 1, _, _, _, _, rfl, F, ⟨rfl, rfl, rfl, by first | rfl | (congr 2), by first | rfl | (congr 2), rfl, trivial⟩, N, by simpa using hl, by simp; (first | decide | with_reducible assumption | with_reducible exact Nat.le_trans (by assumption) (by decide) | with_reducible exact Nat.lt_of_lt_of_le (Nat.add_lt_add_right (by assumption) _) (by decide) | with_reducible exact Int.natCast_nonneg _ | omega), rfl, .down hDq hcc, ?_, ?_, ?_⟩
        · rw [at_set hq]
          refine hole_down hHq hDq.ge hcc (by (first | decide | with_reducible assumption | with_reducible exact Nat.le_trans (by assumption) (by decide) | with_reducible exact Nat.lt_of_lt_of_le (Nat.add_lt_add_right (by assumption) _) (by decide) | with_reducible exact Int.natCast_nonneg _ | omega)) fun o ho1 ho2 ho3 => ?_
          have : o = 2 * q + 2 := by unfold Child at ho2; (first | decide | with_reducible assumption | with_reducible exact Nat.le_trans (by assumption) (by decide) | with_reducible exact Nat.lt_of_lt_of_le (Nat.add_lt_add_right (by assumption) _) (by decide) | with_reducible exact Int.natCast_nonneg _ | omega)
          rw [this]; exact O.as _ _ hb
        · exact perm_move hq (by (first | decide | with_reducible assumption | with_reducible exact Nat.le_trans (by assumption) (by decide) | with_reducible exact Nat.lt_of_lt_of_le (Nat.add_lt_add_right (by assumption) _) (by decide) | with_reducible exact Int.natCast_nonneg _ | omega)) (by (first | decide | with_reducible assumption | with_reducible exact Nat.le_trans (by assumption) (by decide) | with_reducible exact Nat.lt_of_lt_of_le (Nat.add_lt_add_right (by assumption) _) (by decide) | with_reducible exact Int.natCast_nonneg _ | omega)) hpm
        · intro v hv
          rcases List.mem_or_eq_of_mem_set hv with h | h
          · exact hVu v h
          · rw [h]; exact hVu _ (at_mem (by (first | decide | with_reducible assumption | with_reducible exact Nat.le_trans (by assumption) (by decide) | with_reducible exact Nat.lt_of_lt_of_le (Nat.add_lt_add_right (by assumption) _) (by decide) | with_reducible exact Int.natCast_nonneg _ | omega)))
      | false =>
        repeat ((try dsimp only [WPost, Turn]); (fail_if_success (first | (with_reducible show wpAny _ _ (exec (Stmt.While _ _ _ _) _) _ _ _) | (with_reducible show wpAny _ _ (exec (Stmt.For _ _ _ _ _) _) _ _ _) | (with_reducible show wpAny _ _ (call (Value.ref _) _ _) _ _ _) | (with_reducible show wpAny _ _ (subscriptTail _ _ _ _) _ _ _) | (with_reducible show wpAny _ _ (getItem _ _) _ _ _) | (with_reducible show wpAny _ _ (setItem _ _ _) _ _ _) | (with_reducible show wpAny _ _ (compareOp CmpOp.Lt (at_ _ _) _) _ _ _))); walk1)
        rename Fr g L _ _ => F
        rename News g L _ _ => N
        refine kim_list N (List.mem_cons_self ..) rfl rfl (by (first | decide | with_reducible assumption | with_reducible exact Nat.le_trans (by assumption) (by decide) | with_reducible exact Nat.lt_of_lt_of_le (Nat.add_lt_add_right (by assumption) _) (by decide) | with_reducible exact Int.natCast_nonneg _ | omega)) (by (first | decide | with_reducible assumption | with_reducible exact Nat.le_trans (by assumption) (by decide) | with_reducible exact Nat.lt_of_lt_of_le (Nat.add_lt_add_right (by assumption) _) (by decide) | with_reducible exact Int.natCast_nonneg _ | omega)) (x := at_ us (2 * q + 2)) (by rw [show (2 * (q : Int) + 1 + 1 : Int).toNat = 2 * q + 2 by (first | decide | with_reducible assumption | with_reducible exact Nat.le_trans (by assumption) (by decide) | with_reducible exact Nat.lt_of_lt_of_le (Nat.add_lt_add_right (by assumption) _) (by decide) | with_reducible exact Int.natCast_nonneg _ | omega)]; exact at_get (by (first | decide | with_reducible assumption | with_reducible exact Nat.le_trans (by assumption) (by decide) | with_reducible exact Nat.lt_of_lt_of_le (Nat.add_lt_add_right (by assumption) _) (by decide) | with_reducible exact Int.natCast_nonneg _ | omega))) ?_
        repeat ((try dsimp only [WPost, Turn]); (fail_if_success (first | (with_reducible show wpAny _ _ (exec (Stmt.While _ _ _ _) _) _ _ _) | (with_reducible show wpAny _ _ (exec (Stmt.For _ _ _ _ _) _) _ _ _) | (with_reducible show wpAny _ _ (call (Value.ref _) _ _) _ _ _) | (with_reducible show wpAny _ _ (subscriptTail _ _ _ _) _ _ _) | (with_reducible show wpAny _ _ (getItem _ _) _ _ _) | (with_reducible show wpAny _ _ (setItem _ _ _) _ _ _) | (with_reducible show wpAny _ _ (compareOp CmpOp.Lt (at_ _ _) _) _ _ _))); walk1)
        refine set_at (vs := us) F N (.head (by intro _ h; cases h)) (by (first | decide | with_reducible assumption | with_reducible exact Nat.le_trans (by assumption) (by decide) | with_reducible exact Nat.lt_of_lt_of_le (Nat.add_lt_add_right (by assumption) _) (by decide) | with_reducible exact Int.natCast_nonneg _ | omega)) (by (first | decide | with_reducible assumption | with_reducible exact Nat.le_trans (by assumption) (by decide) | with_reducible exact Nat.lt_of_lt_of_le (Nat.add_lt_add_right (by assumption) _) (by decide) | with_reducible exact Int.natCast_nonneg _ | omega)) (by (first | decide | with_reducible assumption | with_reducible exact Nat.le_trans (by assumption) (by decide) | with_reducible exact Nat.lt_of_lt_of_le (Nat.add_lt_add_right (by assumption) _) (by decide) | with_reducible exact Int.natCast_nonneg _ | omega)) fun h' F' N' => ?_
        rw [show ((q : Nat) : Int).toNat = q from rfl] at N'
        clear F N
        repeat ((try dsimp only [WPost, Turn]); (fail_if_success (first | (with_reducible show wpAny _ _ (exec (Stmt.While _ _ _ _) _) _ _ _) | (with_reducible show wpAny _ _ (exec (Stmt.For _ _ _ _ _) _) _ _ _) | (with_reducible show wpAny _ _ (call (Value.ref _) _ _) _ _ _) | (with_reducible show wpAny _ _ (subscriptTail _ _ _ _) _ _ _) | (with_reducible show wpAny _ _ (getItem _ _) _ _ _) | (with_reducible show wpAny _ _ (setItem _ _ _) _ _ _) | (with_reducible show wpAny _ _ (compareOp CmpOp.Lt (at_ _ _) _) _ _ _))); walk1)
        rename Fr g L _ _ => F
        rename News g L _ _ => N
        have hcc : Child q (2 * q + 2) := by unfold Child; (first | decide | with_reducible assumption | with_reducible exact Nat.le_trans (by assumption) (by decide) | with_reducible exact Nat.lt_of_lt_of_le (Nat.add_lt_add_right (by assumption) _) (by decide) | with_reducible exact Int.natCast_nonneg _ | omega)
        refine ⟨vs.length - (2 * q + 2), by (first | decide | with_reducible assumption | with_reducible exact Nat.le_trans (by assumption) (by decide) | with_reducible exact Nat.lt_of_lt_of_le (Nat.add_lt_add_right (by assumption) _) (by decide) | with_reducible exact Int.natCast_nonneg _ | omega), _, _, _, us.set q (at_ us (2 * q + 2)), 2 * q + 2, _, _, _, _, rfl, F, ⟨rfl, rfl, rfl, by first | rfl | (congr 2), by first | rfl | (congr 2), rfl, trivial⟩, N, by simpa using hl, by simp; (first | decide | with_reducible assumption | with_reducible exact Nat.le_trans (by assumption) (by decide) | with_reducible exact Nat.lt_of_lt_of_le (Nat.add_lt_add_right (by assumption) _) (by decide) | with_reducible exact Int.natCast_nonneg _ | omega), rfl, .down hDq hcc, ?_, ?_, ?_⟩
        · rw [at_set hq]
          refine hole_down hHq hDq.ge hcc (by (first | decide | with_reducible assumption | with_reducible exact Nat.le_trans (by assumption) (by decide) | with_reducible exact Nat.lt_of_lt_of_le (Nat.add_lt_add_right (by assumption) _) (by decide) | with_reducible exact Int.natCast_nonneg _ | omega)) fun o ho1 ho2 ho3 => ?_
          have : o = 2 * q + 1 := by unfold Child at ho2; (first | decide | with_reducible assumption | with_reducible exact Nat.le_trans (by assumption) (by decide) | with_reducible exact Nat.lt_of_lt_of_le (Nat.add_lt_add_right (by assumption) _) (by decide) | with_reducible exact Int.natCast_nonneg _ | omega)
          rw [this]; exact hb
        · exact perm_move hq (by (first | decide | with_reducible assumption | with_reducible exact Nat.le_trans (by assumption) (by decide) | with_reducible exact Nat.lt_of_lt_of_le (Nat.add_lt_add_right (by assumption) _) (by decide) | with_reducible exact Int.natCast_nonneg _ | omega)) (by (first | decide | with_reducible assumption | with_reducible exact Nat.le_trans (by assumption) (by decide) | with_reducible exact Nat.lt_of_lt_of_le (Nat.add_lt_add_right (by assumption) _) (by decide) | with_reducible exact Int.natCast_nonneg _ | omega)) hpm
        · intro v hv
          rcases List.mem_or_eq_of_mem_set hv with h | h
          · exact hVu v h
          · rw [h]; exact hVu _ (at_mem (by (first | decide | with_reducible assumption | with_reducible exact Nat.le_trans (by assumption) (by decide) | with_reducible exact Nat.lt_of_lt_of_le (Nat.add_lt_add_right (by assumption) _) (by decide) | with_reducible exact Int.natCast_nonneg _ | omega)))
    · rename Fr g L _ _ => F
      rename News g L _ _ => N
      have hc1 : (2 * (q : Int) + 1) < (vs.length : Int) := by assumption
      have hc2 : ¬ (2 * (q : Int) + 1 + 1) < (vs.length : Int) := by assumption
      refine kim_list N (List.mem_cons_self ..) rfl rfl (by (first | decide | with_reducible assumption | with_reducible exact Nat.le_trans (by assumption) (by decide) | with_reducible exact Nat.lt_of_lt_of_le (Nat.add_lt_add_right (by assumption) _) (by decide) | with_reducible exact Int.natCast_nonneg _ | omega)) (by (first | decide | with_reducible assumption | with_reducible exact Nat.le_trans (by assumption) (by decide) | with_reducible exact Nat.lt_of_lt_of_le (Nat.add_lt_add_right (by assumption) _) (by decide) | with_reducible exact Int.natCast_nonneg _ | omega)) (x := at_ us (2 * q + 1)) (by rw [show (2 * (q : Int) + 1 : Int).toNat = 2 * q + 1 by (first | decide | with_reducible assumption | with_reducible exact Nat.le_trans (by assumption) (by decide) | with_reducible exact Nat.lt_of_lt_of_le (Nat.add_lt_add_right (by assumption) _) (by decide) | with_reducible exact Int.natCast_nonneg _ | omega)]; exact at_get (by (first | decide | with_reducible assumption | with_reducible exact Nat.le_trans (by assumption) (by decide) | with_reducible exact Nat.lt_of_lt_of_le (Nat.add_lt_add_right (by assumption) _) (by decide) | with_reducible exact Int.natCast_nonneg _ | omega))) ?_
      repeat ((try dsimp only [WPost, Turn]); (fail_if_success (first | (with_reducible show wpAny _ _ (exec (Stmt.While _ _ _ _) _) _ _ _) | (with_reducible show wpAny _ _ (exec (Stmt.For _ _ _ _ _) _) _ _ _) | (with_reducible show wpAny _ _ (call (Value.ref _) _ _) _ _ _) | (with_reducible show wpAny _ _ (subscriptTail _ _ _ _) _ _ _) | (with_reducible show wpAny _ _ (getItem _ _) _ _ _) | (with_reducible show wpAny _ _ (setItem _ _ _) _ _ _) | (with_reducible show wpAny _ _ (compareOp CmpOp.Lt (at_ _ _) _) _ _ _))); walk1)
      refine set_at (vs := us) F N (.head (by intro _ h; cases h)) (by (first | decide | with_reducible assumption | with_reducible exact Nat.le_trans (by assumption) (by decide) | with_reducible exact Nat.lt_of_lt_of_le (Nat.add_lt_add_right (by assumption) _) (by decide) | with_reducible exact Int.natCast_nonneg _ | omega)) (by (first | decide | with_reducible assumption | with_reducible exact Nat.le_trans (by assumption) (by decide) | with_reducible exact Nat.lt_of_lt_of_le (Nat.add_lt_add_right (by assumption) _) (by decide) | with_reducible exact Int.natCast_nonneg _ | omega)) (by (first | decide | with_reducible assumption | with_reducible exact Nat.le_trans (by assumption) (by decide) | with_reducible exact Nat.lt_of_lt_of_le (Nat.add_lt_add_right (by assumption) _) (by decide) | with_reducible exact Int.natCast_nonneg _ | omega)) fun h' F' N' => ?_
      rw [show ((q : Nat) : Int).toNat = q from rfl] at N'
      clear F N
      repeat ((try dsimp only [WPost, Turn]); (fail_if_success (first | (with_reducible show wpAny _ _ (exec (Stmt.While _ _ _ _) _) _ _ _) | (with_reducible show wpAny _ _ (exec (Stmt.For _ _ _ _ _) _) _ _ _) | (with_reducible show wpAny _ _ (call (Value.ref _) _ _) _ _ _) | (with_reducible show wpAny _ _ (subscriptTail _ _ _ _) _ _ _) | (with_reducible show wpAny _ _ (getItem _ _) _ _ _) | (with_reducible show wpAny _ _ (setItem _ _ _) _ _ _) | (with_reducible show wpAny _ _ (compareOp CmpOp.Lt (at_ _ _) _) _ _ _))); walk1)
      rename Fr g L _ _ => F
      rename News g L _ _ => N
      have hcc : Child q (2 * q + 1) := by unfold Child; (first | decide | with_reducible assumption | with_reducible exact Nat.le_trans (by assumption) (by decide) | with_reducible exact Nat.lt_of_lt_of_le (Nat.add_lt_add_right (by assumption) _) (by decide) | with_reducible exact Int.natCast_nonneg _ | omega)
      refine ⟨vs.length - (2 * q + 1), by (first | decide | with_reducible assumption | with_reducible exact Nat.le_trans (by assumption) (by decide) | with_reducible exact Nat.lt_of_lt_of_le (Nat.add_lt_add_right (by assumption) _) (by decide) | with_reducible exact Int.natCast_nonneg _ | omega), _, _, _, us.set q (at_ us (2 * q + 1)), 2 * q + 1, _, _, _, _, rfl, F, ⟨rfl, rfl, rfl, by first | rfl | (congr 2), by first | rfl | (congr 2), rfl, trivial⟩, N, by simpa using hl, by simp; (first | decide | with_reducible assumption | with_reducible exact Nat.le_trans (by assumption) (by decide) | with_reducible exact Nat.lt_of_lt_of_le (Nat.add_lt_add_right (by assumption) _) (by decide) | with_reducible exact Int.natCast_nonneg _ | omega), rfl, .down hDq hcc, ?_, ?_, ?_⟩
      · rw [at_set hq]
        refine hole_down hHq hDq.ge hcc (by (first | decide | with_reducible assumption | with_reducible exact Nat.le_trans (by assumption) (by decide) | with_reducible exact Nat.lt_of_lt_of_le (Nat.add_lt_add_right (by assumption) _) (by decide) | with_reducible exact Int.natCast_nonneg _ | omega)) fun o ho1 ho2 ho3 => ?_
        unfold Child at ho2; (first | decide | with_reducible assumption | with_reducible exact Nat.le_trans (by assumption) (by decide) | with_reducible exact Nat.lt_of_lt_of_le (Nat.add_lt_add_right (by assumption) _) (by decide) | with_reducible exact Int.natCast_nonneg _ | omega)
      · exact perm_move hq (by (first | decide | with_reducible assumption | with_reducible exact Nat.le_trans (by assumption) (by decide) | with_reducible exact Nat.lt_of_lt_of_le (Nat.add_lt_add_right (by assumption) _) (by decide) | with_reducible exact Int.natCast_nonneg _ | omega)) (by (first | decide | with_reducible assumption | with_reducible exact Nat.le_trans (by assumption) (by decide) | with_reducible exact Nat.lt_of_lt_of_le (Nat.add_lt_add_right (by assumption) _) (by decide) | with_reducible exact Int.natCast_nonneg _ | omega)) hpm
      · intro v hv
        rcases List.mem_or_eq_of_mem_set hv with h | h
        · exact hVu v h
        · rw [h]; exact hVu _ (at_mem (by (first | decide | with_reducible assumption | with_reducible exact Nat.le_trans (by assumption) (by decide) | with_reducible exact Nat.lt_of_lt_of_le (Nat.add_lt_add_right (by assumption) _) (by decide) | with_reducible exact Int.natCast_nonneg _ | omega)))
    · have hc1 : ¬ (2 * (q : Int) + 1) < (vs.length : Int) := by assumption
      refine set_at (vs := us) F N (.head (by intro _ h; cases h)) (by (first | decide | with_reducible assumption | with_reducible exact Nat.le_trans (by assumption) (by decide) | with_reducible exact Nat.lt_of_lt_of_le (Nat.add_lt_add_right (by assumption) _) (by decide) | with_reducible exact Int.natCast_nonneg _ | omega)) (by (first | decide | with_reducible assumption | with_reducible exact Nat.le_trans (by assumption) (by decide) | with_reducible exact Nat.lt_of_lt_of_le (Nat.add_lt_add_right (by assumption) _) (by decide) | with_reducible exact Int.natCast_nonneg _ | omega)) (by (first | decide | with_reducible assumption | with_reducible exact Nat.le_trans (by assumption) (by decide) | with_reducible exact Nat.lt_of_lt_of_le (Nat.add_lt_add_right (by assumption) _) (by decide) | with_reducible exact Int.natCast_nonneg _ | omega)) fun h' F' N' => ?_
      rw [show ((q : Nat) : Int).toNat = q from rfl] at N'
      clear F N
      repeat ((try dsimp only [WPost, Turn]); (fail_if_success (first | (with_reducible show wpAny _ _ (exec (Stmt.While _ _ _ _) _) _ _ _) | (with_reducible show wpAny _ _ (exec (Stmt.For _ _ _ _ _) _) _ _ _) | (with_reducible show wpAny _ _ (call (Value.ref _) _ _) _ _ _) | (with_reducible show wpAny _ _ (subscriptTail _ _ _ _) _ _ _) | (with_reducible show wpAny _ _ (getItem _ _) _ _ _) | (with_reducible show wpAny _ _ (setItem _ _ _) _ _ _) | (with_reducible show wpAny _ _ (compareOp CmpOp.Lt (at_ _ _) _) _ _ _))); walk1)
      rename Fr g L _ _ => F
      rename News g L _ _ => N
      have hz := N _ (List.mem_cons_self ..)
      refine wpAny_call (siftdown_spec (s := ⟨_, _, _, _, _⟩) O C (h₀ := h₀) B (fun b o e => F.keep b o (st' b o e)) (by show A.depth + 1 < 900; (first | decide | with_reducible assumption | with_reducible exact Nat.le_trans (by assumption) (by decide) | with_reducible exact Nat.lt_of_lt_of_le (Nat.add_lt_add_right (by assumption) _) (by decide) | with_reducible exact Int.natCast_nonneg _ | omega)) (by show A.units + 3 < 500; (first | decide | with_reducible assumption | with_reducible exact Nat.le_trans (by assumption) (by decide) | with_reducible exact Nat.lt_of_lt_of_le (Nat.add_lt_add_right (by assumption) _) (by decide) | with_reducible exact Int.natCast_nonneg _ | omega)) hz.1 ha0 ?_ (by simp; (first | decide | with_reducible assumption | with_reducible exact Nat.le_trans (by assumption) (by decide) | with_reducible exact Nat.lt_of_lt_of_le (Nat.add_lt_add_right (by assumption) _) (by decide) | with_reducible exact Int.natCast_nonneg _ | omega)) (by simpa using hq) hDq ?_ ?_ fun vs' h2 tk2 M ho hpm2 hH2 => ?_)
      · intro v hv
        exact hV v (hpm.subset hv)
      · rw [List.length_set, at_set hq, hl]; exact hole_upd hHq
      · intro j hj hc; rw [List.length_set] at hj; unfold Child at hc; (first | decide | with_reducible assumption | with_reducible exact Nat.le_trans (by assumption) (by decide) | with_reducible exact Nat.lt_of_lt_of_le (Nat.add_lt_add_right (by assumption) _) (by decide) | with_reducible exact Int.natCast_nonneg _ | omega)
      · have F2 := Fr.mod F M (by intro q; simp at q; exact hz.2.1 q.symm) (by intro x hx; rw [List.mem_singleton.mp hx]; exact hz.2.2)
        dsimp only
        repeat ((try dsimp only [WPost, Turn]); (fail_if_success (first | (with_reducible show wpAny _ _ (exec (Stmt.While _ _ _ _) _) _ _ _) | (with_reducible show wpAny _ _ (exec (Stmt.For _ _ _ _ _) _) _ _ _) | (with_reducible show wpAny _ _ (call (Value.ref _) _ _) _ _ _) | (with_reducible show wpAny _ _ (subscriptTail _ _ _ _) _ _ _) | (with_reducible show wpAny _ _ (getItem _ _) _ _ _) | (with_reducible show wpAny _ _ (setItem _ _ _) _ _ _) | (with_reducible show wpAny _ _ (compareOp CmpOp.Lt (at_ _ _) _) _ _ _))); walk1)
        exact hR _ _ _ (back _ F2.keep) ho (hpm2.trans hpm) (by rw [List.length_set, hl] at hH2; exact hH2)
  · exact ⟨_, _, _, vs, p, _, _, _, _, rfl, F, ⟨rfl, rfl, rfl, rfl, rfl, rfl, trivial⟩, N, rfl, hp, rfl, .here, hole_start hH, perm_here hp (.refl _), hV⟩
end
end Mine
namespace Mine
open PySem PySem.W PySem.Calls PyProof.Rows
section
variable {prog : Program} {w : World} {A : Around} {E : Value → Shared → Prop} {s : Shared}
theorem sub_ri_reversed : isSubtype (.type "range_iterator") (.type "reversed") = pure false := by rw [isSubtype_type]; kernel_rfl
def rngIt (a n c : Int) : Obj := { cls := .type "range_iterator", data := .fields #[rawInt a, rawInt n, rawInt c] }
theorem call_range_reversed {r : Addr} {n : Nat} {t u v : Tok} {Q : Value → Shared → Prop} (hn : n ≤ 1000) (hr : IsRange s.heap r 0 n 1 t u v)
    (h : Q (.ref s.heap.objs.size) { s with heap := s.heap.push (rngIt ((n : Int) - 1) n (-1)) }) : wpAny (model prog w) A (call (.builtin "range.__reversed__") [.ref r]) Q E s := by
  have hT : s.TypeIs (.ref r) "range" := ⟨_, hr, rfl⟩
  refine wpAny_call_entry F.slot_range_reversed hT F.entry_range_reversed ?_ (F.args_range_reversed_1 _)
  unfold Builtin.«range.__reversed__»
  refine wpAny_bind (wpAny_of_eq (a := Value.ref r) rfl ?_)
  unfold Builtin.Range.rangeFields
  have hsz : Builtin.Range.rangeSize 0 n 1 = (n : Int) := by
    unfold Builtin.Range.rangeSize
    rw [if_pos (by decide)]
    split <;> (first | decide | with_reducible assumption | with_reducible exact Nat.le_trans (by assumption) (by decide) | with_reducible exact Nat.lt_of_lt_of_le (Nat.add_lt_add_right (by assumption) _) (by decide) | with_reducible exact Int.natCast_nonneg _ | omega)
  have hfit : ∀ x : Int, -2000 ≤ x → x ≤ 2000 → Builtin.Range.rangeFitsLong x = true := fun x h1 h2 => by
    unfold Builtin.Range.rangeFitsLong
    simp only [Bool.and_eq_true, decide_eq_true_eq]
    (first | decide | with_reducible assumption | with_reducible exact Nat.le_trans (by assumption) (by decide) | with_reducible exact Nat.lt_of_lt_of_le (Nat.add_lt_add_right (by assumption) _) (by decide) | with_reducible exact Int.natCast_nonneg _ | omega)
  refine wpAny_bind (wpAny_bind (wpAny_field hr rfl (x := .int 0 t) rfl ?_))
  refine wpAny_bind (wpAny_of_eq (a := some 0) rfl ?_)
  refine wpAny_bind (wpAny_field hr rfl (x := .int n u) rfl ?_)
  refine wpAny_bind (wpAny_of_eq (a := some (n : Int)) rfl ?_)
  refine wpAny_bind (wpAny_field hr rfl (x := .int 1 v) rfl ?_)
  have ez : asInt? (.int 1 v) = pure (some 1) := rfl
  rw [ez, pure_bind]
  refine wpAny_pure ?_
  dsimp only
  rw [hsz, hfit 0 (by (first | decide | with_reducible assumption | with_reducible exact Nat.le_trans (by assumption) (by decide) | with_reducible exact Nat.lt_of_lt_of_le (Nat.add_lt_add_right (by assumption) _) (by decide) | with_reducible exact Int.natCast_nonneg _ | omega)) (by (first | decide | with_reducible assumption | with_reducible exact Nat.le_trans (by assumption) (by decide) | with_reducible exact Nat.lt_of_lt_of_le (Nat.add_lt_add_right (by assumption) _) (by decide) | with_reducible exact Int.natCast_nonneg _ | omega)), hfit n (by (first | decide | with_reducible assumption | with_reducible exact Nat.le_trans (by assumption) (by decide) | with_reducible exact Nat.lt_of_lt_of_le (Nat.add_lt_add_right (by assumption) _) (by decide) | with_reducible exact Int.natCast_nonneg _ | omega)) (by (first | decide | with_reducible assumption | with_reducible exact Nat.le_trans (by assumption) (by decide) | with_reducible exact Nat.lt_of_lt_of_le (Nat.add_lt_add_right (by assumption) _) (by decide) | with_reducible exact Int.natCast_nonneg _ | omega)), hfit 1 (by (first | decide | with_reducible assumption | with_reducible exact Nat.le_trans (by assumption) (by decide) | with_reducible exact Nat.lt_of_lt_of_le (Nat.add_lt_add_right (by assumption) _) (by decide) | with_reducible exact Int.natCast_nonneg _ | omega)) (by (first | decide | with_reducible assumption | with_reducible exact Nat.le_trans (by assumption) (by decide) | with_reducible exact Nat.lt_of_lt_of_le (Nat.add_lt_add_right (by assumption) _) (by decide) | with_reducible exact Int.natCast_nonneg _ | omega)), hfit (-1) (by (first | decide | with_reducible assumption | with_reducible exact Nat.le_trans (by assumption) (by decide) | with_reducible exact Nat.lt_of_lt_of_le (Nat.add_lt_add_right (by assumption) _) (by decide) | with_reducible exact Int.natCast_nonneg _ | omega)) (by (first | decide | with_reducible assumption | with_reducible exact Nat.le_trans (by assumption) (by decide) | with_reducible exact Nat.lt_of_lt_of_le (Nat.add_lt_add_right (by assumption) _) (by decide) | with_reducible exact Int.natCast_nonneg _ | omega)), hfit (0 - 1) (by (first | decide | with_reducible assumption | with_reducible exact Nat.le_trans (by assumption) (by decide) | with_reducible exact Nat.lt_of_lt_of_le (Nat.add_lt_add_right (by assumption) _) (by decide) | with_reducible exact Int.natCast_nonneg _ | omega)) (by (first | decide | with_reducible assumption | with_reducible exact Nat.le_trans (by assumption) (by decide) | with_reducible exact Nat.lt_of_lt_of_le (Nat.add_lt_add_right (by assumption) _) (by decide) | with_reducible exact Int.natCast_nonneg _ | omega))]
  simp only [Bool.and_self, Bool.not_true, Bool.false_eq_true, if_false, if_true]
  refine wpAny_bind (wpAny_newObj_type (wpAny_pure ⟨_, rfl, ?_⟩))
  have e : (0 : Int) + ((n : Int) - 1) * 1 = (n : Int) - 1 := by (first | decide | with_reducible assumption | with_reducible exact Nat.le_trans (by assumption) (by decide) | with_reducible exact Nat.lt_of_lt_of_le (Nat.add_lt_add_right (by assumption) _) (by decide) | with_reducible exact Int.natCast_nonneg _ | omega)
  rw [e]
  exact h

theorem code_reversed_range {r : Addr} {n : Nat} {t u v : Tok} {Q₁ : Value → Shared → Prop} (hn : n ≤ 1000) (hr : IsRange s.heap r 0 n 1 t u v)
    (h : Q₁ (.ref s.heap.objs.size) { s with heap := s.heap.push (rngIt ((n : Int) - 1) n (-1)) }) :
    codeAny (model prog w) A (.call (.builtin "reversed.__new__") ⟨[.type "reversed", .ref r], []⟩) (wants Q₁ E) s := by
  have hT : s.TypeIs (.ref r) "range" := ⟨_, hr, rfl⟩
  refine codeAny_of_tree ?_
  show wpAny _ A.in1 (do checkBuiltinCall "reversed.__new__" ⟨[.type "reversed", .ref r], []⟩; again (.builtin "reversed.__new__" ⟨[.type "reversed", .ref r], []⟩)) _ _ s
  refine wpAny_bind (wpAny_of_eq (F.newCall_reversed_1 _) (wpAny_pure ⟨plainId_quiet F.plain_reversed_new _, codeAny_builtin F.entry_reversed_new ?_⟩))
  rw [Around.under_plainId F.plain_reversed_new _]
  unfold Builtin.«reversed.__new__»
  refine wpAny_bind (wpAny_of_eq (newClass_reversed _) ?_)
  dsimp only
  refine wpAny_bind (wpAny_of_eq (a := ()) (by first | rfl | kernel_rfl) ?_)
  refine wpAny_bind (wpAny_of_eq (a := ()) (by first | rfl | kernel_rfl) ?_)
  try dsimp only
  refine wpAny_bind (wpAny_specialOf hT F.slot_range_reversed.lookup ?_)
  try dsimp only
  refine wpAny_bind (wpAny_of_eq (F.slot_range_reversed.bind _) ?_)
  try dsimp only
  first
  | rw [if_neg (show ¬ ((Value.builtin "range.__reversed__" == Value.none) = true) from Bool.false_ne_true)]
  | (show wpAny _ _ (if (Value.builtin "range.__reversed__" == Value.none) = true then _ else _) _ _ _; rw [if_neg (show ¬ ((Value.builtin "range.__reversed__" == Value.none) = true) from Bool.false_ne_true)])
  refine wpAny_bind (wpAny_rule ?_)
  refine wpAny_bind (m := runValue (.call (.builtin "range.__reversed__") ⟨[.ref r], []⟩)) (show wpAny _ _ (call (.builtin "range.__reversed__") [.ref r]) _ _ _ from call_range_reversed hn hr ?_)
  first
  | exact wpAny_pure h
  | exact wpAny_bind (wpAny_pure (wpAny_pure h))

theorem call_reversed_range {r : Addr} {n : Nat} {t u v : Tok} {Q : Value → Shared → Prop} (hn : n ≤ 1000) (hr : IsRange s.heap r 0 n 1 t u v)
    (h : Q (.ref s.heap.objs.size) { s with heap := s.heap.push (rngIt ((n : Int) - 1) n (-1)) }) : wpAny (model prog w) A (call (.type "reversed") [.ref r]) Q E s := by
  refine callType_other (U := "range_iterator") (Q₁ := fun obj s₁ => obj = .ref s.heap.objs.size ∧ s₁ = { s with heap := s.heap.push (rngIt ((n : Int) - 1) n (-1)) }) (by decide +kernel) F.create_reversed ⟨_, _, F.mro_reversed⟩ F.made_reversed sub_ri_reversed (F.typeCall_reversed_1 _) (code_reversed_range hn hr ⟨rfl, rfl⟩) ?_
  rintro obj s₁ ⟨rfl, rfl⟩
  exact ⟨⟨_, Heap.get?_push_size _ rfl, rfl⟩, h⟩
end

section
variable {prog : Program} {w : World} {A : Around} {s : Shared} {env : Env} {Q : Flow → Shared → Prop} {body : List Stmt}
/-- for i in reversed(range(n)) -/
theorem for_down {g : Heap} {x : Str} {I : Addr} {n : Nat} {m₀ : Str → Option Value} {nx₀ keep : List (Addr × Obj)} (hh : A.handled = none)
    (hr : s.heap.get? I = some (rngIt ((n : Int) - 1) n (-1))) (hI : g.get? I = none) (hLI : env.locals ≠ I)
    (F : Fr g env.locals s.heap m₀) (N : News g env.locals s.heap (nx₀ ++ keep)) (hne : ∀ p ∈ nx₀ ++ keep, p.1 ≠ I)
    (J : Nat → (Str → Option Value) → List (Addr × Obj) → Prop) (hJ : J 0 m₀ nx₀)
    (turn : ∀ i tv m₁ nx h tk oI, i < n → J i m₁ nx → (∀ p ∈ nx ++ keep, p.1 ≠ I) → Fr g env.locals h (fun y => if y = x then some (.int ((n - 1 - i : Nat) : Int) tv) else m₁ y) → News g env.locals h (nx ++ (keep ++ [(I, oI)])) →
      wpAny (model prog w) A (execs body env) (Turn g env.locals I oI keep (J (i + 1)) s Q) (fun _ _ => False) ⟨h, s.gens, s.drawn, tk, s.os⟩)
    (done : ∀ m' nx h tk, J n m' nx → Fr g env.locals h m' → News g env.locals h (nx ++ keep) → Q .next ⟨h, s.gens, s.drawn, tk, s.os⟩) :
    wpAny (model prog w) A (pyIter (.ref I)) (fun it s₂ => LoopAtV prog w A g env x body Q (fun _ _ => False) it s₂) (fun _ _ => False) s := by
  refine wpAny_pyIter_rangeiter (x := (n : Int) - 1) (left := n) (step := -1) hr ?_
  have Wk := Walks.range (prog := prog) (w := w) hh I ((n : Int) - 1) (-1) n
  refine loopAt (nx₀ := nx₀) (keep := keep) Wk (by have hr' : IsRangeIter s.heap I ((n : Int) - 1) n (-1) := hr; show IsRangeIter _ _ _ _ _; simpa using hr') hI ?_ ?_ F N hne ?_ (List.mem_cons_self ..) J hJ ?_ ?_
  · intro q
    exact hLI (List.mem_singleton.mp q)
  · intro b hb
    exact .inl (List.mem_singleton.mp hb)
  · intro i h e; exact ⟨_, e⟩
  · rintro i v m₁ nx h tk oI hi ⟨t, rfl⟩ hJ hne F₁ N₁
    have e : (n : Int) - 1 + (i : Int) * (-1) = ((n - 1 - i : Nat) : Int) := by (first | decide | with_reducible assumption | with_reducible exact Nat.le_trans (by assumption) (by decide) | with_reducible exact Nat.lt_of_lt_of_le (Nat.add_lt_add_right (by assumption) _) (by decide) | with_reducible exact Int.natCast_nonneg _ | omega)
    rw [e] at F₁
    exact turn i t m₁ nx h tk oI hi hJ hne F₁ N₁
  · intro m' nx h tk hj F₁ N₁ _
    exact done m' nx h tk hj F₁ N₁
theorem for_reversed {g : Heap} {x : Str} {r : Addr} {n : Nat} {t u v : Tok} {m₀ : Str → Option Value} {nx₀ keep : List (Addr × Obj)} (hh : A.handled = none) (hn : n ≤ 1000)
    (hr : IsRange s.heap r 0 n 1 t u v) (F : Fr g env.locals s.heap m₀) (N : News g env.locals s.heap (nx₀ ++ keep))
    (J : Nat → (Str → Option Value) → List (Addr × Obj) → Prop) (hJ : J 0 m₀ nx₀)
    (turn : ∀ I i tv m₁ nx h tk oI, i < n → J i m₁ nx → (∀ p ∈ nx ++ keep, p.1 ≠ I) → Fr g env.locals h (fun y => if y = x then some (.int ((n - 1 - i : Nat) : Int) tv) else m₁ y) → News g env.locals h (nx ++ (keep ++ [(I, oI)])) →
      wpAny (model prog w) A (execs body env) (Turn g env.locals I oI keep (J (i + 1)) s Q) (fun _ _ => False) ⟨h, s.gens, s.drawn, tk, s.os⟩)
    (done : ∀ m' nx h tk, J n m' nx → Fr g env.locals h m' → News g env.locals h (nx ++ keep) → Q .next ⟨h, s.gens, s.drawn, tk, s.os⟩) :
    wpAny (model prog w) A (call (.type "reversed") [.ref r]) (fun xv s₁ => wpAny (model prog w) A (pyIter xv) (fun it s₂ => LoopAtV prog w A g env x body Q (fun _ _ => False) it s₂) (fun _ _ => False) s₁) (fun _ _ => False) s :=
  call_reversed_range hn hr (for_down hh (Heap.get?_push_size _ rfl) (freshI F) (Nat.ne_of_lt F.ns.lt) (F.push _) (News.push0 N _) (News.neI N) J hJ (fun i tv m₁ nx h tk oI => turn _ i tv m₁ nx h tk oI) done)
end
end Mine
namespace Mine
open PySem PySem.W PySem.Calls PyProof.Rows
theorem fillH3 : (PySem.Challenge.rw_pd0156_01 = PySem.Challenge.rw_pd0156_01) ∧ hd.heap_39 = hd.heap_39 := by
  k_fill
  exact ⟨rfl, rfl⟩

section
variable {prog : Program} {w : World} {A : Around} {R : Result → Shared → Prop} {s : Shared} {h₀ : Heap} {E : Value → Shared → Prop}

theorem heapify_spec {lt : Value → Value → Bool} (O : Ord lt) {V : List Value} (C : CmpOk prog w h₀ lt V) (B : Base w h₀) (st : h₀.StaysIn s.heap) (hA : A.handled = none) (hr : A.depth < 898) (hu : A.units < 480)
  {a : Addr} {vs : List Value} {ep : Nat} (ha : s.heap.get? a = some (listOf vs.toArray ep)) (ha0 : h₀.get? a = none) (hV : ∀ v ∈ vs, v ∈ V) (hlen : vs.length ≤ 1000)
  (hR : ∀ vs' h' tk, Mod [a] s.heap h' → h'.get? a = some (listOf (List.toArray vs') ep) → vs'.Perm vs → HeapAt (leOf lt) vs.length 0 (at_ vs') → R (.ok (.ret .none)) ⟨h', s.gens, s.drawn, tk, s.os⟩) :
  codeAny (model prog w) A (.call (.ref 96) ⟨[.ref a], []⟩) R s := by
  refine' enter (binds := [("x", .ref a)]) [(a, listOf vs.toArray ep)] B st (by intro q hq; rw [List.mem_singleton.mp hq]; exact ⟨ha, ha0⟩) ?ho ?hcd ?hroom ?hbind ?hloc ?_ ?hco ?hgen ?hk ?hcell
  case hroom => exact Nat.lt_of_lt_of_le hr (by decide)
  ((case ho => k_is); (case hcd => k_is); (case hbind => exact BindsTo.of_eq rfl); (case hloc => exact locs rfl); (case hco => exact rfl); (case hgen => exact rfl); (case hk => exact rfl); (case hcell => decide))
  intro g L h₁ tk Bg F N back hL hSg hg
  have X := Bg.X
  obtain ⟨pT, lT, mg, mb, T⟩ := Bg.T
  have st' : h₀.StaysIn g := fun b o e => hg b o (by intro q; simp at q; subst q; rw [ha0] at e; cases e) (st b o e)
  repeat ((try dsimp only [WPost, Turn]); (fail_if_success (first | (with_reducible show wpAny _ _ (exec (Stmt.While _ _ _ _) _) _ _ _) | (with_reducible show wpAny _ _ (exec (Stmt.For _ _ _ _ _) _) _ _ _) | (with_reducible show wpAny _ _ (call (Value.ref _) _ _) _ _ _) | (with_reducible show wpAny _ _ (subscriptTail _ _ _ _) _ _ _) | (with_reducible show wpAny _ _ (getItem _ _) _ _ _) | (with_reducible show wpAny _ _ (setItem _ _ _) _ _ _) | (with_reducible show wpAny _ _ (pyIter _) _ _ _) | (with_reducible show wpAny _ _ (call (Value.builtin "list.pop") _) _ _ _) | (with_reducible show wpAny _ _ (call (Value.builtin "len") _) _ _ _) | (with_reducible show wpAny _ _ (truthy (Value.ref _)) _ _ _) | (with_reducible show wpAny _ _ (call (Value.type "reversed") _) _ _ _))); walk1)
  refine len_list (News.isList N (List.mem_cons_self ..)) (by rw [List.size_toArray]; (first | decide | with_reducible assumption | with_reducible exact Nat.le_trans (by assumption) (by decide) | with_reducible exact Nat.lt_of_lt_of_le (Nat.add_lt_add_right (by assumption) _) (by decide) | with_reducible exact Int.natCast_nonneg _ | omega)) ?_
  rw [List.size_toArray]
  repeat ((try dsimp only [WPost, Turn]); (fail_if_success (first | (with_reducible show wpAny _ _ (exec (Stmt.While _ _ _ _) _) _ _ _) | (with_reducible show wpAny _ _ (exec (Stmt.For _ _ _ _ _) _) _ _ _) | (with_reducible show wpAny _ _ (call (Value.ref _) _ _) _ _ _) | (with_reducible show wpAny _ _ (subscriptTail _ _ _ _) _ _ _) | (with_reducible show wpAny _ _ (getItem _ _) _ _ _) | (with_reducible show wpAny _ _ (setItem _ _ _) _ _ _) | (with_reducible show wpAny _ _ (pyIter _) _ _ _) | (with_reducible show wpAny _ _ (call (Value.builtin "list.pop") _) _ _ _) | (with_reducible show wpAny _ _ (call (Value.builtin "len") _) _ _ _) | (with_reducible show wpAny _ _ (truthy (Value.ref _)) _ _ _) | (with_reducible show wpAny _ _ (call (Value.type "reversed") _) _ _ _))); walk1)
  refine For_invV g rfl rfl ?_
  repeat ((try dsimp only [WPost, Turn]); (fail_if_success (first | (with_reducible show wpAny _ _ (exec (Stmt.While _ _ _ _) _) _ _ _) | (with_reducible show wpAny _ _ (exec (Stmt.For _ _ _ _ _) _) _ _ _) | (with_reducible show wpAny _ _ (call (Value.ref _) _ _) _ _ _) | (with_reducible show wpAny _ _ (subscriptTail _ _ _ _) _ _ _) | (with_reducible show wpAny _ _ (getItem _ _) _ _ _) | (with_reducible show wpAny _ _ (setItem _ _ _) _ _ _) | (with_reducible show wpAny _ _ (pyIter _) _ _ _) | (with_reducible show wpAny _ _ (call (Value.builtin "list.pop") _) _ _ _) | (with_reducible show wpAny _ _ (call (Value.builtin "len") _) _ _ _) | (with_reducible show wpAny _ _ (truthy (Value.ref _)) _ _ _) | (with_reducible show wpAny _ _ (call (Value.type "reversed") _) _ _ _))); walk1)
  rename Fr g L _ _ => F
  rename News g L _ _ => N
  rename IsRange _ _ _ _ _ _ _ _ => hrg
  have e2 : ((vs.length : Int)).fdiv 2 = ((vs.length / 2 : Nat) : Int) := by rw [Int.fdiv_eq_ediv_of_nonneg _ (by decide)]; (first | decide | with_reducible assumption | with_reducible exact Nat.le_trans (by assumption) (by decide) | with_reducible exact Nat.lt_of_lt_of_le (Nat.add_lt_add_right (by assumption) _) (by decide) | with_reducible exact Int.natCast_nonneg _ | omega)
  rw [e2] at hrg
  refine for_reversed (n := vs.length / 2) (nx₀ := [(a, listOf vs.toArray ep)]) (keep := []) hA (by (first | decide | with_reducible assumption | with_reducible exact Nat.le_trans (by assumption) (by decide) | with_reducible exact Nat.lt_of_lt_of_le (Nat.add_lt_add_right (by assumption) _) (by decide) | with_reducible exact Int.natCast_nonneg _ | omega)) hrg F N
    (fun i m nx => ∃ us, nx = [(a, listOf (List.toArray us) ep)] ∧ m "x" = some (.ref a) ∧ us.Perm vs ∧ HeapAt (leOf lt) vs.length (vs.length / 2 - i) (at_ us)) ⟨vs, rfl, rfl, .refl _, ?_⟩ ?_ ?_
  · intro i j hi hj hc; unfold Child at hc; (first | decide | with_reducible assumption | with_reducible exact Nat.le_trans (by assumption) (by decide) | with_reducible exact Nat.lt_of_lt_of_le (Nat.add_lt_add_right (by assumption) _) (by decide) | with_reducible exact Int.natCast_nonneg _ | omega)
  · rintro I i tv m₁ nx h tk oI hi ⟨us, rfl, hm, hp, hH⟩ hne F N
    replace F : Fr g L h _ := Fr.over (ps := [("i", .int ((vs.length / 2 - 1 - i : Nat) : Int) tv), ("x", .ref a)]) F ⟨rfl, hm, trivial⟩
    replace N : News g L h [(a, listOf (List.toArray us) ep), (I, oI)] := N
    dsimp only [over] at F
    repeat ((try dsimp only [WPost, Turn]); (fail_if_success (first | (with_reducible show wpAny _ _ (exec (Stmt.While _ _ _ _) _) _ _ _) | (with_reducible show wpAny _ _ (exec (Stmt.For _ _ _ _ _) _) _ _ _) | (with_reducible show wpAny _ _ (call (Value.ref _) _ _) _ _ _) | (with_reducible show wpAny _ _ (subscriptTail _ _ _ _) _ _ _) | (with_reducible show wpAny _ _ (getItem _ _) _ _ _) | (with_reducible show wpAny _ _ (setItem _ _ _) _ _ _) | (with_reducible show wpAny _ _ (pyIter _) _ _ _) | (with_reducible show wpAny _ _ (call (Value.builtin "list.pop") _) _ _ _) | (with_reducible show wpAny _ _ (call (Value.builtin "len") _) _ _ _) | (with_reducible show wpAny _ _ (truthy (Value.ref _)) _ _ _) | (with_reducible show wpAny _ _ (call (Value.type "reversed") _) _ _ _))); walk1)
    have hz := N _ (List.mem_cons_self ..)
    have hul := hp.length_eq
    have hI2 : (h.get? a = some (listOf us.toArray ep)) := hz.1
    refine wpAny_call (siftup_spec (s := ⟨_, _, _, _, _⟩) O C (h₀ := h₀) B (fun b o e => F.keep b o (st' b o e)) (by show A.depth + 1 < 899; (first | decide | with_reducible assumption | with_reducible exact Nat.le_trans (by assumption) (by decide) | with_reducible exact Nat.lt_of_lt_of_le (Nat.add_lt_add_right (by assumption) _) (by decide) | with_reducible exact Int.natCast_nonneg _ | omega)) (by show A.units + 3 < 490; (first | decide | with_reducible assumption | with_reducible exact Nat.le_trans (by assumption) (by decide) | with_reducible exact Nat.lt_of_lt_of_le (Nat.add_lt_add_right (by assumption) _) (by decide) | with_reducible exact Int.natCast_nonneg _ | omega)) hz.1 ha0 (fun v hv => hV v (hp.subset hv)) (by (first | decide | with_reducible assumption | with_reducible exact Nat.le_trans (by assumption) (by decide) | with_reducible exact Nat.lt_of_lt_of_le (Nat.add_lt_add_right (by assumption) _) (by decide) | with_reducible exact Int.natCast_nonneg _ | omega)) (p := vs.length / 2 - 1 - i) (by (first | decide | with_reducible assumption | with_reducible exact Nat.le_trans (by assumption) (by decide) | with_reducible exact Nat.lt_of_lt_of_le (Nat.add_lt_add_right (by assumption) _) (by decide) | with_reducible exact Int.natCast_nonneg _ | omega)) (by rw [hul, show vs.length / 2 - 1 - i + 1 = vs.length / 2 - i by (first | decide | with_reducible assumption | with_reducible exact Nat.le_trans (by assumption) (by decide) | with_reducible exact Nat.lt_of_lt_of_le (Nat.add_lt_add_right (by assumption) _) (by decide) | with_reducible exact Int.natCast_nonneg _ | omega)]; exact hH) fun vs' h2 tk2 M ho hpm2 hH2 => ?_)
    have hIa := hne _ (List.mem_cons_self ..)
    have F2 : Fr g L h2 _ := Fr.mod F M (by intro q; simp at q; exact hz.2.1 q.symm) (by intro x hx; rw [List.mem_singleton.mp hx]; exact hz.2.2)
    have N2 : News g L h2 [(I, oI)] := News.mod (News.sub N (by intro p hp; exact List.mem_cons_of_mem _ hp)) M (by intro p hp q; rw [List.mem_singleton.mp hp] at q; exact hIa (List.mem_singleton.mp q).symm)
    have N3 : News g L h2 [(a, listOf (List.toArray vs') ep), (I, oI)] := by
      intro p hp
      rcases List.mem_cons.mp hp with rfl | hp
      · exact ⟨ho, hz.2⟩
      · exact N2 p hp
    clear F N
    dsimp only
    repeat ((try dsimp only [WPost, Turn]); (fail_if_success (first | (with_reducible show wpAny _ _ (exec (Stmt.While _ _ _ _) _) _ _ _) | (with_reducible show wpAny _ _ (exec (Stmt.For _ _ _ _ _) _) _ _ _) | (with_reducible show wpAny _ _ (call (Value.ref _) _ _) _ _ _) | (with_reducible show wpAny _ _ (subscriptTail _ _ _ _) _ _ _) | (with_reducible show wpAny _ _ (getItem _ _) _ _ _) | (with_reducible show wpAny _ _ (setItem _ _ _) _ _ _) | (with_reducible show wpAny _ _ (pyIter _) _ _ _) | (with_reducible show wpAny _ _ (call (Value.builtin "list.pop") _) _ _ _) | (with_reducible show wpAny _ _ (call (Value.builtin "len") _) _ _ _) | (with_reducible show wpAny _ _ (truthy (Value.ref _)) _ _ _) | (with_reducible show wpAny _ _ (call (Value.type "reversed") _) _ _ _))); walk1)
    refine TEnd.intro (s := ⟨_, _, _, _, _⟩) [(a, listOf (List.toArray vs') ep)] F2 N3 (by intro p hp; rw [List.mem_singleton.mp hp]; exact List.mem_cons_self ..) (by intro p hp; cases hp) (List.mem_cons_of_mem _ (List.mem_cons_self ..)) (by intro p hp; rw [List.mem_singleton.mp hp]; exact hIa) ⟨vs', rfl, ?_, hpm2.trans hp, ?_⟩
    · rfl
    · rw [hul, show vs.length / 2 - 1 - i = vs.length / 2 - (i + 1) by (first | decide | with_reducible assumption | with_reducible exact Nat.le_trans (by assumption) (by decide) | with_reducible exact Nat.lt_of_lt_of_le (Nat.add_lt_add_right (by assumption) _) (by decide) | with_reducible exact Int.natCast_nonneg _ | omega)] at hH2; exact hH2
  · rintro m' nx h tk ⟨us, rfl, hm, hp, hH⟩ F N
    replace F : Fr g L h _ := F
    replace N : News g L h [(a, listOf (List.toArray us) ep)] := N
    repeat ((try dsimp only [WPost, Turn]); (fail_if_success (first | (with_reducible show wpAny _ _ (exec (Stmt.While _ _ _ _) _) _ _ _) | (with_reducible show wpAny _ _ (exec (Stmt.For _ _ _ _ _) _) _ _ _) | (with_reducible show wpAny _ _ (call (Value.ref _) _ _) _ _ _) | (with_reducible show wpAny _ _ (subscriptTail _ _ _ _) _ _ _) | (with_reducible show wpAny _ _ (getItem _ _) _ _ _) | (with_reducible show wpAny _ _ (setItem _ _ _) _ _ _) | (with_reducible show wpAny _ _ (pyIter _) _ _ _) | (with_reducible show wpAny _ _ (call (Value.builtin "list.pop") _) _ _ _) | (with_reducible show wpAny _ _ (call (Value.builtin "len") _) _ _ _) | (with_reducible show wpAny _ _ (truthy (Value.ref _)) _ _ _) | (with_reducible show wpAny _ _ (call (Value.type "reversed") _) _ _ _))); walk1)
    have hz := N _ (List.mem_cons_self ..)
    exact hR us _ _ (back _ F.keep) hz.1 hp (by rw [Nat.sub_self] at hH; exact hH)
end
end Mine
namespace Mine
open PySem PySem.W PySem.Calls PyProof.Rows
theorem fillH4 : (PySem.Challenge.rw_pd0156_01 = PySem.Challenge.rw_pd0156_01) ∧ hd.heap_39 = hd.heap_39 := by
  k_fill
  exact ⟨rfl, rfl⟩

section
variable {prog : Program} {w : World} {A : Around} {R : Result → Shared → Prop} {s : Shared} {h₀ : Heap} {E : Value → Shared → Prop}

theorem heappop_spec {lt : Value → Value → Bool} (O : Ord lt) {V : List Value} (C : CmpOk prog w h₀ lt V) (B : Base w h₀) (st : h₀.StaysIn s.heap) (hr : A.depth < 898) (hu : A.units < 480)
  {a : Addr} {vs : List Value} {ep : Nat} (ha : s.heap.get? a = some (listOf vs.toArray ep)) (ha0 : h₀.get? a = none) (hV : ∀ v ∈ vs, v ∈ V) (hlen : vs.length ≤ 1000) (hne : vs ≠ []) (hH : HeapAt (leOf lt) vs.length 0 (at_ vs))
  (hR : ∀ v vs' ep' h' tk, Mod [a] s.heap h' → h'.get? a = some (listOf (List.toArray vs') ep') → (v :: vs').Perm vs → (∀ u ∈ vs, leOf lt v u) → HeapAt (leOf lt) vs'.length 0 (at_ vs') → R (.ok (.ret v)) ⟨h', s.gens, s.drawn, tk, s.os⟩) :
  codeAny (model prog w) A (.call (.ref 89) ⟨[.ref a], []⟩) R s := by
  refine' enter (binds := [("heap", .ref a)]) [(a, listOf vs.toArray ep)] B st (by intro q hq; rw [List.mem_singleton.mp hq]; exact ⟨ha, ha0⟩) ?ho ?hcd ?hroom ?hbind ?hloc ?_ ?hco ?hgen ?hk ?hcell
  case hroom => exact Nat.lt_of_lt_of_le hr (by decide)
  ((case ho => k_is); (case hcd => k_is); (case hbind => exact BindsTo.of_eq rfl); (case hloc => exact locs rfl); (case hco => exact rfl); (case hgen => exact rfl); (case hk => exact rfl); (case hcell => decide))
  intro g L h₁ tk Bg F N back hL hSg hg
  have X := Bg.X
  obtain ⟨pT, lT, mg, mb, T⟩ := Bg.T
  have st' : h₀.StaysIn g := fun b o e => hg b o (by intro q; simp at q; subst q; rw [ha0] at e; cases e) (st b o e)
  obtain ⟨us, x, rfl⟩ : ∃ us x, vs = us ++ [x] := ⟨vs.dropLast, vs.getLast hne, (List.dropLast_concat_getLast hne).symm⟩
  have hmin : ∀ u ∈ us ++ [x], leOf lt (at_ (us ++ [x]) 0) u := fun u hu => by
    obtain ⟨j, hj⟩ := List.getElem?_of_mem hu
    have hj' : j < (us ++ [x]).length := (List.getElem?_eq_some_iff.mp hj).1
    have := heap_min O.rf O.tr hH j hj'
    rwa [show at_ (us ++ [x]) j = u by unfold at_; simp [hj]] at this
  repeat ((try dsimp only [WPost, Turn]); (fail_if_success (first | (with_reducible show wpAny _ _ (exec (Stmt.While _ _ _ _) _) _ _ _) | (with_reducible show wpAny _ _ (exec (Stmt.For _ _ _ _ _) _) _ _ _) | (with_reducible show wpAny _ _ (call (Value.ref _) _ _) _ _ _) | (with_reducible show wpAny _ _ (subscriptTail _ _ _ _) _ _ _) | (with_reducible show wpAny _ _ (getItem _ _) _ _ _) | (with_reducible show wpAny _ _ (setItem _ _ _) _ _ _) | (with_reducible show wpAny _ _ (pyIter _) _ _ _) | (with_reducible show wpAny _ _ (call (Value.builtin "list.pop") _) _ _ _) | (with_reducible show wpAny _ _ (call (Value.builtin "len") _) _ _ _) | (with_reducible show wpAny _ _ (truthy (Value.ref _)) _ _ _) | (with_reducible show wpAny _ _ (call (Value.type "reversed") _) _ _ _))); walk1)
  refine kl_pop F N (p := us) (y := x) (by simpa using kpa_last x us) (.head (by intro _ h; cases h)) (by simp at hlen ⊢; rw [PySem.sizeLine_eq]; (first | decide | with_reducible assumption | with_reducible exact Nat.le_trans (by assumption) (by decide) | with_reducible exact Nat.lt_of_lt_of_le (Nat.add_lt_add_right (by assumption) _) (by decide) | with_reducible exact Int.natCast_nonneg _ | omega)) fun h' F' N' => ?_
  clear F N
  repeat ((try dsimp only [WPost, Turn]); (fail_if_success (first | (with_reducible show wpAny _ _ (exec (Stmt.While _ _ _ _) _) _ _ _) | (with_reducible show wpAny _ _ (exec (Stmt.For _ _ _ _ _) _) _ _ _) | (with_reducible show wpAny _ _ (call (Value.ref _) _ _) _ _ _) | (with_reducible show wpAny _ _ (subscriptTail _ _ _ _) _ _ _) | (with_reducible show wpAny _ _ (getItem _ _) _ _ _) | (with_reducible show wpAny _ _ (setItem _ _ _) _ _ _) | (with_reducible show wpAny _ _ (pyIter _) _ _ _) | (with_reducible show wpAny _ _ (call (Value.builtin "list.pop") _) _ _ _) | (with_reducible show wpAny _ _ (call (Value.builtin "len") _) _ _ _) | (with_reducible show wpAny _ _ (truthy (Value.ref _)) _ _ _) | (with_reducible show wpAny _ _ (call (Value.type "reversed") _) _ _ _))); walk1)
  rename Fr g L _ _ => F
  rename News g L _ _ => N
  refine wpAny_truthy_list (News.isList N (List.mem_cons_self ..)) (by rw [List.size_toArray]; simp at hlen; (first | decide | with_reducible assumption | with_reducible exact Nat.le_trans (by assumption) (by decide) | with_reducible exact Nat.lt_of_lt_of_le (Nat.add_lt_add_right (by assumption) _) (by decide) | with_reducible exact Int.natCast_nonneg _ | omega)) ?_
  dsimp only
  cases us with
  | nil =>
    refine ite_neg (by simp) ?_
    repeat ((try dsimp only [WPost, Turn]); (fail_if_success (first | (with_reducible show wpAny _ _ (exec (Stmt.While _ _ _ _) _) _ _ _) | (with_reducible show wpAny _ _ (exec (Stmt.For _ _ _ _ _) _) _ _ _) | (with_reducible show wpAny _ _ (call (Value.ref _) _ _) _ _ _) | (with_reducible show wpAny _ _ (subscriptTail _ _ _ _) _ _ _) | (with_reducible show wpAny _ _ (getItem _ _) _ _ _) | (with_reducible show wpAny _ _ (setItem _ _ _) _ _ _) | (with_reducible show wpAny _ _ (pyIter _) _ _ _) | (with_reducible show wpAny _ _ (call (Value.builtin "list.pop") _) _ _ _) | (with_reducible show wpAny _ _ (call (Value.builtin "len") _) _ _ _) | (with_reducible show wpAny _ _ (truthy (Value.ref _)) _ _ _) | (with_reducible show wpAny _ _ (call (Value.type "reversed") _) _ _ _))); walk1)
    exact hR x [] _ _ _ (back _ F.keep) (N _ (List.mem_cons_self ..)).1 (.refl _) hmin (by intro i j _ hj; simp at hj)
  | cons y us =>
    refine ite_pos (by simp) ?_
    repeat ((try dsimp only [WPost, Turn]); (fail_if_success (first | (with_reducible show wpAny _ _ (exec (Stmt.While _ _ _ _) _) _ _ _) | (with_reducible show wpAny _ _ (exec (Stmt.For _ _ _ _ _) _) _ _ _) | (with_reducible show wpAny _ _ (call (Value.ref _) _ _) _ _ _) | (with_reducible show wpAny _ _ (subscriptTail _ _ _ _) _ _ _) | (with_reducible show wpAny _ _ (getItem _ _) _ _ _) | (with_reducible show wpAny _ _ (setItem _ _ _) _ _ _) | (with_reducible show wpAny _ _ (pyIter _) _ _ _) | (with_reducible show wpAny _ _ (call (Value.builtin "list.pop") _) _ _ _) | (with_reducible show wpAny _ _ (call (Value.builtin "len") _) _ _ _) | (with_reducible show wpAny _ _ (truthy (Value.ref _)) _ _ _) | (with_reducible show wpAny _ _ (call (Value.type "reversed") _) _ _ _))); walk1)
    refine kim_list N (List.mem_cons_self ..) rfl rfl (by (first | decide | with_reducible assumption | with_reducible exact Nat.le_trans (by assumption) (by decide) | with_reducible exact Nat.lt_of_lt_of_le (Nat.add_lt_add_right (by assumption) _) (by decide) | with_reducible exact Int.natCast_nonneg _ | omega)) (by (first | decide | with_reducible assumption | with_reducible exact Nat.le_trans (by assumption) (by decide) | with_reducible exact Nat.lt_of_lt_of_le (Nat.add_lt_add_right (by assumption) _) (by decide) | with_reducible exact Int.natCast_nonneg _ | omega)) (x := y) rfl ?_
    repeat ((try dsimp only [WPost, Turn]); (fail_if_success (first | (with_reducible show wpAny _ _ (exec (Stmt.While _ _ _ _) _) _ _ _) | (with_reducible show wpAny _ _ (exec (Stmt.For _ _ _ _ _) _) _ _ _) | (with_reducible show wpAny _ _ (call (Value.ref _) _ _) _ _ _) | (with_reducible show wpAny _ _ (subscriptTail _ _ _ _) _ _ _) | (with_reducible show wpAny _ _ (getItem _ _) _ _ _) | (with_reducible show wpAny _ _ (setItem _ _ _) _ _ _) | (with_reducible show wpAny _ _ (pyIter _) _ _ _) | (with_reducible show wpAny _ _ (call (Value.builtin "list.pop") _) _ _ _) | (with_reducible show wpAny _ _ (call (Value.builtin "len") _) _ _ _) | (with_reducible show wpAny _ _ (truthy (Value.ref _)) _ _ _) | (with_reducible show wpAny _ _ (call (Value.type "reversed") _) _ _ _))); walk1)
    rename Fr g L _ _ => F
    rename News g L _ _ => N
    refine set_at (vs := y :: us) F N (.head (by intro _ h; cases h)) (by (first | decide | with_reducible assumption | with_reducible exact Nat.le_trans (by assumption) (by decide) | with_reducible exact Nat.lt_of_lt_of_le (Nat.add_lt_add_right (by assumption) _) (by decide) | with_reducible exact Int.natCast_nonneg _ | omega)) (by simp) (by (first | decide | with_reducible assumption | with_reducible exact Nat.le_trans (by assumption) (by decide) | with_reducible exact Nat.lt_of_lt_of_le (Nat.add_lt_add_right (by assumption) _) (by decide) | with_reducible exact Int.natCast_nonneg _ | omega)) fun h' F' N' => ?_
    clear F N
    repeat ((try dsimp only [WPost, Turn]); (fail_if_success (first | (with_reducible show wpAny _ _ (exec (Stmt.While _ _ _ _) _) _ _ _) | (with_reducible show wpAny _ _ (exec (Stmt.For _ _ _ _ _) _) _ _ _) | (with_reducible show wpAny _ _ (call (Value.ref _) _ _) _ _ _) | (with_reducible show wpAny _ _ (subscriptTail _ _ _ _) _ _ _) | (with_reducible show wpAny _ _ (getItem _ _) _ _ _) | (with_reducible show wpAny _ _ (setItem _ _ _) _ _ _) | (with_reducible show wpAny _ _ (pyIter _) _ _ _) | (with_reducible show wpAny _ _ (call (Value.builtin "list.pop") _) _ _ _) | (with_reducible show wpAny _ _ (call (Value.builtin "len") _) _ _ _) | (with_reducible show wpAny _ _ (truthy (Value.ref _)) _ _ _) | (with_reducible show wpAny _ _ (call (Value.type "reversed") _) _ _ _))); walk1)
    have hz := N' _ (List.mem_cons_self ..)
    rw [show ((0 : Int)).toNat = 0 from rfl, List.set_cons_zero] at hz
    refine wpAny_call (siftup_spec (s := ⟨_, _, _, _, _⟩) O C (h₀ := h₀) B (fun b o e => F'.keep b o (st' b o e)) (by show A.depth + 1 < 899; (first | decide | with_reducible assumption | with_reducible exact Nat.le_trans (by assumption) (by decide) | with_reducible exact Nat.lt_of_lt_of_le (Nat.add_lt_add_right (by assumption) _) (by decide) | with_reducible exact Int.natCast_nonneg _ | omega)) (by show A.units + 3 < 490; (first | decide | with_reducible assumption | with_reducible exact Nat.le_trans (by assumption) (by decide) | with_reducible exact Nat.lt_of_lt_of_le (Nat.add_lt_add_right (by assumption) _) (by decide) | with_reducible exact Int.natCast_nonneg _ | omega)) hz.1 ha0 ?_ (by simp at hlen ⊢; (first | decide | with_reducible assumption | with_reducible exact Nat.le_trans (by assumption) (by decide) | with_reducible exact Nat.lt_of_lt_of_le (Nat.add_lt_add_right (by assumption) _) (by decide) | with_reducible exact Int.natCast_nonneg _ | omega)) (p := 0) (by simp) ?_ fun vs' h2 tk2 M ho hpm2 hH2 => ?_)
    · intro v hv
      exact hV v (by simp only [List.mem_append, List.mem_cons, List.not_mem_nil, or_false] at hv ⊢; rcases hv with h | h; exact .inr h; exact .inl (.inr h))
    · intro i j hi hj hc
      have := hH i j (Nat.zero_le _) (by simp at hj ⊢; (first | decide | with_reducible assumption | with_reducible exact Nat.le_trans (by assumption) (by decide) | with_reducible exact Nat.lt_of_lt_of_le (Nat.add_lt_add_right (by assumption) _) (by decide) | with_reducible exact Int.natCast_nonneg _ | omega)) hc
      have e : ∀ k, 1 ≤ k → k < (x :: us).length → at_ (x :: us) k = at_ (y :: us ++ [x]) k := fun k h1 h2 => by
        obtain ⟨k, rfl⟩ : ∃ k', k = k' + 1 := ⟨k - 1, by (first | decide | with_reducible assumption | with_reducible exact Nat.le_trans (by assumption) (by decide) | with_reducible exact Nat.lt_of_lt_of_le (Nat.add_lt_add_right (by assumption) _) (by decide) | with_reducible exact Int.natCast_nonneg _ | omega)⟩
        unfold at_
        simp at h2
        simp [List.getD, List.getElem?_append_left h2]
      rw [e i hi (by unfold Child at hc; (first | decide | with_reducible assumption | with_reducible exact Nat.le_trans (by assumption) (by decide) | with_reducible exact Nat.lt_of_lt_of_le (Nat.add_lt_add_right (by assumption) _) (by decide) | with_reducible exact Int.natCast_nonneg _ | omega)), e j (by unfold Child at hc; (first | decide | with_reducible assumption | with_reducible exact Nat.le_trans (by assumption) (by decide) | with_reducible exact Nat.lt_of_lt_of_le (Nat.add_lt_add_right (by assumption) _) (by decide) | with_reducible exact Int.natCast_nonneg _ | omega)) hj]; exact this
    · have F2 : Fr g L h2 _ := Fr.mod F' M (by intro q; simp at q; exact hz.2.1 q.symm) (by intro z hx; rw [List.mem_singleton.mp hx]; exact hz.2.2)
      dsimp only
      repeat ((try dsimp only [WPost, Turn]); (fail_if_success (first | (with_reducible show wpAny _ _ (exec (Stmt.While _ _ _ _) _) _ _ _) | (with_reducible show wpAny _ _ (exec (Stmt.For _ _ _ _ _) _) _ _ _) | (with_reducible show wpAny _ _ (call (Value.ref _) _ _) _ _ _) | (with_reducible show wpAny _ _ (subscriptTail _ _ _ _) _ _ _) | (with_reducible show wpAny _ _ (getItem _ _) _ _ _) | (with_reducible show wpAny _ _ (setItem _ _ _) _ _ _) | (with_reducible show wpAny _ _ (pyIter _) _ _ _) | (with_reducible show wpAny _ _ (call (Value.builtin "list.pop") _) _ _ _) | (with_reducible show wpAny _ _ (call (Value.builtin "len") _) _ _ _) | (with_reducible show wpAny _ _ (truthy (Value.ref _)) _ _ _) | (with_reducible show wpAny _ _ (call (Value.type "reversed") _) _ _ _))); walk1)
      have hl := hpm2.length_eq
      refine hR y vs' _ _ _ (back _ F2.keep) ho ?_ hmin (by rw [hl]; exact hH2)
      refine (hpm2.cons y).trans ?_
      refine (List.Perm.cons y ?_)
      exact (List.perm_append_comm (l₁ := [x]) (l₂ := us))
end
end Mine
namespace Mine
open PySem PySem.W PySem.Calls PyProof.Rows
section
variable {prog : Program} {w : World} {A : Around} {E : Value → Shared → Prop} {s : Shared}
/-- a tuple of a text and two ints -/
def Tup3 (h : Heap) (a : Addr) (k : Str) (p m : Int) : Prop := ∃ t u v n, h.get? a = some { cls := .type "tuple", data := .seq #[.str k t, .int p u, .int m v] n }
def lt3 (k1 : Str) (p1 m1 : Int) (k2 : Str) (p2 m2 : Int) : Bool := keyLt (k1.cps.toList, p1, m1) (k2.cps.toList, p2, m2)
theorem lt_tup3 {a b : Addr} {k1 k2 : Str} {p1 m1 p2 m2 : Int} {Q : Value → Shared → Prop} (hu : A.units < cLine) (ha : Tup3 s.heap a k1 p1 m1) (hb : Tup3 s.heap b k2 p2 m2) (h : Q (.bool (lt3 k1 p1 m1 k2 p2 m2)) s) :
    wpAny (model prog w) A (compareOp .Lt (.ref a) (.ref b)) Q E s := by
  obtain ⟨t1, u1, v1, n1, ha⟩ := ha
  obtain ⟨t2, u2, v2, n2, hb⟩ := hb
  have Ta : s.TypeIs (.ref a) "tuple" := ⟨_, ha, rfl⟩
  have Tb : s.TypeIs (.ref b) "tuple" := ⟨_, hb, rfl⟩
  refine cmp_ofLt (wpAny_richCompare_same_room Ta Tb F.slot_tuple_lt (wpAny_call_entry F.slot_tuple_lt Ta F.entry_tuple_lt ?_ (F.args_tuple_lt_2 _ _)) hu)
  show wpAny _ _ (isInstance (.ref b) (.type "tuple") >>= _) _ _ s
  refine wpAny_bind (wpAny_isInstance Tb isSubtype_tuple_tuple ?_)
  simp only [Bool.not_true, Bool.false_eq_true, if_false]
  refine wpAny_bind (wpAny_tupleItemsOf ha rfl ?_)
  refine wpAny_bind (wpAny_tupleItemsOf hb rfl ?_)
  simp only [List.zip_cons_cons, List.zip_nil_right, List.forIn_cons, List.forIn_nil, bind_assoc]
  refine wpAny_bind (wpAny_eqBool_str ?_)
  by_cases e1 : k1 = k2
  · rw [decide_eq_true e1]
    simp only [Bool.not_true, Bool.false_eq_true, if_false, pure_bind]
    refine wpAny_bind (wpAny_bind (wpAny_eqBool_int ?_))
    by_cases e2 : p1 = p2
    · rw [show (p1 == p2) = true by simp [e2]]
      simp only [Bool.not_true, Bool.false_eq_true, if_false, pure_bind]
      refine wpAny_bind (wpAny_eqBool_int ?_)
      by_cases e3 : m1 = m2
      · rw [show (m1 == m2) = true by simp [e3]]
        simp only [Bool.not_true, Bool.false_eq_true, if_false, pure_bind]
        refine wpAny_pure ?_
        refine wpAny_pure ⟨_, rfl, (fun e => nomatch e), ?_⟩
        have : lt3 k1 p1 m1 k2 p2 m2 = false := by subst e1 e2 e3; simp [lt3, keyLt, List.lt_irrefl]
        rw [this] at h
        exact h
      · rw [show (m1 == m2) = false by simp [e3]]
        simp only [Bool.not_false, if_true, bind_assoc]
        refine wpAny_bind (wpAny_rule ?_)
        refine wpAny_bind (show wpAny _ _ (compareOp .Lt (.int m1 v1) (.int m2 v2)) _ _ _ from PyProof.Rows.lt_int ?_)
        refine wpAny_bind (wpAny_pure ?_)
        simp only [pure_bind]
        refine wpAny_pure (wpAny_pure ⟨_, rfl, (fun e => nomatch e), ?_⟩)
        have : lt3 k1 p1 m1 k2 p2 m2 = decide (m1 < m2) := by subst e1 e2; simp [lt3, keyLt, List.lt_irrefl]
        rw [this] at h
        exact h
    · rw [show (p1 == p2) = false by simp [e2]]
      simp only [Bool.not_false, if_true, bind_assoc]
      refine wpAny_bind (wpAny_rule ?_)
      refine wpAny_bind (show wpAny _ _ (compareOp .Lt (.int p1 u1) (.int p2 u2)) _ _ _ from PyProof.Rows.lt_int ?_)
      refine wpAny_bind (wpAny_pure ?_)
      simp only [pure_bind]
      refine wpAny_pure (wpAny_pure ⟨_, rfl, (fun e => nomatch e), ?_⟩)
      have : lt3 k1 p1 m1 k2 p2 m2 = decide (p1 < p2) := by subst e1; simp [lt3, keyLt, List.lt_irrefl, e2]
      rw [this] at h
      exact h
  · rw [decide_eq_false e1]
    simp only [Bool.not_false, if_true, bind_assoc]
    refine wpAny_bind (wpAny_rule ?_)
    refine wpAny_bind (show wpAny _ _ (compareOp .Lt (.str k1 t1) (.str k2 t2)) _ _ _ from PyProof.Rows.lt_str ?_)
    refine wpAny_bind (wpAny_pure ?_)
    simp only [pure_bind]
    refine wpAny_pure ⟨_, rfl, (fun e => nomatch e), ?_⟩
    have e4 : k1.cps.toList ≠ k2.cps.toList := fun q => e1 (by cases k1; cases k2; simp only at q; congr; exact Array.toList_inj.mp q)
    have : lt3 k1 p1 m1 k2 p2 m2 = decide (k1.cps.toList < k2.cps.toList) := by simp [lt3, keyLt, e4]
    rw [this] at h
    exact h
end
end Mine
namespace Mine
open PySem PySem.W PySem.Calls PyProof.Rows
section
variable {prog : Program} {w : World} {A : Around} {E : Value → Shared → Prop} {s : Shared}
theorem sub_str_str : isSubtype (.type "str") (.type "str") = pure true := by rw [isSubtype_type]; kernel_rfl
theorem kind_issub_nested : builtinKind "issubclass.nested" = none := by decide +kernel
theorem plain_issub_nested : plainId "issubclass.nested" = true := by decide +kernel
theorem args_issub_nested_3 (a b c : Value) : argsOk "issubclass.nested" ⟨[a, b, c], []⟩ := by unfold argsOk; kernel_rfl
theorem meta_str : ((Value.type "type" == Value.type "type") = true) := by decide
theorem issub_self (dep : Int) (tk : Tok) : Meets (Builtin.«issubclass.nested» ⟨[.type "str", .type "str", .int dep tk], []⟩) (fun _ R s => R (.ok (.ret (.bool true))) s) :=
  .of_wp fun prog w A R s h => by
    have hs := sub_str_str
    have ht : typeOf (.type "str") = pure (.type "type") := by first | rfl | kernel_rfl
    unfold Builtin.«issubclass.nested»
    dsimp only
    refine wpAny_bind (wpAny_of_eq ht ?_)
    rw [if_pos (by decide)]
    repeat (any_goals (first | assumption | (rw [hs]) | wp_step))
    exact ⟨_, rfl, h⟩
theorem issub_nested {D : Addr} {n : Nat} {cs : List Value} {Q : Fin → Shared → Prop} (hcs : cs = [.type "str", .type "bytes"]) (hD : s.heap.get? D = some { cls := .type "tuple", data := .seq cs.toArray n }) (hq : Q (.done (.ret (.bool true))) s) :
    wpAny (model prog w) A (Builtin.«issubclass.nested» ⟨[.type "str", .ref D, .int 0 0], []⟩) Q E s := by
  obtain ⟨h, g, d, t, os⟩ := s
  have hT2 : (⟨h, g, d, t, os⟩ : Shared).TypeIs (.ref D) "tuple" := ⟨_, hD, rfl⟩
  have f1 := F.isi_sub_tuple
  repeat (any_goals (first | assumption | wp_step))
  refine wpAny_arrayLoop ?_
  subst hcs
  simp only [Option.getD_some, List.toList_toArray, List.forIn_cons]
  refine wpAny_bind (wpAny_bind (call_function_meets kind_issub_nested plain_issub_nested F.entry_issubclass_nested (args_issub_nested_3 _ _ _) (issub_self _ _) ?_))
  show wpAny _ _ (truthy (.bool true) >>= _) _ _ _
  refine wpAny_bind (m := truthy (.bool true)) (wpAny_pure ?_)
  exact wpAny_bind (wpAny_pure (wpAny_pure (wpAny_pure (wpAny_pure hq))))
theorem call_issub_str {D : Addr} {n : Nat} {Q : Value → Shared → Prop} (hD : s.heap.get? D = some { cls := .type "tuple", data := .seq #[.type "str", .type "bytes"] n }) (hq : Q (.bool true) s) :
    wpAny (model prog w) A (call (.builtin "issubclass") [.type "str", .ref D]) Q E s :=
  call_issubclass (S := fun _ R s => s.heap.get? D = some { cls := .type "tuple", data := .seq #[.type "str", .type "bytes"] n } ∧ R (.ok (.ret (.bool true))) s) (fun _ _ _ _ _ hs => issubclass_outer (issub_nested rfl hs.1 hs.2)) ⟨hD, hq⟩
end
end Mine
namespace Mine
open PySem PySem.W PySem.Calls PyProof.Rows
theorem fillF1 : (PySem.Challenge.rw_pd0156_01 = PySem.Challenge.rw_pd0156_01) ∧ hd.heap_39 = hd.heap_39 := by
  k_fill
  exact ⟨rfl, rfl⟩
section
variable {prog : Program} {w : World} {A : Around} {R : Result → Shared → Prop} {s : Shared} {h₀ : Heap} {E : Value → Shared → Prop}

theorem fspath_spec (B : Base w h₀) (st : h₀.StaysIn s.heap) (hr : A.depth < 899) (hu : A.units < 490) {x : Str} {t : Tok}
  (hR : ∀ h' tk, Mod [] s.heap h' → R (.ok (.ret (.str x t))) ⟨h', s.gens, s.drawn, tk, s.os⟩) :
  codeAny (model prog w) A (.call (.ref 183) ⟨[.str x t], []⟩) R s := by
  refine' enter (binds := [("path", .str x t)]) [] B st (by intro q hq; cases hq) ?ho ?hcd ?hroom ?hbind ?hloc ?_ ?hco ?hgen ?hk ?hcell
  case hroom => exact Nat.lt_of_lt_of_le hr (by decide)
  ((case ho => k_is); (case hcd => k_is); (case hbind => exact BindsTo.of_eq rfl); (case hloc => exact locs rfl); (case hco => exact rfl); (case hgen => exact rfl); (case hk => exact rfl); (case hcell => decide))
  intro g L h₁ tk Bg F N back hL hSg hg
  have X := Bg.X
  obtain ⟨pT, lT, mg, mb, T⟩ := Bg.T
  repeat ((try dsimp only [WPost, Turn]); (fail_if_success (first | (with_reducible show wpAny _ _ (exec (Stmt.While _ _ _ _) _) _ _ _) | (with_reducible show wpAny _ _ (exec (Stmt.For _ _ _ _ _) _) _ _ _) | (with_reducible show wpAny _ _ (call (Value.ref _) _ _) _ _ _) | (with_reducible show wpAny _ _ (call (Value.builtin "issubclass") _) _ _ _))); walk1)
  rename Fr g L _ _ => F
  rename News g L _ _ => N
  refine call_issub_str (N _ (List.mem_cons_self ..)).1 ?_
  repeat ((try dsimp only [WPost, Turn]); (fail_if_success (first | (with_reducible show wpAny _ _ (exec (Stmt.While _ _ _ _) _) _ _ _) | (with_reducible show wpAny _ _ (exec (Stmt.For _ _ _ _ _) _) _ _ _) | (with_reducible show wpAny _ _ (call (Value.ref _) _ _) _ _ _) | (with_reducible show wpAny _ _ (call (Value.builtin "issubclass") _) _ _ _))); walk1)
  exact hR _ _ (back _ F.keep)

theorem getsep_spec (B : Base w h₀) (st : h₀.StaysIn s.heap) (hr : A.depth < 899) {x : Str} {t : Tok}
  (hR : ∀ h' tk t', Mod [] s.heap h' → R (.ok (.ret (.str (Str.ofString "/") t'))) ⟨h', s.gens, s.drawn, tk, s.os⟩) :
  codeAny (model prog w) A (.call (.ref 197) ⟨[.str x t], []⟩) R s := by
  refine' enter (binds := [("path", .str x t)]) [] B st (by intro q hq; cases hq) ?ho ?hcd ?hroom ?hbind ?hloc ?_ ?hco ?hgen ?hk ?hcell
  case hroom => exact Nat.lt_of_lt_of_le hr (by decide)
  ((case ho => k_is); (case hcd => k_is); (case hbind => exact BindsTo.of_eq rfl); (case hloc => exact locs rfl); (case hco => exact rfl); (case hgen => exact rfl); (case hk => exact rfl); (case hcell => decide))
  intro g L h₁ tk Bg F N back hL hSg hg
  have X := Bg.X
  obtain ⟨pT, lT, mg, mb, T⟩ := Bg.T
  repeat ((try dsimp only [WPost, Turn]); (fail_if_success (first | (with_reducible show wpAny _ _ (exec (Stmt.While _ _ _ _) _) _ _ _) | (with_reducible show wpAny _ _ (exec (Stmt.For _ _ _ _ _) _) _ _ _) | (with_reducible show wpAny _ _ (call (Value.ref _) _ _) _ _ _) | (with_reducible show wpAny _ _ (call (Value.builtin "issubclass") _) _ _ _))); walk1)
  exact hR _ _ _ (back _ F.keep)
end
end Mine
namespace Mine
open PySem PySem.W PySem.Calls PyProof.Rows
theorem fillF2 : (PySem.Challenge.rw_pd0156_01 = PySem.Challenge.rw_pd0156_01) ∧ hd.heap_39 = hd.heap_39 := by
  k_fill
  exact ⟨rfl, rfl⟩
section
variable {prog : Program} {w : World} {A : Around} {R : Result → Shared → Prop} {s : Shared} {h₀ : Heap} {E : Value → Shared → Prop}

def headS (x : Str) : Str := Txt.slice x none (some (Txt.rfind x (Str.ofString "/") + 1))
def dirS (x : Str) : Str := if ((headS x).length : Int) ≠ 0 then (if (headS x != Txt.mul (Str.ofString "/") ((headS x).length : Int)) = true then Txt.rstripChars (headS x) (Str.ofString "/") else headS x) else headS x
theorem dirname_spec (B : Base w h₀) (st : h₀.StaysIn s.heap) (hr : A.depth < 898) (hu : A.units < 480) {x : Str} {t : Tok} (hx : x.length ≤ 1000)
  (hR : ∀ h' tk t', Mod [] s.heap h' → R (.ok (.ret (.str (dirS x) t'))) ⟨h', s.gens, s.drawn, tk, s.os⟩) :
  codeAny (model prog w) A (.call (.ref 218) ⟨[.str x t], []⟩) R s := by
  refine' enter (binds := [("p", .str x t)]) [] B st (by intro q hq; cases hq) ?ho ?hcd ?hroom ?hbind ?hloc ?_ ?hco ?hgen ?hk ?hcell
  case hroom => exact Nat.lt_of_lt_of_le hr (by decide)
  ((case ho => k_is); (case hcd => k_is); (case hbind => exact BindsTo.of_eq rfl); (case hloc => exact locs rfl); (case hco => exact rfl); (case hgen => exact rfl); (case hk => exact rfl); (case hcell => decide))
  intro g L h₁ tk Bg F N back hL hSg hg
  have X := Bg.X
  have Bg' := Bg
  obtain ⟨pT, lT, mg, mb, T⟩ := Bg.T
  repeat ((try dsimp only [WPost, Turn]); (fail_if_success (first | (with_reducible show wpAny _ _ (exec (Stmt.While _ _ _ _) _) _ _ _) | (with_reducible show wpAny _ _ (exec (Stmt.For _ _ _ _ _) _) _ _ _) | (with_reducible show wpAny _ _ (call (Value.ref _) _ _) _ _ _) | (with_reducible show wpAny _ _ (call (Value.builtin "issubclass") _) _ _ _))); walk1)
  refine wpAny_call (fspath_spec (s := ⟨_, _, _, _, _⟩) Bg' F.keep (by show A.depth + 1 < 899; (first | decide | with_reducible assumption | with_reducible exact Nat.le_trans (by assumption) (by decide) | with_reducible exact Nat.lt_of_lt_of_le (Nat.add_lt_add_right (by assumption) _) (by decide) | with_reducible exact Int.natCast_nonneg _ | omega)) (by show A.units + 3 < 490; (first | decide | with_reducible assumption | with_reducible exact Nat.le_trans (by assumption) (by decide) | with_reducible exact Nat.lt_of_lt_of_le (Nat.add_lt_add_right (by assumption) _) (by decide) | with_reducible exact Int.natCast_nonneg _ | omega)) fun h2 tk2 M => ?_)
  replace F := Fr.keeps' F M
  replace N := News.keeps' N M
  dsimp only
  repeat ((try dsimp only [WPost, Turn]); (fail_if_success (first | (with_reducible show wpAny _ _ (exec (Stmt.While _ _ _ _) _) _ _ _) | (with_reducible show wpAny _ _ (exec (Stmt.For _ _ _ _ _) _) _ _ _) | (with_reducible show wpAny _ _ (call (Value.ref _) _ _) _ _ _) | (with_reducible show wpAny _ _ (call (Value.builtin "issubclass") _) _ _ _))); walk1)
  rename Fr g L _ _ => F
  rename News g L _ _ => N
  refine wpAny_call (getsep_spec (s := ⟨_, _, _, _, _⟩) Bg' F.keep (by show A.depth + 1 < 899; (first | decide | with_reducible assumption | with_reducible exact Nat.le_trans (by assumption) (by decide) | with_reducible exact Nat.lt_of_lt_of_le (Nat.add_lt_add_right (by assumption) _) (by decide) | with_reducible exact Int.natCast_nonneg _ | omega)) fun h2 tk2 t2 M => ?_)
  replace F := Fr.keeps' F M
  replace N := News.keeps' N M
  dsimp only
  repeat' ((try dsimp only [WPost, Turn]); (fail_if_success (first | (with_reducible show wpAny _ _ (exec (Stmt.While _ _ _ _) _) _ _ _) | (with_reducible show wpAny _ _ (exec (Stmt.For _ _ _ _ _) _) _ _ _) | (with_reducible show wpAny _ _ (call (Value.ref _) _ _) _ _ _) | (with_reducible show wpAny _ _ (call (Value.builtin "issubclass") _) _ _ _))); walk1)
  · rename Fr g L _ _ => F
    have h1 : ((headS x).length : Int) ≠ 0 := by assumption
    have h2 : (headS x != Txt.mul (Str.ofString "/") ((headS x).length : Int)) = true := by assumption
    have e : dirS x = Txt.rstripChars (headS x) (Str.ofString "/") := by unfold dirS; rw [if_pos h1, if_pos h2]
    rw [e] at hR
    exact hR _ _ _ (back _ F.keep)
  · rename Fr g L _ _ => F
    have h1 : ((headS x).length : Int) ≠ 0 := by assumption
    have h2 : (headS x != Txt.mul (Str.ofString "/") ((headS x).length : Int)) = false := by assumption
    have e : dirS x = headS x := by unfold dirS; rw [if_pos h1, if_neg (by rw [h2]; exact Bool.false_ne_true)]
    rw [e] at hR
    exact hR _ _ _ (back _ F.keep)
  · rename Fr g L _ _ => F
    have h1 : ((headS x).length : Int) = 0 := by assumption
    have e : dirS x = headS x := by unfold dirS; rw [if_neg (fun q => q h1)]
    rw [e] at hR
    exact hR _ _ _ (back _ F.keep)
end
end Mine
namespace Mine
open PySem PySem.W PySem.Calls PyProof.Rows
theorem wp_peek1' {α : Type} {K : Frag} {M : Model} {A : Around} {E : Value → Shared → Prop} {Q : α → Shared → Prop} {s : Shared} {o : Obj} {r : Addr → α}
    (X : K.In s.heap) (q : Q (r s.heap.objs.size) { s with heap := s.heap.push o }) :
    ∀ (t : Sem α) (g : Addr → Option α), peek1 K ⟨M.prog, M.w.params⟩ t = some (o, g) → (∀ D, g D = some (r D)) → wpAny M A t Q E s := by
  intro t
  induction t with
  | rule _ k ih => intro g e hg Γ p hΓ; exact ih () g e hg Γ p hΓ
  | point _ k ih => intro g e hg Γ p hΓ; exact ih () g e hg Γ p hΓ
  | ask k ih => intro g e hg Γ p hΓ; exact ih _ g e hg Γ p hΓ
  | load a _ k ih =>
    intro g e hg Γ p hΓ
    simp only [peek1] at e
    split at e
    · rename_i ob ho; exact ⟨ob, X _ _ ho, ih ob g e hg Γ p hΓ⟩
    · cases e
  | alloc ob k _ =>
    intro g e hg
    have e : some (ob, fun D => peek K ⟨M.prog, M.w.params⟩ (k D)) = some (o, g) := e
    obtain ⟨e1, e2⟩ := Prod.mk.inj (Option.some.inj e)
    subst e1
    subst e2
    have X' : K.In (s.heap.push ob) := X.keeps fun b x hb => Heap.get?_push_of_some _ hb
    show wpAny M A (alloc ob >>= k) Q E s
    refine wpAny_bind (wpAny_alloc ?_)
    exact (Looks.of_peek (M := M) (h := s.heap.push ob) X' (hg s.heap.objs.size)).here (s := { s with heap := s.heap.push ob }) q
  | _ => intro g e; cases e

section
variable {prog : Program} {w : World} {A : Around} {R : Result → Shared → Prop} {s : Shared}
/-- a def with *rest: the rest's tuple is made -/
theorem enterV {h₀ : Heap} {name qual : Str} {params : Arguments} {body : List Stmt} {scope : Scope} {dV kV doc pm cdv ct oc : Value} {an od : Option Addr} {osl : Array (Option Value)} {f : Addr} {args : Args} {vs : List Value} {g₁ : Addr → Option (List (Str × Value))} {binds : Addr → List (Str × Value)}
    (B : Base w h₀) (st : h₀.StaysIn s.heap)
    (ho : (hd.heap_39 w.params).lookup f = some ⟨oc, od, .func (fnOf name qual params body scope dV kV doc pm an cdv ct), osl⟩) (hcd : codeIn (hd.heap_39 w.params) cdv qual = true) (hroom : A.depth < recursionLimit)
    (hp : peek1 (hd.heap_39 w.params) ⟨prog, w.params⟩ (bindArgs (fnOf name qual params body scope dV kV doc pm an cdv ct) args) = some (({ cls := .type "tuple", data := .seq vs.toArray } : Obj), g₁))
    (hb : ∀ D, g₁ D = some (binds D)) (hloc : ∀ D, ∀ y ∈ binds D, scope.names.lookup y.1 = some .local)
    (h : ∀ g D L h₁ tk, Base w g → Fr g L h₁ (fun y => (binds D).reverse.lookup y) → News g L h₁ [(D, ({ cls := .type "tuple", data := .seq vs.toArray } : Obj))] →
      (∀ h', g.StaysIn h' → Mod [] s.heap h') → (∀ b o, s.heap.get? b = some o → g.get? b = some o) →
      wpAny (model prog w) (A.deeper (envOf qual scope L f cdv)) (execs body (envOf qual scope L f cdv))
        (fun fl s' => R (.ok (.ret (match fl with | .ret v => v | _ => .none))) s') (fun _ _ => False)
        ⟨h₁, s.gens, s.drawn, tk, s.os⟩)
    (hco : scope.isCoroutine = false) (hgen : scope.isGenerator = false) (hk : scope.kind = .function)
    (hcell : ∀ x ∈ scope.names, x.2 ≠ .cell) : codeAny (model prog w) A (.call (.ref f) args) R s := by
  have X : (hd.heap_39 w.params).In s.heap := B.X.keeps st
  obtain ⟨p, l, mg, mb, T⟩ := B.T
  refine codeAny_call_function (fd := fnOf name qual params body scope dV kV doc pm an cdv ct) (body := body) hroom (X _ _ ho) rfl hco hgen rfl (codeRec_of X hcd) ?_
  refine wp_peek1' (o := ({ cls := .type "tuple", data := .seq vs.toArray } : Obj)) X (r := binds) ?_ _ g₁ hp hb
  refine wpAny_newFunctionEnv hcell (hloc _) (fun h₁ hns hsb => ?_) hk
  have k0 : ∀ b o, s.heap.get? b = some o → (s.heap.push { cls := .type "tuple", data := .seq vs.toArray }).get? b = some o := fun b o e => Heap.get?_push_of_some _ e
  have hk₁ : ∀ b o, (s.heap.push { cls := .type "tuple", data := .seq vs.toArray }).get? b = some o → h₁.get? b = some o := fun b o e => hsb.extBut b o (Nat.ne_of_lt (Heap.lt_size e)) (Heap.get?_push_of_some _ e)
  refine ⟨((T.nolimit.keeps st).keeps k0).keeps hk₁, codeAny_func ?_⟩
  have hD := Heap.get?_push_size s.heap (o := ({ cls := .type "tuple", data := .seq vs.toArray } : Obj)) rfl
  refine wpAny_mono (h s.heap s.heap.objs.size (s.heap.push { cls := .type "tuple", data := .seq vs.toArray }).objs.size h₁ _ (B.keeps st) ⟨hns, fun b o e => hk₁ b o (k0 b o e), by rw [Heap.size_push]; exact Nat.le_succ _⟩
    (fun p hp => ?_) (fun h' k b o _ e => k b o e) (fun b o e => e)) (fun _ _ x => x) (fun _ _ x => x.elim)
  rw [List.mem_singleton.mp hp]
  refine ⟨hk₁ _ _ hD, by rw [Heap.size_push]; exact Nat.ne_of_lt (Nat.lt_succ_self _), ?_⟩
  cases q : s.heap.get? s.heap.objs.size with
  | none => rfl
  | some o => exact absurd (Heap.lt_size q) (Nat.lt_irrefl _)

/-- a def with cells (names that a comprehension of its reads) -/
theorem enterC {h₀ : Heap} {name qual : Str} {params : Arguments} {body : List Stmt} {scope : Scope} {dV kV doc pm cdv ct oc : Value} {an od : Option Addr} {osl : Array (Option Value)} {f : Addr} {args : Args} {binds : List (Str × Value)}
    (B : Base w h₀) (st : h₀.StaysIn s.heap)
    (ho : (hd.heap_39 w.params).lookup f = some ⟨oc, od, .func (fnOf name qual params body scope dV kV doc pm an cdv ct), osl⟩) (hcd : codeIn (hd.heap_39 w.params) cdv qual = true) (hroom : A.depth < recursionLimit)
    (hbind : BindsTo s (fnOf name qual params body scope dV kV doc pm an cdv ct) args binds) (hkind : (binds.all fun y => scope.names.lookup y.1 == some .local || scope.names.lookup y.1 == some .cell) = true)
    (hnd : ((cellsFrom 0 scope.names []).map (·.1)).Nodup)
    (h : ∀ g L h₁ tk cells, Base w g → Fr g L h₁ (bindL (envOfC qual scope L f cdv).kindOf binds fun _ => none) → News g L h₁ cells →
      CellsAre (bindC (envOfC qual scope L f cdv).kindOf binds fun _ => none) (cellsFrom (L + 1) scope.names []) cells →
      (∀ h', g.StaysIn h' → Mod [] s.heap h') → (∀ b o, s.heap.get? b = some o → g.get? b = some o) →
      wpAny (model prog w) (A.deeper (envOfC qual scope L f cdv)) (execs body (envOfC qual scope L f cdv))
        (fun fl s' => R (.ok (.ret (match fl with | .ret v => v | _ => .none))) s') (fun _ _ => False)
        ⟨h₁, s.gens, s.drawn, tk, s.os⟩)
    (hco : scope.isCoroutine = false) (hgen : scope.isGenerator = false) (hk : scope.kind = .function) : codeAny (model prog w) A (.call (.ref f) args) R s := by
  have X : (hd.heap_39 w.params).In s.heap := B.X.keeps st
  obtain ⟨p, l, mg, mb, T⟩ := B.T
  refine codeAny_call_function (fd := fnOf name qual params body scope dV kV doc pm an cdv ct) (body := body) hroom (X _ _ ho) rfl hco hgen rfl (codeRec_of X hcd) (hbind _ _ _ _ ?_)
  refine wpAny_newFunctionEnv_cells hk (kindsX hkind _) fun env' he s' x => ?_
  subst he
  refine ⟨(T.nolimit.keeps st).keeps x.toInCall.keep, codeAny_func ?_⟩
  obtain ⟨h₁, tk, rfl, _⟩ := x.done
  have hk₁ := x.toInCall.keep
  obtain ⟨cells, NC, Y⟩ := Cl.news (h₀ := s.heap) (Nat.le_refl _) fun n c hm => ⟨x.cell n c (lookup_of_mem_nodup (cellsFrom_names scope.names 0 (s.heap.objs.size + 1) [] [] rfl ▸ hnd) hm), x.above n c hm⟩
  exact wpAny_mono (h s.heap s.heap.objs.size h₁ tk cells (B.keeps st) ⟨x.toInCall.ns, hk₁, Nat.le_refl _⟩ NC Y (fun h' k b o _ e => k b o e) (fun b o e => e)) (fun _ _ x => x) (fun _ _ x => x.elim)
end
end Mine
namespace Mine
open PySem PySem.W PySem.Calls PyProof.Rows
theorem fillF3 : (PySem.Challenge.rw_pd0156_01 = PySem.Challenge.rw_pd0156_01) ∧ hd.heap_39 = hd.heap_39 := by
  k_fill
  exact ⟨rfl, rfl⟩
section
variable {prog : Program} {w : World} {A : Around} {R : Result → Shared → Prop} {s : Shared} {h₀ : Heap} {E : Value → Shared → Prop}

def jstep (p b : Str) : Str := if Txt.startswith b (Str.ofString "/") = true then b else if ((p.length : Nat) : Int) ≠ 0 then (if Txt.endswith p (Str.ofString "/") = true then p ++ b else p ++ (Str.ofString "/" ++ b)) else b
def jfold (a : Str) (l : List Str) : Str := l.foldl jstep a
theorem jstep_len (p b : Str) : (jstep p b).length ≤ p.length + b.length + 1 := by
  have e : (Str.ofString "/").length = 1 := by decide
  unfold jstep
  repeat' split
  all_goals (try simp only [Str.length_append, e]); (first | decide | with_reducible assumption | with_reducible exact Nat.le_trans (by assumption) (by decide) | with_reducible exact Nat.lt_of_lt_of_le (Nat.add_lt_add_right (by assumption) _) (by decide) | with_reducible exact Int.natCast_nonneg _ | omega)
theorem join_spec (B : Base w h₀) (st : h₀.StaysIn s.heap) (hA : A.handled = none) (hr : A.depth < 898) (hu : A.units < 480) {a b c : Str} {t1 t2 t3 : Tok} (ha : a.length ≤ 1000) (hb : b.length ≤ 1000) (hc : c.length ≤ 1000)
  (hR : ∀ h' tk t', Mod [] s.heap h' → R (.ok (.ret (.str (jstep (jstep a b) c) t'))) ⟨h', s.gens, s.drawn, tk, s.os⟩) :
  codeAny (model prog w) A (.call (.ref 204) ⟨[.str a t1, .str b t2, .str c t3], []⟩) R s := by
  refine' enterV (vs := [.str b t2, .str c t3]) (binds := fun D => [("a", .str a t1), ("p", .ref D)]) B st ?ho ?hcd ?hroom ?hp ?hb ?hloc ?_ ?hco ?hgen ?hk ?hcell
  case hroom => exact Nat.lt_of_lt_of_le hr (by decide)
  case ho => k_is
  case hcd => k_is
  case hp => exact rfl
  case hb => exact fun _ => rfl
  case hloc => exact fun _ => locs rfl
  case hco => exact rfl
  case hgen => exact rfl
  case hk => exact rfl
  case hcell => decide
  intro g D L h₁ tk Bg F N back hg
  have X := Bg.X
  have Bg' := Bg
  obtain ⟨pT, lT, mg, mb, T⟩ := Bg.T
  repeat ((try dsimp only [WPost, Turn]); (fail_if_success (first | (with_reducible show wpAny _ _ (exec (Stmt.While _ _ _ _) _) _ _ _) | (with_reducible show wpAny _ _ (exec (Stmt.For _ _ _ _ _) _) _ _ _) | (with_reducible show wpAny _ _ (call (Value.ref _) _ _) _ _ _) | (with_reducible show wpAny _ _ (call (Value.builtin "issubclass") _) _ _ _))); walk1)
  refine wpAny_call (fspath_spec (s := ⟨_, _, _, _, _⟩) Bg' F.keep (by show A.depth + 1 < 899; (first | decide | with_reducible assumption | with_reducible exact Nat.le_trans (by assumption) (by decide) | with_reducible exact Nat.lt_of_lt_of_le (Nat.add_lt_add_right (by assumption) _) (by decide) | with_reducible exact Int.natCast_nonneg _ | omega)) (by show A.units + 3 < 490; (first | decide | with_reducible assumption | with_reducible exact Nat.le_trans (by assumption) (by decide) | with_reducible exact Nat.lt_of_lt_of_le (Nat.add_lt_add_right (by assumption) _) (by decide) | with_reducible exact Int.natCast_nonneg _ | omega)) fun h2 tk2 M => ?_)
  replace F := Fr.keeps' F M
  replace N := News.keeps' N M
  dsimp only
  repeat ((try dsimp only [WPost, Turn]); (fail_if_success (first | (with_reducible show wpAny _ _ (exec (Stmt.While _ _ _ _) _) _ _ _) | (with_reducible show wpAny _ _ (exec (Stmt.For _ _ _ _ _) _) _ _ _) | (with_reducible show wpAny _ _ (call (Value.ref _) _ _) _ _ _) | (with_reducible show wpAny _ _ (call (Value.builtin "issubclass") _) _ _ _))); walk1)
  rename Fr g L _ _ => F
  rename News g L _ _ => N
  refine wpAny_call (getsep_spec (s := ⟨_, _, _, _, _⟩) Bg' F.keep (by show A.depth + 1 < 899; (first | decide | with_reducible assumption | with_reducible exact Nat.le_trans (by assumption) (by decide) | with_reducible exact Nat.lt_of_lt_of_le (Nat.add_lt_add_right (by assumption) _) (by decide) | with_reducible exact Int.natCast_nonneg _ | omega)) fun h2 tk2 ts2 M => ?_)
  replace F := Fr.keeps' F M
  replace N := News.keeps' N M
  dsimp only
  repeat ((try dsimp only [WPost, Turn]); (fail_if_success (first | (with_reducible show wpAny _ _ (exec (Stmt.While _ _ _ _) _) _ _ _) | (with_reducible show wpAny _ _ (exec (Stmt.For _ _ _ _ _) _) _ _ _) | (with_reducible show wpAny _ _ (call (Value.ref _) _ _) _ _ _) | (with_reducible show wpAny _ _ (call (Value.builtin "issubclass") _) _ _ _))); walk1)
  rename Fr g L _ _ => F
  rename News g L _ _ => N
  refine wpAny_mono (E := fun _ _ => False) ?_ (fun _ _ h => h) (fun _ _ h => h.elim)
  refine For_invV g rfl rfl ?_
  repeat ((try dsimp only [WPost, Turn]); (fail_if_success (first | (with_reducible show wpAny _ _ (exec (Stmt.While _ _ _ _) _) _ _ _) | (with_reducible show wpAny _ _ (exec (Stmt.For _ _ _ _ _) _) _ _ _) | (with_reducible show wpAny _ _ (call (Value.ref _) _ _) _ _ _) | (with_reducible show wpAny _ _ (call (Value.builtin "issubclass") _) _ _ _))); walk1)
  refine for_tuple (vs := [.str b t2, .str c t3]) (nx₀ := []) (keep := [(D, ({ cls := .type "tuple", data := .seq (List.toArray [.str b t2, .str c t3]) } : Obj))]) hA ⟨_, (N _ (List.mem_cons_self ..)).1, rfl, _, rfl⟩ (.inr ⟨_, List.mem_cons_self ..⟩) F N
    (fun i m nx => nx = [] ∧ (∃ ts, m "sep" = some (.str (Str.ofString "/") ts)) ∧ ∃ tp, m "path" = some (.str (jfold a ([b, c].take i)) tp)) ⟨rfl, ⟨_, rfl⟩, ⟨_, rfl⟩⟩ ?_ ?_
  · rintro I i v m₁ nx h tk oI hv ⟨rfl, ⟨ts, hm1⟩, ⟨tp, hm2⟩⟩ hne F N
    obtain ⟨y, ty, rfl, hy, hj⟩ : ∃ y ty, v = .str y ty ∧ y.length ≤ 1000 ∧ jfold a ([b, c].take (i + 1)) = jstep (jfold a ([b, c].take i)) y := by
      match i, hv with
      | 0, hv => exact ⟨b, t2, by simpa using hv.symm, hb, rfl⟩
      | 1, hv => exact ⟨c, t3, by simpa using hv.symm, hc, rfl⟩
    have hl : (jfold a ([b, c].take i)).length ≤ 3003 := by
      have l1 := jstep_len a b
      have l2 := jstep_len (jstep a b) c
      match i, hv with
      | 0, _ => show a.length ≤ 3003; (first | decide | with_reducible assumption | with_reducible exact Nat.le_trans (by assumption) (by decide) | with_reducible exact Nat.lt_of_lt_of_le (Nat.add_lt_add_right (by assumption) _) (by decide) | with_reducible exact Int.natCast_nonneg _ | omega)
      | 1, _ => show (jstep a b).length ≤ 3003; (first | decide | with_reducible assumption | with_reducible exact Nat.le_trans (by assumption) (by decide) | with_reducible exact Nat.lt_of_lt_of_le (Nat.add_lt_add_right (by assumption) _) (by decide) | with_reducible exact Int.natCast_nonneg _ | omega)
    rw [hj]
    generalize jfold a ([b, c].take i) = q at *
    clear hv
    replace F : Fr g L h _ := Fr.over (ps := [("b", .str y ty), ("sep", .str (Str.ofString "/") ts), ("path", .str q tp)]) F ⟨rfl, hm1, hm2, trivial⟩
    dsimp only [over] at F
    replace N : News g L h [(D, _), (I, oI)] := N
    repeat ((try dsimp only [WPost, Turn]); (fail_if_success (first | (with_reducible show wpAny _ _ (exec (Stmt.While _ _ _ _) _) _ _ _) | (with_reducible show wpAny _ _ (exec (Stmt.For _ _ _ _ _) _) _ _ _) | (with_reducible show wpAny _ _ (call (Value.ref _) _ _) _ _ _) | (with_reducible show wpAny _ _ (call (Value.builtin "issubclass") _) _ _ _))); walk1)
    rename Fr g L _ _ => F
    rename News g L _ _ => N
    refine wpAny_call (fspath_spec (s := ⟨_, _, _, _, _⟩) Bg' F.keep (by show A.depth + 1 < 899; (first | decide | with_reducible assumption | with_reducible exact Nat.le_trans (by assumption) (by decide) | with_reducible exact Nat.lt_of_lt_of_le (Nat.add_lt_add_right (by assumption) _) (by decide) | with_reducible exact Int.natCast_nonneg _ | omega)) (by show A.units + 3 < 490; (first | decide | with_reducible assumption | with_reducible exact Nat.le_trans (by assumption) (by decide) | with_reducible exact Nat.lt_of_lt_of_le (Nat.add_lt_add_right (by assumption) _) (by decide) | with_reducible exact Int.natCast_nonneg _ | omega)) fun h2 tk2 M => ?_)
    replace F := Fr.keeps' F M
    replace N := News.keeps' N M
    dsimp only
    repeat' ((try dsimp only [WPost, Turn]); (fail_if_success (first | (with_reducible show wpAny _ _ (exec (Stmt.While _ _ _ _) _) _ _ _) | (with_reducible show wpAny _ _ (exec (Stmt.For _ _ _ _ _) _) _ _ _) | (with_reducible show wpAny _ _ (call (Value.ref _) _ _) _ _ _) | (with_reducible show wpAny _ _ (call (Value.builtin "issubclass") _) _ _ _))); walk1)
    · have h1 : Txt.startswith y (Str.ofString "/") = true := by assumption
      rename Fr g L _ _ => F
      rename News g L _ _ => N
      have e : jstep q y = y := by unfold jstep; rw [if_pos h1]
      rw [e]
      exact TEnd.intro (s := ⟨_, _, _, _, _⟩) [] F N (by intro p hp; cases hp) (by intro p hp; rw [List.mem_singleton.mp hp]; exact List.mem_cons_self ..) (List.mem_cons_of_mem _ (List.mem_cons_self ..)) (by intro p hp; cases hp) ⟨rfl, ⟨_, rfl⟩, ⟨_, rfl⟩⟩
    · have h1 : Txt.startswith y (Str.ofString "/") = false := by assumption
      have h2 : ((q.length : Nat) : Int) ≠ 0 := by assumption
      have h3 : Txt.endswith q (Str.ofString "/") = true := by assumption
      rename Fr g L _ _ => F
      rename News g L _ _ => N
      have e : jstep q y = q ++ y := by unfold jstep; rw [if_neg (by rw [h1]; exact Bool.false_ne_true), if_pos h2, if_pos h3]
      rw [e]
      exact TEnd.intro (s := ⟨_, _, _, _, _⟩) [] F N (by intro p hp; cases hp) (by intro p hp; rw [List.mem_singleton.mp hp]; exact List.mem_cons_self ..) (List.mem_cons_of_mem _ (List.mem_cons_self ..)) (by intro p hp; cases hp) ⟨rfl, ⟨_, rfl⟩, ⟨_, rfl⟩⟩
    · have h1 : Txt.startswith y (Str.ofString "/") = false := by assumption
      have h2 : ((q.length : Nat) : Int) ≠ 0 := by assumption
      have h3 : Txt.endswith q (Str.ofString "/") = false := by assumption
      rename Fr g L _ _ => F
      rename News g L _ _ => N
      have e : jstep q y = q ++ (Str.ofString "/" ++ y) := by unfold jstep; rw [if_neg (by rw [h1]; exact Bool.false_ne_true), if_pos h2, if_neg (by rw [h3]; exact Bool.false_ne_true)]
      rw [e]
      exact TEnd.intro (s := ⟨_, _, _, _, _⟩) [] F N (by intro p hp; cases hp) (by intro p hp; rw [List.mem_singleton.mp hp]; exact List.mem_cons_self ..) (List.mem_cons_of_mem _ (List.mem_cons_self ..)) (by intro p hp; cases hp) ⟨rfl, ⟨_, rfl⟩, ⟨_, rfl⟩⟩
    · have h1 : Txt.startswith y (Str.ofString "/") = false := by assumption
      have h2 : ((q.length : Nat) : Int) = 0 := by assumption
      rename Fr g L _ _ => F
      rename News g L _ _ => N
      have e : jstep q y = y := by unfold jstep; rw [if_neg (by rw [h1]; exact Bool.false_ne_true), if_neg (fun z => z h2)]
      rw [e]
      exact TEnd.intro (s := ⟨_, _, _, _, _⟩) [] F N (by intro p hp; cases hp) (by intro p hp; rw [List.mem_singleton.mp hp]; exact List.mem_cons_self ..) (List.mem_cons_of_mem _ (List.mem_cons_self ..)) (by intro p hp; cases hp) ⟨rfl, ⟨_, rfl⟩, ⟨_, rfl⟩⟩
  · rintro m' nx h tk ⟨rfl, ⟨ts, hm1⟩, ⟨tp, hm2⟩⟩ F N
    replace F : Fr g L h _ := Fr.over (ps := [("sep", .str (Str.ofString "/") ts), ("path", .str (jstep (jstep a b) c) tp)]) F ⟨hm1, hm2, trivial⟩
    dsimp only [over] at F
    repeat ((try dsimp only [WPost, Turn]); (fail_if_success (first | (with_reducible show wpAny _ _ (exec (Stmt.While _ _ _ _) _) _ _ _) | (with_reducible show wpAny _ _ (exec (Stmt.For _ _ _ _ _) _) _ _ _) | (with_reducible show wpAny _ _ (call (Value.ref _) _ _) _ _ _) | (with_reducible show wpAny _ _ (call (Value.builtin "issubclass") _) _ _ _))); walk1)
    exact hR _ _ _ (back _ F.keep)
end
end Mine
namespace Mine
open PySem PySem.W PySem.Calls PyProof.Rows
theorem fillF4 : (PySem.Challenge.rw_pd0156_01 = PySem.Challenge.rw_pd0156_01) ∧ hd.heap_39 = hd.heap_39 := by
  k_fill
  exact ⟨rfl, rfl⟩
section
variable {prog : Program} {w : World} {A : Around} {R : Result → Shared → Prop} {s : Shared} {h₀ : Heap} {E : Value → Shared → Prop}

theorem splitroot_spec (B : Base w h₀) (st : h₀.StaysIn s.heap) (hr : A.depth < 898) (hu : A.units < 480) {x : Str} {t : Tok} (hx : x.length ≤ 5000)
  (h1 : Txt.slice x none (some 1) = Str.ofString "/") (h2 : Txt.slice x (some 1) (some 2) ≠ Str.ofString "/")
  (hR : ∀ h' tk a t1 t2 t3 n, Mod [] s.heap h' → s.heap.get? a = none → h'.get? a = some ({ cls := .type "tuple", data := .seq #[.str (Str.ofString "") t1, .str (Str.ofString "/") t2, .str (Txt.slice x (some 1) none) t3] n } : Obj) → R (.ok (.ret (.ref a))) ⟨h', s.gens, s.drawn, tk, s.os⟩) :
  codeAny (model prog w) A (.call (.ref 211) ⟨[.str x t], []⟩) R s := by
  refine' enter (binds := [("p", .str x t)]) [] B st (by intro q hq; cases hq) ?ho ?hcd ?hroom ?hbind ?hloc ?_ ?hco ?hgen ?hk ?hcell
  case hroom => exact Nat.lt_of_lt_of_le hr (by decide)
  ((case ho => k_is); (case hcd => k_is); (case hbind => exact BindsTo.of_eq rfl); (case hloc => exact locs rfl); (case hco => exact rfl); (case hgen => exact rfl); (case hk => exact rfl); (case hcell => decide))
  intro g L h₁ tk Bg F N back hL hSg hg
  have X := Bg.X
  have Bg' := Bg
  obtain ⟨pT, lT, mg, mb, T⟩ := Bg.T
  repeat ((try dsimp only [WPost, Turn]); (fail_if_success (first | (with_reducible show wpAny _ _ (exec (Stmt.While _ _ _ _) _) _ _ _) | (with_reducible show wpAny _ _ (exec (Stmt.For _ _ _ _ _) _) _ _ _) | (with_reducible show wpAny _ _ (call (Value.ref _) _ _) _ _ _) | (with_reducible show wpAny _ _ (call (Value.builtin "issubclass") _) _ _ _))); walk1)
  refine wpAny_call (fspath_spec (s := ⟨_, _, _, _, _⟩) Bg' F.keep (by show A.depth + 1 < 899; (first | decide | with_reducible assumption | with_reducible exact Nat.le_trans (by assumption) (by decide) | with_reducible exact Nat.lt_of_lt_of_le (Nat.add_lt_add_right (by assumption) _) (by decide) | with_reducible exact Int.natCast_nonneg _ | omega)) (by show A.units + 3 < 490; (first | decide | with_reducible assumption | with_reducible exact Nat.le_trans (by assumption) (by decide) | with_reducible exact Nat.lt_of_lt_of_le (Nat.add_lt_add_right (by assumption) _) (by decide) | with_reducible exact Int.natCast_nonneg _ | omega)) fun h2' tk2 M => ?_)
  replace F := Fr.keeps' F M
  replace N := News.keeps' N M
  dsimp only
  repeat' ((try dsimp only [WPost, Turn]); (fail_if_success (first | (with_reducible show wpAny _ _ (exec (Stmt.While _ _ _ _) _) _ _ _) | (with_reducible show wpAny _ _ (exec (Stmt.For _ _ _ _ _) _) _ _ _) | (with_reducible show wpAny _ _ (call (Value.ref _) _ _) _ _ _) | (with_reducible show wpAny _ _ (call (Value.builtin "issubclass") _) _ _ _))); walk1)
  · have q : (Txt.slice x none (some 1) != Str.ofString "/") = true := by assumption
    rw [h1] at q
    exact absurd q (by decide)
  · rename Fr g L _ _ => F
    rename News g L _ _ => N
    exact hR _ _ _ _ _ _ _ (back _ F.keep) (born_here hg N (List.mem_cons_self ..) (by simp)) (N _ (List.mem_cons_self ..)).1
  · have q : (Txt.slice x (some 1) (some 2) != Str.ofString "/") = false := by assumption
    exact absurd (by simpa using q) h2
  · have q : (Txt.slice x (some 1) (some 2) != Str.ofString "/") = false := by assumption
    exact absurd (by simpa using q) h2
end
end Mine
namespace Mine
open PySem PySem.W PySem.Calls PyProof.Rows
theorem fillF5 : (PySem.Challenge.rw_pd0156_01 = PySem.Challenge.rw_pd0156_01) ∧ hd.heap_39 = hd.heap_39 := by
  k_fill
  exact ⟨rfl, rfl⟩
section
variable {prog : Program} {w : World} {A : Around} {R : Result → Shared → Prop} {s : Shared} {h₀ : Heap} {E : Value → Shared → Prop}

def nstep (nc : List Str) (c : Str) : List Str := if ((c.length : Nat) : Int) = 0 ∨ c = Str.ofString "." then nc else if c ≠ Str.ofString ".." then nc ++ [c] else if nc = [] then nc else if nc.getLast? = some (Str.ofString "..") then nc ++ [c] else nc.dropLast
def normS (x : Str) : Str := Str.ofString "/" ++ Txt.join (Str.ofString "/") ((Txt.split (Txt.slice x (some 1) none) (Str.ofString "/")).foldl nstep [])
theorem strs_get : ∀ {vs : List Value} {ys : List Str}, StrsAre vs ys → ∀ {i : Nat} {v : Value}, vs[i]? = some v → ∃ y t, ys[i]? = some y ∧ v = .str y t
  | _, _, .nil, i, v, h => by simp at h
  | _, _, .cons y t r, 0, v, h => ⟨y, t, rfl, by simpa using h.symm⟩
  | _, _, .cons y t r, i + 1, v, h => by
    obtain ⟨y', t', h1, h2⟩ := strs_get r (i := i) (v := v) (by simpa using h)
    exact ⟨y', t', by simpa using h1, h2⟩
theorem strs_snoc : ∀ {us : List Value} {u : Value} {ys : List Str}, StrsAre (us ++ [u]) ys → ∃ ys' z tz, ys = ys' ++ [z] ∧ u = .str z tz ∧ StrsAre us ys'
  | [], u, ys, h => by
    cases h with
    | cons y t r => cases r; exact ⟨[], y, t, rfl, rfl, .nil⟩
  | v :: us, u, ys, h => by
    cases h with
    | cons y t r =>
      obtain ⟨ys', z, tz, rfl, rfl, h'⟩ := strs_snoc r
      exact ⟨y :: ys', z, tz, rfl, rfl, .cons y t h'⟩
theorem sum_len {ns : List Str} (h : ∀ z ∈ ns, z.length ≤ 1000) : (ns.map (·.length)).sum ≤ 1000 * ns.length := by
  induction ns with
  | nil => simp
  | cons a r ih =>
    have h1 := h a (List.mem_cons_self ..)
    have h2 := ih fun z hz => h z (List.mem_cons_of_mem _ hz)
    simp only [List.map_cons, List.sum_cons, List.length_cons]; (first | decide | with_reducible assumption | with_reducible exact Nat.le_trans (by assumption) (by decide) | with_reducible exact Nat.lt_of_lt_of_le (Nat.add_lt_add_right (by assumption) _) (by decide) | with_reducible exact Int.natCast_nonneg _ | omega)
theorem normpath_spec (B : Base w h₀) (st : h₀.StaysIn s.heap) (hA : A.handled = none) (hr : A.depth < 897) (hu : A.units < 470) {x : Str} {t : Tok} (hx : x.length ≤ 5000) (hx0 : ((x.length : Nat) : Int) ≠ 0)
  (h1 : Txt.slice x none (some 1) = Str.ofString "/") (h2 : Txt.slice x (some 1) (some 2) ≠ Str.ofString "/") (hcn : (Txt.split (Txt.slice x (some 1) none) (Str.ofString "/")).length ≤ 100) (hcb : ∀ c ∈ Txt.split (Txt.slice x (some 1) none) (Str.ofString "/"), c.length ≤ 1000)
  (hR : ∀ h' tk t', Mod [] s.heap h' → R (.ok (.ret (.str (normS x) t'))) ⟨h', s.gens, s.drawn, tk, s.os⟩) :
  codeAny (model prog w) A (.call (.ref 225) ⟨[.str x t], []⟩) R s := by
  refine' enter (binds := [("path", .str x t)]) [] B st (by intro q hq; cases hq) ?ho ?hcd ?hroom ?hbind ?hloc ?_ ?hco ?hgen ?hk ?hcell
  case hroom => exact Nat.lt_of_lt_of_le hr (by decide)
  ((case ho => k_is); (case hcd => k_is); (case hbind => exact BindsTo.of_eq rfl); (case hloc => exact locs rfl); (case hco => exact rfl); (case hgen => exact rfl); (case hk => exact rfl); (case hcell => decide))
  intro g L h₁ tk Bg F N back hL hSg hg
  have X := Bg.X
  have Bg' := Bg
  obtain ⟨pT, lT, mg, mb, T⟩ := Bg.T
  repeat ((try dsimp only [WPost, Turn]); (fail_if_success (first | (with_reducible show wpAny _ _ (exec (Stmt.While _ _ _ _) _) _ _ _) | (with_reducible show wpAny _ _ (exec (Stmt.For _ _ _ _ _) _) _ _ _) | (with_reducible show wpAny _ _ (call (Value.ref _) _ _) _ _ _) | (with_reducible show wpAny _ _ (call (Value.builtin "issubclass") _) _ _ _) | (with_reducible show wpAny _ _ (call (Value.builtin "list.append") _) _ _ _) | (with_reducible show wpAny _ _ (call (Value.builtin "list.pop") _) _ _ _) | (with_reducible show wpAny _ _ (truthy (Value.ref _)) _ _ _) | (with_reducible show wpAny _ _ (subscriptTail _ _ (Value.ref _) _) _ _ _) | (with_reducible show wpAny _ _ (binaryOp Operator.Add (Value.str _ _) (Value.str (Txt.join _ _) _)) _ _ _))); walk1)
  refine wpAny_call (fspath_spec (s := ⟨_, _, _, _, _⟩) Bg' F.keep (by show A.depth + 1 < 899; (first | decide | with_reducible assumption | with_reducible exact Nat.le_trans (by assumption) (by decide) | with_reducible exact Nat.lt_of_lt_of_le (Nat.add_lt_add_right (by assumption) _) (by decide) | with_reducible exact Int.natCast_nonneg _ | omega)) (by show A.units + 3 < 490; (first | decide | with_reducible assumption | with_reducible exact Nat.le_trans (by assumption) (by decide) | with_reducible exact Nat.lt_of_lt_of_le (Nat.add_lt_add_right (by assumption) _) (by decide) | with_reducible exact Int.natCast_nonneg _ | omega)) fun h2' tk2 M => ?_)
  replace F := Fr.keeps' F M
  replace N := News.keeps' N M
  dsimp only
  repeat' ((try dsimp only [WPost, Turn]); (fail_if_success (first | (with_reducible show wpAny _ _ (exec (Stmt.While _ _ _ _) _) _ _ _) | (with_reducible show wpAny _ _ (exec (Stmt.For _ _ _ _ _) _) _ _ _) | (with_reducible show wpAny _ _ (call (Value.ref _) _ _) _ _ _) | (with_reducible show wpAny _ _ (call (Value.builtin "issubclass") _) _ _ _) | (with_reducible show wpAny _ _ (call (Value.builtin "list.append") _) _ _ _) | (with_reducible show wpAny _ _ (call (Value.builtin "list.pop") _) _ _ _) | (with_reducible show wpAny _ _ (truthy (Value.ref _)) _ _ _) | (with_reducible show wpAny _ _ (subscriptTail _ _ (Value.ref _) _) _ _ _) | (with_reducible show wpAny _ _ (binaryOp Operator.Add (Value.str _ _) (Value.str (Txt.join _ _) _)) _ _ _))); walk1)
  rotate_left
  · have q : ((x.length : Nat) : Int) = 0 := by assumption
    exact absurd q hx0
  rename Fr g L _ _ => F
  rename News g L _ _ => N
  refine wpAny_call (splitroot_spec (s := ⟨_, _, _, _, _⟩) Bg' F.keep (by show A.depth + 1 < 898; (first | decide | with_reducible assumption | with_reducible exact Nat.le_trans (by assumption) (by decide) | with_reducible exact Nat.lt_of_lt_of_le (Nat.add_lt_add_right (by assumption) _) (by decide) | with_reducible exact Int.natCast_nonneg _ | omega)) (by show A.units + 3 < 480; (first | decide | with_reducible assumption | with_reducible exact Nat.le_trans (by assumption) (by decide) | with_reducible exact Nat.lt_of_lt_of_le (Nat.add_lt_add_right (by assumption) _) (by decide) | with_reducible exact Int.natCast_nonneg _ | omega)) hx h1 h2 fun h3 tk3 a3 t31 t32 t33 n3 M ha ho => ?_)
  replace N := News.born F N M ha ho
  replace F := Fr.keeps' F M
  dsimp only
  refine unpackN_ F N (News.isTup N (List.mem_cons_self ..)) hA rfl rfl fun h' F' N' => ?_
  clear F N
  repeat ((try dsimp only [WPost, Turn]); (fail_if_success (first | (with_reducible show wpAny _ _ (exec (Stmt.While _ _ _ _) _) _ _ _) | (with_reducible show wpAny _ _ (exec (Stmt.For _ _ _ _ _) _) _ _ _) | (with_reducible show wpAny _ _ (call (Value.ref _) _ _) _ _ _) | (with_reducible show wpAny _ _ (call (Value.builtin "issubclass") _) _ _ _) | (with_reducible show wpAny _ _ (call (Value.builtin "list.append") _) _ _ _) | (with_reducible show wpAny _ _ (call (Value.builtin "list.pop") _) _ _ _) | (with_reducible show wpAny _ _ (truthy (Value.ref _)) _ _ _) | (with_reducible show wpAny _ _ (subscriptTail _ _ (Value.ref _) _) _ _ _) | (with_reducible show wpAny _ _ (binaryOp Operator.Add (Value.str _ _) (Value.str (Txt.join _ _) _)) _ _ _))); walk1)
  rename_i nl hx1 l1 hx2 F N
  rename List (Str × Tok) => l
  rename StrsAre _ _ => hS
  rename List.map _ _ = Txt.split _ _ => hsp
  rw [hsp] at hS
  have hlen : (strValues l).length = (Txt.split (Txt.slice x (some 1) none) (Str.ofString "/")).length := hS.length
  unfold normS at hR
  generalize hcs : Txt.split (Txt.slice x (some 1) none) (Str.ofString "/") = cs at *
  generalize hvs : strValues l = vs at *
  clear hsp hvs
  refine For_invV g rfl rfl ?_
  repeat ((try dsimp only [WPost, Turn]); (fail_if_success (first | (with_reducible show wpAny _ _ (exec (Stmt.While _ _ _ _) _) _ _ _) | (with_reducible show wpAny _ _ (exec (Stmt.For _ _ _ _ _) _) _ _ _) | (with_reducible show wpAny _ _ (call (Value.ref _) _ _) _ _ _) | (with_reducible show wpAny _ _ (call (Value.builtin "issubclass") _) _ _ _) | (with_reducible show wpAny _ _ (call (Value.builtin "list.append") _) _ _ _) | (with_reducible show wpAny _ _ (call (Value.builtin "list.pop") _) _ _ _) | (with_reducible show wpAny _ _ (truthy (Value.ref _)) _ _ _) | (with_reducible show wpAny _ _ (subscriptTail _ _ (Value.ref _) _) _ _ _) | (with_reducible show wpAny _ _ (binaryOp Operator.Add (Value.str _ _) (Value.str (Txt.join _ _) _)) _ _ _))); walk1)
  refine for_list (vs := vs) (nx₀ := [(nl, listOf #[] 0)]) (keep := [_]) hA (News.isList N (List.mem_cons_of_mem _ (List.mem_cons_self ..))) (.inr ⟨_, List.mem_cons_self ..⟩) F (News.sub N (by intro p hp; simp only [List.cons_append, List.nil_append, List.mem_cons, List.not_mem_nil, or_false] at hp ⊢; rcases hp with h | h; exact .inl h; exact .inr (.inl h)))
    (fun i m nx => ∃ us ns ep td tdd tse ti, nx = [(nl, listOf (List.toArray us) ep)] ∧ Has m [("dot", .str (Str.ofString ".") td), ("dotdot", .str (Str.ofString "..") tdd), ("sep", .str (Str.ofString "/") tse), ("initial_slashes", .str (Str.ofString "/") ti), ("new_comps", .ref nl)] ∧ StrsAre us ns ∧ ns = (cs.take i).foldl nstep [] ∧ ns.length ≤ i ∧ ∀ z ∈ ns, z.length ≤ 1000)
    ⟨[], [], 0, _, _, _, _, rfl, ⟨rfl, rfl, rfl, rfl, rfl, trivial⟩, .nil, rfl, Nat.le_refl _, by intro z hz; cases hz⟩ ?_ ?_
  · rintro I i v m₁ nx h tk oI hv ⟨us, ns, ep, td, tdd, tse, ti, rfl, hm, hus, hns, hnl, hzb⟩ hne F N
    obtain ⟨c, tc, hc, rfl⟩ := strs_get hS hv
    have hcm : c ∈ cs := List.mem_of_getElem? hc
    have hcl := hcb c hcm
    have hil : i < cs.length := (List.getElem?_eq_some_iff.mp hc).1
    have hnext : (cs.take (i + 1)).foldl nstep [] = nstep ns c := by rw [List.take_add_one, hc, Option.toList_some, List.foldl_append, ← hns]; rfl
    rw [hnext]
    replace F : Fr g L h _ := Fr.over (ps := ("comp", .str c tc) :: [("dot", .str (Str.ofString ".") td), ("dotdot", .str (Str.ofString "..") tdd), ("sep", .str (Str.ofString "/") tse), ("initial_slashes", .str (Str.ofString "/") ti), ("new_comps", .ref nl)]) F ⟨rfl, hm⟩
    dsimp only [over] at F
    replace N : News g L h [(nl, listOf (List.toArray us) ep), _, (I, oI)] := N
    have hIn : I ≠ nl := fun e => hne _ (List.mem_cons_self ..) e.symm
    have hoff : ∀ q : Addr × Obj, q.1 < nl → ∀ p ∈ [q, (I, oI)], p.1 ≠ nl := by
      intro q hq p hp
      rcases List.mem_cons.mp hp with rfl | hp
      · exact Nat.ne_of_lt hq
      · rw [List.mem_singleton.mp hp]; exact hIn
    repeat' ((try dsimp only [WPost, Turn]); (fail_if_success (first | (with_reducible show wpAny _ _ (exec (Stmt.While _ _ _ _) _) _ _ _) | (with_reducible show wpAny _ _ (exec (Stmt.For _ _ _ _ _) _) _ _ _) | (with_reducible show wpAny _ _ (call (Value.ref _) _ _) _ _ _) | (with_reducible show wpAny _ _ (call (Value.builtin "issubclass") _) _ _ _) | (with_reducible show wpAny _ _ (call (Value.builtin "list.append") _) _ _ _) | (with_reducible show wpAny _ _ (call (Value.builtin "list.pop") _) _ _ _) | (with_reducible show wpAny _ _ (truthy (Value.ref _)) _ _ _) | (with_reducible show wpAny _ _ (subscriptTail _ _ (Value.ref _) _) _ _ _) | (with_reducible show wpAny _ _ (binaryOp Operator.Add (Value.str _ _) (Value.str (Txt.join _ _) _)) _ _ _))); walk1)
    · have h2 : (c == Str.ofString ".") = true := by assumption
      have e : nstep ns c = ns := by unfold nstep; rw [if_pos (.inr (by simpa using h2))]
      exact TEnd.intro (s := ⟨_, _, _, _, _⟩) [(nl, listOf (List.toArray (us)) (ep))] F N (by intro p hp; rw [List.mem_singleton.mp hp]; exact List.mem_cons_self ..) (by intro p hp; rw [List.mem_singleton.mp hp]; exact List.mem_cons_of_mem _ (List.mem_cons_self ..)) (List.mem_cons_of_mem _ (List.mem_cons_of_mem _ (List.mem_cons_self ..))) (by intro p hp; rw [List.mem_singleton.mp hp]; exact fun e => hIn e.symm) ⟨us, ns, ep, td, tdd, tse, ti, rfl, ⟨rfl, rfl, rfl, rfl, rfl, trivial⟩, hus, e.symm, by (first | decide | with_reducible assumption | with_reducible exact Nat.le_trans (by assumption) (by decide) | with_reducible exact Nat.lt_of_lt_of_le (Nat.add_lt_add_right (by assumption) _) (by decide) | with_reducible exact Int.natCast_nonneg _ | omega), hzb⟩
    · have h1 : ((c.length : Nat) : Int) ≠ 0 := by assumption
      have h2 : (c == Str.ofString ".") = false := by assumption
      have h3 : (c != Str.ofString "..") = true := by assumption
      have e : nstep ns c = ns ++ [c] := by unfold nstep; rw [if_neg (by simp at *; exact ⟨h1, h2⟩), if_pos (by simpa using h3)]
      refine append_K F N (.head (hoff _ l1.1)) (fun h' F' N' => ?_) (by rw [List.size_toArray, PySem.sizeLine_eq, hus.length]; (first | decide | with_reducible assumption | with_reducible exact Nat.le_trans (by assumption) (by decide) | with_reducible exact Nat.lt_of_lt_of_le (Nat.add_lt_add_right (by assumption) _) (by decide) | with_reducible exact Int.natCast_nonneg _ | omega))
      rw [List.push_toArray] at N'
      clear F N
      repeat ((try dsimp only [WPost, Turn]); (fail_if_success (first | (with_reducible show wpAny _ _ (exec (Stmt.While _ _ _ _) _) _ _ _) | (with_reducible show wpAny _ _ (exec (Stmt.For _ _ _ _ _) _) _ _ _) | (with_reducible show wpAny _ _ (call (Value.ref _) _ _) _ _ _) | (with_reducible show wpAny _ _ (call (Value.builtin "issubclass") _) _ _ _) | (with_reducible show wpAny _ _ (call (Value.builtin "list.append") _) _ _ _) | (with_reducible show wpAny _ _ (call (Value.builtin "list.pop") _) _ _ _) | (with_reducible show wpAny _ _ (truthy (Value.ref _)) _ _ _) | (with_reducible show wpAny _ _ (subscriptTail _ _ (Value.ref _) _) _ _ _) | (with_reducible show wpAny _ _ (binaryOp Operator.Add (Value.str _ _) (Value.str (Txt.join _ _) _)) _ _ _))); walk1)
      rename Fr g L _ _ => F
      rename News g L _ _ => N
      exact TEnd.intro (s := ⟨_, _, _, _, _⟩) [(nl, listOf (List.toArray (us ++ [.str c tc])) (ep + 1))] F N (by intro p hp; rw [List.mem_singleton.mp hp]; exact List.mem_cons_self ..) (by intro p hp; rw [List.mem_singleton.mp hp]; exact List.mem_cons_of_mem _ (List.mem_cons_self ..)) (List.mem_cons_of_mem _ (List.mem_cons_of_mem _ (List.mem_cons_self ..))) (by intro p hp; rw [List.mem_singleton.mp hp]; exact fun e => hIn e.symm) ⟨us ++ [.str c tc], ns ++ [c], ep + 1, td, tdd, tse, ti, rfl, ⟨rfl, rfl, rfl, rfl, rfl, trivial⟩, kct_snoc hus, e.symm, by rw [List.length_append, List.length_singleton]; (first | decide | with_reducible assumption | with_reducible exact Nat.le_trans (by assumption) (by decide) | with_reducible exact Nat.lt_of_lt_of_le (Nat.add_lt_add_right (by assumption) _) (by decide) | with_reducible exact Int.natCast_nonneg _ | omega), (by intro z hz; rcases List.mem_append.mp hz with h | h; exact hzb z h; rw [List.mem_singleton.mp h]; exact hcl)⟩
    · have h1 : ((c.length : Nat) : Int) ≠ 0 := by assumption
      have h2 : (c == Str.ofString ".") = false := by assumption
      have h3 : (c != Str.ofString "..") = false := by assumption
      have e : nstep ns c = if ns = [] then ns else if ns.getLast? = some (Str.ofString "..") then ns ++ [c] else ns.dropLast := by
        unfold nstep
        rw [if_neg (by simp at *; exact ⟨h1, h2⟩), if_neg (by simpa using h3)]
      refine wpAny_truthy_list (News.isList N (List.mem_cons_self ..)) (by rw [List.size_toArray, hus.length]; (first | decide | with_reducible assumption | with_reducible exact Nat.le_trans (by assumption) (by decide) | with_reducible exact Nat.lt_of_lt_of_le (Nat.add_lt_add_right (by assumption) _) (by decide) | with_reducible exact Int.natCast_nonneg _ | omega)) ?_
      dsimp only
      rcases List.eq_nil_or_concat us with rfl | ⟨us', u, rfl⟩
      · refine ite_neg (by simp) ?_
        repeat ((try dsimp only [WPost, Turn]); (fail_if_success (first | (with_reducible show wpAny _ _ (exec (Stmt.While _ _ _ _) _) _ _ _) | (with_reducible show wpAny _ _ (exec (Stmt.For _ _ _ _ _) _) _ _ _) | (with_reducible show wpAny _ _ (call (Value.ref _) _ _) _ _ _) | (with_reducible show wpAny _ _ (call (Value.builtin "issubclass") _) _ _ _) | (with_reducible show wpAny _ _ (call (Value.builtin "list.append") _) _ _ _) | (with_reducible show wpAny _ _ (call (Value.builtin "list.pop") _) _ _ _) | (with_reducible show wpAny _ _ (truthy (Value.ref _)) _ _ _) | (with_reducible show wpAny _ _ (subscriptTail _ _ (Value.ref _) _) _ _ _) | (with_reducible show wpAny _ _ (binaryOp Operator.Add (Value.str _ _) (Value.str (Txt.join _ _) _)) _ _ _))); walk1)
        refine wpAny_truthy_list (News.isList N (List.mem_cons_self ..)) (by simp) ?_
        dsimp only
        refine ite_neg (by simp) ?_
        repeat ((try dsimp only [WPost, Turn]); (fail_if_success (first | (with_reducible show wpAny _ _ (exec (Stmt.While _ _ _ _) _) _ _ _) | (with_reducible show wpAny _ _ (exec (Stmt.For _ _ _ _ _) _) _ _ _) | (with_reducible show wpAny _ _ (call (Value.ref _) _ _) _ _ _) | (with_reducible show wpAny _ _ (call (Value.builtin "issubclass") _) _ _ _) | (with_reducible show wpAny _ _ (call (Value.builtin "list.append") _) _ _ _) | (with_reducible show wpAny _ _ (call (Value.builtin "list.pop") _) _ _ _) | (with_reducible show wpAny _ _ (truthy (Value.ref _)) _ _ _) | (with_reducible show wpAny _ _ (subscriptTail _ _ (Value.ref _) _) _ _ _) | (with_reducible show wpAny _ _ (binaryOp Operator.Add (Value.str _ _) (Value.str (Txt.join _ _) _)) _ _ _))); walk1)
        cases hus
        exact TEnd.intro (s := ⟨_, _, _, _, _⟩) [(nl, listOf (List.toArray ([])) (ep))] F N (by intro p hp; rw [List.mem_singleton.mp hp]; exact List.mem_cons_self ..) (by intro p hp; rw [List.mem_singleton.mp hp]; exact List.mem_cons_of_mem _ (List.mem_cons_self ..)) (List.mem_cons_of_mem _ (List.mem_cons_of_mem _ (List.mem_cons_self ..))) (by intro p hp; rw [List.mem_singleton.mp hp]; exact fun e => hIn e.symm) ⟨[], [], ep, td, tdd, tse, ti, rfl, ⟨rfl, rfl, rfl, rfl, rfl, trivial⟩, .nil, by rw [e]; rfl, by simp, hzb⟩
      · rw [List.concat_eq_append] at *
        refine ite_pos (by simp) ?_
        obtain ⟨ns', z, tz, rfl, rfl, hus'⟩ := strs_snoc hus
        repeat ((try dsimp only [WPost, Turn]); (fail_if_success (first | (with_reducible show wpAny _ _ (exec (Stmt.While _ _ _ _) _) _ _ _) | (with_reducible show wpAny _ _ (exec (Stmt.For _ _ _ _ _) _) _ _ _) | (with_reducible show wpAny _ _ (call (Value.ref _) _ _) _ _ _) | (with_reducible show wpAny _ _ (call (Value.builtin "issubclass") _) _ _ _) | (with_reducible show wpAny _ _ (call (Value.builtin "list.append") _) _ _ _) | (with_reducible show wpAny _ _ (call (Value.builtin "list.pop") _) _ _ _) | (with_reducible show wpAny _ _ (truthy (Value.ref _)) _ _ _) | (with_reducible show wpAny _ _ (subscriptTail _ _ (Value.ref _) _) _ _ _) | (with_reducible show wpAny _ _ (binaryOp Operator.Add (Value.str _ _) (Value.str (Txt.join _ _) _)) _ _ _))); walk1)
        have hul := hus.length
        refine kim_back N (List.mem_cons_self ..) rfl rfl (by (first | decide | with_reducible assumption | with_reducible exact Nat.le_trans (by assumption) (by decide) | with_reducible exact Nat.lt_of_lt_of_le (Nat.add_lt_add_right (by assumption) _) (by decide) | with_reducible exact Int.natCast_nonneg _ | omega)) (by simp; (first | decide | with_reducible assumption | with_reducible exact Nat.le_trans (by assumption) (by decide) | with_reducible exact Nat.lt_of_lt_of_le (Nat.add_lt_add_right (by assumption) _) (by decide) | with_reducible exact Int.natCast_nonneg _ | omega)) (by (first | decide | with_reducible assumption | with_reducible exact Nat.le_trans (by assumption) (by decide) | with_reducible exact Nat.lt_of_lt_of_le (Nat.add_lt_add_right (by assumption) _) (by decide) | with_reducible exact Int.natCast_nonneg _ | omega)) (x := .str z tz) (by rw [show (-1 + (((us' ++ [Value.str z tz]).length : Nat) : Int)).toNat = us'.length by simp; (first | decide | with_reducible assumption | with_reducible exact Nat.le_trans (by assumption) (by decide) | with_reducible exact Nat.lt_of_lt_of_le (Nat.add_lt_add_right (by assumption) _) (by decide) | with_reducible exact Int.natCast_nonneg _ | omega)]; simp) ?_
        repeat' ((try dsimp only [WPost, Turn]); (fail_if_success (first | (with_reducible show wpAny _ _ (exec (Stmt.While _ _ _ _) _) _ _ _) | (with_reducible show wpAny _ _ (exec (Stmt.For _ _ _ _ _) _) _ _ _) | (with_reducible show wpAny _ _ (call (Value.ref _) _ _) _ _ _) | (with_reducible show wpAny _ _ (call (Value.builtin "issubclass") _) _ _ _) | (with_reducible show wpAny _ _ (call (Value.builtin "list.append") _) _ _ _) | (with_reducible show wpAny _ _ (call (Value.builtin "list.pop") _) _ _ _) | (with_reducible show wpAny _ _ (truthy (Value.ref _)) _ _ _) | (with_reducible show wpAny _ _ (subscriptTail _ _ (Value.ref _) _) _ _ _) | (with_reducible show wpAny _ _ (binaryOp Operator.Add (Value.str _ _) (Value.str (Txt.join _ _) _)) _ _ _))); walk1)
        · have h4 : (z == Str.ofString "..") = true := by assumption
          have e2 : nstep (ns' ++ [z]) c = ns' ++ [z] ++ [c] := by rw [e, if_neg (by simp), if_pos (by simpa using h4)]
          refine append_K F N (.head (hoff _ l1.1)) (fun h' F' N' => ?_) (by rw [List.size_toArray, PySem.sizeLine_eq, hus.length]; (first | decide | with_reducible assumption | with_reducible exact Nat.le_trans (by assumption) (by decide) | with_reducible exact Nat.lt_of_lt_of_le (Nat.add_lt_add_right (by assumption) _) (by decide) | with_reducible exact Int.natCast_nonneg _ | omega))
          rw [List.push_toArray] at N'
          clear F N
          repeat ((try dsimp only [WPost, Turn]); (fail_if_success (first | (with_reducible show wpAny _ _ (exec (Stmt.While _ _ _ _) _) _ _ _) | (with_reducible show wpAny _ _ (exec (Stmt.For _ _ _ _ _) _) _ _ _) | (with_reducible show wpAny _ _ (call (Value.ref _) _ _) _ _ _) | (with_reducible show wpAny _ _ (call (Value.builtin "issubclass") _) _ _ _) | (with_reducible show wpAny _ _ (call (Value.builtin "list.append") _) _ _ _) | (with_reducible show wpAny _ _ (call (Value.builtin "list.pop") _) _ _ _) | (with_reducible show wpAny _ _ (truthy (Value.ref _)) _ _ _) | (with_reducible show wpAny _ _ (subscriptTail _ _ (Value.ref _) _) _ _ _) | (with_reducible show wpAny _ _ (binaryOp Operator.Add (Value.str _ _) (Value.str (Txt.join _ _) _)) _ _ _))); walk1)
          rename Fr g L _ _ => F
          rename News g L _ _ => N
          exact TEnd.intro (s := ⟨_, _, _, _, _⟩) [(nl, listOf (List.toArray (us' ++ [.str z tz] ++ [.str c tc])) (ep + 1))] F N (by intro p hp; rw [List.mem_singleton.mp hp]; exact List.mem_cons_self ..) (by intro p hp; rw [List.mem_singleton.mp hp]; exact List.mem_cons_of_mem _ (List.mem_cons_self ..)) (List.mem_cons_of_mem _ (List.mem_cons_of_mem _ (List.mem_cons_self ..))) (by intro p hp; rw [List.mem_singleton.mp hp]; exact fun e => hIn e.symm) ⟨us' ++ [.str z tz] ++ [.str c tc], ns' ++ [z] ++ [c], ep + 1, td, tdd, tse, ti, rfl, ⟨rfl, rfl, rfl, rfl, rfl, trivial⟩, kct_snoc hus, e2.symm, by rw [List.length_append, List.length_singleton]; (first | decide | with_reducible assumption | with_reducible exact Nat.le_trans (by assumption) (by decide) | with_reducible exact Nat.lt_of_lt_of_le (Nat.add_lt_add_right (by assumption) _) (by decide) | with_reducible exact Int.natCast_nonneg _ | omega), (by intro y hz; rcases List.mem_append.mp hz with h | h; exact hzb y h; rw [List.mem_singleton.mp h]; exact hcl)⟩
        · have h4 : (z == Str.ofString "..") = false := by assumption
          have e2 : nstep (ns' ++ [z]) c = ns' := by rw [e, if_neg (by simp), if_neg (by simpa using h4)]; simp
          refine wpAny_truthy_list (News.isList N (List.mem_cons_self ..)) (by rw [List.size_toArray, hus.length]; (first | decide | with_reducible assumption | with_reducible exact Nat.le_trans (by assumption) (by decide) | with_reducible exact Nat.lt_of_lt_of_le (Nat.add_lt_add_right (by assumption) _) (by decide) | with_reducible exact Int.natCast_nonneg _ | omega)) ?_
          dsimp only
          refine ite_pos (by simp) ?_
          repeat ((try dsimp only [WPost, Turn]); (fail_if_success (first | (with_reducible show wpAny _ _ (exec (Stmt.While _ _ _ _) _) _ _ _) | (with_reducible show wpAny _ _ (exec (Stmt.For _ _ _ _ _) _) _ _ _) | (with_reducible show wpAny _ _ (call (Value.ref _) _ _) _ _ _) | (with_reducible show wpAny _ _ (call (Value.builtin "issubclass") _) _ _ _) | (with_reducible show wpAny _ _ (call (Value.builtin "list.append") _) _ _ _) | (with_reducible show wpAny _ _ (call (Value.builtin "list.pop") _) _ _ _) | (with_reducible show wpAny _ _ (truthy (Value.ref _)) _ _ _) | (with_reducible show wpAny _ _ (subscriptTail _ _ (Value.ref _) _) _ _ _) | (with_reducible show wpAny _ _ (binaryOp Operator.Add (Value.str _ _) (Value.str (Txt.join _ _) _)) _ _ _))); walk1)
          refine kl_pop F N (p := us') (y := .str z tz) (by simpa using kpa_last (.str z tz) us') (.head (hoff _ l1.1)) (by rw [PySem.sizeLine_eq, List.toList_toArray, hus.length]; (first | decide | with_reducible assumption | with_reducible exact Nat.le_trans (by assumption) (by decide) | with_reducible exact Nat.lt_of_lt_of_le (Nat.add_lt_add_right (by assumption) _) (by decide) | with_reducible exact Int.natCast_nonneg _ | omega)) fun h' F' N' => ?_
          clear F N
          repeat ((try dsimp only [WPost, Turn]); (fail_if_success (first | (with_reducible show wpAny _ _ (exec (Stmt.While _ _ _ _) _) _ _ _) | (with_reducible show wpAny _ _ (exec (Stmt.For _ _ _ _ _) _) _ _ _) | (with_reducible show wpAny _ _ (call (Value.ref _) _ _) _ _ _) | (with_reducible show wpAny _ _ (call (Value.builtin "issubclass") _) _ _ _) | (with_reducible show wpAny _ _ (call (Value.builtin "list.append") _) _ _ _) | (with_reducible show wpAny _ _ (call (Value.builtin "list.pop") _) _ _ _) | (with_reducible show wpAny _ _ (truthy (Value.ref _)) _ _ _) | (with_reducible show wpAny _ _ (subscriptTail _ _ (Value.ref _) _) _ _ _) | (with_reducible show wpAny _ _ (binaryOp Operator.Add (Value.str _ _) (Value.str (Txt.join _ _) _)) _ _ _))); walk1)
          rename Fr g L _ _ => F
          rename News g L _ _ => N
          exact TEnd.intro (s := ⟨_, _, _, _, _⟩) [(nl, listOf (List.toArray (us')) (ep + 1))] F N (by intro p hp; rw [List.mem_singleton.mp hp]; exact List.mem_cons_self ..) (by intro p hp; rw [List.mem_singleton.mp hp]; exact List.mem_cons_of_mem _ (List.mem_cons_self ..)) (List.mem_cons_of_mem _ (List.mem_cons_of_mem _ (List.mem_cons_self ..))) (by intro p hp; rw [List.mem_singleton.mp hp]; exact fun e => hIn e.symm) ⟨us', ns', ep + 1, td, tdd, tse, ti, rfl, ⟨rfl, rfl, rfl, rfl, rfl, trivial⟩, hus', e2.symm, by rw [List.length_append, List.length_singleton] at hnl; (first | decide | with_reducible assumption | with_reducible exact Nat.le_trans (by assumption) (by decide) | with_reducible exact Nat.lt_of_lt_of_le (Nat.add_lt_add_right (by assumption) _) (by decide) | with_reducible exact Int.natCast_nonneg _ | omega), (by intro y hz; exact hzb y (List.mem_append_left _ hz))⟩
    · have h2 : ((c.length : Nat) : Int) = 0 := by assumption
      have e : nstep ns c = ns := by unfold nstep; rw [if_pos (.inl h2)]
      exact TEnd.intro (s := ⟨_, _, _, _, _⟩) [(nl, listOf (List.toArray (us)) (ep))] F N (by intro p hp; rw [List.mem_singleton.mp hp]; exact List.mem_cons_self ..) (by intro p hp; rw [List.mem_singleton.mp hp]; exact List.mem_cons_of_mem _ (List.mem_cons_self ..)) (List.mem_cons_of_mem _ (List.mem_cons_of_mem _ (List.mem_cons_self ..))) (by intro p hp; rw [List.mem_singleton.mp hp]; exact fun e => hIn e.symm) ⟨us, ns, ep, td, tdd, tse, ti, rfl, ⟨rfl, rfl, rfl, rfl, rfl, trivial⟩, hus, e.symm, by (first | decide | with_reducible assumption | with_reducible exact Nat.le_trans (by assumption) (by decide) | with_reducible exact Nat.lt_of_lt_of_le (Nat.add_lt_add_right (by assumption) _) (by decide) | with_reducible exact Int.natCast_nonneg _ | omega), hzb⟩
  · rintro m' nx h tk ⟨us, ns, ep, td, tdd, tse, ti, rfl, hm, hus, hns, hnl, hzb⟩ F N
    replace F : Fr g L h _ := Fr.over F hm
    dsimp only [over] at F
    replace N : News g L h [(nl, listOf (List.toArray us) ep), _] := N
    repeat ((try dsimp only [WPost, Turn]); (fail_if_success (first | (with_reducible show wpAny _ _ (exec (Stmt.While _ _ _ _) _) _ _ _) | (with_reducible show wpAny _ _ (exec (Stmt.For _ _ _ _ _) _) _ _ _) | (with_reducible show wpAny _ _ (call (Value.ref _) _ _) _ _ _) | (with_reducible show wpAny _ _ (call (Value.builtin "issubclass") _) _ _ _) | (with_reducible show wpAny _ _ (call (Value.builtin "list.append") _) _ _ _) | (with_reducible show wpAny _ _ (call (Value.builtin "list.pop") _) _ _ _) | (with_reducible show wpAny _ _ (truthy (Value.ref _)) _ _ _) | (with_reducible show wpAny _ _ (subscriptTail _ _ (Value.ref _) _) _ _ _) | (with_reducible show wpAny _ _ (binaryOp Operator.Add (Value.str _ _) (Value.str (Txt.join _ _) _)) _ _ _))); walk1)
    rename Fr g L _ _ => F
    rename News g L _ _ => N
    have hsum := sum_len hzb
    rw [show vs.length = cs.length from hS.length] at hnl
    refine join_listW (News.isList N (List.mem_cons_self ..)) (by simpa using hus) (by decide) (by (first | decide | with_reducible assumption | with_reducible exact Nat.le_trans (by assumption) (by decide) | with_reducible exact Nat.lt_of_lt_of_le (Nat.add_lt_add_right (by assumption) _) (by decide) | with_reducible exact Int.natCast_nonneg _ | omega)) fun t' k => ?_
    have hjl := len_join_le (sep := Str.ofString "/") (ys := ns) (n := 100100) (by unfold Weighs; (first | decide | with_reducible assumption | with_reducible exact Nat.le_trans (by assumption) (by decide) | with_reducible exact Nat.lt_of_lt_of_le (Nat.add_lt_add_right (by assumption) _) (by decide) | with_reducible exact Int.natCast_nonneg _ | omega)) (by decide)
    refine PyProof.Rows.add_str (fun t2 tk2 => ?_) (by rw [PySem.sizeLine_eq, show (Str.ofString "/").length = 1 from by decide]; (first | decide | with_reducible assumption | with_reducible exact Nat.le_trans (by assumption) (by decide) | with_reducible exact Nat.lt_of_lt_of_le (Nat.add_lt_add_right (by assumption) _) (by decide) | with_reducible exact Int.natCast_nonneg _ | omega))
    repeat' ((try dsimp only [WPost, Turn]); (fail_if_success (first | (with_reducible show wpAny _ _ (exec (Stmt.While _ _ _ _) _) _ _ _) | (with_reducible show wpAny _ _ (exec (Stmt.For _ _ _ _ _) _) _ _ _) | (with_reducible show wpAny _ _ (call (Value.ref _) _ _) _ _ _) | (with_reducible show wpAny _ _ (call (Value.builtin "issubclass") _) _ _ _) | (with_reducible show wpAny _ _ (call (Value.builtin "list.append") _) _ _ _) | (with_reducible show wpAny _ _ (call (Value.builtin "list.pop") _) _ _ _) | (with_reducible show wpAny _ _ (truthy (Value.ref _)) _ _ _) | (with_reducible show wpAny _ _ (subscriptTail _ _ (Value.ref _) _) _ _ _) | (with_reducible show wpAny _ _ (binaryOp Operator.Add (Value.str _ _) (Value.str (Txt.join _ _) _)) _ _ _))); walk1)
    rw [hS.length, List.take_length] at hns
    rw [← hns] at hR
    exact hR _ _ _ (back _ (Fr.keep (by assumption)))
end
end Mine
namespace Mine
open PySem PySem.W PySem.Calls PyProof.Rows
theorem fillS1 : (PySem.Challenge.rw_pd0156_01 = PySem.Challenge.rw_pd0156_01) ∧ hd.heap_39 = hd.heap_39 := by
  k_fill
  exact ⟨rfl, rfl⟩
section
variable {prog : Program} {w : World} {A : Around} {R : Result → Shared → Prop} {s : Shared} {h₀ : Heap}

theorem ifmt_spec (B : Base w h₀) (st : h₀.StaysIn s.heap) (hr : A.depth < 900) {n : Int} {t : Tok}
  (hR : ∀ h' tk t', Mod [] s.heap h' → R (.ok (.ret (.int (Builtin.bitAnd n 61440) t'))) ⟨h', s.gens, s.drawn, tk, s.os⟩) :
  codeAny (model prog w) A (.call (.ref 28) ⟨[.int n t], []⟩) R s := by
  refine' enter (binds := [("mode", .int n t)]) [] B st (by simp) ?ho ?hcd ?hroom ?hbind ?hloc ?_ ?hco ?hgen ?hk ?hcell
  case hroom => exact Nat.lt_of_lt_of_le hr (by decide)
  ((case ho => k_is); (case hcd => k_is); (case hbind => exact BindsTo.of_eq rfl); (case hloc => exact locs rfl); (case hco => exact rfl); (case hgen => exact rfl); (case hk => exact rfl); (case hcell => decide))
  intro g L h₁ tk Bg F N back hL _ hg
  have X := Bg.X
  obtain ⟨pT, lT, mg, mb, T⟩ := Bg.T
  clear Bg
  repeat ((try dsimp only); (fail_if_success (first | (with_reducible show wpAny _ _ (exec (Stmt.While _ _ _ _) _) _ _ _) | (with_reducible show wpAny _ _ (exec (Stmt.For _ _ _ _ _) _) _ _ _) | (with_reducible show wpAny _ _ (call (Value.ref _) _ _) _ _ _) | (with_reducible show wpAny _ _ (eval (Expr.ListComp _ _ _ _) _) _ _ _) | (with_reducible show wpAny _ _ (exec (Stmt.Assign _ (Expr.ListComp _ _ _ _) _) _) _ _ _))); walk1)
  exact hR _ _ _ (back _ F.keep)

theorem isdir_spec (B : Base w h₀) (st : h₀.StaysIn s.heap) (hr : A.depth < 899) {n : Int} {t : Tok}
  (hR : ∀ h' tk, Mod [] s.heap h' → R (.ok (.ret (.bool (Builtin.bitAnd n 61440 == 16384)))) ⟨h', s.gens, s.drawn, tk, s.os⟩) :
  codeAny (model prog w) A (.call (.ref 35) ⟨[.int n t], []⟩) R s := by
  refine' enter (binds := [("mode", .int n t)]) [] B st (by simp) ?ho ?hcd ?hroom ?hbind ?hloc ?_ ?hco ?hgen ?hk ?hcell
  case hroom => exact Nat.lt_of_lt_of_le hr (by decide)
  ((case ho => k_is); (case hcd => k_is); (case hbind => exact BindsTo.of_eq rfl); (case hloc => exact locs rfl); (case hco => exact rfl); (case hgen => exact rfl); (case hk => exact rfl); (case hcell => decide))
  intro g L h₁ tk Bg F N back hL _ hg
  have X := Bg.X
  have Bg' := Bg
  obtain ⟨pT, lT, mg, mb, T⟩ := Bg.T
  clear Bg
  repeat ((try dsimp only); (fail_if_success (first | (with_reducible show wpAny _ _ (exec (Stmt.While _ _ _ _) _) _ _ _) | (with_reducible show wpAny _ _ (exec (Stmt.For _ _ _ _ _) _) _ _ _) | (with_reducible show wpAny _ _ (call (Value.ref _) _ _) _ _ _) | (with_reducible show wpAny _ _ (eval (Expr.ListComp _ _ _ _) _) _ _ _) | (with_reducible show wpAny _ _ (exec (Stmt.Assign _ (Expr.ListComp _ _ _ _) _) _) _ _ _))); walk1)
  refine wpAny_call (ifmt_spec (s := ⟨_, _, _, _, _⟩) Bg' F.keep (by show A.depth + 1 < 900; (first | decide | with_reducible assumption | with_reducible exact Nat.le_trans (by assumption) (by decide) | with_reducible exact Nat.lt_of_lt_of_le (Nat.add_lt_add_right (by assumption) _) (by decide) | with_reducible exact Int.natCast_nonneg _ | omega)) fun h2 tk2 t2 M => ?_)
  replace F := Fr.keeps' F M
  replace N := News.keeps' N M
  dsimp only
  repeat ((try dsimp only); (fail_if_success (first | (with_reducible show wpAny _ _ (exec (Stmt.While _ _ _ _) _) _ _ _) | (with_reducible show wpAny _ _ (exec (Stmt.For _ _ _ _ _) _) _ _ _) | (with_reducible show wpAny _ _ (call (Value.ref _) _ _) _ _ _) | (with_reducible show wpAny _ _ (eval (Expr.ListComp _ _ _ _) _) _ _ _) | (with_reducible show wpAny _ _ (exec (Stmt.Assign _ (Expr.ListComp _ _ _ _) _) _) _ _ _))); walk1)
  exact hR _ _ (back _ F.keep)

theorem ischr_spec (B : Base w h₀) (st : h₀.StaysIn s.heap) (hr : A.depth < 899) {n : Int} {t : Tok}
  (hR : ∀ h' tk, Mod [] s.heap h' → R (.ok (.ret (.bool (Builtin.bitAnd n 61440 == 8192)))) ⟨h', s.gens, s.drawn, tk, s.os⟩) :
  codeAny (model prog w) A (.call (.ref 42) ⟨[.int n t], []⟩) R s := by
  refine' enter (binds := [("mode", .int n t)]) [] B st (by simp) ?ho ?hcd ?hroom ?hbind ?hloc ?_ ?hco ?hgen ?hk ?hcell
  case hroom => exact Nat.lt_of_lt_of_le hr (by decide)
  ((case ho => k_is); (case hcd => k_is); (case hbind => exact BindsTo.of_eq rfl); (case hloc => exact locs rfl); (case hco => exact rfl); (case hgen => exact rfl); (case hk => exact rfl); (case hcell => decide))
  intro g L h₁ tk Bg F N back hL _ hg
  have X := Bg.X
  have Bg' := Bg
  obtain ⟨pT, lT, mg, mb, T⟩ := Bg.T
  clear Bg
  repeat ((try dsimp only); (fail_if_success (first | (with_reducible show wpAny _ _ (exec (Stmt.While _ _ _ _) _) _ _ _) | (with_reducible show wpAny _ _ (exec (Stmt.For _ _ _ _ _) _) _ _ _) | (with_reducible show wpAny _ _ (call (Value.ref _) _ _) _ _ _) | (with_reducible show wpAny _ _ (eval (Expr.ListComp _ _ _ _) _) _ _ _) | (with_reducible show wpAny _ _ (exec (Stmt.Assign _ (Expr.ListComp _ _ _ _) _) _) _ _ _))); walk1)
  refine wpAny_call (ifmt_spec (s := ⟨_, _, _, _, _⟩) Bg' F.keep (by show A.depth + 1 < 900; (first | decide | with_reducible assumption | with_reducible exact Nat.le_trans (by assumption) (by decide) | with_reducible exact Nat.lt_of_lt_of_le (Nat.add_lt_add_right (by assumption) _) (by decide) | with_reducible exact Int.natCast_nonneg _ | omega)) fun h2 tk2 t2 M => ?_)
  replace F := Fr.keeps' F M
  replace N := News.keeps' N M
  dsimp only
  repeat ((try dsimp only); (fail_if_success (first | (with_reducible show wpAny _ _ (exec (Stmt.While _ _ _ _) _) _ _ _) | (with_reducible show wpAny _ _ (exec (Stmt.For _ _ _ _ _) _) _ _ _) | (with_reducible show wpAny _ _ (call (Value.ref _) _ _) _ _ _) | (with_reducible show wpAny _ _ (eval (Expr.ListComp _ _ _ _) _) _ _ _) | (with_reducible show wpAny _ _ (exec (Stmt.Assign _ (Expr.ListComp _ _ _ _) _) _) _ _ _))); walk1)
  exact hR _ _ (back _ F.keep)
end
end Mine
namespace Mine
open PySem PySem.W PySem.Calls PyProof.Rows
theorem fillN1 : (PySem.Challenge.rw_pd0156_01 = PySem.Challenge.rw_pd0156_01) ∧ hd.heap_39 = hd.heap_39 := by
  k_fill
  exact ⟨rfl, rfl⟩
section
variable {prog : Program} {w : World} {A : Around} {R : Result → Shared → Prop} {s : Shared} {h₀ : Heap}

theorem numbers_spec (B : Base w h₀) (st : h₀.StaysIn s.heap) (hA : A.handled = none) (hr : A.depth < 899) {a : Addr} {vs : List Value} {ns : List Int} (ha : h₀.IsList a vs.toArray) (hI : IntsAre vs ns) (hn : ns.length ≤ 63)
  (hR : ∀ h' tk b us ms ep, Mod [] s.heap h' → s.heap.get? b = none → h'.get? b = some (listOf (List.toArray us) ep) → IntsAre us ms → ms.length = 8 → (∀ m ∈ ms, 0 ≤ m ∧ m < 1000000) → R (.ok (.ret (.ref b))) ⟨h', s.gens, s.drawn, tk, s.os⟩) :
  codeAny (model prog w) A (.call (.ref 230) ⟨[.ref a], []⟩) R s := by
  refine' enter (binds := [("script", .ref a)]) [] B st (by simp) ?ho ?hcd ?hroom ?hbind ?hloc ?_ ?hco ?hgen ?hk ?hcell
  case hroom => exact Nat.lt_of_lt_of_le hr (by decide)
  ((case ho => k_is); (case hcd => k_is); (case hbind => exact BindsTo.of_eq rfl); (case hloc => exact locs rfl); (case hco => exact rfl); (case hgen => exact rfl); (case hk => exact rfl); (case hcell => decide))
  intro g L h₁ tk Bg F N back hL _ hg
  have X := Bg.X
  obtain ⟨pT, lT, mg, mb, T⟩ := Bg.T
  clear Bg
  have ha' : g.IsList a vs.toArray := by obtain ⟨o, e, r⟩ := ha; exact ⟨o, hg _ _ (by simp) (st _ _ e), r⟩
  repeat ((try dsimp only [WPost, Turn]); (fail_if_success (first | (with_reducible show wpAny _ _ (exec (Stmt.While _ _ _ _) _) _ _ _) | (with_reducible show wpAny _ _ (exec (Stmt.For _ _ _ _ _) _) _ _ _) | (with_reducible show wpAny _ _ (call (Value.ref _) _ _) _ _ _) | (with_reducible show wpAny _ _ (subscriptTail _ _ (Value.ref _) _) _ _ _) | (with_reducible show wpAny _ _ (binaryOp Operator.Add (Value.ref _) (Value.ref _)) _ _ _) | (with_reducible show wpAny _ _ (call (Value.builtin "len") _) _ _ _) | (with_reducible show wpAny _ _ (eval (Expr.ListComp _ _ _ _) _) _ _ _) | (with_reducible show wpAny _ _ (exec (Stmt.Assign _ (Expr.ListComp _ _ _ _) _) _) _ _ _))); walk1)
  refine LCg.Assign_ListComp_U F rfl (cl := []) rfl rfl (by decide) rfl (by decide) rfl rfl rfl ?_
  repeat ((try dsimp only [WPost, Turn]); (fail_if_success (first | (with_reducible show wpAny _ _ (exec (Stmt.While _ _ _ _) _) _ _ _) | (with_reducible show wpAny _ _ (exec (Stmt.For _ _ _ _ _) _) _ _ _) | (with_reducible show wpAny _ _ (call (Value.ref _) _ _) _ _ _) | (with_reducible show wpAny _ _ (subscriptTail _ _ (Value.ref _) _) _ _ _) | (with_reducible show wpAny _ _ (binaryOp Operator.Add (Value.ref _) (Value.ref _)) _ _ _) | (with_reducible show wpAny _ _ (call (Value.builtin "len") _) _ _ _) | (with_reducible show wpAny _ _ (eval (Expr.ListComp _ _ _ _) _) _ _ _) | (with_reducible show wpAny _ _ (exec (Stmt.Assign _ (Expr.ListComp _ _ _ _) _) _) _ _ _))); walk1)
  have hvl : vs.length ≤ 63 := by rw [hI.length]; exact hn
  refine kmk_slice_ints (s := ⟨h₁, s.gens, s.drawn, _, s.os⟩) (c := min 8 ns.length) F N (by obtain ⟨o, e, r⟩ := ha'; exact ⟨o, F.keep _ _ e, r⟩) .none (.int _ _) hI (kmk_upto hI (by decide)) (by simp) ?_ (by with_unfolding_all rfl) (fun _ => rfl) (by rw [List.size_toArray, PySem.sizeLine_eq]; (first | decide | with_reducible assumption | with_reducible exact Nat.le_trans (by assumption) (by decide) | with_reducible exact Nat.lt_of_lt_of_le (Nat.add_lt_add_right (by assumption) _) (by decide) | with_reducible exact Int.natCast_nonneg _ | omega))
  intro D ws h2 F2 N2 l1 hI2 hc2 _
  clear F N
  dsimp only
  refine LCg.CompSrc.ledger hA F2 N2 (List.mem_cons_self ..) (by rw [List.size_toArray, PySem.sizeLine_eq]; have := hI2.length; (first | decide | with_reducible assumption | with_reducible exact Nat.le_trans (by assumption) (by decide) | with_reducible exact Nat.lt_of_lt_of_le (Nat.add_lt_add_right (by assumption) _) (by decide) | with_reducible exact Int.natCast_nonneg _ | omega)) fun h3 => ?_
  refine compRest_inv (fun i ys nx => nx = [(D, W.listOf ws.toArray 0)] ∧ ∃ ms, IntsAre ys ms ∧ ys.length = i ∧ ∀ m ∈ ms, 0 ≤ m ∧ m < 1000000) ⟨rfl, [], .nil, rfl, by intro m hm; cases hm⟩ ?_ ?_
  · rintro i ys nx v I oI C oC D' m₂ h tk E' hi ⟨rfl, ms, hys, hyl, hmb⟩ hP hns hx F N off ne
    obtain ⟨k, hk⟩ : ∃ k, (ns.take (Int.toNat 8))[i]? = some k := ⟨(ns.take (Int.toNat 8))[i]'(by have := hI2.length; simp at *; (first | decide | with_reducible assumption | with_reducible exact Nat.le_trans (by assumption) (by decide) | with_reducible exact Nat.lt_of_lt_of_le (Nat.add_lt_add_right (by assumption) _) (by decide) | with_reducible exact Int.natCast_nonneg _ | omega)), List.getElem?_eq_getElem _⟩
    obtain ⟨t', ht⟩ := hI2.get i k hk
    obtain rfl : v = .int k t' := by simpa [ht] using hP.symm
    dsimp only at F N ⊢
    repeat ((try dsimp only [WPost, Turn]); (fail_if_success (first | (with_reducible show wpAny _ _ (exec (Stmt.While _ _ _ _) _) _ _ _) | (with_reducible show wpAny _ _ (exec (Stmt.For _ _ _ _ _) _) _ _ _) | (with_reducible show wpAny _ _ (call (Value.ref _) _ _) _ _ _) | (with_reducible show wpAny _ _ (subscriptTail _ _ (Value.ref _) _) _ _ _) | (with_reducible show wpAny _ _ (binaryOp Operator.Add (Value.ref _) (Value.ref _)) _ _ _) | (with_reducible show wpAny _ _ (call (Value.builtin "len") _) _ _ _) | (with_reducible show wpAny _ _ (eval (Expr.ListComp _ _ _ _) _) _ _ _) | (with_reducible show wpAny _ _ (exec (Stmt.Assign _ (Expr.ListComp _ _ _ _) _) _) _ _ _))); walk1)
    refine Name_function_global rfl rfl (loadGlobal_builtin (T.g.keeps F.keep) (mg_none_of X T.g (by k_is)) (T.b.keeps F.keep) ((T.builtins _ (by decide)).trans Boot.int) ?_) (by decide)
    repeat ((try dsimp only [WPost, Turn]); (fail_if_success (first | (with_reducible show wpAny _ _ (exec (Stmt.While _ _ _ _) _) _ _ _) | (with_reducible show wpAny _ _ (exec (Stmt.For _ _ _ _ _) _) _ _ _) | (with_reducible show wpAny _ _ (call (Value.ref _) _ _) _ _ _) | (with_reducible show wpAny _ _ (subscriptTail _ _ (Value.ref _) _) _ _ _) | (with_reducible show wpAny _ _ (binaryOp Operator.Add (Value.ref _) (Value.ref _)) _ _ _) | (with_reducible show wpAny _ _ (call (Value.builtin "len") _) _ _ _) | (with_reducible show wpAny _ _ (eval (Expr.ListComp _ _ _ _) _) _ _ _) | (with_reducible show wpAny _ _ (exec (Stmt.Assign _ (Expr.ListComp _ _ _ _) _) _) _ _ _))); walk1)
    have e6 : (10 ^ Int.toNat 6 : Int) = 1000000 := rfl
    rw [e6, Int.fmod_eq_emod_of_nonneg _ (by decide)]
    have b1 := Int.emod_nonneg k (show (1000000 : Int) ≠ 0 by decide)
    have b2 := Int.emod_lt_of_pos k (show (0 : Int) < 1000000 by decide)
    refine LCg.CompEnd.intro F N _ (by simp) off (.inr ⟨_, List.mem_cons_self .., rfl, _, rfl⟩) ⟨rfl, ms ++ [k % 1000000], IntsAre.append hys (.cons _ _ .nil), by simp [hyl], ?_⟩
    intro m hm
    rcases List.mem_append.mp hm with hm | hm
    · exact hmb m hm
    · rw [List.mem_singleton.mp hm]; exact ⟨b1, b2⟩
  · rintro ys nx ⟨rfl, ms, hys, hyl, hmb⟩ D3 h tk F N off
    repeat ((try dsimp only [WPost, Turn]); (fail_if_success (first | (with_reducible show wpAny _ _ (exec (Stmt.While _ _ _ _) _) _ _ _) | (with_reducible show wpAny _ _ (exec (Stmt.For _ _ _ _ _) _) _ _ _) | (with_reducible show wpAny _ _ (call (Value.ref _) _ _) _ _ _) | (with_reducible show wpAny _ _ (subscriptTail _ _ (Value.ref _) _) _ _ _) | (with_reducible show wpAny _ _ (binaryOp Operator.Add (Value.ref _) (Value.ref _)) _ _ _) | (with_reducible show wpAny _ _ (call (Value.builtin "len") _) _ _ _) | (with_reducible show wpAny _ _ (eval (Expr.ListComp _ _ _ _) _) _ _ _) | (with_reducible show wpAny _ _ (exec (Stmt.Assign _ (Expr.ListComp _ _ _ _) _) _) _ _ _))); walk1)
    rename Fr g L _ _ => F
    rename News g L _ _ => N
    have hdl := hyl
    rw [List.size_toArray, hI2.length] at hdl
    refine len_list (News.isList N (List.mem_cons_of_mem _ (List.mem_cons_self ..))) (by simp; (first | decide | with_reducible assumption | with_reducible exact Nat.le_trans (by assumption) (by decide) | with_reducible exact Nat.lt_of_lt_of_le (Nat.add_lt_add_right (by assumption) _) (by decide) | with_reducible exact Int.natCast_nonneg _ | omega)) ?_
    rw [List.size_toArray]
    repeat ((try dsimp only [WPost, Turn]); (fail_if_success (first | (with_reducible show wpAny _ _ (exec (Stmt.While _ _ _ _) _) _ _ _) | (with_reducible show wpAny _ _ (exec (Stmt.For _ _ _ _ _) _) _ _ _) | (with_reducible show wpAny _ _ (call (Value.ref _) _ _) _ _ _) | (with_reducible show wpAny _ _ (subscriptTail _ _ (Value.ref _) _) _ _ _) | (with_reducible show wpAny _ _ (binaryOp Operator.Add (Value.ref _) (Value.ref _)) _ _ _) | (with_reducible show wpAny _ _ (call (Value.builtin "len") _) _ _ _) | (with_reducible show wpAny _ _ (eval (Expr.ListComp _ _ _ _) _) _ _ _) | (with_reducible show wpAny _ _ (exec (Stmt.Assign _ (Expr.ListComp _ _ _ _) _) _) _ _ _))); walk1)
    walk1
    have hI8 : IntsAre [Value.int 70636 tk, Value.int 100 (tk + 1), Value.int 75266 (tk + 1 + 1), Value.int 64585 (tk + 1 + 1 + 1), Value.int 85989 (tk + 1 + 1 + 1 + 1), Value.int 82857 (tk + 1 + 1 + 1 + 1 + 1), Value.int 91 (tk + 1 + 1 + 1 + 1 + 1 + 1), Value.int 12398 (tk + 1 + 1 + 1 + 1 + 1 + 1 + 1)] [70636, 100, 75266, 64585, 85989, 82857, 91, 12398] := .cons _ _ (.cons _ _ (.cons _ _ (.cons _ _ (.cons _ _ (.cons _ _ (.cons _ _ (.cons _ _ .nil)))))))
    refine kmk_slice_ints (s := ⟨_, s.gens, s.drawn, _, s.os⟩) (c := 8 - ys.length) F N (News.isList N (List.mem_cons_self ..)) (.int _ _) .none hI8 (kmk_from hI8 (by (first | decide | with_reducible assumption | with_reducible exact Nat.le_trans (by assumption) (by decide) | with_reducible exact Nat.lt_of_lt_of_le (Nat.add_lt_add_right (by assumption) _) (by decide) | with_reducible exact Int.natCast_nonneg _ | omega))) (by simp) ?_ (by with_unfolding_all rfl) (fun _ => rfl) (by simp [PySem.sizeLine_eq])
    intro D4 ws4 h4 F4 N4 l4 hI4 hc4 _
    clear F N
    dsimp only
    have hml : ms.length = ys.length := hys.length.symm
    refine kmk_add_ints F4 N4 (News.isList N4 (List.mem_cons_of_mem _ (List.mem_cons_of_mem _ (List.mem_cons_self ..)))) (News.isList N4 (List.mem_cons_self ..)) hys hI4 ?_ ?_
    · intro D5 us h5 F5 N5 l5 hI5
      clear F4 N4
      repeat ((try dsimp only [WPost, Turn]); (fail_if_success (first | (with_reducible show wpAny _ _ (exec (Stmt.While _ _ _ _) _) _ _ _) | (with_reducible show wpAny _ _ (exec (Stmt.For _ _ _ _ _) _) _ _ _) | (with_reducible show wpAny _ _ (call (Value.ref _) _ _) _ _ _) | (with_reducible show wpAny _ _ (subscriptTail _ _ (Value.ref _) _) _ _ _) | (with_reducible show wpAny _ _ (binaryOp Operator.Add (Value.ref _) (Value.ref _)) _ _ _) | (with_reducible show wpAny _ _ (call (Value.builtin "len") _) _ _ _) | (with_reducible show wpAny _ _ (eval (Expr.ListComp _ _ _ _) _) _ _ _) | (with_reducible show wpAny _ _ (exec (Stmt.Assign _ (Expr.ListComp _ _ _ _) _) _) _ _ _))); walk1)
      have hlen8 : ys.length ≤ 8 := by (first | decide | with_reducible assumption | with_reducible exact Nat.le_trans (by assumption) (by decide) | with_reducible exact Nat.lt_of_lt_of_le (Nat.add_lt_add_right (by assumption) _) (by decide) | with_reducible exact Int.natCast_nonneg _ | omega)
      refine hR _ _ _ us _ _ (back _ F5.keep) (born_here hg N5 (List.mem_cons_self ..) (by simp)) (N5 _ (List.mem_cons_self ..)).1 hI5 ?_ ?_
      · rw [List.length_append, hml, hc4]; (first | decide | with_reducible assumption | with_reducible exact Nat.le_trans (by assumption) (by decide) | with_reducible exact Nat.lt_of_lt_of_le (Nat.add_lt_add_right (by assumption) _) (by decide) | with_reducible exact Int.natCast_nonneg _ | omega)
      · intro m hm
        rcases List.mem_append.mp hm with hm | hm
        · exact hmb m hm
        · have := List.mem_of_mem_drop hm
          simp only [List.mem_cons, List.not_mem_nil, or_false] at this
          (first | decide | with_reducible assumption | with_reducible exact Nat.le_trans (by assumption) (by decide) | with_reducible exact Nat.lt_of_lt_of_le (Nat.add_lt_add_right (by assumption) _) (by decide) | with_reducible exact Int.natCast_nonneg _ | omega)
    · rw [hml, hc4, PySem.sizeLine_eq]; (first | decide | with_reducible assumption | with_reducible exact Nat.le_trans (by assumption) (by decide) | with_reducible exact Nat.lt_of_lt_of_le (Nat.add_lt_add_right (by assumption) _) (by decide) | with_reducible exact Int.natCast_nonneg _ | omega)
end
end Mine
namespace Mine
open PySem PySem.W PySem.Calls PyProof.Rows PyProof.V
/-- a dict of ints, as an object -/
def DObj (prog : Program) (w : World) (d : Addr) (o : Obj) (c : List (Int × Int)) : Prop :=
  (d == sysModules) = false ∧ ∃ kvs, o.IsDictOf (PySem.intKind prog w) kvs ∧ FlatPairs PyData.int kvs (kdfD c)
theorem DObj.tab {prog : Program} {w : World} {d : Addr} {o : Obj} {c : List (Int × Int)} {h : Heap} (D : DObj prog w d o c) (ho : h.get? d = some o) : IntTab prog w h d (kdfD c) :=
  let ⟨lo, _, a, b⟩ := D; TabAt.ofObj lo ho a b

def ModeOk (v : Int) : Prop := ∃ k r : Int, (k = 4 ∨ k = 8 ∨ k = 2 ∨ k = 10) ∧ 0 ≤ r ∧ r < 512 ∧ v = k * 4096 + r
theorem ModeOk.kind {v : Int} (h : ModeOk v) : v.fdiv 4096 = 4 ∨ v.fdiv 4096 = 8 ∨ v.fdiv 4096 = 2 ∨ v.fdiv 4096 = 10 := by
  obtain ⟨k, r, hk, h0, h1, rfl⟩ := h
  have : (k * 4096 + r).fdiv 4096 = k := by rw [Int.fdiv_eq_ediv_of_nonneg _ (by decide)]; (first | decide | with_reducible assumption | with_reducible exact Nat.le_trans (by assumption) (by decide) | with_reducible exact Nat.lt_of_lt_of_le (Nat.add_lt_add_right (by assumption) _) (by decide) | with_reducible exact Int.natCast_nonneg _ | omega)
  rw [this]; exact hk
/-- a layer: keys are places, none twice; above each thing lies a folder -/
structure WF (c : List (Int × Int)) : Prop where
  nodup : (c.map (·.1)).Nodup
  key : ∀ p ∈ c, 1 ≤ p.1 ∧ p.1 ≤ 14
  mode : ∀ p ∈ c, ModeOk p.2
  up : ∀ p ∈ c, 2 < p.1 → ∃ v, ((p.1 - 1) / 2, v) ∈ c ∧ v.fdiv 4096 = 4
theorem WF.nil : WF [] := ⟨by simp, by simp, by simp, by simp⟩
theorem kdfHas_iff {c : List (Int × Int)} {k : Int} : kdfHas c k = true ↔ ∃ v, (k, v) ∈ c := by
  unfold kdfHas
  rw [List.any_eq_true]
  constructor
  · rintro ⟨⟨a, v⟩, h, e⟩
    simp only [decide_eq_true_eq] at e
    exact ⟨v, e ▸ h⟩
  · rintro ⟨v, h⟩
    exact ⟨(k, v), h, by simp⟩
theorem kdfPut_new {c : List (Int × Int)} {k v : Int} (h : kdfHas c k = false) : kdfPut c k v = c ++ [(k, v)] := by
  unfold kdfPut
  rw [if_neg]
  intro q
  unfold kdfHas at h
  rw [h] at q; cases q
theorem kdfLook_mem {c : List (Int × Int)} {k v d : Int} (hn : (c.map (·.1)).Nodup) (h : (k, v) ∈ c) : kdfLook c k d = v := by
  induction c with
  | nil => cases h
  | cons p c ih =>
    rw [List.map_cons, List.nodup_cons] at hn
    unfold kdfLook
    rw [List.find?_cons]
    rcases List.mem_cons.mp h with e | e
    · subst e; simp
    · have : p.1 ≠ k := fun q => hn.1 (by rw [q]; exact List.mem_map.mpr ⟨(k, v), e, rfl⟩)
      simp only [this, decide_false]
      exact ih hn.2 e
theorem kdfLook_none {c : List (Int × Int)} {k d : Int} (h : kdfHas c k = false) : kdfLook c k d = d := by
  unfold kdfLook
  rw [List.find?_eq_none.mpr]
  · rfl
  · intro p hp q
    have : kdfHas c k = true := List.any_eq_true.mpr ⟨p, hp, q⟩
    rw [h] at this; cases this
theorem kdfPut_same {c : List (Int × Int)} {k : Int} {d : Int} (hn : (c.map (·.1)).Nodup) (h : kdfHas c k = true) : kdfPut c k (kdfLook c k d) = c := by
  unfold kdfPut
  rw [if_pos (show (c.any fun p => decide (p.1 = k)) = true from h)]
  conv => rhs; rw [← List.map_id c]
  apply List.map_congr_left
  rintro ⟨a, v⟩ hp
  by_cases e : a = k
  · subst e; simp [kdfLook_mem hn hp]
  · simp [e]
theorem WF.snoc {c : List (Int × Int)} {k v : Int} (W : WF c) (h : kdfHas c k = false) (h1 : 1 ≤ k) (h2 : k ≤ 14) (hm : ModeOk v) (hu : 2 < k → ∃ v, ((k - 1) / 2, v) ∈ c ∧ v.fdiv 4096 = 4) : WF (c ++ [(k, v)]) := by
  have hk : ∀ v, (k, v) ∉ c := fun v q => by rw [kdfHas_iff.mpr ⟨v, q⟩] at h; cases h
  refine ⟨?_, ?_, ?_, ?_⟩
  · rw [List.map_append, List.nodup_append]
    refine ⟨W.nodup, by simp, ?_⟩
    intro a ha b hb
    simp only [List.map_cons, List.map_nil, List.mem_singleton] at hb
    subst hb
    rintro rfl
    obtain ⟨⟨a', v'⟩, h', e⟩ := List.mem_map.mp ha
    simp only at e
    exact hk v' (e ▸ h')
  · intro p hp
    rcases List.mem_append.mp hp with q | q
    · exact W.key p q
    · rw [List.mem_singleton.mp q]; exact ⟨h1, h2⟩
  · intro p hp
    rcases List.mem_append.mp hp with q | q
    · exact W.mode p q
    · rw [List.mem_singleton.mp q]; exact hm
  · intro p hp hp2
    rcases List.mem_append.mp hp with q | q
    · obtain ⟨v', a, b⟩ := W.up p q hp2
      exact ⟨v', List.mem_append_left _ a, b⟩
    · rw [List.mem_singleton.mp q] at hp2 ⊢
      obtain ⟨v', a, b⟩ := hu hp2
      exact ⟨v', List.mem_append_left _ a, b⟩

def Link : List Int → Prop
  | [] => True
  | x :: r => (2 < x → (x - 1) / 2 ∈ r) ∧ Link r
/-- on the way: the places of «as» are still to be laid, those of the line above k -/
structure PWF (k : Int) (as : List Int) (c : List (Int × Int)) : Prop where
  nodup : (c.map (·.1)).Nodup
  key : ∀ p ∈ c, 1 ≤ p.1 ∧ p.1 ≤ 14
  mode : ∀ p ∈ c, ModeOk p.2
  up : ∀ x, (x = k ∨ ∃ v, (x, v) ∈ c) → 2 < x → (∃ v, ((x - 1) / 2, v) ∈ c ∧ v.fdiv 4096 = 4) ∨ (x - 1) / 2 ∈ as
  link : Link as
  dir : ∀ a ∈ as, ∀ v, (a, v) ∈ c → v.fdiv 4096 = 4
  nok : kdfHas c k = false
  bd : ∀ a ∈ as, 1 ≤ a ∧ a ≤ 14 ∧ a ≠ k
theorem PWF.step {k x : Int} {as : List Int} {c : List (Int × Int)} (P : PWF k (x :: as) c) : PWF k as (kdfPut c x (kdfLook c x 16877)) := by
  cases hx : kdfHas c x with
  | true =>
    rw [kdfPut_same P.nodup hx]
    refine ⟨P.nodup, P.key, P.mode, ?_, P.link.2, fun a ha => P.dir a (List.mem_cons_of_mem _ ha), P.nok, fun a ha => P.bd a (List.mem_cons_of_mem _ ha)⟩
    intro y hy h2
    rcases P.up y hy h2 with q | q
    · exact .inl q
    · rcases List.mem_cons.mp q with e | e
      · obtain ⟨v, hv⟩ := kdfHas_iff.mp hx
        exact .inl ⟨v, e ▸ hv, P.dir x (List.mem_cons_self ..) v hv⟩
      · exact .inr e
  | false =>
    rw [kdfPut_new hx, kdfLook_none hx]
    have hk : ∀ v, (x, v) ∉ c := fun v q => by rw [kdfHas_iff.mpr ⟨v, q⟩] at hx; cases hx
    refine ⟨?_, ?_, ?_, ?_, P.link.2, ?_, ?_, fun a ha => P.bd a (List.mem_cons_of_mem _ ha)⟩
    · rw [List.map_append, List.nodup_append]
      refine ⟨P.nodup, by simp, ?_⟩
      intro a ha b hb
      simp only [List.map_cons, List.map_nil, List.mem_singleton] at hb
      subst hb
      rintro rfl
      obtain ⟨⟨a', v'⟩, h', e⟩ := List.mem_map.mp ha
      simp only at e
      exact hk v' (e ▸ h')
    · intro p hp
      rcases List.mem_append.mp hp with q | q
      · exact P.key p q
      · rw [List.mem_singleton.mp q]; have := P.bd x (List.mem_cons_self ..); exact ⟨this.1, this.2.1⟩
    · intro p hp
      rcases List.mem_append.mp hp with q | q
      · exact P.mode p q
      · rw [List.mem_singleton.mp q]; exact ⟨4, 493, .inl rfl, by decide, by decide, rfl⟩
    · intro y hy h2
      have key : (∃ v, ((y - 1) / 2, v) ∈ c ∧ v.fdiv 4096 = 4) ∨ (y - 1) / 2 ∈ x :: as → (∃ v, ((y - 1) / 2, v) ∈ c ++ [(x, 16877)] ∧ v.fdiv 4096 = 4) ∨ (y - 1) / 2 ∈ as := by
        rintro (⟨v, a, b⟩ | q)
        · exact .inl ⟨v, List.mem_append_left _ a, b⟩
        · rcases List.mem_cons.mp q with e | e
          · exact .inl ⟨16877, List.mem_append_right _ (by rw [e]; exact List.mem_singleton.mpr rfl), by decide⟩
          · exact .inr e
      rcases hy with hy | ⟨v, hv⟩
      · exact key (P.up y (.inl hy) h2)
      · rcases List.mem_append.mp hv with q | q
        · exact key (P.up y (.inr ⟨v, q⟩) h2)
        · have e : y = x := by have := List.mem_singleton.mp q; simp only [Prod.mk.injEq] at this; exact this.1
          subst e
          exact .inr (P.link.1 h2)
    · intro a ha v hv
      rcases List.mem_append.mp hv with q | q
      · exact P.dir a (List.mem_cons_of_mem _ ha) v q
      · have := List.mem_singleton.mp q
        simp only [Prod.mk.injEq] at this
        rw [this.2]; decide
    · cases q : kdfHas (c ++ [(x, 16877)]) k with
      | false => rfl
      | true =>
        obtain ⟨v, hv⟩ := kdfHas_iff.mp q
        rcases List.mem_append.mp hv with q | q
        · have := P.nok; rw [kdfHas_iff.mpr ⟨v, q⟩] at this; cases this
        · have := List.mem_singleton.mp q
          simp only [Prod.mk.injEq] at this
          exact absurd this.1.symm (P.bd x (List.mem_cons_self ..)).2.2
theorem PWF.last {k v : Int} {c : List (Int × Int)} (P : PWF k [] c) (h1 : 1 ≤ k) (h2 : k ≤ 14) (hm : ModeOk v) : WF (kdfPut c k v) := by
  rw [kdfPut_new P.nok]
  have W : WF c := ⟨P.nodup, P.key, P.mode, fun p hp hp2 => by
    rcases P.up p.1 (.inr ⟨p.2, hp⟩) hp2 with q | q
    · exact q
    · cases q⟩
  exact W.snoc P.nok h1 h2 hm fun h => by
    rcases P.up k (.inl rfl) h with q | q
    · exact q
    · cases q
theorem link_line {k : Int} (h0 : 1 ≤ k) (h1 : k ≤ 14) : Link ((lineOf k).drop 1) ∧ (2 < k → (k - 1) / 2 ∈ (lineOf k).drop 1) ∧ (∀ a ∈ (lineOf k).drop 1, 1 ≤ a ∧ a ≤ 14 ∧ a ≠ k) := by
  have h := cases14 h0 h1
  rcases h with rfl | rfl | rfl | rfl | rfl | rfl | rfl | rfl | rfl | rfl | rfl | rfl | rfl | rfl <;> simp [lineOf, lineF, Link, Int.fdiv]
theorem WF.begin {k : Int} {c : List (Int × Int)} (W : WF c) (h0 : 1 ≤ k) (h1 : k ≤ 14) (hk : kdfHas c k = false) (hd : ∀ a ∈ (lineOf k).drop 1, (kdfLook c a 16877).fdiv 4096 = 4) : PWF k ((lineOf k).drop 1) c := by
  obtain ⟨l1, l2, l3⟩ := link_line h0 h1
  refine ⟨W.nodup, W.key, W.mode, ?_, l1, ?_, hk, l3⟩
  · rintro x (rfl | ⟨v, hv⟩) h2
    · exact .inr (l2 h2)
    · exact .inl (W.up _ hv h2)
  · intro a ha v hv
    have := hd a ha
    rwa [kdfLook_mem W.nodup hv] at this
end Mine
namespace Mine
open PySem PySem.W PySem.Calls PyProof.Rows PyProof.V
theorem fillY1 : (PySem.Challenge.rw_pd0156_01 = PySem.Challenge.rw_pd0156_01) ∧ hd.heap_39 = hd.heap_39 := by
  k_fill
  exact ⟨rfl, rfl⟩
section
variable {prog : Program} {w : World} {A : Around} {R : Result → Shared → Prop} {s : Shared} {h₀ : Heap}

theorem lineF_len' : ∀ (f : Nat) (n : Int), (lineF f n).length ≤ f
  | 0, _ => Nat.le_refl _
  | f + 1, n => by
    unfold lineF
    split
    · exact Nat.succ_le_succ (lineF_len' f _)
    · exact Nat.zero_le _
theorem kim_tup4 {E : Value → Shared → Prop} {g : Heap} {L a : Addr} {news : List (Addr × Obj)} {lo : Obj} {n : Nat} {k v0 v1 v2 v3 : Int} {u t0 t1 t2 t3 : Tok} {value slice : Expr} {Q : Value → Shared → Prop} (N : News g L s.heap news) (hm : (a, lo) ∈ news) (hc : lo.cls = .type "tuple") (hd : lo.data = .seq [Value.int v0 t0, .int v1 t1, .int v2 t2, .int v3 t3].toArray n) (h0 : 0 ≤ k) (h4 : k < 4)
    (h : ∀ v t, (v = v0 ∨ v = v1 ∨ v = v2 ∨ v = v3) → Q (.int v t) s)
    (hs : subscripted slice false (.ref a) (.int k u) = operate [.ref a, .int k u] (getItem (.ref a) (.int k u)) := by with_unfolding_all rfl) (hg : ∀ r, letTemporaryGo value (.ref a) r = pure () := by intro _; with_unfolding_all rfl) :
    wpAny (model prog w) A (subscriptTail value slice (.ref a) (.int k u)) Q E s := by
  have h' : k = 0 ∨ k = 1 ∨ k = 2 ∨ k = 3 := by (first | decide | with_reducible assumption | with_reducible exact Nat.le_trans (by assumption) (by decide) | with_reducible exact Nat.lt_of_lt_of_le (Nat.add_lt_add_right (by assumption) _) (by decide) | with_reducible exact Int.natCast_nonneg _ | omega)
  rcases h' with rfl | rfl | rfl | rfl
  · exact kim_tup N hm hc hd (by decide) (by decide) (j := 0) rfl rfl (h _ _ (.inl rfl)) hs hg
  · exact kim_tup N hm hc hd (by decide) (by decide) (j := 1) rfl rfl (h _ _ (.inr (.inl rfl))) hs hg
  · exact kim_tup N hm hc hd (by decide) (by decide) (j := 2) rfl rfl (h _ _ (.inr (.inr (.inl rfl)))) hs hg
  · exact kim_tup N hm hc hd (by decide) (by decide) (j := 3) rfl rfl (h _ _ (.inr (.inr (.inr rfl)))) hs hg
/-- one of three dicts is taken -/
theorem take3 {d0 d1 d2 : Addr} {o0 o1 o2 : Obj} {c0 c1 c2 : List (Int × Int)} {b : Nat} {j : Int} (h0 : 0 ≤ j) (h3 : j < 3)
    (D0 : DObj prog w d0 o0 c0 ∧ WF c0 ∧ c0.length ≤ b) (D1 : DObj prog w d1 o1 c1 ∧ WF c1 ∧ c1.length ≤ b) (D2 : DObj prog w d2 o2 c2 ∧ WF c2 ∧ c2.length ≤ b) (n1 : d0 < d1) (n2 : d1 < d2) :
    ∃ dx ox cx dy oy dz oz, [Value.ref d0, .ref d1, .ref d2][j.toNat]? = some (.ref dx) ∧ (DObj prog w dx ox cx ∧ WF cx ∧ cx.length ≤ b) ∧
      (∀ p ∈ [(dx, ox), (dy, oy), (dz, oz)], p ∈ [(d0, o0), (d1, o1), (d2, o2)]) ∧ (dy ≠ dx ∧ dz ≠ dx) ∧
      (∀ o c b', DObj prog w dx o c → WF c → c.length ≤ b' → b ≤ b' → ∃ o0' c0' o1' c1' o2' c2', (∀ p ∈ [(d0, o0'), (d1, o1'), (d2, o2')], p ∈ [(dx, o), (dy, oy), (dz, oz)]) ∧
        (DObj prog w d0 o0' c0' ∧ WF c0' ∧ c0'.length ≤ b') ∧ (DObj prog w d1 o1' c1' ∧ WF c1' ∧ c1'.length ≤ b') ∧ (DObj prog w d2 o2' c2' ∧ WF c2' ∧ c2'.length ≤ b')) := by
  have n1' : d0 ≠ d1 := Nat.ne_of_lt n1
  have n2' : d1 ≠ d2 := Nat.ne_of_lt n2
  have n3' : d0 ≠ d2 := Nat.ne_of_lt (Nat.lt_trans n1 n2)
  have h : j = 0 ∨ j = 1 ∨ j = 2 := by (first | decide | with_reducible assumption | with_reducible exact Nat.le_trans (by assumption) (by decide) | with_reducible exact Nat.lt_of_lt_of_le (Nat.add_lt_add_right (by assumption) _) (by decide) | with_reducible exact Int.natCast_nonneg _ | omega)
  rcases h with rfl | rfl | rfl
  · refine ⟨d0, o0, c0, d1, o1, d2, o2, rfl, D0, by simp, ⟨n1'.symm, n3'.symm⟩, fun o c b' a x y z => ⟨o, c, o1, c1, o2, c2, by simp, ⟨a, x, y⟩, ⟨D1.1, D1.2.1, Nat.le_trans D1.2.2 z⟩, ⟨D2.1, D2.2.1, Nat.le_trans D2.2.2 z⟩⟩⟩
  · refine ⟨d1, o1, c1, d0, o0, d2, o2, rfl, D1, by simp, ⟨n1', n2'.symm⟩, fun o c b' a x y z => ⟨o0, c0, o, c, o2, c2, by simp, ⟨D0.1, D0.2.1, Nat.le_trans D0.2.2 z⟩, ⟨a, x, y⟩, ⟨D2.1, D2.2.1, Nat.le_trans D2.2.2 z⟩⟩⟩
  · refine ⟨d2, o2, c2, d0, o0, d1, o1, rfl, D2, by simp, ⟨n3', n2'⟩, fun o c b' a x y z => ⟨o0, c0, o1, c1, o, c, by simp, ⟨D0.1, D0.2.1, Nat.le_trans D0.2.2 z⟩, ⟨D1.1, D1.2.1, Nat.le_trans D1.2.2 z⟩, ⟨a, x, y⟩⟩⟩

theorem layers_spec (B : Base w h₀) (st : h₀.StaysIn s.heap) (hA : A.handled = none) (hr : A.depth < 898) (hu : A.units < 400) {a : Addr} {vs : List Value} {ns : List Int} (ha : s.heap.IsList a vs.toArray) (hI : IntsAre vs ns) (hb : ∀ n ∈ ns, 0 ≤ n ∧ n < 1000000) (hn : ns.length ≤ 8)
  (hR : ∀ h' tk ll d0 d1 d2 o0 o1 o2 c0 c1 c2, Mod [] s.heap h' → (∀ p ∈ [(ll, listOf #[Value.ref d0, .ref d1, .ref d2] 0), (d0, o0), (d1, o1), (d2, o2)], s.heap.get? p.1 = none ∧ h'.get? p.1 = some p.2) →
    (DObj prog w d0 o0 c0 ∧ WF c0) → (DObj prog w d1 o1 c1 ∧ WF c1) → (DObj prog w d2 o2 c2 ∧ WF c2) → (d0 < d1 ∧ d1 < d2 ∧ d2 < ll) → R (.ok (.ret (.ref ll))) ⟨h', s.gens, s.drawn, tk, s.os⟩) :
  codeAny (model prog w) A (.call (.ref 247) ⟨[.ref a], []⟩) R s := by
  refine' enterC (binds := [("numbers", .ref a)]) B st ?ho ?hcd ?hroom ?hbind ?hkind ?hnd ?_ ?hco ?hgen ?hk
  case hroom => exact Nat.lt_of_lt_of_le hr (by decide)
  case ho => k_is
  case hcd => k_is
  case hbind => exact BindsTo.of_eq rfl
  case hkind => exact rfl
  case hnd => decide +kernel
  case hco => exact rfl
  case hgen => exact rfl
  case hk => exact rfl
  intro g L h₁ tk cells Bg F N Y back hg
  have X := Bg.X
  have Bg' := Bg
  obtain ⟨pT, lT, mg, mb, T⟩ := Bg.T
  have ha' : g.IsList a vs.toArray := by obtain ⟨o, e, r⟩ := ha; exact ⟨o, hg _ _ e, r⟩
  k_cells Y
  repeat ((try dsimp only [WPost, Turn]); (fail_if_success (first | (with_reducible show wpAny _ _ (exec (Stmt.While _ _ _ _) _) _ _ _) | (with_reducible show wpAny _ _ (exec (Stmt.For _ _ _ _ _) _) _ _ _) | (with_reducible show wpAny _ _ (call (Value.ref _) _ _) _ _ _) | (with_reducible show wpAny _ _ (eval (Expr.ListComp _ _ _ _) _) _ _ _) | (with_reducible show wpAny _ _ (exec (Stmt.Assign _ (Expr.ListComp _ _ _ _) _) _) _ _ _) | (with_reducible show wpAny _ _ (subscriptTail _ _ (Value.ref _) _) _ _ _) | (with_reducible show wpAny _ _ (compareOp CmpOp.NotIn _ _) _ _ _) | (with_reducible show wpAny _ _ (compareOp CmpOp.Eq (Value.ref _) (Value.ref _)) _ _ _) | (with_reducible show wpAny _ _ (setItem _ _ _) _ _ _) | (with_reducible show wpAny _ _ (storeName _ (Str.ofString "layer") _) _ _ _) | (with_reducible show wpAny _ _ (eval (Expr.Name (Str.ofString "layer") _) _) _ _ _) | (with_reducible show wpAny _ _ (getMethod _ _ _) _ _ _) | (with_reducible show wpAny _ _ (pyIter _) _ _ _) | (with_reducible show wpAny _ _ (call (Value.builtin "dict.get") _) _ _ _))); walk1)
  rename_i oc hoc d0 h2 o0 lo0 _ _ hi0 fi0 l1 d1 h3 o1 lo1 _ _ hi1 fi1 l2 d2 h4 o2 lo2 _ _ hi2 fi2 l3 ll h5 l4 h6 F N
  refine For_invV g rfl rfl ?_
  repeat ((try dsimp only [WPost, Turn]); (fail_if_success (first | (with_reducible show wpAny _ _ (exec (Stmt.While _ _ _ _) _) _ _ _) | (with_reducible show wpAny _ _ (exec (Stmt.For _ _ _ _ _) _) _ _ _) | (with_reducible show wpAny _ _ (call (Value.ref _) _ _) _ _ _) | (with_reducible show wpAny _ _ (eval (Expr.ListComp _ _ _ _) _) _ _ _) | (with_reducible show wpAny _ _ (exec (Stmt.Assign _ (Expr.ListComp _ _ _ _) _) _) _ _ _) | (with_reducible show wpAny _ _ (subscriptTail _ _ (Value.ref _) _) _ _ _) | (with_reducible show wpAny _ _ (compareOp CmpOp.NotIn _ _) _ _ _) | (with_reducible show wpAny _ _ (compareOp CmpOp.Eq (Value.ref _) (Value.ref _)) _ _ _) | (with_reducible show wpAny _ _ (setItem _ _ _) _ _ _) | (with_reducible show wpAny _ _ (storeName _ (Str.ofString "layer") _) _ _ _) | (with_reducible show wpAny _ _ (eval (Expr.Name (Str.ofString "layer") _) _) _ _ _) | (with_reducible show wpAny _ _ (getMethod _ _ _) _ _ _) | (with_reducible show wpAny _ _ (pyIter _) _ _ _) | (with_reducible show wpAny _ _ (call (Value.builtin "dict.get") _) _ _ _))); walk1)
  refine for_list (vs := vs) hA (by obtain ⟨o, e, r⟩ := ha'; exact ⟨o, F.keep _ _ e, r⟩) (.inl (by obtain ⟨o, e, r⟩ := ha'; exact ⟨o, e⟩)) (nx₀ := [(L + 1, oc), (ll, listOf #[Value.ref d0, .ref d1, .ref d2] 0), (d0, o0), (d1, o1), (d2, o2)]) (keep := []) F (by refine News.sub N ?_; (first | ((repeat first | exact List.mem_cons_self .. | refine List.mem_cons_of_mem _ ?_); done) | ((repeat first | exact List.forall_mem_nil _ | refine List.forall_mem_cons.2 ⟨by first | ((repeat first | exact List.mem_cons_self .. | refine List.mem_cons_of_mem _ ?_); done) | simp, ?_⟩); done) | simp)) 
    (fun i m nx => Has m [("layers", .ref ll)] ∧ ∃ oc cv o0 o1 o2 c0 c1 c2, nx = [(L + 1, oc), (ll, listOf #[Value.ref d0, .ref d1, .ref d2] 0), (d0, o0), (d1, o1), (d2, o2)] ∧ oc.data = .cell cv ∧ (DObj prog w d0 o0 c0 ∧ WF c0 ∧ c0.length ≤ 100 * i) ∧ (DObj prog w d1 o1 c1 ∧ WF c1 ∧ c1.length ≤ 100 * i) ∧ (DObj prog w d2 o2 c2 ∧ WF c2 ∧ c2.length ≤ 100 * i)) ?_ ?_ ?_
  · exact ⟨⟨rfl, trivial⟩, oc, _, o0, o1, o2, [], [], [], rfl, hoc, ⟨⟨lo0, _, hi0, fi0⟩, .nil, by simp⟩, ⟨⟨lo1, _, hi1, fi1⟩, .nil, by simp⟩, ⟨⟨lo2, _, hi2, fi2⟩, .nil, by simp⟩⟩
  · clear F N hoc hi0 fi0 hi1 fi1 hi2 fi2
    rintro I i v m₁ nx h tk oI hv ⟨hm, oc, cv, o0, o1, o2, c0, c1, c2, rfl, hoc, D0, D1, D2⟩ hne F N
    obtain ⟨n, hni⟩ : ∃ n, ns[i]? = some n := ⟨ns[i]'(by rw [← hI.length]; exact (List.getElem?_eq_some_iff.mp hv).1), List.getElem?_eq_getElem _⟩
    obtain ⟨tn, htn⟩ := hI.get i n hni
    obtain rfl : v = .int n tn := by rw [hv] at htn; exact Option.some.inj htn
    obtain ⟨hn0, hn1⟩ := hb n (List.mem_of_getElem? hni)
    have hi8 : i < 8 := Nat.lt_of_lt_of_le (List.getElem?_eq_some_iff.mp hni).1 hn
    replace F : Fr g L h _ := Fr.over (ps := [("number", .int n tn), ("layers", .ref ll)]) F ⟨rfl, hm.1, trivial⟩
    replace N : News g L h [(L + 1, oc), (ll, listOf #[Value.ref d0, .ref d1, .ref d2] 0), (d0, o0), (d1, o1), (d2, o2), (I, oI)] := N
    dsimp only [over] at F
    repeat ((try dsimp only [WPost, Turn]); (fail_if_success (first | (with_reducible show wpAny _ _ (exec (Stmt.While _ _ _ _) _) _ _ _) | (with_reducible show wpAny _ _ (exec (Stmt.For _ _ _ _ _) _) _ _ _) | (with_reducible show wpAny _ _ (call (Value.ref _) _ _) _ _ _) | (with_reducible show wpAny _ _ (eval (Expr.ListComp _ _ _ _) _) _ _ _) | (with_reducible show wpAny _ _ (exec (Stmt.Assign _ (Expr.ListComp _ _ _ _) _) _) _ _ _) | (with_reducible show wpAny _ _ (subscriptTail _ _ (Value.ref _) _) _ _ _) | (with_reducible show wpAny _ _ (compareOp CmpOp.NotIn _ _) _ _ _) | (with_reducible show wpAny _ _ (compareOp CmpOp.Eq (Value.ref _) (Value.ref _)) _ _ _) | (with_reducible show wpAny _ _ (setItem _ _ _) _ _ _) | (with_reducible show wpAny _ _ (storeName _ (Str.ofString "layer") _) _ _ _) | (with_reducible show wpAny _ _ (eval (Expr.Name (Str.ofString "layer") _) _) _ _ _) | (with_reducible show wpAny _ _ (getMethod _ _ _) _ _ _) | (with_reducible show wpAny _ _ (pyIter _) _ _ _) | (with_reducible show wpAny _ _ (call (Value.builtin "dict.get") _) _ _ _))); walk1)
    have hj0 : 0 ≤ (n.fdiv 14).fmod 3 := by rw [Int.fmod_eq_emod_of_nonneg _ (by decide)]; (first | decide | with_reducible assumption | with_reducible exact Nat.le_trans (by assumption) (by decide) | with_reducible exact Nat.lt_of_lt_of_le (Nat.add_lt_add_right (by assumption) _) (by decide) | with_reducible exact Int.natCast_nonneg _ | omega)
    have hj3 : (n.fdiv 14).fmod 3 < 3 := by rw [Int.fmod_eq_emod_of_nonneg _ (by decide)]; (first | decide | with_reducible assumption | with_reducible exact Nat.le_trans (by assumption) (by decide) | with_reducible exact Nat.lt_of_lt_of_le (Nat.add_lt_add_right (by assumption) _) (by decide) | with_reducible exact Int.natCast_nonneg _ | omega)
    obtain ⟨dx, ox, cx, dy, oy, dz, oz, hsel, ⟨Dx, Wx, hxl⟩, hsub, ⟨ny, nz⟩, close⟩ := take3 hj0 hj3 D0 D1 D2 l2.1 l3.1
    have hxm := hsub (dx, ox) (by first | ((repeat first | exact List.mem_cons_self .. | refine List.mem_cons_of_mem _ ?_); done) | ((repeat first | exact List.forall_mem_nil _ | refine List.forall_mem_cons.2 ⟨by first | ((repeat first | exact List.mem_cons_self .. | refine List.mem_cons_of_mem _ ?_); done) | simp, ?_⟩); done) | simp)
    have hym := hsub (dy, oy) (by first | ((repeat first | exact List.mem_cons_self .. | refine List.mem_cons_of_mem _ ?_); done) | ((repeat first | exact List.forall_mem_nil _ | refine List.forall_mem_cons.2 ⟨by first | ((repeat first | exact List.mem_cons_self .. | refine List.mem_cons_of_mem _ ?_); done) | simp, ?_⟩); done) | simp)
    have hzm := hsub (dz, oz) (by first | ((repeat first | exact List.mem_cons_self .. | refine List.mem_cons_of_mem _ ?_); done) | ((repeat first | exact List.forall_mem_nil _ | refine List.forall_mem_cons.2 ⟨by first | ((repeat first | exact List.mem_cons_self .. | refine List.mem_cons_of_mem _ ?_); done) | simp, ?_⟩); done) | simp)
    refine kim_list N (List.mem_cons_of_mem _ (List.mem_cons_self ..)) rfl rfl hj0 (by (first | decide | with_reducible assumption | with_reducible exact Nat.le_trans (by assumption) (by decide) | with_reducible exact Nat.lt_of_lt_of_le (Nat.add_lt_add_right (by assumption) _) (by decide) | with_reducible exact Int.natCast_nonneg _ | omega)) hsel ?_
    have nlt : @LT.lt Nat _ (L + 1) dx ∧ @LT.lt Nat _ dx ll := by
      simp only [List.mem_cons, Prod.mk.injEq, List.not_mem_nil, or_false] at hxm
      rcases hxm with ⟨rfl, _⟩ | ⟨rfl, _⟩ | ⟨rfl, _⟩ <;> (first | decide | with_reducible assumption | with_reducible exact Nat.le_trans (by assumption) (by decide) | with_reducible exact Nat.lt_of_lt_of_le (Nat.add_lt_add_right (by assumption) _) (by decide) | with_reducible exact Int.natCast_nonneg _ | omega)
    have nly : @LT.lt Nat _ (L + 1) dy := by
      simp only [List.mem_cons, Prod.mk.injEq, List.not_mem_nil, or_false] at hym
      rcases hym with ⟨rfl, _⟩ | ⟨rfl, _⟩ | ⟨rfl, _⟩ <;> (first | decide | with_reducible assumption | with_reducible exact Nat.le_trans (by assumption) (by decide) | with_reducible exact Nat.lt_of_lt_of_le (Nat.add_lt_add_right (by assumption) _) (by decide) | with_reducible exact Int.natCast_nonneg _ | omega)
    have nlz : @LT.lt Nat _ (L + 1) dz := by
      simp only [List.mem_cons, Prod.mk.injEq, List.not_mem_nil, or_false] at hzm
      rcases hzm with ⟨rfl, _⟩ | ⟨rfl, _⟩ | ⟨rfl, _⟩ <;> (first | decide | with_reducible assumption | with_reducible exact Nat.le_trans (by assumption) (by decide) | with_reducible exact Nat.lt_of_lt_of_le (Nat.add_lt_add_right (by assumption) _) (by decide) | with_reducible exact Int.natCast_nonneg _ | omega)
    have N1 : News g L h [(L + 1, oc), (dx, ox), (ll, listOf #[Value.ref d0, .ref d1, .ref d2] 0), (dy, oy), (dz, oz), (I, oI)] := by
      refine News.sub N ?_
      have q : ∀ p ∈ [(d0, o0), (d1, o1), (d2, o2)], p ∈ [(L + 1, oc), (ll, listOf #[Value.ref d0, .ref d1, .ref d2] 0), (d0, o0), (d1, o1), (d2, o2), (I, oI)] := by (first | ((repeat first | exact List.mem_cons_self .. | refine List.mem_cons_of_mem _ ?_); done) | ((repeat first | exact List.forall_mem_nil _ | refine List.forall_mem_cons.2 ⟨by first | ((repeat first | exact List.mem_cons_self .. | refine List.mem_cons_of_mem _ ?_); done) | simp, ?_⟩); done) | simp)
      intro p hp
      rcases List.mem_cons.mp hp with rfl | hp
      · exact List.mem_cons_self ..
      rcases List.mem_cons.mp hp with rfl | hp
      · exact q _ hxm
      rcases List.mem_cons.mp hp with rfl | hp
      · exact List.mem_cons_of_mem _ (List.mem_cons_self ..)
      rcases List.mem_cons.mp hp with rfl | hp
      · exact q _ hym
      rcases List.mem_cons.mp hp with rfl | hp
      · exact q _ hzm
      rw [List.mem_singleton.mp hp]; simp
    clear N
    have nI : I ≠ L + 1 ∧ I ≠ dx ∧ I ≠ ll ∧ I ≠ dy ∧ I ≠ dz := by
      have q : ∀ p ∈ [(d0, o0), (d1, o1), (d2, o2)], I ≠ p.1 := fun p hp => (hne p (by simp only [List.append_nil]; exact List.mem_cons_of_mem _ (List.mem_cons_of_mem _ hp))).symm
      exact ⟨(hne (L + 1, oc) (by first | ((repeat first | exact List.mem_cons_self .. | refine List.mem_cons_of_mem _ ?_); done) | ((repeat first | exact List.forall_mem_nil _ | refine List.forall_mem_cons.2 ⟨by first | ((repeat first | exact List.mem_cons_self .. | refine List.mem_cons_of_mem _ ?_); done) | simp, ?_⟩); done) | simp)).symm, q _ hxm, (hne (ll, _) (by simp; exact .inr (.inl rfl))).symm, q _ hym, q _ hzm⟩
    repeat ((try dsimp only [WPost, Turn]); (fail_if_success (first | (with_reducible show wpAny _ _ (exec (Stmt.While _ _ _ _) _) _ _ _) | (with_reducible show wpAny _ _ (exec (Stmt.For _ _ _ _ _) _) _ _ _) | (with_reducible show wpAny _ _ (call (Value.ref _) _ _) _ _ _) | (with_reducible show wpAny _ _ (eval (Expr.ListComp _ _ _ _) _) _ _ _) | (with_reducible show wpAny _ _ (exec (Stmt.Assign _ (Expr.ListComp _ _ _ _) _) _) _ _ _) | (with_reducible show wpAny _ _ (subscriptTail _ _ (Value.ref _) _) _ _ _) | (with_reducible show wpAny _ _ (compareOp CmpOp.NotIn _ _) _ _ _) | (with_reducible show wpAny _ _ (compareOp CmpOp.Eq (Value.ref _) (Value.ref _)) _ _ _) | (with_reducible show wpAny _ _ (setItem _ _ _) _ _ _) | (with_reducible show wpAny _ _ (storeName _ (Str.ofString "layer") _) _ _ _) | (with_reducible show wpAny _ _ (eval (Expr.Name (Str.ofString "layer") _) _) _ _ _) | (with_reducible show wpAny _ _ (getMethod _ _ _) _ _ _) | (with_reducible show wpAny _ _ (pyIter _) _ _ _) | (with_reducible show wpAny _ _ (call (Value.builtin "dict.get") _) _ _ _))); walk1)
    refine storeX_C F N1 rfl (.head ?_) hoc ?_
    · intro p hp
      simp only [List.mem_cons, List.not_mem_nil, or_false] at hp
      have nI1 := nI.1
      rcases hp with rfl | rfl | rfl | rfl | rfl
      · exact Nat.ne_of_gt nlt.1
      · exact Nat.ne_of_gt (Nat.lt_trans nlt.1 nlt.2)
      · exact Nat.ne_of_gt nly
      · exact Nat.ne_of_gt nlz
      · exact nI1
    intro h7 oc' F7 N7 hoc'
    clear F N1 hoc
    dsimp only
    repeat ((try dsimp only [WPost, Turn]); (fail_if_success (first | (with_reducible show wpAny _ _ (exec (Stmt.While _ _ _ _) _) _ _ _) | (with_reducible show wpAny _ _ (exec (Stmt.For _ _ _ _ _) _) _ _ _) | (with_reducible show wpAny _ _ (call (Value.ref _) _ _) _ _ _) | (with_reducible show wpAny _ _ (eval (Expr.ListComp _ _ _ _) _) _ _ _) | (with_reducible show wpAny _ _ (exec (Stmt.Assign _ (Expr.ListComp _ _ _ _) _) _) _ _ _) | (with_reducible show wpAny _ _ (subscriptTail _ _ (Value.ref _) _) _ _ _) | (with_reducible show wpAny _ _ (compareOp CmpOp.NotIn _ _) _ _ _) | (with_reducible show wpAny _ _ (compareOp CmpOp.Eq (Value.ref _) (Value.ref _)) _ _ _) | (with_reducible show wpAny _ _ (setItem _ _ _) _ _ _) | (with_reducible show wpAny _ _ (storeName _ (Str.ofString "layer") _) _ _ _) | (with_reducible show wpAny _ _ (eval (Expr.Name (Str.ofString "layer") _) _) _ _ _) | (with_reducible show wpAny _ _ (getMethod _ _ _) _ _ _) | (with_reducible show wpAny _ _ (pyIter _) _ _ _) | (with_reducible show wpAny _ _ (call (Value.builtin "dict.get") _) _ _ _))); walk1)
    have hk1 : 1 ≤ n.fmod 14 + 1 := by rw [Int.fmod_eq_emod_of_nonneg _ (by decide)]; (first | decide | with_reducible assumption | with_reducible exact Nat.le_trans (by assumption) (by decide) | with_reducible exact Nat.lt_of_lt_of_le (Nat.add_lt_add_right (by assumption) _) (by decide) | with_reducible exact Int.natCast_nonneg _ | omega)
    have hk14 : n.fmod 14 + 1 ≤ 14 := by rw [Int.fmod_eq_emod_of_nonneg _ (by decide)]; (first | decide | with_reducible assumption | with_reducible exact Nat.le_trans (by assumption) (by decide) | with_reducible exact Nat.lt_of_lt_of_le (Nat.add_lt_add_right (by assumption) _) (by decide) | with_reducible exact Int.natCast_nonneg _ | omega)
    refine wpAny_call (line_spec Bg' (s := ⟨_, _, _, _, _⟩) F7.keep (by show A.depth + 1 < 900; (first | decide | with_reducible assumption | with_reducible exact Nat.le_trans (by assumption) (by decide) | with_reducible exact Nat.lt_of_lt_of_le (Nat.add_lt_add_right (by assumption) _) (by decide) | with_reducible exact Int.natCast_nonneg _ | omega)) (Int.le_trans (by decide) hk1) hk14 fun la lvs lep h8 tk8 M hfr hlo hIl => ?_)
    have N8 := News.born F7 N7 M hfr hlo
    have nla : la ≠ dx ∧ la ≠ L + 1 := by
      have q := ne_fresh N7 hfr
      exact ⟨(q (dx, ox) (by first | ((repeat first | exact List.mem_cons_self .. | refine List.mem_cons_of_mem _ ?_); done) | ((repeat first | exact List.forall_mem_nil _ | refine List.forall_mem_cons.2 ⟨by first | ((repeat first | exact List.mem_cons_self .. | refine List.mem_cons_of_mem _ ?_); done) | simp, ?_⟩); done) | simp)).symm, (q (L + 1, oc') (by first | ((repeat first | exact List.mem_cons_self .. | refine List.mem_cons_of_mem _ ?_); done) | ((repeat first | exact List.forall_mem_nil _ | refine List.forall_mem_cons.2 ⟨by first | ((repeat first | exact List.mem_cons_self .. | refine List.mem_cons_of_mem _ ?_); done) | simp, ?_⟩); done) | simp)).symm⟩
    have F8 := Fr.keeps' F7 M
    clear N7 F7 hlo
    generalize hk : n.fmod 14 + 1 = k at *
    have hlen : lvs.length ≤ 4 := by rw [hIl.length]; exact lineF_len' 4 k
    have hl0 : ∃ t, lvs[0]? = some (.int k t) := hIl.get 0 k (by rw [line_step (by (first | decide | with_reducible assumption | with_reducible exact Nat.le_trans (by assumption) (by decide) | with_reducible exact Nat.lt_of_lt_of_le (Nat.add_lt_add_right (by assumption) _) (by decide) | with_reducible exact Int.natCast_nonneg _ | omega)) (by (first | decide | with_reducible assumption | with_reducible exact Nat.le_trans (by assumption) (by decide) | with_reducible exact Nat.lt_of_lt_of_le (Nat.add_lt_add_right (by assumption) _) (by decide) | with_reducible exact Int.natCast_nonneg _ | omega))]; rfl)
    obtain ⟨t0, hl0⟩ := hl0
    dsimp only
    repeat ((try dsimp only [WPost, Turn]); (fail_if_success (first | (with_reducible show wpAny _ _ (exec (Stmt.While _ _ _ _) _) _ _ _) | (with_reducible show wpAny _ _ (exec (Stmt.For _ _ _ _ _) _) _ _ _) | (with_reducible show wpAny _ _ (call (Value.ref _) _ _) _ _ _) | (with_reducible show wpAny _ _ (eval (Expr.ListComp _ _ _ _) _) _ _ _) | (with_reducible show wpAny _ _ (exec (Stmt.Assign _ (Expr.ListComp _ _ _ _) _) _) _ _ _) | (with_reducible show wpAny _ _ (subscriptTail _ _ (Value.ref _) _) _ _ _) | (with_reducible show wpAny _ _ (compareOp CmpOp.NotIn _ _) _ _ _) | (with_reducible show wpAny _ _ (compareOp CmpOp.Eq (Value.ref _) (Value.ref _)) _ _ _) | (with_reducible show wpAny _ _ (setItem _ _ _) _ _ _) | (with_reducible show wpAny _ _ (storeName _ (Str.ofString "layer") _) _ _ _) | (with_reducible show wpAny _ _ (eval (Expr.Name (Str.ofString "layer") _) _) _ _ _) | (with_reducible show wpAny _ _ (getMethod _ _ _) _ _ _) | (with_reducible show wpAny _ _ (pyIter _) _ _ _) | (with_reducible show wpAny _ _ (call (Value.builtin "dict.get") _) _ _ _))); walk1)
    rename Fr g L _ _ => F
    rename News g L _ _ => N
    refine kim_list N (List.mem_cons_self ..) rfl rfl (by decide) (by decide) hl0 ?_
    repeat ((try dsimp only [WPost, Turn]); (fail_if_success (first | (with_reducible show wpAny _ _ (exec (Stmt.While _ _ _ _) _) _ _ _) | (with_reducible show wpAny _ _ (exec (Stmt.For _ _ _ _ _) _) _ _ _) | (with_reducible show wpAny _ _ (call (Value.ref _) _ _) _ _ _) | (with_reducible show wpAny _ _ (eval (Expr.ListComp _ _ _ _) _) _ _ _) | (with_reducible show wpAny _ _ (exec (Stmt.Assign _ (Expr.ListComp _ _ _ _) _) _) _ _ _) | (with_reducible show wpAny _ _ (subscriptTail _ _ (Value.ref _) _) _ _ _) | (with_reducible show wpAny _ _ (compareOp CmpOp.NotIn _ _) _ _ _) | (with_reducible show wpAny _ _ (compareOp CmpOp.Eq (Value.ref _) (Value.ref _)) _ _ _) | (with_reducible show wpAny _ _ (setItem _ _ _) _ _ _) | (with_reducible show wpAny _ _ (storeName _ (Str.ofString "layer") _) _ _ _) | (with_reducible show wpAny _ _ (eval (Expr.Name (Str.ofString "layer") _) _) _ _ _) | (with_reducible show wpAny _ _ (getMethod _ _ _) _ _ _) | (with_reducible show wpAny _ _ (pyIter _) _ _ _) | (with_reducible show wpAny _ _ (call (Value.builtin "dict.get") _) _ _ _))); walk1)
    refine nameX_C N rfl (List.mem_cons_of_mem _ (List.mem_cons_self ..)) hoc' ?_
    repeat ((try dsimp only [WPost, Turn]); (fail_if_success (first | (with_reducible show wpAny _ _ (exec (Stmt.While _ _ _ _) _) _ _ _) | (with_reducible show wpAny _ _ (exec (Stmt.For _ _ _ _ _) _) _ _ _) | (with_reducible show wpAny _ _ (call (Value.ref _) _ _) _ _ _) | (with_reducible show wpAny _ _ (eval (Expr.ListComp _ _ _ _) _) _ _ _) | (with_reducible show wpAny _ _ (exec (Stmt.Assign _ (Expr.ListComp _ _ _ _) _) _) _ _ _) | (with_reducible show wpAny _ _ (subscriptTail _ _ (Value.ref _) _) _ _ _) | (with_reducible show wpAny _ _ (compareOp CmpOp.NotIn _ _) _ _ _) | (with_reducible show wpAny _ _ (compareOp CmpOp.Eq (Value.ref _) (Value.ref _)) _ _ _) | (with_reducible show wpAny _ _ (setItem _ _ _) _ _ _) | (with_reducible show wpAny _ _ (storeName _ (Str.ofString "layer") _) _ _ _) | (with_reducible show wpAny _ _ (eval (Expr.Name (Str.ofString "layer") _) _) _ _ _) | (with_reducible show wpAny _ _ (getMethod _ _ _) _ _ _) | (with_reducible show wpAny _ _ (pyIter _) _ _ _) | (with_reducible show wpAny _ _ (call (Value.builtin "dict.get") _) _ _ _))); walk1)
    refine kdf_notin (c := cx) (Dx.tab (N (dx, ox) (by first | ((repeat first | exact List.mem_cons_self .. | refine List.mem_cons_of_mem _ ?_); done) | ((repeat first | exact List.forall_mem_nil _ | refine List.forall_mem_cons.2 ⟨by first | ((repeat first | exact List.mem_cons_self .. | refine List.mem_cons_of_mem _ ?_); done) | simp, ?_⟩); done) | simp)).1) ?_
    cases hkk : kdfHas cx k with
    | true =>
      dsimp only [Bool.not_true]
      repeat ((try dsimp only [WPost, Turn]); (fail_if_success (first | (with_reducible show wpAny _ _ (exec (Stmt.While _ _ _ _) _) _ _ _) | (with_reducible show wpAny _ _ (exec (Stmt.For _ _ _ _ _) _) _ _ _) | (with_reducible show wpAny _ _ (call (Value.ref _) _ _) _ _ _) | (with_reducible show wpAny _ _ (eval (Expr.ListComp _ _ _ _) _) _ _ _) | (with_reducible show wpAny _ _ (exec (Stmt.Assign _ (Expr.ListComp _ _ _ _) _) _) _ _ _) | (with_reducible show wpAny _ _ (subscriptTail _ _ (Value.ref _) _) _ _ _) | (with_reducible show wpAny _ _ (compareOp CmpOp.NotIn _ _) _ _ _) | (with_reducible show wpAny _ _ (compareOp CmpOp.Eq (Value.ref _) (Value.ref _)) _ _ _) | (with_reducible show wpAny _ _ (setItem _ _ _) _ _ _) | (with_reducible show wpAny _ _ (storeName _ (Str.ofString "layer") _) _ _ _) | (with_reducible show wpAny _ _ (eval (Expr.Name (Str.ofString "layer") _) _) _ _ _) | (with_reducible show wpAny _ _ (getMethod _ _ _) _ _ _) | (with_reducible show wpAny _ _ (pyIter _) _ _ _) | (with_reducible show wpAny _ _ (call (Value.builtin "dict.get") _) _ _ _))); walk1)
      obtain ⟨o0', c0', o1', c1', o2', c2', hb3, E0, E1, E2⟩ := close ox cx (100 * (i + 1)) Dx Wx (by (first | decide | with_reducible assumption | with_reducible exact Nat.le_trans (by assumption) (by decide) | with_reducible exact Nat.lt_of_lt_of_le (Nat.add_lt_add_right (by assumption) _) (by decide) | with_reducible exact Int.natCast_nonneg _ | omega)) (by (first | decide | with_reducible assumption | with_reducible exact Nat.le_trans (by assumption) (by decide) | with_reducible exact Nat.lt_of_lt_of_le (Nat.add_lt_add_right (by assumption) _) (by decide) | with_reducible exact Int.natCast_nonneg _ | omega))
      refine TEnd.intro (s := ⟨_, _, _, _, _⟩) [(L + 1, oc'), (ll, listOf #[Value.ref d0, .ref d1, .ref d2] 0), (d0, o0'), (d1, o1'), (d2, o2')] F N ?_ (by first | ((repeat first | exact List.mem_cons_self .. | refine List.mem_cons_of_mem _ ?_); done) | ((repeat first | exact List.forall_mem_nil _ | refine List.forall_mem_cons.2 ⟨by first | ((repeat first | exact List.mem_cons_self .. | refine List.mem_cons_of_mem _ ?_); done) | simp, ?_⟩); done) | simp) (by first | ((repeat first | exact List.mem_cons_self .. | refine List.mem_cons_of_mem _ ?_); done) | ((repeat first | exact List.forall_mem_nil _ | refine List.forall_mem_cons.2 ⟨by first | ((repeat first | exact List.mem_cons_self .. | refine List.mem_cons_of_mem _ ?_); done) | simp, ?_⟩); done) | simp) ?_ ⟨⟨rfl, trivial⟩, oc', _, o0', o1', o2', c0', c1', c2', rfl, hoc', E0, E1, E2⟩
      · intro p hp
        rcases List.mem_cons.mp hp with rfl | hp
        · (first | ((repeat first | exact List.mem_cons_self .. | refine List.mem_cons_of_mem _ ?_); done) | ((repeat first | exact List.forall_mem_nil _ | refine List.forall_mem_cons.2 ⟨by first | ((repeat first | exact List.mem_cons_self .. | refine List.mem_cons_of_mem _ ?_); done) | simp, ?_⟩); done) | simp)
        rcases List.mem_cons.mp hp with rfl | hp
        · (first | ((repeat first | exact List.mem_cons_self .. | refine List.mem_cons_of_mem _ ?_); done) | ((repeat first | exact List.forall_mem_nil _ | refine List.forall_mem_cons.2 ⟨by first | ((repeat first | exact List.mem_cons_self .. | refine List.mem_cons_of_mem _ ?_); done) | simp, ?_⟩); done) | simp)
        have := hb3 p hp
        simp only [List.mem_cons, List.not_mem_nil, or_false] at this ⊢
        rcases this with rfl | rfl | rfl <;> (first | ((repeat first | exact List.mem_cons_self .. | refine List.mem_cons_of_mem _ ?_); done) | ((repeat first | exact List.forall_mem_nil _ | refine List.forall_mem_cons.2 ⟨by first | ((repeat first | exact List.mem_cons_self .. | refine List.mem_cons_of_mem _ ?_); done) | simp, ?_⟩); done) | simp)
      · intro p hp
        rcases List.mem_cons.mp hp with rfl | hp
        · exact nI.1.symm
        rcases List.mem_cons.mp hp with rfl | hp
        · exact nI.2.2.1.symm
        have := hb3 p hp
        simp only [List.mem_cons, List.not_mem_nil, or_false] at this
        rcases this with rfl | rfl | rfl
        · exact nI.2.1.symm
        · exact nI.2.2.2.1.symm
        · exact nI.2.2.2.2.symm
    | false =>
      dsimp only [Bool.not_false]
      repeat ((try dsimp only [WPost, Turn]); (fail_if_success (first | (with_reducible show wpAny _ _ (exec (Stmt.While _ _ _ _) _) _ _ _) | (with_reducible show wpAny _ _ (exec (Stmt.For _ _ _ _ _) _) _ _ _) | (with_reducible show wpAny _ _ (call (Value.ref _) _ _) _ _ _) | (with_reducible show wpAny _ _ (eval (Expr.ListComp _ _ _ _) _) _ _ _) | (with_reducible show wpAny _ _ (exec (Stmt.Assign _ (Expr.ListComp _ _ _ _) _) _) _ _ _) | (with_reducible show wpAny _ _ (subscriptTail _ _ (Value.ref _) _) _ _ _) | (with_reducible show wpAny _ _ (compareOp CmpOp.NotIn _ _) _ _ _) | (with_reducible show wpAny _ _ (compareOp CmpOp.Eq (Value.ref _) (Value.ref _)) _ _ _) | (with_reducible show wpAny _ _ (setItem _ _ _) _ _ _) | (with_reducible show wpAny _ _ (storeName _ (Str.ofString "layer") _) _ _ _) | (with_reducible show wpAny _ _ (eval (Expr.Name (Str.ofString "layer") _) _) _ _ _) | (with_reducible show wpAny _ _ (getMethod _ _ _) _ _ _) | (with_reducible show wpAny _ _ (pyIter _) _ _ _) | (with_reducible show wpAny _ _ (call (Value.builtin "dict.get") _) _ _ _))); walk1)
      refine LCt.ListComp_T F (cl := [("layer", L + 1)]) rfl (by decide) rfl (by decide) rfl ?_
      repeat ((try dsimp only [WPost, Turn]); (fail_if_success (first | (with_reducible show wpAny _ _ (exec (Stmt.While _ _ _ _) _) _ _ _) | (with_reducible show wpAny _ _ (exec (Stmt.For _ _ _ _ _) _) _ _ _) | (with_reducible show wpAny _ _ (call (Value.ref _) _ _) _ _ _) | (with_reducible show wpAny _ _ (eval (Expr.ListComp _ _ _ _) _) _ _ _) | (with_reducible show wpAny _ _ (exec (Stmt.Assign _ (Expr.ListComp _ _ _ _) _) _) _ _ _) | (with_reducible show wpAny _ _ (subscriptTail _ _ (Value.ref _) _) _ _ _) | (with_reducible show wpAny _ _ (compareOp CmpOp.NotIn _ _) _ _ _) | (with_reducible show wpAny _ _ (compareOp CmpOp.Eq (Value.ref _) (Value.ref _)) _ _ _) | (with_reducible show wpAny _ _ (setItem _ _ _) _ _ _) | (with_reducible show wpAny _ _ (storeName _ (Str.ofString "layer") _) _ _ _) | (with_reducible show wpAny _ _ (eval (Expr.Name (Str.ofString "layer") _) _) _ _ _) | (with_reducible show wpAny _ _ (getMethod _ _ _) _ _ _) | (with_reducible show wpAny _ _ (pyIter _) _ _ _) | (with_reducible show wpAny _ _ (call (Value.builtin "dict.get") _) _ _ _))); walk1)
      refine kmk_slice_ints (s := ⟨_, s.gens, s.drawn, _, s.os⟩) (c := ((lineOf k).drop 1).length) F N (News.isList N (List.mem_cons_self ..)) (.int _ _) .none hIl (kmk_from hIl (by decide)) rfl ?_ (by with_unfolding_all rfl) (fun _ => rfl) (by rw [List.size_toArray, PySem.sizeLine_eq]; (first | decide | with_reducible assumption | with_reducible exact Nat.le_trans (by assumption) (by decide) | with_reducible exact Nat.lt_of_lt_of_le (Nat.add_lt_add_right (by assumption) _) (by decide) | with_reducible exact Int.natCast_nonneg _ | omega))
      intro D ws h9 F9 N9 l9 hIw _ hwl
      clear F N
      have hwlen : ws.length ≤ 4 := by rw [hIw.length, ← hIl.length] at *; (first | decide | with_reducible assumption | with_reducible exact Nat.le_trans (by assumption) (by decide) | with_reducible exact Nat.lt_of_lt_of_le (Nat.add_lt_add_right (by assumption) _) (by decide) | with_reducible exact Int.natCast_nonneg _ | omega)
      refine LCt.CompSrcT.ledger hA F9 N9 (List.mem_cons_self ..) (by rw [List.size_toArray, PySem.sizeLine_eq]; (first | decide | with_reducible assumption | with_reducible exact Nat.le_trans (by assumption) (by decide) | with_reducible exact Nat.lt_of_lt_of_le (Nat.add_lt_add_right (by assumption) _) (by decide) | with_reducible exact Int.natCast_nonneg _ | omega)) fun h10 => ?_
      have hsz : ws.toArray.size = ((lineOf k).drop 1).length := by rw [List.size_toArray]; exact hIw.length
      refine compRestT_inv (fun i ys nx => nx = [(D, listOf ws.toArray 0), (la, listOf lvs.toArray lep), (L + 1, oc'), (dx, ox), (ll, listOf #[Value.ref d0, .ref d1, .ref d2] 0), (dy, oy), (dz, oz), (I, oI)] ∧ IntsAre ys ((((lineOf k).drop 1).take i).filter fun a => !decide ((kdfLook cx a 16877).fdiv 4096 = 4))) ⟨rfl, by simpa using IntsAre.nil⟩ ?_ ?_
      · rintro i' ys nx v I' oI' C oC D' m₂ h tk E' hi ⟨rfl, hys⟩ hP hns hx F N off ne
        obtain ⟨x, hx'⟩ : ∃ x, ((lineOf k).drop (Int.toNat 1))[i']? = some x := ⟨((lineOf k).drop (Int.toNat 1))[i']'(by have : i' < ((lineOf k).drop 1).length := hsz ▸ hi; exact this), List.getElem?_eq_getElem _⟩
        obtain ⟨t', ht⟩ := hIw.get i' x hx'
        obtain rfl : v = .int x t' := by simpa [ht] using hP.symm
        have hx1 : ((lineOf k).drop 1)[i']? = some x := hx'
        dsimp only at F N ⊢
        repeat ((try dsimp only [WPost, Turn]); (fail_if_success (first | (with_reducible show wpAny _ _ (exec (Stmt.While _ _ _ _) _) _ _ _) | (with_reducible show wpAny _ _ (exec (Stmt.For _ _ _ _ _) _) _ _ _) | (with_reducible show wpAny _ _ (call (Value.ref _) _ _) _ _ _) | (with_reducible show wpAny _ _ (eval (Expr.ListComp _ _ _ _) _) _ _ _) | (with_reducible show wpAny _ _ (exec (Stmt.Assign _ (Expr.ListComp _ _ _ _) _) _) _ _ _) | (with_reducible show wpAny _ _ (subscriptTail _ _ (Value.ref _) _) _ _ _) | (with_reducible show wpAny _ _ (compareOp CmpOp.NotIn _ _) _ _ _) | (with_reducible show wpAny _ _ (compareOp CmpOp.Eq (Value.ref _) (Value.ref _)) _ _ _) | (with_reducible show wpAny _ _ (setItem _ _ _) _ _ _) | (with_reducible show wpAny _ _ (storeName _ (Str.ofString "layer") _) _ _ _) | (with_reducible show wpAny _ _ (eval (Expr.Name (Str.ofString "layer") _) _) _ _ _) | (with_reducible show wpAny _ _ (getMethod _ _ _) _ _ _) | (with_reducible show wpAny _ _ (pyIter _) _ _ _) | (with_reducible show wpAny _ _ (call (Value.builtin "dict.get") _) _ _ _))); walk1)
        refine lcf_cell (c := L + 1) (o := oc') N rfl (by first | ((repeat first | exact List.mem_cons_self .. | refine List.mem_cons_of_mem _ ?_); done) | ((repeat first | exact List.forall_mem_nil _ | refine List.forall_mem_cons.2 ⟨by first | ((repeat first | exact List.mem_cons_self .. | refine List.mem_cons_of_mem _ ?_); done) | simp, ?_⟩); done) | simp) hoc' ?_ (by rfl) (by rfl)
        repeat ((try dsimp only [WPost, Turn]); (fail_if_success (first | (with_reducible show wpAny _ _ (exec (Stmt.While _ _ _ _) _) _ _ _) | (with_reducible show wpAny _ _ (exec (Stmt.For _ _ _ _ _) _) _ _ _) | (with_reducible show wpAny _ _ (call (Value.ref _) _ _) _ _ _) | (with_reducible show wpAny _ _ (eval (Expr.ListComp _ _ _ _) _) _ _ _) | (with_reducible show wpAny _ _ (exec (Stmt.Assign _ (Expr.ListComp _ _ _ _) _) _) _ _ _) | (with_reducible show wpAny _ _ (subscriptTail _ _ (Value.ref _) _) _ _ _) | (with_reducible show wpAny _ _ (compareOp CmpOp.NotIn _ _) _ _ _) | (with_reducible show wpAny _ _ (compareOp CmpOp.Eq (Value.ref _) (Value.ref _)) _ _ _) | (with_reducible show wpAny _ _ (setItem _ _ _) _ _ _) | (with_reducible show wpAny _ _ (storeName _ (Str.ofString "layer") _) _ _ _) | (with_reducible show wpAny _ _ (eval (Expr.Name (Str.ofString "layer") _) _) _ _ _) | (with_reducible show wpAny _ _ (getMethod _ _ _) _ _ _) | (with_reducible show wpAny _ _ (pyIter _) _ _ _) | (with_reducible show wpAny _ _ (call (Value.builtin "dict.get") _) _ _ _))); walk1)
        refine getMethod_intTab_get (Dx.tab (N (dx, ox) (by first | ((repeat first | exact List.mem_cons_self .. | refine List.mem_cons_of_mem _ ?_); done) | ((repeat first | exact List.forall_mem_nil _ | refine List.forall_mem_cons.2 ⟨by first | ((repeat first | exact List.mem_cons_self .. | refine List.mem_cons_of_mem _ ?_); done) | simp, ?_⟩); done) | simp)).1) ?_
        repeat ((try dsimp only [WPost, Turn]); (fail_if_success (first | (with_reducible show wpAny _ _ (exec (Stmt.While _ _ _ _) _) _ _ _) | (with_reducible show wpAny _ _ (exec (Stmt.For _ _ _ _ _) _) _ _ _) | (with_reducible show wpAny _ _ (call (Value.ref _) _ _) _ _ _) | (with_reducible show wpAny _ _ (eval (Expr.ListComp _ _ _ _) _) _ _ _) | (with_reducible show wpAny _ _ (exec (Stmt.Assign _ (Expr.ListComp _ _ _ _) _) _) _ _ _) | (with_reducible show wpAny _ _ (subscriptTail _ _ (Value.ref _) _) _ _ _) | (with_reducible show wpAny _ _ (compareOp CmpOp.NotIn _ _) _ _ _) | (with_reducible show wpAny _ _ (compareOp CmpOp.Eq (Value.ref _) (Value.ref _)) _ _ _) | (with_reducible show wpAny _ _ (setItem _ _ _) _ _ _) | (with_reducible show wpAny _ _ (storeName _ (Str.ofString "layer") _) _ _ _) | (with_reducible show wpAny _ _ (eval (Expr.Name (Str.ofString "layer") _) _) _ _ _) | (with_reducible show wpAny _ _ (getMethod _ _ _) _ _ _) | (with_reducible show wpAny _ _ (pyIter _) _ _ _) | (with_reducible show wpAny _ _ (call (Value.builtin "dict.get") _) _ _ _))); walk1)
        refine kdf_get2 (Dx.tab (N (dx, ox) (by first | ((repeat first | exact List.mem_cons_self .. | refine List.mem_cons_of_mem _ ?_); done) | ((repeat first | exact List.forall_mem_nil _ | refine List.forall_mem_cons.2 ⟨by first | ((repeat first | exact List.mem_cons_self .. | refine List.mem_cons_of_mem _ ?_); done) | simp, ?_⟩); done) | simp)).1) fun t'' => ?_
        have key : ∀ z, (if (kdfLook cx x 16877).fdiv 4096 = 4 then z = ys else ∃ tz, z = ys ++ [.int x tz]) → IntsAre z ((((lineOf k).drop 1).take (i' + 1)).filter fun a => !decide ((kdfLook cx a 16877).fdiv 4096 = 4)) := by
          intro z hz
          rw [List.take_add_one, hx1, Option.toList_some, List.filter_append]
          by_cases e : (kdfLook cx x 16877).fdiv 4096 = 4
          · rw [if_pos e] at hz
            subst hz
            simpa [e] using hys
          · rw [if_neg e] at hz
            obtain ⟨tz, rfl⟩ := hz
            have : [x].filter (fun a => !decide ((kdfLook cx a 16877).fdiv 4096 = 4)) = [x] := by simp [e]
            rw [this]
            exact IntsAre.append hys (.cons _ _ .nil)
        repeat' ((try dsimp only [WPost, Turn]); (fail_if_success (first | (with_reducible show wpAny _ _ (exec (Stmt.While _ _ _ _) _) _ _ _) | (with_reducible show wpAny _ _ (exec (Stmt.For _ _ _ _ _) _) _ _ _) | (with_reducible show wpAny _ _ (call (Value.ref _) _ _) _ _ _) | (with_reducible show wpAny _ _ (eval (Expr.ListComp _ _ _ _) _) _ _ _) | (with_reducible show wpAny _ _ (exec (Stmt.Assign _ (Expr.ListComp _ _ _ _) _) _) _ _ _) | (with_reducible show wpAny _ _ (subscriptTail _ _ (Value.ref _) _) _ _ _) | (with_reducible show wpAny _ _ (compareOp CmpOp.NotIn _ _) _ _ _) | (with_reducible show wpAny _ _ (compareOp CmpOp.Eq (Value.ref _) (Value.ref _)) _ _ _) | (with_reducible show wpAny _ _ (setItem _ _ _) _ _ _) | (with_reducible show wpAny _ _ (storeName _ (Str.ofString "layer") _) _ _ _) | (with_reducible show wpAny _ _ (eval (Expr.Name (Str.ofString "layer") _) _) _ _ _) | (with_reducible show wpAny _ _ (getMethod _ _ _) _ _ _) | (with_reducible show wpAny _ _ (pyIter _) _ _ _) | (with_reducible show wpAny _ _ (call (Value.builtin "dict.get") _) _ _ _))); walk1)
        · rename (kdfLook cx x 16877).fdiv 4096 ≠ 4 => e
          refine LCg.CompEnd.intro F N _ (by first | ((repeat first | exact List.mem_cons_self .. | refine List.mem_cons_of_mem _ ?_); done) | ((repeat first | exact List.forall_mem_nil _ | refine List.forall_mem_cons.2 ⟨by first | ((repeat first | exact List.mem_cons_self .. | refine List.mem_cons_of_mem _ ?_); done) | simp, ?_⟩); done) | simp) off (.inr ⟨_, List.mem_cons_self .., rfl, _, rfl⟩) ⟨rfl, key _ (by rw [if_neg e]; exact ⟨_, rfl⟩)⟩
        · rename (kdfLook cx x 16877).fdiv 4096 = 4 => e
          refine LCg.CompEnd.intro F N _ (by first | ((repeat first | exact List.mem_cons_self .. | refine List.mem_cons_of_mem _ ?_); done) | ((repeat first | exact List.forall_mem_nil _ | refine List.forall_mem_cons.2 ⟨by first | ((repeat first | exact List.mem_cons_self .. | refine List.mem_cons_of_mem _ ?_); done) | simp, ?_⟩); done) | simp) off (.inr ⟨_, List.mem_cons_self .., rfl, _, rfl⟩) ⟨rfl, key _ (by rw [if_pos e])⟩
      · rintro ys nx ⟨rfl, hys⟩ D3 h tk F N off
        rw [hsz] at hys
        rw [List.take_length] at hys
        repeat ((try dsimp only [WPost, Turn]); (fail_if_success (first | (with_reducible show wpAny _ _ (exec (Stmt.While _ _ _ _) _) _ _ _) | (with_reducible show wpAny _ _ (exec (Stmt.For _ _ _ _ _) _) _ _ _) | (with_reducible show wpAny _ _ (call (Value.ref _) _ _) _ _ _) | (with_reducible show wpAny _ _ (eval (Expr.ListComp _ _ _ _) _) _ _ _) | (with_reducible show wpAny _ _ (exec (Stmt.Assign _ (Expr.ListComp _ _ _ _) _) _) _ _ _) | (with_reducible show wpAny _ _ (subscriptTail _ _ (Value.ref _) _) _ _ _) | (with_reducible show wpAny _ _ (compareOp CmpOp.NotIn _ _) _ _ _) | (with_reducible show wpAny _ _ (compareOp CmpOp.Eq (Value.ref _) (Value.ref _)) _ _ _) | (with_reducible show wpAny _ _ (setItem _ _ _) _ _ _) | (with_reducible show wpAny _ _ (storeName _ (Str.ofString "layer") _) _ _ _) | (with_reducible show wpAny _ _ (eval (Expr.Name (Str.ofString "layer") _) _) _ _ _) | (with_reducible show wpAny _ _ (getMethod _ _ _) _ _ _) | (with_reducible show wpAny _ _ (pyIter _) _ _ _) | (with_reducible show wpAny _ _ (call (Value.builtin "dict.get") _) _ _ _))); walk1)
        rename Fr g L _ _ => F
        rename News g L _ _ => N
        refine eq_intsK (News.isList N (List.mem_cons_of_mem _ (List.mem_cons_self ..))) hys (News.isList N (List.mem_cons_self ..)) .nil (by show A.units + 3 + 64 < 9900; (first | decide | with_reducible assumption | with_reducible exact Nat.le_trans (by assumption) (by decide) | with_reducible exact Nat.lt_of_lt_of_le (Nat.add_lt_add_right (by assumption) _) (by decide) | with_reducible exact Int.natCast_nonneg _ | omega)) ?_
        by_cases hall : (((lineOf k).drop 1).filter fun a => !decide ((kdfLook cx a 16877).fdiv 4096 = 4)) = []
        · rw [decide_eq_true hall]
          have P0 : PWF k ((lineOf k).drop 1) cx := Wx.begin hk1 hk14 hkk fun a ha => by
            have := List.filter_eq_nil_iff.mp hall a ha
            simpa using this
          repeat ((try dsimp only [WPost, Turn]); (fail_if_success (first | (with_reducible show wpAny _ _ (exec (Stmt.While _ _ _ _) _) _ _ _) | (with_reducible show wpAny _ _ (exec (Stmt.For _ _ _ _ _) _) _ _ _) | (with_reducible show wpAny _ _ (call (Value.ref _) _ _) _ _ _) | (with_reducible show wpAny _ _ (eval (Expr.ListComp _ _ _ _) _) _ _ _) | (with_reducible show wpAny _ _ (exec (Stmt.Assign _ (Expr.ListComp _ _ _ _) _) _) _ _ _) | (with_reducible show wpAny _ _ (subscriptTail _ _ (Value.ref _) _) _ _ _) | (with_reducible show wpAny _ _ (compareOp CmpOp.NotIn _ _) _ _ _) | (with_reducible show wpAny _ _ (compareOp CmpOp.Eq (Value.ref _) (Value.ref _)) _ _ _) | (with_reducible show wpAny _ _ (setItem _ _ _) _ _ _) | (with_reducible show wpAny _ _ (storeName _ (Str.ofString "layer") _) _ _ _) | (with_reducible show wpAny _ _ (eval (Expr.Name (Str.ofString "layer") _) _) _ _ _) | (with_reducible show wpAny _ _ (getMethod _ _ _) _ _ _) | (with_reducible show wpAny _ _ (pyIter _) _ _ _) | (with_reducible show wpAny _ _ (call (Value.builtin "dict.get") _) _ _ _))); walk1)
          refine For_invV g rfl rfl ?_
          repeat ((try dsimp only [WPost, Turn]); (fail_if_success (first | (with_reducible show wpAny _ _ (exec (Stmt.While _ _ _ _) _) _ _ _) | (with_reducible show wpAny _ _ (exec (Stmt.For _ _ _ _ _) _) _ _ _) | (with_reducible show wpAny _ _ (call (Value.ref _) _ _) _ _ _) | (with_reducible show wpAny _ _ (eval (Expr.ListComp _ _ _ _) _) _ _ _) | (with_reducible show wpAny _ _ (exec (Stmt.Assign _ (Expr.ListComp _ _ _ _) _) _) _ _ _) | (with_reducible show wpAny _ _ (subscriptTail _ _ (Value.ref _) _) _ _ _) | (with_reducible show wpAny _ _ (compareOp CmpOp.NotIn _ _) _ _ _) | (with_reducible show wpAny _ _ (compareOp CmpOp.Eq (Value.ref _) (Value.ref _)) _ _ _) | (with_reducible show wpAny _ _ (setItem _ _ _) _ _ _) | (with_reducible show wpAny _ _ (storeName _ (Str.ofString "layer") _) _ _ _) | (with_reducible show wpAny _ _ (eval (Expr.Name (Str.ofString "layer") _) _) _ _ _) | (with_reducible show wpAny _ _ (getMethod _ _ _) _ _ _) | (with_reducible show wpAny _ _ (pyIter _) _ _ _) | (with_reducible show wpAny _ _ (call (Value.builtin "dict.get") _) _ _ _))); walk1)
          refine kmk_slice_ints (s := ⟨_, s.gens, s.drawn, _, s.os⟩) (l := la) (c := ((lineOf k).drop 1).length) F N (News.isList N (show (la, listOf lvs.toArray lep) ∈ _ from by first | ((repeat first | exact List.mem_cons_self .. | refine List.mem_cons_of_mem _ ?_); done) | ((repeat first | exact List.forall_mem_nil _ | refine List.forall_mem_cons.2 ⟨by first | ((repeat first | exact List.mem_cons_self .. | refine List.mem_cons_of_mem _ ?_); done) | simp, ?_⟩); done) | simp)) (.int _ _) .none hIl (kmk_from hIl (by decide)) rfl ?_ (by with_unfolding_all rfl) (fun _ => rfl) (by rw [List.size_toArray, PySem.sizeLine_eq]; (first | decide | with_reducible assumption | with_reducible exact Nat.le_trans (by assumption) (by decide) | with_reducible exact Nat.lt_of_lt_of_le (Nat.add_lt_add_right (by assumption) _) (by decide) | with_reducible exact Int.natCast_nonneg _ | omega))
          intro D4 ws4 h11 F11 N11 l11 hIw4 _ hwl4
          clear F N
          have nD4 : D4 ≠ dx := by have := l11 (dx, ox) (by first | ((repeat first | exact List.mem_cons_self .. | refine List.mem_cons_of_mem _ ?_); done) | ((repeat first | exact List.forall_mem_nil _ | refine List.forall_mem_cons.2 ⟨by first | ((repeat first | exact List.mem_cons_self .. | refine List.mem_cons_of_mem _ ?_); done) | simp, ?_⟩); done) | simp); exact Nat.ne_of_gt this
          refine for_list (vs := ws4) hA (News.isList N11 (List.mem_cons_self ..)) (.inr ⟨_, List.mem_cons_self ..⟩) (nx₀ := [(dx, ox)]) (keep := [(D4, listOf ws4.toArray 0), (L + 1, oc'), (ll, listOf #[Value.ref d0, .ref d1, .ref d2] 0), (la, listOf lvs.toArray lep), (dy, oy), (dz, oz), (I, oI)]) F11 (by refine News.sub N11 ?_; (first | ((repeat first | exact List.mem_cons_self .. | refine List.mem_cons_of_mem _ ?_); done) | ((repeat first | exact List.forall_mem_nil _ | refine List.forall_mem_cons.2 ⟨by first | ((repeat first | exact List.mem_cons_self .. | refine List.mem_cons_of_mem _ ?_); done) | simp, ?_⟩); done) | simp))
            (fun i' m nx => Has m [("line", .ref la), ("number", .int n tn), ("layers", .ref ll)] ∧ ∃ o c, nx = [(dx, o)] ∧ DObj prog w dx o c ∧ c.length ≤ 100 * i + i' ∧ PWF k (((lineOf k).drop 1).drop i') c) ?_ ?_ ?_
          · exact ⟨⟨rfl, rfl, rfl, trivial⟩, ox, cx, rfl, Dx, by (first | decide | with_reducible assumption | with_reducible exact Nat.le_trans (by assumption) (by decide) | with_reducible exact Nat.lt_of_lt_of_le (Nat.add_lt_add_right (by assumption) _) (by decide) | with_reducible exact Int.natCast_nonneg _ | omega), by simpa using P0⟩
          · clear F11 N11
            rintro I' i' v m₁ nx h tk oI' hv ⟨hm, o, c, rfl, Dc, hcl, P⟩ hne F N
            obtain ⟨x, hxi⟩ : ∃ x, ((lineOf k).drop (Int.toNat 1))[i']? = some x := ⟨((lineOf k).drop (Int.toNat 1))[i']'(by rw [← hIw4.length]; exact (List.getElem?_eq_some_iff.mp hv).1), List.getElem?_eq_getElem _⟩
            obtain ⟨tx, htx⟩ := hIw4.get i' x hxi
            obtain rfl : v = .int x tx := by rw [hv] at htx; exact Option.some.inj htx
            have hx1 : ((lineOf k).drop 1)[i']? = some x := hxi
            have hdr : ((lineOf k).drop 1).drop i' = x :: ((lineOf k).drop 1).drop (i' + 1) := by
              obtain ⟨hlt, e⟩ := List.getElem?_eq_some_iff.mp hx1
              rw [List.drop_eq_getElem_cons hlt, e]
            have hil : i' < 4 := by have := (List.getElem?_eq_some_iff.mp hv).1; have := hIw4.length; have := hIl.length; (first | decide | with_reducible assumption | with_reducible exact Nat.le_trans (by assumption) (by decide) | with_reducible exact Nat.lt_of_lt_of_le (Nat.add_lt_add_right (by assumption) _) (by decide) | with_reducible exact Int.natCast_nonneg _ | omega)
            rw [hdr] at P
            replace F : Fr g L h _ := Fr.over (ps := [("spot", .int x tx), ("line", .ref la), ("number", .int n tn), ("layers", .ref ll)]) F ⟨rfl, hm.1, hm.2.1, hm.2.2.1, trivial⟩
            replace N : News g L h [(dx, o), (D4, listOf ws4.toArray 0), (L + 1, oc'), (ll, listOf #[Value.ref d0, .ref d1, .ref d2] 0), (la, listOf lvs.toArray lep), (dy, oy), (dz, oz), (I, oI), (I', oI')] := N
            dsimp only [over] at F
            repeat ((try dsimp only [WPost, Turn]); (fail_if_success (first | (with_reducible show wpAny _ _ (exec (Stmt.While _ _ _ _) _) _ _ _) | (with_reducible show wpAny _ _ (exec (Stmt.For _ _ _ _ _) _) _ _ _) | (with_reducible show wpAny _ _ (call (Value.ref _) _ _) _ _ _) | (with_reducible show wpAny _ _ (eval (Expr.ListComp _ _ _ _) _) _ _ _) | (with_reducible show wpAny _ _ (exec (Stmt.Assign _ (Expr.ListComp _ _ _ _) _) _) _ _ _) | (with_reducible show wpAny _ _ (subscriptTail _ _ (Value.ref _) _) _ _ _) | (with_reducible show wpAny _ _ (compareOp CmpOp.NotIn _ _) _ _ _) | (with_reducible show wpAny _ _ (compareOp CmpOp.Eq (Value.ref _) (Value.ref _)) _ _ _) | (with_reducible show wpAny _ _ (setItem _ _ _) _ _ _) | (with_reducible show wpAny _ _ (storeName _ (Str.ofString "layer") _) _ _ _) | (with_reducible show wpAny _ _ (eval (Expr.Name (Str.ofString "layer") _) _) _ _ _) | (with_reducible show wpAny _ _ (getMethod _ _ _) _ _ _) | (with_reducible show wpAny _ _ (pyIter _) _ _ _) | (with_reducible show wpAny _ _ (call (Value.builtin "dict.get") _) _ _ _))); walk1)
            refine nameX_C N rfl (show (L + 1, oc') ∈ _ from by first | ((repeat first | exact List.mem_cons_self .. | refine List.mem_cons_of_mem _ ?_); done) | ((repeat first | exact List.forall_mem_nil _ | refine List.forall_mem_cons.2 ⟨by first | ((repeat first | exact List.mem_cons_self .. | refine List.mem_cons_of_mem _ ?_); done) | simp, ?_⟩); done) | simp) hoc' ?_
            repeat ((try dsimp only [WPost, Turn]); (fail_if_success (first | (with_reducible show wpAny _ _ (exec (Stmt.While _ _ _ _) _) _ _ _) | (with_reducible show wpAny _ _ (exec (Stmt.For _ _ _ _ _) _) _ _ _) | (with_reducible show wpAny _ _ (call (Value.ref _) _ _) _ _ _) | (with_reducible show wpAny _ _ (eval (Expr.ListComp _ _ _ _) _) _ _ _) | (with_reducible show wpAny _ _ (exec (Stmt.Assign _ (Expr.ListComp _ _ _ _) _) _) _ _ _) | (with_reducible show wpAny _ _ (subscriptTail _ _ (Value.ref _) _) _ _ _) | (with_reducible show wpAny _ _ (compareOp CmpOp.NotIn _ _) _ _ _) | (with_reducible show wpAny _ _ (compareOp CmpOp.Eq (Value.ref _) (Value.ref _)) _ _ _) | (with_reducible show wpAny _ _ (setItem _ _ _) _ _ _) | (with_reducible show wpAny _ _ (storeName _ (Str.ofString "layer") _) _ _ _) | (with_reducible show wpAny _ _ (eval (Expr.Name (Str.ofString "layer") _) _) _ _ _) | (with_reducible show wpAny _ _ (getMethod _ _ _) _ _ _) | (with_reducible show wpAny _ _ (pyIter _) _ _ _) | (with_reducible show wpAny _ _ (call (Value.builtin "dict.get") _) _ _ _))); walk1)
            refine getMethod_intTab_get (Dc.tab (N (dx, o) (by first | ((repeat first | exact List.mem_cons_self .. | refine List.mem_cons_of_mem _ ?_); done) | ((repeat first | exact List.forall_mem_nil _ | refine List.forall_mem_cons.2 ⟨by first | ((repeat first | exact List.mem_cons_self .. | refine List.mem_cons_of_mem _ ?_); done) | simp, ?_⟩); done) | simp)).1) ?_
            repeat ((try dsimp only [WPost, Turn]); (fail_if_success (first | (with_reducible show wpAny _ _ (exec (Stmt.While _ _ _ _) _) _ _ _) | (with_reducible show wpAny _ _ (exec (Stmt.For _ _ _ _ _) _) _ _ _) | (with_reducible show wpAny _ _ (call (Value.ref _) _ _) _ _ _) | (with_reducible show wpAny _ _ (eval (Expr.ListComp _ _ _ _) _) _ _ _) | (with_reducible show wpAny _ _ (exec (Stmt.Assign _ (Expr.ListComp _ _ _ _) _) _) _ _ _) | (with_reducible show wpAny _ _ (subscriptTail _ _ (Value.ref _) _) _ _ _) | (with_reducible show wpAny _ _ (compareOp CmpOp.NotIn _ _) _ _ _) | (with_reducible show wpAny _ _ (compareOp CmpOp.Eq (Value.ref _) (Value.ref _)) _ _ _) | (with_reducible show wpAny _ _ (setItem _ _ _) _ _ _) | (with_reducible show wpAny _ _ (storeName _ (Str.ofString "layer") _) _ _ _) | (with_reducible show wpAny _ _ (eval (Expr.Name (Str.ofString "layer") _) _) _ _ _) | (with_reducible show wpAny _ _ (getMethod _ _ _) _ _ _) | (with_reducible show wpAny _ _ (pyIter _) _ _ _) | (with_reducible show wpAny _ _ (call (Value.builtin "dict.get") _) _ _ _))); walk1)
            refine kdf_get2 (Dc.tab (N (dx, o) (by first | ((repeat first | exact List.mem_cons_self .. | refine List.mem_cons_of_mem _ ?_); done) | ((repeat first | exact List.forall_mem_nil _ | refine List.forall_mem_cons.2 ⟨by first | ((repeat first | exact List.mem_cons_self .. | refine List.mem_cons_of_mem _ ?_); done) | simp, ?_⟩); done) | simp)).1) fun t'' => ?_
            repeat ((try dsimp only [WPost, Turn]); (fail_if_success (first | (with_reducible show wpAny _ _ (exec (Stmt.While _ _ _ _) _) _ _ _) | (with_reducible show wpAny _ _ (exec (Stmt.For _ _ _ _ _) _) _ _ _) | (with_reducible show wpAny _ _ (call (Value.ref _) _ _) _ _ _) | (with_reducible show wpAny _ _ (eval (Expr.ListComp _ _ _ _) _) _ _ _) | (with_reducible show wpAny _ _ (exec (Stmt.Assign _ (Expr.ListComp _ _ _ _) _) _) _ _ _) | (with_reducible show wpAny _ _ (subscriptTail _ _ (Value.ref _) _) _ _ _) | (with_reducible show wpAny _ _ (compareOp CmpOp.NotIn _ _) _ _ _) | (with_reducible show wpAny _ _ (compareOp CmpOp.Eq (Value.ref _) (Value.ref _)) _ _ _) | (with_reducible show wpAny _ _ (setItem _ _ _) _ _ _) | (with_reducible show wpAny _ _ (storeName _ (Str.ofString "layer") _) _ _ _) | (with_reducible show wpAny _ _ (eval (Expr.Name (Str.ofString "layer") _) _) _ _ _) | (with_reducible show wpAny _ _ (getMethod _ _ _) _ _ _) | (with_reducible show wpAny _ _ (pyIter _) _ _ _) | (with_reducible show wpAny _ _ (call (Value.builtin "dict.get") _) _ _ _))); walk1)
            refine nameX_C N rfl (show (L + 1, oc') ∈ _ from by first | ((repeat first | exact List.mem_cons_self .. | refine List.mem_cons_of_mem _ ?_); done) | ((repeat first | exact List.forall_mem_nil _ | refine List.forall_mem_cons.2 ⟨by first | ((repeat first | exact List.mem_cons_self .. | refine List.mem_cons_of_mem _ ?_); done) | simp, ?_⟩); done) | simp) hoc' ?_
            repeat ((try dsimp only [WPost, Turn]); (fail_if_success (first | (with_reducible show wpAny _ _ (exec (Stmt.While _ _ _ _) _) _ _ _) | (with_reducible show wpAny _ _ (exec (Stmt.For _ _ _ _ _) _) _ _ _) | (with_reducible show wpAny _ _ (call (Value.ref _) _ _) _ _ _) | (with_reducible show wpAny _ _ (eval (Expr.ListComp _ _ _ _) _) _ _ _) | (with_reducible show wpAny _ _ (exec (Stmt.Assign _ (Expr.ListComp _ _ _ _) _) _) _ _ _) | (with_reducible show wpAny _ _ (subscriptTail _ _ (Value.ref _) _) _ _ _) | (with_reducible show wpAny _ _ (compareOp CmpOp.NotIn _ _) _ _ _) | (with_reducible show wpAny _ _ (compareOp CmpOp.Eq (Value.ref _) (Value.ref _)) _ _ _) | (with_reducible show wpAny _ _ (setItem _ _ _) _ _ _) | (with_reducible show wpAny _ _ (storeName _ (Str.ofString "layer") _) _ _ _) | (with_reducible show wpAny _ _ (eval (Expr.Name (Str.ofString "layer") _) _) _ _ _) | (with_reducible show wpAny _ _ (getMethod _ _ _) _ _ _) | (with_reducible show wpAny _ _ (pyIter _) _ _ _) | (with_reducible show wpAny _ _ (call (Value.builtin "dict.get") _) _ _ _))); walk1)
            obtain ⟨lox, kvs, hkv, hfl⟩ := id Dc
            refine kdf_setItem F N (.head ?_) hkv hfl (by (first | decide | with_reducible assumption | with_reducible exact Nat.le_trans (by assumption) (by decide) | with_reducible exact Nat.lt_of_lt_of_le (Nat.add_lt_add_right (by assumption) _) (by decide) | with_reducible exact Int.natCast_nonneg _ | omega)) ?_
            · intro p hp
              have hneI' := hne (dx, o) (by first | ((repeat first | exact List.mem_cons_self .. | refine List.mem_cons_of_mem _ ?_); done) | ((repeat first | exact List.forall_mem_nil _ | refine List.forall_mem_cons.2 ⟨by first | ((repeat first | exact List.mem_cons_self .. | refine List.mem_cons_of_mem _ ?_); done) | simp, ?_⟩); done) | simp)
              rcases List.mem_cons.mp hp with rfl | hp
              · exact nD4
              rcases List.mem_cons.mp hp with rfl | hp
              · exact Nat.ne_of_lt nlt.1
              rcases List.mem_cons.mp hp with rfl | hp
              · exact Nat.ne_of_gt nlt.2
              rcases List.mem_cons.mp hp with rfl | hp
              · exact nla.1
              rcases List.mem_cons.mp hp with rfl | hp
              · exact ny
              rcases List.mem_cons.mp hp with rfl | hp
              · exact nz
              rcases List.mem_cons.mp hp with rfl | hp
              · exact nI.2.1
              rw [List.mem_singleton.mp hp]; exact hneI'.symm
            intro h12 o12 kvs12 F12 N12 hkv12 hfl12
            clear F N
            dsimp only
            repeat ((try dsimp only [WPost, Turn]); (fail_if_success (first | (with_reducible show wpAny _ _ (exec (Stmt.While _ _ _ _) _) _ _ _) | (with_reducible show wpAny _ _ (exec (Stmt.For _ _ _ _ _) _) _ _ _) | (with_reducible show wpAny _ _ (call (Value.ref _) _ _) _ _ _) | (with_reducible show wpAny _ _ (eval (Expr.ListComp _ _ _ _) _) _ _ _) | (with_reducible show wpAny _ _ (exec (Stmt.Assign _ (Expr.ListComp _ _ _ _) _) _) _ _ _) | (with_reducible show wpAny _ _ (subscriptTail _ _ (Value.ref _) _) _ _ _) | (with_reducible show wpAny _ _ (compareOp CmpOp.NotIn _ _) _ _ _) | (with_reducible show wpAny _ _ (compareOp CmpOp.Eq (Value.ref _) (Value.ref _)) _ _ _) | (with_reducible show wpAny _ _ (setItem _ _ _) _ _ _) | (with_reducible show wpAny _ _ (storeName _ (Str.ofString "layer") _) _ _ _) | (with_reducible show wpAny _ _ (eval (Expr.Name (Str.ofString "layer") _) _) _ _ _) | (with_reducible show wpAny _ _ (getMethod _ _ _) _ _ _) | (with_reducible show wpAny _ _ (pyIter _) _ _ _) | (with_reducible show wpAny _ _ (call (Value.builtin "dict.get") _) _ _ _))); walk1)
            have := kdfPut_len c x (kdfLook c x 16877)
            refine TEnd.intro (s := ⟨_, _, _, _, _⟩) [(dx, o12)] F12 N12 (by first | ((repeat first | exact List.mem_cons_self .. | refine List.mem_cons_of_mem _ ?_); done) | ((repeat first | exact List.forall_mem_nil _ | refine List.forall_mem_cons.2 ⟨by first | ((repeat first | exact List.mem_cons_self .. | refine List.mem_cons_of_mem _ ?_); done) | simp, ?_⟩); done) | simp) (by first | ((repeat first | exact List.mem_cons_self .. | refine List.mem_cons_of_mem _ ?_); done) | ((repeat first | exact List.forall_mem_nil _ | refine List.forall_mem_cons.2 ⟨by first | ((repeat first | exact List.mem_cons_self .. | refine List.mem_cons_of_mem _ ?_); done) | simp, ?_⟩); done) | simp) (by first | ((repeat first | exact List.mem_cons_self .. | refine List.mem_cons_of_mem _ ?_); done) | ((repeat first | exact List.forall_mem_nil _ | refine List.forall_mem_cons.2 ⟨by first | ((repeat first | exact List.mem_cons_self .. | refine List.mem_cons_of_mem _ ?_); done) | simp, ?_⟩); done) | simp) ?_ ⟨⟨rfl, rfl, rfl, trivial⟩, o12, _, rfl, ⟨lox, _, hkv12, hfl12⟩, by (first | decide | with_reducible assumption | with_reducible exact Nat.le_trans (by assumption) (by decide) | with_reducible exact Nat.lt_of_lt_of_le (Nat.add_lt_add_right (by assumption) _) (by decide) | with_reducible exact Int.natCast_nonneg _ | omega), P.step⟩
            intro p hp; rw [List.mem_singleton.mp hp]; exact hne (dx, o) (by first | ((repeat first | exact List.mem_cons_self .. | refine List.mem_cons_of_mem _ ?_); done) | ((repeat first | exact List.forall_mem_nil _ | refine List.forall_mem_cons.2 ⟨by first | ((repeat first | exact List.mem_cons_self .. | refine List.mem_cons_of_mem _ ?_); done) | simp, ?_⟩); done) | simp)
          · clear F11 N11
            rintro m' nx h tk ⟨hm, o, c, rfl, Dc, hcl, P⟩ F N
            have hwl4' : ws4.length = ((lineOf k).drop 1).length := hIw4.length
            have hws4 : ws4.length ≤ 4 := by rw [hwl4', List.length_drop, ← hIl.length]; (first | decide | with_reducible assumption | with_reducible exact Nat.le_trans (by assumption) (by decide) | with_reducible exact Nat.lt_of_lt_of_le (Nat.add_lt_add_right (by assumption) _) (by decide) | with_reducible exact Int.natCast_nonneg _ | omega)
            rw [hwl4', List.drop_length] at P
            replace F : Fr g L h _ := Fr.over (ps := [("line", .ref la), ("number", .int n tn), ("layers", .ref ll)]) F ⟨hm.1, hm.2.1, hm.2.2.1, trivial⟩
            replace N : News g L h [(dx, o), (D4, listOf ws4.toArray 0), (L + 1, oc'), (ll, listOf #[Value.ref d0, .ref d1, .ref d2] 0), (la, listOf lvs.toArray lep), (dy, oy), (dz, oz), (I, oI)] := N
            dsimp only [over] at F
            repeat ((try dsimp only [WPost, Turn]); (fail_if_success (first | (with_reducible show wpAny _ _ (exec (Stmt.While _ _ _ _) _) _ _ _) | (with_reducible show wpAny _ _ (exec (Stmt.For _ _ _ _ _) _) _ _ _) | (with_reducible show wpAny _ _ (call (Value.ref _) _ _) _ _ _) | (with_reducible show wpAny _ _ (eval (Expr.ListComp _ _ _ _) _) _ _ _) | (with_reducible show wpAny _ _ (exec (Stmt.Assign _ (Expr.ListComp _ _ _ _) _) _) _ _ _) | (with_reducible show wpAny _ _ (subscriptTail _ _ (Value.ref _) _) _ _ _) | (with_reducible show wpAny _ _ (compareOp CmpOp.NotIn _ _) _ _ _) | (with_reducible show wpAny _ _ (compareOp CmpOp.Eq (Value.ref _) (Value.ref _)) _ _ _) | (with_reducible show wpAny _ _ (setItem _ _ _) _ _ _) | (with_reducible show wpAny _ _ (storeName _ (Str.ofString "layer") _) _ _ _) | (with_reducible show wpAny _ _ (eval (Expr.Name (Str.ofString "layer") _) _) _ _ _) | (with_reducible show wpAny _ _ (getMethod _ _ _) _ _ _) | (with_reducible show wpAny _ _ (pyIter _) _ _ _) | (with_reducible show wpAny _ _ (call (Value.builtin "dict.get") _) _ _ _))); walk1)
            have hq0 : 0 ≤ (n.fdiv 42).fmod 4 := by rw [Int.fmod_eq_emod_of_nonneg _ (by decide)]; (first | decide | with_reducible assumption | with_reducible exact Nat.le_trans (by assumption) (by decide) | with_reducible exact Nat.lt_of_lt_of_le (Nat.add_lt_add_right (by assumption) _) (by decide) | with_reducible exact Int.natCast_nonneg _ | omega)
            have hq4 : (n.fdiv 42).fmod 4 < 4 := by rw [Int.fmod_eq_emod_of_nonneg _ (by decide)]; (first | decide | with_reducible assumption | with_reducible exact Nat.le_trans (by assumption) (by decide) | with_reducible exact Nat.lt_of_lt_of_le (Nat.add_lt_add_right (by assumption) _) (by decide) | with_reducible exact Int.natCast_nonneg _ | omega)
            have hr0 : 0 ≤ (n.fdiv 168).fmod 512 := by rw [Int.fmod_eq_emod_of_nonneg _ (by decide)]; (first | decide | with_reducible assumption | with_reducible exact Nat.le_trans (by assumption) (by decide) | with_reducible exact Nat.lt_of_lt_of_le (Nat.add_lt_add_right (by assumption) _) (by decide) | with_reducible exact Int.natCast_nonneg _ | omega)
            have hr5 : (n.fdiv 168).fmod 512 < 512 := by rw [Int.fmod_eq_emod_of_nonneg _ (by decide)]; (first | decide | with_reducible assumption | with_reducible exact Nat.le_trans (by assumption) (by decide) | with_reducible exact Nat.lt_of_lt_of_le (Nat.add_lt_add_right (by assumption) _) (by decide) | with_reducible exact Int.natCast_nonneg _ | omega)
            rename Fr g L _ _ => F
            rename News g L _ _ => N
            refine kba_turn (value' := Expr.Name (Str.ofString "_") ⟨0, 0, 0, 0⟩) (fun _ => by with_unfolding_all rfl) ?_
            refine kim_tup4 N (List.mem_cons_self ..) rfl rfl hq0 hq4 fun kd tkd hkd => ?_
            repeat ((try dsimp only [WPost, Turn]); (fail_if_success (first | (with_reducible show wpAny _ _ (exec (Stmt.While _ _ _ _) _) _ _ _) | (with_reducible show wpAny _ _ (exec (Stmt.For _ _ _ _ _) _) _ _ _) | (with_reducible show wpAny _ _ (call (Value.ref _) _ _) _ _ _) | (with_reducible show wpAny _ _ (eval (Expr.ListComp _ _ _ _) _) _ _ _) | (with_reducible show wpAny _ _ (exec (Stmt.Assign _ (Expr.ListComp _ _ _ _) _) _) _ _ _) | (with_reducible show wpAny _ _ (subscriptTail _ _ (Value.ref _) _) _ _ _) | (with_reducible show wpAny _ _ (compareOp CmpOp.NotIn _ _) _ _ _) | (with_reducible show wpAny _ _ (compareOp CmpOp.Eq (Value.ref _) (Value.ref _)) _ _ _) | (with_reducible show wpAny _ _ (setItem _ _ _) _ _ _) | (with_reducible show wpAny _ _ (storeName _ (Str.ofString "layer") _) _ _ _) | (with_reducible show wpAny _ _ (eval (Expr.Name (Str.ofString "layer") _) _) _ _ _) | (with_reducible show wpAny _ _ (getMethod _ _ _) _ _ _) | (with_reducible show wpAny _ _ (pyIter _) _ _ _) | (with_reducible show wpAny _ _ (call (Value.builtin "dict.get") _) _ _ _))); walk1)
            refine nameX_C N rfl (show (L + 1, oc') ∈ _ from by first | ((repeat first | exact List.mem_cons_self .. | refine List.mem_cons_of_mem _ ?_); done) | ((repeat first | exact List.forall_mem_nil _ | refine List.forall_mem_cons.2 ⟨by first | ((repeat first | exact List.mem_cons_self .. | refine List.mem_cons_of_mem _ ?_); done) | simp, ?_⟩); done) | simp) hoc' ?_
            repeat ((try dsimp only [WPost, Turn]); (fail_if_success (first | (with_reducible show wpAny _ _ (exec (Stmt.While _ _ _ _) _) _ _ _) | (with_reducible show wpAny _ _ (exec (Stmt.For _ _ _ _ _) _) _ _ _) | (with_reducible show wpAny _ _ (call (Value.ref _) _ _) _ _ _) | (with_reducible show wpAny _ _ (eval (Expr.ListComp _ _ _ _) _) _ _ _) | (with_reducible show wpAny _ _ (exec (Stmt.Assign _ (Expr.ListComp _ _ _ _) _) _) _ _ _) | (with_reducible show wpAny _ _ (subscriptTail _ _ (Value.ref _) _) _ _ _) | (with_reducible show wpAny _ _ (compareOp CmpOp.NotIn _ _) _ _ _) | (with_reducible show wpAny _ _ (compareOp CmpOp.Eq (Value.ref _) (Value.ref _)) _ _ _) | (with_reducible show wpAny _ _ (setItem _ _ _) _ _ _) | (with_reducible show wpAny _ _ (storeName _ (Str.ofString "layer") _) _ _ _) | (with_reducible show wpAny _ _ (eval (Expr.Name (Str.ofString "layer") _) _) _ _ _) | (with_reducible show wpAny _ _ (getMethod _ _ _) _ _ _) | (with_reducible show wpAny _ _ (pyIter _) _ _ _) | (with_reducible show wpAny _ _ (call (Value.builtin "dict.get") _) _ _ _))); walk1)
            refine kim_list N (show (la, listOf lvs.toArray lep) ∈ _ from by first | ((repeat first | exact List.mem_cons_self .. | refine List.mem_cons_of_mem _ ?_); done) | ((repeat first | exact List.forall_mem_nil _ | refine List.forall_mem_cons.2 ⟨by first | ((repeat first | exact List.mem_cons_self .. | refine List.mem_cons_of_mem _ ?_); done) | simp, ?_⟩); done) | simp) rfl rfl (by decide) (by decide) hl0 ?_
            repeat ((try dsimp only [WPost, Turn]); (fail_if_success (first | (with_reducible show wpAny _ _ (exec (Stmt.While _ _ _ _) _) _ _ _) | (with_reducible show wpAny _ _ (exec (Stmt.For _ _ _ _ _) _) _ _ _) | (with_reducible show wpAny _ _ (call (Value.ref _) _ _) _ _ _) | (with_reducible show wpAny _ _ (eval (Expr.ListComp _ _ _ _) _) _ _ _) | (with_reducible show wpAny _ _ (exec (Stmt.Assign _ (Expr.ListComp _ _ _ _) _) _) _ _ _) | (with_reducible show wpAny _ _ (subscriptTail _ _ (Value.ref _) _) _ _ _) | (with_reducible show wpAny _ _ (compareOp CmpOp.NotIn _ _) _ _ _) | (with_reducible show wpAny _ _ (compareOp CmpOp.Eq (Value.ref _) (Value.ref _)) _ _ _) | (with_reducible show wpAny _ _ (setItem _ _ _) _ _ _) | (with_reducible show wpAny _ _ (storeName _ (Str.ofString "layer") _) _ _ _) | (with_reducible show wpAny _ _ (eval (Expr.Name (Str.ofString "layer") _) _) _ _ _) | (with_reducible show wpAny _ _ (getMethod _ _ _) _ _ _) | (with_reducible show wpAny _ _ (pyIter _) _ _ _) | (with_reducible show wpAny _ _ (call (Value.builtin "dict.get") _) _ _ _))); walk1)
            have hneT := News.neI (News.sub (news' := [(dx, o)]) (by rename News g L h _ => N0; exact N0) (by first | ((repeat first | exact List.mem_cons_self .. | refine List.mem_cons_of_mem _ ?_); done) | ((repeat first | exact List.forall_mem_nil _ | refine List.forall_mem_cons.2 ⟨by first | ((repeat first | exact List.mem_cons_self .. | refine List.mem_cons_of_mem _ ?_); done) | simp, ?_⟩); done) | simp)) (dx, o) (by first | ((repeat first | exact List.mem_cons_self .. | refine List.mem_cons_of_mem _ ?_); done) | ((repeat first | exact List.forall_mem_nil _ | refine List.forall_mem_cons.2 ⟨by first | ((repeat first | exact List.mem_cons_self .. | refine List.mem_cons_of_mem _ ?_); done) | simp, ?_⟩); done) | simp)
            obtain ⟨lox, kvs, hkv, hfl⟩ := id Dc
            refine kdf_setItem F N (.tail hneT.symm (.head ?_)) hkv hfl (by (first | decide | with_reducible assumption | with_reducible exact Nat.le_trans (by assumption) (by decide) | with_reducible exact Nat.lt_of_lt_of_le (Nat.add_lt_add_right (by assumption) _) (by decide) | with_reducible exact Int.natCast_nonneg _ | omega)) ?_
            · intro p hp
              rcases List.mem_cons.mp hp with rfl | hp
              · exact nD4
              rcases List.mem_cons.mp hp with rfl | hp
              · exact Nat.ne_of_lt nlt.1
              rcases List.mem_cons.mp hp with rfl | hp
              · exact Nat.ne_of_gt nlt.2
              rcases List.mem_cons.mp hp with rfl | hp
              · exact nla.1
              rcases List.mem_cons.mp hp with rfl | hp
              · exact ny
              rcases List.mem_cons.mp hp with rfl | hp
              · exact nz
              rw [List.mem_singleton.mp hp]; exact nI.2.1
            intro h12 o12 kvs12 F12 N12 hkv12 hfl12
            clear F N
            dsimp only
            repeat ((try dsimp only [WPost, Turn]); (fail_if_success (first | (with_reducible show wpAny _ _ (exec (Stmt.While _ _ _ _) _) _ _ _) | (with_reducible show wpAny _ _ (exec (Stmt.For _ _ _ _ _) _) _ _ _) | (with_reducible show wpAny _ _ (call (Value.ref _) _ _) _ _ _) | (with_reducible show wpAny _ _ (eval (Expr.ListComp _ _ _ _) _) _ _ _) | (with_reducible show wpAny _ _ (exec (Stmt.Assign _ (Expr.ListComp _ _ _ _) _) _) _ _ _) | (with_reducible show wpAny _ _ (subscriptTail _ _ (Value.ref _) _) _ _ _) | (with_reducible show wpAny _ _ (compareOp CmpOp.NotIn _ _) _ _ _) | (with_reducible show wpAny _ _ (compareOp CmpOp.Eq (Value.ref _) (Value.ref _)) _ _ _) | (with_reducible show wpAny _ _ (setItem _ _ _) _ _ _) | (with_reducible show wpAny _ _ (storeName _ (Str.ofString "layer") _) _ _ _) | (with_reducible show wpAny _ _ (eval (Expr.Name (Str.ofString "layer") _) _) _ _ _) | (with_reducible show wpAny _ _ (getMethod _ _ _) _ _ _) | (with_reducible show wpAny _ _ (pyIter _) _ _ _) | (with_reducible show wpAny _ _ (call (Value.builtin "dict.get") _) _ _ _))); walk1)
            have hpl := kdfPut_len c k (kd * 4096 + (n.fdiv 168).fmod 512)
            obtain ⟨o0', c0', o1', c1', o2', c2', hb3, E0, E1, E2⟩ := close o12 _ (100 * (i + 1)) ⟨lox, _, hkv12, hfl12⟩ (P.last hk1 hk14 ⟨kd, _, hkd, hr0, hr5, rfl⟩) (by (first | decide | with_reducible assumption | with_reducible exact Nat.le_trans (by assumption) (by decide) | with_reducible exact Nat.lt_of_lt_of_le (Nat.add_lt_add_right (by assumption) _) (by decide) | with_reducible exact Int.natCast_nonneg _ | omega)) (by (first | decide | with_reducible assumption | with_reducible exact Nat.le_trans (by assumption) (by decide) | with_reducible exact Nat.lt_of_lt_of_le (Nat.add_lt_add_right (by assumption) _) (by decide) | with_reducible exact Int.natCast_nonneg _ | omega))
            refine TEnd.intro (s := ⟨_, _, _, _, _⟩) [(L + 1, oc'), (ll, listOf #[Value.ref d0, .ref d1, .ref d2] 0), (d0, o0'), (d1, o1'), (d2, o2')] F12 N12 ?_ (by first | ((repeat first | exact List.mem_cons_self .. | refine List.mem_cons_of_mem _ ?_); done) | ((repeat first | exact List.forall_mem_nil _ | refine List.forall_mem_cons.2 ⟨by first | ((repeat first | exact List.mem_cons_self .. | refine List.mem_cons_of_mem _ ?_); done) | simp, ?_⟩); done) | simp) (by first | ((repeat first | exact List.mem_cons_self .. | refine List.mem_cons_of_mem _ ?_); done) | ((repeat first | exact List.forall_mem_nil _ | refine List.forall_mem_cons.2 ⟨by first | ((repeat first | exact List.mem_cons_self .. | refine List.mem_cons_of_mem _ ?_); done) | simp, ?_⟩); done) | simp) ?_ ⟨⟨rfl, trivial⟩, oc', _, o0', o1', o2', c0', c1', c2', rfl, hoc', E0, E1, E2⟩
            · intro p hp
              rcases List.mem_cons.mp hp with rfl | hp
              · (first | ((repeat first | exact List.mem_cons_self .. | refine List.mem_cons_of_mem _ ?_); done) | ((repeat first | exact List.forall_mem_nil _ | refine List.forall_mem_cons.2 ⟨by first | ((repeat first | exact List.mem_cons_self .. | refine List.mem_cons_of_mem _ ?_); done) | simp, ?_⟩); done) | simp)
              rcases List.mem_cons.mp hp with rfl | hp
              · (first | ((repeat first | exact List.mem_cons_self .. | refine List.mem_cons_of_mem _ ?_); done) | ((repeat first | exact List.forall_mem_nil _ | refine List.forall_mem_cons.2 ⟨by first | ((repeat first | exact List.mem_cons_self .. | refine List.mem_cons_of_mem _ ?_); done) | simp, ?_⟩); done) | simp)
              have := hb3 p hp
              simp only [List.mem_cons, List.not_mem_nil, or_false] at this ⊢
              rcases this with rfl | rfl | rfl <;> (first | ((repeat first | exact List.mem_cons_self .. | refine List.mem_cons_of_mem _ ?_); done) | ((repeat first | exact List.forall_mem_nil _ | refine List.forall_mem_cons.2 ⟨by first | ((repeat first | exact List.mem_cons_self .. | refine List.mem_cons_of_mem _ ?_); done) | simp, ?_⟩); done) | simp)
            · intro p hp
              rcases List.mem_cons.mp hp with rfl | hp
              · exact nI.1.symm
              rcases List.mem_cons.mp hp with rfl | hp
              · exact nI.2.2.1.symm
              have := hb3 p hp
              simp only [List.mem_cons, List.not_mem_nil, or_false] at this
              rcases this with rfl | rfl | rfl
              · exact nI.2.1.symm
              · exact nI.2.2.2.1.symm
              · exact nI.2.2.2.2.symm
        · rw [decide_eq_false hall]
          repeat ((try dsimp only [WPost, Turn]); (fail_if_success (first | (with_reducible show wpAny _ _ (exec (Stmt.While _ _ _ _) _) _ _ _) | (with_reducible show wpAny _ _ (exec (Stmt.For _ _ _ _ _) _) _ _ _) | (with_reducible show wpAny _ _ (call (Value.ref _) _ _) _ _ _) | (with_reducible show wpAny _ _ (eval (Expr.ListComp _ _ _ _) _) _ _ _) | (with_reducible show wpAny _ _ (exec (Stmt.Assign _ (Expr.ListComp _ _ _ _) _) _) _ _ _) | (with_reducible show wpAny _ _ (subscriptTail _ _ (Value.ref _) _) _ _ _) | (with_reducible show wpAny _ _ (compareOp CmpOp.NotIn _ _) _ _ _) | (with_reducible show wpAny _ _ (compareOp CmpOp.Eq (Value.ref _) (Value.ref _)) _ _ _) | (with_reducible show wpAny _ _ (setItem _ _ _) _ _ _) | (with_reducible show wpAny _ _ (storeName _ (Str.ofString "layer") _) _ _ _) | (with_reducible show wpAny _ _ (eval (Expr.Name (Str.ofString "layer") _) _) _ _ _) | (with_reducible show wpAny _ _ (getMethod _ _ _) _ _ _) | (with_reducible show wpAny _ _ (pyIter _) _ _ _) | (with_reducible show wpAny _ _ (call (Value.builtin "dict.get") _) _ _ _))); walk1)
          obtain ⟨o0', c0', o1', c1', o2', c2', hb3, E0, E1, E2⟩ := close ox cx (100 * (i + 1)) Dx Wx (by (first | decide | with_reducible assumption | with_reducible exact Nat.le_trans (by assumption) (by decide) | with_reducible exact Nat.lt_of_lt_of_le (Nat.add_lt_add_right (by assumption) _) (by decide) | with_reducible exact Int.natCast_nonneg _ | omega)) (by (first | decide | with_reducible assumption | with_reducible exact Nat.le_trans (by assumption) (by decide) | with_reducible exact Nat.lt_of_lt_of_le (Nat.add_lt_add_right (by assumption) _) (by decide) | with_reducible exact Int.natCast_nonneg _ | omega))
          refine TEnd.intro (s := ⟨_, _, _, _, _⟩) [(L + 1, oc'), (ll, listOf #[Value.ref d0, .ref d1, .ref d2] 0), (d0, o0'), (d1, o1'), (d2, o2')] F N ?_ (by first | ((repeat first | exact List.mem_cons_self .. | refine List.mem_cons_of_mem _ ?_); done) | ((repeat first | exact List.forall_mem_nil _ | refine List.forall_mem_cons.2 ⟨by first | ((repeat first | exact List.mem_cons_self .. | refine List.mem_cons_of_mem _ ?_); done) | simp, ?_⟩); done) | simp) (by first | ((repeat first | exact List.mem_cons_self .. | refine List.mem_cons_of_mem _ ?_); done) | ((repeat first | exact List.forall_mem_nil _ | refine List.forall_mem_cons.2 ⟨by first | ((repeat first | exact List.mem_cons_self .. | refine List.mem_cons_of_mem _ ?_); done) | simp, ?_⟩); done) | simp) ?_ ⟨⟨rfl, trivial⟩, oc', _, o0', o1', o2', c0', c1', c2', rfl, hoc', E0, E1, E2⟩
          · intro p hp
            rcases List.mem_cons.mp hp with rfl | hp
            · (first | ((repeat first | exact List.mem_cons_self .. | refine List.mem_cons_of_mem _ ?_); done) | ((repeat first | exact List.forall_mem_nil _ | refine List.forall_mem_cons.2 ⟨by first | ((repeat first | exact List.mem_cons_self .. | refine List.mem_cons_of_mem _ ?_); done) | simp, ?_⟩); done) | simp)
            rcases List.mem_cons.mp hp with rfl | hp
            · (first | ((repeat first | exact List.mem_cons_self .. | refine List.mem_cons_of_mem _ ?_); done) | ((repeat first | exact List.forall_mem_nil _ | refine List.forall_mem_cons.2 ⟨by first | ((repeat first | exact List.mem_cons_self .. | refine List.mem_cons_of_mem _ ?_); done) | simp, ?_⟩); done) | simp)
            have := hb3 p hp
            simp only [List.mem_cons, List.not_mem_nil, or_false] at this ⊢
            rcases this with rfl | rfl | rfl <;> (first | ((repeat first | exact List.mem_cons_self .. | refine List.mem_cons_of_mem _ ?_); done) | ((repeat first | exact List.forall_mem_nil _ | refine List.forall_mem_cons.2 ⟨by first | ((repeat first | exact List.mem_cons_self .. | refine List.mem_cons_of_mem _ ?_); done) | simp, ?_⟩); done) | simp)
          · intro p hp
            rcases List.mem_cons.mp hp with rfl | hp
            · exact nI.1.symm
            rcases List.mem_cons.mp hp with rfl | hp
            · exact nI.2.2.1.symm
            have := hb3 p hp
            simp only [List.mem_cons, List.not_mem_nil, or_false] at this
            rcases this with rfl | rfl | rfl
            · exact nI.2.1.symm
            · exact nI.2.2.2.1.symm
            · exact nI.2.2.2.2.symm
  · clear F N hoc hi0 fi0 hi1 fi1 hi2 fi2
    rintro m' nx h tk ⟨hm, oc, cv, o0, o1, o2, c0, c1, c2, rfl, hoc, D0, D1, D2⟩ F N
    replace F : Fr g L h _ := Fr.over (ps := [("layers", .ref ll)]) F ⟨hm.1, trivial⟩
    dsimp only [over] at F
    replace N : News g L h [(L + 1, oc), (ll, listOf #[Value.ref d0, .ref d1, .ref d2] 0), (d0, o0), (d1, o1), (d2, o2)] := N
    repeat ((try dsimp only [WPost, Turn]); (fail_if_success (first | (with_reducible show wpAny _ _ (exec (Stmt.While _ _ _ _) _) _ _ _) | (with_reducible show wpAny _ _ (exec (Stmt.For _ _ _ _ _) _) _ _ _) | (with_reducible show wpAny _ _ (call (Value.ref _) _ _) _ _ _) | (with_reducible show wpAny _ _ (eval (Expr.ListComp _ _ _ _) _) _ _ _) | (with_reducible show wpAny _ _ (exec (Stmt.Assign _ (Expr.ListComp _ _ _ _) _) _) _ _ _) | (with_reducible show wpAny _ _ (subscriptTail _ _ (Value.ref _) _) _ _ _) | (with_reducible show wpAny _ _ (compareOp CmpOp.NotIn _ _) _ _ _) | (with_reducible show wpAny _ _ (compareOp CmpOp.Eq (Value.ref _) (Value.ref _)) _ _ _) | (with_reducible show wpAny _ _ (setItem _ _ _) _ _ _) | (with_reducible show wpAny _ _ (storeName _ (Str.ofString "layer") _) _ _ _) | (with_reducible show wpAny _ _ (eval (Expr.Name (Str.ofString "layer") _) _) _ _ _) | (with_reducible show wpAny _ _ (getMethod _ _ _) _ _ _) | (with_reducible show wpAny _ _ (pyIter _) _ _ _) | (with_reducible show wpAny _ _ (call (Value.builtin "dict.get") _) _ _ _))); walk1)
    refine hR _ _ ll d0 d1 d2 o0 o1 o2 c0 c1 c2 (back _ F.keep) ?_ ⟨D0.1, D0.2.1⟩ ⟨D1.1, D1.2.1⟩ ⟨D2.1, D2.2.1⟩ ⟨l2.1, l3.1, l4.1⟩
    intro p hp
    have hp' : p ∈ [(L + 1, oc), (ll, listOf #[Value.ref d0, .ref d1, .ref d2] 0), (d0, o0), (d1, o1), (d2, o2)] := List.mem_cons_of_mem _ hp
    exact ⟨born_here (S := []) (fun b o _ e => hg b o e) N hp' (by first | ((repeat first | exact List.mem_cons_self .. | refine List.mem_cons_of_mem _ ?_); done) | ((repeat first | exact List.forall_mem_nil _ | refine List.forall_mem_cons.2 ⟨by first | ((repeat first | exact List.mem_cons_self .. | refine List.mem_cons_of_mem _ ?_); done) | simp, ?_⟩); done) | simp), (N _ hp').1⟩
end
end Mine
namespace Mine
open PySem PySem.W PySem.Calls PyProof.Rows PyProof.V
theorem pigeon : ∀ (N : Nat) (l : List Int), l.Nodup → (∀ x ∈ l, 1 ≤ x ∧ x ≤ (N : Int)) → l.length ≤ N
  | 0, l, _, h => by
    cases l with
    | nil => exact Nat.le_refl _
    | cons x r => have := h x (List.mem_cons_self ..); (first | decide | with_reducible assumption | with_reducible exact Nat.le_trans (by assumption) (by decide) | with_reducible exact Nat.lt_of_lt_of_le (Nat.add_lt_add_right (by assumption) _) (by decide) | with_reducible exact Int.natCast_nonneg _ | omega)
  | N + 1, l, hn, h => by
    have h1 := pigeon N (l.erase ((N : Int) + 1)) (hn.erase _) fun x hx => by
      obtain ⟨a, b⟩ := (hn.mem_erase_iff).mp hx
      have := h x b
      (first | decide | with_reducible assumption | with_reducible exact Nat.le_trans (by assumption) (by decide) | with_reducible exact Nat.lt_of_lt_of_le (Nat.add_lt_add_right (by assumption) _) (by decide) | with_reducible exact Int.natCast_nonneg _ | omega)
    have h2 : l.length ≤ (l.erase ((N : Int) + 1)).length + 1 := by
      rw [List.length_erase]
      split <;> (first | decide | with_reducible assumption | with_reducible exact Nat.le_trans (by assumption) (by decide) | with_reducible exact Nat.lt_of_lt_of_le (Nat.add_lt_add_right (by assumption) _) (by decide) | with_reducible exact Int.natCast_nonneg _ | omega)
    (first | decide | with_reducible assumption | with_reducible exact Nat.le_trans (by assumption) (by decide) | with_reducible exact Nat.lt_of_lt_of_le (Nat.add_lt_add_right (by assumption) _) (by decide) | with_reducible exact Int.natCast_nonneg _ | omega)
theorem WF.len {c : List (Int × Int)} (W : WF c) : c.length ≤ 14 := by
  have := pigeon 14 (c.map (·.1)) W.nodup fun x hx => by
    obtain ⟨p, hp, rfl⟩ := List.mem_map.mp hx
    exact W.key p hp
  simpa using this
/-- the three layers, as they lie in a heap -/
def LayAt (prog : Program) (w : World) (h : Heap) (ll : Addr) (c : Nat → List (Int × Int)) : Prop :=
  ∃ (d : Nat → Addr) (o : Nat → Obj), h.get? ll = some (listOf #[Value.ref (d 0), .ref (d 1), .ref (d 2)] 0) ∧ ∀ j, j < 3 → h.get? (d j) = some (o j) ∧ DObj prog w (d j) (o j) (c j) ∧ WF (c j)
theorem LayAt.keeps {prog : Program} {w : World} {h h' : Heap} {ll : Addr} {c : Nat → List (Int × Int)} (l : LayAt prog w h ll c) (k : ∀ b o, h.get? b = some o → h'.get? b = some o) : LayAt prog w h' ll c := by
  obtain ⟨d, o, a, b⟩ := l
  exact ⟨d, o, k _ _ a, fun j hj => ⟨k _ _ (b j hj).1, (b j hj).2⟩⟩
def rowsUpTo (c : Nat → List (Int × Int)) (i : Nat) : List (Int × Int × Int) := (List.range i).flatMap fun p => (c p).map fun q => ((p : Int), q.1, q.2)
theorem rowsUpTo_succ (c : Nat → List (Int × Int)) (i : Nat) : rowsUpTo c (i + 1) = rowsUpTo c i ++ (c i).map fun q => ((i : Int), q.1, q.2) := by
  unfold rowsUpTo
  rw [List.range_succ, List.flatMap_append]
  simp
theorem rowsUpTo_len {c : Nat → List (Int × Int)} : ∀ {i : Nat}, (∀ j, j < i → (c j).length ≤ 14) → (rowsUpTo c i).length ≤ 14 * i
  | 0, _ => by simp [rowsUpTo]
  | i + 1, h => by
    rw [rowsUpTo_succ, List.length_append, List.length_map]
    have := rowsUpTo_len (i := i) fun j hj => h j (by (first | decide | with_reducible assumption | with_reducible exact Nat.le_trans (by assumption) (by decide) | with_reducible exact Nat.lt_of_lt_of_le (Nat.add_lt_add_right (by assumption) _) (by decide) | with_reducible exact Int.natCast_nonneg _ | omega))
    have := h i (by (first | decide | with_reducible assumption | with_reducible exact Nat.le_trans (by assumption) (by decide) | with_reducible exact Nat.lt_of_lt_of_le (Nat.add_lt_add_right (by assumption) _) (by decide) | with_reducible exact Int.natCast_nonneg _ | omega))
    (first | decide | with_reducible assumption | with_reducible exact Nat.le_trans (by assumption) (by decide) | with_reducible exact Nat.lt_of_lt_of_le (Nat.add_lt_add_right (by assumption) _) (by decide) | with_reducible exact Int.natCast_nonneg _ | omega)
end Mine
namespace Mine
open PySem PySem.W PySem.Calls PyProof.Rows PyProof.V
theorem fillW1 : (PySem.Challenge.rw_pd0156_01 = PySem.Challenge.rw_pd0156_01) ∧ hd.heap_39 = hd.heap_39 := by
  k_fill
  exact ⟨rfl, rfl⟩
section
variable {prog : Program} {w : World} {A : Around} {R : Result → Shared → Prop} {s : Shared} {h₀ : Heap}

def detours : List Str := ["", ".", "a/..", ".."]
/-- a path as the rows spell it -/
def RowStr (x : Str) (k : Int) : Prop := ∃ d ∈ detours, x = jstep (jstep "/" d) (Txt.slice (textOf k) (some 1) none)
def tupOf (vs : List Value) : Obj := { cls := .type "tuple", data := .seq vs.toArray }
def RowObj (o : Obj) (r : Int × Int × Int) : Prop := ∃ x t1 t2 t3, o = tupOf [.str x t1, .int r.1 t2, .int r.2.2 t3] ∧ RowStr x r.2.1

theorem kim_tup_any {E : Value → Shared → Prop} {g : Heap} {L a : Addr} {news : List (Addr × Obj)} {lo : Obj} {n : Nat} {l : List Value} {k : Int} {u : Tok} {value slice : Expr} {Q : Value → Shared → Prop} (N : News g L s.heap news) (hm : (a, lo) ∈ news) (hc : lo.cls = .type "tuple") (hd : lo.data = .seq l.toArray n) (h0 : 0 ≤ k) (hk : k < l.length) (hf : l.length < 1000)
    (h : ∀ x ∈ l, Q x s)
    (hs : subscripted slice false (.ref a) (.int k u) = operate [.ref a, .int k u] (getItem (.ref a) (.int k u)) := by with_unfolding_all rfl) (hg : ∀ r, letTemporaryGo value (.ref a) r = pure () := by intro _; with_unfolding_all rfl) :
    wpAny (model prog w) A (subscriptTail value slice (.ref a) (.int k u)) Q E s := by
  have hlt : k.toNat < l.length := by (first | decide | with_reducible assumption | with_reducible exact Nat.le_trans (by assumption) (by decide) | with_reducible exact Nat.lt_of_lt_of_le (Nat.add_lt_add_right (by assumption) _) (by decide) | with_reducible exact Int.natCast_nonneg _ | omega)
  refine kim_tup N hm hc hd (by (first | decide | with_reducible assumption | with_reducible exact Nat.le_trans (by assumption) (by decide) | with_reducible exact Nat.lt_of_lt_of_le (Nat.add_lt_add_right (by assumption) _) (by decide) | with_reducible exact Int.natCast_nonneg _ | omega)) (by (first | decide | with_reducible assumption | with_reducible exact Nat.le_trans (by assumption) (by decide) | with_reducible exact Nat.lt_of_lt_of_le (Nat.add_lt_add_right (by assumption) _) (by decide) | with_reducible exact Int.natCast_nonneg _ | omega)) (j := k.toNat) (x := l[k.toNat]) ?_ (List.getElem?_eq_getElem hlt) (h _ (List.getElem_mem hlt)) hs hg
  unfold seqIndex?
  simp [show ¬ k < 0 by (first | decide | with_reducible assumption | with_reducible exact Nat.le_trans (by assumption) (by decide) | with_reducible exact Nat.lt_of_lt_of_le (Nat.add_lt_add_right (by assumption) _) (by decide) | with_reducible exact Int.natCast_nonneg _ | omega), h0, hk]
theorem text_slice_len {k : Int} (h0 : 1 ≤ k) (h1 : k ≤ 14) : (textOf k).length ≤ 1000 :=
  in14 (P := fun k => (textOf k).length ≤ 1000) (by decide +kernel) (Int.le_trans (by decide) h0) h1
theorem text_slice_len2 {k : Int} (h0 : 1 ≤ k) (h1 : k ≤ 14) : (Txt.slice (textOf k) (some 1) none).length ≤ 1000 :=
  in14 (P := fun k => (Txt.slice (textOf k) (some 1) none).length ≤ 1000) (by decide +kernel) (Int.le_trans (by decide) h0) h1
theorem det_len {d : Str} (h : d ∈ detours) : d.length ≤ 1000 := by
  simp only [detours, List.mem_cons, List.not_mem_nil, or_false] at h
  rcases h with rfl | rfl | rfl | rfl <;> decide
theorem flat_at {kvs : List (Int × Value)} {c : List (Int × Int)} (h : FlatPairs PyData.int kvs (kdfD c)) : kvs.length = c.length ∧ ∀ (i : Nat) (k : Int) (y : Value), kvs[i]? = some (k, y) → ∃ v, c[i]? = some (k, v) := by
  induction c generalizing kvs with
  | nil => cases h; exact ⟨rfl, by simp⟩
  | cons p c ih =>
    obtain ⟨a, b⟩ := p
    cases h with
    | cons hf hr =>
      obtain ⟨h1, h2⟩ := ih hr
      refine ⟨by simp [h1], fun i k y e => ?_⟩
      cases i with
      | zero => 
        simp only [List.getElem?_cons_zero, Option.some.injEq, Prod.mk.injEq] at e ⊢
        exact ⟨b, e.1, rfl⟩
      | succ i => simp only [List.getElem?_cons_succ] at e ⊢; exact h2 i k y e
theorem rows_spec (B : Base w h₀) (st : h₀.StaysIn s.heap) (hA : A.handled = none) (hr : A.depth < 897) (hu : A.units < 400) {ll : Addr} {c : Nat → List (Int × Int)} {n : Int} {t : Tok} (hl : LayAt prog w s.heap ll c)
  (hR : ∀ h' tk rr ep (es : List (Addr × Obj × (Int × Int × Int))), Mod [] s.heap h' → s.heap.get? rr = none → h'.get? rr = some (listOf (es.map fun e => Value.ref e.1).toArray ep) →
    (∀ e ∈ es, s.heap.get? e.1 = none ∧ h'.get? e.1 = some e.2.1 ∧ RowObj e.2.1 e.2.2) → es.map (·.2.2) = rowsUpTo c 3 → R (.ok (.ret (.ref rr))) ⟨h', s.gens, s.drawn, tk, s.os⟩) :
  codeAny (model prog w) A (.call (.ref 254) ⟨[.ref ll, .int n t], []⟩) R s := by
  refine' enter (binds := [("layers", .ref ll), ("turn", .int n t)]) [] B st (by first | ((repeat first | exact List.mem_cons_self .. | refine List.mem_cons_of_mem _ ?_); done) | ((repeat first | exact List.forall_mem_nil _ | refine List.forall_mem_cons.2 ⟨by first | ((repeat first | exact List.mem_cons_self .. | refine List.mem_cons_of_mem _ ?_); done) | simp, ?_⟩); done) | simp) ?ho ?hcd ?hroom ?hbind ?hloc ?_ ?hco ?hgen ?hk ?hcell
  case hroom => exact Nat.lt_of_lt_of_le hr (by decide)
  ((case ho => k_is); (case hcd => k_is); (case hbind => exact BindsTo.of_eq rfl); (case hloc => exact locs rfl); (case hco => exact rfl); (case hgen => exact rfl); (case hk => exact rfl); (case hcell => decide))
  intro g L h₁ tk Bg F N back hL _ hg
  have X := Bg.X
  have Bg' := Bg
  obtain ⟨pT, lT, mg, mb, T⟩ := Bg.T
  have hl' : LayAt prog w g ll c := hl.keeps fun b o e => hg b o (by first | ((repeat first | exact List.mem_cons_self .. | refine List.mem_cons_of_mem _ ?_); done) | ((repeat first | exact List.forall_mem_nil _ | refine List.forall_mem_cons.2 ⟨by first | ((repeat first | exact List.mem_cons_self .. | refine List.mem_cons_of_mem _ ?_); done) | simp, ?_⟩); done) | simp) e
  obtain ⟨d, o, hll, hd⟩ := hl'
  repeat ((try dsimp only [WPost, Turn]); (fail_if_success (first | (with_reducible show wpAny _ _ (exec (Stmt.While _ _ _ _) _) _ _ _) | (with_reducible show wpAny _ _ (exec (Stmt.For _ _ _ _ _) _) _ _ _) | (with_reducible show wpAny _ _ (call (Value.ref _) _ _) _ _ _) | (with_reducible show wpAny _ _ (subscriptTail _ _ (Value.ref _) _) _ _ _) | (with_reducible show wpAny _ _ (pyIter _) _ _ _) | (with_reducible show wpAny _ _ (call (Value.builtin "list.append") _) _ _ _))); walk1)
  rename_i rr _ _ h2 F N
  refine For_invV g rfl rfl ?_
  repeat ((try dsimp only [WPost, Turn]); (fail_if_success (first | (with_reducible show wpAny _ _ (exec (Stmt.While _ _ _ _) _) _ _ _) | (with_reducible show wpAny _ _ (exec (Stmt.For _ _ _ _ _) _) _ _ _) | (with_reducible show wpAny _ _ (call (Value.ref _) _ _) _ _ _) | (with_reducible show wpAny _ _ (subscriptTail _ _ (Value.ref _) _) _ _ _) | (with_reducible show wpAny _ _ (pyIter _) _ _ _) | (with_reducible show wpAny _ _ (call (Value.builtin "list.append") _) _ _ _))); walk1)
  rename Fr g L _ _ => F
  rename News g L _ _ => N
  rename IsRange _ _ _ _ _ _ _ _ => hra
  refine for_range (n := 3) hA hra (by decide) (by decide) (nx₀ := [(rr, listOf #[] 0)]) (keep := []) F N
    (fun i m nx => Has m [("rows", .ref rr), ("layers", .ref ll), ("turn", .int n t)] ∧ ∃ (es : List (Addr × Obj × (Int × Int × Int))) (ep : Nat), nx = (rr, listOf (es.map fun e => Value.ref e.1).toArray ep) :: es.map (fun e => (e.1, e.2.1)) ∧ (∀ e ∈ es, RowObj e.2.1 e.2.2 ∧ e.1 ≠ rr) ∧ es.map (·.2.2) = rowsUpTo c i) ?_ ?_ ?_
  · exact ⟨⟨rfl, rfl, rfl, trivial⟩, [], 0, rfl, by simp, rfl⟩
  · clear F N hra
    rintro I i tv m₁ nx h tk oI hi3 ⟨hm, es, ep, rfl, hes, hdat⟩ hne F N
    replace F : Fr g L h _ := Fr.over (ps := [("place", .int (0 + (i : Nat) * 1) tv), ("rows", .ref rr), ("layers", .ref ll), ("turn", .int n t)]) F ⟨rfl, hm.1, hm.2.1, hm.2.2.1, trivial⟩
    dsimp only [over] at F
    have ei : (0 + (i : Nat) * 1 : Int) = i := by (first | decide | with_reducible assumption | with_reducible exact Nat.le_trans (by assumption) (by decide) | with_reducible exact Nat.lt_of_lt_of_le (Nat.add_lt_add_right (by assumption) _) (by decide) | with_reducible exact Int.natCast_nonneg _ | omega)
    rw [ei] at F
    repeat ((try dsimp only [WPost, Turn]); (fail_if_success (first | (with_reducible show wpAny _ _ (exec (Stmt.While _ _ _ _) _) _ _ _) | (with_reducible show wpAny _ _ (exec (Stmt.For _ _ _ _ _) _) _ _ _) | (with_reducible show wpAny _ _ (call (Value.ref _) _ _) _ _ _) | (with_reducible show wpAny _ _ (subscriptTail _ _ (Value.ref _) _) _ _ _) | (with_reducible show wpAny _ _ (pyIter _) _ _ _) | (with_reducible show wpAny _ _ (call (Value.builtin "list.append") _) _ _ _))); walk1)
    refine For_invV g rfl rfl ?_
    repeat ((try dsimp only [WPost, Turn]); (fail_if_success (first | (with_reducible show wpAny _ _ (exec (Stmt.While _ _ _ _) _) _ _ _) | (with_reducible show wpAny _ _ (exec (Stmt.For _ _ _ _ _) _) _ _ _) | (with_reducible show wpAny _ _ (call (Value.ref _) _ _) _ _ _) | (with_reducible show wpAny _ _ (subscriptTail _ _ (Value.ref _) _) _ _ _) | (with_reducible show wpAny _ _ (pyIter _) _ _ _) | (with_reducible show wpAny _ _ (call (Value.builtin "list.append") _) _ _ _))); walk1)
    refine item_listL (l := [Value.ref (d 0), .ref (d 1), .ref (d 2)]) (x := .ref (d i)) ⟨_, F.keep _ _ hll, rfl, _, rfl⟩ (by (first | decide | with_reducible assumption | with_reducible exact Nat.le_trans (by assumption) (by decide) | with_reducible exact Nat.lt_of_lt_of_le (Nat.add_lt_add_right (by assumption) _) (by decide) | with_reducible exact Int.natCast_nonneg _ | omega)) (by (first | decide | with_reducible assumption | with_reducible exact Nat.le_trans (by assumption) (by decide) | with_reducible exact Nat.lt_of_lt_of_le (Nat.add_lt_add_right (by assumption) _) (by decide) | with_reducible exact Int.natCast_nonneg _ | omega)) ?_ ?_
    · have : i = 0 ∨ i = 1 ∨ i = 2 := by (first | decide | with_reducible assumption | with_reducible exact Nat.le_trans (by assumption) (by decide) | with_reducible exact Nat.lt_of_lt_of_le (Nat.add_lt_add_right (by assumption) _) (by decide) | with_reducible exact Int.natCast_nonneg _ | omega)
      rcases this with rfl | rfl | rfl <;> rfl
    obtain ⟨hdi, Di, Wi⟩ := hd i hi3
    obtain ⟨lo, kvs, ⟨des, dep, hx1, hx2, hx3, hx4, hx5⟩, hfl⟩ := id Di
    obtain ⟨hkl, hka⟩ := flat_at hfl
    refine for_dict (knd := PySem.intKind prog w) (kvs := kvs) (ep := dep) hA ⟨_, des, F.keep _ _ hdi, hx1, hx2, hx3, hx4, hx5⟩ lo (.inl ⟨_, hdi⟩) (nx₀ := (rr, listOf (es.map fun e => Value.ref e.1).toArray ep) :: es.map (fun e => (e.1, e.2.1))) (keep := [(I, oI)]) F N
      (fun i' m nx => Has m [("place", .int i tv), ("rows", .ref rr), ("layers", .ref ll), ("turn", .int n t)] ∧ ∃ (es : List (Addr × Obj × (Int × Int × Int))) (ep : Nat), nx = (rr, listOf (es.map fun e => Value.ref e.1).toArray ep) :: es.map (fun e => (e.1, e.2.1)) ∧ (∀ e ∈ es, RowObj e.2.1 e.2.2 ∧ e.1 ≠ rr ∧ e.1 ≠ I) ∧ rr ≠ I ∧ es.map (·.2.2) = rowsUpTo c i ++ ((c i).take i').map fun q => ((i : Int), q.1, q.2)) ?_ ?_ ?_
    · refine ⟨⟨rfl, rfl, rfl, rfl, trivial⟩, es, ep, rfl, fun e he => ⟨(hes e he).1, (hes e he).2, hne (e.1, e.2.1) ?_⟩, hne (rr, _) (by simp; exact .inl rfl), by simpa using hdat⟩
      simp only [List.append_nil]
      exact List.mem_cons_of_mem _ (List.mem_map.mpr ⟨e, he, rfl⟩)
    · clear F N
      rintro I' i' k y v m₁ nx h tk oI' hki hkv ⟨hm, es, ep, rfl, hes, hrI, hdat⟩ hne' F N
      obtain ⟨tv', rfl⟩ := Value.isInt_shape hkv
      obtain ⟨mode, hcm⟩ := hka _ _ _ hki
      have hkc := List.mem_of_getElem? hcm
      have hk14 := Wi.key _ hkc
      replace F : Fr g L h _ := Fr.over (ps := [("node", .int k tv'), ("place", .int i tv), ("rows", .ref rr), ("layers", .ref ll), ("turn", .int n t)]) F ⟨rfl, hm.1, hm.2.1, hm.2.2.1, hm.2.2.2.1, trivial⟩
      dsimp only [over] at F
      replace N : News g L h ((rr, listOf (es.map fun e => Value.ref e.1).toArray ep) :: (I, oI) :: (I', oI') :: es.map (fun e => (e.1, e.2.1))) := by
        refine News.sub N ?_
        intro p hp
        simp only [List.mem_cons, List.cons_append, List.mem_append, List.not_mem_nil, or_false] at hp ⊢
        rcases hp with rfl | rfl | rfl | hp
        · exact .inl rfl
        · exact .inr (.inr (.inl rfl))
        · exact .inr (.inr (.inr (.inr rfl)))
        · exact .inr (.inl hp)
      repeat ((try dsimp only [WPost, Turn]); (fail_if_success (first | (with_reducible show wpAny _ _ (exec (Stmt.While _ _ _ _) _) _ _ _) | (with_reducible show wpAny _ _ (exec (Stmt.For _ _ _ _ _) _) _ _ _) | (with_reducible show wpAny _ _ (call (Value.ref _) _ _) _ _ _) | (with_reducible show wpAny _ _ (subscriptTail _ _ (Value.ref _) _) _ _ _) | (with_reducible show wpAny _ _ (pyIter _) _ _ _) | (with_reducible show wpAny _ _ (call (Value.builtin "list.append") _) _ _ _))); walk1)
      rename Fr g L _ _ => F
      rename News g L _ _ => N
      refine kba_turn (value' := Expr.Name (Str.ofString "_") ⟨0, 0, 0, 0⟩) (fun _ => by with_unfolding_all rfl) ?_
      refine kim_tup_any N (List.mem_cons_self ..) rfl rfl (by rw [Int.fmod_eq_emod_of_nonneg _ (by decide)]; (first | decide | with_reducible assumption | with_reducible exact Nat.le_trans (by assumption) (by decide) | with_reducible exact Nat.lt_of_lt_of_le (Nat.add_lt_add_right (by assumption) _) (by decide) | with_reducible exact Int.natCast_nonneg _ | omega)) (by rw [Int.fmod_eq_emod_of_nonneg _ (by decide)]; simp only [List.length_cons, List.length_nil]; (first | decide | with_reducible assumption | with_reducible exact Nat.le_trans (by assumption) (by decide) | with_reducible exact Nat.lt_of_lt_of_le (Nat.add_lt_add_right (by assumption) _) (by decide) | with_reducible exact Int.natCast_nonneg _ | omega)) (by simp only [List.length_cons, List.length_nil]; (first | decide | with_reducible assumption | with_reducible exact Nat.le_trans (by assumption) (by decide) | with_reducible exact Nat.lt_of_lt_of_le (Nat.add_lt_add_right (by assumption) _) (by decide) | with_reducible exact Int.natCast_nonneg _ | omega)) fun x hx => ?_
      obtain ⟨det, td, rfl, hdet⟩ : ∃ det td, x = .str det td ∧ det ∈ detours := by
        simp only [List.mem_cons, List.not_mem_nil, or_false] at hx
        rcases hx with rfl | rfl | rfl | rfl
        · exact ⟨_, _, rfl, by decide⟩
        · exact ⟨_, _, rfl, by decide⟩
        · exact ⟨_, _, rfl, by decide⟩
        · exact ⟨_, _, rfl, by decide⟩
      clear hx
      have N1 := News.sub (news' := (rr, listOf (es.map fun e => Value.ref e.1).toArray ep) :: (I, oI) :: (I', oI') :: es.map (fun e => (e.1, e.2.1))) N (fun p hp => List.mem_cons_of_mem _ hp)
      clear N
      repeat ((try dsimp only [WPost, Turn]); (fail_if_success (first | (with_reducible show wpAny _ _ (exec (Stmt.While _ _ _ _) _) _ _ _) | (with_reducible show wpAny _ _ (exec (Stmt.For _ _ _ _ _) _) _ _ _) | (with_reducible show wpAny _ _ (call (Value.ref _) _ _) _ _ _) | (with_reducible show wpAny _ _ (subscriptTail _ _ (Value.ref _) _) _ _ _) | (with_reducible show wpAny _ _ (pyIter _) _ _ _) | (with_reducible show wpAny _ _ (call (Value.builtin "list.append") _) _ _ _))); walk1)
      rename Fr g L _ _ => F
      refine wpAny_call (text_spec Bg' (s := ⟨_, _, _, _, _⟩) F.keep (by exact hA) (by show A.depth + 1 < 899; (first | decide | with_reducible assumption | with_reducible exact Nat.le_trans (by assumption) (by decide) | with_reducible exact Nat.lt_of_lt_of_le (Nat.add_lt_add_right (by assumption) _) (by decide) | with_reducible exact Int.natCast_nonneg _ | omega)) (show 0 ≤ k by (first | decide | with_reducible assumption | with_reducible exact Nat.le_trans (by assumption) (by decide) | with_reducible exact Nat.lt_of_lt_of_le (Nat.add_lt_add_right (by assumption) _) (by decide) | with_reducible exact Int.natCast_nonneg _ | omega)) (show k ≤ 14 by (first | decide | with_reducible assumption | with_reducible exact Nat.le_trans (by assumption) (by decide) | with_reducible exact Nat.lt_of_lt_of_le (Nat.add_lt_add_right (by assumption) _) (by decide) | with_reducible exact Int.natCast_nonneg _ | omega)) fun h3 tk3 t3 M3 => ?_)
      rename News g L _ _ => N1
      have htl := text_slice_len hk14.1 hk14.2
      have hsl := text_slice_len2 hk14.1 hk14.2
      dsimp only at htl
      have N2 := News.keeps' N1 M3
      replace F := Fr.keeps' F M3
      clear N1
      dsimp only
      repeat ((try dsimp only [WPost, Turn]); (fail_if_success (first | (with_reducible show wpAny _ _ (exec (Stmt.While _ _ _ _) _) _ _ _) | (with_reducible show wpAny _ _ (exec (Stmt.For _ _ _ _ _) _) _ _ _) | (with_reducible show wpAny _ _ (call (Value.ref _) _ _) _ _ _) | (with_reducible show wpAny _ _ (subscriptTail _ _ (Value.ref _) _) _ _ _) | (with_reducible show wpAny _ _ (pyIter _) _ _ _) | (with_reducible show wpAny _ _ (call (Value.builtin "list.append") _) _ _ _))); walk1)
      rename Fr g L _ _ => F
      rename News g L _ _ => N2
      refine wpAny_call (join_spec Bg' (s := ⟨_, _, _, _, _⟩) F.keep (by exact hA) (by show A.depth + 1 < 898; (first | decide | with_reducible assumption | with_reducible exact Nat.le_trans (by assumption) (by decide) | with_reducible exact Nat.lt_of_lt_of_le (Nat.add_lt_add_right (by assumption) _) (by decide) | with_reducible exact Int.natCast_nonneg _ | omega)) (by show A.units + 3 < 480; (first | decide | with_reducible assumption | with_reducible exact Nat.le_trans (by assumption) (by decide) | with_reducible exact Nat.lt_of_lt_of_le (Nat.add_lt_add_right (by assumption) _) (by decide) | with_reducible exact Int.natCast_nonneg _ | omega)) (by decide) (det_len hdet) hsl fun h4 tk4 t4 M4 => ?_)
      have N3 := News.keeps' N2 M4
      have hrr := News.neI N3 (rr, _) (List.mem_cons_self ..)
      have hI4 : ∀ p ∈ [(I, oI), (I', oI')], p.1 ≠ h4.objs.size := fun p hp => News.neI N3 p (List.mem_cons_of_mem _ (by simp only [List.mem_cons, List.not_mem_nil, or_false] at hp ⊢; rcases hp with rfl | rfl <;> simp))
      replace F := Fr.keeps' F M4
      clear N2
      dsimp only
      repeat ((try dsimp only [WPost, Turn]); (fail_if_success (first | (with_reducible show wpAny _ _ (exec (Stmt.While _ _ _ _) _) _ _ _) | (with_reducible show wpAny _ _ (exec (Stmt.For _ _ _ _ _) _) _ _ _) | (with_reducible show wpAny _ _ (call (Value.ref _) _ _) _ _ _) | (with_reducible show wpAny _ _ (subscriptTail _ _ (Value.ref _) _) _ _ _) | (with_reducible show wpAny _ _ (pyIter _) _ _ _) | (with_reducible show wpAny _ _ (call (Value.builtin "list.append") _) _ _ _))); walk1)
      refine item_listL (l := [Value.ref (d 0), .ref (d 1), .ref (d 2)]) (x := .ref (d i)) ⟨_, F.keep _ _ hll, rfl, _, rfl⟩ (by (first | decide | with_reducible assumption | with_reducible exact Nat.le_trans (by assumption) (by decide) | with_reducible exact Nat.lt_of_lt_of_le (Nat.add_lt_add_right (by assumption) _) (by decide) | with_reducible exact Int.natCast_nonneg _ | omega)) (by (first | decide | with_reducible assumption | with_reducible exact Nat.le_trans (by assumption) (by decide) | with_reducible exact Nat.lt_of_lt_of_le (Nat.add_lt_add_right (by assumption) _) (by decide) | with_reducible exact Int.natCast_nonneg _ | omega)) ?_ ?_
      · have : i = 0 ∨ i = 1 ∨ i = 2 := by (first | decide | with_reducible assumption | with_reducible exact Nat.le_trans (by assumption) (by decide) | with_reducible exact Nat.lt_of_lt_of_le (Nat.add_lt_add_right (by assumption) _) (by decide) | with_reducible exact Int.natCast_nonneg _ | omega)
        rcases this with rfl | rfl | rfl <;> rfl
      repeat ((try dsimp only [WPost, Turn]); (fail_if_success (first | (with_reducible show wpAny _ _ (exec (Stmt.While _ _ _ _) _) _ _ _) | (with_reducible show wpAny _ _ (exec (Stmt.For _ _ _ _ _) _) _ _ _) | (with_reducible show wpAny _ _ (call (Value.ref _) _ _) _ _ _) | (with_reducible show wpAny _ _ (subscriptTail _ _ (Value.ref _) _) _ _ _) | (with_reducible show wpAny _ _ (pyIter _) _ _ _) | (with_reducible show wpAny _ _ (call (Value.builtin "list.append") _) _ _ _))); walk1)
      refine kba_turn (value' := Expr.Name (Str.ofString "_") ⟨0, 0, 0, 0⟩) (fun _ => by with_unfolding_all rfl) ?_
      refine kdf_item (Di.tab (F.keep _ _ hdi)) (kdfHas_iff.mpr ⟨_, hkc⟩) fun tm => ?_
      rw [kdfLook_mem Wi.nodup hkc]
      repeat ((try dsimp only [WPost, Turn]); (fail_if_success (first | (with_reducible show wpAny _ _ (exec (Stmt.While _ _ _ _) _) _ _ _) | (with_reducible show wpAny _ _ (exec (Stmt.For _ _ _ _ _) _) _ _ _) | (with_reducible show wpAny _ _ (call (Value.ref _) _ _) _ _ _) | (with_reducible show wpAny _ _ (subscriptTail _ _ (Value.ref _) _) _ _ _) | (with_reducible show wpAny _ _ (pyIter _) _ _ _) | (with_reducible show wpAny _ _ (call (Value.builtin "list.append") _) _ _ _))); walk1)
      rename Fr g L _ _ => F
      rename News g L _ _ => N
      have hlen : es.length ≤ 14 * i + 14 := by
        have h1 := congrArg List.length hdat
        have h2 := rowsUpTo_len (c := c) (i := i) fun j hj => (hd j (by (first | decide | with_reducible assumption | with_reducible exact Nat.le_trans (by assumption) (by decide) | with_reducible exact Nat.lt_of_lt_of_le (Nat.add_lt_add_right (by assumption) _) (by decide) | with_reducible exact Int.natCast_nonneg _ | omega))).2.2.len
        have h3 := Wi.len
        simp only [List.length_map, List.length_append, List.length_take] at h1
        (first | decide | with_reducible assumption | with_reducible exact Nat.le_trans (by assumption) (by decide) | with_reducible exact Nat.lt_of_lt_of_le (Nat.add_lt_add_right (by assumption) _) (by decide) | with_reducible exact Int.natCast_nonneg _ | omega)
      have hI'n := hne' (rr, listOf (es.map fun e => Value.ref e.1).toArray ep) (by first | ((repeat first | exact List.mem_cons_self .. | refine List.mem_cons_of_mem _ ?_); done) | ((repeat first | exact List.forall_mem_nil _ | refine List.forall_mem_cons.2 ⟨by first | ((repeat first | exact List.mem_cons_self .. | refine List.mem_cons_of_mem _ ?_); done) | simp, ?_⟩); done) | simp)
      refine append_K F N (.tail (Ne.symm hrr) (.head ?_)) (fun h5 F5 N5 => ?_) (by rw [List.size_toArray, PySem.sizeLine_eq, List.length_map]; (first | decide | with_reducible assumption | with_reducible exact Nat.le_trans (by assumption) (by decide) | with_reducible exact Nat.lt_of_lt_of_le (Nat.add_lt_add_right (by assumption) _) (by decide) | with_reducible exact Int.natCast_nonneg _ | omega))
      · intro p hp
        rcases List.mem_cons.mp hp with rfl | hp
        · exact hrI.symm
        rcases List.mem_cons.mp hp with rfl | hp
        · exact hI'n.symm
        obtain ⟨e, he, rfl⟩ := List.mem_map.mp hp
        exact (hes e he).2.1
      clear F N
      repeat ((try dsimp only [WPost, Turn]); (fail_if_success (first | (with_reducible show wpAny _ _ (exec (Stmt.While _ _ _ _) _) _ _ _) | (with_reducible show wpAny _ _ (exec (Stmt.For _ _ _ _ _) _) _ _ _) | (with_reducible show wpAny _ _ (call (Value.ref _) _ _) _ _ _) | (with_reducible show wpAny _ _ (subscriptTail _ _ (Value.ref _) _) _ _ _) | (with_reducible show wpAny _ _ (pyIter _) _ _ _) | (with_reducible show wpAny _ _ (call (Value.builtin "list.append") _) _ _ _))); walk1)
      have hI4 : ∀ p ∈ [(I, oI), (I', oI')], p.1 ≠ h4.objs.size := hI4
      have e1 : (es.map fun e => Value.ref e.1).toArray.push (Value.ref h4.objs.size) = ((es ++ [(h4.objs.size, tupOf [Value.str (jstep (jstep (Str.ofString "/") det) (Txt.slice (textOf k) (some 1) none)) t4, Value.int (↑i) tv, Value.int mode tm], ((i : Int), k, mode))]).map fun e => Value.ref e.1).toArray := by (first | ((repeat first | exact List.mem_cons_self .. | refine List.mem_cons_of_mem _ ?_); done) | ((repeat first | exact List.forall_mem_nil _ | refine List.forall_mem_cons.2 ⟨by first | ((repeat first | exact List.mem_cons_self .. | refine List.mem_cons_of_mem _ ?_); done) | simp, ?_⟩); done) | simp)
      rw [e1] at N5
      refine TEnd.intro (s := ⟨_, _, _, _, _⟩) ((rr, listOf ((es ++ [(h4.objs.size, tupOf [Value.str (jstep (jstep (Str.ofString "/") det) (Txt.slice (textOf k) (some 1) none)) t4, Value.int (↑i) tv, Value.int mode tm], ((i : Int), k, mode))]).map fun e => Value.ref e.1).toArray (ep + 1)) :: (es ++ [(h4.objs.size, tupOf [Value.str (jstep (jstep (Str.ofString "/") det) (Txt.slice (textOf k) (some 1) none)) t4, Value.int (↑i) tv, Value.int mode tm], ((i : Int), k, mode))]).map (fun e => (e.1, e.2.1))) F5 N5 ?_ ?_ ?_ ?_ ⟨⟨rfl, rfl, rfl, rfl, trivial⟩, es ++ [(h4.objs.size, tupOf [Value.str (jstep (jstep (Str.ofString "/") det) (Txt.slice (textOf k) (some 1) none)) t4, Value.int (↑i) tv, Value.int mode tm], ((i : Int), k, mode))], ep + 1, rfl, ?_, hrI, ?_⟩
      · intro p hp
        rcases List.mem_cons.mp hp with rfl | hp
        · (first | ((repeat first | exact List.mem_cons_self .. | refine List.mem_cons_of_mem _ ?_); done) | ((repeat first | exact List.forall_mem_nil _ | refine List.forall_mem_cons.2 ⟨by first | ((repeat first | exact List.mem_cons_self .. | refine List.mem_cons_of_mem _ ?_); done) | simp, ?_⟩); done) | simp)
        · rw [List.map_append] at hp
          rcases List.mem_append.mp hp with hp | hp
          · exact List.mem_cons_of_mem _ (List.mem_cons_of_mem _ (List.mem_cons_of_mem _ (List.mem_cons_of_mem _ hp)))
          · rw [List.mem_singleton.mp hp]; exact List.mem_cons_self ..
      · intro p hp; rw [List.mem_singleton.mp hp]; simp
      · (first | ((repeat first | exact List.mem_cons_self .. | refine List.mem_cons_of_mem _ ?_); done) | ((repeat first | exact List.forall_mem_nil _ | refine List.forall_mem_cons.2 ⟨by first | ((repeat first | exact List.mem_cons_self .. | refine List.mem_cons_of_mem _ ?_); done) | simp, ?_⟩); done) | simp)
      · intro p hp
        rcases List.mem_cons.mp hp with rfl | hp
        · exact hI'n
        · rw [List.map_append] at hp
          rcases List.mem_append.mp hp with hp | hp
          · exact hne' p (by simp only [List.cons_append, List.mem_cons, List.mem_append]; exact .inr (.inl hp))
          · rw [List.mem_singleton.mp hp]; exact (hI4 (I', oI') (by first | ((repeat first | exact List.mem_cons_self .. | refine List.mem_cons_of_mem _ ?_); done) | ((repeat first | exact List.forall_mem_nil _ | refine List.forall_mem_cons.2 ⟨by first | ((repeat first | exact List.mem_cons_self .. | refine List.mem_cons_of_mem _ ?_); done) | simp, ?_⟩); done) | simp)).symm
      · intro e he
        rcases List.mem_append.mp he with he | he
        · exact hes e he
        · rw [List.mem_singleton.mp he]
          exact ⟨⟨_, _, _, _, rfl, det, hdet, rfl⟩, Ne.symm hrr, (hI4 (I, oI) (by first | ((repeat first | exact List.mem_cons_self .. | refine List.mem_cons_of_mem _ ?_); done) | ((repeat first | exact List.forall_mem_nil _ | refine List.forall_mem_cons.2 ⟨by first | ((repeat first | exact List.mem_cons_self .. | refine List.mem_cons_of_mem _ ?_); done) | simp, ?_⟩); done) | simp)).symm⟩
      · rw [List.map_append, hdat, List.take_add_one, hcm]
        simp
    · clear F N
      rintro m' nx h tk ⟨hm, es, ep, rfl, hes, hrI, hdat⟩ F N
      repeat ((try dsimp only [WPost, Turn]); (fail_if_success (first | (with_reducible show wpAny _ _ (exec (Stmt.While _ _ _ _) _) _ _ _) | (with_reducible show wpAny _ _ (exec (Stmt.For _ _ _ _ _) _) _ _ _) | (with_reducible show wpAny _ _ (call (Value.ref _) _ _) _ _ _) | (with_reducible show wpAny _ _ (subscriptTail _ _ (Value.ref _) _) _ _ _) | (with_reducible show wpAny _ _ (pyIter _) _ _ _) | (with_reducible show wpAny _ _ (call (Value.builtin "list.append") _) _ _ _))); walk1)
      refine TEnd.intro (s := ⟨_, _, _, _, _⟩) ((rr, listOf (es.map fun e => Value.ref e.1).toArray ep) :: es.map (fun e => (e.1, e.2.1))) F N (fun p hp => List.mem_append_left _ hp) (fun p hp => by cases hp) (List.mem_append_right _ (List.mem_singleton.mpr rfl)) ?_ ⟨⟨hm.2.1, hm.2.2.1, hm.2.2.2.1, trivial⟩, es, ep, rfl, fun e he => ⟨(hes e he).1, (hes e he).2.1⟩, ?_⟩
      · intro p hp
        rcases List.mem_cons.mp hp with rfl | hp
        · exact hrI
        · obtain ⟨e, he, rfl⟩ := List.mem_map.mp hp
          exact (hes e he).2.2
      · rw [hdat, hkl, List.take_length, rowsUpTo_succ]
  · clear F N hra
    rintro m' nx h tk ⟨hm, es, ep, rfl, hes, hdat⟩ F N
    replace F : Fr g L h _ := Fr.over (ps := [("rows", .ref rr)]) F ⟨hm.1, trivial⟩
    dsimp only [over] at F
    rw [List.append_nil] at N
    repeat ((try dsimp only [WPost, Turn]); (fail_if_success (first | (with_reducible show wpAny _ _ (exec (Stmt.While _ _ _ _) _) _ _ _) | (with_reducible show wpAny _ _ (exec (Stmt.For _ _ _ _ _) _) _ _ _) | (with_reducible show wpAny _ _ (call (Value.ref _) _ _) _ _ _) | (with_reducible show wpAny _ _ (subscriptTail _ _ (Value.ref _) _) _ _ _) | (with_reducible show wpAny _ _ (pyIter _) _ _ _) | (with_reducible show wpAny _ _ (call (Value.builtin "list.append") _) _ _ _))); walk1)
    refine hR _ _ rr ep es (back _ F.keep) (born_here hg N (List.mem_cons_self ..) (by first | ((repeat first | exact List.mem_cons_self .. | refine List.mem_cons_of_mem _ ?_); done) | ((repeat first | exact List.forall_mem_nil _ | refine List.forall_mem_cons.2 ⟨by first | ((repeat first | exact List.mem_cons_self .. | refine List.mem_cons_of_mem _ ?_); done) | simp, ?_⟩); done) | simp)) (N _ (List.mem_cons_self ..)).1 (fun e he => ?_) hdat
    have hm' : (e.1, e.2.1) ∈ (rr, listOf (es.map fun e => Value.ref e.1).toArray ep) :: es.map (fun e => (e.1, e.2.1)) := List.mem_cons_of_mem _ (List.mem_map.mpr ⟨e, he, rfl⟩)
    exact ⟨born_here hg N hm' (by first | ((repeat first | exact List.mem_cons_self .. | refine List.mem_cons_of_mem _ ?_); done) | ((repeat first | exact List.forall_mem_nil _ | refine List.forall_mem_cons.2 ⟨by first | ((repeat first | exact List.mem_cons_self .. | refine List.mem_cons_of_mem _ ?_); done) | simp, ?_⟩); done) | simp), (N _ hm').1, (hes e he).1⟩
end
end Mine
namespace Mine
open PySem PySem.W PySem.Calls PyProof.Rows PyProof.V
theorem fillG1 : (PySem.Challenge.rw_pd0156_01 = PySem.Challenge.rw_pd0156_01) ∧ hd.heap_39 = hd.heap_39 := by
  k_fill
  exact ⟨rfl, rfl⟩
section
variable {prog : Program} {w : World} {A : Around} {R : Result → Shared → Prop} {s : Shared} {h₀ : Heap}

def rightOf (v : Int) (i : Nat) : Str := if (v.fdiv (2 ^ (8 - (i : Int)).toNat)).fmod 2 = 1 then Txt.item (Str.ofString "rwx") ((i : Int).fmod 3) else Str.ofString "-"
def letterOf (v : Int) : Str := if v.fdiv 4096 = 4 then "d" else if v.fdiv 4096 = 8 then "-" else "l"
theorem letter_len (v : Int) : (letterOf v).length ≤ 10 := by
  unfold letterOf
  repeat' split
  all_goals decide
theorem letter_look {v : Int} (hv : ModeOk v) (h2 : v.fdiv 4096 ≠ 2) : PySem.Spec.lookup (.int (v.fdiv 4096)) [(PyData.int 4, PyData.str (Str.ofString "d")), (PyData.int 8, PyData.str (Str.ofString "-")), (PyData.int 10, PyData.str (Str.ofString "l"))] = some (.str (letterOf v)) := by
  unfold letterOf
  rcases hv.kind with e | e | e | e
  · rw [e]; rfl
  · rw [e]; rfl
  · exact absurd e h2
  · rw [e]; rfl
theorem right_len (v : Int) (i : Nat) : (rightOf v i).length ≤ 1 := by
  unfold rightOf
  split
  · have h : (i : Int).fmod 3 = 0 ∨ (i : Int).fmod 3 = 1 ∨ (i : Int).fmod 3 = 2 := by rw [Int.fmod_eq_emod_of_nonneg _ (by decide)]; (first | decide | with_reducible assumption | with_reducible exact Nat.le_trans (by assumption) (by decide) | with_reducible exact Nat.lt_of_lt_of_le (Nat.add_lt_add_right (by assumption) _) (by decide) | with_reducible exact Int.natCast_nonneg _ | omega)
    rcases h with e | e | e <;> rw [e] <;> decide +kernel
  · decide
theorem rights_sum (v : Int) : (((List.range 9).map (rightOf v)).map (·.length)).sum + ((List.range 9).map (rightOf v)).length ≤ 18 := by
  have h := fun i => right_len v i
  have h0 := h 0; have h1 := h 1; have h2 := h 2; have h3 := h 3; have h4 := h 4; have h5 := h 5; have h6 := h 6; have h7 := h 7; have h8 := h 8
  rw [show List.range 9 = [0, 1, 2, 3, 4, 5, 6, 7, 8] from by decide]
  simp only [List.map_cons, List.map_nil, List.sum_cons, List.sum_nil, List.length_cons, List.length_nil]
  (first | decide | with_reducible assumption | with_reducible exact Nat.le_trans (by assumption) (by decide) | with_reducible exact Nat.lt_of_lt_of_le (Nat.add_lt_add_right (by assumption) _) (by decide) | with_reducible exact Int.natCast_nonneg _ | omega)
theorem rights_size (v : Int) : (((List.range 9).map (rightOf v)).map (·.length)).sum + ((List.range 9).map (rightOf v)).length ≤ 1048576 := Nat.le_trans (rights_sum v) (by decide)
theorem rights_len (v : Int) : (Txt.join "" ((List.range 9).map (rightOf v))).length ≤ 100 := by
  have := rights_sum v
  exact Nat.le_trans (len_join_le (n := 18) (by unfold Weighs; (first | decide | with_reducible assumption | with_reducible exact Nat.le_trans (by assumption) (by decide) | with_reducible exact Nat.lt_of_lt_of_le (Nat.add_lt_add_right (by assumption) _) (by decide) | with_reducible exact Int.natCast_nonneg _ | omega)) (by decide)) (by decide)
def signsOf (v : Int) : Str := letterOf v ++ Txt.join "" ((List.range 9).map (rightOf v))
theorem signs_spec (B : Base w h₀) (st : h₀.StaysIn s.heap) (hA : A.handled = none) (hr : A.depth < 898) (hu : A.units < 400) {v : Int} {t : Tok} (hv : ModeOk v) (hk2 : v.fdiv 4096 ≠ 2)
  (hR : ∀ h' tk t', Mod [] s.heap h' → R (.ok (.ret (.str (signsOf v) t'))) ⟨h', s.gens, s.drawn, tk, s.os⟩) :
  codeAny (model prog w) A (.call (.ref 264) ⟨[.int v t], []⟩) R s := by
  refine' enterC (binds := [("mode", .int v t)]) B st ?ho ?hcd ?hroom ?hbind ?hkind ?hnd ?_ ?hco ?hgen ?hk
  case hroom => exact Nat.lt_of_lt_of_le hr (by decide)
  case ho => k_is
  case hcd => k_is
  case hbind => exact BindsTo.of_eq rfl
  case hkind => exact rfl
  case hnd => decide +kernel
  case hco => exact rfl
  case hgen => exact rfl
  case hk => exact rfl
  intro g L h₁ tk cells Bg F N Y back hg
  have X := Bg.X
  have Bg' := Bg
  obtain ⟨pT, lT, mg, mb, T⟩ := Bg.T
  k_cells Y
  repeat ((try dsimp only [WPost, Turn]); (fail_if_success (first | (with_reducible show wpAny _ _ (exec (Stmt.While _ _ _ _) _) _ _ _) | (with_reducible show wpAny _ _ (exec (Stmt.For _ _ _ _ _) _) _ _ _) | (with_reducible show wpAny _ _ (call (Value.ref _) _ _) _ _ _) | (with_reducible show wpAny _ _ (eval (Expr.ListComp _ _ _ _) _) _ _ _) | (with_reducible show wpAny _ _ (exec (Stmt.Assign _ (Expr.ListComp _ _ _ _) _) _) _ _ _) | (with_reducible show wpAny _ _ (subscriptTail _ _ (Value.ref _) _) _ _ _) | (with_reducible show wpAny _ _ (eval (Expr.Name (Str.ofString "mode") _) _) _ _ _) | (with_reducible show wpAny _ _ (eval (Expr.Dict _ _ _) _) _ _ _))); walk1)
  rename_i oc hoc
  refine LCg.Assign_ListComp_U F rfl (cl := [("mode", L + 1)]) rfl rfl (by decide) rfl (by decide) rfl rfl rfl ?_
  repeat ((try dsimp only [WPost, Turn]); (fail_if_success (first | (with_reducible show wpAny _ _ (exec (Stmt.While _ _ _ _) _) _ _ _) | (with_reducible show wpAny _ _ (exec (Stmt.For _ _ _ _ _) _) _ _ _) | (with_reducible show wpAny _ _ (call (Value.ref _) _ _) _ _ _) | (with_reducible show wpAny _ _ (eval (Expr.ListComp _ _ _ _) _) _ _ _) | (with_reducible show wpAny _ _ (exec (Stmt.Assign _ (Expr.ListComp _ _ _ _) _) _) _ _ _) | (with_reducible show wpAny _ _ (subscriptTail _ _ (Value.ref _) _) _ _ _) | (with_reducible show wpAny _ _ (eval (Expr.Name (Str.ofString "mode") _) _) _ _ _) | (with_reducible show wpAny _ _ (eval (Expr.Dict _ _ _) _) _ _ _))); walk1)
  rename Fr g L _ _ => F
  rename News g L _ _ => N
  rename IsRange _ _ _ _ _ _ _ _ => hra
  refine LCg.CompSrc.range (n := 9) hA F N hra (by decide) (by decide) (by rw [PySem.sizeLine_eq]; (first | decide | with_reducible assumption | with_reducible exact Nat.le_trans (by assumption) (by decide) | with_reducible exact Nat.lt_of_lt_of_le (Nat.add_lt_add_right (by assumption) _) (by decide) | with_reducible exact Int.natCast_nonneg _ | omega)) fun h3 => ?_
  refine compRest_inv (fun i ys nx => nx = [(L + 1, oc)] ∧ StrsAre ys ((List.range i).map (rightOf v))) ⟨rfl, StrsAre.nil⟩ ?_ ?_
  · rintro i ys nx v' I oI C oC D' m₂ h tk E' hi ⟨rfl, hys⟩ hP hns hx F N off ne
    obtain ⟨t', rfl⟩ := hP
    rw [Int.zero_add] at hx
    have hoc' : oc.data = .cell (some (.int v t)) := hoc
    dsimp only at F N ⊢
    repeat ((try dsimp only [WPost, Turn]); (fail_if_success (first | (with_reducible show wpAny _ _ (exec (Stmt.While _ _ _ _) _) _ _ _) | (with_reducible show wpAny _ _ (exec (Stmt.For _ _ _ _ _) _) _ _ _) | (with_reducible show wpAny _ _ (call (Value.ref _) _ _) _ _ _) | (with_reducible show wpAny _ _ (eval (Expr.ListComp _ _ _ _) _) _ _ _) | (with_reducible show wpAny _ _ (exec (Stmt.Assign _ (Expr.ListComp _ _ _ _) _) _) _ _ _) | (with_reducible show wpAny _ _ (subscriptTail _ _ (Value.ref _) _) _ _ _) | (with_reducible show wpAny _ _ (eval (Expr.Name (Str.ofString "mode") _) _) _ _ _) | (with_reducible show wpAny _ _ (eval (Expr.Dict _ _ _) _) _ _ _))); walk1)
    refine lcf_cell (c := L + 1) (o := oc) N rfl (by simp) hoc' ?_ (by rfl) (by rfl)
    have h8 : (0 : Int) ≤ 8 - i := by (first | decide | with_reducible assumption | with_reducible exact Nat.le_trans (by assumption) (by decide) | with_reducible exact Nat.lt_of_lt_of_le (Nat.add_lt_add_right (by assumption) _) (by decide) | with_reducible exact Int.natCast_nonneg _ | omega)
    repeat' ((try dsimp only [WPost, Turn]); (fail_if_success (first | (with_reducible show wpAny _ _ (exec (Stmt.While _ _ _ _) _) _ _ _) | (with_reducible show wpAny _ _ (exec (Stmt.For _ _ _ _ _) _) _ _ _) | (with_reducible show wpAny _ _ (call (Value.ref _) _ _) _ _ _) | (with_reducible show wpAny _ _ (eval (Expr.ListComp _ _ _ _) _) _ _ _) | (with_reducible show wpAny _ _ (exec (Stmt.Assign _ (Expr.ListComp _ _ _ _) _) _) _ _ _) | (with_reducible show wpAny _ _ (subscriptTail _ _ (Value.ref _) _) _ _ _) | (with_reducible show wpAny _ _ (eval (Expr.Name (Str.ofString "mode") _) _) _ _ _) | (with_reducible show wpAny _ _ (eval (Expr.Dict _ _ _) _) _ _ _))); walk1)
    · rename (v.fdiv (2 ^ (8 - (i : Int)).toNat)).fmod 2 = 1 => hb
      refine LCg.CompEnd.intro F N _ (by simp) off trivial ⟨rfl, ?_⟩
      rw [List.range_succ, List.map_append, List.map_singleton, rightOf, if_pos hb]
      exact kct_snoc hys
    · rename (v.fdiv (2 ^ (8 - (i : Int)).toNat)).fmod 2 ≠ 1 => hb
      refine LCg.CompEnd.intro F N _ (by simp) off trivial ⟨rfl, ?_⟩
      rw [List.range_succ, List.map_append, List.map_singleton, rightOf, if_neg hb]
      exact kct_snoc hys
  · rintro ys nx ⟨rfl, hys⟩ D3 h tk F N off
    have hoc' : oc.data = .cell (some (.int v t)) := hoc
    repeat ((try dsimp only [WPost, Turn]); (fail_if_success (first | (with_reducible show wpAny _ _ (exec (Stmt.While _ _ _ _) _) _ _ _) | (with_reducible show wpAny _ _ (exec (Stmt.For _ _ _ _ _) _) _ _ _) | (with_reducible show wpAny _ _ (call (Value.ref _) _ _) _ _ _) | (with_reducible show wpAny _ _ (eval (Expr.ListComp _ _ _ _) _) _ _ _) | (with_reducible show wpAny _ _ (exec (Stmt.Assign _ (Expr.ListComp _ _ _ _) _) _) _ _ _) | (with_reducible show wpAny _ _ (subscriptTail _ _ (Value.ref _) _) _ _ _) | (with_reducible show wpAny _ _ (eval (Expr.Name (Str.ofString "mode") _) _) _ _ _) | (with_reducible show wpAny _ _ (eval (Expr.Dict _ _ _) _) _ _ _))); walk1)
    rename Fr g L _ _ => F
    rename News g L _ _ => N
    refine Dict_lits_int rfl rfl (by decide) rfl rfl (by simp) (by decide) fun da od h5 tk5 hfr hda hT hkp => ?_
    have hlow := modules_low (T.nolimit.keeps F.keep)
    have F5 := Fr.keeps' F (fun b o _ e => hkp b o e)
    have N5 := News.keeps' N (fun b o _ e => hkp b o e)
    clear F N
    repeat ((try dsimp only [WPost, Turn]); (fail_if_success (first | (with_reducible show wpAny _ _ (exec (Stmt.While _ _ _ _) _) _ _ _) | (with_reducible show wpAny _ _ (exec (Stmt.For _ _ _ _ _) _) _ _ _) | (with_reducible show wpAny _ _ (call (Value.ref _) _ _) _ _ _) | (with_reducible show wpAny _ _ (eval (Expr.ListComp _ _ _ _) _) _ _ _) | (with_reducible show wpAny _ _ (exec (Stmt.Assign _ (Expr.ListComp _ _ _ _) _) _) _ _ _) | (with_reducible show wpAny _ _ (subscriptTail _ _ (Value.ref _) _) _ _ _) | (with_reducible show wpAny _ _ (eval (Expr.Name (Str.ofString "mode") _) _) _ _ _) | (with_reducible show wpAny _ _ (eval (Expr.Dict _ _ _) _) _ _ _))); walk1)
    refine nameX_C N5 rfl (show (L + 1, oc) ∈ _ from by simp) hoc' ?_
    repeat ((try dsimp only [WPost, Turn]); (fail_if_success (first | (with_reducible show wpAny _ _ (exec (Stmt.While _ _ _ _) _) _ _ _) | (with_reducible show wpAny _ _ (exec (Stmt.For _ _ _ _ _) _) _ _ _) | (with_reducible show wpAny _ _ (call (Value.ref _) _ _) _ _ _) | (with_reducible show wpAny _ _ (eval (Expr.ListComp _ _ _ _) _) _ _ _) | (with_reducible show wpAny _ _ (exec (Stmt.Assign _ (Expr.ListComp _ _ _ _) _) _) _ _ _) | (with_reducible show wpAny _ _ (subscriptTail _ _ (Value.ref _) _) _ _ _) | (with_reducible show wpAny _ _ (eval (Expr.Name (Str.ofString "mode") _) _) _ _ _) | (with_reducible show wpAny _ _ (eval (Expr.Dict _ _ _) _) _ _ _))); walk1)
    refine kba_turn (value' := Expr.Name (Str.ofString "_") ⟨0, 0, 0, 0⟩) (fun _ => by with_unfolding_all rfl) ?_
    have hT' : IntTab prog w h5 da [(PyData.int 4, PyData.str (Str.ofString "d")), (PyData.int 8, PyData.str (Str.ofString "-")), (PyData.int 10, PyData.str (Str.ofString "l"))] := by
      obtain ⟨kvs, a, b⟩ := hT
      exact TabAt.ofObj (by have : da ≠ sysModules := Nat.ne_of_gt (Nat.lt_of_lt_of_le hlow hfr); simpa using this) hda a b
    refine item_intTab hT' (dv := .str (letterOf v)) (letter_look hv hk2) fun x hx => ?_
    obtain ⟨tx, rfl⟩ := PyProof.V.Flat.str_inv hx
    repeat ((try dsimp only [WPost, Turn]); (fail_if_success (first | (with_reducible show wpAny _ _ (exec (Stmt.While _ _ _ _) _) _ _ _) | (with_reducible show wpAny _ _ (exec (Stmt.For _ _ _ _ _) _) _ _ _) | (with_reducible show wpAny _ _ (call (Value.ref _) _ _) _ _ _) | (with_reducible show wpAny _ _ (eval (Expr.ListComp _ _ _ _) _) _ _ _) | (with_reducible show wpAny _ _ (exec (Stmt.Assign _ (Expr.ListComp _ _ _ _) _) _) _ _ _) | (with_reducible show wpAny _ _ (subscriptTail _ _ (Value.ref _) _) _ _ _) | (with_reducible show wpAny _ _ (eval (Expr.Name (Str.ofString "mode") _) _) _ _ _) | (with_reducible show wpAny _ _ (eval (Expr.Dict _ _ _) _) _ _ _))); walk1)
    rename Fr g L _ _ => F
    rename News g L _ _ => N
    refine join_listW (News.isList N (show (D3, LCg.lst ys) ∈ _ from by simp)) (by simpa using hys) (by decide) (rights_size v) fun t' k => ?_
    have hll : (letterOf v).length ≤ 10 := letter_len v
    have hjl : (Txt.join "" ((List.range 9).map (rightOf v))).length ≤ 100 := rights_len v
    repeat ((try dsimp only [WPost, Turn]); (fail_if_success (first | (with_reducible show wpAny _ _ (exec (Stmt.While _ _ _ _) _) _ _ _) | (with_reducible show wpAny _ _ (exec (Stmt.For _ _ _ _ _) _) _ _ _) | (with_reducible show wpAny _ _ (call (Value.ref _) _ _) _ _ _) | (with_reducible show wpAny _ _ (eval (Expr.ListComp _ _ _ _) _) _ _ _) | (with_reducible show wpAny _ _ (exec (Stmt.Assign _ (Expr.ListComp _ _ _ _) _) _) _ _ _) | (with_reducible show wpAny _ _ (subscriptTail _ _ (Value.ref _) _) _ _ _) | (with_reducible show wpAny _ _ (eval (Expr.Name (Str.ofString "mode") _) _) _ _ _) | (with_reducible show wpAny _ _ (eval (Expr.Dict _ _ _) _) _ _ _))); walk1)
    refine hR _ _ _ (back _ F.keep)
end
end Mine
namespace Mine
open PySem PySem.W PySem.Calls PyProof.Rows
open AutoSeq1 (wpAny_loadPart')
section
variable {prog : Program} {w : World} {A : Around} {E : Value → Shared → Prop} {s : Shared}

theorem nextOf_tup {it l : Addr} {i : Nat} {items} {x : Value} {Q : Value → Shared → Prop} (hit : s.heap.IsTupleIter it l i) (hl : s.heap.IsTuple l items) (hx : items[i]? = some x)
    (hQ : ∀ h', h'.IsTupleIter it l (i + 1) → Heap.SameBut it s.heap h' → Q x { s with heap := h' }) : wpAny (model prog w) A (Builtin.SmallTypes.nextOf (.ref it)) Q E s := by
  obtain ⟨o, ho, hc, hd⟩ := id hit
  obtain ⟨ol, hol, _, nl, hdl⟩ := hl
  unfold Builtin.SmallTypes.nextOf
  refine wpAny_bind (wpAny_callSpecial?_slot (name := Str.ofString "__next__") hit.typeIs F.slot_tuple_iterator_next (wpAny_call_entry F.slot_tuple_iterator_next hit.typeIs F.entry_tuple_iterator_next ?_ (F.args_tuple_iterator_next_1 _)))
  show wpAny _ _ (field (.ref it) 0 >>= _) _ _ s
  refine wpAny_bind (wpAny_field ho hd (x := .ref l) rfl ?_)
  show wpAny _ _ (if (Value.ref l == Value.none) = true then _ else _) _ _ s
  rw [if_neg (show ¬ ((Value.ref l == Value.none) = true) from Bool.false_ne_true)]
  show wpAny _ _ (field (.ref it) 1 >>= _) _ _ s
  refine wpAny_bind (wpAny_field ho hd (x := .int i 0) rfl ?_)
  show wpAny _ _ (seqItems? (.ref l) >>= _) _ _ s
  refine wpAny_bind (wpAny_seqItems hol hdl ?_)
  simp only [Int.toNat_natCast, hx]
  refine wpAny_bind (wpAny_setField ho hd (by simp) (wpAny_pure ⟨x, rfl, wpAny_pure (hQ _ ?_ (Heap.SameBut.update ..))⟩))
  exact ⟨_, Heap.get?_update_self _ ho (Obj.isFreed_of_fields (Obj.data_mapFields hd _)), (Obj.cls_mapFields ..).trans hc, by rw [Obj.data_mapFields hd]; simp [rawInt]⟩

theorem nextOf_tup_end {it l : Addr} {i : Nat} {items} {Q : Value → Shared → Prop} (hh : A.handled = none) (hit : s.heap.IsTupleIter it l i) (hl : s.heap.IsTuple l items) (hx : items[i]? = none)
    (hE : ∀ h' e, Heap.ExtBut it s.heap h' → (∃ o, h'.get? e = some o ∧ o.cls = .type "StopIteration") → E (.ref e) { s with heap := h' }) :
    wpAny (model prog w) A (Builtin.SmallTypes.nextOf (.ref it)) Q E s := by
  obtain ⟨o, ho, hc, hd⟩ := id hit
  obtain ⟨ol, hol, _, nl, hdl⟩ := hl
  unfold Builtin.SmallTypes.nextOf
  refine wpAny_bind (wpAny_callSpecial?_slot (name := Str.ofString "__next__") hit.typeIs F.slot_tuple_iterator_next (wpAny_call_entry F.slot_tuple_iterator_next hit.typeIs F.entry_tuple_iterator_next ?_ (F.args_tuple_iterator_next_1 _)))
  show wpAny _ _ (field (.ref it) 0 >>= _) _ _ s
  refine wpAny_bind (wpAny_field ho hd (x := .ref l) rfl ?_)
  show wpAny _ _ (if (Value.ref l == Value.none) = true then _ else _) _ _ s
  rw [if_neg (show ¬ ((Value.ref l == Value.none) = true) from Bool.false_ne_true)]
  show wpAny _ _ (field (.ref it) 1 >>= _) _ _ s
  refine wpAny_bind (wpAny_field ho hd (x := .int i 0) rfl ?_)
  show wpAny _ _ (seqItems? (.ref l) >>= _) _ _ s
  refine wpAny_bind (wpAny_seqItems hol hdl ?_)
  simp only [Int.toNat_natCast, hx]
  refine wpAny_bind (wpAny_rule (wpAny_bind (wpAny_setField ho hd (by simp) ?_)))
  show wpAny _ _ (newExc (.type "StopIteration") [] >>= _) _ _ _
  refine wpAny_bind ?_
  simp only [newExc, newTuple]
  refine wpAny_bind (wpAny_newObj_type ?_ (by size_fits))
  refine wpAny_bind (m := firstArgMember _ _) (wpAny_of_eq (a := Value.none) (by first | rfl | (simp only [firstArgMember]; rfl)) ?_)
  refine wpAny_newObj_type ?_ (by size_fits)
  simp only [raiseNew]
  refine wpAny_bind (wpAny_handled ?_)
  first | rw [show A.in1.handled = none from hh] | rw [hh]
  refine wpAny_bind (wpAny_pure (wpAny_throw ?_))
  exact hE _ _ (((Heap.SameBut.update ..).extBut.push _).push _) ⟨_, Heap.get?_push_size _ rfl, rfl⟩

/-- one turn of an enumerate, whatever lies below it -/
theorem enum_turn {e it : Addr} {i : Nat} {x old : Value} {Q : Value → Shared → Prop} {Nx : Heap → Prop} (he : IsEnum s.heap e it i old) (hne : e ≠ it)
    (hn : ∀ (E : Value → Shared → Prop) (Q' : Value → Shared → Prop), (∀ h', Nx h' → Heap.SameBut it s.heap h' → Q' x { s with heap := h' }) → wpAny (model prog w) A (Builtin.SmallTypes.nextOf (.ref it)) Q' E s)
    (hQ : ∀ h' h₁, Nx h₁ → IsEnumOut h' e it ((i : Int) + 1) x s.heap.objs.size → h'.get? s.heap.objs.size = some { cls := .type "tuple", data := .seq #[.int i s.toks, x] } →
      Heap.SameBut it s.heap h₁ → (∀ b o, b ≠ e → h₁.get? b = some o → h'.get? b = some o) → Q (.ref s.heap.objs.size) { s with heap := h', toks := s.toks + 1 }) :
    wpAny (model prog w) A (Builtin.«enumerate.__next__» ⟨[.ref e], []⟩) (fun fin s' => ∃ v, fin = .done (.ret v) ∧ Q v s') E s := by
  obtain ⟨hp, g, d, tk, os⟩ := s
  have hel : e < hp.objs.size := Heap.lt_size he
  show wpAny _ _ (field (.ref e) 2 >>= _) _ _ _
  refine wpAny_bind (wpAny_field he rfl (x := .ref it) rfl ?_)
  refine wpAny_bind (hn _ _ fun h₁ hN hs₁ => ?_)
  replace hs₁ : Heap.SameBut it hp h₁ := hs₁
  have he₁ : IsEnum h₁ e it i old := (hs₁.2 e hne).trans he
  have hz₁ : h₁.objs.size = hp.objs.size := hs₁.1
  show wpAny _ _ (field (.ref e) 3 >>= _) _ _ ⟨h₁, g, d, tk, os⟩
  refine wpAny_bind (wpAny_field he₁ rfl (x := rawInt i) rfl ?_)
  show wpAny _ _ (field (.ref e) 4 >>= _) _ _ ⟨h₁, g, d, tk, os⟩
  refine wpAny_bind (wpAny_field he₁ rfl (x := .none) rfl ?_)
  show wpAny _ _ (mkInt i >>= _) _ _ ⟨h₁, g, d, tk, os⟩
  refine wpAny_bind (wpAny_mkInt ?_)
  show wpAny _ _ (setField (.ref e) 3 (rawInt ((i : Int) + 1)) >>= _) _ _ ⟨h₁, g, d, tk + 1, os⟩
  refine wpAny_bind (wpAny_setField_rec he₁ (by simp) fun h₂ he₂ hs₂ => ?_)
  replace hs₂ : Heap.SameBut e h₁ h₂ := hs₂
  replace he₂ : IsEnum h₂ e it ((i : Int) + 1) old := he₂
  show wpAny _ _ (setField (.ref e) 4 .none >>= _) _ _ ⟨h₂, g, d, tk + 1, os⟩
  refine wpAny_bind (wpAny_setField_rec he₂ (by simp) fun h₃ he₃ hs₃ => ?_)
  replace hs₃ : Heap.SameBut e h₂ h₃ := hs₃
  replace he₃ : IsEnum h₃ e it ((i : Int) + 1) old := he₃
  have s13 : Heap.SameBut e h₁ h₃ := hs₂.trans hs₃
  show wpAny _ _ (newTuple [.int i tk, x] >>= _) _ _ ⟨h₃, g, d, tk + 1, os⟩
  refine wpAny_bind (wpAny_newTuple ?_)
  have hz₃ : h₃.objs.size = hp.objs.size := s13.1.trans hz₁
  have hT : (h₃.push { cls := .type "tuple", data := .seq #[.int i tk, x] }).get? hp.objs.size = some { cls := .type "tuple", data := .seq #[.int i tk, x] } := hz₃ ▸ Heap.get?_push_size _ rfl
  have he₄ : IsEnum (h₃.push { cls := .type "tuple", data := .seq #[.int i tk, x] }) e it ((i : Int) + 1) old := Heap.get?_push_of_some _ he₃
  have k14 : ∀ b o, b ≠ e → h₁.get? b = some o → (h₃.push { cls := .type "tuple", data := .seq #[.int i tk, x] }).get? b = some o := fun b o hb q => Heap.get?_push_of_some _ (s13.extBut b o hb q)
  show wpAny _ _ (Builtin.SmallTypes.ownedTupleIsFree (.ref e) >>= _) _ _ ⟨h₃.push { cls := .type "tuple", data := .seq #[.int i tk, x] }, g, d, tk + 1, os⟩
  rw [hz₃]
  generalize h₃.push { cls := .type "tuple", data := .seq #[.int i tk, x] } = h₄ at *
  have hTe : hp.objs.size ≠ e := Nat.ne_of_gt hel
  unfold Builtin.SmallTypes.ownedTupleIsFree
  refine wpAny_bind (wpAny_bind (wpAny_field he₄ rfl (x := .none) rfl (wpAny_pure ?_)))
  simp only [if_true]
  refine wpAny_bind (wpAny_rule ?_)
  refine wpAny_bind (wpAny_field he₄ rfl (x := old) rfl ?_)
  refine wpAny_bind (wpAny_setField_rec he₄ (by simp) fun h₅ he₅ hs₅ => ?_)
  replace hs₅ : Heap.SameBut e h₄ h₅ := hs₅
  replace he₅ : IsEnum h₅ e it ((i : Int) + 1) x := he₅
  show wpAny _ _ (Builtin.SmallTypes.ownedTupleHandOut (.ref e) (.ref hp.objs.size) >>= _) _ _ ⟨h₅, g, d, tk + 1, os⟩
  unfold Builtin.SmallTypes.ownedTupleHandOut
  refine wpAny_bind (wpAny_bind (wpAny_setField_rec he₅ (by simp) fun h₆ he₆ hs₆ => ?_))
  replace hs₆ : Heap.SameBut e h₅ h₆ := hs₆
  replace he₆ : IsEnumOut h₆ e it ((i : Int) + 1) x hp.objs.size := he₆
  refine wpAny_setField_rec he₆ (by simp) fun h₇ he₇ hs₇ => ?_
  replace hs₇ : Heap.SameBut e h₆ h₇ := hs₇
  replace he₇ : IsEnumOut h₇ e it ((i : Int) + 1) x hp.objs.size := he₇
  have s47 : Heap.SameBut e h₄ h₇ := (hs₅.trans hs₆).trans hs₇
  refine wpAny_bind (wpAny_letGo (wpAny_pure ⟨_, rfl, hQ h₇ h₁ hN he₇ (s47.extBut _ _ hTe hT) hs₁ fun b o hb q => s47.extBut b o hb (k14 b o hb q)⟩))

theorem new_enum_tup (l : Addr) (items : Array Value) (n : Nat) (dct : Option Addr) (sl : Array (Option Value)) :
    Meets (Builtin.«enumerate.__new__» ⟨[.type "enumerate", .ref l], []⟩) (fun _ R s => s.heap.get? l = some { cls := .type "tuple", dict := dct, data := .seq items n, slots := sl } ∧
      R (.ok (.ret (.ref (s.heap.push { cls := .type "tuple_iterator", data := .fields #[.ref l, .int 0 0] }).objs.size)))
        { s with heap := (s.heap.push { cls := .type "tuple_iterator", data := .fields #[.ref l, .int 0 0] }).push { cls := .type "enumerate", data := .fields #[.none, .bool false, .ref s.heap.objs.size, rawInt 0, .none, .none] } }) :=
  .of_wp fun prog w A R s h => by
    obtain ⟨hp, g, d, tk, os⟩ := s; obtain ⟨hl, h⟩ := h
    have hsub := sub_enumerate
    have hL : Heap.IsTuple (Shared.heap ⟨hp, g, d, tk, os⟩) l items := ⟨_, hl, rfl, n, rfl⟩
    wp_walk using wpAny_loadPart' hl
    refine wpAny_stack_any fun st => wpAny_pure ?_
    split
    · rename_i c _ _ _ _ _
      cases (c == Value.type "enumerate")
      · wp_walk using wpAny_loadPart' hl, wpAny_pyIter_tuple hL
        exact ⟨_, rfl, h⟩
      · wp_walk using wpAny_loadPart' hl, wpAny_pyIter_tuple hL
        exact ⟨_, rfl, h⟩
    · wp_walk using wpAny_loadPart' hl, wpAny_pyIter_tuple hL
      exact ⟨_, rfl, h⟩

theorem call_enum_tup {l : Addr} {items : Array Value} {Q : Value → Shared → Prop} (hL : s.heap.IsTuple l items)
    (h : ∀ h', IsEnum h' (s.heap.objs.size + 1) s.heap.objs.size 0 .none → h'.IsTupleIter s.heap.objs.size l 0 → (∀ b o, s.heap.get? b = some o → h'.get? b = some o) → Q (.ref (s.heap.objs.size + 1)) { s with heap := h' }) :
    wpAny (model prog w) A (call (.type "enumerate") [.ref l]) Q E s := by
  obtain ⟨⟨c, dct, dt, sl⟩, hl, hc, n, hd⟩ := hL
  replace hc : c = .type "tuple" := hc
  replace hd : dt = .seq items n := hd
  subst hc hd
  refine callType_new F.called_enumerate (by decide) (F.typeCall_enumerate_1 _) (F.newCall_enumerate_1 _) (fun obj => F.args_object_init_2 obj _) F.entry_enumerate_new (new_enum_tup l items n dct sl) ⟨hl, ?_⟩
  have hz : (s.heap.push { cls := .type "tuple_iterator", data := .fields #[.ref l, .int 0 0] }).objs.size = s.heap.objs.size + 1 := Heap.size_push ..
  show _ ∧ _
  rw [hz]
  have he : IsEnum ((s.heap.push { cls := .type "tuple_iterator", data := .fields #[.ref l, .int 0 0] }).push { cls := .type "enumerate", data := .fields #[.none, .bool false, .ref s.heap.objs.size, rawInt 0, .none, .none] }) (s.heap.objs.size + 1) s.heap.objs.size 0 .none := by
    have := Heap.get?_push_size (s.heap.push { cls := .type "tuple_iterator", data := .fields #[.ref l, .int 0 0] }) (o := { cls := .type "enumerate", data := .fields #[.none, .bool false, .ref s.heap.objs.size, rawInt 0, .none, .none] }) rfl
    rw [hz] at this; exact this
  exact ⟨⟨_, he, rfl⟩, h _ he ⟨_, Heap.get?_push_of_some _ (Heap.get?_push_size _ rfl), rfl, rfl⟩ fun b o x => Heap.get?_push_of_some _ (Heap.get?_push_of_some _ x)⟩

theorem turns_enum_tup {elts : List Expr} {k : Nat} {pos : Pos} (hh : A.handled = none) (e it l : Addr) (hei : e ≠ it) (hle : l ≠ e) (hli : l ≠ it) (items : Array Value) :
    KTurns prog w A (.Tuple elts k pos) e [e, it, l] [e, it] items.size
      (fun i v h => ∃ T t x, v = .ref T ∧ items[i]? = some x ∧ h.IsTuple T #[.int i t, x])
      (fun i v h => ∃ T t x, v = .ref T ∧ items[i]? = some x ∧ h.IsTuple T #[.int i t, x] ∧ IsEnumOut h e it ((i : Int) + 1) x T ∧ h.IsTupleIter it l (i + 1) ∧ h.IsTuple l items ∧ T ≠ e ∧ T ≠ it)
      (fun i h => (∃ old, IsEnum h e it i old) ∧ h.IsTupleIter it l i ∧ h.IsTuple l items) where
  sub := fun b hb => by simp only [List.mem_cons, List.not_mem_nil, or_false] at hb ⊢; rcases hb with h | h <;> simp [h]
  frame := fun i h h' hst hk => by
    obtain ⟨⟨old, he⟩, hit, hl⟩ := hst
    exact ⟨⟨old, hk e (by simp) _ he⟩, hit.at fun o x => hk it (by simp) o x, hl.at fun o x => hk l (by simp) o x⟩
  item := fun i s Q E hi hst hQ => by
    obtain ⟨⟨old, he⟩, hit, hl⟩ := hst
    have hx : items[i]? = some items[i] := Array.getElem?_eq_getElem hi
    have hT : s.TypeIs (.ref e) "enumerate" := ⟨_, he, rfl⟩
    have helt : e < s.heap.objs.size := Heap.lt_size he
    have hilt : it < s.heap.objs.size := by obtain ⟨_, x, _⟩ := hit; exact Heap.lt_size x
    unfold pyNext
    refine wpAny_bind (wpAny_attempt (wpAny_callSpecial?_slot (name := Str.ofString "__next__") hT F.slot_enumerate_next
      (wpAny_call_entry F.slot_enumerate_next hT F.entry_enumerate_next (enum_turn (Nx := fun h' => h'.IsTupleIter it l (i + 1)) he hei (fun E Q' hq => nextOf_tup hit hl hx hq) fun h' h₁ hN ho hT' hs₁ hk => wpAny_pure ?_) (F.args_enumerate_next_1 _))))
    have all : ∀ b o, b ≠ e → b ≠ it → s.heap.get? b = some o → h'.get? b = some o := fun b o hbe hbi q => hk b o hbe (hs₁.extBut b o hbi q)
    refine hQ _ h' (s.toks + 1) ⟨s.heap.objs.size, s.toks, items[i], rfl, hx, ⟨_, hT', rfl, _, rfl⟩, ho, hN.at fun o q => hk it o hei.symm q, hl.at fun o q => all l o hle hli q, Nat.ne_of_gt helt, Nat.ne_of_gt hilt⟩ fun b o hb q => all b o (fun e' => hb (by simp [e'])) (fun e' => hb (by simp [e'])) q
  go := fun i v s Q E hm hQ => by
    obtain ⟨T, t, x, rfl, hx, hT, ho, hit, hl, hTe, hTi⟩ := hm
    refine wpAny_letOwnedTupleGo_enum ho fun h' he' hs' => hQ h' ⟨T, t, x, rfl, hx, hT.at fun o y => (hs'.2 T hTe).trans y⟩ ⟨⟨x, by simpa using he'⟩, hit.at fun o y => (hs'.2 it hei.symm).trans y, hl.at fun o y => (hs'.2 l hle).trans y⟩ fun b o hb y => ?_
    exact (hs'.2 b fun e' => hb (by simp [e'])).trans y
  done := fun s Q E hst hQ => by
    obtain ⟨⟨old, he⟩, hit, hl⟩ := hst
    have hT : s.TypeIs (.ref e) "enumerate" := ⟨_, he, rfl⟩
    unfold pyNext
    refine wpAny_bind (wpAny_attempt (wpAny_callSpecial?_slot (name := Str.ofString "__next__") hT F.slot_enumerate_next
      (wpAny_call_entry F.slot_enumerate_next hT F.entry_enumerate_next ?_ (F.args_enumerate_next_1 _))))
    show wpAny _ _ (field (.ref e) 2 >>= _) _ _ _
    refine wpAny_bind (wpAny_field he rfl (x := .ref it) rfl ?_)
    refine wpAny_bind (nextOf_tup_end hh hit hl (Array.getElem?_eq_none (Nat.le_refl _)) fun h' x he' hx' => ?_)
    obtain ⟨o, ho, hc⟩ := hx'
    refine wpAny_bind (wpAny_isInstance (T := "StopIteration") (b := true) ⟨o, ho, hc⟩ isSubtype_stop ?_)
    exact wpAny_pure (hQ h' s.toks fun b o hb y => he' b o (fun e' => hb (by simp [e'])) y)
end

section
variable {prog : Program} {w : World} {A : Around} {s : Shared} {env : Env} {target : Expr} {body orelse : List Stmt} {Q : Flow → Shared → Prop} {g : Heap}
/-- a for with an else, by an invariant -/
def ElseAt (prog : Program) (w : World) (A : Around) (g : Heap) (env : Env) (target : Expr) (body orelse : List Stmt) (Q : Flow → Shared → Prop) (it : Value) (s : Shared) : Prop :=
  ∃ (I : Addr) (fp wr : List Addr) (n : Nat) (P Md : Nat → Value → Heap → Prop) (St : Nat → Heap → Prop) (m : Str → Option Value) (news : List (Addr × Obj)) (J : Nat → (Str → Option Value) → List (Addr × Obj) → Prop),
    it = .ref I ∧ KTurns prog w A target I fp wr n P Md St ∧ env.locals ∉ fp ∧ (∀ b ∈ wr, g.get? b = none) ∧ (∀ p ∈ news, p.1 ∉ wr) ∧ St 0 s.heap ∧ Fr g env.locals s.heap m ∧ News g env.locals s.heap news ∧ J 0 m news ∧
    (∀ i v m₁ news₁ h₁ tk₁ own, i < n → P i v h₁ → J i m₁ news₁ → (∀ p ∈ news₁, p.1 ∉ wr) → (∀ p ∈ own, p.1 ∈ fp) → Fr g env.locals h₁ m₁ → News g env.locals h₁ (own ++ news₁) →
      wpAny (model prog w) A (assign target env v) (fun _ s₃ => wpAny (model prog w) A (execs body env)
        (LoopStepV g env.locals wr own (J (i + 1)) { s with heap := h₁, toks := tk₁ } (fun v s' => Q (.ret v) s') fun s' => Q .next s') (fun _ _ => False) s₃) (fun _ _ => False) { s with heap := h₁, toks := tk₁ }) ∧
    ∀ h' tk m' news', Fr g env.locals h' m' → News g env.locals h' news' → (∀ p ∈ news', p.1 ∉ wr) → J n m' news' → wpAny (model prog w) A (execs orelse env) Q (fun _ _ => False) { s with heap := h', toks := tk }

theorem For_else {iter : Expr} {pos : Pos}
    (h : wpAny (model prog w) A (eval iter env) (fun xv s₁ => wpAny (model prog w) A (pyIter xv) (fun it s₂ => ElseAt prog w A g env target body orelse Q it s₂) (fun _ _ => False) s₁) (fun _ _ => False) s)
    (hs : ∀ x, foldedSetIterable iter env x = pure x := by intro _; rfl) :
    wpAny (model prog w) A (exec (.For target iter body orelse pos) env) Q (fun _ _ => False) s := by
  refine wpAny_For (wpAny_mono h (fun xv s₁ h₁ => wpAny_mono h₁ (fun it s₂ h₂ => ?_) fun _ _ e => e) fun _ _ e => e) hs
  obtain ⟨I, fp, wr, n, P, Md, St, m, news, J, rfl, W, hLf, hwr, hnw, hst, F, N, h0, step, hR⟩ := h₂
  have hLw : env.locals ∉ wr := fun h => hLf (W.sub _ h)
  have old : ∀ b o, g.get? b = some o → b ∉ wr := fun b o e hb => by rw [hwr b hb] at e; cases e
  refine codeAny_forLoop_any
    (fun k s' => ∃ h' tk m' news' i, s' = { s₂ with heap := h', toks := tk } ∧ St i h' ∧ Fr g env.locals h' m' ∧ News g env.locals h' news' ∧ (∀ p ∈ news', p.1 ∉ wr) ∧ J i m' news' ∧ i ≤ n ∧ k = n + 1 - i) ?_ (n + 1)
    ⟨s₂.heap, s₂.toks, m, news, 0, rfl, hst, F, N, hnw, h0, Nat.zero_le _, rfl⟩
  rintro k s' ⟨h', tk, m', news', i, rfl, hst', F', N', hnw', hJ, hi, rfl⟩
  have next : ∀ h₁ : Heap, (∀ b o, b ∉ wr → h'.get? b = some o → h₁.get? b = some o) → Fr g env.locals h₁ m' ∧ News g env.locals h₁ news' := fun h₁ hk₁ =>
    ⟨⟨F'.ns.at' fun o e => hk₁ _ o hLw e, fun b o e => hk₁ b o (old b o e) (F'.keep b o e), F'.above⟩, fun p hp => ⟨hk₁ _ _ (hnw' p hp) (N' p hp).1, (N' p hp).2⟩⟩
  by_cases hlt : i < n
  · refine W.item i _ _ _ hlt hst' fun v h₁ tk₁ hMd hk₁ => ?_
    refine W.go i v _ _ _ hMd fun h₂ hP hst₂ hk₂ => ?_
    obtain ⟨F₂, N₂⟩ := next h₂ fun b o hb x => hk₂ b o hb (hk₁ b o hb x)
    have Nown : News g env.locals h₂ (PyProof.Rows.ownOf g fp h₂) := news_ownOf hLf
    refine wpAny_mono (step i v m' news' h₂ tk₁ (PyProof.Rows.ownOf g fp h₂) hlt hP hJ hnw' ownOf_sub F₂ (Nown.append N₂)) (fun _ s₃ h₃ => wpAny_mono h₃ (fun f s₄ h₄ => ?_) fun _ _ e => e.elim) fun _ _ e => e.elim
    have fin : LoopStepU g env.locals wr (PyProof.Rows.ownOf g fp h₂) (J (i + 1)) { s₂ with heap := h₂, toks := tk₁ } .next s₄ → ∃ m, m < n + 1 - i ∧ ∃ h' tk m' news' j, s₄ = { s₂ with heap := h', toks := tk } ∧ St j h' ∧ Fr g env.locals h' m' ∧ News g env.locals h' news' ∧ (∀ p ∈ news', p.1 ∉ wr) ∧ J j m' news' ∧ j ≤ n ∧ m = n + 1 - j := by
      rintro ⟨_, h₃', tk₃, m₂, news₂, rfl, F₃, N₃, ha₃, hJ₃⟩
      refine ⟨n + 1 - (i + 1), by (first | decide | with_reducible assumption | with_reducible exact Nat.le_trans (by assumption) (by decide) | with_reducible exact Nat.lt_of_lt_of_le (Nat.add_lt_add_right (by assumption) _) (by decide) | with_reducible exact Int.natCast_nonneg _ | omega), h₃', tk₃, m₂, news₂, i + 1, rfl, W.frame _ _ _ hst₂ fun b hb o e => ?_, F₃, N₃.right, ha₃, hJ₃, hlt, rfl⟩
      cases hn : g.get? b with
      | some o₀ =>
        have q := F₂.keep b o₀ hn
        rw [e] at q
        exact (Option.some.inj q) ▸ F₃.keep b o₀ hn
      | none => exact (N₃ _ (List.mem_append_left _ (mem_ownOf hb hn e))).1
    cases f with
    | ret v => exact h₄
    | brk => exact h₄
    | cont => exact fin h₄
    | next => exact fin h₄
  · obtain rfl : i = n := by (first | decide | with_reducible assumption | with_reducible exact Nat.le_trans (by assumption) (by decide) | with_reducible exact Nat.lt_of_lt_of_le (Nat.add_lt_add_right (by assumption) _) (by decide) | with_reducible exact Int.natCast_nonneg _ | omega)
    refine W.done _ _ _ hst' fun h₁ tk₁ hk₁ => ?_
    obtain ⟨F₁, N₁⟩ := next h₁ hk₁
    exact wpAny_mono (hR h₁ tk₁ m' news' F₁ N₁ hnw' hJ) (fun _ _ q => q) fun _ _ e => e.elim
end
end Mine
namespace Mine
open PySem PySem.W PySem.Calls PyProof.Rows PyProof.V
section
variable {prog : Program} {w : World} {A : Around} {E : Value → Shared → Prop} {s : Shared} {g : Heap} {env : Env}
theorem Fr.offL {L : Addr} {h h' : Heap} {m m' : Str → Option Value} (F : Fr g L h m) (hn : h'.Ns L m') (k : ∀ c o, c ≠ L → h.get? c = some o → h'.get? c = some o) : Fr g L h' m' :=
  ⟨hn, fun b o e => k b o (Nat.ne_of_lt (Nat.lt_of_lt_of_le (Heap.lt_size e) F.above)) (F.keep b o e), F.above⟩
theorem News.offL {L : Addr} {h h' : Heap} {news : List (Addr × Obj)} (N : News g L h news) (k : ∀ c o, c ≠ L → h.get? c = some o → h'.get? c = some o) : News g L h' news :=
  fun p hp => ⟨k _ _ (N p hp).2.1 (N p hp).1, (N p hp).2⟩
theorem assign2 {a b : Str} {pa pb tp : Pos} {kk : Nat} {T : Addr} {x y : Value} {m : Str → Option Value} {news : List (Addr × Obj)} {Q : Unit → Shared → Prop} (hh : A.handled = none) (ht : s.heap.IsTuple T #[x, y])
    (F : Fr g env.locals s.heap m) (N : News g env.locals s.heap news)
    (h : ∀ h' tk, Fr g env.locals h' (fun z => if z = b then some y else if z = a then some x else m z) → News g env.locals h' news → Q () ⟨h', s.gens, s.drawn, tk, s.os⟩)
    (ha : env.kindOf a = some .local) (hb : env.kindOf b = some .local) (hp : (env.scope.kind == .class || (env.scope.kind == .module && env.locals != env.globals)) = false) :
    wpAny (model prog w) A (assign (.Tuple [.Name a pa, .Name b pb] kk tp) env (.ref T)) Q E s :=
  kcp_assign hh ht ha hb hp F.ns fun h' tk hn k => h h' tk (Fr.offL F hn k) (News.offL N k)
theorem kcp_assign3 {a b c : Str} {pa pb pc tp : Pos} {kk : Nat} {T : Addr} {x y z : Value} {m : Str → Option Value} {Q : Unit → Shared → Prop} (hh : A.handled = none) (ht : s.heap.IsTuple T #[x, y, z])
    (ha : env.kindOf a = some .local) (hb : env.kindOf b = some .local) (hc : env.kindOf c = some .local) (hp : (env.scope.kind == .class || (env.scope.kind == .module && env.locals != env.globals)) = false) (hn : s.heap.Ns env.locals m)
    (h : ∀ (h' : Heap) (tk : Nat), h'.Ns env.locals (fun q => if q = c then some z else if q = b then some y else if q = a then some x else m q) → (∀ c o, c ≠ env.locals → s.heap.get? c = some o → h'.get? c = some o) → Q () { s with heap := h', toks := tk }) :
    wpAny (model prog w) A (assign (.Tuple [.Name a pa, .Name b pb, .Name c pc] kk tp) env (.ref T)) Q E s := by
  refine wpAny_assign_Tuple hh ht rfl rfl fun h₁ he₁ => ?_
  have hL : env.locals ≠ s.heap.objs.size := Nat.ne_of_lt hn.lt
  have hn₁ : h₁.Ns env.locals m := hn.at' fun o e => he₁ _ o hL e
  have up₁ : ∀ c o, s.heap.get? c = some o → h₁.get? c = some o := fun c o e => he₁ c o (Nat.ne_of_lt (Heap.lt_size e)) e
  show wpAny _ _ (assignInOrder [assign (.Name a pa) env, assign (.Name b pb) env, assign (.Name c pc) env] [x, y, z]) _ _ _
  refine assignInOrder_cons ?_
  refine wpAny_assign_Name (wpAny_storeName_local ha hn₁ (fun h₂ hn₂ hs₂ => ?_) hp)
  refine assignInOrder_cons ?_
  refine wpAny_assign_Name (wpAny_storeName_local hb hn₂ (fun h₃ hn₃ hs₃ => ?_) hp)
  refine assignInOrder_cons ?_
  refine wpAny_assign_Name (wpAny_storeName_local hc hn₃ (fun h₄ hn₄ hs₄ => ?_) hp)
  refine assignInOrder_nil ?_
  exact h h₄ _ hn₄ fun c o hc e => hs₄.extBut c o hc (hs₃.extBut c o hc (hs₂.extBut c o hc (up₁ c o e)))
theorem assign3 {a b c : Str} {pa pb pc tp : Pos} {kk : Nat} {T : Addr} {x y z : Value} {m : Str → Option Value} {news : List (Addr × Obj)} {Q : Unit → Shared → Prop} (hh : A.handled = none) (ht : s.heap.IsTuple T #[x, y, z])
    (F : Fr g env.locals s.heap m) (N : News g env.locals s.heap news)
    (h : ∀ h' tk, Fr g env.locals h' (fun q => if q = c then some z else if q = b then some y else if q = a then some x else m q) → News g env.locals h' news → Q () ⟨h', s.gens, s.drawn, tk, s.os⟩)
    (ha : env.kindOf a = some .local) (hb : env.kindOf b = some .local) (hc : env.kindOf c = some .local) (hp : (env.scope.kind == .class || (env.scope.kind == .module && env.locals != env.globals)) = false) :
    wpAny (model prog w) A (assign (.Tuple [.Name a pa, .Name b pb, .Name c pc] kk tp) env (.ref T)) Q E s :=
  kcp_assign3 hh ht ha hb hc hp F.ns fun h' tk hn k => h h' tk (Fr.offL F hn k) (News.offL N k)
end

/-- the table of filemode -/
def tabs : List (List (Int × Str)) := [[(40960, "l"), (49152, "s"), (32768, "-"), (24576, "b"), (16384, "d"), (8192, "c"), (4096, "p")], [(256, "r")], [(128, "w")], [(2112, "s"), (2048, "S"), (64, "x")], [(32, "r")], [(16, "w")], [(1032, "s"), (1024, "S"), (8, "x")], [(4, "r")], [(2, "w")], [(513, "t"), (512, "T"), (1, "x")]]
def tabAt : List (List Addr) := [[43, 44, 45, 46, 47, 48, 49], [51], [53], [55, 56, 57], [59], [61], [63, 64, 65], [67], [69], [71, 72, 73]]
def tabRefs : List Addr := [50, 52, 54, 58, 60, 62, 66, 68, 70, 74]
def hitB (i : Nat) (v b : Int) : Bool := if i = 0 then Builtin.bitAnd v 61440 == b else Builtin.bitAnd v b == b
def signAt (i : Nat) (v : Int) (es : List (Int × Str)) : Str := match es.find? (fun e => hitB i v e.1) with | some e => e.2 | none => if i = 0 then "?" else "-"
theorem signAt_hit {i : Nat} {v b : Int} {c : Str} {es : List (Int × Str)} {j : Nat} (h : es[j]? = some (b, c)) (hh : hitB i v b = true) (hn : ∀ e ∈ es.take j, hitB i v e.1 = false) : signAt i v es = c := by
  obtain ⟨hlt, e⟩ := List.getElem?_eq_some_iff.mp h
  have : es.find? (fun e => hitB i v e.1) = some (b, c) := by
    conv => lhs; rw [← List.take_append_drop j es]
    rw [List.find?_append, List.find?_eq_none.mpr (by intro x hx; simp [hn x hx]), List.drop_eq_getElem_cons hlt, e]
    simp [hh]
  unfold signAt
  rw [this]
theorem signAt_none {i : Nat} {v : Int} {es : List (Int × Str)} (hn : ∀ e ∈ es, hitB i v e.1 = false) : signAt i v es = if i = 0 then Str.ofString "?" else Str.ofString "-" := by
  unfold signAt
  rw [List.find?_eq_none.mpr (by intro x hx; simp [hn x hx])]
end Mine
namespace Mine
open PySem PySem.W PySem.Calls PyProof.Rows PyProof.V
theorem fillM1 : (PySem.Challenge.rw_pd0156_01 = PySem.Challenge.rw_pd0156_01) ∧ hd.heap_39 = hd.heap_39 := by
  k_fill
  exact ⟨rfl, rfl⟩
theorem hit_0 {i : Nat} {v b : Int} (h : (i : Int) = 0) (hb : Builtin.bitAnd v 61440 = b) : hitB i v b = true := by
  have : i = 0 := by (first | decide | with_reducible assumption | with_reducible exact Nat.le_trans (by assumption) (by decide) | with_reducible exact Nat.lt_of_lt_of_le (Nat.add_lt_add_right (by assumption) _) (by decide) | with_reducible exact Int.natCast_nonneg _ | omega)
  simp [hitB, this, hb]
theorem hit_n {i : Nat} {v b : Int} (h : (i : Int) ≠ 0) (hb : Builtin.bitAnd v b = b) : hitB i v b = true := by
  have : i ≠ 0 := by (first | decide | with_reducible assumption | with_reducible exact Nat.le_trans (by assumption) (by decide) | with_reducible exact Nat.lt_of_lt_of_le (Nat.add_lt_add_right (by assumption) _) (by decide) | with_reducible exact Int.natCast_nonneg _ | omega)
  simp [hitB, this, hb]
theorem nohit_0 {i : Nat} {v b : Int} (h : (i : Int) = 0) (hb : Builtin.bitAnd v 61440 ≠ b) : hitB i v b = false := by
  have : i = 0 := by (first | decide | with_reducible assumption | with_reducible exact Nat.le_trans (by assumption) (by decide) | with_reducible exact Nat.lt_of_lt_of_le (Nat.add_lt_add_right (by assumption) _) (by decide) | with_reducible exact Int.natCast_nonneg _ | omega)
  simp [hitB, this, hb]
theorem nohit_n {i : Nat} {v b : Int} (h : (i : Int) ≠ 0) (hb : Builtin.bitAnd v b ≠ b) : hitB i v b = false := by
  have : i ≠ 0 := by (first | decide | with_reducible assumption | with_reducible exact Nat.le_trans (by assumption) (by decide) | with_reducible exact Nat.lt_of_lt_of_le (Nat.add_lt_add_right (by assumption) _) (by decide) | with_reducible exact Int.natCast_nonneg _ | omega)
  simp [hitB, this, hb]
theorem take_no {i : Nat} {v b : Int} {c : Str} {es : List (Int × Str)} {j : Nat} (h : es[j]? = some (b, c)) (hn : ∀ e ∈ es.take j, hitB i v e.1 = false) (hb : hitB i v b = false) : ∀ e ∈ es.take (j + 1), hitB i v e.1 = false := by
  intro e he
  rw [List.take_add_one, h] at he
  rcases List.mem_append.mp he with he | he
  · exact hn e he
  · simp at he; rw [he]; exact hb
inductive Pairs (K : Frag) : List Addr → List (Int × Str) → Prop
  | nil : Pairs K [] []
  | cons {p : Addr} {ps : List Addr} {b : Int} {c : Str} {tb tc : Tok} {es : List (Int × Str)} : List.lookup p K = some { cls := .type "tuple", data := .seq #[.int b tb, .str c tc] } → Pairs K ps es → Pairs K (p :: ps) ((b, c) :: es)
theorem Pairs.at {K : Frag} {ps : List Addr} {es : List (Int × Str)} (h : Pairs K ps es) : ∀ (j : Nat) (p : Addr), ps[j]? = some p → ∃ b c tb tc, es[j]? = some (b, c) ∧ List.lookup p K = some { cls := .type "tuple", data := .seq #[.int b tb, .str c tc] } := by
  induction h with
  | nil => intro j p e; simp at e
  | cons e _ ih =>
    intro j p ej
    cases j with
    | zero => simp only [List.getElem?_cons_zero, Option.some.injEq] at ej ⊢; subst ej; exact ⟨_, _, _, _, rfl, e⟩
    | succ j => simp only [List.getElem?_cons_succ] at ej ⊢; exact ih j p ej
theorem Pairs.len {K : Frag} {ps : List Addr} {es : List (Int × Str)} (h : Pairs K ps es) : ps.length = es.length := by
  induction h with
  | nil => rfl
  | cons _ _ ih => simp [ih]
theorem tab_of {K : Frag} {g : Heap} {i : Nat} {l : Addr} {ps : List Addr} {es : List (Int × Str)} (X : K.In g) (h1 : tabRefs[i]? = some l) (h2 : tabs.getD i [] = es) (h3 : es = es) (h4 : List.lookup l K = some { cls := .type "tuple", data := .seq (ps.map Value.ref).toArray }) (h5 : Pairs K ps es) :
    ∃ (l : Addr) (ps : List Addr) (es : List (Int × Str)), tabRefs[i]? = some l ∧ tabs.getD i [] = es ∧ ps.length = es.length ∧ g.get? l = some { cls := .type "tuple", data := .seq (ps.map Value.ref).toArray } ∧
      ∀ (j : Nat) (p : Addr), ps[j]? = some p → ∃ b c tb tc, es[j]? = some (b, c) ∧ g.get? p = some { cls := .type "tuple", data := .seq #[.int b tb, .str c tc] } :=
  ⟨l, ps, es, h1, h2, h5.len, X _ _ h4, fun j p hp => let ⟨b, c, tb, tc, e, f⟩ := h5.at j p hp; ⟨b, c, tb, tc, e, X _ _ f⟩⟩
theorem sign_len (i : Nat) (v : Int) : (signAt i v (tabs.getD i [])).length ≤ 1 := by
  have : ∀ e ∈ tabs.getD i [], e.2.length ≤ 1 := by
    by_cases h : i < 10
    · exact (by decide +kernel : ∀ i < 10, ∀ e ∈ tabs.getD i [], e.2.length ≤ 1) i h
    · have : tabs.getD i [] = [] := by rw [List.getD_eq_getElem?_getD, List.getElem?_eq_none (by show 10 ≤ i; (first | decide | with_reducible assumption | with_reducible exact Nat.le_trans (by assumption) (by decide) | with_reducible exact Nat.lt_of_lt_of_le (Nat.add_lt_add_right (by assumption) _) (by decide) | with_reducible exact Int.natCast_nonneg _ | omega))]; rfl
      rw [this]; intro e he; cases he
  unfold signAt
  split
  · rename_i e he
    exact this e (List.mem_of_find?_eq_some he)
  · split <;> decide
theorem sign_size (v : Int) : (((List.range 10).map fun i => signAt i v (tabs.getD i [])).map (·.length)).sum + ((List.range 10).map fun i => signAt i v (tabs.getD i [])).length ≤ 1048576 := by
  have h := fun i => sign_len i v
  have h0 := h 0; have h1 := h 1; have h2 := h 2; have h3 := h 3; have h4 := h 4; have h5 := h 5; have h6 := h 6; have h7 := h 7; have h8 := h 8; have h9 := h 9
  rw [show List.range 10 = [0, 1, 2, 3, 4, 5, 6, 7, 8, 9] from by decide]
  simp only [List.map_cons, List.map_nil, List.sum_cons, List.sum_nil, List.length_cons, List.length_nil]
  (first | decide | with_reducible assumption | with_reducible exact Nat.le_trans (by assumption) (by decide) | with_reducible exact Nat.lt_of_lt_of_le (Nat.add_lt_add_right (by assumption) _) (by decide) | with_reducible exact Int.natCast_nonneg _ | omega)
section
variable {prog : Program} {w : World} {A : Around} {R : Result → Shared → Prop} {s : Shared} {h₀ : Heap}
theorem filemode_spec (B : Base w h₀) (st : h₀.StaysIn s.heap) (hA : A.handled = none) (hr : A.depth < 898) (hu : A.units < 400) {v : Int} {t : Tok}
  (hR : ∀ h' tk t', Mod [] s.heap h' → R (.ok (.ret (.str (Txt.join "" ((List.range 10).map fun i => signAt i v (tabs.getD i []))) t'))) ⟨h', s.gens, s.drawn, tk, s.os⟩) :
  codeAny (model prog w) A (.call (.ref 82) ⟨[.int v t], []⟩) R s := by
  refine' enter (binds := [("mode", .int v t)]) [] B st (by simp) ?ho ?hcd ?hroom ?hbind ?hloc ?_ ?hco ?hgen ?hk ?hcell
  case hroom => exact Nat.lt_of_lt_of_le hr (by decide)
  ((case ho => k_is); (case hcd => k_is); (case hbind => exact BindsTo.of_eq rfl); (case hloc => exact locs rfl); (case hco => exact rfl); (case hgen => exact rfl); (case hk => exact rfl); (case hcell => decide))
  intro g L h₁ tk Bg F N back hL _ hg
  have X := Bg.X
  have Bg' := Bg
  obtain ⟨pT, lT, mg, mb, T⟩ := Bg.T
  repeat ((try dsimp only [WPost, Turn]); (fail_if_success (first | (with_reducible show wpAny _ _ (exec (Stmt.While _ _ _ _) _) _ _ _) | (with_reducible show wpAny _ _ (exec (Stmt.For _ _ _ _ _) _) _ _ _) | (with_reducible show wpAny _ _ (call (Value.ref _) _ _) _ _ _) | (with_reducible show wpAny _ _ (call (Value.type "enumerate") _ _) _ _ _) | (with_reducible show wpAny _ _ (pyIter _) _ _ _) | (with_reducible show wpAny _ _ (call (Value.builtin "list.append") _) _ _ _) | (with_reducible show LoopStepV _ _ _ _ _ _ _ _ _ _))); walk1)
  rename_i pl _ _ h2 F N
  refine For_turns F ?_
  repeat ((try dsimp only [WPost, Turn]); (fail_if_success (first | (with_reducible show wpAny _ _ (exec (Stmt.While _ _ _ _) _) _ _ _) | (with_reducible show wpAny _ _ (exec (Stmt.For _ _ _ _ _) _) _ _ _) | (with_reducible show wpAny _ _ (call (Value.ref _) _ _) _ _ _) | (with_reducible show wpAny _ _ (call (Value.type "enumerate") _ _) _ _ _) | (with_reducible show wpAny _ _ (pyIter _) _ _ _) | (with_reducible show wpAny _ _ (call (Value.builtin "list.append") _) _ _ _) | (with_reducible show LoopStepV _ _ _ _ _ _ _ _ _ _))); walk1)
  have h75 : g.get? 75 = some { cls := .type "tuple", data := .seq (tabRefs.map Value.ref).toArray } := X _ _ (by k_is)
  have hT75 : ∀ h : Heap, g.StaysIn h → h.IsTuple 75 (tabRefs.map Value.ref).toArray := fun h k => ⟨_, k _ _ h75, rfl, 0, rfl⟩
  have htab : ∀ (i : Nat) (hi : i < 10), ∃ (l : Addr) (ps : List Addr) (es : List (Int × Str)), tabRefs[i]? = some l ∧ tabs.getD i [] = es ∧ ps.length = es.length ∧ g.get? l = some { cls := .type "tuple", data := .seq (ps.map Value.ref).toArray } ∧
      ∀ (j : Nat) (p : Addr), ps[j]? = some p → ∃ b c tb tc, es[j]? = some (b, c) ∧ g.get? p = some { cls := .type "tuple", data := .seq #[.int b tb, .str c tc] } := by
    intro i hi
    have hi' : i = 0 ∨ i = 1 ∨ i = 2 ∨ i = 3 ∨ i = 4 ∨ i = 5 ∨ i = 6 ∨ i = 7 ∨ i = 8 ∨ i = 9 := by (first | decide | with_reducible assumption | with_reducible exact Nat.le_trans (by assumption) (by decide) | with_reducible exact Nat.lt_of_lt_of_le (Nat.add_lt_add_right (by assumption) _) (by decide) | with_reducible exact Int.natCast_nonneg _ | omega)
    rcases hi' with rfl | rfl | rfl | rfl | rfl | rfl | rfl | rfl | rfl | rfl
    · exact tab_of (ps := [43, 44, 45, 46, 47, 48, 49]) X rfl rfl rfl (by k_is) (.cons (by k_is) (.cons (by k_is) (.cons (by k_is) (.cons (by k_is) (.cons (by k_is) (.cons (by k_is) (.cons (by k_is) .nil)))))))
    · exact tab_of (ps := [51]) X rfl rfl rfl (by k_is) (.cons (by k_is) .nil)
    · exact tab_of (ps := [53]) X rfl rfl rfl (by k_is) (.cons (by k_is) .nil)
    · exact tab_of (ps := [55, 56, 57]) X rfl rfl rfl (by k_is) (.cons (by k_is) (.cons (by k_is) (.cons (by k_is) .nil)))
    · exact tab_of (ps := [59]) X rfl rfl rfl (by k_is) (.cons (by k_is) .nil)
    · exact tab_of (ps := [61]) X rfl rfl rfl (by k_is) (.cons (by k_is) .nil)
    · exact tab_of (ps := [63, 64, 65]) X rfl rfl rfl (by k_is) (.cons (by k_is) (.cons (by k_is) (.cons (by k_is) .nil)))
    · exact tab_of (ps := [67]) X rfl rfl rfl (by k_is) (.cons (by k_is) .nil)
    · exact tab_of (ps := [69]) X rfl rfl rfl (by k_is) (.cons (by k_is) .nil)
    · exact tab_of (ps := [71, 72, 73]) X rfl rfl rfl (by k_is) (.cons (by k_is) (.cons (by k_is) (.cons (by k_is) .nil)))
  have z75 : @LT.lt Nat _ 75 h2.objs.size := Heap.lt_size (F.keep _ _ h75)
  have zL : @LT.lt Nat _ L h2.objs.size := F.ns.lt
  have zp : @LT.lt Nat _ pl h2.objs.size := Heap.lt_size (N (pl, W.listOf #[] 0) (by simp)).1
  have zL5 : @LT.lt Nat _ 75 L := Nat.lt_of_lt_of_le (Heap.lt_size h75) F.above
  have gf : ∀ a : Addr, h2.objs.size ≤ a → g.get? a = none := fun a ha => by
    cases q : g.get? a with
    | none => rfl
    | some o => exact absurd (Heap.lt_size (F.keep _ _ q)) (Nat.not_lt.mpr ha)
  refine call_enum_tup (s := ⟨h2, s.gens, s.drawn, _, s.os⟩) (hT75 _ F.keep) fun h3 hE hI hk => ?_
  refine wpAny_pyIter_enum hE ?_
  dsimp only at hE hI hk ⊢
  have F3 := Fr.keeps' F (fun b o _ e => hk b o e)
  have N3 := News.keeps' N (fun b o _ e => hk b o e)
  clear F N
  generalize hsz : h2.objs.size = i0 at *
  refine ⟨i0 + 1, _, _, _, _, _, _, _, [(pl, W.listOf #[] 0)], (fun i m nx => Has m [("perm", .ref pl), ("mode", .int v t)] ∧ ∃ ys ep, nx = [(pl, W.listOf (List.toArray ys) ep)] ∧ StrsAre ys ((List.range i).map fun i => signAt i v (tabs.getD i []))), rfl, turns_enum_tup (by exact hA) (i0 + 1) i0 75 (Nat.succ_ne_self _) (Nat.ne_of_lt (Nat.lt_succ_of_lt z75)) (Nat.ne_of_lt z75) (tabRefs.map Value.ref).toArray, ?_, ?_, ?_, ⟨⟨_, hE⟩, hI, hT75 _ fun b o e => F3.keep b o e⟩, F3, N3, ⟨⟨rfl, rfl, trivial⟩, [], 0, rfl, StrsAre.nil⟩, ?_, ?_⟩
  · show L ∉ [i0 + 1, i0, 75]
    simp only [List.mem_cons, List.not_mem_nil, or_false, not_or]
    exact ⟨Nat.ne_of_lt (Nat.lt_succ_of_lt zL), Nat.ne_of_lt zL, Nat.ne_of_gt zL5⟩
  · intro b hb
    simp only [List.mem_cons, List.not_mem_nil, or_false] at hb
    rcases hb with rfl | rfl
    · exact gf _ (Nat.le_succ _)
    · exact gf _ (Nat.le_refl _)
  · intro p hp
    rw [List.mem_singleton.mp hp]
    simp only [List.mem_cons, List.not_mem_nil, or_false, not_or]
    exact ⟨Nat.ne_of_lt (Nat.lt_succ_of_lt zp), Nat.ne_of_lt zp⟩
  · clear F3 N3 hE hI
    rintro i v' m₁ nx h tk own hi ⟨T', tt, x, rfl, hx, hT'⟩ ⟨hm, ys, ep, rfl, hys⟩ hoff hown _ _ _ F N
    have hi10 : i < 10 := hi
    obtain ⟨l, ps, es, hl, hes, hpl, hgl, hps⟩ := htab i hi10
    obtain rfl : x = .ref l := by
      rw [List.getElem?_toArray, List.getElem?_map, hl] at hx
      exact (Option.some.inj hx).symm
    replace N : News g L h ((pl, W.listOf (List.toArray ys) ep) :: own) := News.sub N (by intro p hp; simp only [List.mem_cons, List.mem_append, List.not_mem_nil, or_false] at hp ⊢; rcases hp with hp | hp; exact .inr hp; exact .inl hp)
    replace F : Fr g L h m₁ := F
    refine assign2 (by exact hA) hT' F N (fun h4 tk4 F4 N4 => ?_) rfl rfl rfl
    clear F N
    replace F4 : Fr g L h4 _ := Fr.over (ps := [("index", .int i tt), ("table", .ref l), ("perm", .ref pl), ("mode", .int v t)]) F4 ⟨rfl, rfl, hm.1, hm.2.1, trivial⟩
    dsimp only [over] at F4
    repeat ((try dsimp only [WPost, Turn]); (fail_if_success (first | (with_reducible show wpAny _ _ (exec (Stmt.While _ _ _ _) _) _ _ _) | (with_reducible show wpAny _ _ (exec (Stmt.For _ _ _ _ _) _) _ _ _) | (with_reducible show wpAny _ _ (call (Value.ref _) _ _) _ _ _) | (with_reducible show wpAny _ _ (call (Value.type "enumerate") _ _) _ _ _) | (with_reducible show wpAny _ _ (pyIter _) _ _ _) | (with_reducible show wpAny _ _ (call (Value.builtin "list.append") _) _ _ _) | (with_reducible show LoopStepV _ _ _ _ _ _ _ _ _ _))); walk1)
    refine For_else (g := g) ?_
    repeat ((try dsimp only [WPost, Turn]); (fail_if_success (first | (with_reducible show wpAny _ _ (exec (Stmt.While _ _ _ _) _) _ _ _) | (with_reducible show wpAny _ _ (exec (Stmt.For _ _ _ _ _) _) _ _ _) | (with_reducible show wpAny _ _ (call (Value.ref _) _ _) _ _ _) | (with_reducible show wpAny _ _ (call (Value.type "enumerate") _ _) _ _ _) | (with_reducible show wpAny _ _ (pyIter _) _ _ _) | (with_reducible show wpAny _ _ (call (Value.builtin "list.append") _) _ _ _) | (with_reducible show LoopStepV _ _ _ _ _ _ _ _ _ _))); walk1)
    rename Fr g L _ _ => F
    rename News g L _ _ => N
    have zl := Heap.lt_size (F.keep _ _ hgl)
    have hlt : ∀ h, g.StaysIn h → h.IsTuple l (ps.map Value.ref).toArray := fun h k => ⟨_, k _ _ hgl, rfl, 0, rfl⟩
    have pown : ∀ p ∈ own, p.1 ≠ pl := by
      intro p hp q
      have : p.1 ∈ [i0 + 1, i0, 75] := hown p hp
      rw [q] at this
      simp only [List.mem_cons, List.not_mem_nil, or_false] at this
      rcases this with e | e | e
      · exact absurd zp (by rw [e]; exact Nat.not_lt.mpr (Nat.le_succ _))
      · exact absurd zp (by rw [e]; exact Nat.lt_irrefl _)
      · have := (N (pl, _) (List.mem_cons_self ..)).2.2
        rw [e, h75] at this; cases this
    have hpg := (N (pl, _) (List.mem_cons_self ..)).2.2
    have zpl := Heap.lt_size (N (pl, _) (List.mem_cons_self ..)).1
    have zL2 := F.ns.lt
    have gl := F.above
    refine wpAny_pyIter_tuple (hlt _ F.keep) ?_
    refine ⟨_, _, _, _, _, _, _, _, (pl, W.listOf (List.toArray ys) ep) :: own, (fun j m nx => Has m [("index", .int i tt), ("perm", .ref pl), ("mode", .int v t)] ∧ nx = (pl, W.listOf (List.toArray ys) ep) :: own ∧ ∀ e ∈ es.take j, hitB i v e.1 = false), rfl, KTurns.ofWalks (Walks.tuple (by exact hA) _ _ (Nat.ne_of_lt zl) (ps.map Value.ref).toArray) (fun i v s Q E st q => letGo_tupleiter st.1 q), ?_, ?_, ?_, ⟨⟨_, Heap.get?_push_size _ rfl, rfl, rfl⟩, (hlt _ F.keep).at fun o e => Heap.get?_push_of_some _ e⟩, F.push _, News.push0 N _, ⟨⟨rfl, rfl, rfl, trivial⟩, rfl, by simp⟩, ?_, ?_⟩
    · show L ∉ [h4.objs.size, l]
      simp only [List.mem_cons, List.not_mem_nil, or_false, not_or]
      exact ⟨Nat.ne_of_lt zL2, fun e => absurd (Nat.lt_of_lt_of_le (Heap.lt_size hgl) gl) (by rw [e]; exact Nat.lt_irrefl _)⟩
    · intro b hb
      rw [List.mem_singleton.mp hb]
      exact freshI F
    · intro p hp q
      exact News.neI N p hp (List.mem_singleton.mp q)
    · rintro j v' m₁ nx h tk own2 hj hP ⟨hm, rfl, hno⟩ hoff2 hown2 F6 N6
      obtain ⟨p, hp⟩ : ∃ p, ps[j]? = some p := ⟨ps[j]'(by simpa using hj), List.getElem?_eq_getElem _⟩
      obtain rfl : v' = .ref p := by
        have hP' : ((ps.map Value.ref).toArray)[j]? = some v' := hP
        rw [List.getElem?_toArray, List.getElem?_map, hp] at hP'
        exact (Option.some.inj hP').symm
      obtain ⟨b, c, tb, tc, hes1, hgp⟩ := hps j p hp
      have N7 : News g L h ((pl, W.listOf (List.toArray ys) ep) :: (own ++ own2)) := News.sub N6 (by intro p hp; simp only [List.mem_cons, List.mem_append] at hp ⊢; rcases hp with hp | hp | hp; exact .inr (.inl hp); exact .inr (.inr hp); exact .inl hp)
      replace F6 : Fr g L h m₁ := F6
      refine assign2 (s := ⟨h, _, _, _, _⟩) (by exact hA) ⟨_, F6.keep _ _ hgp, rfl, 0, rfl⟩ F6 N7 (fun h8 tk8 F8 N8 => ?_) rfl rfl rfl
      clear F N F6 N6 N7
      replace F8 : Fr g L h8 _ := Fr.over (ps := [("char", .str c tc), ("bit", .int b tb), ("index", .int i tt), ("perm", .ref pl), ("mode", .int v t)]) F8 ⟨rfl, rfl, hm.1, hm.2.1, hm.2.2.1, trivial⟩
      dsimp only [over] at F8
      have pown2 : ∀ p ∈ own ++ own2, p.1 ≠ pl := by
        intro p hp q
        rcases List.mem_append.mp hp with hp | hp
        · exact pown p hp q
        · have : p.1 ∈ [h4.objs.size, l] := hown2 p hp
          rw [q] at this
          simp only [List.mem_cons, List.not_mem_nil, or_false] at this
          rcases this with e | e
          · exact absurd zpl (by rw [e]; exact Nat.lt_irrefl _)
          · rw [e, hgl] at hpg; cases hpg
      have hyl : ys.length ≤ 10 := by have := hys.length; simp at this; (first | decide | with_reducible assumption | with_reducible exact Nat.le_trans (by assumption) (by decide) | with_reducible exact Nat.lt_of_lt_of_le (Nat.add_lt_add_right (by assumption) _) (by decide) | with_reducible exact Int.natCast_nonneg _ | omega)
      have hit : hitB i v b = true → ∀ (h0 : Heap) (tk0 : Nat) (h9 : Heap) (tk9 : Nat) (m9 : Str → Option Value), Fr g L h9 m9 → m9 (Str.ofString "perm") = some (.ref pl) → m9 (Str.ofString "mode") = some (.int v t) → News g L h9 ((pl, W.listOf (ys.toArray.push (.str c tc)) (ep + 1)) :: (own ++ own2)) →
          LoopStepU g L [i0 + 1, i0] own (fun m nx => Has m [(Str.ofString "perm", .ref pl), (Str.ofString "mode", .int v t)] ∧ ∃ ys ep, nx = [(pl, W.listOf (List.toArray ys) ep)] ∧ StrsAre ys ((List.range (i + 1)).map fun i => signAt i v (tabs.getD i []))) ⟨h0, s.gens, s.drawn, tk0, s.os⟩ .next ⟨h9, s.gens, s.drawn, tk9, s.os⟩ := by
        intro hh h0 tk0 h9 tk9 m9 F9 e1 e2 N9
        refine ⟨rfl, h9, tk9, m9, [(pl, W.listOf (ys ++ [Value.str c tc]).toArray (ep + 1))], rfl, F9, ?_, ?_, ⟨e1, e2, trivial⟩, ys ++ [Value.str c tc], ep + 1, rfl, ?_⟩
        · refine News.sub N9 ?_
          intro p hp
          rcases List.mem_append.mp hp with hp | hp
          · exact List.mem_cons_of_mem _ (List.mem_append_left _ hp)
          · rw [List.mem_singleton.mp hp, List.push_toArray]; exact List.mem_cons_self ..
        · intro p hp
          rw [List.mem_singleton.mp hp]
          exact hoff (pl, W.listOf ys.toArray ep) (by simp)
        · rw [List.range_succ, List.map_append, List.map_singleton, hes, signAt_hit hes1 hh hno]
          exact kct_snoc hys
      repeat' ((try dsimp only [WPost, Turn]); (fail_if_success (first | (with_reducible show wpAny _ _ (exec (Stmt.While _ _ _ _) _) _ _ _) | (with_reducible show wpAny _ _ (exec (Stmt.For _ _ _ _ _) _) _ _ _) | (with_reducible show wpAny _ _ (call (Value.ref _) _ _) _ _ _) | (with_reducible show wpAny _ _ (call (Value.type "enumerate") _ _) _ _ _) | (with_reducible show wpAny _ _ (pyIter _) _ _ _) | (with_reducible show wpAny _ _ (call (Value.builtin "list.append") _) _ _ _) | (with_reducible show LoopStepV _ _ _ _ _ _ _ _ _ _))); walk1)
      · have hi0 : (i : Int) = 0 := by assumption
        refine wpAny_call (ifmt_spec Bg' (s := ⟨_, _, _, _, _⟩) F8.keep (by show A.depth + 1 < 900; (first | decide | with_reducible assumption | with_reducible exact Nat.le_trans (by assumption) (by decide) | with_reducible exact Nat.lt_of_lt_of_le (Nat.add_lt_add_right (by assumption) _) (by decide) | with_reducible exact Int.natCast_nonneg _ | omega)) fun h9 tk9 t9 M9 => ?_)
        have F9 := Fr.keeps' F8 M9
        have N9 := News.keeps' N8 M9
        clear F8 N8
        dsimp only
        repeat' ((try dsimp only [WPost, Turn]); (fail_if_success (first | (with_reducible show wpAny _ _ (exec (Stmt.While _ _ _ _) _) _ _ _) | (with_reducible show wpAny _ _ (exec (Stmt.For _ _ _ _ _) _) _ _ _) | (with_reducible show wpAny _ _ (call (Value.ref _) _ _) _ _ _) | (with_reducible show wpAny _ _ (call (Value.type "enumerate") _ _) _ _ _) | (with_reducible show wpAny _ _ (pyIter _) _ _ _) | (with_reducible show wpAny _ _ (call (Value.builtin "list.append") _) _ _ _) | (with_reducible show LoopStepV _ _ _ _ _ _ _ _ _ _))); walk1)
        · refine append_K F9 N9 (.head pown2) (fun ha Fa Na => ?_) (by simp only [List.size_toArray, PySem.sizeLine_eq]; (first | decide | with_reducible assumption | with_reducible exact Nat.le_trans (by assumption) (by decide) | with_reducible exact Nat.lt_of_lt_of_le (Nat.add_lt_add_right (by assumption) _) (by decide) | with_reducible exact Int.natCast_nonneg _ | omega))
          clear F9 N9
          repeat ((try dsimp only [WPost, Turn]); (fail_if_success (first | (with_reducible show wpAny _ _ (exec (Stmt.While _ _ _ _) _) _ _ _) | (with_reducible show wpAny _ _ (exec (Stmt.For _ _ _ _ _) _) _ _ _) | (with_reducible show wpAny _ _ (call (Value.ref _) _ _) _ _ _) | (with_reducible show wpAny _ _ (call (Value.type "enumerate") _ _) _ _ _) | (with_reducible show wpAny _ _ (pyIter _) _ _ _) | (with_reducible show wpAny _ _ (call (Value.builtin "list.append") _) _ _ _) | (with_reducible show LoopStepV _ _ _ _ _ _ _ _ _ _))); walk1)
          refine LoopStepV.brk ?_
          repeat ((try dsimp only [WPost, Turn]); (fail_if_success (first | (with_reducible show wpAny _ _ (exec (Stmt.While _ _ _ _) _) _ _ _) | (with_reducible show wpAny _ _ (exec (Stmt.For _ _ _ _ _) _) _ _ _) | (with_reducible show wpAny _ _ (call (Value.ref _) _ _) _ _ _) | (with_reducible show wpAny _ _ (call (Value.type "enumerate") _ _) _ _ _) | (with_reducible show wpAny _ _ (pyIter _) _ _ _) | (with_reducible show wpAny _ _ (call (Value.builtin "list.append") _) _ _ _) | (with_reducible show LoopStepV _ _ _ _ _ _ _ _ _ _))); walk1)
          refine LoopStepV.next (hit ?_ _ _ _ _ _ Fa rfl rfl Na)
          rename Builtin.bitAnd v 61440 = b => hb
          exact hit_0 hi0 hb
        · refine LoopStepV.next (LoopStepU.intro F9 (News.sub N9 ?_) ?_ ⟨⟨rfl, rfl, rfl, trivial⟩, rfl, ?_⟩)
          · intro p hp
            rcases List.mem_append.mp hp with hp | hp
            · exact List.mem_cons_of_mem _ (List.mem_append_right _ hp)
            · rcases List.mem_cons.mp hp with rfl | hp
              · exact List.mem_cons_self ..
              · exact List.mem_cons_of_mem _ (List.mem_append_left _ hp)
          · exact hoff2
          · rename Builtin.bitAnd v 61440 ≠ b => hb
            exact take_no hes1 hno (nohit_0 hi0 hb)
      · refine append_K F8 N8 (.head pown2) (fun ha Fa Na => ?_) (by simp only [List.size_toArray, PySem.sizeLine_eq]; (first | decide | with_reducible assumption | with_reducible exact Nat.le_trans (by assumption) (by decide) | with_reducible exact Nat.lt_of_lt_of_le (Nat.add_lt_add_right (by assumption) _) (by decide) | with_reducible exact Int.natCast_nonneg _ | omega))
        clear F8 N8
        repeat ((try dsimp only [WPost, Turn]); (fail_if_success (first | (with_reducible show wpAny _ _ (exec (Stmt.While _ _ _ _) _) _ _ _) | (with_reducible show wpAny _ _ (exec (Stmt.For _ _ _ _ _) _) _ _ _) | (with_reducible show wpAny _ _ (call (Value.ref _) _ _) _ _ _) | (with_reducible show wpAny _ _ (call (Value.type "enumerate") _ _) _ _ _) | (with_reducible show wpAny _ _ (pyIter _) _ _ _) | (with_reducible show wpAny _ _ (call (Value.builtin "list.append") _) _ _ _) | (with_reducible show LoopStepV _ _ _ _ _ _ _ _ _ _))); walk1)
        refine LoopStepV.brk ?_
        repeat ((try dsimp only [WPost, Turn]); (fail_if_success (first | (with_reducible show wpAny _ _ (exec (Stmt.While _ _ _ _) _) _ _ _) | (with_reducible show wpAny _ _ (exec (Stmt.For _ _ _ _ _) _) _ _ _) | (with_reducible show wpAny _ _ (call (Value.ref _) _ _) _ _ _) | (with_reducible show wpAny _ _ (call (Value.type "enumerate") _ _) _ _ _) | (with_reducible show wpAny _ _ (pyIter _) _ _ _) | (with_reducible show wpAny _ _ (call (Value.builtin "list.append") _) _ _ _) | (with_reducible show LoopStepV _ _ _ _ _ _ _ _ _ _))); walk1)
        refine LoopStepV.next (hit ?_ _ _ _ _ _ Fa rfl rfl Na)
        rename Builtin.bitAnd v b = b => hb
        rename (i : Int) ≠ 0 => hi0
        exact hit_n hi0 hb
      · refine LoopStepV.next (LoopStepU.intro F8 (News.sub N8 ?_) ?_ ⟨⟨rfl, rfl, rfl, trivial⟩, rfl, ?_⟩)
        · intro p hp
          rcases List.mem_append.mp hp with hp | hp
          · exact List.mem_cons_of_mem _ (List.mem_append_right _ hp)
          · rcases List.mem_cons.mp hp with rfl | hp
            · exact List.mem_cons_self ..
            · exact List.mem_cons_of_mem _ (List.mem_append_left _ hp)
        · exact hoff2
        · rename Builtin.bitAnd v b ≠ b => hb
          rename (i : Int) ≠ 0 => hi0
          exact take_no hes1 hno (nohit_n hi0 hb)
    · clear F N
      rintro h9 tk9 m9 nx F9 N9 hoff9 ⟨hm9, rfl, hno⟩
      replace hno : ∀ e ∈ es, hitB i v e.1 = false := by
        have e : (ps.map Value.ref).toArray.size = es.length := by simp [hpl]
        rw [e, List.take_length] at hno
        exact hno
      replace F9 : Fr g L h9 _ := Fr.over (ps := [("index", .int i tt), ("perm", .ref pl), ("mode", .int v t)]) F9 ⟨hm9.1, hm9.2.1, hm9.2.2.1, trivial⟩
      dsimp only [over] at F9
      replace N9 : News g L h9 ((pl, W.listOf (List.toArray ys) ep) :: own) := N9
      have hyl : ys.length ≤ 10 := by have := hys.length; simp at this; (first | decide | with_reducible assumption | with_reducible exact Nat.le_trans (by assumption) (by decide) | with_reducible exact Nat.lt_of_lt_of_le (Nat.add_lt_add_right (by assumption) _) (by decide) | with_reducible exact Int.natCast_nonneg _ | omega)
      have fin : ∀ (h0 : Heap) (tk0 : Nat) (c : Str) (tc : Tok) (ha : Heap) (tka : Nat) (ma : Str → Option Value), signAt i v es = c → Fr g L ha ma → ma (Str.ofString "perm") = some (.ref pl) → ma (Str.ofString "mode") = some (.int v t) → News g L ha ((pl, W.listOf (ys.toArray.push (.str c tc)) (ep + 1)) :: own) →
          LoopStepU g L [i0 + 1, i0] own (fun m nx => Has m [(Str.ofString "perm", .ref pl), (Str.ofString "mode", .int v t)] ∧ ∃ ys ep, nx = [(pl, W.listOf (List.toArray ys) ep)] ∧ StrsAre ys ((List.range (i + 1)).map fun i => signAt i v (tabs.getD i []))) ⟨h0, s.gens, s.drawn, tk0, s.os⟩ .next ⟨ha, s.gens, s.drawn, tka, s.os⟩ := by
        intro h0 tk0 c tc ha tka ma hc Fa e1 e2 Na
        refine ⟨rfl, ha, tka, ma, [(pl, W.listOf (ys ++ [Value.str c tc]).toArray (ep + 1))], rfl, Fa, ?_, ?_, ⟨e1, e2, trivial⟩, ys ++ [Value.str c tc], ep + 1, rfl, ?_⟩
        · refine News.sub Na ?_
          intro p hp
          rcases List.mem_append.mp hp with hp | hp
          · exact List.mem_cons_of_mem _ hp
          · rw [List.mem_singleton.mp hp, List.push_toArray]; exact List.mem_cons_self ..
        · intro p hp
          rw [List.mem_singleton.mp hp]
          exact hoff (pl, W.listOf ys.toArray ep) (by simp)
        · rw [List.range_succ, List.map_append, List.map_singleton, hes, hc]
          exact kct_snoc hys
      repeat' ((try dsimp only [WPost, Turn]); (fail_if_success (first | (with_reducible show wpAny _ _ (exec (Stmt.While _ _ _ _) _) _ _ _) | (with_reducible show wpAny _ _ (exec (Stmt.For _ _ _ _ _) _) _ _ _) | (with_reducible show wpAny _ _ (call (Value.ref _) _ _) _ _ _) | (with_reducible show wpAny _ _ (call (Value.type "enumerate") _ _) _ _ _) | (with_reducible show wpAny _ _ (pyIter _) _ _ _) | (with_reducible show wpAny _ _ (call (Value.builtin "list.append") _) _ _ _) | (with_reducible show LoopStepV _ _ _ _ _ _ _ _ _ _))); walk1)
      · rename_i hi0 _
        refine append_K F9 N9 (.head pown) (fun ha Fa Na => ?_) (by simp only [List.size_toArray, PySem.sizeLine_eq]; (first | decide | with_reducible assumption | with_reducible exact Nat.le_trans (by assumption) (by decide) | with_reducible exact Nat.lt_of_lt_of_le (Nat.add_lt_add_right (by assumption) _) (by decide) | with_reducible exact Int.natCast_nonneg _ | omega))
        clear F9 N9
        repeat ((try dsimp only [WPost, Turn]); (fail_if_success (first | (with_reducible show wpAny _ _ (exec (Stmt.While _ _ _ _) _) _ _ _) | (with_reducible show wpAny _ _ (exec (Stmt.For _ _ _ _ _) _) _ _ _) | (with_reducible show wpAny _ _ (call (Value.ref _) _ _) _ _ _) | (with_reducible show wpAny _ _ (call (Value.type "enumerate") _ _) _ _ _) | (with_reducible show wpAny _ _ (pyIter _) _ _ _) | (with_reducible show wpAny _ _ (call (Value.builtin "list.append") _) _ _ _) | (with_reducible show LoopStepV _ _ _ _ _ _ _ _ _ _))); walk1)
        refine LoopStepV.next (fin _ _ _ _ _ _ _ ?_ Fa rfl rfl Na)
        rw [signAt_none hno, if_pos (by (first | decide | with_reducible assumption | with_reducible exact Nat.le_trans (by assumption) (by decide) | with_reducible exact Nat.lt_of_lt_of_le (Nat.add_lt_add_right (by assumption) _) (by decide) | with_reducible exact Int.natCast_nonneg _ | omega))]
      · rename_i hi0 _
        refine append_K F9 N9 (.head pown) (fun ha Fa Na => ?_) (by simp only [List.size_toArray, PySem.sizeLine_eq]; (first | decide | with_reducible assumption | with_reducible exact Nat.le_trans (by assumption) (by decide) | with_reducible exact Nat.lt_of_lt_of_le (Nat.add_lt_add_right (by assumption) _) (by decide) | with_reducible exact Int.natCast_nonneg _ | omega))
        clear F9 N9
        repeat ((try dsimp only [WPost, Turn]); (fail_if_success (first | (with_reducible show wpAny _ _ (exec (Stmt.While _ _ _ _) _) _ _ _) | (with_reducible show wpAny _ _ (exec (Stmt.For _ _ _ _ _) _) _ _ _) | (with_reducible show wpAny _ _ (call (Value.ref _) _ _) _ _ _) | (with_reducible show wpAny _ _ (call (Value.type "enumerate") _ _) _ _ _) | (with_reducible show wpAny _ _ (pyIter _) _ _ _) | (with_reducible show wpAny _ _ (call (Value.builtin "list.append") _) _ _ _) | (with_reducible show LoopStepV _ _ _ _ _ _ _ _ _ _))); walk1)
        refine LoopStepV.next (fin _ _ _ _ _ _ _ ?_ Fa rfl rfl Na)
        rw [signAt_none hno, if_neg (by (first | decide | with_reducible assumption | with_reducible exact Nat.le_trans (by assumption) (by decide) | with_reducible exact Nat.lt_of_lt_of_le (Nat.add_lt_add_right (by assumption) _) (by decide) | with_reducible exact Int.natCast_nonneg _ | omega))]
  · clear F3 N3 hE hI
    rintro h9 tk9 m9 nx F9 N9 _ ⟨hm9, ys, ep, rfl, hys⟩
    replace F9 : Fr g L h9 _ := Fr.over (ps := [("perm", .ref pl), ("mode", .int v t)]) F9 ⟨hm9.1, hm9.2.1, trivial⟩
    dsimp only [over] at F9
    replace N9 : News g L h9 [(pl, W.listOf (List.toArray ys) ep)] := N9
    repeat ((try dsimp only [WPost, Turn]); (fail_if_success (first | (with_reducible show wpAny _ _ (exec (Stmt.While _ _ _ _) _) _ _ _) | (with_reducible show wpAny _ _ (exec (Stmt.For _ _ _ _ _) _) _ _ _) | (with_reducible show wpAny _ _ (call (Value.ref _) _ _) _ _ _) | (with_reducible show wpAny _ _ (call (Value.type "enumerate") _ _) _ _ _) | (with_reducible show wpAny _ _ (pyIter _) _ _ _) | (with_reducible show wpAny _ _ (call (Value.builtin "list.append") _) _ _ _) | (with_reducible show LoopStepV _ _ _ _ _ _ _ _ _ _))); walk1)
    refine join_listW (News.isList N9 (List.mem_cons_self ..)) (by exact hys) (by decide) (sign_size v) fun t' k => ?_
    repeat ((try dsimp only [WPost, Turn]); (fail_if_success (first | (with_reducible show wpAny _ _ (exec (Stmt.While _ _ _ _) _) _ _ _) | (with_reducible show wpAny _ _ (exec (Stmt.For _ _ _ _ _) _) _ _ _) | (with_reducible show wpAny _ _ (call (Value.ref _) _ _) _ _ _) | (with_reducible show wpAny _ _ (call (Value.type "enumerate") _ _) _ _ _) | (with_reducible show wpAny _ _ (pyIter _) _ _ _) | (with_reducible show wpAny _ _ (call (Value.builtin "list.append") _) _ _ _) | (with_reducible show LoopStepV _ _ _ _ _ _ _ _ _ _))); walk1)
    exact hR _ _ _ (back _ F9.keep)
end
end Mine
namespace Mine
open PySem PySem.W PySem.Calls PyProof.Rows PyProof.V PySem.Spec PyProof.Rows.LCg
section
variable {prog : Program} {w : World} {A : Around} {E : Value → Shared → Prop} {s : Shared} {h₀ : Heap} {L : Addr} {m : Str → Option Value} {env : Env}

theorem comp3_block {elt iter : PySem.Expr} {a b c : Str} {pa pb pc tp : Pos} {kk : Nat} {scope : Scope} {cl : List (Str × Addr)} {pos : Pos} {s₂ : Shared} {I d : Addr} {ts : List Addr} {x y z : Nat → Value} {news : List (Addr × Obj)}
    {RR : Value → Addr → Result → Shared → Prop} (Inv : Nat → List Value → List (Addr × Obj) → Prop)
    (hh : A.handled = none) (hne : d ≠ I) (hsz : ts.length ≤ sizeLine) (hat : h₀.IsList d (ts.map Value.ref).toArray)
    (hxs : ∀ (i : Nat) (T : Addr), ts[i]? = some T → h₀.IsTuple T #[x i, y i, z i])
    (hit : s₂.heap.IsListIter I d 0)
    (hcell : ∀ y ∈ scope.names, y.2 ≠ .cell) (hkind : scope.kind = .function) (hxa : scope.names.lookup a = some .local) (hxb : scope.names.lookup b = some .local) (hxc : scope.names.lookup c = some .local) (hab : ¬ a = b) (hac : ¬ a = c) (hbc : ¬ b = c)
    (F : Fr h₀ L s₂.heap m) (N : News h₀ L s₂.heap news) (hIL : L ≠ I) (hI₀ : h₀.get? I = none) (off : ∀ p ∈ news, p.1 ≠ I)
    (h0 : Inv 0 [] news)
    (turn : ∀ i ys nx I oI C oC D m₂ h tk (E' : Value → Shared → Prop), i < ts.length → Inv i ys nx → NsObj oC m₂ → m₂ a = some (x i) → m₂ b = some (y i) → m₂ c = some (z i) → Fr h₀ L h m → News h₀ L h ((I, oI) :: (C, oC) :: (D, lst ys) :: nx) → Off3 I C D nx → ((@Ne Nat I C) ∧ (@Ne Nat I D) ∧ (@Ne Nat C D)) →
      wpAny (model prog w) A (eval elt (compEnvC scope cl C env)) (CompEnd h₀ L m { s₂ with heap := h, toks := tk } I oI C oC D (lst ys) (fun _ => True) (fun y news' => Inv (i + 1) (ys ++ [y]) news')) E' { s₂ with heap := h, toks := tk })
    (hRR : ∀ D C h tk m' ys news', Fr h₀ L h m → News h₀ L h ((D, lst ys) :: news') → Off1 D news' → h.Ns C m' → h₀.get? C = none → h₀.get? D = none → C ≠ L → D ≠ L → C ≠ D → (∀ p ∈ news', p.1 ≠ C) → Inv ts.length ys news' → RR (.ref D) C (.ok .next) { s₂ with heap := h, toks := tk }) :
    wpAny (model prog w) A (newList []) (fun acc s₃ => wpAny (model prog w) A (newFunctionEnv scope env.globals cl [] env.qual none .none (some env)) (fun cenv s₄ =>
      codeAny (model prog w) A (.compStart (.ListComp elt [⟨.Tuple [.Name a pa, .Name b pb, .Name c pc] kk tp, iter, [], 0⟩] scope pos) 0 (.ref I) acc { cenv with scope := relabel scope env }) (RR acc cenv.locals) s₄) E s₃) E s₂ := by
  refine wpAny_newObj_type (wpAny_newFunctionEnv hcell (by intro y hy; simp at hy) (fun h₁ hns₁ hsb₁ => ?_) hkind)
  dsimp only at hns₁ hsb₁ ⊢
  generalize hH2 : s₂.heap.push { cls := .type "list", dict := none, data := .seq ([] : List Value).toArray } = H2 at hns₁ hsb₁ ⊢
  have hC : H2.objs.size = s₂.heap.objs.size + 1 := by rw [← hH2, Heap.size_push]
  have hDC : s₂.heap.objs.size ≠ H2.objs.size := by rw [hC]; exact Nat.ne_of_lt (Nat.lt_succ_self _)
  have below : ∀ b, b < s₂.heap.objs.size → b ≠ H2.objs.size ∧ b ≠ s₂.heap.objs.size := fun b hb => ⟨by rw [hC]; exact Nat.ne_of_lt (Nat.lt_succ_of_lt hb), Nat.ne_of_lt hb⟩
  have hIlt : I < s₂.heap.objs.size := by obtain ⟨_, e, _⟩ := id hit; exact Heap.lt_size e
  have old : ∀ b o, s₂.heap.get? b = some o → h₁.get? b = some o := fun b o e => hsb₁.extBut b o (below b (Heap.lt_size e)).1 (Heap.get?_push_of_some _ (hH2 ▸ Heap.get?_push_of_some _ e))
  have hacc : h₁.get? s₂.heap.objs.size = some (lst []) := hsb₁.extBut _ _ hDC (Heap.get?_push_of_some _ (hH2 ▸ Heap.get?_push_size _ rfl))
  have hit₁ : h₁.IsListIter I d 0 := hit.at fun o e => old _ _ e
  have fresh : ∀ a, s₂.heap.objs.size ≤ a → s₂.heap.get? a = none := fun a ha => by
    cases e : s₂.heap.get? a with
    | none => rfl
    | some o' => exact absurd (Heap.lt_size e) (Nat.not_lt.mpr ha)
  have fresh₀ : ∀ a, s₂.heap.objs.size ≤ a → h₀.get? a = none := fun a ha => by
    cases e : h₀.get? a with
    | none => rfl
    | some o' => have := F.keep a o' e; rw [fresh a ha] at this; cases this
  have hD₀ : h₀.get? s₂.heap.objs.size = none := fresh₀ _ (Nat.le_refl _)
  have hC₀ : h₀.get? H2.objs.size = none := fresh₀ _ (by rw [hC]; exact Nat.le_succ _)
  have hLlt : L < s₂.heap.objs.size := F.ns.lt
  have hDL : s₂.heap.objs.size ≠ L := Ne.symm (below L hLlt).2
  have hCL : H2.objs.size ≠ L := Ne.symm (below L hLlt).1
  have hCI : I ≠ H2.objs.size := (below I hIlt).1
  have hDI : I ≠ s₂.heap.objs.size := (below I hIlt).2
  have off₀ : Off3 I H2.objs.size s₂.heap.objs.size news := Off3.of fun p hp => ⟨off p hp, (below _ (Heap.lt_size (N p hp).1)).1, (below _ (Heap.lt_size (N p hp).1)).2⟩
  have hal : ∀ h : Heap, (∀ b o, h₀.get? b = some o → h.get? b = some o) → h.IsList d (ts.map Value.ref).toArray := fun h k => hat.at fun o e => k _ o e
  have W : KTurns prog w A (.Tuple [.Name a pa, .Name b pb, .Name c pc] kk tp) I _ _ _ _ _ _ := KTurns.ofWalks (Walks.list hh I d hne (ts.map Value.ref).toArray) (fun i v s Q E st q => letGo_listiter st.1 q)
  have hsize : (ts.map Value.ref).toArray.size = ts.length := by simp
  have loop : ∀ s₃ : Shared, s₃ = { s₂ with heap := h₁, toks := s₂.toks + ([] : List (Str × Value)).length } →
      codeAny (model prog w) A (.compLoop (.ListComp elt [⟨.Tuple [.Name a pa, .Name b pb, .Name c pc] kk tp, iter, [], 0⟩] scope pos) 0 (.ref I) (.ref s₂.heap.objs.size) (compEnvC scope cl H2.objs.size env))
        (RR (.ref s₂.heap.objs.size) H2.objs.size) s₃ := by
    rintro s₃ rfl
    refine kcp_loop
      (fun k s' => ∃ h' tk i ys m' news', s' = { s₂ with heap := h', toks := tk } ∧ i ≤ ts.length ∧ k = ts.length + 1 - i ∧ ys.length = i ∧ h'.IsListIter I d i ∧ Fr h₀ L h' m ∧ h'.Ns H2.objs.size m' ∧
        News h₀ L h' ((s₂.heap.objs.size, lst ys) :: news') ∧ Off3 I H2.objs.size s₂.heap.objs.size news' ∧ Inv i ys news') ?_ (ts.length + 1)
      ⟨h₁, _, 0, [], _, news, rfl, Nat.zero_le _, rfl, rfl, hit₁, F.keeps old, hns₁, fun p hp => ?_, off₀, h0⟩
    · rintro k s' ⟨h', tk, i, ys, m', news', rfl, hi, rfl, hyl, hit', F', hn', N', off', R'⟩
      have off3 := off'.mem
      by_cases hlt : i < ts.length
      · refine W.item i _ _ _ (by rw [hsize]; exact hlt) ⟨hit', hal _ F'.keep⟩ fun v h₂ tk₂ hMd hk₂ => ?_
        refine W.go i v _ _ _ hMd fun h₃ hP hst₃ hk₃ => ?_
        obtain ⟨T, hT⟩ : ∃ T, ts[i]? = some T := ⟨ts[i], List.getElem?_eq_getElem hlt⟩
        have hPv : v = .ref T := by
          have hP' : ((ts.map Value.ref).toArray)[i]? = some v := hP
          rw [List.getElem?_toArray, List.getElem?_map, hT] at hP'
          exact (Option.some.inj hP').symm
        subst hPv
        have up₃ : ∀ c o, c ≠ I → h'.get? c = some o → h₃.get? c = some o := fun c o hc e => hk₃ c o (by simpa using hc) (hk₂ c o (by simpa using hc) e)
        have hTT : h₃.IsTuple T #[x i, y i, z i] := (hxs i T hT).at fun o e => up₃ _ _ (fun q => by rw [q, hI₀] at e; cases e) (F'.keep _ _ e)
        refine kcp_assign3 (env := compEnvC scope cl H2.objs.size env) hh hTT (lookup_relabel_local hxa) (lookup_relabel_local hxb) (lookup_relabel_local hxc) (by simp [compEnvC, relabel, hkind]) (hn'.at' fun o e => up₃ _ o (Ne.symm hCI) e) fun h₄ tk₄ hn₄ hs₄ => ?_
        have up : ∀ c o, c ≠ I → c ≠ H2.objs.size → h'.get? c = some o → h₄.get? c = some o := fun c o h1 h2 e => hs₄ c o h2 (up₃ c o h1 e)
        have hI₄ : h₄.IsListIter I d (i + 1) := (hst₃.1).at fun o e => hs₄ I _ hCI e
        obtain ⟨oI, heI, hoI1, hoI2⟩ := id hI₄
        obtain ⟨oC, heC, hoC⟩ := ns_obj hn₄
        have F₄ : Fr h₀ L h₄ m := ⟨F'.ns.at' fun o e => up _ o hIL (Ne.symm hCL) e, fun c o e => up c o (fun q => by rw [q, hI₀] at e; cases e) (fun q => by rw [q, hC₀] at e; cases e) (F'.keep c o e), F'.above⟩
        have N₄ : News h₀ L h₄ ((I, oI) :: (H2.objs.size, oC) :: (s₂.heap.objs.size, lst ys) :: news') := fun q hq => by
          rcases List.mem_cons.mp hq with rfl | hq
          · exact ⟨heI, Ne.symm hIL, hI₀⟩
          · rcases List.mem_cons.mp hq with rfl | hq
            · exact ⟨heC, hCL, hC₀⟩
            · have z := N' q hq
              refine ⟨up _ _ ?_ ?_ z.1, z.2⟩
              · rcases List.mem_cons.mp hq with rfl | hq
                · exact Ne.symm hDI
                · exact (off3 q hq).1
              · rcases List.mem_cons.mp hq with rfl | hq
                · exact hDC
                · exact (off3 q hq).2.1
        refine wpAny_mono (turn i ys news' I oI H2.objs.size oC s₂.heap.objs.size _ h₄ _ _ hlt R' hoC (by simp [hab, hac]) (by simp [hbc]) (by simp) F₄ N₄ off' ⟨hCI, hDI, Ne.symm hDC⟩) (fun y s₅ h₅ => ?_) fun _ _ e => e
        obtain ⟨h₅, tk₅, news₅, rfl, F₅, N₅, off₅, _, R₅⟩ := h₅
        have zI := (N₅ (I, oI) List.mem_cons_self).1
        have zC := (N₅ (H2.objs.size, oC) (List.mem_cons_of_mem _ List.mem_cons_self)).1
        have zD := (N₅ (s₂.heap.objs.size, lst ys) (List.mem_cons_of_mem _ (List.mem_cons_of_mem _ List.mem_cons_self))).1
        have N₅' : News h₀ L h₅ news₅ := fun q hq => N₅ q (List.mem_cons_of_mem _ (List.mem_cons_of_mem _ (List.mem_cons_of_mem _ hq)))
        refine append_at (hsz := by show ys.toArray.size ≤ sizeLine; rw [List.size_toArray, hyl]; exact Nat.le_trans hi hsz) zD fun h₆ hs₆ hD₆ => ?_
        have off5 := off₅.mem
        refine ⟨ts.length + 1 - (i + 1), by (first | decide | with_reducible assumption | with_reducible exact Nat.le_trans (by assumption) (by decide) | with_reducible exact Nat.lt_of_lt_of_le (Nat.add_lt_add_right (by assumption) _) (by decide) | with_reducible exact Int.natCast_nonneg _ | omega), h₆, tk₅, i + 1, ys ++ [y], _, news₅, rfl, hlt, rfl, by rw [List.length_append, List.length_singleton, hyl], ⟨oI, hs₆.extBut I oI hDI zI, hoI1, hoI2⟩, F₅.change hs₆ hDL hD₀,
          (hoC.ns zC).sameBut hs₆ (Ne.symm hDC), fun q hq => ?_, off₅, R₅⟩
        rcases List.mem_cons.mp hq with rfl | hq
        · exact ⟨hD₆.trans (congrArg some (lst_snoc ys y)), hDL, hD₀⟩
        · exact ⟨hs₆.extBut _ _ (off5 q hq).2.2 (N₅' q hq).1, (N₅' q hq).2⟩
      · have hin : i = ts.length := Nat.le_antisymm hi (Nat.not_lt.mp hlt)
        subst hin
        refine W.done _ _ _ ⟨by rw [hsize]; exact hit', hal _ F'.keep⟩ fun h₂ tk₂ hk₂ => ?_
        exact hRR _ _ h₂ tk₂ _ ys news' (fr_but F' hk₂ hIL hI₀) (news_but N' hk₂ fun p hp => by
          rcases List.mem_cons.mp hp with rfl | hp
          · exact Ne.symm hDI
          · exact (off3 p hp).1) off'.one (hn'.at' fun o e => hk₂ _ o (by simpa using Ne.symm hCI) e) hC₀ hD₀ hCL hDL (Ne.symm hDC) (fun p hp => (off3 p hp).2.1) R'
    · rcases List.mem_cons.mp hp with rfl | hp
      · exact ⟨hacc, hDL, hD₀⟩
      · exact ⟨old _ _ (N p hp).1, (N p hp).2⟩
  exact codeAny_compStart_list (loop _ rfl) (wpAny_pyIter_listiter hit₁ (loop _ rfl))

def Src3 (prog : Program) (w : World) (A : Around) (h₀ : Heap) (L : Addr) (m : Str → Option Value) (env : Env) (elt : PySem.Expr) (a b c yv : Str) (scope : Scope) (cl : List (Str × Addr)) (Q : Flow → Shared → Prop) (xv : Value) (s₁ : Shared) : Prop :=
  ∃ (d : Addr) (ts : List Addr) (x y z : Nat → Value) (news : List (Addr × Obj)) (Inv : Nat → List Value → List (Addr × Obj) → Prop), xv = .ref d ∧ A.handled = none ∧ Fr h₀ L s₁.heap m ∧ News h₀ L s₁.heap news ∧
      h₀.IsList d (ts.map Value.ref).toArray ∧ ts.length ≤ sizeLine ∧ (∀ (i : Nat) (T : Addr), ts[i]? = some T → h₀.IsTuple T #[x i, y i, z i]) ∧ Inv 0 [] news ∧
      (∀ i ys nx I oI C oC D m₂ h tk (E' : Value → Shared → Prop), i < ts.length → Inv i ys nx → NsObj oC m₂ → m₂ a = some (x i) → m₂ b = some (y i) → m₂ c = some (z i) → Fr h₀ L h m → News h₀ L h ((I, oI) :: (C, oC) :: (D, lst ys) :: nx) → Off3 I C D nx → ((@Ne Nat I C) ∧ (@Ne Nat I D) ∧ (@Ne Nat C D)) →
        wpAny (model prog w) A (eval elt (compEnvC scope cl C env)) (CompEnd h₀ L m ⟨h, s₁.gens, s₁.drawn, tk, s₁.os⟩ I oI C oC D (lst ys) (fun _ => True) (fun y news' => Inv (i + 1) (ys ++ [y]) news')) E' ⟨h, s₁.gens, s₁.drawn, tk, s₁.os⟩) ∧
      (∀ D h tk ys news', Fr h₀ L h (fun z => if z = yv then some (.ref D) else m z) → News h₀ L h ((D, lst ys) :: news') → Off1 D news' → Inv ts.length ys news' → Q .next ⟨h, s₁.gens, s₁.drawn, tk, s₁.os⟩)
theorem Assign_ListComp_3 {elt iter : PySem.Expr} {a b c yv : Str} {pa pb pc tp py : Pos} {kk : Nat} {scope : Scope} {cl : List (Str × Addr)} {pos spos : Pos} {Q : Flow → Shared → Prop} (_F₀ : Fr h₀ L s.heap m) (hLe : env.locals = L)
    (hsw : swapsWith (.ListComp elt [⟨.Tuple [.Name a pa, .Name b pb, .Name c pc] kk tp, iter, [], 0⟩] scope pos) (some (.Name yv py)) spos.line env = pure true)
    (hclos : closureFor scope env = pure cl) (hcell : ∀ z ∈ scope.names, z.2 ≠ .cell) (hkind : scope.kind = .function)
    (hnames : ∀ z ∈ scope.names, z.2 = .local → scope.names.lookup z.1 = some .local) (hxa : scope.names.lookup a = some .local) (hxb : scope.names.lookup b = some .local) (hxc : scope.names.lookup c = some .local) (hab : ¬ a = b) (hac : ¬ a = c) (hbc : ¬ b = c)
    (hy : env.kindOf yv = some .local) (hp : (env.scope.kind == .class || (env.scope.kind == .module && env.locals != env.globals)) = false)
    (h : wpAny (model prog w) A (eval iter env) (Src3 prog w A h₀ L m env elt a b c yv scope cl Q) E s)
    (hs : ∀ x, foldedSetIterable iter env x = pure x := by intro _; rfl) :
    wpAny (model prog w) A (exec (.Assign [.Name yv py] (.ListComp elt [⟨.Tuple [.Name a pa, .Name b pb, .Name c pc] kk tp, iter, [], 0⟩] scope pos) spos) env) Q E s := by
  subst hLe
  rw [exec_Assign_Name_used _ _ _ _ hsw]
  refine wpAny_bind (wpAny_standAt (wpAny_bind ?_))
  show wpAny _ A (do let _ ← comprehension (.ListComp elt [⟨.Tuple [.Name a pa, .Name b pb, .Name c pc] kk tp, iter, [], 0⟩] scope pos) scope env _ (newList []) false (eval iter env) (some (assign (.Name yv py) env))) _ _ s
  refine wpAny_bind (wpAny_mono (wpAny_comprehension_free (use := some (assign (.Name yv py) env)) (Q := fun _ s' => Q .next s') rfl hs hclos hkind hnames
    (wpAny_mono h (fun xv s₁ h₁ => ?_) fun _ _ e => e)) (fun _ s' hq => wpAny_pure (wpAny_pure hq)) fun _ _ e => e)
  obtain ⟨d, ts, x, y, z, news, Inv, rfl, hh, F, N, hat, hsz, hxs, h0, turn, fin⟩ := h₁
  have hl : s₁.heap.IsList d (ts.map Value.ref).toArray := hat.at fun o e => F.keep _ o e
  have hlt : d < s₁.heap.objs.size := by obtain ⟨_, e, _⟩ := hl; exact Heap.lt_size e
  refine wpAny_pyIter_list hl ?_
  refine comp3_block (s₂ := ⟨_, s₁.gens, s₁.drawn, _, s₁.os⟩) Inv hh (Nat.ne_of_lt hlt) hsz hat hxs ⟨_, Heap.get?_push_size _ rfl, rfl, rfl⟩ hcell hkind hxa hxb hxc hab hac hbc (F.push _)
    (fun p hp => ⟨Heap.get?_push_of_some _ (N p hp).1, (N p hp).2⟩) (Nat.ne_of_lt F.ns.lt) (next_is_new F) (fun p hp => Nat.ne_of_lt (Heap.lt_size (N p hp).1)) h0 (fun i ys nx I oI C oC D m₂ h tk E' => turn i ys nx I oI C oC D m₂ h tk E') ?_
  intro D C h' tk m' ys news' F' N' o1 hn hC₀ hD₀ hCL hDL hCD offC hI
  show wpAny _ A (assign (.Name yv py) env (.ref D)) _ _ _
  refine wpAny_assign_Name (wpAny_storeName_local hy F'.ns (fun h₂ hn₂ hs₂ => ?_) hp)
  have hL₀ : h₀.get? env.locals = none := Heap.get?_none_of_le F'.above
  have F₂ : Fr h₀ env.locals h₂ (fun z => if z = yv then some (.ref D) else m z) := ⟨hn₂, fun b o e => hs₂.extBut b o (fun q => by rw [q, hL₀] at e; cases e) (F'.keep b o e), F'.above⟩
  refine ⟨m', hn.sameBut hs₂ hCL, fun h'' hs'' => fin D h'' _ ys news' (F₂.change hs'' hCL hC₀) (fun p hp => ?_) o1 hI⟩
  have z : h₂.get? p.1 = some p.2 := hs₂.extBut _ _ (N' p hp).2.1 (N' p hp).1
  refine ⟨hs''.extBut _ _ ?_ z, (N' p hp).2⟩
  rcases List.mem_cons.mp hp with rfl | hp
  · exact Ne.symm hCD
  · exact offC p hp
theorem comp_end3 {h' : Heap} {s₁ : Shared} {T I C D : Addr} {oT oI oC : Obj} {ys : List Value} {nx : List (Addr × Obj)} {rest : Value → List (Addr × Obj) → Prop} {tk : Nat} (F : Fr h₀ L h' m) (N : News h₀ L h' ((T, oT) :: (I, oI) :: (C, oC) :: (D, lst ys) :: nx))
    (l1 : (@LT.lt Nat _ I T) ∧ (@LT.lt Nat _ C T) ∧ (@LT.lt Nat _ D T) ∧ AllLt T nx) (off : Off3 I C D nx) (r : rest (.ref T) (nx ++ [(T, oT)])) : CompEnd h₀ L m s₁ I oI C oC D (lst ys) (fun _ => True) rest (.ref T) { s₁ with heap := h', toks := tk } := by
  refine CompEnd.intro F N (nx ++ [(T, oT)]) ?_ (Off3.of ?_) trivial r
  · intro p hp
    simp only [List.mem_cons, List.mem_append, List.not_mem_nil, or_false] at hp ⊢
    rcases hp with hp | hp | hp | hp | hp
    · exact .inr (.inl hp)
    · exact .inr (.inr (.inl hp))
    · exact .inr (.inr (.inr (.inl hp)))
    · exact .inr (.inr (.inr (.inr hp)))
    · exact .inl hp
  · intro p hp
    rcases List.mem_append.mp hp with hp | hp
    · exact off.mem p hp
    · rw [List.mem_singleton.mp hp]; exact ⟨Nat.ne_of_gt l1.1, Nat.ne_of_gt l1.2.1, Nat.ne_of_gt l1.2.2.1⟩
theorem comp_end4 {h' : Heap} {s₁ : Shared} {T I C D : Addr} {oT oI oC : Obj} {ys : List Value} {nx : List (Addr × Obj)} {S : List (Addr × Obj) → Prop} {rest : Value → List (Addr × Obj) → Prop} {tk : Nat} (F : Fr h₀ L h' m) (N : News h₀ L h' ((T, oT) :: (I, oI) :: (C, oC) :: (D, lst ys) :: nx))
    (l1 : T ≠ I ∧ T ≠ C ∧ T ≠ D) (off : Off3 I C D nx) (hS : S (nx ++ [(T, oT)])) (r : rest (.ref T) (nx ++ [(T, oT)])) : CompEnd h₀ L m s₁ I oI C oC D (lst ys) S rest (.ref T) { s₁ with heap := h', toks := tk } := by
  refine CompEnd.intro F N (nx ++ [(T, oT)]) ?_ (Off3.of ?_) hS r
  · intro p hp
    simp only [List.mem_cons, List.mem_append, List.not_mem_nil, or_false] at hp ⊢
    rcases hp with hp | hp | hp | hp | hp
    · exact .inr (.inl hp)
    · exact .inr (.inr (.inl hp))
    · exact .inr (.inr (.inr (.inl hp)))
    · exact .inr (.inr (.inr (.inr hp)))
    · exact .inl hp
  · intro p hp
    rcases List.mem_append.mp hp with hp | hp
    · exact off.mem p hp
    · rw [List.mem_singleton.mp hp]; exact l1
end
end Mine
namespace Mine
open PySem PySem.W PySem.Calls PyProof.Rows PySem.Spec PyProof.Rows.LCg
section
variable {prog : Program} {w : World} {A : Around} {E : Value → Shared → Prop} {s : Shared} {h₀ : Heap} {L : Addr} {m : Str → Option Value} {env : Env}
theorem folded_tup {elts : List PySem.Expr} {k : Nat} {pos : Pos} (x : Value) : foldedSetIterable (.Tuple elts k pos) env x = pure x := rfl
def SrcTup (ax : Addr) (its : Array Value) (news : List (Addr × Obj)) : Prop := ∃ o, (ax, o) ∈ news ∧ o.cls = .type "tuple" ∧ ∃ n, o.data = .seq its n
theorem SrcTup.tup {h : Heap} {ax : Addr} {its : Array Value} {news : List (Addr × Obj)} (x : SrcTup ax its news) (N : News h₀ L h news) : h.IsTuple ax its :=
  let ⟨o, hm, c, r⟩ := x; ⟨o, (N _ hm).1, c, r⟩
theorem tup_st {ax I : Addr} {its : Array Value} : ∀ i (h h' : Heap) (o : Obj) (nw : List (Addr × Obj)), (h.IsTupleIter I ax i ∧ h.IsTuple ax its) → h.get? I = some o → h'.get? I = some o → (∀ b o, h₀.get? b = some o → h'.get? b = some o) → News h₀ L h' nw → SrcTup ax its nw → (h'.IsTupleIter I ax i ∧ h'.IsTuple ax its) :=
  fun i h h' o nw st e e' k N S => ⟨by obtain ⟨o', q, r⟩ := st.1; rw [e] at q; cases q; exact ⟨o, e', r⟩, S.tup N⟩
def SrcT1 (prog : Program) (w : World) (A : Around) (h₀ : Heap) (L : Addr) (m : Str → Option Value) (env : Env) (elt : PySem.Expr) (x : Str) (scope : Scope) (cl : List (Str × Addr)) (Q : Value → Shared → Prop) (xv : Value) (s₁ : Shared) : Prop :=
  ∃ ax its news, xv = .ref ax ∧ A.handled = none ∧ Fr h₀ L s₁.heap m ∧ News h₀ L s₁.heap news ∧ SrcTup ax its news ∧ its.size ≤ sizeLine ∧
    ∀ hh, CompRest prog w A h₀ L m env elt x scope cl ⟨hh, s₁.gens, s₁.drawn, s₁.toks, s₁.os⟩ (SrcTup ax its) (fun i v => its[i]? = some v) (FinE h₀ L m ⟨hh, s₁.gens, s₁.drawn, s₁.toks, s₁.os⟩ Q) its.size 0 [] news
theorem ListComp_tup {elt iter : PySem.Expr} {x : Str} {px : Pos} {scope : Scope} {cl : List (Str × Addr)} {pos : Pos} {Q : Value → Shared → Prop} (_F₀ : Fr h₀ L s.heap m)
    (hclos : closureFor scope env = pure cl) (hcell : ∀ y ∈ scope.names, y.2 ≠ .cell) (hkind : scope.kind = .function)
    (hnames : ∀ y ∈ scope.names, y.2 = .local → scope.names.lookup y.1 = some .local) (hx : scope.names.lookup x = some .local)
    (h : wpAny (model prog w) A (eval iter env) (SrcT1 prog w A h₀ L m env elt x scope cl Q) E s)
    (hs : ∀ x, foldedSetIterable iter env x = pure x := by intro _; rfl) :
    wpAny (model prog w) A (eval (.ListComp elt [⟨.Name x px, iter, [], 0⟩] scope pos) env) Q E s := by
  rw [eval_ListComp]
  refine wpAny_comprehension_free (use := none) rfl hs hclos hkind hnames (wpAny_mono h (fun xv s₁ h₁ => ?_) fun _ _ e => e)
  obtain ⟨ax, its, news, rfl, hh, F, N, S, hsz, R⟩ := h₁
  have hl := S.tup N
  have hlt : ax < s₁.heap.objs.size := by obtain ⟨_, e, _⟩ := hl; exact Heap.lt_size e
  refine wpAny_pyIter_tuple hl ?_
  have up : ∀ b o, s₁.heap.get? b = some o → (s₁.heap.push { cls := .type "tuple_iterator", data := .fields #[.ref ax, .int 0 0] }).get? b = some o := fun b o e => Heap.get?_push_of_some _ e
  refine block_U (Walks.tuple hh s₁.heap.objs.size ax (Nat.ne_of_lt hlt) its) hsz (fun i h st => by obtain ⟨o, e, _⟩ := st.1; exact ⟨o, e⟩) tup_st hcell hkind hx ⟨⟨_, Heap.get?_push_size _ rfl, rfl, rfl⟩, hl.at fun o e => Heap.get?_push_of_some _ e⟩ (fun b hb => ?_)
    (F.keeps up) (N.grown up) (Nat.ne_of_lt F.ns.lt) (next_is_new F) (fun p hp => Nat.ne_of_lt (Heap.lt_size (N p hp).1)) S (R _) ?_
  · show b < (s₁.heap.push _).objs.size
    rw [Heap.size_push]
    rcases List.mem_cons.mp hb with rfl | hb
    · exact Nat.lt_succ_self _
    · rw [List.mem_singleton.mp hb]; exact Nat.lt_succ_of_lt hlt
  · intro D C h tk m' ys news' F' N' o1 hn hC₀ hD₀ hCL hDL hCD offC fin
    refine ⟨m', hn, fun h'' hs'' => fin D h'' tk (F'.change hs'' hCL hC₀) (fun p hp => ?_) o1⟩
    refine ⟨hs''.extBut _ _ ?_ (N' p hp).1, (N' p hp).2⟩
    rcases List.mem_cons.mp hp with rfl | hp
    · exact Ne.symm hCD
    · exact offC p hp
def SrcT2 (prog : Program) (w : World) (A : Around) (h₀ : Heap) (L : Addr) (m : Str → Option Value) (env : Env) (ct elt : PySem.Expr) (x yv : Str) (scope : Scope) (cl : List (Str × Addr)) (Q : Flow → Shared → Prop) (xv : Value) (s₁ : Shared) : Prop :=
  ∃ ax its news, xv = .ref ax ∧ A.handled = none ∧ Fr h₀ L s₁.heap m ∧ News h₀ L s₁.heap news ∧ SrcTup ax its news ∧ its.size ≤ sizeLine ∧
    ∀ hh, LCt.CompRestT prog w A h₀ L m env ct elt x scope cl ⟨hh, s₁.gens, s₁.drawn, s₁.toks, s₁.os⟩ (SrcTup ax its) (fun i v => its[i]? = some v) (FinA h₀ L m ⟨hh, s₁.gens, s₁.drawn, s₁.toks, s₁.os⟩ yv Q) its.size 0 [] news
theorem Assign_ListComp_tupT {ct elt iter : PySem.Expr} {x y : Str} {px py : Pos} {scope : Scope} {cl : List (Str × Addr)} {pos spos : Pos} {Q : Flow → Shared → Prop} (_F₀ : Fr h₀ L s.heap m) (hLe : env.locals = L)
    (hsw : swapsWith (.ListComp elt [⟨.Name x px, iter, [ct], 0⟩] scope pos) (some (.Name y py)) spos.line env = pure true)
    (hclos : closureFor scope env = pure cl) (hcell : ∀ z ∈ scope.names, z.2 ≠ .cell) (hkind : scope.kind = .function)
    (hnames : ∀ z ∈ scope.names, z.2 = .local → scope.names.lookup z.1 = some .local) (hx : scope.names.lookup x = some .local)
    (hy : env.kindOf y = some .local) (hp : (env.scope.kind == .class || (env.scope.kind == .module && env.locals != env.globals)) = false)
    (h : wpAny (model prog w) A (eval iter env) (SrcT2 prog w A h₀ L m env ct elt x y scope cl Q) E s)
    (hs : ∀ x, foldedSetIterable iter env x = pure x := by intro _; rfl) :
    wpAny (model prog w) A (exec (.Assign [.Name y py] (.ListComp elt [⟨.Name x px, iter, [ct], 0⟩] scope pos) spos) env) Q E s := by
  subst hLe
  rw [exec_Assign_Name_used _ _ _ _ hsw]
  refine wpAny_bind (wpAny_standAt (wpAny_bind ?_))
  show wpAny _ A (do let _ ← comprehension (.ListComp elt [⟨.Name x px, iter, [ct], 0⟩] scope pos) scope env _ (newList []) false (eval iter env) (some (assign (.Name y py) env))) _ _ s
  refine wpAny_bind (wpAny_mono (wpAny_comprehension_free (use := some (assign (.Name y py) env)) (Q := fun _ s' => Q .next s') rfl hs hclos hkind hnames
    (wpAny_mono h (fun xv s₁ h₁ => ?_) fun _ _ e => e)) (fun _ s' hq => wpAny_pure (wpAny_pure hq)) fun _ _ e => e)
  obtain ⟨ax, its, news, rfl, hh, F, N, S, hsz, R⟩ := h₁
  have hl := S.tup N
  have hlt : ax < s₁.heap.objs.size := by obtain ⟨_, e, _⟩ := hl; exact Heap.lt_size e
  refine wpAny_pyIter_tuple hl ?_
  have up : ∀ b o, s₁.heap.get? b = some o → (s₁.heap.push { cls := .type "tuple_iterator", data := .fields #[.ref ax, .int 0 0] }).get? b = some o := fun b o e => Heap.get?_push_of_some _ e
  refine LCt.block_T (Walks.tuple hh s₁.heap.objs.size ax (Nat.ne_of_lt hlt) its) hsz (fun i h st => by obtain ⟨o, e, _⟩ := st.1; exact ⟨o, e⟩) tup_st hcell hkind hx ⟨⟨_, Heap.get?_push_size _ rfl, rfl, rfl⟩, hl.at fun o e => Heap.get?_push_of_some _ e⟩ (fun b hb => ?_)
    (F.keeps up) (N.grown up) (Nat.ne_of_lt F.ns.lt) (next_is_new F) (fun p hp => Nat.ne_of_lt (Heap.lt_size (N p hp).1)) S (R _) ?_
  · show b < (s₁.heap.push _).objs.size
    rw [Heap.size_push]
    rcases List.mem_cons.mp hb with rfl | hb
    · exact Nat.lt_succ_self _
    · rw [List.mem_singleton.mp hb]; exact Nat.lt_succ_of_lt hlt
  · intro D C h' tk m' ys news' F' N' o1 hn hC₀ hD₀ hCL hDL hCD offC fin
    show wpAny _ A (assign (.Name y py) env (.ref D)) _ _ _
    refine wpAny_assign_Name (wpAny_storeName_local hy F'.ns (fun h₂ hn₂ hs₂ => ?_) hp)
    have hL₀ : h₀.get? env.locals = none := Heap.get?_none_of_le F'.above
    have F₂ : Fr h₀ env.locals h₂ (fun z => if z = y then some (.ref D) else m z) := ⟨hn₂, fun b o e => hs₂.extBut b o (fun q => by rw [q, hL₀] at e; cases e) (F'.keep b o e), F'.above⟩
    refine ⟨m', hn.sameBut hs₂ hCL, fun h'' hs'' => fin D h'' _ (F₂.change hs'' hCL hC₀) (fun p hp => ?_) o1⟩
    have z : h₂.get? p.1 = some p.2 := hs₂.extBut _ _ (N' p hp).2.1 (N' p hp).1
    refine ⟨hs''.extBut _ _ ?_ z, (N' p hp).2⟩
    rcases List.mem_cons.mp hp with rfl | hp
    · exact Ne.symm hCD
    · exact offC p hp
end
end Mine
namespace Mine
open PySem PySem.W PySem.Calls PyProof.Rows PyProof.V
/-- (place, node, mode) -/
abbrev RowT : Type := Int × Int × Int
def NodeOk (k : Int) : Prop := 1 ≤ k ∧ k ≤ 14
theorem NodeOk.cases {k : Int} (h : NodeOk k) : k = 1 ∨ k = 2 ∨ k = 3 ∨ k = 4 ∨ k = 5 ∨ k = 6 ∨ k = 7 ∨ k = 8 ∨ k = 9 ∨ k = 10 ∨ k = 11 ∨ k = 12 ∨ k = 13 ∨ k = 14 := by
  exact cases14 h.1 h.2
theorem NodeOk.all {P : Int → Prop} (h : ∀ k ∈ ([1, 2, 3, 4, 5, 6, 7, 8, 9, 10, 11, 12, 13, 14] : List Int), P k) {k : Int} (hk : NodeOk k) : P k := h k (in14 (P := fun k => 1 ≤ k → k ∈ ([1, 2, 3, 4, 5, 6, 7, 8, 9, 10, 11, 12, 13, 14] : List Int)) (by decide +kernel) (Int.le_trans (by decide) hk.1) hk.2 hk.1)
def keyS (k : Int) : Str := textOf k ++ Str.ofString "/"
def pathS (k : Int) : Str := if k = 0 then Str.ofString "/" else textOf k
theorem rows_norm {x : Str} {k : Int} (hk : NodeOk k) (h : RowStr x k) : normS x = textOf k ∧ x.length ≤ 5000 ∧ ((x.length : Nat) : Int) ≠ 0 ∧ Txt.slice x none (some 1) = Str.ofString "/" ∧ Txt.slice x (some 1) (some 2) ≠ Str.ofString "/" ∧
    (Txt.split (Txt.slice x (some 1) none) (Str.ofString "/")).length ≤ 100 ∧ ∀ c ∈ Txt.split (Txt.slice x (some 1) none) (Str.ofString "/"), c.length ≤ 1000 := by
  obtain ⟨d, hd, rfl⟩ := h
  have := NodeOk.all (P := fun k => ∀ d ∈ detours, normS (jstep (jstep "/" d) (Txt.slice (textOf k) (some 1) none)) = textOf k ∧ (jstep (jstep "/" d) (Txt.slice (textOf k) (some 1) none)).length ≤ 5000 ∧ (((jstep (jstep "/" d) (Txt.slice (textOf k) (some 1) none)).length : Nat) : Int) ≠ 0 ∧
    Txt.slice (jstep (jstep "/" d) (Txt.slice (textOf k) (some 1) none)) none (some 1) = Str.ofString "/" ∧ Txt.slice (jstep (jstep "/" d) (Txt.slice (textOf k) (some 1) none)) (some 1) (some 2) ≠ Str.ofString "/" ∧
    (Txt.split (Txt.slice (jstep (jstep "/" d) (Txt.slice (textOf k) (some 1) none)) (some 1) none) (Str.ofString "/")).length ≤ 100 ∧ ∀ c ∈ Txt.split (Txt.slice (jstep (jstep "/" d) (Txt.slice (textOf k) (some 1) none)) (some 1) none) (Str.ofString "/"), c.length ≤ 1000) (by decide +kernel) hk
  exact this d hd
theorem dir_key {k : Int} (hk : NodeOk k) : dirS (keyS k) = textOf k := NodeOk.all (P := fun k => dirS (keyS k) = textOf k) (by decide +kernel) hk
theorem dir_text {k : Int} (hk : NodeOk k) : dirS (textOf k) = pathS ((k - 1) / 2) := NodeOk.all (P := fun k => dirS (textOf k) = pathS ((k - 1) / 2)) (by decide +kernel) hk
theorem key_len {k : Int} (hk : NodeOk k) : (keyS k).length ≤ 1000 ∧ (textOf k).length ≤ 1000 := NodeOk.all (P := fun k => (keyS k).length ≤ 1000 ∧ (textOf k).length ≤ 1000) (by decide +kernel) hk
theorem path_text {k : Int} (hk : NodeOk k) : textOf k = pathS k := by
  unfold pathS; rw [if_neg (by unfold NodeOk at hk; (first | decide | with_reducible assumption | with_reducible exact Nat.le_trans (by assumption) (by decide) | with_reducible exact Nat.lt_of_lt_of_le (Nat.add_lt_add_right (by assumption) _) (by decide) | with_reducible exact Int.natCast_nonneg _ | omega))]
theorem path_inj {a b : Int} (ha : 0 ≤ a) (ha' : a ≤ 14) (hb : 0 ≤ b) (hb' : b ≤ 14) (h : pathS a = pathS b) : a = b := by
  have key : ∀ a ∈ ([0, 1, 2, 3, 4, 5, 6, 7, 8, 9, 10, 11, 12, 13, 14] : List Int), ∀ b ∈ ([0, 1, 2, 3, 4, 5, 6, 7, 8, 9, 10, 11, 12, 13, 14] : List Int), pathS a = pathS b → a = b := by decide +kernel
  refine key a ?_ b ?_ h
  · have h : a = 0 ∨ NodeOk a := by unfold NodeOk; (first | decide | with_reducible assumption | with_reducible exact Nat.le_trans (by assumption) (by decide) | with_reducible exact Nat.lt_of_lt_of_le (Nat.add_lt_add_right (by assumption) _) (by decide) | with_reducible exact Int.natCast_nonneg _ | omega)
    rcases h with rfl | h
    · decide
    · exact NodeOk.all (P := fun a => a ∈ ([0, 1, 2, 3, 4, 5, 6, 7, 8, 9, 10, 11, 12, 13, 14] : List Int)) (by decide) h
  · have h : b = 0 ∨ NodeOk b := by unfold NodeOk; (first | decide | with_reducible assumption | with_reducible exact Nat.le_trans (by assumption) (by decide) | with_reducible exact Nat.lt_of_lt_of_le (Nat.add_lt_add_right (by assumption) _) (by decide) | with_reducible exact Int.natCast_nonneg _ | omega)
    rcases h with rfl | h
    · decide
    · exact NodeOk.all (P := fun a => a ∈ ([0, 1, 2, 3, 4, 5, 6, 7, 8, 9, 10, 11, 12, 13, 14] : List Int)) (by decide) h
end Mine
namespace Mine
open PySem PySem.W PySem.Calls PyProof.Rows PyProof.V
/-! rows as they lie in the heap of the sweep -/
def tupK (k : Str) (p m : Int) (t u v : Tok) : Obj := tupOf [.str k t, .int p u, .int m v]
def HeapObj (o : Obj) (r : RowT) : Prop := ∃ t u v, o = tupK (keyS r.2.1) r.1 r.2.2 t u v
def nodeOf (k : Str) : Int := (([1, 2, 3, 4, 5, 6, 7, 8, 9, 10, 11, 12, 13, 14] : List Int).find? fun n => decide (keyS n = k)).getD 0
theorem nodeOf_key {k : Int} (hk : NodeOk k) : nodeOf (keyS k) = k := NodeOk.all (P := fun k => nodeOf (keyS k) = k) (by decide +kernel) hk
def rowOfObj (o : Obj) : RowT := match o.data with
  | .seq a _ => match a.toList with
    | [.str k _, .int p _, .int m _] => (p, nodeOf k, m)
    | _ => (0, 0, 0)
  | _ => (0, 0, 0)
def rowV (h : Heap) (v : Value) : RowT := match v with
  | .ref a => match h.get? a with
    | some o => rowOfObj o
    | none => (0, 0, 0)
  | _ => (0, 0, 0)
theorem rowOfObj_eq {o : Obj} {r : RowT} (h : HeapObj o r) (hr : NodeOk r.2.1) : rowOfObj o = r := by
  obtain ⟨t, u, v, rfl⟩ := h
  show (r.1, nodeOf (keyS r.2.1), r.2.2) = r
  rw [nodeOf_key hr]
theorem rowV_eq {h : Heap} {a : Addr} {o : Obj} {r : RowT} (e : h.get? a = some o) (ho : HeapObj o r) (hr : NodeOk r.2.1) : rowV h (.ref a) = r := by
  unfold rowV; simp only [e]; exact rowOfObj_eq ho hr
def keyR (r : RowT) : Key := ((keyS r.2.1).cps.toList, r.1, r.2.2)
def ltR (a b : RowT) : Bool := keyLt (keyR a) (keyR b)
def leR (a b : RowT) : Prop := ltR b a = false
theorem key_tr (a b c : Key) (h1 : keyLt b a = false) (h2 : keyLt c b = false) : keyLt c a = false := by
  unfold keyLt at *
  simp only [Bool.or_eq_false_iff, Bool.and_eq_false_iff, decide_eq_false_iff_not, List.not_lt] at *
  obtain ⟨h1, h1'⟩ := h1
  obtain ⟨h2, h2'⟩ := h2
  refine ⟨List.le_trans h1 h2, ?_⟩
  by_cases e : c.1 = a.1
  · right
    have eb : b.1 = a.1 := by
      have : a.1 ≤ b.1 := h1
      have h3 : b.1 ≤ a.1 := e ▸ h2
      exact List.le_antisymm h3 this
    have ec : c.1 = b.1 := e.trans eb.symm
    rcases h1' with q | ⟨q1, q2⟩
    · exact absurd eb q
    rcases h2' with q | ⟨q3, q4⟩
    · exact absurd ec q
    refine ⟨by (first | decide | with_reducible assumption | with_reducible exact Nat.le_trans (by assumption) (by decide) | with_reducible exact Nat.lt_of_lt_of_le (Nat.add_lt_add_right (by assumption) _) (by decide) | with_reducible exact Int.natCast_nonneg _ | omega), ?_⟩
    by_cases e2 : c.2.1 = a.2.1
    · right
      have : b.2.1 = a.2.1 := by (first | decide | with_reducible assumption | with_reducible exact Nat.le_trans (by assumption) (by decide) | with_reducible exact Nat.lt_of_lt_of_le (Nat.add_lt_add_right (by assumption) _) (by decide) | with_reducible exact Int.natCast_nonneg _ | omega)
      have : c.2.1 = b.2.1 := by (first | decide | with_reducible assumption | with_reducible exact Nat.le_trans (by assumption) (by decide) | with_reducible exact Nat.lt_of_lt_of_le (Nat.add_lt_add_right (by assumption) _) (by decide) | with_reducible exact Int.natCast_nonneg _ | omega)
      rcases q2 with q | q
      · exact absurd (by (first | decide | with_reducible assumption | with_reducible exact Nat.le_trans (by assumption) (by decide) | with_reducible exact Nat.lt_of_lt_of_le (Nat.add_lt_add_right (by assumption) _) (by decide) | with_reducible exact Int.natCast_nonneg _ | omega)) q
      rcases q4 with q' | q'
      · exact absurd (by (first | decide | with_reducible assumption | with_reducible exact Nat.le_trans (by assumption) (by decide) | with_reducible exact Nat.lt_of_lt_of_le (Nat.add_lt_add_right (by assumption) _) (by decide) | with_reducible exact Int.natCast_nonneg _ | omega)) q'
      (first | decide | with_reducible assumption | with_reducible exact Nat.le_trans (by assumption) (by decide) | with_reducible exact Nat.lt_of_lt_of_le (Nat.add_lt_add_right (by assumption) _) (by decide) | with_reducible exact Int.natCast_nonneg _ | omega)
    · exact .inl e2
  · exact .inl e
theorem key_as (a b : Key) (h : keyLt a b = true) : keyLt b a = false := by
  unfold keyLt at *
  simp only [Bool.or_eq_true, Bool.and_eq_true, decide_eq_true_eq, Bool.or_eq_false_iff, Bool.and_eq_false_iff, decide_eq_false_iff_not] at *
  rcases h with h | ⟨e, h⟩
  · exact ⟨List.lt_asymm h, .inl fun q => by rw [q] at h; exact List.lt_irrefl _ h⟩
  · refine ⟨by rw [e]; exact List.lt_irrefl _, .inr ?_⟩
    rcases h with h | ⟨e2, h⟩
    · exact ⟨by (first | decide | with_reducible assumption | with_reducible exact Nat.le_trans (by assumption) (by decide) | with_reducible exact Nat.lt_of_lt_of_le (Nat.add_lt_add_right (by assumption) _) (by decide) | with_reducible exact Int.natCast_nonneg _ | omega), .inl (by (first | decide | with_reducible assumption | with_reducible exact Nat.le_trans (by assumption) (by decide) | with_reducible exact Nat.lt_of_lt_of_le (Nat.add_lt_add_right (by assumption) _) (by decide) | with_reducible exact Int.natCast_nonneg _ | omega))⟩
    · exact ⟨by (first | decide | with_reducible assumption | with_reducible exact Nat.le_trans (by assumption) (by decide) | with_reducible exact Nat.lt_of_lt_of_le (Nat.add_lt_add_right (by assumption) _) (by decide) | with_reducible exact Int.natCast_nonneg _ | omega), .inr (by (first | decide | with_reducible assumption | with_reducible exact Nat.le_trans (by assumption) (by decide) | with_reducible exact Nat.lt_of_lt_of_le (Nat.add_lt_add_right (by assumption) _) (by decide) | with_reducible exact Int.natCast_nonneg _ | omega))⟩
def ltV (h : Heap) (u v : Value) : Bool := ltR (rowV h u) (rowV h v)
theorem ord_V (h : Heap) : Ord (ltV h) := ⟨fun _ _ _ h1 h2 => key_tr _ _ _ h1 h2, fun _ _ e => key_as _ _ e⟩
section
variable {prog : Program} {w : World}
theorem cmp_V {h h₀ : Heap} {V : List Value} (hV : ∀ v ∈ V, ∃ a o r, v = .ref a ∧ h.get? a = some o ∧ h₀.get? a = some o ∧ HeapObj o r ∧ NodeOk r.2.1) : CmpOk prog w h₀ (ltV h) V := by
  intro u hu v hv A s Q hun st hQ
  obtain ⟨a, o, r, rfl, e1, e2, ho, hr⟩ := hV u hu
  obtain ⟨b, o', r', rfl, e1', e2', ho', hr'⟩ := hV v hv
  have k : ltV h (.ref a) (.ref b) = lt3 (keyS r.2.1) r.1 r.2.2 (keyS r'.2.1) r'.1 r'.2.2 := by
    unfold ltV ltR; rw [rowV_eq e1 ho hr, rowV_eq e1' ho' hr']; rfl
  rw [k] at hQ
  obtain ⟨t, u, v, rfl⟩ := ho
  obtain ⟨t', u', v', rfl⟩ := ho'
  refine lt_tup3 (s := s) (by show A.units < 9900; (first | decide | with_reducible assumption | with_reducible exact Nat.le_trans (by assumption) (by decide) | with_reducible exact Nat.lt_of_lt_of_le (Nat.add_lt_add_right (by assumption) _) (by decide) | with_reducible exact Int.natCast_nonneg _ | omega)) ⟨t, u, v, 0, st _ _ e2⟩ ⟨t', u', v', 0, st _ _ e2'⟩ (hQ s.toks)
end
end Mine
namespace Mine
open PySem PySem.W PySem.Calls PyProof.Rows PyProof.V
theorem kdpLook_has {c : List (Str × Int)} {k : Str} {d : Int} : kdpLook c k d = if kdpHas c k = true then kdpLook c k 0 else d := by
  unfold kdpLook kdpHas
  cases h : c.find? fun p => decide (p.1 = k) with
  | none =>
    have : (c.any fun p => decide (p.1 = k)) = false := by
      rw [List.find?_eq_none] at h
      rw [List.any_eq_false]
      exact h
    rw [this]; rfl
  | some p =>
    have : (c.any fun p => decide (p.1 = k)) = true := List.any_eq_true.mpr ⟨p, List.mem_of_find?_eq_some h, (List.find?_eq_some_iff_append.mp h).1⟩
    rw [this]; rfl
theorem kdpLook_put (c : List (Str × Int)) (k j : Str) (v d : Int) : kdpLook (kdpPut c k v) j d = if j = k then v else kdpLook c j d := by
  unfold kdpLook kdpPut
  by_cases hc : (c.any fun p => decide (p.1 = k)) = true
  · rw [if_pos hc, List.find?_map]
    have e : ((fun p : Str × Int => decide (p.1 = j)) ∘ fun p => if decide (p.1 = k) = true then (p.1, v) else p) = fun p => decide (p.1 = j) := by
      funext p
      show decide ((if decide (p.1 = k) = true then (p.1, v) else p).1 = j) = decide (p.1 = j)
      by_cases hp : p.1 = k
      · rw [if_pos (decide_eq_true hp)]
      · rw [if_neg (by simp [hp])]
    rw [e]
    cases h : c.find? fun p => decide (p.1 = j) with
    | none =>
      have : j ≠ k := by
        rintro rfl
        obtain ⟨p, hp, q⟩ := List.any_eq_true.mp hc
        exact absurd q (by simpa using List.find?_eq_none.mp h p hp)
      simp [this]
    | some p =>
      have hp : p.1 = j := by simpa using List.find?_some h
      by_cases e2 : j = k
      · simp [hp, e2]
      · simp [hp, e2]
  · rw [if_neg hc, List.find?_append]
    by_cases e2 : j = k
    · subst e2
      have : c.find? (fun p => decide (p.1 = j)) = none := by
        rw [List.find?_eq_none]
        intro p hp q
        exact hc (List.any_eq_true.mpr ⟨p, hp, q⟩)
      rw [this]; simp
    · have : ([(k, v)] : List (Str × Int)).find? (fun p => decide (p.1 = j)) = none := by simp [Ne.symm e2]
      rw [this, Option.or_none, if_neg e2]
/-- the sweep, in plain words -/
def swStep (st : List RowT × (Int → Option Int)) (r : RowT) : List RowT × (Int → Option Int) :=
  if r.1 < (st.2 r.2.1).getD ((st.2 ((r.2.1 - 1) / 2)).getD 0) then
    ((if st.2 r.2.1 = none ∧ r.2.2.fdiv 4096 ≠ 2 then st.1 ++ [r] else st.1), fun k => if k = r.2.1 then some (if r.2.2.fdiv 4096 = 4 then (st.2 r.2.1).getD ((st.2 ((r.2.1 - 1) / 2)).getD 0) else r.1) else st.2 k)
  else st
def sw0 : List RowT × (Int → Option Int) := ([], fun k => if k = 0 then some 3 else none)
def SeenOk (cs : List (Str × Int)) (sn : Int → Option Int) : Prop := ∀ k, 0 ≤ k → k ≤ 14 → sn k = if kdpHas cs (pathS k) = true then some (kdpLook cs (pathS k) 0) else none
theorem SeenOk.look {cs : List (Str × Int)} {sn : Int → Option Int} (h : SeenOk cs sn) {k d : Int} (h0 : 0 ≤ k) (h1 : k ≤ 14) : kdpLook cs (pathS k) d = (sn k).getD d := by
  rw [kdpLook_has, h k h0 h1]
  split <;> rfl
theorem SeenOk.has {cs : List (Str × Int)} {sn : Int → Option Int} (h : SeenOk cs sn) {k : Int} (h0 : 0 ≤ k) (h1 : k ≤ 14) : kdpHas cs (pathS k) = true ↔ sn k ≠ none := by
  rw [h k h0 h1]
  split <;> simp_all
theorem SeenOk.put {cs : List (Str × Int)} {sn : Int → Option Int} (h : SeenOk cs sn) {n e : Int} (h0 : 0 ≤ n) (h1 : n ≤ 14) : SeenOk (kdpPut cs (pathS n) e) (fun k => if k = n then some e else sn k) := by
  intro k k0 k1
  show (if k = n then some e else sn k) = _
  rw [kdpHas_put, kdpLook_put]
  by_cases q : k = n
  · subst q; simp
  · have : pathS k ≠ pathS n := fun e => q (path_inj k0 k1 h0 h1 e)
    rw [if_neg q, if_neg this, h k k0 k1]
    simp [this]
theorem seen_start : SeenOk [(Str.ofString "/", 3)] sw0.2 := by
  have key : ∀ k ∈ ([0, 1, 2, 3, 4, 5, 6, 7, 8, 9, 10, 11, 12, 13, 14] : List Int), sw0.2 k = if kdpHas [(Str.ofString "/", 3)] (pathS k) = true then some (kdpLook [(Str.ofString "/", 3)] (pathS k) 0) else none := by decide +kernel
  intro k h0 h1
  refine key k ?_
  have : k = 0 ∨ NodeOk k := by unfold NodeOk; (first | decide | with_reducible assumption | with_reducible exact Nat.le_trans (by assumption) (by decide) | with_reducible exact Nat.lt_of_lt_of_le (Nat.add_lt_add_right (by assumption) _) (by decide) | with_reducible exact Int.natCast_nonneg _ | omega)
  rcases this with rfl | hk
  · decide
  · exact NodeOk.all (P := fun a => a ∈ ([0, 1, 2, 3, 4, 5, 6, 7, 8, 9, 10, 11, 12, 13, 14] : List Int)) (by decide) hk
theorem bit_kind {v : Int} (h : ModeOk v) : Builtin.bitAnd v 61440 = v.fdiv 4096 * 4096 := by
  have key : ∀ k ∈ ([4, 8, 2, 10] : List Nat), ∀ r < 512, (k * 4096 + r) &&& 61440 = k * 4096 := by decide +kernel
  obtain ⟨k, r, hk, h0, h1, rfl⟩ := h
  have e : (k * 4096 + r).fdiv 4096 = k := by rw [Int.fdiv_eq_ediv_of_nonneg _ (by decide)]; (first | decide | with_reducible assumption | with_reducible exact Nat.le_trans (by assumption) (by decide) | with_reducible exact Nat.lt_of_lt_of_le (Nat.add_lt_add_right (by assumption) _) (by decide) | with_reducible exact Int.natCast_nonneg _ | omega)
  rw [e]
  obtain ⟨kn, rfl⟩ : ∃ kn : Nat, k = kn := ⟨k.toNat, by (first | decide | with_reducible assumption | with_reducible exact Nat.le_trans (by assumption) (by decide) | with_reducible exact Nat.lt_of_lt_of_le (Nat.add_lt_add_right (by assumption) _) (by decide) | with_reducible exact Int.natCast_nonneg _ | omega)⟩
  obtain ⟨rn, rfl⟩ : ∃ rn : Nat, r = rn := ⟨r.toNat, by (first | decide | with_reducible assumption | with_reducible exact Nat.le_trans (by assumption) (by decide) | with_reducible exact Nat.lt_of_lt_of_le (Nat.add_lt_add_right (by assumption) _) (by decide) | with_reducible exact Int.natCast_nonneg _ | omega)⟩
  have hkn : kn ∈ ([4, 8, 2, 10] : List Nat) := by
    simp only [List.mem_cons, List.not_mem_nil, or_false]; (first | decide | with_reducible assumption | with_reducible exact Nat.le_trans (by assumption) (by decide) | with_reducible exact Nat.lt_of_lt_of_le (Nat.add_lt_add_right (by assumption) _) (by decide) | with_reducible exact Int.natCast_nonneg _ | omega)
  have hb : Builtin.bitAnd ((kn : Int) * 4096 + rn) 61440 = (((kn * 4096 + rn) &&& 61440 : Nat) : Int) := by
    have e1 : (kn : Int) * 4096 + rn = ((kn * 4096 + rn : Nat) : Int) := by (first | decide | with_reducible assumption | with_reducible exact Nat.le_trans (by assumption) (by decide) | with_reducible exact Nat.lt_of_lt_of_le (Nat.add_lt_add_right (by assumption) _) (by decide) | with_reducible exact Int.natCast_nonneg _ | omega)
    rw [e1]
    unfold Builtin.bitAnd
    have : decide ((0 : Int) ≤ ((kn * 4096 + rn : Nat) : Int)) = true := decide_eq_true (by (first | decide | with_reducible assumption | with_reducible exact Nat.le_trans (by assumption) (by decide) | with_reducible exact Nat.lt_of_lt_of_le (Nat.add_lt_add_right (by assumption) _) (by decide) | with_reducible exact Int.natCast_nonneg _ | omega))
    rw [this, show decide ((0 : Int) ≤ 61440) = true from rfl]
    rfl
  rw [hb, key kn hkn rn (by (first | decide | with_reducible assumption | with_reducible exact Nat.le_trans (by assumption) (by decide) | with_reducible exact Nat.lt_of_lt_of_le (Nat.add_lt_add_right (by assumption) _) (by decide) | with_reducible exact Int.natCast_nonneg _ | omega))]
  (first | decide | with_reducible assumption | with_reducible exact Nat.le_trans (by assumption) (by decide) | with_reducible exact Nat.lt_of_lt_of_le (Nat.add_lt_add_right (by assumption) _) (by decide) | with_reducible exact Int.natCast_nonneg _ | omega)
theorem bit_dir {v : Int} (h : ModeOk v) : (Builtin.bitAnd v 61440 == 16384) = decide (v.fdiv 4096 = 4) := by
  rw [bit_kind h]
  rcases h.kind with e | e | e | e <;> rw [e] <;> rfl
theorem bit_chr {v : Int} (h : ModeOk v) : (Builtin.bitAnd v 61440 == 8192) = decide (v.fdiv 4096 = 2) := by
  rw [bit_kind h]
  rcases h.kind with e | e | e | e <;> rw [e] <;> rfl
theorem swStep_lt {st : List RowT × (Int → Option Int)} {r : RowT} {room : Int} (h : (st.2 r.2.1).getD ((st.2 ((r.2.1 - 1) / 2)).getD 0) = room) (hlt : r.1 < room) :
    swStep st r = ((if st.2 r.2.1 = none ∧ r.2.2.fdiv 4096 ≠ 2 then st.1 ++ [r] else st.1), fun k => if k = r.2.1 then some (if r.2.2.fdiv 4096 = 4 then room else r.1) else st.2 k) := by
  unfold swStep; rw [h, if_pos hlt]
theorem swStep_ge {st : List RowT × (Int → Option Int)} {r : RowT} {room : Int} (h : (st.2 r.2.1).getD ((st.2 ((r.2.1 - 1) / 2)).getD 0) = room) (hlt : ¬ r.1 < room) : swStep st r = st := by
  unfold swStep; rw [h, if_neg hlt]
theorem told_len (done : List RowT) : (done.foldl swStep sw0).1.length ≤ done.length := by
  have step : ∀ st r, (swStep st r).1.length ≤ st.1.length + 1 := by
    intro st r
    unfold swStep
    split
    · dsimp only
      split
      · simp
      · (first | decide | with_reducible assumption | with_reducible exact Nat.le_trans (by assumption) (by decide) | with_reducible exact Nat.lt_of_lt_of_le (Nat.add_lt_add_right (by assumption) _) (by decide) | with_reducible exact Int.natCast_nonneg _ | omega)
    · (first | decide | with_reducible assumption | with_reducible exact Nat.le_trans (by assumption) (by decide) | with_reducible exact Nat.lt_of_lt_of_le (Nat.add_lt_add_right (by assumption) _) (by decide) | with_reducible exact Int.natCast_nonneg _ | omega)
  have go : ∀ (done : List RowT) st, (done.foldl swStep st).1.length ≤ st.1.length + done.length := by
    intro done
    induction done with
    | nil => intro st; simp
    | cons r done ih =>
      intro st
      rw [List.foldl_cons]
      have := ih (swStep st r)
      have := step st r
      simp only [List.length_cons]; (first | decide | with_reducible assumption | with_reducible exact Nat.le_trans (by assumption) (by decide) | with_reducible exact Nat.lt_of_lt_of_le (Nat.add_lt_add_right (by assumption) _) (by decide) | with_reducible exact Int.natCast_nonneg _ | omega)
  have := go done sw0
  simpa [sw0] using this
/-- a dict of ints under texts, as an object -/
def SObj (prog : Program) (w : World) (d : Addr) (o : Obj) (c : List (Str × Int)) : Prop :=
  (d == sysModules) = false ∧ ∃ kvs, o.IsDictOf (PySem.strKind prog w) kvs ∧ FlatPairs PyData.str kvs (kdpD c)
theorem SObj.tab {prog : Program} {w : World} {d : Addr} {o : Obj} {c : List (Str × Int)} {h : Heap} (D : SObj prog w d o c) (ho : h.get? d = some o) : StrTab prog w h d (kdpD c) :=
  let ⟨lo, _, a, b⟩ := D; TabAt.ofObj lo ho a b
theorem SObj.cls {prog : Program} {w : World} {d : Addr} {o : Obj} {c : List (Str × Int)} (D : SObj prog w d o c) : o.cls ≠ .type "tuple" := by
  obtain ⟨_, kvs, ⟨es, ep, h, hd, _⟩, _⟩ := D
  rw [h.1]; decide
def datR (r : RowT) : Dat := .tuple [.str (keyS r.2.1), .int r.1, .int r.2.2]
theorem datAll_of {keep : List (Addr × Obj)} {h1 : Heap} : ∀ {vs : List Value}, (∀ v ∈ vs, ∃ a o r, v = .ref a ∧ (a, o) ∈ keep ∧ HeapObj o r ∧ rowV h1 v = r) → DatAll keep vs (vs.map fun v => datR (rowV h1 v))
  | [], _ => .nil
  | v :: vs, H => by
    obtain ⟨a, o, r, rfl, hm, ⟨t, u, w, rfl⟩, e⟩ := H v (List.mem_cons_self ..)
    refine .cons ?_ (datAll_of fun v hv => H v (List.mem_cons_of_mem _ hv))
    show DatIn keep (.ref a) (datR (rowV h1 (.ref a)))
    rw [e]
    exact .tuple hm (.cons (.str _ _) (.cons (.int _ _) (.cons (.int _ _) .nil)))
theorem datR_ok {r : RowT} (h : NodeOk r.2.1) : kqdOk 8 (datR r) = true := by
  have : PyData.strOk (keyS r.2.1) = true := NodeOk.all (P := fun k => PyData.strOk (keyS k) = true) (by decide +kernel) h
  simp [datR, kqdOk, this]
end Mine
namespace Mine
open PySem PySem.W PySem.Calls PyProof.Rows PyProof.V
theorem kdfHas_put' (c : List (Int × Int)) (k j v : Int) : kdfHas (kdfPut c k v) j = (decide (j = k) || kdfHas c j) := by
  unfold kdfHas kdfPut
  by_cases hc : (c.any fun p => decide (p.1 = k)) = true
  · rw [if_pos hc, List.any_map]
    have e : ((fun p : Int × Int => decide (p.1 = j)) ∘ fun p => if decide (p.1 = k) = true then (p.1, v) else p) = fun p => decide (p.1 = j) := by
      funext p
      show decide ((if decide (p.1 = k) = true then (p.1, v) else p).1 = j) = decide (p.1 = j)
      by_cases hp : p.1 = k
      · rw [if_pos (decide_eq_true hp)]
      · rw [if_neg (by simp [hp])]
    rw [e]
    by_cases hj : j = k
    · subst hj; simp [hc]
    · simp [hj]
  · rw [if_neg hc, List.any_append]
    by_cases hj : j = k
    · subst hj; simp
    · have hj' : ¬ k = j := fun q => hj q.symm
      simp [hj, hj']
theorem kdfLook_put' (c : List (Int × Int)) (k j v d : Int) : kdfLook (kdfPut c k v) j d = if j = k then v else kdfLook c j d := by
  unfold kdfLook kdfPut
  by_cases hc : (c.any fun p => decide (p.1 = k)) = true
  · rw [if_pos hc, List.find?_map]
    have e : ((fun p : Int × Int => decide (p.1 = j)) ∘ fun p => if decide (p.1 = k) = true then (p.1, v) else p) = fun p => decide (p.1 = j) := by
      funext p
      show decide ((if decide (p.1 = k) = true then (p.1, v) else p).1 = j) = decide (p.1 = j)
      by_cases hp : p.1 = k
      · rw [if_pos (decide_eq_true hp)]
      · rw [if_neg (by simp [hp])]
    rw [e]
    cases h : c.find? fun p => decide (p.1 = j) with
    | none =>
      have : j ≠ k := by
        rintro rfl
        obtain ⟨p, hp, q⟩ := List.any_eq_true.mp hc
        exact absurd q (by simpa using List.find?_eq_none.mp h p hp)
      simp [this]
    | some p =>
      have hp : p.1 = j := by simpa using List.find?_some h
      by_cases e2 : j = k
      · simp [hp, e2]
      · simp [hp, e2]
  · rw [if_neg hc, List.find?_append]
    by_cases e2 : j = k
    · subst e2
      have : c.find? (fun p => decide (p.1 = j)) = none := by
        rw [List.find?_eq_none]
        intro p hp q
        exact hc (List.any_eq_true.mpr ⟨p, hp, q⟩)
      rw [this]; simp
    · have : ([(k, v)] : List (Int × Int)).find? (fun p => decide (p.1 = j)) = none := by simp [Ne.symm e2]
      rw [this, Option.or_none, if_neg e2]
/-- the state of the view, as it lies in the ledger -/
def VwAt (prog : Program) (w : World) (L : Addr) (ol : Obj) (b : Nat) (vw : Int → Option Int) (K nx : List (Addr × Obj)) : Prop :=
  ∃ (ob on ov : Obj) (cb cn : Option Value) (V : Addr) (vo : Obj) (cv : List (Int × Int)), nx = (L + 1 + 1 + 1 + 1, ob) :: (L + 1 + 1 + 1, on) :: (L + 1 + 1, ov) :: (L + 1, ol) :: (V, vo) :: K ∧
    ob.data = .cell cb ∧ on.data = .cell cn ∧ ov.data = .cell (some (.ref V)) ∧ (V ≠ L + 1 ∧ V ≠ L + 1 + 1 ∧ V ≠ L + 1 + 1 + 1 ∧ V ≠ L + 1 + 1 + 1 + 1) ∧ (∀ p ∈ K, p.1 ≠ V) ∧ DObj prog w V vo cv ∧ cv.length ≤ b ∧ (∀ k, vw k = if kdfHas cv k = true then some (kdfLook cv k 0) else none)
theorem DObj.cls {prog : Program} {w : World} {d : Addr} {o : Obj} {c : List (Int × Int)} (D : DObj prog w d o c) : o.cls = .type "dict" := by
  obtain ⟨_, kvs, ⟨es, ep, h, hd, _⟩, _⟩ := D
  exact h.1
def belowOf (n : Int) : List Int := [n, 2 * n + 1, 2 * n + 2, 4 * n + 3, 4 * n + 4, 4 * n + 5, 4 * n + 6]
def row4 (k : Int) (j : Nat) : List Int := (List.range j).map fun x : Nat => 4 * k + (3 + (x : Int))
theorem row4_succ (k : Int) (j : Nat) : row4 k (j + 1) = row4 k j ++ [4 * k + (3 + (j : Int))] := by
  unfold row4; rw [List.range_succ, List.map_append, List.map_singleton]
theorem row4_len (k : Int) (j : Nat) : (row4 k j).length = j := by simp [row4]
theorem row4_four (k : Int) : [k, 2 * k + 1, 2 * k + 2] ++ row4 k 4 = belowOf k := by
  unfold row4 belowOf
  simp only [show List.range 4 = [0, 1, 2, 3] from rfl, List.map_cons, List.map_nil, List.cons_append, List.nil_append]
  simp
def cutV (n m : Int) (vw : Int → Option Int) : Int → Option Int := fun k => if m.fdiv 4096 ≠ 4 ∧ k ∈ belowOf n then none else vw k
def laidP (p : Int) (vw : Int → Option Int) (q : Int × Int) : Int → Option Int := fun k => if k = q.1 ∧ q.2.fdiv 4096 ≠ 2 then some p else cutV q.1 q.2 vw k
def vwRun (c : Nat → List (Int × Int)) : Nat → Int → Option Int
  | 0 => fun _ => none
  | i + 1 => (c (2 - i)).foldl (laidP ((2 - i : Nat) : Int)) (vwRun c i)
def ViewOk (cv : List (Int × Int)) (vw : Int → Option Int) : Prop := ∀ k, vw k = if kdfHas cv k = true then some (kdfLook cv k 0) else none
theorem ViewOk.put {cv : List (Int × Int)} {vw : Int → Option Int} (h : ViewOk cv vw) (n p : Int) : ViewOk (kdfPut cv n p) (fun k => if k = n then some p else vw k) := by
  intro k
  show (if k = n then some p else vw k) = _
  rw [kdfHas_put', kdfLook_put']
  by_cases q : k = n
  · subst q; simp
  · rw [if_neg q, if_neg q, h k]; simp [q]
theorem ViewOk.look {cv : List (Int × Int)} {vw : Int → Option Int} (h : ViewOk cv vw) {k p : Int} (e : vw k = some p) : kdfHas cv k = true ∧ kdfLook cv k 0 = p := by
  rw [h k] at e
  split at e
  · rename_i q; exact ⟨q, Option.some.inj e⟩
  · cases e
section
variable {prog : Program} {w : World}
theorem stored_view {cv : List (Int × Int)} {l : List Value} {kvs : List (Int × Value)} (x : StoredAll (fun v k => (PySem.intKind prog w).is k v = true) (fun v y => ∃ k t t', v = Value.int k t ∧ y = .int (kdfLook cv k 0) t') l kvs) :
    ∃ cv', FlatPairs PyData.int kvs (kdfD cv') ∧ (∀ k, kdfHas cv' k = true ↔ ∃ t, Value.int k t ∈ l) ∧ (∀ k, kdfHas cv' k = true → kdfLook cv' k 0 = kdfLook cv k 0) ∧ cv'.length ≤ l.length := by
  induction x with
  | nil => exact ⟨[], .nil, by simp [kdfHas], by simp [kdfHas], by simp⟩
  | @snoc l kvs v k y _ hk hy ih =>
    obtain ⟨cv', hf, h1, h2, h3⟩ := ih
    obtain ⟨tk, rfl⟩ := Value.isInt_shape hk
    obtain ⟨k', t, t', e, rfl⟩ := hy
    obtain ⟨rfl, _⟩ : k = k' ∧ tk = t := by simpa using e
    refine ⟨kdfPut cv' k (kdfLook cv k 0), ?_, ?_, ?_, ?_⟩
    · rw [← kdfD_put]
      exact FlatPairs.stored PyProof.V.same_int hf k (PyProof.V.Flat.int _ _)
    · intro j
      rw [kdfHas_put', Bool.or_eq_true, decide_eq_true_eq, h1]
      constructor
      · rintro (rfl | ⟨t2, ht⟩)
        · exact ⟨tk, by simp⟩
        · exact ⟨t2, List.mem_append_left _ ht⟩
      · rintro ⟨t2, ht⟩
        rcases List.mem_append.mp ht with ht | ht
        · exact .inr ⟨t2, ht⟩
        · simp at ht; exact .inl ht.1
    · intro j hj
      rw [kdfLook_put']
      by_cases q : j = k
      · rw [if_pos q, q]
      · rw [if_neg q]
        rw [kdfHas_put', decide_eq_false q, Bool.false_or] at hj
        exact h2 j hj
    · rw [List.length_append, List.length_singleton]
      have := kdfPut_len cv' k (kdfLook cv k 0)
      (first | decide | with_reducible assumption | with_reducible exact Nat.le_trans (by assumption) (by decide) | with_reducible exact Nat.lt_of_lt_of_le (Nat.add_lt_add_right (by assumption) _) (by decide) | with_reducible exact Int.natCast_nonneg _ | omega)
end
section
variable {M : Model} {A : Around} {E : Value → Shared → Prop} {s : Shared} {C c : Addr} {scope : Scope} {cl : List (Str × Addr)} {env : Env} {x : Str} {pos : Pos} {v : Value} {o : Obj} {m : Str → Option Value} {Q : Value → Shared → Prop}
theorem cname_local (hn : s.heap.Ns C m) (hm : m x = some v) (h : Q v s) (hk : (compEnvC scope cl C env).scope.kind = .function) (hx : (compEnvC scope cl C env).kindOf x = some .local) (hb : (x == ("__debug__" : Str)) = false := by decide) :
    wpAny M A (eval (.Name x pos) (compEnvC scope cl C env)) Q E s := wpAny_Name (wpAny_loadName_local hk hx hn hm h) hb
theorem cname_cell (hc : cl.lookup x = some c) (ho : s.heap.get? c = some o) (hd : o.data = .cell (some v)) (h : Q v s) (hk : (compEnvC scope cl C env).scope.kind = .function) (hx : (compEnvC scope cl C env).kindOf x = some .cell) (hb : (x == ("__debug__" : Str)) = false := by decide) :
    wpAny M A (eval (.Name x pos) (compEnvC scope cl C env)) Q E s := wpAny_Name (wpAny_loadName_cell hk hx hc ⟨o, ho, hd⟩ h) hb
end
theorem flat_has {kvs : List (Int × Value)} {c : List (Int × Int)} (h : FlatPairs PyData.int kvs (kdfD c)) (k : Int) : kdfHas c k = true ↔ ∃ (i : Nat) (y : Value), kvs[i]? = some (k, y) := by
  obtain ⟨h1, h2⟩ := flat_at h
  rw [kdfHas_iff]
  constructor
  · rintro ⟨v, hv⟩
    obtain ⟨i, hi⟩ := List.getElem?_of_mem hv
    have hlt := (List.getElem?_eq_some_iff.mp hi).1
    obtain ⟨⟨k', y⟩, hk⟩ : ∃ p, kvs[i]? = some p := ⟨kvs[i]'(by (first | decide | with_reducible assumption | with_reducible exact Nat.le_trans (by assumption) (by decide) | with_reducible exact Nat.lt_of_lt_of_le (Nat.add_lt_add_right (by assumption) _) (by decide) | with_reducible exact Int.natCast_nonneg _ | omega)), List.getElem?_eq_getElem _⟩
    obtain ⟨v', hv'⟩ := h2 i k' y hk
    rw [hi] at hv'
    simp only [Option.some.injEq, Prod.mk.injEq] at hv'
    exact ⟨i, y, by rw [hk, hv'.1]⟩
  · rintro ⟨i, y, hi⟩
    obtain ⟨v, hv⟩ := h2 i k y hi
    exact ⟨v, List.mem_of_getElem? hv⟩
def pzOf (n : Int) (v : Value) : Bool := match v with | .int x _ => !((belowOf n).any (· == x)) | _ => false
theorem cut_view {cv cv' : List (Int × Int)} {vw : Int → Option Int} {n m : Int} {kvs : List (Int × Value)} {vs : List Value} (hv : ViewOk cv vw) (hm : m.fdiv 4096 ≠ 4) (hf : FlatPairs PyData.int kvs (kdfD cv)) (hlen : vs.length = kvs.length)
    (hvs : ∀ (j : Nat) (v : Value), vs[j]? = some v → ∃ (k : Int) (x : Value) (t : Tok), kvs[j]? = some (k, x) ∧ v = .int k t)
    (h1 : ∀ k, kdfHas cv' k = true ↔ ∃ t, Value.int k t ∈ vs.filter (pzOf n)) (h2 : ∀ k, kdfHas cv' k = true → kdfLook cv' k 0 = kdfLook cv k 0) : ViewOk cv' (cutV n m vw) := by
  have key : ∀ k, kdfHas cv' k = true ↔ (kdfHas cv k = true ∧ k ∉ belowOf n) := by
    intro k
    rw [h1, flat_has hf]
    constructor
    · rintro ⟨t, ht⟩
      obtain ⟨ht1, ht2⟩ := List.mem_filter.mp ht
      obtain ⟨j, hj⟩ := List.getElem?_of_mem ht1
      obtain ⟨k', x, t', e1, e2⟩ := hvs j _ hj
      simp only [Value.int.injEq] at e2
      refine ⟨⟨j, x, by rw [e1, e2.1]⟩, ?_⟩
      intro q
      have : (belowOf n).any (· == k) = true := List.any_eq_true.mpr ⟨k, q, by simp⟩
      simp [pzOf, this] at ht2
    · rintro ⟨⟨j, y, hj⟩, hn⟩
      have hlt := (List.getElem?_eq_some_iff.mp hj).1
      obtain ⟨v, hv'⟩ : ∃ v, vs[j]? = some v := ⟨vs[j]'(by (first | decide | with_reducible assumption | with_reducible exact Nat.le_trans (by assumption) (by decide) | with_reducible exact Nat.lt_of_lt_of_le (Nat.add_lt_add_right (by assumption) _) (by decide) | with_reducible exact Int.natCast_nonneg _ | omega)), List.getElem?_eq_getElem _⟩
      obtain ⟨k', x, t', e1, e2⟩ := hvs j _ hv'
      rw [hj] at e1
      simp only [Option.some.injEq, Prod.mk.injEq] at e1
      obtain ⟨rfl, _⟩ := e1
      refine ⟨t', List.mem_filter.mpr ⟨e2 ▸ List.mem_of_getElem? hv', ?_⟩⟩
      have : (belowOf n).any (· == k) = false := by
        rw [List.any_eq_false]
        intro x hx q
        simp only [beq_iff_eq] at q
        exact hn (q ▸ hx)
      show (!((belowOf n).any (· == k))) = true
      rw [this]; rfl
  intro k
  unfold cutV
  by_cases hb : k ∈ belowOf n
  · rw [if_pos ⟨hm, hb⟩, if_neg (by rw [key]; exact fun q => q.2 hb)]
  · rw [if_neg (fun q => hb q.2), hv k]
    by_cases hh : kdfHas cv k = true
    · have := (key k).mpr ⟨hh, hb⟩
      rw [if_pos hh, if_pos this, h2 k this]
    · rw [if_neg hh, if_neg (by rw [key]; exact fun q => hh q.1)]
theorem cells_ne (L : Nat) : (L + 1 ≠ L + 1 + 1 ∧ L + 1 ≠ L + 1 + 1 + 1 ∧ L + 1 ≠ L + 1 + 1 + 1 + 1) ∧ (L + 1 + 1 ≠ L + 1 ∧ L + 1 + 1 ≠ L + 1 + 1 + 1 ∧ L + 1 + 1 ≠ L + 1 + 1 + 1 + 1) ∧ (L + 1 + 1 + 1 ≠ L + 1 ∧ L + 1 + 1 + 1 ≠ L + 1 + 1 ∧ L + 1 + 1 + 1 ≠ L + 1 + 1 + 1 + 1) ∧ (L + 1 + 1 + 1 + 1 ≠ L + 1 ∧ L + 1 + 1 + 1 + 1 ≠ L + 1 + 1 ∧ L + 1 + 1 + 1 + 1 ≠ L + 1 + 1 + 1) := by (first | decide | with_reducible assumption | with_reducible exact Nat.le_trans (by assumption) (by decide) | with_reducible exact Nat.lt_of_lt_of_le (Nat.add_lt_add_right (by assumption) _) (by decide) | with_reducible exact Int.natCast_nonneg _ | omega)
theorem far_ne {L a : Nat} (h : a < L ∨ L + 1 + 1 + 1 + 1 < a) : a ≠ L + 1 ∧ a ≠ L + 1 + 1 ∧ a ≠ L + 1 + 1 + 1 ∧ a ≠ L + 1 + 1 + 1 + 1 := by (first | decide | with_reducible assumption | with_reducible exact Nat.le_trans (by assumption) (by decide) | with_reducible exact Nat.lt_of_lt_of_le (Nat.add_lt_add_right (by assumption) _) (by decide) | with_reducible exact Int.natCast_nonneg _ | omega)
section
variable {L : Addr} {o4 o3 o2 o1 : Obj} {K : List (Addr × Obj)}
def Off4 (L a : Addr) : Prop := a ≠ L + 1 ∧ a ≠ L + 1 + 1 ∧ a ≠ L + 1 + 1 + 1 ∧ a ≠ L + 1 + 1 + 1 + 1
theorem Off4.lt {a : Addr} (h : @LT.lt Nat _ a L) : Off4 L a := far_ne (.inl h)
theorem Off4.gt {a : Addr} (h : @LT.lt Nat _ (L + 1 + 1 + 1 + 1) a) : Off4 L a := far_ne (.inr h)
def Far (L : Addr) (K : List (Addr × Obj)) : Prop := ∀ p ∈ K, Off4 L p.1
theorem Far.nil : Far L [] := fun _ h => by cases h
theorem Far.cons {p : Addr × Obj} (h : Far L K) (hp : Off4 L p.1) : Far L (p :: K) := fun q hq => by
  rcases List.mem_cons.mp hq with rfl | hq
  · exact hp
  · exact h q hq
def Cells (L : Addr) (o4 o3 o2 o1 : Obj) (K : List (Addr × Obj)) : List (Addr × Obj) := (L + 1 + 1 + 1 + 1, o4) :: (L + 1 + 1 + 1, o3) :: (L + 1 + 1, o2) :: (L + 1, o1) :: K
theorem Off4.of {I : Addr} {keep : List (Addr × Obj)} (h : ∀ p ∈ (L + 1 + 1 + 1 + 1, o4) :: (L + 1 + 1 + 1, o3) :: (L + 1 + 1, o2) :: (L + 1, o1) :: keep, p.1 ≠ I) : Off4 L I :=
  ⟨(h (L + 1, o1) (by simp)).symm, (h (L + 1 + 1, o2) (by simp)).symm, (h (L + 1 + 1 + 1, o3) (by simp)).symm, (h (L + 1 + 1 + 1 + 1, o4) (by simp)).symm⟩
theorem Off4.fresh {I : Addr} {g h : Heap} {keep : List (Addr × Obj)} (N : News g L h ((L + 1 + 1 + 1 + 1, o4) :: (L + 1 + 1 + 1, o3) :: (L + 1 + 1, o2) :: (L + 1, o1) :: keep)) (hI : h.get? I = none) : Off4 L I := Off4.of (ne_fresh N hI)
theorem cellU4 (h : Far L K) : UpdF (L + 1 + 1 + 1 + 1) o4 ((L + 1 + 1 + 1 + 1, o4) :: (L + 1 + 1 + 1, o3) :: (L + 1 + 1, o2) :: (L + 1, o1) :: K) (fun o => (L + 1 + 1 + 1 + 1, o) :: (L + 1 + 1 + 1, o3) :: (L + 1 + 1, o2) :: (L + 1, o1) :: K) := by
  have n := cells_ne L
  refine .head ?_
  intro p hp
  rcases List.mem_cons.mp hp with rfl | hp
  · exact n.2.2.1.2.2
  rcases List.mem_cons.mp hp with rfl | hp
  · exact n.2.1.2.2
  rcases List.mem_cons.mp hp with rfl | hp
  · exact n.1.2.2
  · exact (h p hp).2.2.2
theorem cellU3 (h : Far L K) : UpdF (L + 1 + 1 + 1) o3 ((L + 1 + 1 + 1 + 1, o4) :: (L + 1 + 1 + 1, o3) :: (L + 1 + 1, o2) :: (L + 1, o1) :: K) (fun o => (L + 1 + 1 + 1 + 1, o4) :: (L + 1 + 1 + 1, o) :: (L + 1 + 1, o2) :: (L + 1, o1) :: K) := by
  have n := cells_ne L
  refine .tail n.2.2.2.2.2 (.head ?_)
  intro p hp
  rcases List.mem_cons.mp hp with rfl | hp
  · exact n.2.1.2.1
  rcases List.mem_cons.mp hp with rfl | hp
  · exact n.1.2.1
  · exact (h p hp).2.2.1
theorem cellU2 (h : Far L K) : UpdF (L + 1 + 1) o2 ((L + 1 + 1 + 1 + 1, o4) :: (L + 1 + 1 + 1, o3) :: (L + 1 + 1, o2) :: (L + 1, o1) :: K) (fun o => (L + 1 + 1 + 1 + 1, o4) :: (L + 1 + 1 + 1, o3) :: (L + 1 + 1, o) :: (L + 1, o1) :: K) := by
  have n := cells_ne L
  refine .tail n.2.2.2.2.1 (.tail n.2.2.1.2.1 (.head ?_))
  intro p hp
  rcases List.mem_cons.mp hp with rfl | hp
  · exact n.1.1
  · exact (h p hp).2.1
end
end Mine
namespace Mine
open PySem PySem.W PySem.Calls PyProof.Rows
section
variable {prog : Program} {w : World} {K : Type} [DecidableEq K] {knd : KeyKind prog w K} {A : Around} {E : Value → Shared → Prop} {env : Env}
/-- a dict made by a comprehension, its address told -/
theorem DictComp_far {s : Shared} {kx vx iter : Expr} {x : Str} {px : Pos} {ifs : List Expr} {scope : Scope} {cl : List (Str × Addr)} {pos : Pos} {Q : Value → Shared → Prop} (knd : KeyKind prog w K) (p : Value → Bool)
    (FK : Value → K → Prop) (FV : Value → Value → Prop)
    (hclos : closureFor scope env = pure cl) (hcell : ∀ y ∈ scope.names, y.2 ≠ .cell) (hkind : scope.kind = .function)
    (hnames : ∀ y ∈ scope.names, y.2 = .local → scope.names.lookup y.1 = some .local) (hx : scope.names.lookup x = some .local)
    (h : wpAny (model prog w) A (eval iter env) (fun xv s₁ => wpAny (model prog w) A (pyIter xv) (fun it s₂ => ∃ I fp wr n P St, it = .ref I ∧ Walks prog w A I fp wr n P St ∧ n ≤ sizeLine ∧ St 0 s₂.heap ∧ (∀ b ∈ fp, b < s₂.heap.objs.size) ∧
      QuietOnCD knd A env scope cl x ifs kx vx wr P p FK FV s₂ ∧
      (∀ D h' tk kvs (vs : List Value), s₂.heap.objs.size ≤ D → h'.DictOf knd D kvs → vs.length = n → (∀ j v, vs[j]? = some v → P j v) → StoredAll FK FV (vs.filter p) kvs →
        (∀ b o, b ∉ wr → s₂.heap.get? b = some o → h'.get? b = some o) → Q (.ref D) { s₂ with heap := h', toks := tk })) E s₁) E s)
    (hs : ∀ x, foldedSetIterable iter env x = pure x := by intro _; rfl) :
    wpAny (model prog w) A (eval (.DictComp kx vx [⟨.Name x px, iter, ifs, 0⟩] scope pos) env) Q E s := by
  rw [arm_eval_DictComp]
  refine wpAny_comprehension_free (use := none) rfl hs hclos hkind hnames (wpAny_mono h (fun xv s₁ h₁ => wpAny_mono h₁ (fun it s₂ h₂ => ?_) fun _ _ e => e) fun _ _ e => e)
  obtain ⟨I, fp, wr, n, P, St, rfl, W, hsz, hst, hfp, hq, hQ⟩ := h₂
  refine wpAny_newObj_type (wpAny_newFunctionEnv hcell (by intro y hy; simp at hy) (fun h₁ hns₁ hsb₁ => ?_) hkind)
  dsimp only at hns₁ hsb₁ ⊢
  have hnew : (s₂.heap.push { cls := .type "dict", dict := none, data := .dict #[] }).DictOf knd s₂.heap.objs.size [] := Heap.DictOf.new s₂.heap
  generalize hH2 : s₂.heap.push { cls := .type "dict", dict := none, data := .dict #[] } = H2 at hns₁ hsb₁ hnew ⊢
  have hC : H2.objs.size = s₂.heap.objs.size + 1 := by rw [← hH2, Heap.size_push]
  have lt2 : s₂.heap.objs.size < H2.objs.size := by rw [hC]; exact Nat.lt_succ_self _
  have far : ∀ b o, s₂.heap.get? b = some o → b ≠ H2.objs.size ∧ b ≠ s₂.heap.objs.size := fun b o e => ⟨Nat.ne_of_lt (Nat.lt_trans (Heap.lt_size e) lt2), Nat.ne_of_lt (Heap.lt_size e)⟩
  have old : ∀ b o, s₂.heap.get? b = some o → h₁.get? b = some o := fun b o e => hsb₁.extBut b o (far b o e).1 (Heap.get?_push_of_some _ (hH2 ▸ Heap.get?_push_of_some _ e))
  have run : ∀ s₃ : Shared, s₃ = { s₂ with heap := h₁, toks := s₂.toks + ([] : List (Str × Value)).length } →
      codeAny (model prog w) A (.compLoop (.DictComp kx vx [⟨.Name x px, iter, ifs, 0⟩] scope pos) 0 (.ref I) (.ref s₂.heap.objs.size) (compEnvC scope cl H2.objs.size env))
        (compPost (model prog w) A E none Q (.ref s₂.heap.objs.size) H2.objs.size) s₃ := by
    rintro s₃ rfl
    refine codeAny_compLoop_walkD (hsz := hsz) (knd := knd) (cenv := compEnvC scope cl H2.objs.size env) W p FK FV (lookup_relabel_local hx) (by simp [compEnvC, relabel, hkind]) (Nat.ne_of_lt lt2)
      (fun hm => Nat.lt_irrefl _ (hfp _ hm)) (fun hm => Nat.lt_irrefl _ (Nat.lt_trans lt2 (hfp _ hm))) (W.frame _ _ _ hst fun b _ o e => old b o e) (hnew.at fun o e => hsb₁.extBut _ _ (Nat.ne_of_lt lt2) (Heap.get?_push_of_some _ e)) hns₁
      (fun i v s₃ m₃ hv hn hm hk => hq.tests _ i v s₃ m₃ _ hv hn hm fun b o hbf e => hk b o (far b o e).1 hbf (far b o e).2 (old b o e))
      (fun i v s₃ m₃ hv hpv hn hm hk => hq.key _ i v s₃ m₃ _ hv hpv hn hm fun b o hbf e => hk b o (far b o e).1 hbf (far b o e).2 (old b o e))
      (fun i v s₃ m₃ hv hpv hn hm hk => hq.val _ i v s₃ m₃ _ hv hpv hn hm fun b o hbf e => hk b o (far b o e).1 hbf (far b o e).2 (old b o e)) fun h' tk m' kvs vs hn ha hlen hP hF hk => ?_
    refine ⟨m', hn, fun h'' hs'' => hQ _ h'' tk kvs vs (Nat.le_refl _) (ha.extBut hs''.extBut (Nat.ne_of_lt lt2)) hlen hP hF fun b o hbf e => hs''.extBut b o (far b o e).1 (hk b o (far b o e).1 hbf (far b o e).2 (old b o e))⟩
  exact codeAny_compStart_dict (run _ rfl) (W.self 0 _ _ _ (W.frame _ _ _ hst fun b _ o e => old b o e) (run _ rfl))
end
end Mine
namespace Mine
open PySem PySem.W PySem.Calls PyProof.Rows PyProof.V
def preL : List Int := [1, 3, 7, 8, 4, 9, 10, 2, 5, 11, 12, 6, 13, 14]
def placeOf (c : Nat → List (Int × Int)) (n : Int) : Int := (vwRun c 3 n).getD 0
def laidRow (c : Nat → List (Int × Int)) (n : Int) : RowT := (placeOf c n, n, kdfLook (c (placeOf c n).toNat) n 0)
def laidRows (c : Nat → List (Int × Int)) : List RowT := (preL.filter fun n => (vwRun c 3 n).isSome).map (laidRow c)
def LaidObj (o : Obj) (r : RowT) : Prop := ∃ t u v, o = tupOf [.str (textOf r.2.1) t, .str (signsOf r.2.2) u, .int r.1 v]
def VwFact (c : Nat → List (Int × Int)) (vw : Int → Option Int) : Prop := ∀ k p, vw k = some p → ∃ j : Nat, p = (j : Int) ∧ j < 3 ∧ ∃ mode, (k, mode) ∈ c j ∧ mode.fdiv 4096 ≠ 2
theorem VwFact.step {c : Nat → List (Int × Int)} {vw : Int → Option Int} (h : VwFact c vw) {j : Nat} (hj : j < 3) {q : Int × Int} (hq : q ∈ c j) : VwFact c (laidP (j : Int) vw q) := by
  intro k p e
  unfold laidP at e
  by_cases h1 : k = q.1 ∧ q.2.fdiv 4096 ≠ 2
  · rw [if_pos h1] at e
    obtain rfl := Option.some.inj e
    exact ⟨j, rfl, hj, q.2, by rw [h1.1]; exact hq, h1.2⟩
  · rw [if_neg h1] at e
    unfold cutV at e
    split at e
    · cases e
    · exact h k p e
theorem VwFact.fold {c : Nat → List (Int × Int)} {j : Nat} (hj : j < 3) : ∀ (l : List (Int × Int)) {vw : Int → Option Int}, VwFact c vw → (∀ q ∈ l, q ∈ c j) → VwFact c (l.foldl (laidP (j : Int)) vw)
  | [], _, h, _ => h
  | q :: l, _, h, hl => VwFact.fold hj l (h.step hj (hl q (List.mem_cons_self ..))) fun q' hq' => hl q' (List.mem_cons_of_mem _ hq')
theorem vw_facts (c : Nat → List (Int × Int)) : ∀ i, VwFact c (vwRun c i)
  | 0 => fun k p e => by cases e
  | i + 1 => by
    show VwFact c ((c (2 - i)).foldl (laidP ((2 - i : Nat) : Int)) (vwRun c i))
    exact VwFact.fold (by (first | decide | with_reducible assumption | with_reducible exact Nat.le_trans (by assumption) (by decide) | with_reducible exact Nat.lt_of_lt_of_le (Nat.add_lt_add_right (by assumption) _) (by decide) | with_reducible exact Int.natCast_nonneg _ | omega)) _ (vw_facts c i) fun q hq => hq
theorem preL_ok : ∀ n ∈ preL, NodeOk n := by
  show ∀ n ∈ preL, 1 ≤ n ∧ n ≤ 14
  decide +kernel
end Mine
namespace Mine
open PySem PySem.W PySem.Calls PyProof.Rows PyProof.V
/-! the plain law -/
def rowAt (c : Nat → List (Int × Int)) (n : Int) (p : Nat) : RowT := ((p : Int), n, kdfLook (c p) n 0)
def colRows (c : Nat → List (Int × Int)) (n : Int) : List RowT := ([0, 1, 2].filter fun p => kdfHas (c p) n).map (rowAt c n)
theorem col_mem {c : Nat → List (Int × Int)} {n : Int} {r : RowT} (h : r ∈ colRows c n) : ∃ p : Nat, p < 3 ∧ kdfHas (c p) n = true ∧ r = rowAt c n p := by
  obtain ⟨p, hp, rfl⟩ := List.mem_map.mp h
  obtain ⟨h1, h2⟩ := List.mem_filter.mp hp
  simp only [List.mem_cons, List.not_mem_nil, or_false] at h1
  exact ⟨p, by (first | decide | with_reducible assumption | with_reducible exact Nat.le_trans (by assumption) (by decide) | with_reducible exact Nat.lt_of_lt_of_le (Nat.add_lt_add_right (by assumption) _) (by decide) | with_reducible exact Int.natCast_nonneg _ | omega), h2, rfl⟩
theorem key_pre : preL.Pairwise (fun a b => (keyS a).cps.toList < (keyS b).cps.toList) := by decide +kernel
theorem lt_col {c : Nat → List (Int × Int)} (n : Int) : (colRows c n).Pairwise (fun a b => ltR a b = true) := by
  unfold colRows
  rw [List.pairwise_map]
  refine List.Pairwise.filter _ ?_
  have h : ∀ p q : Nat, p < q → ltR (rowAt c n p) (rowAt c n q) = true := by
    intro p q hpq
    have : ((p : Int)) < q := by (first | decide | with_reducible assumption | with_reducible exact Nat.le_trans (by assumption) (by decide) | with_reducible exact Nat.lt_of_lt_of_le (Nat.add_lt_add_right (by assumption) _) (by decide) | with_reducible exact Int.natCast_nonneg _ | omega)
    simp [ltR, keyLt, keyR, rowAt, hpq]
  simp only [List.pairwise_cons, List.mem_cons, List.not_mem_nil, or_false, List.Pairwise.nil, and_true]
  refine ⟨?_, ?_, by simp⟩
  · rintro q (rfl | rfl) <;> exact h _ _ (by decide)
  · rintro q rfl; exact h _ _ (by decide)
theorem lt_all (c : Nat → List (Int × Int)) : (preL.flatMap (colRows c)).Pairwise (fun a b => ltR a b = true) := by
  rw [List.pairwise_flatMap]
  refine ⟨fun n _ => lt_col n, key_pre.imp ?_⟩
  intro a b hab x hx y hy
  obtain ⟨p, _, _, rfl⟩ := col_mem hx
  obtain ⟨q, _, _, rfl⟩ := col_mem hy
  have : (keyS (rowAt c a p).2.1).cps.toList < (keyS (rowAt c b q).2.1).cps.toList := hab
  simp only [ltR, keyLt, keyR, Bool.or_eq_true]
  exact .inl (decide_eq_true this)
theorem ltR_irrefl (a : RowT) : ltR a a = false := by
  cases h : ltR a a with
  | true => have := key_as _ _ h; unfold ltR at h; rw [h] at this; cases this
  | false => rfl
theorem rows_mem {c : Nat → List (Int × Int)} {r : RowT} : r ∈ rowsUpTo c 3 ↔ ∃ p : Nat, p < 3 ∧ ∃ q ∈ c p, r = ((p : Int), q.1, q.2) := by
  unfold rowsUpTo
  rw [List.mem_flatMap]
  constructor
  · rintro ⟨p, hp, hr⟩
    obtain ⟨q, hq, rfl⟩ := List.mem_map.mp hr
    exact ⟨p, List.mem_range.mp hp, q, hq, rfl⟩
  · rintro ⟨p, hp, q, hq, rfl⟩
    exact ⟨p, List.mem_range.mpr hp, List.mem_map.mpr ⟨q, hq, rfl⟩⟩
theorem rows_nodup {c : Nat → List (Int × Int)} (W : ∀ j, j < 3 → WF (c j)) : (rowsUpTo c 3).Nodup := by
  unfold rowsUpTo List.Nodup
  rw [List.pairwise_flatMap]
  constructor
  · intro p hp
    rw [List.pairwise_map]
    have hn := (W p (List.mem_range.mp hp)).nodup
    unfold List.Nodup at hn
    rw [List.pairwise_map] at hn
    refine hn.imp ?_
    intro a b hab e
    simp only [Prod.mk.injEq] at e
    exact hab e.2.1
  · have : (List.range 3).Pairwise (fun a b : Nat => a ≠ b) := by decide
    refine this.imp ?_
    intro a b hab x hx y hy e
    obtain ⟨q, _, rfl⟩ := List.mem_map.mp hx
    obtain ⟨q', _, rfl⟩ := List.mem_map.mp hy
    simp only [Prod.mk.injEq] at e
    exact hab (by (first | decide | with_reducible assumption | with_reducible exact Nat.le_trans (by assumption) (by decide) | with_reducible exact Nat.lt_of_lt_of_le (Nat.add_lt_add_right (by assumption) _) (by decide) | with_reducible exact Int.natCast_nonneg _ | omega))
theorem NodeOk.pre {n : Int} (h : NodeOk n) : n ∈ preL := NodeOk.all (P := fun n => n ∈ preL) (by decide) h
theorem rows_perm {c : Nat → List (Int × Int)} (W : ∀ j, j < 3 → WF (c j)) : (rowsUpTo c 3).Perm (preL.flatMap (colRows c)) := by
  have hn : (preL.flatMap (colRows c)).Nodup := (lt_all c).imp (by rintro a _ h rfl; rw [ltR_irrefl] at h; cases h)
  rw [List.perm_ext_iff_of_nodup (rows_nodup W) hn]
  intro r
  rw [rows_mem, List.mem_flatMap]
  constructor
  · rintro ⟨p, hp, q, hq, rfl⟩
    have hk := (W p hp).key q hq
    refine ⟨q.1, NodeOk.pre hk, List.mem_map.mpr ⟨p, List.mem_filter.mpr ⟨?_, kdfHas_iff.mpr ⟨q.2, hq⟩⟩, ?_⟩⟩
    · simp only [List.mem_cons, List.not_mem_nil, or_false]; (first | decide | with_reducible assumption | with_reducible exact Nat.le_trans (by assumption) (by decide) | with_reducible exact Nat.lt_of_lt_of_le (Nat.add_lt_add_right (by assumption) _) (by decide) | with_reducible exact Int.natCast_nonneg _ | omega)
    · unfold rowAt; rw [kdfLook_mem (W p hp).nodup hq]
  · rintro ⟨n, _, hr⟩
    obtain ⟨p, hp, hh, rfl⟩ := col_mem hr
    obtain ⟨v, hv⟩ := kdfHas_iff.mp hh
    exact ⟨p, hp, (n, v), hv, by unfold rowAt; rw [kdfLook_mem (W p hp).nodup hv]⟩
theorem key_inj {a b : RowT} (ha : NodeOk a.2.1) (hb : NodeOk b.2.1) (h1 : leR a b) (h2 : leR b a) : a = b := by
  unfold leR ltR keyLt keyR at h1 h2
  simp only [Bool.or_eq_false_iff, Bool.and_eq_false_iff, decide_eq_false_iff_not] at h1 h2
  obtain ⟨p1, p2⟩ := h1
  obtain ⟨q1, q2⟩ := h2
  have e1 : (keyS a.2.1).cps.toList = (keyS b.2.1).cps.toList := List.le_antisymm (List.not_lt.mp p1) (List.not_lt.mp q1)
  have e2 : a.2.1 = b.2.1 := by
    rw [← nodeOf_key ha, ← nodeOf_key hb]
    have : keyS a.2.1 = keyS b.2.1 := by
      cases h : keyS a.2.1
      cases h' : keyS b.2.1
      rw [h, h'] at e1
      congr
      exact Array.toList_inj.mp e1
    rw [this]
  have e3 : a.1 = b.1 ∧ a.2.2 = b.2.2 := by
    rcases p2 with p2 | ⟨p3, p4⟩
    · exact absurd e1.symm p2
    rcases q2 with q2 | ⟨q3, q4⟩
    · exact absurd e1 q2
    have : a.1 = b.1 := by (first | decide | with_reducible assumption | with_reducible exact Nat.le_trans (by assumption) (by decide) | with_reducible exact Nat.lt_of_lt_of_le (Nat.add_lt_add_right (by assumption) _) (by decide) | with_reducible exact Int.natCast_nonneg _ | omega)
    refine ⟨this, ?_⟩
    rcases p4 with p4 | p4
    · exact absurd this.symm p4
    rcases q4 with q4 | q4
    · exact absurd this q4
    (first | decide | with_reducible assumption | with_reducible exact Nat.le_trans (by assumption) (by decide) | with_reducible exact Nat.lt_of_lt_of_le (Nat.add_lt_add_right (by assumption) _) (by decide) | with_reducible exact Int.natCast_nonneg _ | omega)
  obtain ⟨a1, a2, a3⟩ := a
  obtain ⟨b1, b2, b3⟩ := b
  simp only at e2 e3
  rw [e2, e3.1, e3.2]
theorem sorted_eq {c : Nat → List (Int × Int)} (W : ∀ j, j < 3 → WF (c j)) {done : List RowT} (hp : done.Perm (rowsUpTo c 3)) (hs : done.Pairwise leR) : done = preL.flatMap (colRows c) := by
  refine List.Perm.eq_of_pairwise (le := leR) ?_ hs ((lt_all c).imp fun h => key_as _ _ h) (hp.trans (rows_perm W))
  intro a b ha hb h1 h2
  have hok : ∀ r ∈ rowsUpTo c 3, NodeOk r.2.1 := by
    intro r hr
    obtain ⟨p, hp, q, hq, rfl⟩ := rows_mem.mp hr
    exact (W p hp).key q hq
  exact key_inj (hok a (hp.subset ha)) (hok b ((rows_perm W).symm.subset hb)) h1 h2
end Mine
namespace Mine
open PySem PySem.W PySem.Calls PyProof.Rows PyProof.V
/-- what the sweep makes of one place's rows -/
def svStep (R : Int) (acc : Option Int) (r : RowT) : Option Int := if r.1 < acc.getD R then some (if r.2.2.fdiv 4096 = 4 then acc.getD R else r.1) else acc
def svCol (R : Int) (rows : List RowT) : Option Int := rows.foldl (svStep R) none
def tCol (R : Int) : List RowT → List RowT
  | [] => []
  | r :: rest => if r.1 < R then (if r.2.2.fdiv 4096 ≠ 2 then [r] else []) else tCol R rest
theorem node_step {n : Int} (hn : (n - 1) / 2 ≠ n) : ∀ (rows : List RowT), (∀ r ∈ rows, r.2.1 = n) → ∀ (t : List RowT) (s : Int → Option Int) (acc : Option Int), s n = acc →
    rows.foldl swStep (t, s) = (t ++ (if acc = none then tCol ((s ((n - 1) / 2)).getD 0) rows else []), fun k => if k = n then rows.foldl (svStep ((s ((n - 1) / 2)).getD 0)) acc else s k)
  | [], _, t, s, acc, h => by
    simp only [List.foldl_nil, tCol, ite_self, List.append_nil]
    congr 1
    funext k
    by_cases e : k = n
    · rw [if_pos e, e, h]
    · rw [if_neg e]
  | r :: rest, hr, t, s, acc, h => by
    obtain ⟨p, n', m⟩ := r
    obtain rfl : n' = n := hr (p, n', m) (List.mem_cons_self ..)
    rw [List.foldl_cons, List.foldl_cons]
    have hrest : ∀ r ∈ rest, r.2.1 = n' := fun r h => hr r (List.mem_cons_of_mem _ h)
    generalize hR : (s ((n' - 1) / 2)).getD 0 = R
    by_cases hlt : p < acc.getD R
    · have e1 : swStep (t, s) (p, n', m) = ((if acc = none ∧ m.fdiv 4096 ≠ 2 then t ++ [(p, n', m)] else t), fun k => if k = n' then some (if m.fdiv 4096 = 4 then acc.getD R else p) else s k) := by
        have := swStep_lt (st := (t, s)) (r := (p, n', m)) (room := acc.getD R) (by show (s n').getD ((s ((n' - 1) / 2)).getD 0) = _; rw [h, hR]) hlt
        rw [this]; simp only [h]
      have e2 : svStep R acc (p, n', m) = some (if m.fdiv 4096 = 4 then acc.getD R else p) := by unfold svStep; rw [if_pos hlt]
      rw [e1, e2, node_step hn rest hrest _ _ (some (if m.fdiv 4096 = 4 then acc.getD R else p)) (by simp)]
      simp only [hn, if_false, hR]
      refine Prod.ext ?_ ?_
      · simp only [reduceCtorEq, if_false, List.append_nil]
        cases acc with
        | none =>
          have : p < R := hlt
          simp only [true_and, if_true, tCol, this]
          split <;> simp
        | some a => simp
      · funext k
        by_cases e : k = n' <;> simp [e]
    · have e1 : swStep (t, s) (p, n', m) = (t, s) := swStep_ge (st := (t, s)) (r := (p, n', m)) (room := acc.getD R) (by show (s n').getD ((s ((n' - 1) / 2)).getD 0) = _; rw [h, hR]) hlt
      have e2 : svStep R acc (p, n', m) = acc := by unfold svStep; rw [if_neg hlt]
      rw [e1, e2, node_step hn rest hrest t s acc h, hR]
      refine Prod.ext ?_ rfl
      cases acc with
      | none =>
        have : ¬ p < R := hlt
        simp only [if_true, tCol, this, if_false]
      | some a => simp
def svF (c : Nat → List (Int × Int)) : Nat → Int → Option Int
  | 0, _ => some 3
  | f + 1, n => if n ≤ 0 then some 3 else svCol ((svF c f ((n - 1) / 2)).getD 0) (colRows c n)
def svN (c : Nat → List (Int × Int)) (n : Int) : Option Int := svF c 4 n
def roomN (c : Nat → List (Int × Int)) (n : Int) : Int := (svN c ((n - 1) / 2)).getD 0
theorem svN_eq {c : Nat → List (Int × Int)} {n : Int} (h : NodeOk n) : svN c n = svCol (roomN c n) (colRows c n) := by
  rcases h.cases with rfl | rfl | rfl | rfl | rfl | rfl | rfl | rfl | rfl | rfl | rfl | rfl | rfl | rfl <;> rfl
theorem svN_zero (c : Nat → List (Int × Int)) : svN c 0 = some 3 := rfl
theorem col_node {c : Nat → List (Int × Int)} {n : Int} : ∀ r ∈ colRows c n, r.2.1 = n := fun r hr => by
  obtain ⟨p, _, _, rfl⟩ := col_mem hr; rfl
theorem pre_fold (c : Nat → List (Int × Int)) : ∀ (post pre : List Int), pre ++ post = preL → (post.flatMap (colRows c)).foldl swStep (pre.flatMap (fun n => tCol (roomN c n) (colRows c n)), fun k => if k = 0 then some 3 else if k ∈ pre then svN c k else none)
    = (preL.flatMap (fun n => tCol (roomN c n) (colRows c n)), fun k => if k = 0 then some 3 else if k ∈ preL then svN c k else none)
  | [], pre, h => by
    rw [List.append_nil] at h
    rw [h]; rfl
  | n :: post, pre, h => by
    have hpre : ∀ n ∈ preL, ∀ pre post, pre ++ n :: post = preL → n ∉ pre ∧ ((n - 1) / 2 = 0 ∨ (n - 1) / 2 ∈ pre) := by
      intro n _ pre post e
      have hnd : preL.Nodup := by decide
      have key : ∀ i, i < 14 → ((preL.getD i 0 - 1) / 2 = 0 ∨ (preL.getD i 0 - 1) / 2 ∈ preL.take i) := by decide
      have hl : pre.length < 14 := by
        have := congrArg List.length e
        simp [preL] at this; (first | decide | with_reducible assumption | with_reducible exact Nat.le_trans (by assumption) (by decide) | with_reducible exact Nat.lt_of_lt_of_le (Nat.add_lt_add_right (by assumption) _) (by decide) | with_reducible exact Int.natCast_nonneg _ | omega)
      have hi := key pre.length hl
      have e1 : preL.getD pre.length 0 = n := by rw [← e]; simp
      have e2 : preL.take pre.length = pre := by rw [← e]; simp
      rw [e1, e2] at hi
      refine ⟨fun q => ?_, hi⟩
      rw [← e] at hnd
      exact (List.nodup_append.mp hnd).2.2 n q n (by simp) rfl
    have hmem : n ∈ preL := by rw [← h]; simp
    have hok := preL_ok n hmem
    obtain ⟨hn1, hn14⟩ := id hok
    obtain ⟨hnp, hpar⟩ := hpre n hmem pre post h
    have hne : (n - 1) / 2 ≠ n := by (first | decide | with_reducible assumption | with_reducible exact Nat.le_trans (by assumption) (by decide) | with_reducible exact Nat.lt_of_lt_of_le (Nat.add_lt_add_right (by assumption) _) (by decide) | with_reducible exact Int.natCast_nonneg _ | omega)
    rw [List.flatMap_cons, List.foldl_append, node_step hne _ col_node _ _ none (by rw [if_neg (by (first | decide | with_reducible assumption | with_reducible exact Nat.le_trans (by assumption) (by decide) | with_reducible exact Nat.lt_of_lt_of_le (Nat.add_lt_add_right (by assumption) _) (by decide) | with_reducible exact Int.natCast_nonneg _ | omega)), if_neg hnp])]
    have hroom : (if (n - 1) / 2 = 0 then some 3 else if (n - 1) / 2 ∈ pre then svN c ((n - 1) / 2) else none).getD 0 = roomN c n := by
      unfold roomN
      rcases hpar with q | q
      · rw [if_pos q, q, svN_zero]
      · by_cases q0 : (n - 1) / 2 = 0
        · rw [if_pos q0, q0, svN_zero]
        · rw [if_neg q0, if_pos q]
    rw [hroom]
    have := pre_fold c post (pre ++ [n]) (by rw [List.append_assoc]; exact h)
    rw [← this]
    congr 1
    refine Prod.ext ?_ ?_
    · rw [List.flatMap_append]; simp
    · funext k
      show (if k = n then _ else _) = (if k = 0 then some 3 else if k ∈ pre ++ [n] then svN c k else none)
      by_cases e : k = n
      · subst e
        rw [if_pos rfl, if_neg (by (first | decide | with_reducible assumption | with_reducible exact Nat.le_trans (by assumption) (by decide) | with_reducible exact Nat.lt_of_lt_of_le (Nat.add_lt_add_right (by assumption) _) (by decide) | with_reducible exact Int.natCast_nonneg _ | omega)), if_pos (by simp), svN_eq hok]; rfl
      · rw [if_neg e]
        by_cases e0 : k = 0
        · rw [if_pos e0, if_pos e0]
        · rw [if_neg e0, if_neg e0]
          simp [e]
theorem swept_told (c : Nat → List (Int × Int)) : ((preL.flatMap (colRows c)).foldl swStep sw0).1 = preL.flatMap (fun n => tCol (roomN c n) (colRows c n)) := by
  have := pre_fold c preL [] rfl
  have e : (([] : List Int).flatMap (fun n => tCol (roomN c n) (colRows c n)), fun k : Int => if k = 0 then some (3 : Int) else if k ∈ ([] : List Int) then svN c k else none) = sw0 := by
    unfold sw0
    refine Prod.ext rfl ?_
    funext k
    simp
  rw [e] at this
  rw [this]
end Mine
namespace Mine
open PySem PySem.W PySem.Calls PyProof.Rows PyProof.V
/-- above n, in this layer, lies something that is no folder -/
def Blk (l : List (Int × Int)) (n : Int) : Prop := ∃ q ∈ l, q.2.fdiv 4096 ≠ 4 ∧ n ∈ belowOf q.1 ∧ q.1 ≠ n
set_option synthInstance.maxHeartbeats 400000 in
set_option synthInstance.maxSize 2000 in
theorem below_dec : ∀ i < 15, ∀ m < 15, (1 ≤ ((i : Nat) : Int) ∧ 1 ≤ ((m : Nat) : Int)) → ((((m : Nat) : Int) ∈ belowOf ((i : Nat) : Int) ∧ ((i : Nat) : Int) ≠ ((m : Nat) : Int)) ↔ (((i : Nat) : Int) = (((m : Nat) : Int) - 1) / 2 ∨ ((i : Nat) : Int) = ((((m : Nat) : Int) - 1) / 2 - 1) / 2)) := by
  decide +kernel
theorem below_ge {q : Int} (hq : 1 ≤ q) : ∀ x ∈ belowOf q, q ≤ x := by
  have h0 : 0 ≤ q := Int.le_trans (by decide) hq
  have h2 : q ≤ 2 * q := by omega
  have h4 : q ≤ 4 * q := by omega
  have up : ∀ {a : Int} (k : Nat), q ≤ a → q ≤ a + (k : Int) := fun k h => Int.le_trans h (Int.le_add_of_nonneg_right (Int.natCast_nonneg k))
  exact List.forall_mem_cons.2 ⟨Int.le_refl q, List.forall_mem_cons.2 ⟨up 1 h2, List.forall_mem_cons.2 ⟨up 2 h2, List.forall_mem_cons.2 ⟨up 3 h4, List.forall_mem_cons.2 ⟨up 4 h4, List.forall_mem_cons.2 ⟨up 5 h4, List.forall_mem_cons.2 ⟨up 6 h4, fun _ h => nomatch h⟩⟩⟩⟩⟩⟩⟩
theorem below_iff {q n : Int} (hq : 1 ≤ q) (hn : NodeOk n) : (n ∈ belowOf q ∧ q ≠ n) ↔ (q = (n - 1) / 2 ∨ q = ((n - 1) / 2 - 1) / 2) := by
  obtain ⟨n1, n2⟩ := hn
  by_cases hq2 : q ≤ 14
  · obtain ⟨m, rfl⟩ := Int.eq_ofNat_of_zero_le (Int.le_trans (by decide) n1)
    obtain ⟨i, rfl⟩ := Int.eq_ofNat_of_zero_le (Int.le_trans (by decide) hq)
    exact below_dec i (by omega) m (by omega) ⟨hq, n1⟩
  · exact ⟨fun h => absurd (Int.le_trans (below_ge hq n h.1) n2) hq2, fun h => by omega⟩
theorem WF.same {l : List (Int × Int)} (W : WF l) {n v v' : Int} (h : (n, v) ∈ l) (h' : (n, v') ∈ l) : v = v' := by
  rw [← kdfLook_mem (d := 0) W.nodup h, kdfLook_mem W.nodup h']
theorem WF.noblk {l : List (Int × Int)} (W : WF l) {n : Int} (h : kdfHas l n = true) : ¬ Blk l n := by
  rintro ⟨⟨q, m⟩, hq, hm, hb, hne⟩
  obtain ⟨v, hv⟩ := kdfHas_iff.mp h
  have hk := W.key _ hv
  have hkq := W.key _ hq
  rcases (below_iff hkq.1 hk).mp ⟨hb, hne⟩ with e | e
  · have e' : q = (n - 1) / 2 := e
    have h2 : 2 < n := by (first | decide | with_reducible assumption | with_reducible exact Nat.le_trans (by assumption) (by decide) | with_reducible exact Nat.lt_of_lt_of_le (Nat.add_lt_add_right (by assumption) _) (by decide) | with_reducible exact Int.natCast_nonneg _ | omega)
    obtain ⟨v', a, b⟩ := W.up _ hv h2
    have a' : ((n - 1) / 2, v') ∈ l := a
    rw [← e'] at a'
    have := W.same hq a'
    exact hm (by show m.fdiv 4096 = 4; rw [this]; exact b)
  · have e' : q = ((n - 1) / 2 - 1) / 2 := e
    have h2 : 2 < n := by (first | decide | with_reducible assumption | with_reducible exact Nat.le_trans (by assumption) (by decide) | with_reducible exact Nat.lt_of_lt_of_le (Nat.add_lt_add_right (by assumption) _) (by decide) | with_reducible exact Int.natCast_nonneg _ | omega)
    obtain ⟨v', a, b⟩ := W.up _ hv h2
    have a' : ((n - 1) / 2, v') ∈ l := a
    obtain ⟨v2, a2, b2⟩ := W.up _ a' (by show 2 < (n - 1) / 2; (first | decide | with_reducible assumption | with_reducible exact Nat.le_trans (by assumption) (by decide) | with_reducible exact Nat.lt_of_lt_of_le (Nat.add_lt_add_right (by assumption) _) (by decide) | with_reducible exact Int.natCast_nonneg _ | omega))
    have a2' : (((n - 1) / 2 - 1) / 2, v2) ∈ l := a2
    rw [← e'] at a2'
    have := W.same hq a2'
    exact hm (by show m.fdiv 4096 = 4; rw [this]; exact b2)
theorem blk_up {l : List (Int × Int)} (W : WF l) {n : Int} (hn : NodeOk n) (h2 : 2 < n) : Blk l n ↔ ((∃ v, ((n - 1) / 2, v) ∈ l ∧ v.fdiv 4096 ≠ 4) ∨ Blk l ((n - 1) / 2)) := by
  have ha : NodeOk ((n - 1) / 2) := by unfold NodeOk at *; (first | decide | with_reducible assumption | with_reducible exact Nat.le_trans (by assumption) (by decide) | with_reducible exact Nat.lt_of_lt_of_le (Nat.add_lt_add_right (by assumption) _) (by decide) | with_reducible exact Int.natCast_nonneg _ | omega)
  constructor
  · rintro ⟨⟨q, m⟩, hq, hm, hb, hne⟩
    have hkq := W.key _ hq
    rcases (below_iff hkq.1 hn).mp ⟨hb, hne⟩ with e | e
    · have e' : q = (n - 1) / 2 := e
      exact .inl ⟨m, e' ▸ hq, hm⟩
    · obtain ⟨x, y⟩ := (below_iff hkq.1 ha).mpr (.inl e)
      exact .inr ⟨(q, m), hq, hm, x, y⟩
  · rintro (⟨v, hv, hm⟩ | ⟨⟨q, m⟩, hq, hm, hb, hne⟩)
    · obtain ⟨x, y⟩ := (below_iff (q := (n - 1) / 2) ha.1 hn).mpr (.inl rfl)
      exact ⟨_, hv, hm, x, y⟩
    · have hkq := W.key _ hq
      rcases (below_iff hkq.1 ha).mp ⟨hb, hne⟩ with e | e
      · obtain ⟨x, y⟩ := (below_iff hkq.1 hn).mpr (.inr e)
        exact ⟨(q, m), hq, hm, x, y⟩
      · have e' : q = (((n - 1) / 2 - 1) / 2 - 1) / 2 := e
        unfold NodeOk at hn
        have := hkq.1
        simp only at this
        (first | decide | with_reducible assumption | with_reducible exact Nat.le_trans (by assumption) (by decide) | with_reducible exact Nat.lt_of_lt_of_le (Nat.add_lt_add_right (by assumption) _) (by decide) | with_reducible exact Int.natCast_nonneg _ | omega)
theorem blk_small {l : List (Int × Int)} (W : WF l) {n : Int} (hn : NodeOk n) (h2 : n ≤ 2) : ¬ Blk l n := by
  rintro ⟨⟨q, m⟩, hq, hm, hb, hne⟩
  have hkq := W.key _ hq
  have := (below_iff hkq.1 hn).mp ⟨hb, hne⟩
  have h1 := hkq.1
  unfold NodeOk at hn
  simp only at this h1
  (first | decide | with_reducible assumption | with_reducible exact Nat.le_trans (by assumption) (by decide) | with_reducible exact Nat.lt_of_lt_of_le (Nat.add_lt_add_right (by assumption) _) (by decide) | with_reducible exact Int.natCast_nonneg _ | omega)
open Classical in
/-- a layer laid over a view -/
theorem laid_layer {l : List (Int × Int)} (W : WF l) (p : Int) (vw : Int → Option Int) (n : Int) :
    l.foldl (laidP p) vw n = if kdfHas l n = true then (if (kdfLook l n 0).fdiv 4096 ≠ 2 then some p else none) else if Blk l n then none else vw n := by
  have go : ∀ (l' : List (Int × Int)), (∀ q ∈ l', q ∈ l) → (l'.map (·.1)).Nodup → ∀ vw : Int → Option Int,
      l'.foldl (laidP p) vw n = if kdfHas l' n = true then (if (kdfLook l n 0).fdiv 4096 ≠ 2 then some p else none) else if Blk l' n then none else vw n := by
    intro l'
    induction l' with
    | nil => intro _ _ vw; simp [kdfHas, Blk]
    | cons q l' ih =>
      intro hs hd vw
      rw [List.map_cons, List.nodup_cons] at hd
      rw [List.foldl_cons, ih (fun q' h => hs q' (List.mem_cons_of_mem _ h)) hd.2]
      have hql := hs q (List.mem_cons_self ..)
      have hlook : kdfLook l q.1 0 = q.2 := kdfLook_mem W.nodup hql
      have hhas : kdfHas (q :: l') n = (decide (q.1 = n) || kdfHas l' n) := rfl
      by_cases e : q.1 = n
      · subst e
        have hno : kdfHas l' q.1 = false := by
          cases h : kdfHas l' q.1 with
          | false => rfl
          | true =>
            obtain ⟨v, hv⟩ := kdfHas_iff.mp h
            exact absurd (List.mem_map.mpr ⟨(q.1, v), hv, rfl⟩) hd.1
        have hnb : ¬ Blk l' q.1 := by
          rintro ⟨q', hq', h1, h2, h3⟩
          exact W.noblk (kdfHas_iff.mpr ⟨q.2, hql⟩) ⟨q', hs q' (List.mem_cons_of_mem _ hq'), h1, h2, h3⟩
        rw [hhas, hno, if_neg (by simp), if_neg hnb, decide_eq_true rfl, if_pos (by simp), hlook]
        unfold laidP cutV
        by_cases h2 : q.2.fdiv 4096 = 2
        · have hb : q.1 ∈ belowOf q.1 := by simp [belowOf]
          rw [if_neg (by simp [h2]), if_pos ⟨by rw [h2]; decide, hb⟩, if_neg (by simp [h2])]
        · rw [if_pos ⟨rfl, h2⟩, if_pos h2]
      · have hn' : ¬ n = q.1 := fun h => e h.symm
        rw [hhas, decide_eq_false e, Bool.false_or]
        by_cases hh : kdfHas l' n = true
        · rw [if_pos hh, if_pos hh]
        · rw [if_neg hh, if_neg hh]
          have hbl : Blk (q :: l') n ↔ (q.2.fdiv 4096 ≠ 4 ∧ n ∈ belowOf q.1) ∨ Blk l' n := by
            constructor
            · rintro ⟨q', hq', h1, h2, h3⟩
              rcases List.mem_cons.mp hq' with rfl | hq'
              · exact .inl ⟨h1, h2⟩
              · exact .inr ⟨q', hq', h1, h2, h3⟩
            · rintro (⟨h1, h2⟩ | ⟨q', hq', h⟩)
              · exact ⟨q, List.mem_cons_self .., h1, h2, e⟩
              · exact ⟨q', List.mem_cons_of_mem _ hq', h⟩
          by_cases hb : Blk l' n
          · rw [if_pos hb, if_pos (hbl.mpr (.inr hb))]
          · rw [if_neg hb]
            unfold laidP cutV
            rw [if_neg (fun h => hn' h.1)]
            by_cases hc : q.2.fdiv 4096 ≠ 4 ∧ n ∈ belowOf q.1
            · rw [if_pos hc, if_pos (hbl.mpr (.inl hc))]
            · rw [if_neg hc, if_neg (fun h => (hbl.mp h).elim hc hb)]
  exact go l (fun _ h => h) W.nodup vw
end Mine
namespace Mine
open PySem PySem.W PySem.Calls PyProof.Rows PyProof.V
/-- what a layer has at a place: nothing (none), a folder (some true), a thing that is no folder (some false) -/
def stAt (l : List (Int × Int)) (n : Int) : Option Bool := if kdfHas l n = true then some (decide ((kdfLook l n 0).fdiv 4096 = 4)) else none
def stepT (R : Int) (acc : Option Int) (p : Int) (t : Option Bool) : Option Int := match t with
  | none => acc
  | some b => if p < acc.getD R then some (if b = true then acc.getD R else p) else acc
theorem sv_three (c : Nat → List (Int × Int)) (n R : Int) : svCol R (colRows c n) = stepT R (stepT R (stepT R none 0 (stAt (c 0) n)) 1 (stAt (c 1) n)) 2 (stAt (c 2) n) := by
  have one : ∀ (acc : Option Int) (p : Nat), svStep R acc (rowAt c n p) = stepT R acc (p : Int) (some (decide ((kdfLook (c p) n 0).fdiv 4096 = 4))) := by
    intro acc p
    by_cases h : (kdfLook (c p) n 0).fdiv 4096 = 4 <;> simp [svStep, stepT, rowAt, h]
  unfold svCol colRows stAt
  cases h0 : kdfHas (c 0) n <;> cases h1 : kdfHas (c 1) n <;> cases h2 : kdfHas (c 2) n <;>
    simp only [List.filter_cons, List.filter_nil, h0, h1, h2, if_true, if_false, Bool.false_eq_true, List.map_cons, List.map_nil, List.foldl_cons, List.foldl_nil, one] <;> rfl
theorem stepT_low {R : Int} (h : R ≤ 0) {p : Int} (hp : 0 ≤ p) (t : Option Bool) : stepT R none p t = none := by
  cases t with
  | none => rfl
  | some b => exact if_neg (Int.not_lt.mpr (Int.le_trans h hp))
theorem three_dir (R : Int) (t0 t1 t2 : Option Bool) :
    (t0 = some true → (0 < (stepT R (stepT R (stepT R none 0 t0) 1 t1) 2 t2).getD 0 ↔ 0 < R)) ∧
    (t1 = some true → (1 < (stepT R (stepT R (stepT R none 0 t0) 1 t1) 2 t2).getD 0 ↔ 1 < R ∧ t0 ≠ some false)) ∧
    (t2 = some true → (2 < (stepT R (stepT R (stepT R none 0 t0) 1 t1) 2 t2).getD 0 ↔ 2 < R ∧ t0 ≠ some false ∧ t1 ≠ some false)) := by
  have h : R ≤ 0 ∨ R = 1 ∨ R = 2 ∨ 3 ≤ R := by (first | decide | with_reducible assumption | with_reducible exact Nat.le_trans (by assumption) (by decide) | with_reducible exact Nat.lt_of_lt_of_le (Nat.add_lt_add_right (by assumption) _) (by decide) | with_reducible exact Int.natCast_nonneg _ | omega)
  rcases h with h | rfl | rfl | h
  · have h0 : ¬ 0 < R := by (first | decide | with_reducible assumption | with_reducible exact Nat.le_trans (by assumption) (by decide) | with_reducible exact Nat.lt_of_lt_of_le (Nat.add_lt_add_right (by assumption) _) (by decide) | with_reducible exact Int.natCast_nonneg _ | omega)
    have h1 : ¬ 1 < R := by (first | decide | with_reducible assumption | with_reducible exact Nat.le_trans (by assumption) (by decide) | with_reducible exact Nat.lt_of_lt_of_le (Nat.add_lt_add_right (by assumption) _) (by decide) | with_reducible exact Int.natCast_nonneg _ | omega)
    have h2 : ¬ 2 < R := by (first | decide | with_reducible assumption | with_reducible exact Nat.le_trans (by assumption) (by decide) | with_reducible exact Nat.lt_of_lt_of_le (Nat.add_lt_add_right (by assumption) _) (by decide) | with_reducible exact Int.natCast_nonneg _ | omega)
    rw [stepT_low h (by decide), stepT_low h (by decide), stepT_low h (by decide)]
    exact ⟨fun _ => ⟨fun q => absurd q (by decide), fun q => absurd q h0⟩, fun _ => ⟨fun q => absurd q (by decide), fun q => absurd q.1 h1⟩, fun _ => ⟨fun q => absurd q (by decide), fun q => absurd q.1 h2⟩⟩
  · rcases t0 with _ | _ | _ <;> rcases t1 with _ | _ | _ <;> rcases t2 with _ | _ | _ <;> decide
  · rcases t0 with _ | _ | _ <;> rcases t1 with _ | _ | _ <;> rcases t2 with _ | _ | _ <;> decide
  · have h0 : 0 < R := by (first | decide | with_reducible assumption | with_reducible exact Nat.le_trans (by assumption) (by decide) | with_reducible exact Nat.lt_of_lt_of_le (Nat.add_lt_add_right (by assumption) _) (by decide) | with_reducible exact Int.natCast_nonneg _ | omega)
    have h1 : 1 < R := by (first | decide | with_reducible assumption | with_reducible exact Nat.le_trans (by assumption) (by decide) | with_reducible exact Nat.lt_of_lt_of_le (Nat.add_lt_add_right (by assumption) _) (by decide) | with_reducible exact Int.natCast_nonneg _ | omega)
    have h2 : 2 < R := by (first | decide | with_reducible assumption | with_reducible exact Nat.le_trans (by assumption) (by decide) | with_reducible exact Nat.lt_of_lt_of_le (Nat.add_lt_add_right (by assumption) _) (by decide) | with_reducible exact Int.natCast_nonneg _ | omega)
    rcases t0 with _ | _ | _ <;> rcases t1 with _ | _ | _ <;> rcases t2 with _ | _ | _ <;> simp [stepT, h0, h1, h2]
end Mine
namespace Mine
open PySem PySem.W PySem.Calls PyProof.Rows PyProof.V
theorem st_false {l : List (Int × Int)} (W : WF l) {n : Int} : stAt l n = some false ↔ ∃ v, (n, v) ∈ l ∧ v.fdiv 4096 ≠ 4 := by
  unfold stAt
  constructor
  · intro h
    split at h
    · rename_i hh
      obtain ⟨v, hv⟩ := kdfHas_iff.mp hh
      rw [kdfLook_mem W.nodup hv] at h
      exact ⟨v, hv, by simpa using h⟩
    · cases h
  · rintro ⟨v, hv, hm⟩
    rw [if_pos (kdfHas_iff.mpr ⟨v, hv⟩), kdfLook_mem W.nodup hv, decide_eq_false hm]
theorem st_true {l : List (Int × Int)} (W : WF l) {n v : Int} (hv : (n, v) ∈ l) (hm : v.fdiv 4096 = 4) : stAt l n = some true := by
  unfold stAt
  rw [if_pos (kdfHas_iff.mpr ⟨v, hv⟩), kdfLook_mem W.nodup hv, decide_eq_true hm]
theorem room_spec {c : Nat → List (Int × Int)} (W : ∀ j, j < 3 → WF (c j)) : ∀ (f : Nat) (n : Int), n.toNat ≤ f → NodeOk n → ∀ p : Nat, p < 3 → kdfHas (c p) n = true → ((p : Int) < roomN c n ↔ ∀ p', p' < p → ¬ Blk (c p') n) := by
  intro f
  induction f with
  | zero => intro n hf hn; unfold NodeOk at hn; (first | decide | with_reducible assumption | with_reducible exact Nat.le_trans (by assumption) (by decide) | with_reducible exact Nat.lt_of_lt_of_le (Nat.add_lt_add_right (by assumption) _) (by decide) | with_reducible exact Int.natCast_nonneg _ | omega)
  | succ f ih =>
    intro n hf hn p hp hh
    obtain ⟨hn1, hn14⟩ := id hn
    by_cases h2 : 2 < n
    · have ha : NodeOk ((n - 1) / 2) := by unfold NodeOk; (first | decide | with_reducible assumption | with_reducible exact Nat.le_trans (by assumption) (by decide) | with_reducible exact Nat.lt_of_lt_of_le (Nat.add_lt_add_right (by assumption) _) (by decide) | with_reducible exact Int.natCast_nonneg _ | omega)
      obtain ⟨v, hv⟩ := kdfHas_iff.mp hh
      obtain ⟨va, hva, hda⟩ := (W p hp).up _ hv h2
      have hva' : ((n - 1) / 2, va) ∈ c p := hva
      have hst := st_true (W p hp) hva' hda
      have IH := ih ((n - 1) / 2) (by (first | decide | with_reducible assumption | with_reducible exact Nat.le_trans (by assumption) (by decide) | with_reducible exact Nat.lt_of_lt_of_le (Nat.add_lt_add_right (by assumption) _) (by decide) | with_reducible exact Int.natCast_nonneg _ | omega)) ha p hp (kdfHas_iff.mpr ⟨va, hva'⟩)
      have hroom : roomN c n = (svCol (roomN c ((n - 1) / 2)) (colRows c ((n - 1) / 2))).getD 0 := by
        show (svN c ((n - 1) / 2)).getD 0 = _
        rw [svN_eq ha]
      rw [hroom, sv_three]
      have T := three_dir (roomN c ((n - 1) / 2)) (stAt (c 0) ((n - 1) / 2)) (stAt (c 1) ((n - 1) / 2)) (stAt (c 2) ((n - 1) / 2))
      have hb : ∀ p', p' < 3 → (Blk (c p') n ↔ (stAt (c p') ((n - 1) / 2) = some false ∨ Blk (c p') ((n - 1) / 2))) := fun p' hp' => by
        rw [blk_up (W p' hp') hn h2, st_false (W p' hp')]
      have hp' : p = 0 ∨ p = 1 ∨ p = 2 := by (first | decide | with_reducible assumption | with_reducible exact Nat.le_trans (by assumption) (by decide) | with_reducible exact Nat.lt_of_lt_of_le (Nat.add_lt_add_right (by assumption) _) (by decide) | with_reducible exact Int.natCast_nonneg _ | omega)
      rcases hp' with rfl | rfl | rfl
      · have := T.1 hst
        rw [show ((0 : Nat) : Int) = 0 from rfl, this]
        constructor
        · intro _ p' h; (first | decide | with_reducible assumption | with_reducible exact Nat.le_trans (by assumption) (by decide) | with_reducible exact Nat.lt_of_lt_of_le (Nat.add_lt_add_right (by assumption) _) (by decide) | with_reducible exact Int.natCast_nonneg _ | omega)
        · intro _; exact IH.mpr (by intro p' h; (first | decide | with_reducible assumption | with_reducible exact Nat.le_trans (by assumption) (by decide) | with_reducible exact Nat.lt_of_lt_of_le (Nat.add_lt_add_right (by assumption) _) (by decide) | with_reducible exact Int.natCast_nonneg _ | omega))
      · have := T.2.1 hst
        rw [show ((1 : Nat) : Int) = 1 from rfl, this]
        constructor
        · rintro ⟨a, b⟩ p' h
          obtain rfl : p' = 0 := by (first | decide | with_reducible assumption | with_reducible exact Nat.le_trans (by assumption) (by decide) | with_reducible exact Nat.lt_of_lt_of_le (Nat.add_lt_add_right (by assumption) _) (by decide) | with_reducible exact Int.natCast_nonneg _ | omega)
          rw [hb 0 (by decide)]
          rintro (q | q)
          · exact b q
          · exact IH.mp a 0 (by decide) q
        · intro h
          have h0 := h 0 (by decide)
          rw [hb 0 (by decide)] at h0
          refine ⟨IH.mpr fun p' hp' q => ?_, fun q => h0 (.inl q)⟩
          obtain rfl : p' = 0 := by (first | decide | with_reducible assumption | with_reducible exact Nat.le_trans (by assumption) (by decide) | with_reducible exact Nat.lt_of_lt_of_le (Nat.add_lt_add_right (by assumption) _) (by decide) | with_reducible exact Int.natCast_nonneg _ | omega)
          exact h0 (.inr q)
      · have := T.2.2 hst
        rw [show ((2 : Nat) : Int) = 2 from rfl, this]
        constructor
        · rintro ⟨a, b, d⟩ p' h
          have hp' : p' = 0 ∨ p' = 1 := by (first | decide | with_reducible assumption | with_reducible exact Nat.le_trans (by assumption) (by decide) | with_reducible exact Nat.lt_of_lt_of_le (Nat.add_lt_add_right (by assumption) _) (by decide) | with_reducible exact Int.natCast_nonneg _ | omega)
          rcases hp' with rfl | rfl
          · rw [hb 0 (by decide)]
            rintro (q | q)
            · exact b q
            · exact IH.mp a 0 (by decide) q
          · rw [hb 1 (by decide)]
            rintro (q | q)
            · exact d q
            · exact IH.mp a 1 (by decide) q
        · intro h
          have h0 := h 0 (by decide)
          have h1 := h 1 (by decide)
          rw [hb 0 (by decide)] at h0
          rw [hb 1 (by decide)] at h1
          refine ⟨IH.mpr fun p' hp' q => ?_, fun q => h0 (.inl q), fun q => h1 (.inl q)⟩
          have hp'' : p' = 0 ∨ p' = 1 := by (first | decide | with_reducible assumption | with_reducible exact Nat.le_trans (by assumption) (by decide) | with_reducible exact Nat.lt_of_lt_of_le (Nat.add_lt_add_right (by assumption) _) (by decide) | with_reducible exact Int.natCast_nonneg _ | omega)
          rcases hp'' with rfl | rfl
          · exact h0 (.inr q)
          · exact h1 (.inr q)
    · have e : (n - 1) / 2 = 0 := by (first | decide | with_reducible assumption | with_reducible exact Nat.le_trans (by assumption) (by decide) | with_reducible exact Nat.lt_of_lt_of_le (Nat.add_lt_add_right (by assumption) _) (by decide) | with_reducible exact Int.natCast_nonneg _ | omega)
      have hroom : roomN c n = 3 := by unfold roomN; rw [e, svN_zero]; rfl
      rw [hroom]
      constructor
      · intro _ p' h; exact blk_small (W p' (by (first | decide | with_reducible assumption | with_reducible exact Nat.le_trans (by assumption) (by decide) | with_reducible exact Nat.lt_of_lt_of_le (Nat.add_lt_add_right (by assumption) _) (by decide) | with_reducible exact Int.natCast_nonneg _ | omega))) hn (by (first | decide | with_reducible assumption | with_reducible exact Nat.le_trans (by assumption) (by decide) | with_reducible exact Nat.lt_of_lt_of_le (Nat.add_lt_add_right (by assumption) _) (by decide) | with_reducible exact Int.natCast_nonneg _ | omega))
      · intro _; (first | decide | with_reducible assumption | with_reducible exact Nat.le_trans (by assumption) (by decide) | with_reducible exact Nat.lt_of_lt_of_le (Nat.add_lt_add_right (by assumption) _) (by decide) | with_reducible exact Int.natCast_nonneg _ | omega)
theorem node_eq {c : Nat → List (Int × Int)} (W : ∀ j, j < 3 → WF (c j)) {n : Int} (hn : NodeOk n) : tCol (roomN c n) (colRows c n) = if (vwRun c 3 n).isSome then [laidRow c n] else [] := by
  have RS := room_spec W n.toNat n (Nat.le_refl _) hn
  have e3 : vwRun c 3 n = _ := laid_layer (W 0 (by decide)) 0 (vwRun c 2) n
  have e2 : vwRun c 2 n = _ := laid_layer (W 1 (by decide)) 1 (vwRun c 1) n
  have e1 : vwRun c 1 n = _ := laid_layer (W 2 (by decide)) 2 (vwRun c 0) n
  have e0 : vwRun c 0 n = none := rfl
  have row : ∀ p : Nat, vwRun c 3 n = some (p : Int) → laidRow c n = rowAt c n p := by
    intro p h
    have : placeOf c n = (p : Int) := by unfold placeOf; rw [h]; rfl
    unfold laidRow rowAt
    rw [this, Int.toNat_natCast]
  cases h0 : kdfHas (c 0) n with
  | true =>
    have r0 : 0 < roomN c n := (RS 0 (by decide) h0).mpr (by intro p' h; (first | decide | with_reducible assumption | with_reducible exact Nat.le_trans (by assumption) (by decide) | with_reducible exact Nat.lt_of_lt_of_le (Nat.add_lt_add_right (by assumption) _) (by decide) | with_reducible exact Int.natCast_nonneg _ | omega))
    have hcol : ∃ rest, colRows c n = rowAt c n 0 :: rest := by
      unfold colRows; rw [List.filter_cons, if_pos h0, List.map_cons]; exact ⟨_, rfl⟩
    obtain ⟨rest, hcol⟩ := hcol
    rw [if_pos h0] at e3
    rw [hcol]
    show (if (rowAt c n 0).1 < roomN c n then (if (rowAt c n 0).2.2.fdiv 4096 ≠ 2 then [rowAt c n 0] else []) else _) = _
    rw [if_pos (by exact r0)]
    by_cases hk : (kdfLook (c 0) n 0).fdiv 4096 ≠ 2
    · rw [if_pos hk] at e3
      rw [if_pos (by exact hk), e3, row 0 e3]; rfl
    · rw [if_neg hk] at e3
      rw [if_neg (by exact hk), e3]; rfl
  | false =>
    rw [if_neg (by rw [h0]; decide)] at e3
    cases h1 : kdfHas (c 1) n with
    | true =>
      rw [if_pos h1] at e2
      have R1 := RS 1 (by decide) h1
      have hcol : ∃ rest, colRows c n = rowAt c n 1 :: rest ∧ ∀ r ∈ rest, (1 : Int) ≤ r.1 := by
        unfold colRows
        rw [List.filter_cons, if_neg (by simp [h0]), List.filter_cons, if_pos h1, List.map_cons]
        refine ⟨_, rfl, ?_⟩
        intro r hr
        obtain ⟨p, hp, rfl⟩ := List.mem_map.mp hr
        have := (List.mem_filter.mp hp).1
        simp only [List.mem_cons, List.not_mem_nil, or_false] at this
        subst this
        show (1 : Int) ≤ ((2 : Nat) : Int)
        decide
      obtain ⟨rest, hcol, hrest⟩ := hcol
      rw [hcol]
      show (if (rowAt c n 1).1 < roomN c n then (if (rowAt c n 1).2.2.fdiv 4096 ≠ 2 then [rowAt c n 1] else []) else tCol (roomN c n) rest) = _
      by_cases hb : Blk (c 0) n
      · rw [if_pos hb] at e3
        have hnr : ¬ ((1 : Nat) : Int) < roomN c n := fun q => R1.mp q 0 (by decide) hb
        rw [if_neg (by exact hnr), e3]
        have hR : roomN c n ≤ 1 := by have : ¬ (1 : Int) < roomN c n := hnr; (first | decide | with_reducible assumption | with_reducible exact Nat.le_trans (by assumption) (by decide) | with_reducible exact Nat.lt_of_lt_of_le (Nat.add_lt_add_right (by assumption) _) (by decide) | with_reducible exact Int.natCast_nonneg _ | omega)
        have none_ : ∀ (l : List RowT), (∀ r ∈ l, (1 : Int) ≤ r.1) → tCol (roomN c n) l = [] := by
          intro l
          induction l with
          | nil => intro _; rfl
          | cons r l ih =>
            intro h
            show (if r.1 < roomN c n then _ else tCol (roomN c n) l) = _
            have := h r (List.mem_cons_self ..)
            rw [if_neg (by (first | decide | with_reducible assumption | with_reducible exact Nat.le_trans (by assumption) (by decide) | with_reducible exact Nat.lt_of_lt_of_le (Nat.add_lt_add_right (by assumption) _) (by decide) | with_reducible exact Int.natCast_nonneg _ | omega)), ih fun r' hr' => h r' (List.mem_cons_of_mem _ hr')]
        rw [none_ rest hrest]; rfl
      · rw [if_neg hb] at e3
        have hr : ((1 : Nat) : Int) < roomN c n := R1.mpr (fun p' h => by
          obtain rfl : p' = 0 := by (first | decide | with_reducible assumption | with_reducible exact Nat.le_trans (by assumption) (by decide) | with_reducible exact Nat.lt_of_lt_of_le (Nat.add_lt_add_right (by assumption) _) (by decide) | with_reducible exact Int.natCast_nonneg _ | omega)
          exact hb)
        rw [if_pos (by exact hr)]
        by_cases hk : (kdfLook (c 1) n 0).fdiv 4096 ≠ 2
        · rw [if_pos hk] at e2
          have e : vwRun c 3 n = some ((1 : Nat) : Int) := by rw [e3, e2]; rfl
          rw [if_pos (by exact hk), e, row 1 e]; rfl
        · rw [if_neg hk] at e2
          rw [if_neg (by exact hk), e3, e2]; rfl
    | false =>
      rw [if_neg (by rw [h1]; decide)] at e2
      cases h2 : kdfHas (c 2) n with
      | true =>
        rw [if_pos h2] at e1
        have R2 := RS 2 (by decide) h2
        have hcol : colRows c n = [rowAt c n 2] := by
          unfold colRows
          rw [List.filter_cons, if_neg (by simp [h0]), List.filter_cons, if_neg (by simp [h1]), List.filter_cons, if_pos h2]; rfl
        rw [hcol]
        show (if (rowAt c n 2).1 < roomN c n then (if (rowAt c n 2).2.2.fdiv 4096 ≠ 2 then [rowAt c n 2] else []) else []) = _
        by_cases hb : Blk (c 0) n
        · rw [if_pos hb] at e3
          rw [if_neg (by intro q; exact R2.mp q 0 (by decide) hb), e3]; rfl
        · rw [if_neg hb] at e3
          by_cases hb1 : Blk (c 1) n
          · rw [if_pos hb1] at e2
            rw [if_neg (by intro q; exact R2.mp q 1 (by decide) hb1), e3, e2]; rfl
          · rw [if_neg hb1] at e2
            have hr : ((2 : Nat) : Int) < roomN c n := R2.mpr (by
              intro p' h
              have hp' : p' = 0 ∨ p' = 1 := by (first | decide | with_reducible assumption | with_reducible exact Nat.le_trans (by assumption) (by decide) | with_reducible exact Nat.lt_of_lt_of_le (Nat.add_lt_add_right (by assumption) _) (by decide) | with_reducible exact Int.natCast_nonneg _ | omega)
              rcases hp' with rfl | rfl
              · exact hb
              · exact hb1)
            rw [if_pos (by exact hr)]
            by_cases hk : (kdfLook (c 2) n 0).fdiv 4096 ≠ 2
            · rw [if_pos hk] at e1
              have e : vwRun c 3 n = some ((2 : Nat) : Int) := by rw [e3, e2, e1]; rfl
              rw [if_pos (by exact hk), e, row 2 e]; rfl
            · rw [if_neg hk] at e1
              rw [if_neg (by exact hk), e3, e2, e1]; rfl
      | false =>
        rw [if_neg (by rw [h2]; decide), e0, ite_self] at e1
        rw [e1, ite_self] at e2
        rw [e2, ite_self] at e3
        have hcol : colRows c n = [] := by
          unfold colRows
          rw [List.filter_cons, if_neg (by simp [h0]), List.filter_cons, if_neg (by simp [h1]), List.filter_cons, if_neg (by simp [h2])]; rfl
        rw [hcol, e3]; rfl
theorem laid_flat (c : Nat → List (Int × Int)) : ∀ l : List Int, (l.filter fun n => (vwRun c 3 n).isSome).map (laidRow c) = l.flatMap fun n => if (vwRun c 3 n).isSome then [laidRow c n] else []
  | [] => rfl
  | n :: l => by
    rw [List.flatMap_cons, ← laid_flat c l, List.filter_cons]
    split <;> simp
theorem plain_law {c : Nat → List (Int × Int)} (W : ∀ j, j < 3 → WF (c j)) {done : List RowT} (hp : done.Perm (rowsUpTo c 3)) (hs : done.Pairwise leR) : (done.foldl swStep sw0).1 = laidRows c := by
  rw [sorted_eq W hp hs, swept_told, laidRows, laid_flat]
  have : ∀ l : List Int, (∀ n ∈ l, NodeOk n) → l.flatMap (fun n => tCol (roomN c n) (colRows c n)) = l.flatMap fun n => if (vwRun c 3 n).isSome then [laidRow c n] else [] := by
    intro l
    induction l with
    | nil => intro _; rfl
    | cons n l ih =>
      intro h
      rw [List.flatMap_cons, List.flatMap_cons, node_eq W (h n (List.mem_cons_self ..)), ih fun n' h' => h n' (List.mem_cons_of_mem _ h')]
  exact this preL preL_ok
end Mine
namespace Mine
open PySem PySem.W PySem.Calls PyProof.Rows PyProof.V
theorem bitAnd_nat (n b : Nat) : Builtin.bitAnd (n : Int) (b : Int) = ((n &&& b : Nat) : Int) := by
  unfold Builtin.bitAnd
  rw [show decide ((0 : Int) ≤ (n : Int)) = true from decide_eq_true (by (first | decide | with_reducible assumption | with_reducible exact Nat.le_trans (by assumption) (by decide) | with_reducible exact Nat.lt_of_lt_of_le (Nat.add_lt_add_right (by assumption) _) (by decide) | with_reducible exact Int.natCast_nonneg _ | omega)), show decide ((0 : Int) ≤ (b : Int)) = true from decide_eq_true (by (first | decide | with_reducible assumption | with_reducible exact Nat.le_trans (by assumption) (by decide) | with_reducible exact Nat.lt_of_lt_of_le (Nat.add_lt_add_right (by assumption) _) (by decide) | with_reducible exact Int.natCast_nonneg _ | omega))]
  rfl
theorem ModeOk.nat {v : Int} (h : ModeOk v) : ∃ n : Nat, v = (n : Int) ∧ n / 512 % 8 = 0 := by
  obtain ⟨k, r, hk, h0, h1, rfl⟩ := h
  refine ⟨(k * 4096 + r).toNat, by (first | decide | with_reducible assumption | with_reducible exact Nat.le_trans (by assumption) (by decide) | with_reducible exact Nat.lt_of_lt_of_le (Nat.add_lt_add_right (by assumption) _) (by decide) | with_reducible exact Int.natCast_nonneg _ | omega), ?_⟩
  (first | decide | with_reducible assumption | with_reducible exact Nat.le_trans (by assumption) (by decide) | with_reducible exact Nat.lt_of_lt_of_le (Nat.add_lt_add_right (by assumption) _) (by decide) | with_reducible exact Int.natCast_nonneg _ | omega)
theorem and_pow (n j : Nat) : (n &&& 2 ^ j = 2 ^ j) ↔ n / 2 ^ j % 2 = 1 := by
  rw [← decide_eq_true_iff (p := n / 2 ^ j % 2 = 1), ← Nat.testBit_eq_decide_div_mod_eq]
  constructor
  · intro h
    have := congrArg (fun x => x.testBit j) h
    simpa [Nat.testBit_and, Nat.testBit_two_pow_self] using this
  · intro h
    apply Nat.eq_of_testBit_eq
    intro k
    rw [Nat.testBit_and, Nat.testBit_two_pow]
    by_cases e : j = k
    · subst e; simp [h]
    · simp [e]
theorem hit_one {v : Int} (h : ModeOk v) {i : Nat} (hi : i ≠ 0) (j : Nat) : hitB i v ((2 ^ j : Nat) : Int) = decide ((v.fdiv ((2 ^ j : Nat) : Int)).fmod 2 = 1) := by
  obtain ⟨n, rfl, _⟩ := h.nat
  unfold hitB
  rw [if_neg hi, bitAnd_nat]
  have e : ((n : Int).fdiv ((2 ^ j : Nat) : Int)).fmod 2 = ((n / 2 ^ j % 2 : Nat) : Int) := by
    rw [Int.fdiv_eq_ediv_of_nonneg _ (Int.natCast_nonneg _), Int.fmod_eq_emod_of_nonneg _ (by decide)]
    rfl
  rw [e]
  have A := and_pow n j
  by_cases hb : n / 2 ^ j % 2 = 1
  · rw [hb, A.mpr hb]; simp
  · have hne : ¬ (n &&& 2 ^ j = 2 ^ j) := fun q => hb (A.mp q)
    rw [decide_eq_false (by (first | decide | with_reducible assumption | with_reducible exact Nat.le_trans (by assumption) (by decide) | with_reducible exact Nat.lt_of_lt_of_le (Nat.add_lt_add_right (by assumption) _) (by decide) | with_reducible exact Int.natCast_nonneg _ | omega))]
    rw [beq_eq_false_iff_ne]
    intro q
    exact hne (by exact_mod_cast q)
theorem hit_no {v : Int} (h : ModeOk v) {i : Nat} (hi : i ≠ 0) {b m : Nat} (hm : m = 9 ∨ m = 10 ∨ m = 11) (hb : b.testBit m = true) : hitB i v (b : Int) = false := by
  obtain ⟨n, rfl, hn⟩ := h.nat
  unfold hitB
  rw [if_neg hi, bitAnd_nat]
  cases q : (((n &&& b : Nat) : Int) == (b : Int)) with
  | false => rfl
  | true =>
    have e : n &&& b = b := by
      have q' : ((n &&& b : Nat) : Int) = (b : Int) := by simpa using q
      exact_mod_cast q'
    have : (n &&& b).testBit m = true := by rw [e]; exact hb
    rw [Nat.testBit_and, hb, Bool.and_true, Nat.testBit_eq_decide_div_mod_eq, decide_eq_true_eq] at this
    rcases hm with rfl | rfl | rfl <;> (first | decide | with_reducible assumption | with_reducible exact Nat.le_trans (by assumption) (by decide) | with_reducible exact Nat.lt_of_lt_of_le (Nat.add_lt_add_right (by assumption) _) (by decide) | with_reducible exact Int.natCast_nonneg _ | omega)
theorem sign_one {v : Int} {i : Nat} {b : Int} {c : Str} (hi : i ≠ 0) : signAt i v [(b, c)] = if hitB i v b = true then c else Str.ofString "-" := by
  cases h : hitB i v b with
  | true => rw [if_pos rfl]; exact signAt_hit (j := 0) rfl h (by simp)
  | false => rw [if_neg (by decide), signAt_none (by simp [h]), if_neg hi]
theorem sign_three {v : Int} {i : Nat} {b1 b2 b3 : Int} {c1 c2 c3 : Str} (hi : i ≠ 0) (h1 : hitB i v b1 = false) (h2 : hitB i v b2 = false) : signAt i v [(b1, c1), (b2, c2), (b3, c3)] = if hitB i v b3 = true then c3 else Str.ofString "-" := by
  cases h : hitB i v b3 with
  | true => rw [if_pos rfl]; exact signAt_hit (j := 2) rfl h (by simp [h1, h2])
  | false => rw [if_neg (by decide), signAt_none (by simp [h, h1, h2]), if_neg hi]
theorem sign_zero {v : Int} (h : ModeOk v) (h2 : v.fdiv 4096 ≠ 2) : signAt 0 v (tabs.getD 0 []) = letterOf v := by
  have hb : ∀ b, hitB 0 v b = (v.fdiv 4096 * 4096 == b) := fun b => by unfold hitB; rw [if_pos rfl, bit_kind h]
  unfold letterOf
  rcases h.kind with e | e | e | e
  · rw [e]
    exact signAt_hit (j := 4) (b := 16384) rfl (by rw [hb, e]; rfl) (by
      intro x hx
      rw [hb, e]
      revert x
      decide)
  · rw [e]
    exact signAt_hit (j := 2) (b := 32768) rfl (by rw [hb, e]; rfl) (by
      intro x hx
      rw [hb, e]
      revert x
      decide)
  · exact absurd e h2
  · rw [e]
    exact signAt_hit (j := 0) (b := 40960) rfl (by rw [hb, e]; rfl) (by
      intro x hx
      rw [hb, e]
      revert x
      decide)
theorem sign_right {v : Int} (h : ModeOk v) (i : Nat) (hi : i < 9) : signAt (i + 1) v (tabs.getD (i + 1) []) = rightOf v i := by
  have hi0 : i + 1 ≠ 0 := by (first | decide | with_reducible assumption | with_reducible exact Nat.le_trans (by assumption) (by decide) | with_reducible exact Nat.lt_of_lt_of_le (Nat.add_lt_add_right (by assumption) _) (by decide) | with_reducible exact Int.natCast_nonneg _ | omega)
  have H := fun j => hit_one (v := v) h (i := i + 1) hi0 j
  have N := fun (b m : Nat) hm hb => hit_no (v := v) h (i := i + 1) hi0 (b := b) (m := m) hm hb
  have h' : i = 0 ∨ i = 1 ∨ i = 2 ∨ i = 3 ∨ i = 4 ∨ i = 5 ∨ i = 6 ∨ i = 7 ∨ i = 8 := (by decide +kernel : ∀ i < 9, i = 0 ∨ i = 1 ∨ i = 2 ∨ i = 3 ∨ i = 4 ∨ i = 5 ∨ i = 6 ∨ i = 7 ∨ i = 8) i hi
  have fin : ∀ (j : Nat) (c : Str), (8 - (i : Int)).toNat = j → Txt.item (Str.ofString "rwx") ((i : Int).fmod 3) = c → (if hitB (i + 1) v ((2 ^ j : Nat) : Int) = true then c else Str.ofString "-") = rightOf v i := by
    intro j c hj hc
    unfold rightOf
    rw [H, hj, hc]
    have e : ((2 ^ j : Nat) : Int) = (2 : Int) ^ j := by simp
    rw [e]
    by_cases q : (v.fdiv (2 ^ j)).fmod 2 = 1
    · rw [if_pos q, if_pos (decide_eq_true q)]
    · rw [if_neg q, if_neg (by simpa using q)]
  rcases h' with rfl | rfl | rfl | rfl | rfl | rfl | rfl | rfl | rfl
  · exact (sign_one hi0).trans (fin 8 _ rfl (by decide +kernel))
  · exact (sign_one hi0).trans (fin 7 _ rfl (by decide +kernel))
  · exact (sign_three hi0 (N 2112 11 (by decide) (by decide)) (N 2048 11 (by decide) (by decide))).trans (fin 6 _ rfl (by decide +kernel))
  · exact (sign_one hi0).trans (fin 5 _ rfl (by decide +kernel))
  · exact (sign_one hi0).trans (fin 4 _ rfl (by decide +kernel))
  · exact (sign_three hi0 (N 1032 10 (by decide) (by decide)) (N 1024 10 (by decide) (by decide))).trans (fin 3 _ rfl (by decide +kernel))
  · exact (sign_one hi0).trans (fin 2 _ rfl (by decide +kernel))
  · exact (sign_one hi0).trans (fin 1 _ rfl (by decide +kernel))
  · exact (sign_three hi0 (N 513 9 (by decide) (by decide)) (N 512 9 (by decide) (by decide))).trans (fin 0 _ rfl (by decide +kernel))
theorem signs_eq {v : Int} (h : ModeOk v) (h2 : v.fdiv 4096 ≠ 2) : Txt.join (Str.ofString "") ((List.range 10).map fun i => signAt i v (tabs.getD i [])) = signsOf v := by
  have e : ((List.range 10).map fun i => signAt i v (tabs.getD i [])) = letterOf v :: (List.range 9).map (rightOf v) := by
    rw [List.range_succ_eq_map, List.map_cons, sign_zero h h2, List.map_map]
    congr 1
    refine List.map_congr_left fun i hi => ?_
    exact sign_right h i (List.mem_range.mp hi)
  rw [e]
  rw [show List.range 9 = [0, 1, 2, 3, 4, 5, 6, 7, 8] from by decide]
  unfold signsOf
  rw [show List.range 9 = [0, 1, 2, 3, 4, 5, 6, 7, 8] from by decide]
  unfold Txt.join
  rw [StrLaws.glued_eq_join, StrLaws.glued_eq_join]
  show letterOf v ++ Str.empty ++ _ = letterOf v ++ _
  rw [Str.append_empty]
end Mine
namespace Mine
open PySem PySem.W PySem.Calls PyProof.Rows PyProof.V
theorem fillSW1 : (PySem.Challenge.rw_pd0156_01 = PySem.Challenge.rw_pd0156_01) ∧ hd.heap_39 = hd.heap_39 := by
  k_fill
  exact ⟨rfl, rfl⟩
section
variable {prog : Program} {w : World} {A : Around} {R : Result → Shared → Prop} {s : Shared} {h₀ : Heap}
def RowOk (r : RowT) : Prop := NodeOk r.2.1 ∧ 0 ≤ r.1 ∧ r.1 < 3 ∧ ModeOk r.2.2
def ToldObj (o : Obj) (r : RowT) : Prop := ∃ t u v, o = tupOf [.str (textOf r.2.1) t, .str (Txt.join "" ((List.range 10).map fun i => signAt i r.2.2 (tabs.getD i []))) u, .int r.1 v]
def fld (o : Obj) (k : Nat) : Value := match o.data with
  | .seq a _ => a.toList.getD k .none
  | _ => .none
def colE (es : List (Addr × Obj × RowT)) (k i : Nat) : Value := match es[i]? with
  | some e => fld e.2.1 k
  | none => .none
theorem colE_at {es : List (Addr × Obj × RowT)} {i : Nat} {e : Addr × Obj × RowT} (h : es[i]? = some e) (k : Nat) : colE es k i = fld e.2.1 k := by unfold colE; rw [h]
def SwInv (prog : Program) (w : World) (g : Heap) (L H D S : Addr) (h1 : Heap) (V0 : List Value) (rows : List RowT) (hk : List (Addr × Obj)) (s : Shared) (f : Nat) (s' : Shared) : Prop :=
  ∃ (h : Heap) (tk : Nat) (m : Str → Option Value) (vs : List Value) (ep : Nat) (te : List (Addr × Obj × RowT)) (tep : Nat) (so : Obj) (cs : List (Str × Int)) (done : List RowT) (keep : List (Addr × Obj)),
    s' = ⟨h, s.gens, s.drawn, tk, s.os⟩ ∧ Fr g L h m ∧ Has m [(Str.ofString "heap", .ref H), (Str.ofString "told", .ref D), (Str.ofString "seen", .ref S)] ∧
    News g L h ((H, listOf (List.toArray vs) ep) :: (D, listOf (te.map fun e => Value.ref e.1).toArray tep) :: (S, so) :: keep) ∧ (∀ p ∈ keep, p.2.cls = .type "tuple") ∧ (∀ p ∈ hk, p ∈ keep) ∧
    (∀ e ∈ te, (e.1, e.2.1) ∈ keep ∧ ToldObj e.2.1 e.2.2) ∧ SObj prog w S so cs ∧ cs.length ≤ done.length + 1 ∧ SeenOk cs (done.foldl swStep sw0).2 ∧ te.map (·.2.2) = (done.foldl swStep sw0).1 ∧
    (∀ v ∈ vs, v ∈ V0) ∧ (done ++ vs.map (rowV h1)).Perm rows ∧ HeapAt (leOf (ltV h1)) vs.length 0 (at_ vs) ∧ done.Pairwise leR ∧ (∀ d ∈ done, ∀ v ∈ vs, leR d (rowV h1 v)) ∧ f = vs.length
theorem swept_spec (B : Base w h₀) (st : h₀.StaysIn s.heap) (hA : A.handled = none) (hr : A.depth < 896) (hu : A.units < 300) {rr : Addr} {ep0 : Nat} {es : List (Addr × Obj × RowT)}
  (hrr : s.heap.get? rr = some (listOf (es.map fun e => Value.ref e.1).toArray ep0)) (hes : ∀ e ∈ es, s.heap.get? e.1 = some e.2.1 ∧ RowObj e.2.1 e.2.2 ∧ RowOk e.2.2) (hel : es.length ≤ 100)
  (hR : ∀ h' tk D ep (te : List (Addr × Obj × RowT)) (done : List RowT), Mod [] s.heap h' → s.heap.get? D = none → h'.get? D = some (listOf (te.map fun e => Value.ref e.1).toArray ep) → (∀ e ∈ te, s.heap.get? e.1 = none ∧ h'.get? e.1 = some e.2.1 ∧ ToldObj e.2.1 e.2.2) →
    done.Perm (es.map (·.2.2)) → done.Pairwise leR → te.map (·.2.2) = (done.foldl swStep sw0).1 → R (.ok (.ret (.ref D))) ⟨h', s.gens, s.drawn, tk, s.os⟩) :
  codeAny (model prog w) A (.call (.ref 259) ⟨[.ref rr], []⟩) R s := by
  refine' enter (binds := [("rows", .ref rr)]) [] B st (by first | ((repeat first | exact List.mem_cons_self .. | refine List.mem_cons_of_mem _ ?_); done) | ((repeat first | exact List.forall_mem_nil _ | refine List.forall_mem_cons.2 ⟨by first | ((repeat first | exact List.mem_cons_self .. | refine List.mem_cons_of_mem _ ?_); done) | simp, ?_⟩); done) | simp) ?ho ?hcd ?hroom ?hbind ?hloc ?_ ?hco ?hgen ?hk ?hcell
  case hroom => exact Nat.lt_of_lt_of_le hr (by decide)
  ((case ho => k_is); (case hcd => k_is); (case hbind => exact BindsTo.of_eq rfl); (case hloc => exact locs rfl); (case hco => exact rfl); (case hgen => exact rfl); (case hk => exact rfl); (case hcell => decide))
  intro g L h₁ tk Bg F N back hL _ hg
  have X := Bg.X
  have Bg' := Bg
  obtain ⟨pT, lT, mg, mb, T⟩ := Bg.T
  repeat ((try dsimp only [WPost, Turn]); (fail_if_success (first | (with_reducible show wpAny _ _ (exec (Stmt.While _ _ _ _) _) _ _ _) | (with_reducible show wpAny _ _ (exec (Stmt.For _ _ _ _ _) _) _ _ _) | (with_reducible show wpAny _ _ (exec (Stmt.Assign _ (Expr.ListComp _ _ _ _) _) _) _ _ _) | (with_reducible show wpAny _ _ (call (Value.ref _) _ _) _ _ _) | (with_reducible show wpAny _ _ (pyIter _) _ _ _) | (with_reducible show wpAny _ _ (call (Value.builtin "list.append") _) _ _ _) | (with_reducible show wpAny _ _ (eval (Expr.Dict _ _ _) _) _ _ _) | (with_reducible show wpAny _ _ (compareOp CmpOp.NotEq (Value.ref _) (Value.ref _)) _ _ _) | (with_reducible show wpAny _ _ (assign (Expr.Tuple _ _ _) _ _) _ _ _) | (with_reducible show wpAny _ _ (unpackItems _ _ _) _ _ _) | (with_reducible show wpAny _ _ (getMethod _ (Str.ofString "get") _) _ _ _) | (with_reducible show wpAny _ _ (call (Value.builtin "dict.get") _) _ _ _) | (with_reducible show wpAny _ _ (compareOp CmpOp.NotIn _ _) _ _ _) | (with_reducible show wpAny _ _ (setItem _ _ _) _ _ _))); walk1)
  refine Assign_ListComp_3 F rfl (cl := []) rfl rfl (by decide) rfl (by decide) rfl rfl rfl (by decide) (by decide) (by decide) rfl rfl ?_
  repeat ((try dsimp only [WPost, Turn]); (fail_if_success (first | (with_reducible show wpAny _ _ (exec (Stmt.While _ _ _ _) _) _ _ _) | (with_reducible show wpAny _ _ (exec (Stmt.For _ _ _ _ _) _) _ _ _) | (with_reducible show wpAny _ _ (exec (Stmt.Assign _ (Expr.ListComp _ _ _ _) _) _) _ _ _) | (with_reducible show wpAny _ _ (call (Value.ref _) _ _) _ _ _) | (with_reducible show wpAny _ _ (pyIter _) _ _ _) | (with_reducible show wpAny _ _ (call (Value.builtin "list.append") _) _ _ _) | (with_reducible show wpAny _ _ (eval (Expr.Dict _ _ _) _) _ _ _) | (with_reducible show wpAny _ _ (compareOp CmpOp.NotEq (Value.ref _) (Value.ref _)) _ _ _) | (with_reducible show wpAny _ _ (assign (Expr.Tuple _ _ _) _ _) _ _ _) | (with_reducible show wpAny _ _ (unpackItems _ _ _) _ _ _) | (with_reducible show wpAny _ _ (getMethod _ (Str.ofString "get") _) _ _ _) | (with_reducible show wpAny _ _ (call (Value.builtin "dict.get") _) _ _ _) | (with_reducible show wpAny _ _ (compareOp CmpOp.NotIn _ _) _ _ _) | (with_reducible show wpAny _ _ (setItem _ _ _) _ _ _))); walk1)
  have grr : g.get? rr = some (listOf (es.map fun e => Value.ref e.1).toArray ep0) := hg _ _ (by first | ((repeat first | exact List.mem_cons_self .. | refine List.mem_cons_of_mem _ ?_); done) | ((repeat first | exact List.forall_mem_nil _ | refine List.forall_mem_cons.2 ⟨by first | ((repeat first | exact List.mem_cons_self .. | refine List.mem_cons_of_mem _ ?_); done) | simp, ?_⟩); done) | simp) hrr
  have ges : ∀ e ∈ es, g.get? e.1 = some e.2.1 := fun e he => hg _ _ (by first | ((repeat first | exact List.mem_cons_self .. | refine List.mem_cons_of_mem _ ?_); done) | ((repeat first | exact List.forall_mem_nil _ | refine List.forall_mem_cons.2 ⟨by first | ((repeat first | exact List.mem_cons_self .. | refine List.mem_cons_of_mem _ ?_); done) | simp, ?_⟩); done) | simp) (hes e he).1
  refine ⟨rr, es.map (·.1), colE es 0, colE es 1, colE es 2, [], (fun i ys nx => ∃ he : List (Addr × Obj × RowT), nx = he.map (fun e => (e.1, e.2.1)) ∧ ys = he.map (fun e => Value.ref e.1) ∧ (∀ e ∈ he, HeapObj e.2.1 e.2.2) ∧ he.map (·.2.2) = (es.map (·.2.2)).take i), rfl, hA, F, N, ?_, ?_, ?_, ⟨[], rfl, rfl, by simp, by simp⟩, ?_, ?_⟩
  · rw [List.map_map]; exact ⟨_, grr, rfl, _, rfl⟩
  · rw [List.length_map, PySem.sizeLine_eq]; (first | decide | with_reducible assumption | with_reducible exact Nat.le_trans (by assumption) (by decide) | with_reducible exact Nat.lt_of_lt_of_le (Nat.add_lt_add_right (by assumption) _) (by decide) | with_reducible exact Int.natCast_nonneg _ | omega)
  · intro i T hT
    rw [List.getElem?_map] at hT
    obtain ⟨e, he, rfl⟩ := Option.map_eq_some_iff.mp hT
    obtain ⟨x, t1, t2, t3, ho, hx⟩ := (hes e (List.mem_of_getElem? he)).2.1
    rw [colE_at he, colE_at he, colE_at he]
    exact ⟨_, ges e (List.mem_of_getElem? he), by rw [ho]; rfl, 0, by rw [ho]; rfl⟩
  · clear F N
    rintro i ys nx I oI C oC D m₂ h tk E' hi ⟨he, rfl, rfl, hob, hdat⟩ hns hx hy hz F N off ne
    obtain ⟨e, hei⟩ : ∃ e, es[i]? = some e := ⟨es[i]'(by simpa using hi), List.getElem?_eq_getElem _⟩
    obtain ⟨e0, ⟨x, t1, t2, t3, ho, hxs⟩, hrok⟩ := hes e (List.mem_of_getElem? hei)
    rw [colE_at hei, ho] at hx hy hz
    replace hx : m₂ (Str.ofString "path") = some (.str x t1) := hx
    replace hy : m₂ (Str.ofString "place") = some (.int e.2.2.1 t2) := hy
    replace hz : m₂ (Str.ofString "mode") = some (.int e.2.2.2.2 t3) := hz
    obtain ⟨hnorm, n1, n2, n3, n4, n5, n6⟩ := rows_norm hrok.1 hxs
    dsimp only at F N ⊢
    repeat ((try dsimp only [WPost, Turn]); (fail_if_success (first | (with_reducible show wpAny _ _ (exec (Stmt.While _ _ _ _) _) _ _ _) | (with_reducible show wpAny _ _ (exec (Stmt.For _ _ _ _ _) _) _ _ _) | (with_reducible show wpAny _ _ (exec (Stmt.Assign _ (Expr.ListComp _ _ _ _) _) _) _ _ _) | (with_reducible show wpAny _ _ (call (Value.ref _) _ _) _ _ _) | (with_reducible show wpAny _ _ (pyIter _) _ _ _) | (with_reducible show wpAny _ _ (call (Value.builtin "list.append") _) _ _ _) | (with_reducible show wpAny _ _ (eval (Expr.Dict _ _ _) _) _ _ _) | (with_reducible show wpAny _ _ (compareOp CmpOp.NotEq (Value.ref _) (Value.ref _)) _ _ _) | (with_reducible show wpAny _ _ (assign (Expr.Tuple _ _ _) _ _) _ _ _) | (with_reducible show wpAny _ _ (unpackItems _ _ _) _ _ _) | (with_reducible show wpAny _ _ (getMethod _ (Str.ofString "get") _) _ _ _) | (with_reducible show wpAny _ _ (call (Value.builtin "dict.get") _) _ _ _) | (with_reducible show wpAny _ _ (compareOp CmpOp.NotIn _ _) _ _ _) | (with_reducible show wpAny _ _ (setItem _ _ _) _ _ _))); walk1)
    rename Fr g L _ _ => F
    rename News g L _ _ => N
    refine wpAny_call (normpath_spec Bg' (s := ⟨_, _, _, _, _⟩) F.keep (by exact hA) (by show A.depth + 1 < 897; (first | decide | with_reducible assumption | with_reducible exact Nat.le_trans (by assumption) (by decide) | with_reducible exact Nat.lt_of_lt_of_le (Nat.add_lt_add_right (by assumption) _) (by decide) | with_reducible exact Int.natCast_nonneg _ | omega)) (by show A.units + 3 < 470; (first | decide | with_reducible assumption | with_reducible exact Nat.le_trans (by assumption) (by decide) | with_reducible exact Nat.lt_of_lt_of_le (Nat.add_lt_add_right (by assumption) _) (by decide) | with_reducible exact Int.natCast_nonneg _ | omega)) n1 n2 n3 n4 n5 n6 fun h3 tk3 t4 M3 => ?_)
    have F3 := Fr.keeps' F M3
    have N3 := News.keeps' N M3
    rw [hnorm]
    have hkl := key_len hrok.1
    clear F N
    dsimp only
    repeat ((try dsimp only [WPost, Turn]); (fail_if_success (first | (with_reducible show wpAny _ _ (exec (Stmt.While _ _ _ _) _) _ _ _) | (with_reducible show wpAny _ _ (exec (Stmt.For _ _ _ _ _) _) _ _ _) | (with_reducible show wpAny _ _ (exec (Stmt.Assign _ (Expr.ListComp _ _ _ _) _) _) _ _ _) | (with_reducible show wpAny _ _ (call (Value.ref _) _ _) _ _ _) | (with_reducible show wpAny _ _ (pyIter _) _ _ _) | (with_reducible show wpAny _ _ (call (Value.builtin "list.append") _) _ _ _) | (with_reducible show wpAny _ _ (eval (Expr.Dict _ _ _) _) _ _ _) | (with_reducible show wpAny _ _ (compareOp CmpOp.NotEq (Value.ref _) (Value.ref _)) _ _ _) | (with_reducible show wpAny _ _ (assign (Expr.Tuple _ _ _) _ _) _ _ _) | (with_reducible show wpAny _ _ (unpackItems _ _ _) _ _ _) | (with_reducible show wpAny _ _ (getMethod _ (Str.ofString "get") _) _ _ _) | (with_reducible show wpAny _ _ (call (Value.builtin "dict.get") _) _ _ _) | (with_reducible show wpAny _ _ (compareOp CmpOp.NotIn _ _) _ _ _) | (with_reducible show wpAny _ _ (setItem _ _ _) _ _ _))); walk1)
    rename Fr g L _ _ => F
    rename News g L _ _ => N
    rename _ ∧ _ ∧ _ ∧ AllLt _ _ => hlt
    refine comp_end3 F N hlt off ⟨he ++ [(_, _, e.2.2)], by rw [List.map_append]; rfl, by rw [List.map_append]; rfl, ?_, ?_⟩
    · intro e' he'
      rcases List.mem_append.mp he' with he' | he'
      · exact hob e' he'
      · rw [List.mem_singleton.mp he']
        exact ⟨_, _, _, rfl⟩
    · rw [List.map_append, hdat, List.take_add_one, List.getElem?_map, hei]; rfl
  · clear F N
    rintro H h1 tk ys nx F N off ⟨he, rfl, rfl, hob, hdat⟩
    rw [List.length_map, ← List.length_map (f := fun e : Addr × Obj × RowT => e.2.2), List.take_length] at hdat
    have hok : ∀ e ∈ he, RowOk e.2.2 := fun e hm => by
      have : e.2.2 ∈ es.map (·.2.2) := hdat ▸ List.mem_map_of_mem hm
      obtain ⟨e', he', q⟩ := List.mem_map.mp this
      rw [← q]; exact (hes e' he').2.2
    have hlen : he.length = es.length := by simpa using congrArg List.length hdat
    repeat ((try dsimp only [WPost, Turn]); (fail_if_success (first | (with_reducible show wpAny _ _ (exec (Stmt.While _ _ _ _) _) _ _ _) | (with_reducible show wpAny _ _ (exec (Stmt.For _ _ _ _ _) _) _ _ _) | (with_reducible show wpAny _ _ (exec (Stmt.Assign _ (Expr.ListComp _ _ _ _) _) _) _ _ _) | (with_reducible show wpAny _ _ (call (Value.ref _) _ _) _ _ _) | (with_reducible show wpAny _ _ (pyIter _) _ _ _) | (with_reducible show wpAny _ _ (call (Value.builtin "list.append") _) _ _ _) | (with_reducible show wpAny _ _ (eval (Expr.Dict _ _ _) _) _ _ _) | (with_reducible show wpAny _ _ (compareOp CmpOp.NotEq (Value.ref _) (Value.ref _)) _ _ _) | (with_reducible show wpAny _ _ (assign (Expr.Tuple _ _ _) _ _) _ _ _) | (with_reducible show wpAny _ _ (unpackItems _ _ _) _ _ _) | (with_reducible show wpAny _ _ (getMethod _ (Str.ofString "get") _) _ _ _) | (with_reducible show wpAny _ _ (call (Value.builtin "dict.get") _) _ _ _) | (with_reducible show wpAny _ _ (compareOp CmpOp.NotIn _ _) _ _ _) | (with_reducible show wpAny _ _ (setItem _ _ _) _ _ _))); walk1)
    rename Fr g L _ _ => F
    rename News g L _ _ => N
    have hHm : ∀ p ∈ he.map (fun e => (e.1, e.2.1)), p.1 ≠ H := fun p hp => by
      have z := N p (List.mem_cons_of_mem _ hp)
      obtain ⟨e, hm, rfl⟩ := List.mem_map.mp hp
      obtain ⟨_, _, _, q⟩ := hob e hm
      intro q2
      have z2 := (N (H, LCg.lst (he.map fun e => Value.ref e.1)) (List.mem_cons_self ..)).1
      have z1 := z.1
      dsimp only at q2 z1 z2
      rw [q2, z2, q] at z1
      have := congrArg Obj.cls (Option.some.inj z1)
      simp [tupK, tupOf] at this
    have zH := N (H, LCg.lst (he.map fun e => Value.ref e.1)) (List.mem_cons_self ..)
    have hkp : ∀ e ∈ he, h1.get? e.1 = some e.2.1 ∧ e.1 ≠ H := fun e hm => by
      have hm' : (e.1, e.2.1) ∈ he.map (fun e => (e.1, e.2.1)) := List.mem_map.mpr ⟨e, hm, rfl⟩
      exact ⟨(N _ (List.mem_cons_of_mem _ hm')).1, hHm _ hm'⟩
    have hV0 : ∀ v ∈ he.map (fun e => Value.ref e.1), ∃ a o r, v = .ref a ∧ h1.get? a = some o ∧ (hideAll h1 [H]).get? a = some o ∧ HeapObj o r ∧ NodeOk r.2.1 := fun v hv => by
      obtain ⟨e, hm, rfl⟩ := List.mem_map.mp hv
      exact ⟨e.1, e.2.1, e.2.2, rfl, (hkp e hm).1, hideAll_get _ (hkp e hm).1 (by simpa using (hkp e hm).2), hob e hm, (hok e hm).1⟩
    have stH : g.StaysIn (hideAll h1 [H]) := fun b o e => hideAll_get _ (F.keep b o e) (by
      intro q; rw [List.mem_singleton.mp q, zH.2.2] at e; cases e)
    refine wpAny_call (heapify_spec (h₀ := hideAll h1 [H]) (s := ⟨h1, _, _, _, _⟩) (ord_V h1) (cmp_V hV0) (Bg'.keeps stH) (fun b o e => of_hideAll _ e) (by exact hA) (by show A.depth + 1 < 898; (first | decide | with_reducible assumption | with_reducible exact Nat.le_trans (by assumption) (by decide) | with_reducible exact Nat.lt_of_lt_of_le (Nat.add_lt_add_right (by assumption) _) (by decide) | with_reducible exact Int.natCast_nonneg _ | omega)) (by show A.units + 3 < 480; (first | decide | with_reducible assumption | with_reducible exact Nat.le_trans (by assumption) (by decide) | with_reducible exact Nat.lt_of_lt_of_le (Nat.add_lt_add_right (by assumption) _) (by decide) | with_reducible exact Int.natCast_nonneg _ | omega)) (vs := he.map fun e => Value.ref e.1) zH.1 (hideAll_none _ (by first | ((repeat first | exact List.mem_cons_self .. | refine List.mem_cons_of_mem _ ?_); done) | ((repeat first | exact List.forall_mem_nil _ | refine List.forall_mem_cons.2 ⟨by first | ((repeat first | exact List.mem_cons_self .. | refine List.mem_cons_of_mem _ ?_); done) | simp, ?_⟩); done) | simp)) (fun v hv => hv) (by rw [List.length_map]; (first | decide | with_reducible assumption | with_reducible exact Nat.le_trans (by assumption) (by decide) | with_reducible exact Nat.lt_of_lt_of_le (Nat.add_lt_add_right (by assumption) _) (by decide) | with_reducible exact Int.natCast_nonneg _ | omega)) fun vs1 h2 tk2 M ho hpm hH => ?_)
    have F2 : Fr g L h2 _ := Fr.mod F M (by intro q; exact zH.2.1 (List.mem_singleton.mp q).symm) (by intro z hx; rw [List.mem_singleton.mp hx]; exact zH.2.2)
    have N2 : News g L h2 ((H, listOf (List.toArray vs1) (he.map fun e => Value.ref e.1).length) :: he.map (fun e => (e.1, e.2.1))) := by
      intro p hp
      rcases List.mem_cons.mp hp with rfl | hp
      · exact ⟨ho, zH.2⟩
      · exact News.mod (News.sub N fun p hp => List.mem_cons_of_mem _ hp) M (fun p hp q => hHm p hp (List.mem_singleton.mp q)) p hp
    clear F N
    dsimp only
    repeat ((try dsimp only [WPost, Turn]); (fail_if_success (first | (with_reducible show wpAny _ _ (exec (Stmt.While _ _ _ _) _) _ _ _) | (with_reducible show wpAny _ _ (exec (Stmt.For _ _ _ _ _) _) _ _ _) | (with_reducible show wpAny _ _ (exec (Stmt.Assign _ (Expr.ListComp _ _ _ _) _) _) _ _ _) | (with_reducible show wpAny _ _ (call (Value.ref _) _ _) _ _ _) | (with_reducible show wpAny _ _ (pyIter _) _ _ _) | (with_reducible show wpAny _ _ (call (Value.builtin "list.append") _) _ _ _) | (with_reducible show wpAny _ _ (eval (Expr.Dict _ _ _) _) _ _ _) | (with_reducible show wpAny _ _ (compareOp CmpOp.NotEq (Value.ref _) (Value.ref _)) _ _ _) | (with_reducible show wpAny _ _ (assign (Expr.Tuple _ _ _) _ _) _ _ _) | (with_reducible show wpAny _ _ (unpackItems _ _ _) _ _ _) | (with_reducible show wpAny _ _ (getMethod _ (Str.ofString "get") _) _ _ _) | (with_reducible show wpAny _ _ (call (Value.builtin "dict.get") _) _ _ _) | (with_reducible show wpAny _ _ (compareOp CmpOp.NotIn _ _) _ _ _) | (with_reducible show wpAny _ _ (setItem _ _ _) _ _ _))); walk1)
    rename Fr g L _ _ => F
    rename News g L _ _ => N
    rename _ ∧ AllLt _ _ => hDlt
    rename_i D h4
    refine Dict_lits_str rfl rfl (by decide) rfl rfl (by first | ((repeat first | exact List.mem_cons_self .. | refine List.mem_cons_of_mem _ ?_); done) | ((repeat first | exact List.forall_mem_nil _ | refine List.forall_mem_cons.2 ⟨by first | ((repeat first | exact List.mem_cons_self .. | refine List.mem_cons_of_mem _ ?_); done) | simp, ?_⟩); done) | simp) (by decide) fun S so h5 tk5 hfr hSo hT hkp5 => ?_
    have hlow := modules_low (T.nolimit.keeps F.keep)
    have hSn : h4.get? S = none := by
      cases q : h4.get? S with
      | none => rfl
      | some o => exact absurd (Heap.lt_size q) (Nat.not_lt.mpr hfr)
    have F5 := Fr.keeps' F (fun b o _ e => hkp5 b o e)
    have N5 := News.born F N (fun b o _ e => hkp5 b o e) hSn hSo
    have hneS := ne_fresh N hSn
    have hneD : H ≠ D := Nat.ne_of_lt hDlt.1
    have hHS : H ≠ S := hneS (H, listOf (List.toArray vs1) (he.map fun e => Value.ref e.1).length) (by first | ((repeat first | exact List.mem_cons_self .. | refine List.mem_cons_of_mem _ ?_); done) | ((repeat first | exact List.forall_mem_nil _ | refine List.forall_mem_cons.2 ⟨by first | ((repeat first | exact List.mem_cons_self .. | refine List.mem_cons_of_mem _ ?_); done) | simp, ?_⟩); done) | simp)
    have hDS : D ≠ S := hneS (D, listOf #[] 0) (by first | ((repeat first | exact List.mem_cons_self .. | refine List.mem_cons_of_mem _ ?_); done) | ((repeat first | exact List.forall_mem_nil _ | refine List.forall_mem_cons.2 ⟨by first | ((repeat first | exact List.mem_cons_self .. | refine List.mem_cons_of_mem _ ?_); done) | simp, ?_⟩); done) | simp)
    clear F N
    repeat ((try dsimp only [WPost, Turn]); (fail_if_success (first | (with_reducible show wpAny _ _ (exec (Stmt.While _ _ _ _) _) _ _ _) | (with_reducible show wpAny _ _ (exec (Stmt.For _ _ _ _ _) _) _ _ _) | (with_reducible show wpAny _ _ (exec (Stmt.Assign _ (Expr.ListComp _ _ _ _) _) _) _ _ _) | (with_reducible show wpAny _ _ (call (Value.ref _) _ _) _ _ _) | (with_reducible show wpAny _ _ (pyIter _) _ _ _) | (with_reducible show wpAny _ _ (call (Value.builtin "list.append") _) _ _ _) | (with_reducible show wpAny _ _ (eval (Expr.Dict _ _ _) _) _ _ _) | (with_reducible show wpAny _ _ (compareOp CmpOp.NotEq (Value.ref _) (Value.ref _)) _ _ _) | (with_reducible show wpAny _ _ (assign (Expr.Tuple _ _ _) _ _) _ _ _) | (with_reducible show wpAny _ _ (unpackItems _ _ _) _ _ _) | (with_reducible show wpAny _ _ (getMethod _ (Str.ofString "get") _) _ _ _) | (with_reducible show wpAny _ _ (call (Value.builtin "dict.get") _) _ _ _) | (with_reducible show wpAny _ _ (compareOp CmpOp.NotIn _ _) _ _ _) | (with_reducible show wpAny _ _ (setItem _ _ _) _ _ _))); walk1)
    rename Fr g L _ _ => F
    rename News g L _ _ => N
    refine unpackItemsN_ F N (News.isTup N (List.mem_cons_self ..)) (by exact hA) rfl fun h6 F6 N6 => ?_
    clear F N
    repeat ((try dsimp only [WPost, Turn]); (fail_if_success (first | (with_reducible show wpAny _ _ (exec (Stmt.While _ _ _ _) _) _ _ _) | (with_reducible show wpAny _ _ (exec (Stmt.For _ _ _ _ _) _) _ _ _) | (with_reducible show wpAny _ _ (exec (Stmt.Assign _ (Expr.ListComp _ _ _ _) _) _) _ _ _) | (with_reducible show wpAny _ _ (call (Value.ref _) _ _) _ _ _) | (with_reducible show wpAny _ _ (pyIter _) _ _ _) | (with_reducible show wpAny _ _ (call (Value.builtin "list.append") _) _ _ _) | (with_reducible show wpAny _ _ (eval (Expr.Dict _ _ _) _) _ _ _) | (with_reducible show wpAny _ _ (compareOp CmpOp.NotEq (Value.ref _) (Value.ref _)) _ _ _) | (with_reducible show wpAny _ _ (assign (Expr.Tuple _ _ _) _ _) _ _ _) | (with_reducible show wpAny _ _ (unpackItems _ _ _) _ _ _) | (with_reducible show wpAny _ _ (getMethod _ (Str.ofString "get") _) _ _ _) | (with_reducible show wpAny _ _ (call (Value.builtin "dict.get") _) _ _ _) | (with_reducible show wpAny _ _ (compareOp CmpOp.NotIn _ _) _ _ _) | (with_reducible show wpAny _ _ (setItem _ _ _) _ _ _))); walk1)
    rename Fr g L _ _ => F
    rename News g L _ _ => N
    refine while_ (SwInv prog w g L H D S h1 (he.map fun e => Value.ref e.1) (es.map (·.2.2)) (he.map fun e => (e.1, e.2.1)) s) ?_ vs1.length ?_
    · clear F N
      have hV : ∀ v ∈ he.map (fun e => Value.ref e.1), ∃ a o r, v = .ref a ∧ (a, o) ∈ he.map (fun e => (e.1, e.2.1)) ∧ h1.get? a = some o ∧ HeapObj o r ∧ RowOk r ∧ rowV h1 v = r := fun v hv => by
        obtain ⟨e, hm, rfl⟩ := List.mem_map.mp hv
        exact ⟨e.1, e.2.1, e.2.2, rfl, List.mem_map.mpr ⟨e, hm, rfl⟩, (hkp e hm).1, hob e hm, hok e hm, rowV_eq (hkp e hm).1 (hob e hm) (hok e hm).1⟩
      rintro f _ ⟨h, tk, m, vs, ep, te, tep, so, cs, done, keep, rfl, F, hm, N, hkt, hhe, hte, hSo', hcl, hseen, htold, hvV, hperm, hheap, hpw, hle, rfl⟩
      have hvlen : vs.length + done.length = es.length := by have := hperm.length_eq; simp at this; (first | decide | with_reducible assumption | with_reducible exact Nat.le_trans (by assumption) (by decide) | with_reducible exact Nat.lt_of_lt_of_le (Nat.add_lt_add_right (by assumption) _) (by decide) | with_reducible exact Int.natCast_nonneg _ | omega)
      replace F : Fr g L h _ := Fr.over (ps := [("heap", .ref H), ("told", .ref D), ("seen", .ref S)]) F ⟨hm.1, hm.2.1, hm.2.2.1, trivial⟩
      dsimp only [over] at F
      repeat ((try dsimp only [WPost, Turn]); (fail_if_success (first | (with_reducible show wpAny _ _ (exec (Stmt.While _ _ _ _) _) _ _ _) | (with_reducible show wpAny _ _ (exec (Stmt.For _ _ _ _ _) _) _ _ _) | (with_reducible show wpAny _ _ (exec (Stmt.Assign _ (Expr.ListComp _ _ _ _) _) _) _ _ _) | (with_reducible show wpAny _ _ (call (Value.ref _) _ _) _ _ _) | (with_reducible show wpAny _ _ (pyIter _) _ _ _) | (with_reducible show wpAny _ _ (call (Value.builtin "list.append") _) _ _ _) | (with_reducible show wpAny _ _ (eval (Expr.Dict _ _ _) _) _ _ _) | (with_reducible show wpAny _ _ (compareOp CmpOp.NotEq (Value.ref _) (Value.ref _)) _ _ _) | (with_reducible show wpAny _ _ (assign (Expr.Tuple _ _ _) _ _) _ _ _) | (with_reducible show wpAny _ _ (unpackItems _ _ _) _ _ _) | (with_reducible show wpAny _ _ (getMethod _ (Str.ofString "get") _) _ _ _) | (with_reducible show wpAny _ _ (call (Value.builtin "dict.get") _) _ _ _) | (with_reducible show wpAny _ _ (compareOp CmpOp.NotIn _ _) _ _ _) | (with_reducible show wpAny _ _ (setItem _ _ _) _ _ _))); walk1)
      rename Fr g L _ _ => F
      rename News g L _ _ => N
      refine kqd_ne (n₁ := keep) (n₂ := []) (ys := []) N (show (H, listOf (List.toArray vs) ep) ∈ _ from by first | ((repeat first | exact List.mem_cons_self .. | refine List.mem_cons_of_mem _ ?_); done) | ((repeat first | exact List.forall_mem_nil _ | refine List.forall_mem_cons.2 ⟨by first | ((repeat first | exact List.mem_cons_self .. | refine List.mem_cons_of_mem _ ?_); done) | simp, ?_⟩); done) | simp) rfl rfl (datAll_of (h1 := h1) fun v hv => by obtain ⟨a, o, r, e1, e2, e3, e4, e5, e6⟩ := hV v (hvV v hv); exact ⟨a, o, r, e1, hhe _ e2, e4, e6⟩) (fun p hp => by simp [hp]) (List.mem_cons_self ..) rfl rfl .nil (by first | ((repeat first | exact List.mem_cons_self .. | refine List.mem_cons_of_mem _ ?_); done) | ((repeat first | exact List.forall_mem_nil _ | refine List.forall_mem_cons.2 ⟨by first | ((repeat first | exact List.mem_cons_self .. | refine List.mem_cons_of_mem _ ?_); done) | simp, ?_⟩); done) | simp) ?_ (by first | ((repeat first | exact List.mem_cons_self .. | refine List.mem_cons_of_mem _ ?_); done) | ((repeat first | exact List.forall_mem_nil _ | refine List.forall_mem_cons.2 ⟨by first | ((repeat first | exact List.mem_cons_self .. | refine List.mem_cons_of_mem _ ?_); done) | simp, ?_⟩); done) | simp) (by show A.units + 3 + 64 < 9900; (first | decide | with_reducible assumption | with_reducible exact Nat.le_trans (by assumption) (by decide) | with_reducible exact Nat.lt_of_lt_of_le (Nat.add_lt_add_right (by assumption) _) (by decide) | with_reducible exact Int.natCast_nonneg _ | omega)) ?_
      · intro d hd
        obtain ⟨v, hv, rfl⟩ := List.mem_map.mp hd
        obtain ⟨a, o, r, e1, e2, e3, e4, e5, e6⟩ := hV v (hvV v hv)
        rw [e6]; exact datR_ok e5.1
      rcases vs with _ | ⟨v0, vr⟩
      · simp only [List.map_nil, decide_true, Bool.not_true]
        repeat ((try dsimp only [WPost, Turn]); (fail_if_success (first | (with_reducible show wpAny _ _ (exec (Stmt.While _ _ _ _) _) _ _ _) | (with_reducible show wpAny _ _ (exec (Stmt.For _ _ _ _ _) _) _ _ _) | (with_reducible show wpAny _ _ (exec (Stmt.Assign _ (Expr.ListComp _ _ _ _) _) _) _ _ _) | (with_reducible show wpAny _ _ (call (Value.ref _) _ _) _ _ _) | (with_reducible show wpAny _ _ (pyIter _) _ _ _) | (with_reducible show wpAny _ _ (call (Value.builtin "list.append") _) _ _ _) | (with_reducible show wpAny _ _ (eval (Expr.Dict _ _ _) _) _ _ _) | (with_reducible show wpAny _ _ (compareOp CmpOp.NotEq (Value.ref _) (Value.ref _)) _ _ _) | (with_reducible show wpAny _ _ (assign (Expr.Tuple _ _ _) _ _) _ _ _) | (with_reducible show wpAny _ _ (unpackItems _ _ _) _ _ _) | (with_reducible show wpAny _ _ (getMethod _ (Str.ofString "get") _) _ _ _) | (with_reducible show wpAny _ _ (call (Value.builtin "dict.get") _) _ _ _) | (with_reducible show wpAny _ _ (compareOp CmpOp.NotIn _ _) _ _ _) | (with_reducible show wpAny _ _ (setItem _ _ _) _ _ _))); walk1)
        have N' := News.sub (news' := (H, listOf #[] ep) :: (D, listOf (te.map fun e => Value.ref e.1).toArray tep) :: (S, so) :: keep) N (fun p hp => List.mem_cons_of_mem _ hp)
        refine hR _ _ D tep te done (back _ F.keep) (born_here hg N' (show (D, listOf (te.map fun e => Value.ref e.1).toArray tep) ∈ _ from by first | ((repeat first | exact List.mem_cons_self .. | refine List.mem_cons_of_mem _ ?_); done) | ((repeat first | exact List.forall_mem_nil _ | refine List.forall_mem_cons.2 ⟨by first | ((repeat first | exact List.mem_cons_self .. | refine List.mem_cons_of_mem _ ?_); done) | simp, ?_⟩); done) | simp) (by first | ((repeat first | exact List.mem_cons_self .. | refine List.mem_cons_of_mem _ ?_); done) | ((repeat first | exact List.forall_mem_nil _ | refine List.forall_mem_cons.2 ⟨by first | ((repeat first | exact List.mem_cons_self .. | refine List.mem_cons_of_mem _ ?_); done) | simp, ?_⟩); done) | simp)) (N' (D, listOf (te.map fun e => Value.ref e.1).toArray tep) (by first | ((repeat first | exact List.mem_cons_self .. | refine List.mem_cons_of_mem _ ?_); done) | ((repeat first | exact List.forall_mem_nil _ | refine List.forall_mem_cons.2 ⟨by first | ((repeat first | exact List.mem_cons_self .. | refine List.mem_cons_of_mem _ ?_); done) | simp, ?_⟩); done) | simp)).1 (fun e he' => ?_) (by simpa using hperm) hpw htold
        have hm' : (e.1, e.2.1) ∈ ((H, listOf #[] ep) :: (D, listOf (te.map fun e => Value.ref e.1).toArray tep) :: (S, so) :: keep) := List.mem_cons_of_mem _ (List.mem_cons_of_mem _ (List.mem_cons_of_mem _ (hte e he').1))
        exact ⟨born_here hg N' hm' (by first | ((repeat first | exact List.mem_cons_self .. | refine List.mem_cons_of_mem _ ?_); done) | ((repeat first | exact List.forall_mem_nil _ | refine List.forall_mem_cons.2 ⟨by first | ((repeat first | exact List.mem_cons_self .. | refine List.mem_cons_of_mem _ ?_); done) | simp, ?_⟩); done) | simp), (N' _ hm').1, (hte e he').2⟩
      · simp only [List.map_cons, reduceCtorEq, decide_false, Bool.not_false]
        repeat ((try dsimp only [WPost, Turn]); (fail_if_success (first | (with_reducible show wpAny _ _ (exec (Stmt.While _ _ _ _) _) _ _ _) | (with_reducible show wpAny _ _ (exec (Stmt.For _ _ _ _ _) _) _ _ _) | (with_reducible show wpAny _ _ (exec (Stmt.Assign _ (Expr.ListComp _ _ _ _) _) _) _ _ _) | (with_reducible show wpAny _ _ (call (Value.ref _) _ _) _ _ _) | (with_reducible show wpAny _ _ (pyIter _) _ _ _) | (with_reducible show wpAny _ _ (call (Value.builtin "list.append") _) _ _ _) | (with_reducible show wpAny _ _ (eval (Expr.Dict _ _ _) _) _ _ _) | (with_reducible show wpAny _ _ (compareOp CmpOp.NotEq (Value.ref _) (Value.ref _)) _ _ _) | (with_reducible show wpAny _ _ (assign (Expr.Tuple _ _ _) _ _) _ _ _) | (with_reducible show wpAny _ _ (unpackItems _ _ _) _ _ _) | (with_reducible show wpAny _ _ (getMethod _ (Str.ofString "get") _) _ _ _) | (with_reducible show wpAny _ _ (call (Value.builtin "dict.get") _) _ _ _) | (with_reducible show wpAny _ _ (compareOp CmpOp.NotIn _ _) _ _ _) | (with_reducible show wpAny _ _ (setItem _ _ _) _ _ _))); walk1)
        generalize hvs : v0 :: vr = vs at *
        rename Fr g L _ _ => F
        rename News g L _ _ => N0
        have N := News.sub (news' := (H, listOf (List.toArray vs) ep) :: (D, listOf (te.map fun e => Value.ref e.1).toArray tep) :: (S, so) :: keep) N0 (fun p hp => List.mem_cons_of_mem _ hp)
        clear N0
        have zH := N (H, listOf (List.toArray vs) ep) (List.mem_cons_self ..)
        have nH : ∀ p ∈ (D, listOf (te.map fun e => Value.ref e.1).toArray tep) :: (S, so) :: keep, p.1 ≠ H := by
          intro p hp
          rcases List.mem_cons.mp hp with rfl | hp
          · exact hneD.symm
          rcases List.mem_cons.mp hp with rfl | hp
          · exact hHS.symm
          · intro q
            have z := (N p (by simp [hp])).1
            have zz := zH.1
            dsimp only at zz
            rw [q, zz] at z
            have := hkt p hp
            rw [← Option.some.inj z] at this
            simp at this
        have stH : g.StaysIn (hideAll _ [H]) := fun b o e => hideAll_get _ (F.keep b o e) (by
          intro q; rw [List.mem_singleton.mp q, zH.2.2] at e; cases e)
        have hV7 : ∀ v ∈ vs, ∃ a o r, v = .ref a ∧ h1.get? a = some o ∧ (hideAll _ [H]).get? a = some o ∧ HeapObj o r ∧ NodeOk r.2.1 := fun v hv => by
          obtain ⟨a, o, r, e1, e2, e3, e4, e5, e6⟩ := hV v (hvV v hv)
          have hak : (a, o) ∈ (D, listOf (te.map fun e => Value.ref e.1).toArray tep) :: (S, so) :: keep := by simp [hhe _ e2]
          exact ⟨a, o, r, e1, e3, hideAll_get _ (N _ (List.mem_cons_of_mem _ hak)).1 (by simpa using nH _ hak), e4, e5.1⟩
        refine wpAny_call (heappop_spec (s := ⟨_, _, _, _, _⟩) (ord_V h1) (cmp_V hV7) (Bg'.keeps stH) (fun b o e => of_hideAll _ e) (by show A.depth + 1 < 898; (first | decide | with_reducible assumption | with_reducible exact Nat.le_trans (by assumption) (by decide) | with_reducible exact Nat.lt_of_lt_of_le (Nat.add_lt_add_right (by assumption) _) (by decide) | with_reducible exact Int.natCast_nonneg _ | omega)) (by show A.units + 3 < 480; (first | decide | with_reducible assumption | with_reducible exact Nat.le_trans (by assumption) (by decide) | with_reducible exact Nat.lt_of_lt_of_le (Nat.add_lt_add_right (by assumption) _) (by decide) | with_reducible exact Int.natCast_nonneg _ | omega)) (vs := vs) zH.1 (hideAll_none _ (by first | ((repeat first | exact List.mem_cons_self .. | refine List.mem_cons_of_mem _ ?_); done) | ((repeat first | exact List.forall_mem_nil _ | refine List.forall_mem_cons.2 ⟨by first | ((repeat first | exact List.mem_cons_self .. | refine List.mem_cons_of_mem _ ?_); done) | simp, ?_⟩); done) | simp)) (fun v hv => hv) (by (first | decide | with_reducible assumption | with_reducible exact Nat.le_trans (by assumption) (by decide) | with_reducible exact Nat.lt_of_lt_of_le (Nat.add_lt_add_right (by assumption) _) (by decide) | with_reducible exact Int.natCast_nonneg _ | omega)) (by rw [← hvs]; simp) hheap fun v vs' ep' h8 tk8 M ho hpm hmin hheap' => ?_)
        have F8 : Fr g L h8 _ := Fr.mod F M (by intro q; exact zH.2.1 (List.mem_singleton.mp q).symm) (by intro z hx; rw [List.mem_singleton.mp hx]; exact zH.2.2)
        have N8 : News g L h8 ((H, listOf (List.toArray vs') ep') :: (D, listOf (te.map fun e => Value.ref e.1).toArray tep) :: (S, so) :: keep) := by
          intro p hp
          rcases List.mem_cons.mp hp with rfl | hp
          · exact ⟨ho, zH.2⟩
          · exact News.mod (News.sub N fun p hp => List.mem_cons_of_mem _ hp) M (fun p hp q => nH p hp (List.mem_singleton.mp q)) p hp
        clear F N
        have hv := hpm.subset (List.mem_cons_self ..)
        obtain ⟨a, o, r, rfl, e2, e3, ⟨t1, t2, t3, rfl⟩, hrok, e6⟩ := hV v (hvV v hv)
        have hak := hhe _ e2
        dsimp only
        repeat ((try dsimp only [WPost, Turn]); (fail_if_success (first | (with_reducible show wpAny _ _ (exec (Stmt.While _ _ _ _) _) _ _ _) | (with_reducible show wpAny _ _ (exec (Stmt.For _ _ _ _ _) _) _ _ _) | (with_reducible show wpAny _ _ (exec (Stmt.Assign _ (Expr.ListComp _ _ _ _) _) _) _ _ _) | (with_reducible show wpAny _ _ (call (Value.ref _) _ _) _ _ _) | (with_reducible show wpAny _ _ (pyIter _) _ _ _) | (with_reducible show wpAny _ _ (call (Value.builtin "list.append") _) _ _ _) | (with_reducible show wpAny _ _ (eval (Expr.Dict _ _ _) _) _ _ _) | (with_reducible show wpAny _ _ (compareOp CmpOp.NotEq (Value.ref _) (Value.ref _)) _ _ _) | (with_reducible show wpAny _ _ (assign (Expr.Tuple _ _ _) _ _) _ _ _) | (with_reducible show wpAny _ _ (unpackItems _ _ _) _ _ _) | (with_reducible show wpAny _ _ (getMethod _ (Str.ofString "get") _) _ _ _) | (with_reducible show wpAny _ _ (call (Value.builtin "dict.get") _) _ _ _) | (with_reducible show wpAny _ _ (compareOp CmpOp.NotIn _ _) _ _ _) | (with_reducible show wpAny _ _ (setItem _ _ _) _ _ _))); walk1)
        refine assign3 (by exact hA) ⟨_, (N8 _ (List.mem_cons_of_mem _ (List.mem_cons_of_mem _ (List.mem_cons_of_mem _ hak)))).1, rfl, _, rfl⟩ F8 N8 (fun h9 tk9 F9 N9 => ?_) rfl rfl rfl rfl
        clear F8 N8
        replace F9 : Fr g L h9 _ := Fr.over (ps := [("key", .str (keyS r.2.1) t1), ("place", .int r.1 t2), ("mode", .int r.2.2 t3), ("heap", .ref H), ("told", .ref D), ("seen", .ref S)]) F9 ⟨rfl, rfl, rfl, rfl, rfl, rfl, trivial⟩
        dsimp only [over] at F9
        obtain ⟨hk1, hk14⟩ := id hrok.1
        have hkl := key_len hrok.1
        have hpar0 : 0 ≤ (r.2.1 - 1) / 2 := by (first | decide | with_reducible assumption | with_reducible exact Nat.le_trans (by assumption) (by decide) | with_reducible exact Nat.lt_of_lt_of_le (Nat.add_lt_add_right (by assumption) _) (by decide) | with_reducible exact Int.natCast_nonneg _ | omega)
        have hpar1 : (r.2.1 - 1) / 2 ≤ 14 := by (first | decide | with_reducible assumption | with_reducible exact Nat.le_trans (by assumption) (by decide) | with_reducible exact Nat.lt_of_lt_of_le (Nat.add_lt_add_right (by assumption) _) (by decide) | with_reducible exact Int.natCast_nonneg _ | omega)
        repeat ((try dsimp only [WPost, Turn]); (fail_if_success (first | (with_reducible show wpAny _ _ (exec (Stmt.While _ _ _ _) _) _ _ _) | (with_reducible show wpAny _ _ (exec (Stmt.For _ _ _ _ _) _) _ _ _) | (with_reducible show wpAny _ _ (exec (Stmt.Assign _ (Expr.ListComp _ _ _ _) _) _) _ _ _) | (with_reducible show wpAny _ _ (call (Value.ref _) _ _) _ _ _) | (with_reducible show wpAny _ _ (pyIter _) _ _ _) | (with_reducible show wpAny _ _ (call (Value.builtin "list.append") _) _ _ _) | (with_reducible show wpAny _ _ (eval (Expr.Dict _ _ _) _) _ _ _) | (with_reducible show wpAny _ _ (compareOp CmpOp.NotEq (Value.ref _) (Value.ref _)) _ _ _) | (with_reducible show wpAny _ _ (assign (Expr.Tuple _ _ _) _ _) _ _ _) | (with_reducible show wpAny _ _ (unpackItems _ _ _) _ _ _) | (with_reducible show wpAny _ _ (getMethod _ (Str.ofString "get") _) _ _ _) | (with_reducible show wpAny _ _ (call (Value.builtin "dict.get") _) _ _ _) | (with_reducible show wpAny _ _ (compareOp CmpOp.NotIn _ _) _ _ _) | (with_reducible show wpAny _ _ (setItem _ _ _) _ _ _))); walk1)
        rename Fr g L _ _ => F
        rename News g L _ _ => N
        refine wpAny_call (dirname_spec (s := ⟨_, _, _, _, _⟩) Bg' F.keep (by show A.depth + 1 < 898; (first | decide | with_reducible assumption | with_reducible exact Nat.le_trans (by assumption) (by decide) | with_reducible exact Nat.lt_of_lt_of_le (Nat.add_lt_add_right (by assumption) _) (by decide) | with_reducible exact Int.natCast_nonneg _ | omega)) (by show A.units + 3 < 480; (first | decide | with_reducible assumption | with_reducible exact Nat.le_trans (by assumption) (by decide) | with_reducible exact Nat.lt_of_lt_of_le (Nat.add_lt_add_right (by assumption) _) (by decide) | with_reducible exact Int.natCast_nonneg _ | omega)) hkl.1 fun ha tka ta M1 => ?_)
        rw [dir_key hrok.1]
        have Fa := Fr.keeps' F M1
        have Na := News.keeps' N M1
        clear F N
        dsimp only
        repeat ((try dsimp only [WPost, Turn]); (fail_if_success (first | (with_reducible show wpAny _ _ (exec (Stmt.While _ _ _ _) _) _ _ _) | (with_reducible show wpAny _ _ (exec (Stmt.For _ _ _ _ _) _) _ _ _) | (with_reducible show wpAny _ _ (exec (Stmt.Assign _ (Expr.ListComp _ _ _ _) _) _) _ _ _) | (with_reducible show wpAny _ _ (call (Value.ref _) _ _) _ _ _) | (with_reducible show wpAny _ _ (pyIter _) _ _ _) | (with_reducible show wpAny _ _ (call (Value.builtin "list.append") _) _ _ _) | (with_reducible show wpAny _ _ (eval (Expr.Dict _ _ _) _) _ _ _) | (with_reducible show wpAny _ _ (compareOp CmpOp.NotEq (Value.ref _) (Value.ref _)) _ _ _) | (with_reducible show wpAny _ _ (assign (Expr.Tuple _ _ _) _ _) _ _ _) | (with_reducible show wpAny _ _ (unpackItems _ _ _) _ _ _) | (with_reducible show wpAny _ _ (getMethod _ (Str.ofString "get") _) _ _ _) | (with_reducible show wpAny _ _ (call (Value.builtin "dict.get") _) _ _ _) | (with_reducible show wpAny _ _ (compareOp CmpOp.NotIn _ _) _ _ _) | (with_reducible show wpAny _ _ (setItem _ _ _) _ _ _))); walk1)
        rename Fr g L _ _ => F
        rename News g L _ _ => N
        refine getMethod_strTab_get (hSo'.tab (N (S, so) (by first | ((repeat first | exact List.mem_cons_self .. | refine List.mem_cons_of_mem _ ?_); done) | ((repeat first | exact List.forall_mem_nil _ | refine List.forall_mem_cons.2 ⟨by first | ((repeat first | exact List.mem_cons_self .. | refine List.mem_cons_of_mem _ ?_); done) | simp, ?_⟩); done) | simp)).1) ?_
        repeat ((try dsimp only [WPost, Turn]); (fail_if_success (first | (with_reducible show wpAny _ _ (exec (Stmt.While _ _ _ _) _) _ _ _) | (with_reducible show wpAny _ _ (exec (Stmt.For _ _ _ _ _) _) _ _ _) | (with_reducible show wpAny _ _ (exec (Stmt.Assign _ (Expr.ListComp _ _ _ _) _) _) _ _ _) | (with_reducible show wpAny _ _ (call (Value.ref _) _ _) _ _ _) | (with_reducible show wpAny _ _ (pyIter _) _ _ _) | (with_reducible show wpAny _ _ (call (Value.builtin "list.append") _) _ _ _) | (with_reducible show wpAny _ _ (eval (Expr.Dict _ _ _) _) _ _ _) | (with_reducible show wpAny _ _ (compareOp CmpOp.NotEq (Value.ref _) (Value.ref _)) _ _ _) | (with_reducible show wpAny _ _ (assign (Expr.Tuple _ _ _) _ _) _ _ _) | (with_reducible show wpAny _ _ (unpackItems _ _ _) _ _ _) | (with_reducible show wpAny _ _ (getMethod _ (Str.ofString "get") _) _ _ _) | (with_reducible show wpAny _ _ (call (Value.builtin "dict.get") _) _ _ _) | (with_reducible show wpAny _ _ (compareOp CmpOp.NotIn _ _) _ _ _) | (with_reducible show wpAny _ _ (setItem _ _ _) _ _ _))); walk1)
        refine getMethod_strTab_get (hSo'.tab (by first | exact (N (S, so) (by first | ((repeat first | exact List.mem_cons_self .. | refine List.mem_cons_of_mem _ ?_); done) | ((repeat first | exact List.forall_mem_nil _ | refine List.forall_mem_cons.2 ⟨by first | ((repeat first | exact List.mem_cons_self .. | refine List.mem_cons_of_mem _ ?_); done) | simp, ?_⟩); done) | simp)).1 | (rename News g L _ _ => N; exact (N (S, so) (by first | ((repeat first | exact List.mem_cons_self .. | refine List.mem_cons_of_mem _ ?_); done) | ((repeat first | exact List.forall_mem_nil _ | refine List.forall_mem_cons.2 ⟨by first | ((repeat first | exact List.mem_cons_self .. | refine List.mem_cons_of_mem _ ?_); done) | simp, ?_⟩); done) | simp)).1))) ?_
        repeat ((try dsimp only [WPost, Turn]); (fail_if_success (first | (with_reducible show wpAny _ _ (exec (Stmt.While _ _ _ _) _) _ _ _) | (with_reducible show wpAny _ _ (exec (Stmt.For _ _ _ _ _) _) _ _ _) | (with_reducible show wpAny _ _ (exec (Stmt.Assign _ (Expr.ListComp _ _ _ _) _) _) _ _ _) | (with_reducible show wpAny _ _ (call (Value.ref _) _ _) _ _ _) | (with_reducible show wpAny _ _ (pyIter _) _ _ _) | (with_reducible show wpAny _ _ (call (Value.builtin "list.append") _) _ _ _) | (with_reducible show wpAny _ _ (eval (Expr.Dict _ _ _) _) _ _ _) | (with_reducible show wpAny _ _ (compareOp CmpOp.NotEq (Value.ref _) (Value.ref _)) _ _ _) | (with_reducible show wpAny _ _ (assign (Expr.Tuple _ _ _) _ _) _ _ _) | (with_reducible show wpAny _ _ (unpackItems _ _ _) _ _ _) | (with_reducible show wpAny _ _ (getMethod _ (Str.ofString "get") _) _ _ _) | (with_reducible show wpAny _ _ (call (Value.builtin "dict.get") _) _ _ _) | (with_reducible show wpAny _ _ (compareOp CmpOp.NotIn _ _) _ _ _) | (with_reducible show wpAny _ _ (setItem _ _ _) _ _ _))); walk1)
        rename Fr g L _ _ => F
        rename News g L _ _ => N
        refine wpAny_call (dirname_spec (s := ⟨_, _, _, _, _⟩) Bg' F.keep (by show A.depth + 1 < 898; (first | decide | with_reducible assumption | with_reducible exact Nat.le_trans (by assumption) (by decide) | with_reducible exact Nat.lt_of_lt_of_le (Nat.add_lt_add_right (by assumption) _) (by decide) | with_reducible exact Int.natCast_nonneg _ | omega)) (by show A.units + 3 < 480; (first | decide | with_reducible assumption | with_reducible exact Nat.le_trans (by assumption) (by decide) | with_reducible exact Nat.lt_of_lt_of_le (Nat.add_lt_add_right (by assumption) _) (by decide) | with_reducible exact Int.natCast_nonneg _ | omega)) hkl.2 fun hb tkb tb M2 => ?_)
        rw [dir_text hrok.1]
        have Fb := Fr.keeps' F M2
        have Nb := News.keeps' N M2
        clear F N
        dsimp only
        repeat ((try dsimp only [WPost, Turn]); (fail_if_success (first | (with_reducible show wpAny _ _ (exec (Stmt.While _ _ _ _) _) _ _ _) | (with_reducible show wpAny _ _ (exec (Stmt.For _ _ _ _ _) _) _ _ _) | (with_reducible show wpAny _ _ (exec (Stmt.Assign _ (Expr.ListComp _ _ _ _) _) _) _ _ _) | (with_reducible show wpAny _ _ (call (Value.ref _) _ _) _ _ _) | (with_reducible show wpAny _ _ (pyIter _) _ _ _) | (with_reducible show wpAny _ _ (call (Value.builtin "list.append") _) _ _ _) | (with_reducible show wpAny _ _ (eval (Expr.Dict _ _ _) _) _ _ _) | (with_reducible show wpAny _ _ (compareOp CmpOp.NotEq (Value.ref _) (Value.ref _)) _ _ _) | (with_reducible show wpAny _ _ (assign (Expr.Tuple _ _ _) _ _) _ _ _) | (with_reducible show wpAny _ _ (unpackItems _ _ _) _ _ _) | (with_reducible show wpAny _ _ (getMethod _ (Str.ofString "get") _) _ _ _) | (with_reducible show wpAny _ _ (call (Value.builtin "dict.get") _) _ _ _) | (with_reducible show wpAny _ _ (compareOp CmpOp.NotIn _ _) _ _ _) | (with_reducible show wpAny _ _ (setItem _ _ _) _ _ _))); walk1)
        rename Fr g L _ _ => F
        rename News g L _ _ => N
        refine kdp_get2 (hSo'.tab (N (S, so) (by first | ((repeat first | exact List.mem_cons_self .. | refine List.mem_cons_of_mem _ ?_); done) | ((repeat first | exact List.forall_mem_nil _ | refine List.forall_mem_cons.2 ⟨by first | ((repeat first | exact List.mem_cons_self .. | refine List.mem_cons_of_mem _ ?_); done) | simp, ?_⟩); done) | simp)).1) fun tc => ?_
        rw [hseen.look hpar0 hpar1]
        repeat ((try dsimp only [WPost, Turn]); (fail_if_success (first | (with_reducible show wpAny _ _ (exec (Stmt.While _ _ _ _) _) _ _ _) | (with_reducible show wpAny _ _ (exec (Stmt.For _ _ _ _ _) _) _ _ _) | (with_reducible show wpAny _ _ (exec (Stmt.Assign _ (Expr.ListComp _ _ _ _) _) _) _ _ _) | (with_reducible show wpAny _ _ (call (Value.ref _) _ _) _ _ _) | (with_reducible show wpAny _ _ (pyIter _) _ _ _) | (with_reducible show wpAny _ _ (call (Value.builtin "list.append") _) _ _ _) | (with_reducible show wpAny _ _ (eval (Expr.Dict _ _ _) _) _ _ _) | (with_reducible show wpAny _ _ (compareOp CmpOp.NotEq (Value.ref _) (Value.ref _)) _ _ _) | (with_reducible show wpAny _ _ (assign (Expr.Tuple _ _ _) _ _) _ _ _) | (with_reducible show wpAny _ _ (unpackItems _ _ _) _ _ _) | (with_reducible show wpAny _ _ (getMethod _ (Str.ofString "get") _) _ _ _) | (with_reducible show wpAny _ _ (call (Value.builtin "dict.get") _) _ _ _) | (with_reducible show wpAny _ _ (compareOp CmpOp.NotIn _ _) _ _ _) | (with_reducible show wpAny _ _ (setItem _ _ _) _ _ _))); walk1)
        rw [path_text hrok.1]
        refine kdp_get2 (hSo'.tab (N (S, so) (by first | ((repeat first | exact List.mem_cons_self .. | refine List.mem_cons_of_mem _ ?_); done) | ((repeat first | exact List.forall_mem_nil _ | refine List.forall_mem_cons.2 ⟨by first | ((repeat first | exact List.mem_cons_self .. | refine List.mem_cons_of_mem _ ?_); done) | simp, ?_⟩); done) | simp)).1) fun td => ?_
        rw [hseen.look (by (first | decide | with_reducible assumption | with_reducible exact Nat.le_trans (by assumption) (by decide) | with_reducible exact Nat.lt_of_lt_of_le (Nat.add_lt_add_right (by assumption) _) (by decide) | with_reducible exact Int.natCast_nonneg _ | omega)) hk14]
        generalize hroom : ((done.foldl swStep sw0).2 r.2.1).getD (((done.foldl swStep sw0).2 ((r.2.1 - 1) / 2)).getD 0) = room
        obtain ⟨hSl, kvs, hkv, hfl⟩ := id hSo'
        have nkS : ∀ p ∈ keep, p.1 ≠ S := by
          intro p hp q
          rename News g L _ _ => N
          have z := (N p (by simp [hp])).1
          have zz := (N (S, so) (by first | ((repeat first | exact List.mem_cons_self .. | refine List.mem_cons_of_mem _ ?_); done) | ((repeat first | exact List.forall_mem_nil _ | refine List.forall_mem_cons.2 ⟨by first | ((repeat first | exact List.mem_cons_self .. | refine List.mem_cons_of_mem _ ?_); done) | simp, ?_⟩); done) | simp)).1
          dsimp only at zz
          rw [q, zz] at z
          exact hSo'.cls (by rw [Option.some.inj z]; exact hkt p hp)
        have hvl := hpm.length_eq
        have fin : ∀ (h' : Heap) (tk' : Nat) (m' : Str → Option Value) (so' : Obj) (cs' : List (Str × Int)) (te' : List (Addr × Obj × RowT)) (tep' : Nat) (keep' : List (Addr × Obj)), Fr g L h' m' → Has m' [(Str.ofString "heap", .ref H), (Str.ofString "told", .ref D), (Str.ofString "seen", .ref S)] →
            News g L h' ((H, listOf (List.toArray vs') ep') :: (D, listOf (te'.map fun e => Value.ref e.1).toArray tep') :: (S, so') :: keep') → (∀ p ∈ keep', p.2.cls = .type "tuple") → (∀ p ∈ keep, p ∈ keep') → (∀ e ∈ te', (e.1, e.2.1) ∈ keep' ∧ ToldObj e.2.1 e.2.2) → SObj prog w S so' cs' → cs'.length ≤ cs.length + 1 →
            SeenOk cs' (swStep (done.foldl swStep sw0) r).2 → te'.map (·.2.2) = (swStep (done.foldl swStep sw0) r).1 →
            WEnd (SwInv prog w g L H D S h1 (he.map fun e => Value.ref e.1) (es.map (·.2.2)) (he.map fun e => (e.1, e.2.1)) s) vs.length ⟨h', s.gens, s.drawn, tk', s.os⟩ := by
          intro h' tk' m' so' cs' te' tep' keep' F' hm' N' k1 k2 k3 k4 k5 k6 k7
          refine ⟨vs'.length, by simp at hvl; (first | decide | with_reducible assumption | with_reducible exact Nat.le_trans (by assumption) (by decide) | with_reducible exact Nat.lt_of_lt_of_le (Nat.add_lt_add_right (by assumption) _) (by decide) | with_reducible exact Int.natCast_nonneg _ | omega), h', tk', m', vs', ep', te', tep', so', cs', done ++ [r], keep', rfl, F', hm', N', k1, fun p hp => k2 p (hhe p hp), k3, k4, by simp; (first | decide | with_reducible assumption | with_reducible exact Nat.le_trans (by assumption) (by decide) | with_reducible exact Nat.lt_of_lt_of_le (Nat.add_lt_add_right (by assumption) _) (by decide) | with_reducible exact Int.natCast_nonneg _ | omega), by rw [List.foldl_append]; exact k6, by rw [List.foldl_append]; exact k7, fun v hv => hvV v (hpm.subset (List.mem_cons_of_mem _ hv)), ?_, hheap', ?_, ?_, rfl⟩
          · refine List.Perm.trans ?_ hperm
            rw [List.append_assoc]
            refine List.Perm.append_left _ ?_
            have := hpm.map (rowV h1)
            rw [List.map_cons, e6] at this
            exact this
          · rw [List.pairwise_append]
            refine ⟨hpw, List.pairwise_singleton _ _, ?_⟩
            intro d hd x hx
            rw [List.mem_singleton.mp hx, ← e6]
            exact hle d hd _ hv
          · intro d hd v hv'
            have hvv := hpm.subset (List.mem_cons_of_mem _ hv')
            rcases List.mem_append.mp hd with hd | hd
            · exact hle d hd v hvv
            · rw [List.mem_singleton.mp hd]
              have := hmin v hvv
              unfold leOf ltV at this
              rw [e6] at this
              exact this
        repeat' ((try dsimp only [WPost, Turn]); (fail_if_success (first | (with_reducible show wpAny _ _ (exec (Stmt.While _ _ _ _) _) _ _ _) | (with_reducible show wpAny _ _ (exec (Stmt.For _ _ _ _ _) _) _ _ _) | (with_reducible show wpAny _ _ (exec (Stmt.Assign _ (Expr.ListComp _ _ _ _) _) _) _ _ _) | (with_reducible show wpAny _ _ (call (Value.ref _) _ _) _ _ _) | (with_reducible show wpAny _ _ (pyIter _) _ _ _) | (with_reducible show wpAny _ _ (call (Value.builtin "list.append") _) _ _ _) | (with_reducible show wpAny _ _ (eval (Expr.Dict _ _ _) _) _ _ _) | (with_reducible show wpAny _ _ (compareOp CmpOp.NotEq (Value.ref _) (Value.ref _)) _ _ _) | (with_reducible show wpAny _ _ (assign (Expr.Tuple _ _ _) _ _) _ _ _) | (with_reducible show wpAny _ _ (unpackItems _ _ _) _ _ _) | (with_reducible show wpAny _ _ (getMethod _ (Str.ofString "get") _) _ _ _) | (with_reducible show wpAny _ _ (call (Value.builtin "dict.get") _) _ _ _) | (with_reducible show wpAny _ _ (compareOp CmpOp.NotIn _ _) _ _ _) | (with_reducible show wpAny _ _ (setItem _ _ _) _ _ _))); walk1)
        · rename r.1 < room => hlt
          have hstep := swStep_lt hroom hlt
          rename Fr g L _ _ => F
          rename News g L _ _ => N
          rw [path_text hrok.1]
          refine kdp_notin (hSo'.tab (N (S, so) (by first | ((repeat first | exact List.mem_cons_self .. | refine List.mem_cons_of_mem _ ?_); done) | ((repeat first | exact List.forall_mem_nil _ | refine List.forall_mem_cons.2 ⟨by first | ((repeat first | exact List.mem_cons_self .. | refine List.mem_cons_of_mem _ ?_); done) | simp, ?_⟩); done) | simp)).1) ?_
          cases hhas : kdpHas cs (pathS r.2.1) with
          | true =>
            dsimp only [Bool.not_true]
            repeat ((try dsimp only [WPost, Turn]); (fail_if_success (first | (with_reducible show wpAny _ _ (exec (Stmt.While _ _ _ _) _) _ _ _) | (with_reducible show wpAny _ _ (exec (Stmt.For _ _ _ _ _) _) _ _ _) | (with_reducible show wpAny _ _ (exec (Stmt.Assign _ (Expr.ListComp _ _ _ _) _) _) _ _ _) | (with_reducible show wpAny _ _ (call (Value.ref _) _ _) _ _ _) | (with_reducible show wpAny _ _ (pyIter _) _ _ _) | (with_reducible show wpAny _ _ (call (Value.builtin "list.append") _) _ _ _) | (with_reducible show wpAny _ _ (eval (Expr.Dict _ _ _) _) _ _ _) | (with_reducible show wpAny _ _ (compareOp CmpOp.NotEq (Value.ref _) (Value.ref _)) _ _ _) | (with_reducible show wpAny _ _ (assign (Expr.Tuple _ _ _) _ _) _ _ _) | (with_reducible show wpAny _ _ (unpackItems _ _ _) _ _ _) | (with_reducible show wpAny _ _ (getMethod _ (Str.ofString "get") _) _ _ _) | (with_reducible show wpAny _ _ (call (Value.builtin "dict.get") _) _ _ _) | (with_reducible show wpAny _ _ (compareOp CmpOp.NotIn _ _) _ _ _) | (with_reducible show wpAny _ _ (setItem _ _ _) _ _ _))); walk1)
            rename Fr g L _ _ => F
            rename News g L _ _ => N
            refine wpAny_call (isdir_spec (s := ⟨_, _, _, _, _⟩) Bg' F.keep (by show A.depth + 1 < 899; (first | decide | with_reducible assumption | with_reducible exact Nat.le_trans (by assumption) (by decide) | with_reducible exact Nat.lt_of_lt_of_le (Nat.add_lt_add_right (by assumption) _) (by decide) | with_reducible exact Int.natCast_nonneg _ | omega)) fun hd' tkd' Md => ?_)
            rw [bit_dir hrok.2.2.2]
            have Fd := Fr.keeps' F Md
            have Nd := News.keeps' N Md
            clear F N
            dsimp only
            by_cases hdir : r.2.2.fdiv 4096 = 4
            · rw [decide_eq_true hdir]
              repeat ((try dsimp only [WPost, Turn]); (fail_if_success (first | (with_reducible show wpAny _ _ (exec (Stmt.While _ _ _ _) _) _ _ _) | (with_reducible show wpAny _ _ (exec (Stmt.For _ _ _ _ _) _) _ _ _) | (with_reducible show wpAny _ _ (exec (Stmt.Assign _ (Expr.ListComp _ _ _ _) _) _) _ _ _) | (with_reducible show wpAny _ _ (call (Value.ref _) _ _) _ _ _) | (with_reducible show wpAny _ _ (pyIter _) _ _ _) | (with_reducible show wpAny _ _ (call (Value.builtin "list.append") _) _ _ _) | (with_reducible show wpAny _ _ (eval (Expr.Dict _ _ _) _) _ _ _) | (with_reducible show wpAny _ _ (compareOp CmpOp.NotEq (Value.ref _) (Value.ref _)) _ _ _) | (with_reducible show wpAny _ _ (assign (Expr.Tuple _ _ _) _ _) _ _ _) | (with_reducible show wpAny _ _ (unpackItems _ _ _) _ _ _) | (with_reducible show wpAny _ _ (getMethod _ (Str.ofString "get") _) _ _ _) | (with_reducible show wpAny _ _ (call (Value.builtin "dict.get") _) _ _ _) | (with_reducible show wpAny _ _ (compareOp CmpOp.NotIn _ _) _ _ _) | (with_reducible show wpAny _ _ (setItem _ _ _) _ _ _))); walk1)
              rename Fr g L _ _ => F
              rename News g L _ _ => N
              rw [path_text hrok.1]
              refine kdp_setItem F N (.tail hHS (.tail hDS (.head nkS))) hkv hfl (by (first | decide | with_reducible assumption | with_reducible exact Nat.le_trans (by assumption) (by decide) | with_reducible exact Nat.lt_of_lt_of_le (Nat.add_lt_add_right (by assumption) _) (by decide) | with_reducible exact Int.natCast_nonneg _ | omega)) fun he' so' kvs' Fe Ne hkv' hfl' => ?_
              clear F N
              dsimp only at Ne ⊢
              repeat ((try dsimp only [WPost, Turn]); (fail_if_success (first | (with_reducible show wpAny _ _ (exec (Stmt.While _ _ _ _) _) _ _ _) | (with_reducible show wpAny _ _ (exec (Stmt.For _ _ _ _ _) _) _ _ _) | (with_reducible show wpAny _ _ (exec (Stmt.Assign _ (Expr.ListComp _ _ _ _) _) _) _ _ _) | (with_reducible show wpAny _ _ (call (Value.ref _) _ _) _ _ _) | (with_reducible show wpAny _ _ (pyIter _) _ _ _) | (with_reducible show wpAny _ _ (call (Value.builtin "list.append") _) _ _ _) | (with_reducible show wpAny _ _ (eval (Expr.Dict _ _ _) _) _ _ _) | (with_reducible show wpAny _ _ (compareOp CmpOp.NotEq (Value.ref _) (Value.ref _)) _ _ _) | (with_reducible show wpAny _ _ (assign (Expr.Tuple _ _ _) _ _) _ _ _) | (with_reducible show wpAny _ _ (unpackItems _ _ _) _ _ _) | (with_reducible show wpAny _ _ (getMethod _ (Str.ofString "get") _) _ _ _) | (with_reducible show wpAny _ _ (call (Value.builtin "dict.get") _) _ _ _) | (with_reducible show wpAny _ _ (compareOp CmpOp.NotIn _ _) _ _ _) | (with_reducible show wpAny _ _ (setItem _ _ _) _ _ _))); walk1)
              have hpl := kdpPut_len cs (pathS r.2.1) room
              refine fin _ _ _ so' (kdpPut cs (pathS r.2.1) room) te tep keep Fe ⟨rfl, rfl, rfl, trivial⟩ (News.sub Ne (fun p hp => hp)) hkt (fun p hp => hp) hte ⟨hSo'.1, _, hkv', hfl'⟩ hpl ?_ ?_
              · rw [hstep]
                have := hseen.put (n := r.2.1) (e := room) (by (first | decide | with_reducible assumption | with_reducible exact Nat.le_trans (by assumption) (by decide) | with_reducible exact Nat.lt_of_lt_of_le (Nat.add_lt_add_right (by assumption) _) (by decide) | with_reducible exact Int.natCast_nonneg _ | omega)) hk14
                simp only [hdir, if_true]
                exact this
              · rw [hstep]
                rw [if_neg (by rintro ⟨q, _⟩; exact ((hseen.has (by (first | decide | with_reducible assumption | with_reducible exact Nat.le_trans (by assumption) (by decide) | with_reducible exact Nat.lt_of_lt_of_le (Nat.add_lt_add_right (by assumption) _) (by decide) | with_reducible exact Int.natCast_nonneg _ | omega)) hk14).mp hhas) q)]; exact htold
            · rw [decide_eq_false hdir]
              repeat ((try dsimp only [WPost, Turn]); (fail_if_success (first | (with_reducible show wpAny _ _ (exec (Stmt.While _ _ _ _) _) _ _ _) | (with_reducible show wpAny _ _ (exec (Stmt.For _ _ _ _ _) _) _ _ _) | (with_reducible show wpAny _ _ (exec (Stmt.Assign _ (Expr.ListComp _ _ _ _) _) _) _ _ _) | (with_reducible show wpAny _ _ (call (Value.ref _) _ _) _ _ _) | (with_reducible show wpAny _ _ (pyIter _) _ _ _) | (with_reducible show wpAny _ _ (call (Value.builtin "list.append") _) _ _ _) | (with_reducible show wpAny _ _ (eval (Expr.Dict _ _ _) _) _ _ _) | (with_reducible show wpAny _ _ (compareOp CmpOp.NotEq (Value.ref _) (Value.ref _)) _ _ _) | (with_reducible show wpAny _ _ (assign (Expr.Tuple _ _ _) _ _) _ _ _) | (with_reducible show wpAny _ _ (unpackItems _ _ _) _ _ _) | (with_reducible show wpAny _ _ (getMethod _ (Str.ofString "get") _) _ _ _) | (with_reducible show wpAny _ _ (call (Value.builtin "dict.get") _) _ _ _) | (with_reducible show wpAny _ _ (compareOp CmpOp.NotIn _ _) _ _ _) | (with_reducible show wpAny _ _ (setItem _ _ _) _ _ _))); walk1)
              rename Fr g L _ _ => F
              rename News g L _ _ => N
              rw [path_text hrok.1]
              refine kdp_setItem F N (.tail hHS (.tail hDS (.head nkS))) hkv hfl (by (first | decide | with_reducible assumption | with_reducible exact Nat.le_trans (by assumption) (by decide) | with_reducible exact Nat.lt_of_lt_of_le (Nat.add_lt_add_right (by assumption) _) (by decide) | with_reducible exact Int.natCast_nonneg _ | omega)) fun he' so' kvs' Fe Ne hkv' hfl' => ?_
              clear F N
              dsimp only at Ne ⊢
              repeat ((try dsimp only [WPost, Turn]); (fail_if_success (first | (with_reducible show wpAny _ _ (exec (Stmt.While _ _ _ _) _) _ _ _) | (with_reducible show wpAny _ _ (exec (Stmt.For _ _ _ _ _) _) _ _ _) | (with_reducible show wpAny _ _ (exec (Stmt.Assign _ (Expr.ListComp _ _ _ _) _) _) _ _ _) | (with_reducible show wpAny _ _ (call (Value.ref _) _ _) _ _ _) | (with_reducible show wpAny _ _ (pyIter _) _ _ _) | (with_reducible show wpAny _ _ (call (Value.builtin "list.append") _) _ _ _) | (with_reducible show wpAny _ _ (eval (Expr.Dict _ _ _) _) _ _ _) | (with_reducible show wpAny _ _ (compareOp CmpOp.NotEq (Value.ref _) (Value.ref _)) _ _ _) | (with_reducible show wpAny _ _ (assign (Expr.Tuple _ _ _) _ _) _ _ _) | (with_reducible show wpAny _ _ (unpackItems _ _ _) _ _ _) | (with_reducible show wpAny _ _ (getMethod _ (Str.ofString "get") _) _ _ _) | (with_reducible show wpAny _ _ (call (Value.builtin "dict.get") _) _ _ _) | (with_reducible show wpAny _ _ (compareOp CmpOp.NotIn _ _) _ _ _) | (with_reducible show wpAny _ _ (setItem _ _ _) _ _ _))); walk1)
              have hpl := kdpPut_len cs (pathS r.2.1) r.1
              refine fin _ _ _ so' (kdpPut cs (pathS r.2.1) r.1) te tep keep Fe ⟨rfl, rfl, rfl, trivial⟩ (News.sub Ne (fun p hp => hp)) hkt (fun p hp => hp) hte ⟨hSo'.1, _, hkv', hfl'⟩ hpl ?_ ?_
              · rw [hstep]
                have := hseen.put (n := r.2.1) (e := r.1) (by (first | decide | with_reducible assumption | with_reducible exact Nat.le_trans (by assumption) (by decide) | with_reducible exact Nat.lt_of_lt_of_le (Nat.add_lt_add_right (by assumption) _) (by decide) | with_reducible exact Int.natCast_nonneg _ | omega)) hk14
                simp only [hdir, if_false]
                exact this
              · rw [hstep]
                rw [if_neg (by rintro ⟨q, _⟩; exact ((hseen.has (by (first | decide | with_reducible assumption | with_reducible exact Nat.le_trans (by assumption) (by decide) | with_reducible exact Nat.lt_of_lt_of_le (Nat.add_lt_add_right (by assumption) _) (by decide) | with_reducible exact Int.natCast_nonneg _ | omega)) hk14).mp hhas) q)]; exact htold

          | false =>
            dsimp only [Bool.not_false]
            repeat ((try dsimp only [WPost, Turn]); (fail_if_success (first | (with_reducible show wpAny _ _ (exec (Stmt.While _ _ _ _) _) _ _ _) | (with_reducible show wpAny _ _ (exec (Stmt.For _ _ _ _ _) _) _ _ _) | (with_reducible show wpAny _ _ (exec (Stmt.Assign _ (Expr.ListComp _ _ _ _) _) _) _ _ _) | (with_reducible show wpAny _ _ (call (Value.ref _) _ _) _ _ _) | (with_reducible show wpAny _ _ (pyIter _) _ _ _) | (with_reducible show wpAny _ _ (call (Value.builtin "list.append") _) _ _ _) | (with_reducible show wpAny _ _ (eval (Expr.Dict _ _ _) _) _ _ _) | (with_reducible show wpAny _ _ (compareOp CmpOp.NotEq (Value.ref _) (Value.ref _)) _ _ _) | (with_reducible show wpAny _ _ (assign (Expr.Tuple _ _ _) _ _) _ _ _) | (with_reducible show wpAny _ _ (unpackItems _ _ _) _ _ _) | (with_reducible show wpAny _ _ (getMethod _ (Str.ofString "get") _) _ _ _) | (with_reducible show wpAny _ _ (call (Value.builtin "dict.get") _) _ _ _) | (with_reducible show wpAny _ _ (compareOp CmpOp.NotIn _ _) _ _ _) | (with_reducible show wpAny _ _ (setItem _ _ _) _ _ _))); walk1)
            rename Fr g L _ _ => F
            rename News g L _ _ => N
            refine wpAny_call (ischr_spec (s := ⟨_, _, _, _, _⟩) Bg' F.keep (by show A.depth + 1 < 899; (first | decide | with_reducible assumption | with_reducible exact Nat.le_trans (by assumption) (by decide) | with_reducible exact Nat.lt_of_lt_of_le (Nat.add_lt_add_right (by assumption) _) (by decide) | with_reducible exact Int.natCast_nonneg _ | omega)) fun hc' tkc' Mc => ?_)
            rw [bit_chr hrok.2.2.2]
            have Fc := Fr.keeps' F Mc
            have Nc := News.keeps' N Mc
            clear F N
            dsimp only
            by_cases hchr : r.2.2.fdiv 4096 = 2
            · rw [decide_eq_true hchr]
              repeat ((try dsimp only [WPost, Turn]); (fail_if_success (first | (with_reducible show wpAny _ _ (exec (Stmt.While _ _ _ _) _) _ _ _) | (with_reducible show wpAny _ _ (exec (Stmt.For _ _ _ _ _) _) _ _ _) | (with_reducible show wpAny _ _ (exec (Stmt.Assign _ (Expr.ListComp _ _ _ _) _) _) _ _ _) | (with_reducible show wpAny _ _ (call (Value.ref _) _ _) _ _ _) | (with_reducible show wpAny _ _ (pyIter _) _ _ _) | (with_reducible show wpAny _ _ (call (Value.builtin "list.append") _) _ _ _) | (with_reducible show wpAny _ _ (eval (Expr.Dict _ _ _) _) _ _ _) | (with_reducible show wpAny _ _ (compareOp CmpOp.NotEq (Value.ref _) (Value.ref _)) _ _ _) | (with_reducible show wpAny _ _ (assign (Expr.Tuple _ _ _) _ _) _ _ _) | (with_reducible show wpAny _ _ (unpackItems _ _ _) _ _ _) | (with_reducible show wpAny _ _ (getMethod _ (Str.ofString "get") _) _ _ _) | (with_reducible show wpAny _ _ (call (Value.builtin "dict.get") _) _ _ _) | (with_reducible show wpAny _ _ (compareOp CmpOp.NotIn _ _) _ _ _) | (with_reducible show wpAny _ _ (setItem _ _ _) _ _ _))); walk1)
              rename Fr g L _ _ => F
              rename News g L _ _ => N
              refine wpAny_call (isdir_spec (s := ⟨_, _, _, _, _⟩) Bg' F.keep (by show A.depth + 1 < 899; (first | decide | with_reducible assumption | with_reducible exact Nat.le_trans (by assumption) (by decide) | with_reducible exact Nat.lt_of_lt_of_le (Nat.add_lt_add_right (by assumption) _) (by decide) | with_reducible exact Int.natCast_nonneg _ | omega)) fun hd' tkd' Md => ?_)
              rw [bit_dir hrok.2.2.2]
              have Fd := Fr.keeps' F Md
              have Nd := News.keeps' N Md
              clear F N
              dsimp only
              by_cases hdir : r.2.2.fdiv 4096 = 4
              · rw [decide_eq_true hdir]
                repeat ((try dsimp only [WPost, Turn]); (fail_if_success (first | (with_reducible show wpAny _ _ (exec (Stmt.While _ _ _ _) _) _ _ _) | (with_reducible show wpAny _ _ (exec (Stmt.For _ _ _ _ _) _) _ _ _) | (with_reducible show wpAny _ _ (exec (Stmt.Assign _ (Expr.ListComp _ _ _ _) _) _) _ _ _) | (with_reducible show wpAny _ _ (call (Value.ref _) _ _) _ _ _) | (with_reducible show wpAny _ _ (pyIter _) _ _ _) | (with_reducible show wpAny _ _ (call (Value.builtin "list.append") _) _ _ _) | (with_reducible show wpAny _ _ (eval (Expr.Dict _ _ _) _) _ _ _) | (with_reducible show wpAny _ _ (compareOp CmpOp.NotEq (Value.ref _) (Value.ref _)) _ _ _) | (with_reducible show wpAny _ _ (assign (Expr.Tuple _ _ _) _ _) _ _ _) | (with_reducible show wpAny _ _ (unpackItems _ _ _) _ _ _) | (with_reducible show wpAny _ _ (getMethod _ (Str.ofString "get") _) _ _ _) | (with_reducible show wpAny _ _ (call (Value.builtin "dict.get") _) _ _ _) | (with_reducible show wpAny _ _ (compareOp CmpOp.NotIn _ _) _ _ _) | (with_reducible show wpAny _ _ (setItem _ _ _) _ _ _))); walk1)
                rename Fr g L _ _ => F
                rename News g L _ _ => N
                rw [path_text hrok.1]
                refine kdp_setItem F N (.tail hHS (.tail hDS (.head nkS))) hkv hfl (by (first | decide | with_reducible assumption | with_reducible exact Nat.le_trans (by assumption) (by decide) | with_reducible exact Nat.lt_of_lt_of_le (Nat.add_lt_add_right (by assumption) _) (by decide) | with_reducible exact Int.natCast_nonneg _ | omega)) fun he' so' kvs' Fe Ne hkv' hfl' => ?_
                clear F N
                dsimp only at Ne ⊢
                repeat ((try dsimp only [WPost, Turn]); (fail_if_success (first | (with_reducible show wpAny _ _ (exec (Stmt.While _ _ _ _) _) _ _ _) | (with_reducible show wpAny _ _ (exec (Stmt.For _ _ _ _ _) _) _ _ _) | (with_reducible show wpAny _ _ (exec (Stmt.Assign _ (Expr.ListComp _ _ _ _) _) _) _ _ _) | (with_reducible show wpAny _ _ (call (Value.ref _) _ _) _ _ _) | (with_reducible show wpAny _ _ (pyIter _) _ _ _) | (with_reducible show wpAny _ _ (call (Value.builtin "list.append") _) _ _ _) | (with_reducible show wpAny _ _ (eval (Expr.Dict _ _ _) _) _ _ _) | (with_reducible show wpAny _ _ (compareOp CmpOp.NotEq (Value.ref _) (Value.ref _)) _ _ _) | (with_reducible show wpAny _ _ (assign (Expr.Tuple _ _ _) _ _) _ _ _) | (with_reducible show wpAny _ _ (unpackItems _ _ _) _ _ _) | (with_reducible show wpAny _ _ (getMethod _ (Str.ofString "get") _) _ _ _) | (with_reducible show wpAny _ _ (call (Value.builtin "dict.get") _) _ _ _) | (with_reducible show wpAny _ _ (compareOp CmpOp.NotIn _ _) _ _ _) | (with_reducible show wpAny _ _ (setItem _ _ _) _ _ _))); walk1)
                have hpl := kdpPut_len cs (pathS r.2.1) room
                refine fin _ _ _ so' (kdpPut cs (pathS r.2.1) room) te tep keep Fe ⟨rfl, rfl, rfl, trivial⟩ (News.sub Ne (fun p hp => hp)) hkt (fun p hp => hp) hte ⟨hSo'.1, _, hkv', hfl'⟩ hpl ?_ ?_
                · rw [hstep]
                  have := hseen.put (n := r.2.1) (e := room) (by (first | decide | with_reducible assumption | with_reducible exact Nat.le_trans (by assumption) (by decide) | with_reducible exact Nat.lt_of_lt_of_le (Nat.add_lt_add_right (by assumption) _) (by decide) | with_reducible exact Int.natCast_nonneg _ | omega)) hk14
                  simp only [hdir, if_true]
                  exact this
                · rw [hstep]
                  rw [if_neg (by rintro ⟨_, q⟩; exact q hchr)]; exact htold
              · rw [decide_eq_false hdir]
                repeat ((try dsimp only [WPost, Turn]); (fail_if_success (first | (with_reducible show wpAny _ _ (exec (Stmt.While _ _ _ _) _) _ _ _) | (with_reducible show wpAny _ _ (exec (Stmt.For _ _ _ _ _) _) _ _ _) | (with_reducible show wpAny _ _ (exec (Stmt.Assign _ (Expr.ListComp _ _ _ _) _) _) _ _ _) | (with_reducible show wpAny _ _ (call (Value.ref _) _ _) _ _ _) | (with_reducible show wpAny _ _ (pyIter _) _ _ _) | (with_reducible show wpAny _ _ (call (Value.builtin "list.append") _) _ _ _) | (with_reducible show wpAny _ _ (eval (Expr.Dict _ _ _) _) _ _ _) | (with_reducible show wpAny _ _ (compareOp CmpOp.NotEq (Value.ref _) (Value.ref _)) _ _ _) | (with_reducible show wpAny _ _ (assign (Expr.Tuple _ _ _) _ _) _ _ _) | (with_reducible show wpAny _ _ (unpackItems _ _ _) _ _ _) | (with_reducible show wpAny _ _ (getMethod _ (Str.ofString "get") _) _ _ _) | (with_reducible show wpAny _ _ (call (Value.builtin "dict.get") _) _ _ _) | (with_reducible show wpAny _ _ (compareOp CmpOp.NotIn _ _) _ _ _) | (with_reducible show wpAny _ _ (setItem _ _ _) _ _ _))); walk1)
                rename Fr g L _ _ => F
                rename News g L _ _ => N
                rw [path_text hrok.1]
                refine kdp_setItem F N (.tail hHS (.tail hDS (.head nkS))) hkv hfl (by (first | decide | with_reducible assumption | with_reducible exact Nat.le_trans (by assumption) (by decide) | with_reducible exact Nat.lt_of_lt_of_le (Nat.add_lt_add_right (by assumption) _) (by decide) | with_reducible exact Int.natCast_nonneg _ | omega)) fun he' so' kvs' Fe Ne hkv' hfl' => ?_
                clear F N
                dsimp only at Ne ⊢
                repeat ((try dsimp only [WPost, Turn]); (fail_if_success (first | (with_reducible show wpAny _ _ (exec (Stmt.While _ _ _ _) _) _ _ _) | (with_reducible show wpAny _ _ (exec (Stmt.For _ _ _ _ _) _) _ _ _) | (with_reducible show wpAny _ _ (exec (Stmt.Assign _ (Expr.ListComp _ _ _ _) _) _) _ _ _) | (with_reducible show wpAny _ _ (call (Value.ref _) _ _) _ _ _) | (with_reducible show wpAny _ _ (pyIter _) _ _ _) | (with_reducible show wpAny _ _ (call (Value.builtin "list.append") _) _ _ _) | (with_reducible show wpAny _ _ (eval (Expr.Dict _ _ _) _) _ _ _) | (with_reducible show wpAny _ _ (compareOp CmpOp.NotEq (Value.ref _) (Value.ref _)) _ _ _) | (with_reducible show wpAny _ _ (assign (Expr.Tuple _ _ _) _ _) _ _ _) | (with_reducible show wpAny _ _ (unpackItems _ _ _) _ _ _) | (with_reducible show wpAny _ _ (getMethod _ (Str.ofString "get") _) _ _ _) | (with_reducible show wpAny _ _ (call (Value.builtin "dict.get") _) _ _ _) | (with_reducible show wpAny _ _ (compareOp CmpOp.NotIn _ _) _ _ _) | (with_reducible show wpAny _ _ (setItem _ _ _) _ _ _))); walk1)
                have hpl := kdpPut_len cs (pathS r.2.1) r.1
                refine fin _ _ _ so' (kdpPut cs (pathS r.2.1) r.1) te tep keep Fe ⟨rfl, rfl, rfl, trivial⟩ (News.sub Ne (fun p hp => hp)) hkt (fun p hp => hp) hte ⟨hSo'.1, _, hkv', hfl'⟩ hpl ?_ ?_
                · rw [hstep]
                  have := hseen.put (n := r.2.1) (e := r.1) (by (first | decide | with_reducible assumption | with_reducible exact Nat.le_trans (by assumption) (by decide) | with_reducible exact Nat.lt_of_lt_of_le (Nat.add_lt_add_right (by assumption) _) (by decide) | with_reducible exact Int.natCast_nonneg _ | omega)) hk14
                  simp only [hdir, if_false]
                  exact this
                · rw [hstep]
                  rw [if_neg (by rintro ⟨_, q⟩; exact q hchr)]; exact htold

            · rw [decide_eq_false hchr]
              repeat ((try dsimp only [WPost, Turn]); (fail_if_success (first | (with_reducible show wpAny _ _ (exec (Stmt.While _ _ _ _) _) _ _ _) | (with_reducible show wpAny _ _ (exec (Stmt.For _ _ _ _ _) _) _ _ _) | (with_reducible show wpAny _ _ (exec (Stmt.Assign _ (Expr.ListComp _ _ _ _) _) _) _ _ _) | (with_reducible show wpAny _ _ (call (Value.ref _) _ _) _ _ _) | (with_reducible show wpAny _ _ (pyIter _) _ _ _) | (with_reducible show wpAny _ _ (call (Value.builtin "list.append") _) _ _ _) | (with_reducible show wpAny _ _ (eval (Expr.Dict _ _ _) _) _ _ _) | (with_reducible show wpAny _ _ (compareOp CmpOp.NotEq (Value.ref _) (Value.ref _)) _ _ _) | (with_reducible show wpAny _ _ (assign (Expr.Tuple _ _ _) _ _) _ _ _) | (with_reducible show wpAny _ _ (unpackItems _ _ _) _ _ _) | (with_reducible show wpAny _ _ (getMethod _ (Str.ofString "get") _) _ _ _) | (with_reducible show wpAny _ _ (call (Value.builtin "dict.get") _) _ _ _) | (with_reducible show wpAny _ _ (compareOp CmpOp.NotIn _ _) _ _ _) | (with_reducible show wpAny _ _ (setItem _ _ _) _ _ _))); walk1)
              rename Fr g L _ _ => F
              rename News g L _ _ => N
              refine wpAny_call (filemode_spec (s := ⟨_, _, _, _, _⟩) Bg' F.keep (by exact hA) (by show A.depth + 1 < 898; (first | decide | with_reducible assumption | with_reducible exact Nat.le_trans (by assumption) (by decide) | with_reducible exact Nat.lt_of_lt_of_le (Nat.add_lt_add_right (by assumption) _) (by decide) | with_reducible exact Int.natCast_nonneg _ | omega)) (by show A.units + 3 < 400; (first | decide | with_reducible assumption | with_reducible exact Nat.le_trans (by assumption) (by decide) | with_reducible exact Nat.lt_of_lt_of_le (Nat.add_lt_add_right (by assumption) _) (by decide) | with_reducible exact Int.natCast_nonneg _ | omega)) fun hf' tkf' tf Mf => ?_)
              have Ff := Fr.keeps' F Mf
              have Nf := News.keeps' N Mf
              clear F N
              dsimp only
              repeat ((try dsimp only [WPost, Turn]); (fail_if_success (first | (with_reducible show wpAny _ _ (exec (Stmt.While _ _ _ _) _) _ _ _) | (with_reducible show wpAny _ _ (exec (Stmt.For _ _ _ _ _) _) _ _ _) | (with_reducible show wpAny _ _ (exec (Stmt.Assign _ (Expr.ListComp _ _ _ _) _) _) _ _ _) | (with_reducible show wpAny _ _ (call (Value.ref _) _ _) _ _ _) | (with_reducible show wpAny _ _ (pyIter _) _ _ _) | (with_reducible show wpAny _ _ (call (Value.builtin "list.append") _) _ _ _) | (with_reducible show wpAny _ _ (eval (Expr.Dict _ _ _) _) _ _ _) | (with_reducible show wpAny _ _ (compareOp CmpOp.NotEq (Value.ref _) (Value.ref _)) _ _ _) | (with_reducible show wpAny _ _ (assign (Expr.Tuple _ _ _) _ _) _ _ _) | (with_reducible show wpAny _ _ (unpackItems _ _ _) _ _ _) | (with_reducible show wpAny _ _ (getMethod _ (Str.ofString "get") _) _ _ _) | (with_reducible show wpAny _ _ (call (Value.builtin "dict.get") _) _ _ _) | (with_reducible show wpAny _ _ (compareOp CmpOp.NotIn _ _) _ _ _) | (with_reducible show wpAny _ _ (setItem _ _ _) _ _ _))); walk1)
              rename Fr g L _ _ => F
              rename News g L _ _ => N
              rename _ ∧ _ ∧ _ ∧ AllLt _ _ => hTl
              rename Addr => Tt
              have htl : te.length ≤ done.length := by
                have := congrArg List.length htold
                rw [List.length_map] at this
                rw [this]; exact told_len done
              have hTS : Tt ≠ S := Nat.ne_of_gt hTl.2.2.1
              have nDr : ∀ p ∈ (S, so) :: keep, p.1 ≠ D := by
                intro p hp
                rcases List.mem_cons.mp hp with rfl | hp
                · exact hDS.symm
                · intro q
                  have z := (N p (by simp [hp])).1
                  have zz := (N (D, listOf (te.map fun e => Value.ref e.1).toArray tep) (by first | ((repeat first | exact List.mem_cons_self .. | refine List.mem_cons_of_mem _ ?_); done) | ((repeat first | exact List.forall_mem_nil _ | refine List.forall_mem_cons.2 ⟨by first | ((repeat first | exact List.mem_cons_self .. | refine List.mem_cons_of_mem _ ?_); done) | simp, ?_⟩); done) | simp)).1
                  dsimp only at zz
                  rw [q, zz] at z
                  have := hkt p hp
                  rw [← Option.some.inj z] at this
                  simp at this
              refine append_K F N (.tail (Nat.ne_of_gt hTl.2.1) (.tail hneD (.head nDr))) (fun hg' Fg Ng => ?_) (by rw [List.size_toArray, PySem.sizeLine_eq, List.length_map]; (first | decide | with_reducible assumption | with_reducible exact Nat.le_trans (by assumption) (by decide) | with_reducible exact Nat.lt_of_lt_of_le (Nat.add_lt_add_right (by assumption) _) (by decide) | with_reducible exact Int.natCast_nonneg _ | omega))
              clear F N
              have hnone : (done.foldl swStep sw0).2 r.2.1 = none := by
                cases q : (done.foldl swStep sw0).2 r.2.1 with
                | none => rfl
                | some x => have := (hseen.has (k := r.2.1) (by (first | decide | with_reducible assumption | with_reducible exact Nat.le_trans (by assumption) (by decide) | with_reducible exact Nat.lt_of_lt_of_le (Nat.add_lt_add_right (by assumption) _) (by decide) | with_reducible exact Int.natCast_nonneg _ | omega)) hk14).mpr (by rw [q]; simp); rw [hhas] at this; cases this
              have eD : (te.map fun e => Value.ref e.1).toArray.push (Value.ref Tt) = ((te ++ [(Tt, tupOf [.str (textOf r.2.1) ta, .str (Txt.join "" ((List.range 10).map fun i => signAt i r.2.2 (tabs.getD i []))) tf, .int r.1 t2], r)]).map fun e : Addr × Obj × RowT => Value.ref e.1).toArray := by (first | ((repeat first | exact List.mem_cons_self .. | refine List.mem_cons_of_mem _ ?_); done) | ((repeat first | exact List.forall_mem_nil _ | refine List.forall_mem_cons.2 ⟨by first | ((repeat first | exact List.mem_cons_self .. | refine List.mem_cons_of_mem _ ?_); done) | simp, ?_⟩); done) | simp)
              have sub1 : ∀ (so' : Obj), ∀ p ∈ (H, listOf (List.toArray vs') ep') :: (D, listOf ((te ++ [(Tt, tupOf [.str (textOf r.2.1) ta, .str (Txt.join "" ((List.range 10).map fun i => signAt i r.2.2 (tabs.getD i []))) tf, .int r.1 t2], r)]).map fun e : Addr × Obj × RowT => Value.ref e.1).toArray (tep + 1)) :: (S, so') :: (Tt, tupOf [.str (textOf r.2.1) ta, .str (Txt.join "" ((List.range 10).map fun i => signAt i r.2.2 (tabs.getD i []))) tf, .int r.1 t2]) :: keep,
                  p ∈ (Tt, tupOf [.str (textOf r.2.1) ta, .str (Txt.join "" ((List.range 10).map fun i => signAt i r.2.2 (tabs.getD i []))) tf, .int r.1 t2]) :: (H, listOf (List.toArray vs') ep') :: (D, listOf ((te.map fun e => Value.ref e.1).toArray.push (Value.ref Tt)) (tep + 1)) :: (S, so') :: keep := by
                intro so' p hp
                rw [eD]
                simp only [List.mem_cons] at hp ⊢
                rcases hp with hp | hp | hp | hp | hp
                · exact .inr (.inl hp)
                · exact .inr (.inr (.inl hp))
                · exact .inr (.inr (.inr (.inl hp)))
                · exact .inl hp
                · exact .inr (.inr (.inr (.inr hp)))
              have kt1 : ∀ p ∈ (Tt, tupOf [.str (textOf r.2.1) ta, .str (Txt.join "" ((List.range 10).map fun i => signAt i r.2.2 (tabs.getD i []))) tf, .int r.1 t2]) :: keep, p.2.cls = .type "tuple" := by
                intro p hp
                rcases List.mem_cons.mp hp with rfl | hp
                · rfl
                · exact hkt p hp
              have ks1 : ∀ p ∈ keep, p ∈ (Tt, tupOf [.str (textOf r.2.1) ta, .str (Txt.join "" ((List.range 10).map fun i => signAt i r.2.2 (tabs.getD i []))) tf, .int r.1 t2]) :: keep := fun p hp => List.mem_cons_of_mem _ hp
              have te1 : ∀ e ∈ te ++ [(Tt, tupOf [.str (textOf r.2.1) ta, .str (Txt.join "" ((List.range 10).map fun i => signAt i r.2.2 (tabs.getD i []))) tf, .int r.1 t2], r)], (e.1, e.2.1) ∈ (Tt, tupOf [.str (textOf r.2.1) ta, .str (Txt.join "" ((List.range 10).map fun i => signAt i r.2.2 (tabs.getD i []))) tf, .int r.1 t2]) :: keep ∧ ToldObj e.2.1 e.2.2 := by
                intro e he'
                rcases List.mem_append.mp he' with he' | he'
                · exact ⟨List.mem_cons_of_mem _ (hte e he').1, (hte e he').2⟩
                · rw [List.mem_singleton.mp he']
                  exact ⟨List.mem_cons_self .., _, _, _, rfl⟩
              repeat ((try dsimp only [WPost, Turn]); (fail_if_success (first | (with_reducible show wpAny _ _ (exec (Stmt.While _ _ _ _) _) _ _ _) | (with_reducible show wpAny _ _ (exec (Stmt.For _ _ _ _ _) _) _ _ _) | (with_reducible show wpAny _ _ (exec (Stmt.Assign _ (Expr.ListComp _ _ _ _) _) _) _ _ _) | (with_reducible show wpAny _ _ (call (Value.ref _) _ _) _ _ _) | (with_reducible show wpAny _ _ (pyIter _) _ _ _) | (with_reducible show wpAny _ _ (call (Value.builtin "list.append") _) _ _ _) | (with_reducible show wpAny _ _ (eval (Expr.Dict _ _ _) _) _ _ _) | (with_reducible show wpAny _ _ (compareOp CmpOp.NotEq (Value.ref _) (Value.ref _)) _ _ _) | (with_reducible show wpAny _ _ (assign (Expr.Tuple _ _ _) _ _) _ _ _) | (with_reducible show wpAny _ _ (unpackItems _ _ _) _ _ _) | (with_reducible show wpAny _ _ (getMethod _ (Str.ofString "get") _) _ _ _) | (with_reducible show wpAny _ _ (call (Value.builtin "dict.get") _) _ _ _) | (with_reducible show wpAny _ _ (compareOp CmpOp.NotIn _ _) _ _ _) | (with_reducible show wpAny _ _ (setItem _ _ _) _ _ _))); walk1)
              rename Fr g L _ _ => F
              rename News g L _ _ => N
              refine wpAny_call (isdir_spec (s := ⟨_, _, _, _, _⟩) Bg' F.keep (by show A.depth + 1 < 899; (first | decide | with_reducible assumption | with_reducible exact Nat.le_trans (by assumption) (by decide) | with_reducible exact Nat.lt_of_lt_of_le (Nat.add_lt_add_right (by assumption) _) (by decide) | with_reducible exact Int.natCast_nonneg _ | omega)) fun hd' tkd' Md => ?_)
              rw [bit_dir hrok.2.2.2]
              have Fd := Fr.keeps' F Md
              have Nd := News.keeps' N Md
              clear F N
              dsimp only
              by_cases hdir : r.2.2.fdiv 4096 = 4
              · rw [decide_eq_true hdir]
                repeat ((try dsimp only [WPost, Turn]); (fail_if_success (first | (with_reducible show wpAny _ _ (exec (Stmt.While _ _ _ _) _) _ _ _) | (with_reducible show wpAny _ _ (exec (Stmt.For _ _ _ _ _) _) _ _ _) | (with_reducible show wpAny _ _ (exec (Stmt.Assign _ (Expr.ListComp _ _ _ _) _) _) _ _ _) | (with_reducible show wpAny _ _ (call (Value.ref _) _ _) _ _ _) | (with_reducible show wpAny _ _ (pyIter _) _ _ _) | (with_reducible show wpAny _ _ (call (Value.builtin "list.append") _) _ _ _) | (with_reducible show wpAny _ _ (eval (Expr.Dict _ _ _) _) _ _ _) | (with_reducible show wpAny _ _ (compareOp CmpOp.NotEq (Value.ref _) (Value.ref _)) _ _ _) | (with_reducible show wpAny _ _ (assign (Expr.Tuple _ _ _) _ _) _ _ _) | (with_reducible show wpAny _ _ (unpackItems _ _ _) _ _ _) | (with_reducible show wpAny _ _ (getMethod _ (Str.ofString "get") _) _ _ _) | (with_reducible show wpAny _ _ (call (Value.builtin "dict.get") _) _ _ _) | (with_reducible show wpAny _ _ (compareOp CmpOp.NotIn _ _) _ _ _) | (with_reducible show wpAny _ _ (setItem _ _ _) _ _ _))); walk1)
                rename Fr g L _ _ => F
                rename News g L _ _ => N
                rw [path_text hrok.1]
                refine kdp_setItem F N (.tail hTS (.tail hHS (.tail hDS (.head nkS)))) hkv hfl (by (first | decide | with_reducible assumption | with_reducible exact Nat.le_trans (by assumption) (by decide) | with_reducible exact Nat.lt_of_lt_of_le (Nat.add_lt_add_right (by assumption) _) (by decide) | with_reducible exact Int.natCast_nonneg _ | omega)) fun he' so' kvs' Fe Ne hkv' hfl' => ?_
                clear F N
                dsimp only at Ne ⊢
                repeat ((try dsimp only [WPost, Turn]); (fail_if_success (first | (with_reducible show wpAny _ _ (exec (Stmt.While _ _ _ _) _) _ _ _) | (with_reducible show wpAny _ _ (exec (Stmt.For _ _ _ _ _) _) _ _ _) | (with_reducible show wpAny _ _ (exec (Stmt.Assign _ (Expr.ListComp _ _ _ _) _) _) _ _ _) | (with_reducible show wpAny _ _ (call (Value.ref _) _ _) _ _ _) | (with_reducible show wpAny _ _ (pyIter _) _ _ _) | (with_reducible show wpAny _ _ (call (Value.builtin "list.append") _) _ _ _) | (with_reducible show wpAny _ _ (eval (Expr.Dict _ _ _) _) _ _ _) | (with_reducible show wpAny _ _ (compareOp CmpOp.NotEq (Value.ref _) (Value.ref _)) _ _ _) | (with_reducible show wpAny _ _ (assign (Expr.Tuple _ _ _) _ _) _ _ _) | (with_reducible show wpAny _ _ (unpackItems _ _ _) _ _ _) | (with_reducible show wpAny _ _ (getMethod _ (Str.ofString "get") _) _ _ _) | (with_reducible show wpAny _ _ (call (Value.builtin "dict.get") _) _ _ _) | (with_reducible show wpAny _ _ (compareOp CmpOp.NotIn _ _) _ _ _) | (with_reducible show wpAny _ _ (setItem _ _ _) _ _ _))); walk1)
                have hpl := kdpPut_len cs (pathS r.2.1) room
                refine fin _ _ _ so' (kdpPut cs (pathS r.2.1) room) (te ++ [(Tt, tupOf [.str (textOf r.2.1) ta, .str (Txt.join "" ((List.range 10).map fun i => signAt i r.2.2 (tabs.getD i []))) tf, .int r.1 t2], r)]) (tep + 1) ((Tt, tupOf [.str (textOf r.2.1) ta, .str (Txt.join "" ((List.range 10).map fun i => signAt i r.2.2 (tabs.getD i []))) tf, .int r.1 t2]) :: keep) Fe ⟨rfl, rfl, rfl, trivial⟩ (News.sub Ne (sub1 so')) kt1 ks1 te1 ⟨hSo'.1, _, hkv', hfl'⟩ hpl ?_ ?_
                · rw [hstep]
                  have := hseen.put (n := r.2.1) (e := room) (by (first | decide | with_reducible assumption | with_reducible exact Nat.le_trans (by assumption) (by decide) | with_reducible exact Nat.lt_of_lt_of_le (Nat.add_lt_add_right (by assumption) _) (by decide) | with_reducible exact Int.natCast_nonneg _ | omega)) hk14
                  simp only [hdir, if_true]
                  exact this
                · rw [hstep]
                  rw [if_pos ⟨hnone, hchr⟩, List.map_append, htold]; rfl
              · rw [decide_eq_false hdir]
                repeat ((try dsimp only [WPost, Turn]); (fail_if_success (first | (with_reducible show wpAny _ _ (exec (Stmt.While _ _ _ _) _) _ _ _) | (with_reducible show wpAny _ _ (exec (Stmt.For _ _ _ _ _) _) _ _ _) | (with_reducible show wpAny _ _ (exec (Stmt.Assign _ (Expr.ListComp _ _ _ _) _) _) _ _ _) | (with_reducible show wpAny _ _ (call (Value.ref _) _ _) _ _ _) | (with_reducible show wpAny _ _ (pyIter _) _ _ _) | (with_reducible show wpAny _ _ (call (Value.builtin "list.append") _) _ _ _) | (with_reducible show wpAny _ _ (eval (Expr.Dict _ _ _) _) _ _ _) | (with_reducible show wpAny _ _ (compareOp CmpOp.NotEq (Value.ref _) (Value.ref _)) _ _ _) | (with_reducible show wpAny _ _ (assign (Expr.Tuple _ _ _) _ _) _ _ _) | (with_reducible show wpAny _ _ (unpackItems _ _ _) _ _ _) | (with_reducible show wpAny _ _ (getMethod _ (Str.ofString "get") _) _ _ _) | (with_reducible show wpAny _ _ (call (Value.builtin "dict.get") _) _ _ _) | (with_reducible show wpAny _ _ (compareOp CmpOp.NotIn _ _) _ _ _) | (with_reducible show wpAny _ _ (setItem _ _ _) _ _ _))); walk1)
                rename Fr g L _ _ => F
                rename News g L _ _ => N
                rw [path_text hrok.1]
                refine kdp_setItem F N (.tail hTS (.tail hHS (.tail hDS (.head nkS)))) hkv hfl (by (first | decide | with_reducible assumption | with_reducible exact Nat.le_trans (by assumption) (by decide) | with_reducible exact Nat.lt_of_lt_of_le (Nat.add_lt_add_right (by assumption) _) (by decide) | with_reducible exact Int.natCast_nonneg _ | omega)) fun he' so' kvs' Fe Ne hkv' hfl' => ?_
                clear F N
                dsimp only at Ne ⊢
                repeat ((try dsimp only [WPost, Turn]); (fail_if_success (first | (with_reducible show wpAny _ _ (exec (Stmt.While _ _ _ _) _) _ _ _) | (with_reducible show wpAny _ _ (exec (Stmt.For _ _ _ _ _) _) _ _ _) | (with_reducible show wpAny _ _ (exec (Stmt.Assign _ (Expr.ListComp _ _ _ _) _) _) _ _ _) | (with_reducible show wpAny _ _ (call (Value.ref _) _ _) _ _ _) | (with_reducible show wpAny _ _ (pyIter _) _ _ _) | (with_reducible show wpAny _ _ (call (Value.builtin "list.append") _) _ _ _) | (with_reducible show wpAny _ _ (eval (Expr.Dict _ _ _) _) _ _ _) | (with_reducible show wpAny _ _ (compareOp CmpOp.NotEq (Value.ref _) (Value.ref _)) _ _ _) | (with_reducible show wpAny _ _ (assign (Expr.Tuple _ _ _) _ _) _ _ _) | (with_reducible show wpAny _ _ (unpackItems _ _ _) _ _ _) | (with_reducible show wpAny _ _ (getMethod _ (Str.ofString "get") _) _ _ _) | (with_reducible show wpAny _ _ (call (Value.builtin "dict.get") _) _ _ _) | (with_reducible show wpAny _ _ (compareOp CmpOp.NotIn _ _) _ _ _) | (with_reducible show wpAny _ _ (setItem _ _ _) _ _ _))); walk1)
                have hpl := kdpPut_len cs (pathS r.2.1) r.1
                refine fin _ _ _ so' (kdpPut cs (pathS r.2.1) r.1) (te ++ [(Tt, tupOf [.str (textOf r.2.1) ta, .str (Txt.join "" ((List.range 10).map fun i => signAt i r.2.2 (tabs.getD i []))) tf, .int r.1 t2], r)]) (tep + 1) ((Tt, tupOf [.str (textOf r.2.1) ta, .str (Txt.join "" ((List.range 10).map fun i => signAt i r.2.2 (tabs.getD i []))) tf, .int r.1 t2]) :: keep) Fe ⟨rfl, rfl, rfl, trivial⟩ (News.sub Ne (sub1 so')) kt1 ks1 te1 ⟨hSo'.1, _, hkv', hfl'⟩ hpl ?_ ?_
                · rw [hstep]
                  have := hseen.put (n := r.2.1) (e := r.1) (by (first | decide | with_reducible assumption | with_reducible exact Nat.le_trans (by assumption) (by decide) | with_reducible exact Nat.lt_of_lt_of_le (Nat.add_lt_add_right (by assumption) _) (by decide) | with_reducible exact Int.natCast_nonneg _ | omega)) hk14
                  simp only [hdir, if_false]
                  exact this
                · rw [hstep]
                  rw [if_pos ⟨hnone, hchr⟩, List.map_append, htold]; rfl
        · rename ¬ r.1 < room => hlt
          rename Fr g L _ _ => F
          rename News g L _ _ => N
          have hstep := swStep_ge hroom hlt
          exact fin _ _ _ so cs te tep keep F ⟨rfl, rfl, rfl, trivial⟩ N hkt (fun p hp => hp) hte hSo' (by (first | decide | with_reducible assumption | with_reducible exact Nat.le_trans (by assumption) (by decide) | with_reducible exact Nat.lt_of_lt_of_le (Nat.add_lt_add_right (by assumption) _) (by decide) | with_reducible exact Int.natCast_nonneg _ | omega)) (by rw [hstep]; exact hseen) (by rw [hstep]; exact htold)
    · refine ⟨_, _, _, vs1, (he.map fun e => Value.ref e.1).length, [], 0, so, [(Str.ofString "/", 3)], [], he.map (fun e => (e.1, e.2.1)), rfl, F, ⟨rfl, rfl, rfl, trivial⟩, ?_, ?_, ?_, by simp, ?_, by simp, seen_start, rfl, ?_, ?_, ?_, List.Pairwise.nil, by simp, rfl⟩
      · refine News.sub N ?_
        intro p hp
        rcases List.mem_cons.mp hp with rfl | hp
        · (first | ((repeat first | exact List.mem_cons_self .. | refine List.mem_cons_of_mem _ ?_); done) | ((repeat first | exact List.forall_mem_nil _ | refine List.forall_mem_cons.2 ⟨by first | ((repeat first | exact List.mem_cons_self .. | refine List.mem_cons_of_mem _ ?_); done) | simp, ?_⟩); done) | simp)
        rcases List.mem_cons.mp hp with rfl | hp
        · (first | ((repeat first | exact List.mem_cons_self .. | refine List.mem_cons_of_mem _ ?_); done) | ((repeat first | exact List.forall_mem_nil _ | refine List.forall_mem_cons.2 ⟨by first | ((repeat first | exact List.mem_cons_self .. | refine List.mem_cons_of_mem _ ?_); done) | simp, ?_⟩); done) | simp)
        rcases List.mem_cons.mp hp with rfl | hp
        · (first | ((repeat first | exact List.mem_cons_self .. | refine List.mem_cons_of_mem _ ?_); done) | ((repeat first | exact List.forall_mem_nil _ | refine List.forall_mem_cons.2 ⟨by first | ((repeat first | exact List.mem_cons_self .. | refine List.mem_cons_of_mem _ ?_); done) | simp, ?_⟩); done) | simp)
        · exact List.mem_cons_of_mem _ (List.mem_cons_of_mem _ (List.mem_cons_of_mem _ (List.mem_cons_of_mem _ hp)))
      · intro p hp
        obtain ⟨e, hm, rfl⟩ := List.mem_map.mp hp
        obtain ⟨_, _, _, q⟩ := hob e hm
        rw [q]; rfl
      · intro p hp; exact hp
      · obtain ⟨kvs, a, b⟩ := hT
        exact ⟨by have : S ≠ sysModules := Nat.ne_of_gt (Nat.lt_of_lt_of_le hlow hfr); simpa using this, kvs, a, b⟩
      · intro v hv; exact hpm.subset hv
      · rw [List.nil_append, ← hdat]
        refine (hpm.map _).trans ?_
        rw [List.map_map]
        refine List.Perm.of_eq (List.map_congr_left fun e hm => ?_)
        exact rowV_eq (hkp e hm).1 (hob e hm) (hok e hm).1
      · rw [List.length_map] at hH
        rw [hpm.length_eq, List.length_map]
        exact hH
end
end Mine
namespace Mine
open PySem PySem.W PySem.Calls PyProof.Rows PyProof.V
theorem fillLD1 : (PySem.Challenge.rw_pd0156_01 = PySem.Challenge.rw_pd0156_01) ∧ hd.heap_39 = hd.heap_39 := by
  k_fill
  exact ⟨rfl, rfl⟩
section
variable {prog : Program} {w : World} {A : Around} {R : Result → Shared → Prop} {s : Shared} {h₀ : Heap}
theorem laid_spec (B : Base w h₀) (st : h₀.StaysIn s.heap) (hA : A.handled = none) (hr : A.depth < 896) (hu : A.units < 300) {ll : Addr} {c : Nat → List (Int × Int)} (hl : LayAt prog w s.heap ll c)
  (hR : ∀ h' tk D ep (ls : List (Addr × Obj × RowT)), Mod [] s.heap h' → s.heap.get? D = none → h'.get? D = some (listOf (ls.map fun e => Value.ref e.1).toArray ep) → (∀ e ∈ ls, s.heap.get? e.1 = none ∧ h'.get? e.1 = some e.2.1 ∧ LaidObj e.2.1 e.2.2) →
    ls.map (·.2.2) = laidRows c → R (.ok (.ret (.ref D))) ⟨h', s.gens, s.drawn, tk, s.os⟩) :
  codeAny (model prog w) A (.call (.ref 269) ⟨[.ref ll], []⟩) R s := by
  refine' enterC (binds := [("layers", .ref ll)]) B st ?ho ?hcd ?hroom ?hbind ?hkind ?hnd ?_ ?hco ?hgen ?hk
  case hroom => exact Nat.lt_of_lt_of_le hr (by decide)
  case ho => k_is
  case hcd => k_is
  case hbind => exact BindsTo.of_eq rfl
  case hkind => exact rfl
  case hnd => decide +kernel
  case hco => exact rfl
  case hgen => exact rfl
  case hk => exact rfl
  intro g L h₁ tk cells Bg F N Y back hg
  have X := Bg.X
  have Bg' := Bg
  obtain ⟨pT, lT, mg, mb, T⟩ := Bg.T
  have hl' : LayAt prog w g ll c := hl.keeps fun b o e => hg b o e
  obtain ⟨d, od, hll, hdl⟩ := hl'
  k_cells Y
  repeat ((try dsimp only [WPost, Turn]); (fail_if_success (first | (with_reducible show wpAny _ _ (exec (Stmt.For _ _ _ _ _) _) _ _ _) | (with_reducible show wpAny _ _ (call (Value.ref _) _ _) _ _ _) | (with_reducible show wpAny _ _ (eval (Expr.ListComp _ _ _ _) _) _ _ _) | (with_reducible show wpAny _ _ (eval (Expr.DictComp _ _ _ _ _) _) _ _ _) | (with_reducible show wpAny _ _ (exec (Stmt.Assign _ (Expr.ListComp _ _ _ _) _) _) _ _ _) | (with_reducible show wpAny _ _ (exec (Stmt.Assign _ (Expr.DictComp _ _ _ _ _) _) _) _ _ _) | (with_reducible show wpAny _ _ (subscriptTail _ _ (Value.ref _) _) _ _ _) | (with_reducible show wpAny _ _ (compareOp CmpOp.NotIn _ _) _ _ _) | (with_reducible show wpAny _ _ (compareOp CmpOp.In _ _) _ _ _) | (with_reducible show wpAny _ _ (setItem _ _ _) _ _ _) | (with_reducible show wpAny _ _ (storeName _ (Str.ofString "view") _) _ _ _) | (with_reducible show wpAny _ _ (storeName _ (Str.ofString "node") _) _ _ _) | (with_reducible show wpAny _ _ (storeName _ (Str.ofString "below") _) _ _ _) | (with_reducible show wpAny _ _ (eval (Expr.Name (Str.ofString "layers") _) _) _ _ _) | (with_reducible show wpAny _ _ (eval (Expr.Name (Str.ofString "view") _) _) _ _ _) | (with_reducible show wpAny _ _ (eval (Expr.Name (Str.ofString "node") _) _) _ _ _) | (with_reducible show wpAny _ _ (eval (Expr.Name (Str.ofString "below") _) _) _ _ _) | (with_reducible show wpAny _ _ (pyIter _) _ _ _) | (with_reducible show wpAny _ _ (binaryOp Operator.Add (Value.ref _) (Value.ref _)) _ _ _))); walk1)
  rename_i ob on ov ol hob hon hov hol V h2 vo F N loV hsV fsV hiV fiV l1
  have N' := News.sub (news' := (L + 1 + 1 + 1 + 1, ob) :: (L + 1 + 1 + 1, on) :: (L + 1 + 1, ov) :: (L + 1, ol) :: [(V, vo)]) N (by
    intro p hp
    first | (revert p; (repeat first | exact List.forall_mem_nil _ | refine List.forall_mem_cons.2 ⟨by first | ((repeat first | exact List.mem_cons_self .. | refine List.mem_cons_of_mem _ ?_); done) | simp, ?_⟩); done) | (simp only [List.mem_cons, List.not_mem_nil, or_false] at hp ⊢; rcases hp with hp | hp | hp | hp | hp <;> simp [hp]))
  have hol' : ol.data = .cell (some (.ref ll)) := hol
  have far0 : Far L [(V, vo)] := Far.cons Far.nil (Off4.gt l1.1)
  refine storeX_C F N' rfl (cellU2 far0) hov ?_
  intro h3 ov2 F3 N3 hov2
  clear F N N' hov
  dsimp only at N3 ⊢
  repeat ((try dsimp only [WPost, Turn]); (fail_if_success (first | (with_reducible show wpAny _ _ (exec (Stmt.For _ _ _ _ _) _) _ _ _) | (with_reducible show wpAny _ _ (call (Value.ref _) _ _) _ _ _) | (with_reducible show wpAny _ _ (eval (Expr.ListComp _ _ _ _) _) _ _ _) | (with_reducible show wpAny _ _ (eval (Expr.DictComp _ _ _ _ _) _) _ _ _) | (with_reducible show wpAny _ _ (exec (Stmt.Assign _ (Expr.ListComp _ _ _ _) _) _) _ _ _) | (with_reducible show wpAny _ _ (exec (Stmt.Assign _ (Expr.DictComp _ _ _ _ _) _) _) _ _ _) | (with_reducible show wpAny _ _ (subscriptTail _ _ (Value.ref _) _) _ _ _) | (with_reducible show wpAny _ _ (compareOp CmpOp.NotIn _ _) _ _ _) | (with_reducible show wpAny _ _ (compareOp CmpOp.In _ _) _ _ _) | (with_reducible show wpAny _ _ (setItem _ _ _) _ _ _) | (with_reducible show wpAny _ _ (storeName _ (Str.ofString "view") _) _ _ _) | (with_reducible show wpAny _ _ (storeName _ (Str.ofString "node") _) _ _ _) | (with_reducible show wpAny _ _ (storeName _ (Str.ofString "below") _) _ _ _) | (with_reducible show wpAny _ _ (eval (Expr.Name (Str.ofString "layers") _) _) _ _ _) | (with_reducible show wpAny _ _ (eval (Expr.Name (Str.ofString "view") _) _) _ _ _) | (with_reducible show wpAny _ _ (eval (Expr.Name (Str.ofString "node") _) _) _ _ _) | (with_reducible show wpAny _ _ (eval (Expr.Name (Str.ofString "below") _) _) _ _ _) | (with_reducible show wpAny _ _ (pyIter _) _ _ _) | (with_reducible show wpAny _ _ (binaryOp Operator.Add (Value.ref _) (Value.ref _)) _ _ _))); walk1)
  refine For_invV g rfl rfl ?_
  repeat ((try dsimp only [WPost, Turn]); (fail_if_success (first | (with_reducible show wpAny _ _ (exec (Stmt.For _ _ _ _ _) _) _ _ _) | (with_reducible show wpAny _ _ (call (Value.ref _) _ _) _ _ _) | (with_reducible show wpAny _ _ (eval (Expr.ListComp _ _ _ _) _) _ _ _) | (with_reducible show wpAny _ _ (eval (Expr.DictComp _ _ _ _ _) _) _ _ _) | (with_reducible show wpAny _ _ (exec (Stmt.Assign _ (Expr.ListComp _ _ _ _) _) _) _ _ _) | (with_reducible show wpAny _ _ (exec (Stmt.Assign _ (Expr.DictComp _ _ _ _ _) _) _) _ _ _) | (with_reducible show wpAny _ _ (subscriptTail _ _ (Value.ref _) _) _ _ _) | (with_reducible show wpAny _ _ (compareOp CmpOp.NotIn _ _) _ _ _) | (with_reducible show wpAny _ _ (compareOp CmpOp.In _ _) _ _ _) | (with_reducible show wpAny _ _ (setItem _ _ _) _ _ _) | (with_reducible show wpAny _ _ (storeName _ (Str.ofString "view") _) _ _ _) | (with_reducible show wpAny _ _ (storeName _ (Str.ofString "node") _) _ _ _) | (with_reducible show wpAny _ _ (storeName _ (Str.ofString "below") _) _ _ _) | (with_reducible show wpAny _ _ (eval (Expr.Name (Str.ofString "layers") _) _) _ _ _) | (with_reducible show wpAny _ _ (eval (Expr.Name (Str.ofString "view") _) _) _ _ _) | (with_reducible show wpAny _ _ (eval (Expr.Name (Str.ofString "node") _) _) _ _ _) | (with_reducible show wpAny _ _ (eval (Expr.Name (Str.ofString "below") _) _) _ _ _) | (with_reducible show wpAny _ _ (pyIter _) _ _ _) | (with_reducible show wpAny _ _ (binaryOp Operator.Add (Value.ref _) (Value.ref _)) _ _ _))); walk1)
  rename Fr g L _ _ => F
  rename News g L _ _ => N
  rename _ ∧ _ ∧ _ ∧ _ ∧ _ => l2
  rename_i Tp h4
  refine for_tuple (l := Tp) (vs := [.int 2 tk, .int 1 (tk + 1), .int 0 (tk + 1 + 1)]) hA ⟨_, (N _ (List.mem_cons_self ..)).1, rfl, _, rfl⟩ (.inr ⟨_, List.mem_cons_self ..⟩) (nx₀ := (L + 1 + 1 + 1 + 1, ob) :: (L + 1 + 1 + 1, on) :: (L + 1 + 1, ov2) :: (L + 1, ol) :: [(V, vo)]) (keep := [(Tp, { cls := .type "tuple", data := .seq #[.int 2 tk, .int 1 (tk + 1), .int 0 (tk + 1 + 1)] })]) F (News.sub N (by
    intro p hp
    first | (revert p; (repeat first | exact List.forall_mem_nil _ | refine List.forall_mem_cons.2 ⟨by first | ((repeat first | exact List.mem_cons_self .. | refine List.mem_cons_of_mem _ ?_); done) | simp, ?_⟩); done) | (simp only [List.mem_cons, List.cons_append, List.nil_append, List.not_mem_nil, or_false] at hp ⊢; rcases hp with hp | hp | hp | hp | hp | hp <;> simp [hp])))
    (fun i m nx => VwAt prog w L ol (100 * i) (vwRun c i) [] nx) ?_ ?_ ?_
  · exact ⟨ob, on, ov2, _, _, V, vo, [], rfl, hob, hon, hov2, Off4.gt l1.1, (by first | ((repeat first | exact List.mem_cons_self .. | refine List.mem_cons_of_mem _ ?_); done) | ((repeat first | exact List.forall_mem_nil _ | refine List.forall_mem_cons.2 ⟨by first | ((repeat first | exact List.mem_cons_self .. | refine List.mem_cons_of_mem _ ?_); done) | simp, ?_⟩); done) | simp), ⟨loV, _, hiV, fiV⟩, by simp, fun k => by simp [vwRun, kdfHas]⟩
  · clear F N hob hon hov2
    have offT : Off4 L Tp := Off4.gt l2.1
    rintro I i v m₁ nx h tk5 oI hv ⟨ob, on, ov, cb, cn, V, vo, cv, rfl, hob, hon, hov, offV, hK0, DV, hcl, hvw⟩ hne F N
    obtain ⟨hi3, tp, rfl⟩ : i < 3 ∧ ∃ t, v = .int ((2 - i : Nat) : Int) t := by
      match i, hv with
      | 0, hv => exact ⟨by (first | decide | with_reducible assumption | with_reducible exact Nat.le_trans (by assumption) (by decide) | with_reducible exact Nat.lt_of_lt_of_le (Nat.add_lt_add_right (by assumption) _) (by decide) | with_reducible exact Int.natCast_nonneg _ | omega), _, (Option.some.inj hv).symm⟩
      | 1, hv => exact ⟨by (first | decide | with_reducible assumption | with_reducible exact Nat.le_trans (by assumption) (by decide) | with_reducible exact Nat.lt_of_lt_of_le (Nat.add_lt_add_right (by assumption) _) (by decide) | with_reducible exact Int.natCast_nonneg _ | omega), _, (Option.some.inj hv).symm⟩
      | 2, hv => exact ⟨by (first | decide | with_reducible assumption | with_reducible exact Nat.le_trans (by assumption) (by decide) | with_reducible exact Nat.lt_of_lt_of_le (Nat.add_lt_add_right (by assumption) _) (by decide) | with_reducible exact Int.natCast_nonneg _ | omega), _, (Option.some.inj hv).symm⟩
    have offI : Off4 L I := Off4.of hne
    have hp3 : 2 - i < 3 := by (first | decide | with_reducible assumption | with_reducible exact Nat.le_trans (by assumption) (by decide) | with_reducible exact Nat.lt_of_lt_of_le (Nat.add_lt_add_right (by assumption) _) (by decide) | with_reducible exact Int.natCast_nonneg _ | omega)
    obtain ⟨hdi, Di, Wi⟩ := hdl (2 - i) hp3
    obtain ⟨lo, kvs, ⟨des, dep, hx1, hx2, hx3, hx4, hx5⟩, hfl⟩ := id Di
    obtain ⟨hkl, hka⟩ := flat_at hfl
    have hvI : V ≠ I := hne (V, vo) (by first | ((repeat first | exact List.mem_cons_self .. | refine List.mem_cons_of_mem _ ?_); done) | ((repeat first | exact List.forall_mem_nil _ | refine List.forall_mem_cons.2 ⟨by first | ((repeat first | exact List.mem_cons_self .. | refine List.mem_cons_of_mem _ ?_); done) | simp, ?_⟩); done) | simp)
    have hTI : Tp ≠ I := hne (Tp, _) (by simp; exact .inr (.inr (.inr (.inr (.inr rfl)))))
    replace F : Fr g L h _ := Fr.over (ps := [("place", .int ((2 - i : Nat) : Int) tp)]) F ⟨rfl, trivial⟩
    replace N : News g L h ((L + 1 + 1 + 1 + 1, ob) :: (L + 1 + 1 + 1, on) :: (L + 1 + 1, ov) :: (L + 1, ol) :: (V, vo) :: [(Tp, { cls := .type "tuple", data := .seq #[.int 2 tk, .int 1 (tk + 1), .int 0 (tk + 1 + 1)] }), (I, oI)]) := N
    dsimp only [over] at F
    generalize hT : (({ cls := .type "tuple", data := .seq #[.int 2 tk, .int 1 (tk + 1), .int 0 (tk + 1 + 1)] }) : Obj) = oT at *
    repeat ((try dsimp only [WPost, Turn]); (fail_if_success (first | (with_reducible show wpAny _ _ (exec (Stmt.For _ _ _ _ _) _) _ _ _) | (with_reducible show wpAny _ _ (call (Value.ref _) _ _) _ _ _) | (with_reducible show wpAny _ _ (eval (Expr.ListComp _ _ _ _) _) _ _ _) | (with_reducible show wpAny _ _ (eval (Expr.DictComp _ _ _ _ _) _) _ _ _) | (with_reducible show wpAny _ _ (exec (Stmt.Assign _ (Expr.ListComp _ _ _ _) _) _) _ _ _) | (with_reducible show wpAny _ _ (exec (Stmt.Assign _ (Expr.DictComp _ _ _ _ _) _) _) _ _ _) | (with_reducible show wpAny _ _ (subscriptTail _ _ (Value.ref _) _) _ _ _) | (with_reducible show wpAny _ _ (compareOp CmpOp.NotIn _ _) _ _ _) | (with_reducible show wpAny _ _ (compareOp CmpOp.In _ _) _ _ _) | (with_reducible show wpAny _ _ (setItem _ _ _) _ _ _) | (with_reducible show wpAny _ _ (storeName _ (Str.ofString "view") _) _ _ _) | (with_reducible show wpAny _ _ (storeName _ (Str.ofString "node") _) _ _ _) | (with_reducible show wpAny _ _ (storeName _ (Str.ofString "below") _) _ _ _) | (with_reducible show wpAny _ _ (eval (Expr.Name (Str.ofString "layers") _) _) _ _ _) | (with_reducible show wpAny _ _ (eval (Expr.Name (Str.ofString "view") _) _) _ _ _) | (with_reducible show wpAny _ _ (eval (Expr.Name (Str.ofString "node") _) _) _ _ _) | (with_reducible show wpAny _ _ (eval (Expr.Name (Str.ofString "below") _) _) _ _ _) | (with_reducible show wpAny _ _ (pyIter _) _ _ _) | (with_reducible show wpAny _ _ (binaryOp Operator.Add (Value.ref _) (Value.ref _)) _ _ _))); walk1)
    refine For_turns F ?_
    repeat ((try dsimp only [WPost, Turn]); (fail_if_success (first | (with_reducible show wpAny _ _ (exec (Stmt.For _ _ _ _ _) _) _ _ _) | (with_reducible show wpAny _ _ (call (Value.ref _) _ _) _ _ _) | (with_reducible show wpAny _ _ (eval (Expr.ListComp _ _ _ _) _) _ _ _) | (with_reducible show wpAny _ _ (eval (Expr.DictComp _ _ _ _ _) _) _ _ _) | (with_reducible show wpAny _ _ (exec (Stmt.Assign _ (Expr.ListComp _ _ _ _) _) _) _ _ _) | (with_reducible show wpAny _ _ (exec (Stmt.Assign _ (Expr.DictComp _ _ _ _ _) _) _) _ _ _) | (with_reducible show wpAny _ _ (subscriptTail _ _ (Value.ref _) _) _ _ _) | (with_reducible show wpAny _ _ (compareOp CmpOp.NotIn _ _) _ _ _) | (with_reducible show wpAny _ _ (compareOp CmpOp.In _ _) _ _ _) | (with_reducible show wpAny _ _ (setItem _ _ _) _ _ _) | (with_reducible show wpAny _ _ (storeName _ (Str.ofString "view") _) _ _ _) | (with_reducible show wpAny _ _ (storeName _ (Str.ofString "node") _) _ _ _) | (with_reducible show wpAny _ _ (storeName _ (Str.ofString "below") _) _ _ _) | (with_reducible show wpAny _ _ (eval (Expr.Name (Str.ofString "layers") _) _) _ _ _) | (with_reducible show wpAny _ _ (eval (Expr.Name (Str.ofString "view") _) _) _ _ _) | (with_reducible show wpAny _ _ (eval (Expr.Name (Str.ofString "node") _) _) _ _ _) | (with_reducible show wpAny _ _ (eval (Expr.Name (Str.ofString "below") _) _) _ _ _) | (with_reducible show wpAny _ _ (pyIter _) _ _ _) | (with_reducible show wpAny _ _ (binaryOp Operator.Add (Value.ref _) (Value.ref _)) _ _ _))); walk1)
    refine nameX_C N rfl (show (L + 1, ol) ∈ _ from by first | ((repeat first | exact List.mem_cons_self .. | refine List.mem_cons_of_mem _ ?_); done) | ((repeat first | exact List.forall_mem_nil _ | refine List.forall_mem_cons.2 ⟨by first | ((repeat first | exact List.mem_cons_self .. | refine List.mem_cons_of_mem _ ?_); done) | simp, ?_⟩); done) | simp) hol' ?_
    repeat ((try dsimp only [WPost, Turn]); (fail_if_success (first | (with_reducible show wpAny _ _ (exec (Stmt.For _ _ _ _ _) _) _ _ _) | (with_reducible show wpAny _ _ (call (Value.ref _) _ _) _ _ _) | (with_reducible show wpAny _ _ (eval (Expr.ListComp _ _ _ _) _) _ _ _) | (with_reducible show wpAny _ _ (eval (Expr.DictComp _ _ _ _ _) _) _ _ _) | (with_reducible show wpAny _ _ (exec (Stmt.Assign _ (Expr.ListComp _ _ _ _) _) _) _ _ _) | (with_reducible show wpAny _ _ (exec (Stmt.Assign _ (Expr.DictComp _ _ _ _ _) _) _) _ _ _) | (with_reducible show wpAny _ _ (subscriptTail _ _ (Value.ref _) _) _ _ _) | (with_reducible show wpAny _ _ (compareOp CmpOp.NotIn _ _) _ _ _) | (with_reducible show wpAny _ _ (compareOp CmpOp.In _ _) _ _ _) | (with_reducible show wpAny _ _ (setItem _ _ _) _ _ _) | (with_reducible show wpAny _ _ (storeName _ (Str.ofString "view") _) _ _ _) | (with_reducible show wpAny _ _ (storeName _ (Str.ofString "node") _) _ _ _) | (with_reducible show wpAny _ _ (storeName _ (Str.ofString "below") _) _ _ _) | (with_reducible show wpAny _ _ (eval (Expr.Name (Str.ofString "layers") _) _) _ _ _) | (with_reducible show wpAny _ _ (eval (Expr.Name (Str.ofString "view") _) _) _ _ _) | (with_reducible show wpAny _ _ (eval (Expr.Name (Str.ofString "node") _) _) _ _ _) | (with_reducible show wpAny _ _ (eval (Expr.Name (Str.ofString "below") _) _) _ _ _) | (with_reducible show wpAny _ _ (pyIter _) _ _ _) | (with_reducible show wpAny _ _ (binaryOp Operator.Add (Value.ref _) (Value.ref _)) _ _ _))); walk1)
    refine item_listL (l := [Value.ref (d 0), .ref (d 1), .ref (d 2)]) (x := .ref (d (2 - i))) ⟨_, F.keep _ _ hll, rfl, _, rfl⟩ (by (first | decide | with_reducible assumption | with_reducible exact Nat.le_trans (by assumption) (by decide) | with_reducible exact Nat.lt_of_lt_of_le (Nat.add_lt_add_right (by assumption) _) (by decide) | with_reducible exact Int.natCast_nonneg _ | omega)) (by (first | decide | with_reducible assumption | with_reducible exact Nat.le_trans (by assumption) (by decide) | with_reducible exact Nat.lt_of_lt_of_le (Nat.add_lt_add_right (by assumption) _) (by decide) | with_reducible exact Int.natCast_nonneg _ | omega)) ?_ ?_
    · have : i = 0 ∨ i = 1 ∨ i = 2 := by (first | decide | with_reducible assumption | with_reducible exact Nat.le_trans (by assumption) (by decide) | with_reducible exact Nat.lt_of_lt_of_le (Nat.add_lt_add_right (by assumption) _) (by decide) | with_reducible exact Int.natCast_nonneg _ | omega)
      rcases this with rfl | rfl | rfl <;> rfl
    have zd := Heap.lt_size (F.keep _ _ hdi)
    have zdL : @LT.lt Nat _ (d (2 - i)) L := Nat.lt_of_lt_of_le (Heap.lt_size hdi) F.above
    have zLs := F.ns.lt
    have hTV : Tp ≠ V := fun q => by
      have z1 := (N (Tp, oT) (by first | ((repeat first | exact List.mem_cons_self .. | refine List.mem_cons_of_mem _ ?_); done) | ((repeat first | exact List.forall_mem_nil _ | refine List.forall_mem_cons.2 ⟨by first | ((repeat first | exact List.mem_cons_self .. | refine List.mem_cons_of_mem _ ?_); done) | simp, ?_⟩); done) | simp)).1
      have z2 := (N (V, vo) (by first | ((repeat first | exact List.mem_cons_self .. | refine List.mem_cons_of_mem _ ?_); done) | ((repeat first | exact List.forall_mem_nil _ | refine List.forall_mem_cons.2 ⟨by first | ((repeat first | exact List.mem_cons_self .. | refine List.mem_cons_of_mem _ ?_); done) | simp, ?_⟩); done) | simp)).1
      dsimp only at z1 z2
      rw [q, z2] at z1
      have := DV.cls
      rw [Option.some.inj z1, ← hT] at this
      simp at this
    have hKV0 : ∀ p ∈ [(Tp, oT), (I, oI)], p.1 ≠ V := fun p hp => by
      simp only [List.mem_cons, List.not_mem_nil, or_false] at hp
      rcases hp with rfl | rfl
      · exact hTV
      · exact hvI.symm
    have hgI : g.get? h.objs.size = none := freshI F
    refine wpAny_pyIter_dict lo ⟨_, des, F.keep _ _ hdi, hx1, hx2, hx3, hx4, hx5⟩ ?_
    refine ⟨_, _, _, _, _, _, _, _, (L + 1 + 1 + 1 + 1, ob) :: (L + 1 + 1 + 1, on) :: (L + 1 + 1, ov) :: (L + 1, ol) :: (V, vo) :: [(Tp, oT), (I, oI)], (fun i' m nx => Has m [(Str.ofString "place", .int ((2 - i : Nat) : Int) tp)] ∧ VwAt prog w L ol (100 * i + i') (((c (2 - i)).take i').foldl (laidP ((2 - i : Nat) : Int)) (vwRun c i)) [(Tp, oT), (I, oI)] nx), rfl,
      KTurns.ofWalks (Walks.dictKeys (knd := PySem.intKind prog w) (by exact hA) _ _ (Nat.ne_of_lt zd) kvs dep) (fun i v s Q E st q => letGo_keyiter st.1 q), ?_, ?_, ?_, ⟨⟨_, Heap.get?_push_size _ rfl, rfl, rfl⟩, ⟨_, des, Heap.get?_push_of_some _ (F.keep _ _ hdi), hx1, hx2, hx3, hx4, hx5⟩⟩, F.push _, News.push0 N _, ⟨⟨rfl, trivial⟩, ob, on, ov, cb, cn, V, vo, cv, rfl, hob, hon, hov, offV, hKV0, DV, by (first | decide | with_reducible assumption | with_reducible exact Nat.le_trans (by assumption) (by decide) | with_reducible exact Nat.lt_of_lt_of_le (Nat.add_lt_add_right (by assumption) _) (by decide) | with_reducible exact Int.natCast_nonneg _ | omega), hvw⟩, ?_, ?_⟩
    · show L ∉ [_, d (2 - i)]
      simp only [List.mem_cons, List.not_mem_nil, or_false, not_or]
      exact ⟨Nat.ne_of_lt zLs, Nat.ne_of_gt zdL⟩
    · intro b hb
      rw [List.mem_singleton.mp hb]
      exact freshI F
    · intro p hp q
      exact News.neI N p hp (List.mem_singleton.mp q)
    · have offI2 : Off4 L h.objs.size := Off4.of fun p hp => News.neI N p hp
      have hKI : ∀ p ∈ [(Tp, oT), (I, oI)], p.1 ≠ h.objs.size := fun p hp => News.neI N p (by first | (revert p; (repeat first | exact List.forall_mem_nil _ | refine List.forall_mem_cons.2 ⟨by first | ((repeat first | exact List.mem_cons_self .. | refine List.mem_cons_of_mem _ ?_); done) | simp, ?_⟩); done) | (simp only [List.mem_cons, List.not_mem_nil, or_false] at hp ⊢; rcases hp with hp | hp <;> simp [hp]))
      generalize h.objs.size = I2 at *
      clear F N hob hon hov offV DV hcl hvw hvI hne hTV hKV0 hK0
      clear ob on ov cb cn V vo cv
      rintro i' v m₂ nx h6 tk6 own hi' ⟨k, y, hki, hkv⟩ ⟨hm, ob, on, ov, cb, cn, V, vo, cv, rfl, hob, hon, hov, offV, hKV, DV, hcl, hvw⟩ hoff hown _ hfull hst6 F N
      obtain ⟨tk7, rfl⟩ := Value.isInt_shape hkv
      obtain ⟨mode, hcm⟩ := hka _ _ _ hki
      have hi14 : i' < 14 := by have h1 : i' < kvs.length := hi'; have := Wi.len; (first | decide | with_reducible assumption | with_reducible exact Nat.le_trans (by assumption) (by decide) | with_reducible exact Nat.lt_of_lt_of_le (Nat.add_lt_add_right (by assumption) _) (by decide) | with_reducible exact Int.natCast_nonneg _ | omega)
      have hkc := List.mem_of_getElem? hcm
      have hk14 := Wi.key _ hkc
      have hmo := Wi.mode _ hkc
      have offo : ∀ p ∈ own, Off4 L p.1 := fun p hp => by
        have : p.1 ∈ [I2, d (2 - i)] := hown p hp
        simp only [List.mem_cons, List.not_mem_nil, or_false] at this
        rcases this with e | e
        · rw [e]; exact offI2
        · rw [e]; exact Off4.lt zdL
      have farK : Far L ((V, vo) :: (Tp, oT) :: (I, oI) :: own) := Far.cons (Far.cons (Far.cons offo offI) offT) offV
      replace F : Fr g L h6 _ := Fr.over (ps := [("place", .int ((2 - i : Nat) : Int) tp)]) F ⟨hm.1, trivial⟩
      replace N : News g L h6 ((L + 1 + 1 + 1 + 1, ob) :: (L + 1 + 1 + 1, on) :: (L + 1 + 1, ov) :: (L + 1, ol) :: (V, vo) :: (Tp, oT) :: (I, oI) :: own) := News.sub N (by
        intro p hp
        first | (revert p; (repeat first | exact List.forall_mem_nil _ | refine List.forall_mem_cons.2 ⟨by first | ((repeat first | exact List.mem_cons_self .. | refine List.mem_cons_of_mem _ ?_); done) | simp, ?_⟩); done) | (simp only [List.mem_cons, List.mem_append, List.not_mem_nil, or_false] at hp ⊢; rcases hp with hp | hp | hp | hp | hp | hp | hp | hp <;> simp [hp]))
      dsimp only [over] at F ⊢
      repeat ((try dsimp only [WPost, Turn]); (fail_if_success (first | (with_reducible show wpAny _ _ (exec (Stmt.For _ _ _ _ _) _) _ _ _) | (with_reducible show wpAny _ _ (call (Value.ref _) _ _) _ _ _) | (with_reducible show wpAny _ _ (eval (Expr.ListComp _ _ _ _) _) _ _ _) | (with_reducible show wpAny _ _ (eval (Expr.DictComp _ _ _ _ _) _) _ _ _) | (with_reducible show wpAny _ _ (exec (Stmt.Assign _ (Expr.ListComp _ _ _ _) _) _) _ _ _) | (with_reducible show wpAny _ _ (exec (Stmt.Assign _ (Expr.DictComp _ _ _ _ _) _) _) _ _ _) | (with_reducible show wpAny _ _ (subscriptTail _ _ (Value.ref _) _) _ _ _) | (with_reducible show wpAny _ _ (compareOp CmpOp.NotIn _ _) _ _ _) | (with_reducible show wpAny _ _ (compareOp CmpOp.In _ _) _ _ _) | (with_reducible show wpAny _ _ (setItem _ _ _) _ _ _) | (with_reducible show wpAny _ _ (storeName _ (Str.ofString "view") _) _ _ _) | (with_reducible show wpAny _ _ (storeName _ (Str.ofString "node") _) _ _ _) | (with_reducible show wpAny _ _ (storeName _ (Str.ofString "below") _) _ _ _) | (with_reducible show wpAny _ _ (eval (Expr.Name (Str.ofString "layers") _) _) _ _ _) | (with_reducible show wpAny _ _ (eval (Expr.Name (Str.ofString "view") _) _) _ _ _) | (with_reducible show wpAny _ _ (eval (Expr.Name (Str.ofString "node") _) _) _ _ _) | (with_reducible show wpAny _ _ (eval (Expr.Name (Str.ofString "below") _) _) _ _ _) | (with_reducible show wpAny _ _ (pyIter _) _ _ _) | (with_reducible show wpAny _ _ (binaryOp Operator.Add (Value.ref _) (Value.ref _)) _ _ _))); walk1)
      refine storeX_C F N rfl (cellU3 farK) hon ?_
      intro h7 on2 F7 N7 hon2
      clear F N hon
      dsimp only at N7 ⊢
      repeat ((try dsimp only [WPost, Turn]); (fail_if_success (first | (with_reducible show wpAny _ _ (exec (Stmt.For _ _ _ _ _) _) _ _ _) | (with_reducible show wpAny _ _ (call (Value.ref _) _ _) _ _ _) | (with_reducible show wpAny _ _ (eval (Expr.ListComp _ _ _ _) _) _ _ _) | (with_reducible show wpAny _ _ (eval (Expr.DictComp _ _ _ _ _) _) _ _ _) | (with_reducible show wpAny _ _ (exec (Stmt.Assign _ (Expr.ListComp _ _ _ _) _) _) _ _ _) | (with_reducible show wpAny _ _ (exec (Stmt.Assign _ (Expr.DictComp _ _ _ _ _) _) _) _ _ _) | (with_reducible show wpAny _ _ (subscriptTail _ _ (Value.ref _) _) _ _ _) | (with_reducible show wpAny _ _ (compareOp CmpOp.NotIn _ _) _ _ _) | (with_reducible show wpAny _ _ (compareOp CmpOp.In _ _) _ _ _) | (with_reducible show wpAny _ _ (setItem _ _ _) _ _ _) | (with_reducible show wpAny _ _ (storeName _ (Str.ofString "view") _) _ _ _) | (with_reducible show wpAny _ _ (storeName _ (Str.ofString "node") _) _ _ _) | (with_reducible show wpAny _ _ (storeName _ (Str.ofString "below") _) _ _ _) | (with_reducible show wpAny _ _ (eval (Expr.Name (Str.ofString "layers") _) _) _ _ _) | (with_reducible show wpAny _ _ (eval (Expr.Name (Str.ofString "view") _) _) _ _ _) | (with_reducible show wpAny _ _ (eval (Expr.Name (Str.ofString "node") _) _) _ _ _) | (with_reducible show wpAny _ _ (eval (Expr.Name (Str.ofString "below") _) _) _ _ _) | (with_reducible show wpAny _ _ (pyIter _) _ _ _) | (with_reducible show wpAny _ _ (binaryOp Operator.Add (Value.ref _) (Value.ref _)) _ _ _))); walk1)
      refine nameX_C N7 rfl (show (L + 1, ol) ∈ _ from by first | ((repeat first | exact List.mem_cons_self .. | refine List.mem_cons_of_mem _ ?_); done) | ((repeat first | exact List.forall_mem_nil _ | refine List.forall_mem_cons.2 ⟨by first | ((repeat first | exact List.mem_cons_self .. | refine List.mem_cons_of_mem _ ?_); done) | simp, ?_⟩); done) | simp) hol' ?_
      repeat ((try dsimp only [WPost, Turn]); (fail_if_success (first | (with_reducible show wpAny _ _ (exec (Stmt.For _ _ _ _ _) _) _ _ _) | (with_reducible show wpAny _ _ (call (Value.ref _) _ _) _ _ _) | (with_reducible show wpAny _ _ (eval (Expr.ListComp _ _ _ _) _) _ _ _) | (with_reducible show wpAny _ _ (eval (Expr.DictComp _ _ _ _ _) _) _ _ _) | (with_reducible show wpAny _ _ (exec (Stmt.Assign _ (Expr.ListComp _ _ _ _) _) _) _ _ _) | (with_reducible show wpAny _ _ (exec (Stmt.Assign _ (Expr.DictComp _ _ _ _ _) _) _) _ _ _) | (with_reducible show wpAny _ _ (subscriptTail _ _ (Value.ref _) _) _ _ _) | (with_reducible show wpAny _ _ (compareOp CmpOp.NotIn _ _) _ _ _) | (with_reducible show wpAny _ _ (compareOp CmpOp.In _ _) _ _ _) | (with_reducible show wpAny _ _ (setItem _ _ _) _ _ _) | (with_reducible show wpAny _ _ (storeName _ (Str.ofString "view") _) _ _ _) | (with_reducible show wpAny _ _ (storeName _ (Str.ofString "node") _) _ _ _) | (with_reducible show wpAny _ _ (storeName _ (Str.ofString "below") _) _ _ _) | (with_reducible show wpAny _ _ (eval (Expr.Name (Str.ofString "layers") _) _) _ _ _) | (with_reducible show wpAny _ _ (eval (Expr.Name (Str.ofString "view") _) _) _ _ _) | (with_reducible show wpAny _ _ (eval (Expr.Name (Str.ofString "node") _) _) _ _ _) | (with_reducible show wpAny _ _ (eval (Expr.Name (Str.ofString "below") _) _) _ _ _) | (with_reducible show wpAny _ _ (pyIter _) _ _ _) | (with_reducible show wpAny _ _ (binaryOp Operator.Add (Value.ref _) (Value.ref _)) _ _ _))); walk1)
      refine item_listL (l := [Value.ref (d 0), .ref (d 1), .ref (d 2)]) (x := .ref (d (2 - i))) ⟨_, F7.keep _ _ hll, rfl, _, rfl⟩ (by (first | decide | with_reducible assumption | with_reducible exact Nat.le_trans (by assumption) (by decide) | with_reducible exact Nat.lt_of_lt_of_le (Nat.add_lt_add_right (by assumption) _) (by decide) | with_reducible exact Int.natCast_nonneg _ | omega)) (by (first | decide | with_reducible assumption | with_reducible exact Nat.le_trans (by assumption) (by decide) | with_reducible exact Nat.lt_of_lt_of_le (Nat.add_lt_add_right (by assumption) _) (by decide) | with_reducible exact Int.natCast_nonneg _ | omega)) ?_ ?_
      · have : i = 0 ∨ i = 1 ∨ i = 2 := by (first | decide | with_reducible assumption | with_reducible exact Nat.le_trans (by assumption) (by decide) | with_reducible exact Nat.lt_of_lt_of_le (Nat.add_lt_add_right (by assumption) _) (by decide) | with_reducible exact Int.natCast_nonneg _ | omega)
        rcases this with rfl | rfl | rfl <;> rfl
      repeat ((try dsimp only [WPost, Turn]); (fail_if_success (first | (with_reducible show wpAny _ _ (exec (Stmt.For _ _ _ _ _) _) _ _ _) | (with_reducible show wpAny _ _ (call (Value.ref _) _ _) _ _ _) | (with_reducible show wpAny _ _ (eval (Expr.ListComp _ _ _ _) _) _ _ _) | (with_reducible show wpAny _ _ (eval (Expr.DictComp _ _ _ _ _) _) _ _ _) | (with_reducible show wpAny _ _ (exec (Stmt.Assign _ (Expr.ListComp _ _ _ _) _) _) _ _ _) | (with_reducible show wpAny _ _ (exec (Stmt.Assign _ (Expr.DictComp _ _ _ _ _) _) _) _ _ _) | (with_reducible show wpAny _ _ (subscriptTail _ _ (Value.ref _) _) _ _ _) | (with_reducible show wpAny _ _ (compareOp CmpOp.NotIn _ _) _ _ _) | (with_reducible show wpAny _ _ (compareOp CmpOp.In _ _) _ _ _) | (with_reducible show wpAny _ _ (setItem _ _ _) _ _ _) | (with_reducible show wpAny _ _ (storeName _ (Str.ofString "view") _) _ _ _) | (with_reducible show wpAny _ _ (storeName _ (Str.ofString "node") _) _ _ _) | (with_reducible show wpAny _ _ (storeName _ (Str.ofString "below") _) _ _ _) | (with_reducible show wpAny _ _ (eval (Expr.Name (Str.ofString "layers") _) _) _ _ _) | (with_reducible show wpAny _ _ (eval (Expr.Name (Str.ofString "view") _) _) _ _ _) | (with_reducible show wpAny _ _ (eval (Expr.Name (Str.ofString "node") _) _) _ _ _) | (with_reducible show wpAny _ _ (eval (Expr.Name (Str.ofString "below") _) _) _ _ _) | (with_reducible show wpAny _ _ (pyIter _) _ _ _) | (with_reducible show wpAny _ _ (binaryOp Operator.Add (Value.ref _) (Value.ref _)) _ _ _))); walk1)
      refine nameX_C N7 rfl (show (L + 1 + 1 + 1, on2) ∈ _ from by first | ((repeat first | exact List.mem_cons_self .. | refine List.mem_cons_of_mem _ ?_); done) | ((repeat first | exact List.forall_mem_nil _ | refine List.forall_mem_cons.2 ⟨by first | ((repeat first | exact List.mem_cons_self .. | refine List.mem_cons_of_mem _ ?_); done) | simp, ?_⟩); done) | simp) hon2 ?_
      repeat ((try dsimp only [WPost, Turn]); (fail_if_success (first | (with_reducible show wpAny _ _ (exec (Stmt.For _ _ _ _ _) _) _ _ _) | (with_reducible show wpAny _ _ (call (Value.ref _) _ _) _ _ _) | (with_reducible show wpAny _ _ (eval (Expr.ListComp _ _ _ _) _) _ _ _) | (with_reducible show wpAny _ _ (eval (Expr.DictComp _ _ _ _ _) _) _ _ _) | (with_reducible show wpAny _ _ (exec (Stmt.Assign _ (Expr.ListComp _ _ _ _) _) _) _ _ _) | (with_reducible show wpAny _ _ (exec (Stmt.Assign _ (Expr.DictComp _ _ _ _ _) _) _) _ _ _) | (with_reducible show wpAny _ _ (subscriptTail _ _ (Value.ref _) _) _ _ _) | (with_reducible show wpAny _ _ (compareOp CmpOp.NotIn _ _) _ _ _) | (with_reducible show wpAny _ _ (compareOp CmpOp.In _ _) _ _ _) | (with_reducible show wpAny _ _ (setItem _ _ _) _ _ _) | (with_reducible show wpAny _ _ (storeName _ (Str.ofString "view") _) _ _ _) | (with_reducible show wpAny _ _ (storeName _ (Str.ofString "node") _) _ _ _) | (with_reducible show wpAny _ _ (storeName _ (Str.ofString "below") _) _ _ _) | (with_reducible show wpAny _ _ (eval (Expr.Name (Str.ofString "layers") _) _) _ _ _) | (with_reducible show wpAny _ _ (eval (Expr.Name (Str.ofString "view") _) _) _ _ _) | (with_reducible show wpAny _ _ (eval (Expr.Name (Str.ofString "node") _) _) _ _ _) | (with_reducible show wpAny _ _ (eval (Expr.Name (Str.ofString "below") _) _) _ _ _) | (with_reducible show wpAny _ _ (pyIter _) _ _ _) | (with_reducible show wpAny _ _ (binaryOp Operator.Add (Value.ref _) (Value.ref _)) _ _ _))); walk1)
      refine kba_turn (value' := Expr.Name (Str.ofString "_") ⟨0, 0, 0, 0⟩) (fun _ => by with_unfolding_all rfl) ?_
      refine kdf_item (Di.tab (F7.keep _ _ hdi)) (kdfHas_iff.mpr ⟨_, hkc⟩) fun tm => ?_
      rw [kdfLook_mem Wi.nodup hkc]
      have hoI2 : ∃ oI2, (I2, oI2) ∈ own := by
        obtain ⟨⟨oI2, e, _⟩, _⟩ := hst6
        exact ⟨oI2, hfull I2 (by first | ((repeat first | exact List.mem_cons_self .. | refine List.mem_cons_of_mem _ ?_); done) | ((repeat first | exact List.forall_mem_nil _ | refine List.forall_mem_cons.2 ⟨by first | ((repeat first | exact List.mem_cons_self .. | refine List.mem_cons_of_mem _ ?_); done) | simp, ?_⟩); done) | simp) hgI oI2 e⟩
      have hVI2 : V ≠ I2 := fun q => hoff (V, vo) (by first | ((repeat first | exact List.mem_cons_self .. | refine List.mem_cons_of_mem _ ?_); done) | ((repeat first | exact List.forall_mem_nil _ | refine List.forall_mem_cons.2 ⟨by first | ((repeat first | exact List.mem_cons_self .. | refine List.mem_cons_of_mem _ ?_); done) | simp, ?_⟩); done) | simp) (by rw [q]; simp)
      have hoV : ∀ p ∈ own, p.1 ≠ V := fun p hp q => by
        have : p.1 ∈ [I2, d (2 - i)] := hown p hp
        simp only [List.mem_cons, List.not_mem_nil, or_false] at this
        rcases this with e | e
        · exact hVI2 (q.symm.trans e)
        · have := (N7 (V, vo) (by first | ((repeat first | exact List.mem_cons_self .. | refine List.mem_cons_of_mem _ ?_); done) | ((repeat first | exact List.forall_mem_nil _ | refine List.forall_mem_cons.2 ⟨by first | ((repeat first | exact List.mem_cons_self .. | refine List.mem_cons_of_mem _ ?_); done) | simp, ?_⟩); done) | simp)).2.2
          dsimp only at this
          rw [← q, e, hdi] at this; cases this
      have fin : ∀ (h' : Heap) (tk' : Nat) (m' : Str → Option Value) (ob' on' ov' : Obj) (cb' cn' : Option Value) (V' : Addr) (vo' : Obj) (cv' : List (Int × Int)), Fr g L h' m' → m' (Str.ofString "place") = some (.int ((2 - i : Nat) : Int) tp) →
          News g L h' ((L + 1 + 1 + 1 + 1, ob') :: (L + 1 + 1 + 1, on') :: (L + 1 + 1, ov') :: (L + 1, ol) :: (V', vo') :: (Tp, oT) :: (I, oI) :: own) → ob'.data = .cell cb' → on'.data = .cell cn' → ov'.data = .cell (some (.ref V')) → Off4 L V' → V' ≠ I2 → (∀ p ∈ [(Tp, oT), (I, oI)], p.1 ≠ V') → DObj prog w V' vo' cv' → cv'.length ≤ cv.length + 1 →
          ViewOk cv' (laidP ((2 - i : Nat) : Int) (((c (2 - i)).take i').foldl (laidP ((2 - i : Nat) : Int)) (vwRun c i)) (k, mode)) →
          LoopStepU g L [I2] own (fun m nx => Has m [(Str.ofString "place", .int ((2 - i : Nat) : Int) tp)] ∧ VwAt prog w L ol (100 * i + (i' + 1)) (((c (2 - i)).take (i' + 1)).foldl (laidP ((2 - i : Nat) : Int)) (vwRun c i)) [(Tp, oT), (I, oI)] nx) ⟨h6, s.gens, s.drawn, tk6, s.os⟩ .next ⟨h', s.gens, s.drawn, tk', s.os⟩ := by
        intro h' tk' m' ob' on' ov' cb' cn' V' vo' cv' F' hm' N' e1 e2 e3 e4 e5 e6 e7 e8 e9
        refine ⟨rfl, h', tk', m', (L + 1 + 1 + 1 + 1, ob') :: (L + 1 + 1 + 1, on') :: (L + 1 + 1, ov') :: (L + 1, ol) :: (V', vo') :: [(Tp, oT), (I, oI)], rfl, F', ?_, ?_, ⟨hm', trivial⟩, ob', on', ov', cb', cn', V', vo', cv', rfl, e1, e2, e3, e4, e6, e7, by (first | decide | with_reducible assumption | with_reducible exact Nat.le_trans (by assumption) (by decide) | with_reducible exact Nat.lt_of_lt_of_le (Nat.add_lt_add_right (by assumption) _) (by decide) | with_reducible exact Int.natCast_nonneg _ | omega), ?_⟩
        · refine News.sub N' ?_
          intro p hp
          first | (revert p; (repeat first | exact List.forall_mem_nil _ | refine List.forall_mem_cons.2 ⟨by first | ((repeat first | exact List.mem_cons_self .. | refine List.mem_cons_of_mem _ ?_); done) | simp, ?_⟩); done) | (simp only [List.mem_cons, List.mem_append, List.not_mem_nil, or_false] at hp ⊢; rcases hp with hp | hp | hp | hp | hp | hp | hp | hp <;> simp [hp])
        · intro p hp q
          have q' := List.mem_singleton.mp q
          simp only [List.mem_cons, List.not_mem_nil, or_false] at hp
          rcases hp with rfl | rfl | rfl | rfl | rfl | rfl | rfl
          · exact offI2.2.2.2 q'.symm
          · exact offI2.2.2.1 q'.symm
          · exact offI2.2.1 q'.symm
          · exact offI2.1 q'.symm
          · exact e5 q'
          · exact hKI _ (by first | ((repeat first | exact List.mem_cons_self .. | refine List.mem_cons_of_mem _ ?_); done) | ((repeat first | exact List.forall_mem_nil _ | refine List.forall_mem_cons.2 ⟨by first | ((repeat first | exact List.mem_cons_self .. | refine List.mem_cons_of_mem _ ?_); done) | simp, ?_⟩); done) | simp) q'
          · exact hKI _ (by first | ((repeat first | exact List.mem_cons_self .. | refine List.mem_cons_of_mem _ ?_); done) | ((repeat first | exact List.forall_mem_nil _ | refine List.forall_mem_cons.2 ⟨by first | ((repeat first | exact List.mem_cons_self .. | refine List.mem_cons_of_mem _ ?_); done) | simp, ?_⟩); done) | simp) q'
        · rw [List.take_add_one, hcm, Option.toList_some, List.foldl_append]
          exact e9
      repeat' ((try dsimp only [WPost, Turn]); (fail_if_success (first | (with_reducible show wpAny _ _ (exec (Stmt.For _ _ _ _ _) _) _ _ _) | (with_reducible show wpAny _ _ (call (Value.ref _) _ _) _ _ _) | (with_reducible show wpAny _ _ (eval (Expr.ListComp _ _ _ _) _) _ _ _) | (with_reducible show wpAny _ _ (eval (Expr.DictComp _ _ _ _ _) _) _ _ _) | (with_reducible show wpAny _ _ (exec (Stmt.Assign _ (Expr.ListComp _ _ _ _) _) _) _ _ _) | (with_reducible show wpAny _ _ (exec (Stmt.Assign _ (Expr.DictComp _ _ _ _ _) _) _) _ _ _) | (with_reducible show wpAny _ _ (subscriptTail _ _ (Value.ref _) _) _ _ _) | (with_reducible show wpAny _ _ (compareOp CmpOp.NotIn _ _) _ _ _) | (with_reducible show wpAny _ _ (compareOp CmpOp.In _ _) _ _ _) | (with_reducible show wpAny _ _ (setItem _ _ _) _ _ _) | (with_reducible show wpAny _ _ (storeName _ (Str.ofString "view") _) _ _ _) | (with_reducible show wpAny _ _ (storeName _ (Str.ofString "node") _) _ _ _) | (with_reducible show wpAny _ _ (storeName _ (Str.ofString "below") _) _ _ _) | (with_reducible show wpAny _ _ (eval (Expr.Name (Str.ofString "layers") _) _) _ _ _) | (with_reducible show wpAny _ _ (eval (Expr.Name (Str.ofString "view") _) _) _ _ _) | (with_reducible show wpAny _ _ (eval (Expr.Name (Str.ofString "node") _) _) _ _ _) | (with_reducible show wpAny _ _ (eval (Expr.Name (Str.ofString "below") _) _) _ _ _) | (with_reducible show wpAny _ _ (pyIter _) _ _ _) | (with_reducible show wpAny _ _ (binaryOp Operator.Add (Value.ref _) (Value.ref _)) _ _ _))); walk1)
      · rename mode.fdiv 4096 ≠ 4 => hm4
        rename Fr g L _ _ => F
        rename News g L _ _ => N
        refine nameX_C N rfl (show (L + 1 + 1 + 1, on2) ∈ _ from by first | ((repeat first | exact List.mem_cons_self .. | refine List.mem_cons_of_mem _ ?_); done) | ((repeat first | exact List.forall_mem_nil _ | refine List.forall_mem_cons.2 ⟨by first | ((repeat first | exact List.mem_cons_self .. | refine List.mem_cons_of_mem _ ?_); done) | simp, ?_⟩); done) | simp) hon2 ?_
        repeat ((try dsimp only [WPost, Turn]); (fail_if_success (first | (with_reducible show wpAny _ _ (exec (Stmt.For _ _ _ _ _) _) _ _ _) | (with_reducible show wpAny _ _ (call (Value.ref _) _ _) _ _ _) | (with_reducible show wpAny _ _ (eval (Expr.ListComp _ _ _ _) _) _ _ _) | (with_reducible show wpAny _ _ (eval (Expr.DictComp _ _ _ _ _) _) _ _ _) | (with_reducible show wpAny _ _ (exec (Stmt.Assign _ (Expr.ListComp _ _ _ _) _) _) _ _ _) | (with_reducible show wpAny _ _ (exec (Stmt.Assign _ (Expr.DictComp _ _ _ _ _) _) _) _ _ _) | (with_reducible show wpAny _ _ (subscriptTail _ _ (Value.ref _) _) _ _ _) | (with_reducible show wpAny _ _ (compareOp CmpOp.NotIn _ _) _ _ _) | (with_reducible show wpAny _ _ (compareOp CmpOp.In _ _) _ _ _) | (with_reducible show wpAny _ _ (setItem _ _ _) _ _ _) | (with_reducible show wpAny _ _ (storeName _ (Str.ofString "view") _) _ _ _) | (with_reducible show wpAny _ _ (storeName _ (Str.ofString "node") _) _ _ _) | (with_reducible show wpAny _ _ (storeName _ (Str.ofString "below") _) _ _ _) | (with_reducible show wpAny _ _ (eval (Expr.Name (Str.ofString "layers") _) _) _ _ _) | (with_reducible show wpAny _ _ (eval (Expr.Name (Str.ofString "view") _) _) _ _ _) | (with_reducible show wpAny _ _ (eval (Expr.Name (Str.ofString "node") _) _) _ _ _) | (with_reducible show wpAny _ _ (eval (Expr.Name (Str.ofString "below") _) _) _ _ _) | (with_reducible show wpAny _ _ (pyIter _) _ _ _) | (with_reducible show wpAny _ _ (binaryOp Operator.Add (Value.ref _) (Value.ref _)) _ _ _))); walk1)
        refine nameX_C N rfl (show (L + 1 + 1 + 1, on2) ∈ _ from by first | ((repeat first | exact List.mem_cons_self .. | refine List.mem_cons_of_mem _ ?_); done) | ((repeat first | exact List.forall_mem_nil _ | refine List.forall_mem_cons.2 ⟨by first | ((repeat first | exact List.mem_cons_self .. | refine List.mem_cons_of_mem _ ?_); done) | simp, ?_⟩); done) | simp) hon2 ?_
        repeat ((try dsimp only [WPost, Turn]); (fail_if_success (first | (with_reducible show wpAny _ _ (exec (Stmt.For _ _ _ _ _) _) _ _ _) | (with_reducible show wpAny _ _ (call (Value.ref _) _ _) _ _ _) | (with_reducible show wpAny _ _ (eval (Expr.ListComp _ _ _ _) _) _ _ _) | (with_reducible show wpAny _ _ (eval (Expr.DictComp _ _ _ _ _) _) _ _ _) | (with_reducible show wpAny _ _ (exec (Stmt.Assign _ (Expr.ListComp _ _ _ _) _) _) _ _ _) | (with_reducible show wpAny _ _ (exec (Stmt.Assign _ (Expr.DictComp _ _ _ _ _) _) _) _ _ _) | (with_reducible show wpAny _ _ (subscriptTail _ _ (Value.ref _) _) _ _ _) | (with_reducible show wpAny _ _ (compareOp CmpOp.NotIn _ _) _ _ _) | (with_reducible show wpAny _ _ (compareOp CmpOp.In _ _) _ _ _) | (with_reducible show wpAny _ _ (setItem _ _ _) _ _ _) | (with_reducible show wpAny _ _ (storeName _ (Str.ofString "view") _) _ _ _) | (with_reducible show wpAny _ _ (storeName _ (Str.ofString "node") _) _ _ _) | (with_reducible show wpAny _ _ (storeName _ (Str.ofString "below") _) _ _ _) | (with_reducible show wpAny _ _ (eval (Expr.Name (Str.ofString "layers") _) _) _ _ _) | (with_reducible show wpAny _ _ (eval (Expr.Name (Str.ofString "view") _) _) _ _ _) | (with_reducible show wpAny _ _ (eval (Expr.Name (Str.ofString "node") _) _) _ _ _) | (with_reducible show wpAny _ _ (eval (Expr.Name (Str.ofString "below") _) _) _ _ _) | (with_reducible show wpAny _ _ (pyIter _) _ _ _) | (with_reducible show wpAny _ _ (binaryOp Operator.Add (Value.ref _) (Value.ref _)) _ _ _))); walk1)
        refine nameX_C N rfl (show (L + 1 + 1 + 1, on2) ∈ _ from by first | ((repeat first | exact List.mem_cons_self .. | refine List.mem_cons_of_mem _ ?_); done) | ((repeat first | exact List.forall_mem_nil _ | refine List.forall_mem_cons.2 ⟨by first | ((repeat first | exact List.mem_cons_self .. | refine List.mem_cons_of_mem _ ?_); done) | simp, ?_⟩); done) | simp) hon2 ?_
        repeat ((try dsimp only [WPost, Turn]); (fail_if_success (first | (with_reducible show wpAny _ _ (exec (Stmt.For _ _ _ _ _) _) _ _ _) | (with_reducible show wpAny _ _ (call (Value.ref _) _ _) _ _ _) | (with_reducible show wpAny _ _ (eval (Expr.ListComp _ _ _ _) _) _ _ _) | (with_reducible show wpAny _ _ (eval (Expr.DictComp _ _ _ _ _) _) _ _ _) | (with_reducible show wpAny _ _ (exec (Stmt.Assign _ (Expr.ListComp _ _ _ _) _) _) _ _ _) | (with_reducible show wpAny _ _ (exec (Stmt.Assign _ (Expr.DictComp _ _ _ _ _) _) _) _ _ _) | (with_reducible show wpAny _ _ (subscriptTail _ _ (Value.ref _) _) _ _ _) | (with_reducible show wpAny _ _ (compareOp CmpOp.NotIn _ _) _ _ _) | (with_reducible show wpAny _ _ (compareOp CmpOp.In _ _) _ _ _) | (with_reducible show wpAny _ _ (setItem _ _ _) _ _ _) | (with_reducible show wpAny _ _ (storeName _ (Str.ofString "view") _) _ _ _) | (with_reducible show wpAny _ _ (storeName _ (Str.ofString "node") _) _ _ _) | (with_reducible show wpAny _ _ (storeName _ (Str.ofString "below") _) _ _ _) | (with_reducible show wpAny _ _ (eval (Expr.Name (Str.ofString "layers") _) _) _ _ _) | (with_reducible show wpAny _ _ (eval (Expr.Name (Str.ofString "view") _) _) _ _ _) | (with_reducible show wpAny _ _ (eval (Expr.Name (Str.ofString "node") _) _) _ _ _) | (with_reducible show wpAny _ _ (eval (Expr.Name (Str.ofString "below") _) _) _ _ _) | (with_reducible show wpAny _ _ (pyIter _) _ _ _) | (with_reducible show wpAny _ _ (binaryOp Operator.Add (Value.ref _) (Value.ref _)) _ _ _))); walk1)
        rename Fr g L _ _ => F
        rename News g L _ _ => N
        rename _ ∧ _ ∧ _ ∧ _ ∧ _ ∧ _ ∧ _ ∧ AllLt _ _ => hltA
        rename_i la h8
        have neA := ne_fresh N (show h8.get? h8.objs.size = none from by
          cases q : h8.get? h8.objs.size with
          | none => rfl
          | some o => exact absurd (Heap.lt_size q) (Nat.lt_irrefl _))
        refine ListComp_tup F (cl := [("node", L + 1 + 1 + 1)]) rfl (by decide) rfl (by decide) rfl ?_
        repeat ((try dsimp only [WPost, Turn]); (fail_if_success (first | (with_reducible show wpAny _ _ (exec (Stmt.For _ _ _ _ _) _) _ _ _) | (with_reducible show wpAny _ _ (call (Value.ref _) _ _) _ _ _) | (with_reducible show wpAny _ _ (eval (Expr.ListComp _ _ _ _) _) _ _ _) | (with_reducible show wpAny _ _ (eval (Expr.DictComp _ _ _ _ _) _) _ _ _) | (with_reducible show wpAny _ _ (exec (Stmt.Assign _ (Expr.ListComp _ _ _ _) _) _) _ _ _) | (with_reducible show wpAny _ _ (exec (Stmt.Assign _ (Expr.DictComp _ _ _ _ _) _) _) _ _ _) | (with_reducible show wpAny _ _ (subscriptTail _ _ (Value.ref _) _) _ _ _) | (with_reducible show wpAny _ _ (compareOp CmpOp.NotIn _ _) _ _ _) | (with_reducible show wpAny _ _ (compareOp CmpOp.In _ _) _ _ _) | (with_reducible show wpAny _ _ (setItem _ _ _) _ _ _) | (with_reducible show wpAny _ _ (storeName _ (Str.ofString "view") _) _ _ _) | (with_reducible show wpAny _ _ (storeName _ (Str.ofString "node") _) _ _ _) | (with_reducible show wpAny _ _ (storeName _ (Str.ofString "below") _) _ _ _) | (with_reducible show wpAny _ _ (eval (Expr.Name (Str.ofString "layers") _) _) _ _ _) | (with_reducible show wpAny _ _ (eval (Expr.Name (Str.ofString "view") _) _) _ _ _) | (with_reducible show wpAny _ _ (eval (Expr.Name (Str.ofString "node") _) _) _ _ _) | (with_reducible show wpAny _ _ (eval (Expr.Name (Str.ofString "below") _) _) _ _ _) | (with_reducible show wpAny _ _ (pyIter _) _ _ _) | (with_reducible show wpAny _ _ (binaryOp Operator.Add (Value.ref _) (Value.ref _)) _ _ _))); walk1)
        rename Fr g L _ _ => F
        rename News g L _ _ => N
        dsimp only at N neA
        generalize h8.objs.size = Tq at N neA
        refine ⟨_, #[.int 3 _, .int 4 _, .int 5 _, .int 6 _], _, rfl, by exact hA, F, N, ⟨_, List.mem_cons_self .., rfl, _, rfl⟩, by simp [PySem.sizeLine_eq], fun h9 => ?_⟩
        have hIa : IntsAre [.int k tk7, .int (2 * k + 1) (tk + 1 + 1 + 1), .int (2 * k + 2) (tk + 1 + 1 + 1 + 1 + 1 + 1 + 1)] [k, 2 * k + 1, 2 * k + 2] := .cons _ _ (.cons _ _ (.cons _ _ .nil))
        refine compRest_inv (fun j ys nx => nx = (Tq, ({ cls := .type "tuple", data := .seq #[.int 3 (tk + 1 + 1 + 1 + 1 + 1 + 1 + 1 + 1), .int 4 (tk + 1 + 1 + 1 + 1 + 1 + 1 + 1 + 1 + 1), .int 5 (tk + 1 + 1 + 1 + 1 + 1 + 1 + 1 + 1 + 1 + 1), .int 6 (tk + 1 + 1 + 1 + 1 + 1 + 1 + 1 + 1 + 1 + 1 + 1)] } : Obj)) :: (la, listOf #[.int k tk7, .int (2 * k + 1) (tk + 1 + 1 + 1), .int (2 * k + 2) (tk + 1 + 1 + 1 + 1 + 1 + 1 + 1)] 0) :: (L + 1 + 1 + 1 + 1, ob) :: (L + 1 + 1 + 1, on2) :: (L + 1 + 1, ov) :: (L + 1, ol) :: (V, vo) :: (Tp, oT) :: (I, oI) :: own ∧ IntsAre ys (row4 k j)) ⟨rfl, .nil⟩ ?_ ?_
        · clear F N
          rintro j ys nx v I5 oI5 C oC D' m₃ h tk5 E' hj ⟨rfl, hys⟩ hP hns hx F N off ne
          obtain ⟨hj4, tj, rfl⟩ : j < 4 ∧ ∃ t, v = .int (3 + (j : Int)) t := by
            match j, hP with
            | 0, hP => exact ⟨by (first | decide | with_reducible assumption | with_reducible exact Nat.le_trans (by assumption) (by decide) | with_reducible exact Nat.lt_of_lt_of_le (Nat.add_lt_add_right (by assumption) _) (by decide) | with_reducible exact Int.natCast_nonneg _ | omega), _, (Option.some.inj hP).symm⟩
            | 1, hP => exact ⟨by (first | decide | with_reducible assumption | with_reducible exact Nat.le_trans (by assumption) (by decide) | with_reducible exact Nat.lt_of_lt_of_le (Nat.add_lt_add_right (by assumption) _) (by decide) | with_reducible exact Int.natCast_nonneg _ | omega), _, (Option.some.inj hP).symm⟩
            | 2, hP => exact ⟨by (first | decide | with_reducible assumption | with_reducible exact Nat.le_trans (by assumption) (by decide) | with_reducible exact Nat.lt_of_lt_of_le (Nat.add_lt_add_right (by assumption) _) (by decide) | with_reducible exact Int.natCast_nonneg _ | omega), _, (Option.some.inj hP).symm⟩
            | 3, hP => exact ⟨by (first | decide | with_reducible assumption | with_reducible exact Nat.le_trans (by assumption) (by decide) | with_reducible exact Nat.lt_of_lt_of_le (Nat.add_lt_add_right (by assumption) _) (by decide) | with_reducible exact Int.natCast_nonneg _ | omega), _, (Option.some.inj hP).symm⟩
          dsimp only at F N ⊢
          repeat ((try dsimp only [WPost, Turn]); (fail_if_success (first | (with_reducible show wpAny _ _ (exec (Stmt.For _ _ _ _ _) _) _ _ _) | (with_reducible show wpAny _ _ (call (Value.ref _) _ _) _ _ _) | (with_reducible show wpAny _ _ (eval (Expr.ListComp _ _ _ _) _) _ _ _) | (with_reducible show wpAny _ _ (eval (Expr.DictComp _ _ _ _ _) _) _ _ _) | (with_reducible show wpAny _ _ (exec (Stmt.Assign _ (Expr.ListComp _ _ _ _) _) _) _ _ _) | (with_reducible show wpAny _ _ (exec (Stmt.Assign _ (Expr.DictComp _ _ _ _ _) _) _) _ _ _) | (with_reducible show wpAny _ _ (subscriptTail _ _ (Value.ref _) _) _ _ _) | (with_reducible show wpAny _ _ (compareOp CmpOp.NotIn _ _) _ _ _) | (with_reducible show wpAny _ _ (compareOp CmpOp.In _ _) _ _ _) | (with_reducible show wpAny _ _ (setItem _ _ _) _ _ _) | (with_reducible show wpAny _ _ (storeName _ (Str.ofString "view") _) _ _ _) | (with_reducible show wpAny _ _ (storeName _ (Str.ofString "node") _) _ _ _) | (with_reducible show wpAny _ _ (storeName _ (Str.ofString "below") _) _ _ _) | (with_reducible show wpAny _ _ (eval (Expr.Name (Str.ofString "layers") _) _) _ _ _) | (with_reducible show wpAny _ _ (eval (Expr.Name (Str.ofString "view") _) _) _ _ _) | (with_reducible show wpAny _ _ (eval (Expr.Name (Str.ofString "node") _) _) _ _ _) | (with_reducible show wpAny _ _ (eval (Expr.Name (Str.ofString "below") _) _) _ _ _) | (with_reducible show wpAny _ _ (pyIter _) _ _ _) | (with_reducible show wpAny _ _ (binaryOp Operator.Add (Value.ref _) (Value.ref _)) _ _ _))); walk1)
          refine lcf_cell (c := L + 1 + 1 + 1) (o := on2) N rfl (by first | ((repeat first | exact List.mem_cons_self .. | refine List.mem_cons_of_mem _ ?_); done) | ((repeat first | exact List.forall_mem_nil _ | refine List.forall_mem_cons.2 ⟨by first | ((repeat first | exact List.mem_cons_self .. | refine List.mem_cons_of_mem _ ?_); done) | simp, ?_⟩); done) | simp) hon2 ?_ (by rfl) (by rfl)
          repeat ((try dsimp only [WPost, Turn]); (fail_if_success (first | (with_reducible show wpAny _ _ (exec (Stmt.For _ _ _ _ _) _) _ _ _) | (with_reducible show wpAny _ _ (call (Value.ref _) _ _) _ _ _) | (with_reducible show wpAny _ _ (eval (Expr.ListComp _ _ _ _) _) _ _ _) | (with_reducible show wpAny _ _ (eval (Expr.DictComp _ _ _ _ _) _) _ _ _) | (with_reducible show wpAny _ _ (exec (Stmt.Assign _ (Expr.ListComp _ _ _ _) _) _) _ _ _) | (with_reducible show wpAny _ _ (exec (Stmt.Assign _ (Expr.DictComp _ _ _ _ _) _) _) _ _ _) | (with_reducible show wpAny _ _ (subscriptTail _ _ (Value.ref _) _) _ _ _) | (with_reducible show wpAny _ _ (compareOp CmpOp.NotIn _ _) _ _ _) | (with_reducible show wpAny _ _ (compareOp CmpOp.In _ _) _ _ _) | (with_reducible show wpAny _ _ (setItem _ _ _) _ _ _) | (with_reducible show wpAny _ _ (storeName _ (Str.ofString "view") _) _ _ _) | (with_reducible show wpAny _ _ (storeName _ (Str.ofString "node") _) _ _ _) | (with_reducible show wpAny _ _ (storeName _ (Str.ofString "below") _) _ _ _) | (with_reducible show wpAny _ _ (eval (Expr.Name (Str.ofString "layers") _) _) _ _ _) | (with_reducible show wpAny _ _ (eval (Expr.Name (Str.ofString "view") _) _) _ _ _) | (with_reducible show wpAny _ _ (eval (Expr.Name (Str.ofString "node") _) _) _ _ _) | (with_reducible show wpAny _ _ (eval (Expr.Name (Str.ofString "below") _) _) _ _ _) | (with_reducible show wpAny _ _ (pyIter _) _ _ _) | (with_reducible show wpAny _ _ (binaryOp Operator.Add (Value.ref _) (Value.ref _)) _ _ _))); walk1)
          rename Fr g L _ _ => F
          rename News g L _ _ => N
          refine LCg.CompEnd.intro F N _ (by first | ((repeat first | exact List.mem_cons_self .. | refine List.mem_cons_of_mem _ ?_); done) | ((repeat first | exact List.forall_mem_nil _ | refine List.forall_mem_cons.2 ⟨by first | ((repeat first | exact List.mem_cons_self .. | refine List.mem_cons_of_mem _ ?_); done) | simp, ?_⟩); done) | simp) off ⟨_, List.mem_cons_self .., rfl, _, rfl⟩ ⟨rfl, ?_⟩
          rw [row4_succ]
          exact IntsAre.append hys (.cons _ _ .nil)
        · clear F N
          rintro ys nx ⟨rfl, hys⟩ D3 h10 tk10 F N off
          repeat ((try dsimp only [WPost, Turn]); (fail_if_success (first | (with_reducible show wpAny _ _ (exec (Stmt.For _ _ _ _ _) _) _ _ _) | (with_reducible show wpAny _ _ (call (Value.ref _) _ _) _ _ _) | (with_reducible show wpAny _ _ (eval (Expr.ListComp _ _ _ _) _) _ _ _) | (with_reducible show wpAny _ _ (eval (Expr.DictComp _ _ _ _ _) _) _ _ _) | (with_reducible show wpAny _ _ (exec (Stmt.Assign _ (Expr.ListComp _ _ _ _) _) _) _ _ _) | (with_reducible show wpAny _ _ (exec (Stmt.Assign _ (Expr.DictComp _ _ _ _ _) _) _) _ _ _) | (with_reducible show wpAny _ _ (subscriptTail _ _ (Value.ref _) _) _ _ _) | (with_reducible show wpAny _ _ (compareOp CmpOp.NotIn _ _) _ _ _) | (with_reducible show wpAny _ _ (compareOp CmpOp.In _ _) _ _ _) | (with_reducible show wpAny _ _ (setItem _ _ _) _ _ _) | (with_reducible show wpAny _ _ (storeName _ (Str.ofString "view") _) _ _ _) | (with_reducible show wpAny _ _ (storeName _ (Str.ofString "node") _) _ _ _) | (with_reducible show wpAny _ _ (storeName _ (Str.ofString "below") _) _ _ _) | (with_reducible show wpAny _ _ (eval (Expr.Name (Str.ofString "layers") _) _) _ _ _) | (with_reducible show wpAny _ _ (eval (Expr.Name (Str.ofString "view") _) _) _ _ _) | (with_reducible show wpAny _ _ (eval (Expr.Name (Str.ofString "node") _) _) _ _ _) | (with_reducible show wpAny _ _ (eval (Expr.Name (Str.ofString "below") _) _) _ _ _) | (with_reducible show wpAny _ _ (pyIter _) _ _ _) | (with_reducible show wpAny _ _ (binaryOp Operator.Add (Value.ref _) (Value.ref _)) _ _ _))); walk1)
          refine kmk_add_ints F N (News.isList N (show (la, listOf #[.int k tk7, .int (2 * k + 1) (tk + 1 + 1 + 1), .int (2 * k + 2) (tk + 1 + 1 + 1 + 1 + 1 + 1 + 1)] 0) ∈ _ from by first | ((repeat first | exact List.mem_cons_self .. | refine List.mem_cons_of_mem _ ?_); done) | ((repeat first | exact List.forall_mem_nil _ | refine List.forall_mem_cons.2 ⟨by first | ((repeat first | exact List.mem_cons_self .. | refine List.mem_cons_of_mem _ ?_); done) | simp, ?_⟩); done) | simp)) (News.isList N (List.mem_cons_self ..)) hIa hys ?_ (by rw [row4_len]; simp [PySem.sizeLine_eq])
          intro D5 us h11 F5 N5 l5 hI5
          replace hI5 : IntsAre us (belowOf k) := by rw [← row4_four]; exact hI5
          have off5 : Off4 L D5 := ⟨Nat.ne_of_gt (l5 (L + 1, ol) (by first | ((repeat first | exact List.mem_cons_self .. | refine List.mem_cons_of_mem _ ?_); done) | ((repeat first | exact List.forall_mem_nil _ | refine List.forall_mem_cons.2 ⟨by first | ((repeat first | exact List.mem_cons_self .. | refine List.mem_cons_of_mem _ ?_); done) | simp, ?_⟩); done) | simp)), Nat.ne_of_gt (l5 (L + 1 + 1, ov) (by first | ((repeat first | exact List.mem_cons_self .. | refine List.mem_cons_of_mem _ ?_); done) | ((repeat first | exact List.forall_mem_nil _ | refine List.forall_mem_cons.2 ⟨by first | ((repeat first | exact List.mem_cons_self .. | refine List.mem_cons_of_mem _ ?_); done) | simp, ?_⟩); done) | simp)), Nat.ne_of_gt (l5 (L + 1 + 1 + 1, on2) (by first | ((repeat first | exact List.mem_cons_self .. | refine List.mem_cons_of_mem _ ?_); done) | ((repeat first | exact List.forall_mem_nil _ | refine List.forall_mem_cons.2 ⟨by first | ((repeat first | exact List.mem_cons_self .. | refine List.mem_cons_of_mem _ ?_); done) | simp, ?_⟩); done) | simp)), Nat.ne_of_gt (l5 (L + 1 + 1 + 1 + 1, ob) (by first | ((repeat first | exact List.mem_cons_self .. | refine List.mem_cons_of_mem _ ?_); done) | ((repeat first | exact List.forall_mem_nil _ | refine List.forall_mem_cons.2 ⟨by first | ((repeat first | exact List.mem_cons_self .. | refine List.mem_cons_of_mem _ ?_); done) | simp, ?_⟩); done) | simp))⟩
          have N6 := News.sub (news' := (L + 1 + 1 + 1 + 1, ob) :: (L + 1 + 1 + 1, on2) :: (L + 1 + 1, ov) :: (L + 1, ol) :: (V, vo) :: (Tp, oT) :: (I, oI) :: (D5, listOf us.toArray 0) :: own) N5 (by
            intro p hp
            first | (revert p; (repeat first | exact List.forall_mem_nil _ | refine List.forall_mem_cons.2 ⟨by first | ((repeat first | exact List.mem_cons_self .. | refine List.mem_cons_of_mem _ ?_); done) | simp, ?_⟩); done) | (simp only [List.mem_cons] at hp ⊢; rcases hp with hp | hp | hp | hp | hp | hp | hp | hp | hp <;> simp [hp]))
          clear N5 N F off l5
          refine storeX_C F5 N6 rfl (cellU4 (Far.cons (Far.cons (Far.cons (Far.cons offo off5) offI) offT) offV)) hob ?_
          intro h12 ob2 F7 N7 hob2
          clear F5 N6
          dsimp only at N7 ⊢
          repeat ((try dsimp only [WPost, Turn]); (fail_if_success (first | (with_reducible show wpAny _ _ (exec (Stmt.For _ _ _ _ _) _) _ _ _) | (with_reducible show wpAny _ _ (call (Value.ref _) _ _) _ _ _) | (with_reducible show wpAny _ _ (eval (Expr.ListComp _ _ _ _) _) _ _ _) | (with_reducible show wpAny _ _ (eval (Expr.DictComp _ _ _ _ _) _) _ _ _) | (with_reducible show wpAny _ _ (exec (Stmt.Assign _ (Expr.ListComp _ _ _ _) _) _) _ _ _) | (with_reducible show wpAny _ _ (exec (Stmt.Assign _ (Expr.DictComp _ _ _ _ _) _) _) _ _ _) | (with_reducible show wpAny _ _ (subscriptTail _ _ (Value.ref _) _) _ _ _) | (with_reducible show wpAny _ _ (compareOp CmpOp.NotIn _ _) _ _ _) | (with_reducible show wpAny _ _ (compareOp CmpOp.In _ _) _ _ _) | (with_reducible show wpAny _ _ (setItem _ _ _) _ _ _) | (with_reducible show wpAny _ _ (storeName _ (Str.ofString "view") _) _ _ _) | (with_reducible show wpAny _ _ (storeName _ (Str.ofString "node") _) _ _ _) | (with_reducible show wpAny _ _ (storeName _ (Str.ofString "below") _) _ _ _) | (with_reducible show wpAny _ _ (eval (Expr.Name (Str.ofString "layers") _) _) _ _ _) | (with_reducible show wpAny _ _ (eval (Expr.Name (Str.ofString "view") _) _) _ _ _) | (with_reducible show wpAny _ _ (eval (Expr.Name (Str.ofString "node") _) _) _ _ _) | (with_reducible show wpAny _ _ (eval (Expr.Name (Str.ofString "below") _) _) _ _ _) | (with_reducible show wpAny _ _ (pyIter _) _ _ _) | (with_reducible show wpAny _ _ (binaryOp Operator.Add (Value.ref _) (Value.ref _)) _ _ _))); walk1)
          rename Fr g L _ _ => F
          rename News g L _ _ => N
          obtain ⟨loV', kvsV, ⟨esV, epV, hv1, hv2, hv3, hv4, hv5⟩, hflV⟩ := id DV
          obtain ⟨hkvl, hkva⟩ := flat_at hflV
          refine wpAny_Assign_Name ?_ (by rfl)
          refine DictComp_far (PySem.intKind prog w) (pzOf k) (fun v k => (PySem.intKind prog w).is k v = true) (fun v y => ∃ k t t', v = Value.int k t ∧ y = .int (kdfLook cv k 0) t') (by with_unfolding_all rfl) (by decide) rfl (by decide) rfl ?_
          refine nameX_C N rfl (show (L + 1 + 1, ov) ∈ _ from by first | ((repeat first | exact List.mem_cons_self .. | refine List.mem_cons_of_mem _ ?_); done) | ((repeat first | exact List.forall_mem_nil _ | refine List.forall_mem_cons.2 ⟨by first | ((repeat first | exact List.mem_cons_self .. | refine List.mem_cons_of_mem _ ?_); done) | simp, ?_⟩); done) | simp) hov ?_
          have zV := N (V, vo) (by first | ((repeat first | exact List.mem_cons_self .. | refine List.mem_cons_of_mem _ ?_); done) | ((repeat first | exact List.forall_mem_nil _ | refine List.forall_mem_cons.2 ⟨by first | ((repeat first | exact List.mem_cons_self .. | refine List.mem_cons_of_mem _ ?_); done) | simp, ?_⟩); done) | simp)
          have zVs := Heap.lt_size zV.1
          refine wpAny_pyIter_dict loV' ⟨_, esV, zV.1, hv1, hv2, hv3, hv4, hv5⟩ ?_
          refine ⟨_, _, _, _, _, _, rfl, Walks.dictKeys (knd := PySem.intKind prog w) (by exact hA) _ _ (Nat.ne_of_lt zVs) kvsV epV, by rw [PySem.sizeLine_eq]; (first | decide | with_reducible assumption | with_reducible exact Nat.le_trans (by assumption) (by decide) | with_reducible exact Nat.lt_of_lt_of_le (Nat.add_lt_add_right (by assumption) _) (by decide) | with_reducible exact Int.natCast_nonneg _ | omega), ⟨⟨_, Heap.get?_push_size _ rfl, rfl, rfl⟩, ⟨_, esV, Heap.get?_push_of_some _ zV.1, hv1, hv2, hv3, hv4, hv5⟩⟩, ?_, ?_, ?_⟩
          · intro b hb
            show b < (Heap.push _ _).objs.size
            rw [Heap.size_push]
            rcases List.mem_cons.mp hb with rfl | hb
            · exact Nat.lt_succ_self _
            · rw [List.mem_singleton.mp hb]; exact Nat.lt_succ_of_lt zVs
          · have up : ∀ (s₃ : Shared) (it : Obj), (∀ b o, b ∉ [h12.objs.size] → (h12.push it).get? b = some o → s₃.heap.get? b = some o) → ∀ b o, h12.get? b = some o → s₃.heap.get? b = some o := fun s₃ it hk b o e =>
              hk b o (fun q => absurd (Heap.lt_size e) (by rw [List.mem_singleton.mp q]; exact Nat.lt_irrefl _)) (Heap.get?_push_of_some _ e)
            have zB := (N (L + 1 + 1 + 1 + 1, ob2) (by first | ((repeat first | exact List.mem_cons_self .. | refine List.mem_cons_of_mem _ ?_); done) | ((repeat first | exact List.forall_mem_nil _ | refine List.forall_mem_cons.2 ⟨by first | ((repeat first | exact List.mem_cons_self .. | refine List.mem_cons_of_mem _ ?_); done) | simp, ?_⟩); done) | simp)).1
            have zW := (N (L + 1 + 1, ov) (by first | ((repeat first | exact List.mem_cons_self .. | refine List.mem_cons_of_mem _ ?_); done) | ((repeat first | exact List.forall_mem_nil _ | refine List.forall_mem_cons.2 ⟨by first | ((repeat first | exact List.mem_cons_self .. | refine List.mem_cons_of_mem _ ?_); done) | simp, ?_⟩); done) | simp)).1
            have z5 := (N (D5, listOf us.toArray 0) (by first | ((repeat first | exact List.mem_cons_self .. | refine List.mem_cons_of_mem _ ?_); done) | ((repeat first | exact List.forall_mem_nil _ | refine List.forall_mem_cons.2 ⟨by first | ((repeat first | exact List.mem_cons_self .. | refine List.mem_cons_of_mem _ ?_); done) | simp, ?_⟩); done) | simp)).1
            constructor
            · rintro C j v s₃ m₃ E' ⟨kk, xx, hkx, hkv2⟩ hns hx hk
              obtain ⟨tv, rfl⟩ := Value.isInt_shape hkv2
              have up' := up s₃ _ hk
              refine wpAny_tests_one (wpAny_isTrue_Compare1 (cname_local hns hx (cname_cell rfl (up' _ _ zB) hob2 (notin_list_ints ⟨_, up' _ _ z5, rfl, _, rfl⟩ hI5 (wpAny_truthy_bool ⟨rfl, s₃.heap, s₃.toks, rfl, fun _ _ e => e⟩)) rfl rfl) rfl rfl))
            · rintro C j v s₃ m₃ E' ⟨kk, xx, hkx, hkv2⟩ hpz hns hx hk
              refine cname_local hns hx ⟨⟨kk, hkv2, hkv2⟩, s₃.heap, s₃.toks, rfl, fun _ _ e => e⟩ rfl rfl
            · rintro C j v s₃ m₃ E' ⟨kk, xx, hkx, hkv2⟩ hpz hns hx hk
              obtain ⟨tv, rfl⟩ := Value.isInt_shape hkv2
              have up' := up s₃ _ hk
              refine Subscript_ (cname_cell rfl (up' _ _ zW) hov (cname_local hns hx ?_ rfl rfl) rfl rfl)
              refine kdf_item (DV.tab (up' _ _ zV.1)) ((flat_has hflV kk).mpr ⟨_, _, hkx⟩) fun tw => ?_
              exact ⟨⟨kk, tv, tw, rfl, rfl⟩, s₃.heap, _, rfl, fun _ _ e => e⟩
          · rintro D h13 tk13 kvs' vs hDsz hDict hvl hvP hSt hkeep
            obtain ⟨oD, hoD, hdD⟩ := Heap.dictOf_iff.mp hDict
            obtain ⟨cv', hf', c1, c2, c3⟩ := stored_view hSt
            have keep : ∀ b o, h12.get? b = some o → h13.get? b = some o := fun b o e =>
              hkeep b o (fun q => absurd (Heap.lt_size e) (by rw [List.mem_singleton.mp q]; exact Nat.lt_irrefl _)) (Heap.get?_push_of_some _ e)
            have hD12 : @LT.lt Nat _ h12.objs.size D := by
              have : (Heap.push h12 _).objs.size ≤ D := hDsz
              rw [Heap.size_push] at this
              exact this
            have hDn : h12.get? D = none := by
              cases q : h12.get? D with
              | none => rfl
              | some o => exact absurd (Heap.lt_size q) (Nat.not_lt.mpr (Nat.le_of_lt hD12))
            have hlD : (D == sysModules) = false := by
              have := modules_low (T.nolimit.keeps F.keep)
              have : D ≠ sysModules := Nat.ne_of_gt (Nat.lt_trans this hD12)
              simpa using this
            have F13 := Fr.keeps' F (fun b o _ e => keep b o e)
            have N13 := News.born F N (fun b o _ e => keep b o e) hDn hoD
            have neD := ne_fresh N hDn
            have offD : Off4 L D := Off4.of neD
            have hDI2 : D ≠ I2 := fun q => by
              obtain ⟨oI2, hI2⟩ := hoI2
              exact neD (I2, oI2) (by simp [hI2]) q.symm
            have hDK : ∀ p ∈ [(Tp, oT), (I, oI)], p.1 ≠ D := fun p hp => neD p (by first | (revert p; (repeat first | exact List.forall_mem_nil _ | refine List.forall_mem_cons.2 ⟨by first | ((repeat first | exact List.mem_cons_self .. | refine List.mem_cons_of_mem _ ?_); done) | simp, ?_⟩); done) | (simp only [List.mem_cons, List.not_mem_nil, or_false] at hp ⊢; rcases hp with hp | hp <;> simp [hp]))
            have hcut : ViewOk cv' (cutV k mode (((c (2 - i)).take i').foldl (laidP ((2 - i : Nat) : Int)) (vwRun c i))) := cut_view hvw hm4 hflV hvl (fun j v hj => by
              obtain ⟨kk, xx, e1, e2⟩ := hvP j v hj
              obtain ⟨tv, rfl⟩ := Value.isInt_shape e2
              exact ⟨kk, xx, tv, e1, rfl⟩) c1 c2
            have hcvl : cv'.length ≤ cv.length := by
              have := List.length_filter_le (pzOf k) vs
              (first | decide | with_reducible assumption | with_reducible exact Nat.le_trans (by assumption) (by decide) | with_reducible exact Nat.lt_of_lt_of_le (Nat.add_lt_add_right (by assumption) _) (by decide) | with_reducible exact Int.natCast_nonneg _ | omega)
            have N14 := News.sub (news' := (L + 1 + 1 + 1 + 1, ob2) :: (L + 1 + 1 + 1, on2) :: (L + 1 + 1, ov) :: (L + 1, ol) :: (D, oD) :: (Tp, oT) :: (I, oI) :: own) N13 (by
              intro p hp
              first | (revert p; (repeat first | exact List.forall_mem_nil _ | refine List.forall_mem_cons.2 ⟨by first | ((repeat first | exact List.mem_cons_self .. | refine List.mem_cons_of_mem _ ?_); done) | simp, ?_⟩); done) | (simp only [List.mem_cons] at hp ⊢; rcases hp with hp | hp | hp | hp | hp | hp | hp | hp <;> simp [hp]))
            clear N13 F N
            refine storeX_C F13 N14 rfl (cellU2 (Far.cons (Far.cons (Far.cons offo offI) offT) offD)) hov ?_
            intro h15 ov2 F15 N15 hov2
            clear F13 N14
            dsimp only at N15 ⊢
            repeat' ((try dsimp only [WPost, Turn]); (fail_if_success (first | (with_reducible show wpAny _ _ (exec (Stmt.For _ _ _ _ _) _) _ _ _) | (with_reducible show wpAny _ _ (call (Value.ref _) _ _) _ _ _) | (with_reducible show wpAny _ _ (eval (Expr.ListComp _ _ _ _) _) _ _ _) | (with_reducible show wpAny _ _ (eval (Expr.DictComp _ _ _ _ _) _) _ _ _) | (with_reducible show wpAny _ _ (exec (Stmt.Assign _ (Expr.ListComp _ _ _ _) _) _) _ _ _) | (with_reducible show wpAny _ _ (exec (Stmt.Assign _ (Expr.DictComp _ _ _ _ _) _) _) _ _ _) | (with_reducible show wpAny _ _ (subscriptTail _ _ (Value.ref _) _) _ _ _) | (with_reducible show wpAny _ _ (compareOp CmpOp.NotIn _ _) _ _ _) | (with_reducible show wpAny _ _ (compareOp CmpOp.In _ _) _ _ _) | (with_reducible show wpAny _ _ (setItem _ _ _) _ _ _) | (with_reducible show wpAny _ _ (storeName _ (Str.ofString "view") _) _ _ _) | (with_reducible show wpAny _ _ (storeName _ (Str.ofString "node") _) _ _ _) | (with_reducible show wpAny _ _ (storeName _ (Str.ofString "below") _) _ _ _) | (with_reducible show wpAny _ _ (eval (Expr.Name (Str.ofString "layers") _) _) _ _ _) | (with_reducible show wpAny _ _ (eval (Expr.Name (Str.ofString "view") _) _) _ _ _) | (with_reducible show wpAny _ _ (eval (Expr.Name (Str.ofString "node") _) _) _ _ _) | (with_reducible show wpAny _ _ (eval (Expr.Name (Str.ofString "below") _) _) _ _ _) | (with_reducible show wpAny _ _ (pyIter _) _ _ _) | (with_reducible show wpAny _ _ (binaryOp Operator.Add (Value.ref _) (Value.ref _)) _ _ _))); walk1)
            · have hm2' : mode.fdiv 4096 ≠ 2 := by assumption
              rename Fr g L _ _ => F
              rename News g L _ _ => N
              refine nameX_C N rfl (show (L + 1 + 1, ov2) ∈ _ from by first | ((repeat first | exact List.mem_cons_self .. | refine List.mem_cons_of_mem _ ?_); done) | ((repeat first | exact List.forall_mem_nil _ | refine List.forall_mem_cons.2 ⟨by first | ((repeat first | exact List.mem_cons_self .. | refine List.mem_cons_of_mem _ ?_); done) | simp, ?_⟩); done) | simp) hov2 ?_
              repeat ((try dsimp only [WPost, Turn]); (fail_if_success (first | (with_reducible show wpAny _ _ (exec (Stmt.For _ _ _ _ _) _) _ _ _) | (with_reducible show wpAny _ _ (call (Value.ref _) _ _) _ _ _) | (with_reducible show wpAny _ _ (eval (Expr.ListComp _ _ _ _) _) _ _ _) | (with_reducible show wpAny _ _ (eval (Expr.DictComp _ _ _ _ _) _) _ _ _) | (with_reducible show wpAny _ _ (exec (Stmt.Assign _ (Expr.ListComp _ _ _ _) _) _) _ _ _) | (with_reducible show wpAny _ _ (exec (Stmt.Assign _ (Expr.DictComp _ _ _ _ _) _) _) _ _ _) | (with_reducible show wpAny _ _ (subscriptTail _ _ (Value.ref _) _) _ _ _) | (with_reducible show wpAny _ _ (compareOp CmpOp.NotIn _ _) _ _ _) | (with_reducible show wpAny _ _ (compareOp CmpOp.In _ _) _ _ _) | (with_reducible show wpAny _ _ (setItem _ _ _) _ _ _) | (with_reducible show wpAny _ _ (storeName _ (Str.ofString "view") _) _ _ _) | (with_reducible show wpAny _ _ (storeName _ (Str.ofString "node") _) _ _ _) | (with_reducible show wpAny _ _ (storeName _ (Str.ofString "below") _) _ _ _) | (with_reducible show wpAny _ _ (eval (Expr.Name (Str.ofString "layers") _) _) _ _ _) | (with_reducible show wpAny _ _ (eval (Expr.Name (Str.ofString "view") _) _) _ _ _) | (with_reducible show wpAny _ _ (eval (Expr.Name (Str.ofString "node") _) _) _ _ _) | (with_reducible show wpAny _ _ (eval (Expr.Name (Str.ofString "below") _) _) _ _ _) | (with_reducible show wpAny _ _ (pyIter _) _ _ _) | (with_reducible show wpAny _ _ (binaryOp Operator.Add (Value.ref _) (Value.ref _)) _ _ _))); walk1)
              refine nameX_C N rfl (show (L + 1 + 1 + 1, on2) ∈ _ from by first | ((repeat first | exact List.mem_cons_self .. | refine List.mem_cons_of_mem _ ?_); done) | ((repeat first | exact List.forall_mem_nil _ | refine List.forall_mem_cons.2 ⟨by first | ((repeat first | exact List.mem_cons_self .. | refine List.mem_cons_of_mem _ ?_); done) | simp, ?_⟩); done) | simp) hon2 ?_
              repeat ((try dsimp only [WPost, Turn]); (fail_if_success (first | (with_reducible show wpAny _ _ (exec (Stmt.For _ _ _ _ _) _) _ _ _) | (with_reducible show wpAny _ _ (call (Value.ref _) _ _) _ _ _) | (with_reducible show wpAny _ _ (eval (Expr.ListComp _ _ _ _) _) _ _ _) | (with_reducible show wpAny _ _ (eval (Expr.DictComp _ _ _ _ _) _) _ _ _) | (with_reducible show wpAny _ _ (exec (Stmt.Assign _ (Expr.ListComp _ _ _ _) _) _) _ _ _) | (with_reducible show wpAny _ _ (exec (Stmt.Assign _ (Expr.DictComp _ _ _ _ _) _) _) _ _ _) | (with_reducible show wpAny _ _ (subscriptTail _ _ (Value.ref _) _) _ _ _) | (with_reducible show wpAny _ _ (compareOp CmpOp.NotIn _ _) _ _ _) | (with_reducible show wpAny _ _ (compareOp CmpOp.In _ _) _ _ _) | (with_reducible show wpAny _ _ (setItem _ _ _) _ _ _) | (with_reducible show wpAny _ _ (storeName _ (Str.ofString "view") _) _ _ _) | (with_reducible show wpAny _ _ (storeName _ (Str.ofString "node") _) _ _ _) | (with_reducible show wpAny _ _ (storeName _ (Str.ofString "below") _) _ _ _) | (with_reducible show wpAny _ _ (eval (Expr.Name (Str.ofString "layers") _) _) _ _ _) | (with_reducible show wpAny _ _ (eval (Expr.Name (Str.ofString "view") _) _) _ _ _) | (with_reducible show wpAny _ _ (eval (Expr.Name (Str.ofString "node") _) _) _ _ _) | (with_reducible show wpAny _ _ (eval (Expr.Name (Str.ofString "below") _) _) _ _ _) | (with_reducible show wpAny _ _ (pyIter _) _ _ _) | (with_reducible show wpAny _ _ (binaryOp Operator.Add (Value.ref _) (Value.ref _)) _ _ _))); walk1)
              refine kdf_setItem F N (.tail offD.2.2.2.symm (.tail offD.2.2.1.symm (.tail offD.2.1.symm (.tail offD.1.symm (.head ?_))))) hdD hf' (by (first | decide | with_reducible assumption | with_reducible exact Nat.le_trans (by assumption) (by decide) | with_reducible exact Nat.lt_of_lt_of_le (Nat.add_lt_add_right (by assumption) _) (by decide) | with_reducible exact Int.natCast_nonneg _ | omega)) ?_
              · intro p hp
                exact neD p (by first | (revert p; (repeat first | exact List.forall_mem_nil _ | refine List.forall_mem_cons.2 ⟨by first | ((repeat first | exact List.mem_cons_self .. | refine List.mem_cons_of_mem _ ?_); done) | simp, ?_⟩); done) | (simp only [List.mem_cons] at hp ⊢; rcases hp with hp | hp | hp <;> simp [hp]))
              intro h16 vo2 kvs2 F16 N16 hkv2 hfl2
              clear F N
              dsimp only at N16 ⊢
              repeat ((try dsimp only [WPost, Turn]); (fail_if_success (first | (with_reducible show wpAny _ _ (exec (Stmt.For _ _ _ _ _) _) _ _ _) | (with_reducible show wpAny _ _ (call (Value.ref _) _ _) _ _ _) | (with_reducible show wpAny _ _ (eval (Expr.ListComp _ _ _ _) _) _ _ _) | (with_reducible show wpAny _ _ (eval (Expr.DictComp _ _ _ _ _) _) _ _ _) | (with_reducible show wpAny _ _ (exec (Stmt.Assign _ (Expr.ListComp _ _ _ _) _) _) _ _ _) | (with_reducible show wpAny _ _ (exec (Stmt.Assign _ (Expr.DictComp _ _ _ _ _) _) _) _ _ _) | (with_reducible show wpAny _ _ (subscriptTail _ _ (Value.ref _) _) _ _ _) | (with_reducible show wpAny _ _ (compareOp CmpOp.NotIn _ _) _ _ _) | (with_reducible show wpAny _ _ (compareOp CmpOp.In _ _) _ _ _) | (with_reducible show wpAny _ _ (setItem _ _ _) _ _ _) | (with_reducible show wpAny _ _ (storeName _ (Str.ofString "view") _) _ _ _) | (with_reducible show wpAny _ _ (storeName _ (Str.ofString "node") _) _ _ _) | (with_reducible show wpAny _ _ (storeName _ (Str.ofString "below") _) _ _ _) | (with_reducible show wpAny _ _ (eval (Expr.Name (Str.ofString "layers") _) _) _ _ _) | (with_reducible show wpAny _ _ (eval (Expr.Name (Str.ofString "view") _) _) _ _ _) | (with_reducible show wpAny _ _ (eval (Expr.Name (Str.ofString "node") _) _) _ _ _) | (with_reducible show wpAny _ _ (eval (Expr.Name (Str.ofString "below") _) _) _ _ _) | (with_reducible show wpAny _ _ (pyIter _) _ _ _) | (with_reducible show wpAny _ _ (binaryOp Operator.Add (Value.ref _) (Value.ref _)) _ _ _))); walk1)
              refine fin _ _ _ ob2 on2 ov2 _ _ D vo2 _ F16 rfl N16 hob2 hon2 hov2 offD hDI2 hDK ⟨hlD, _, hkv2, hfl2⟩ (Nat.le_trans (kdfPut_len _ _ _) (by (first | decide | with_reducible assumption | with_reducible exact Nat.le_trans (by assumption) (by decide) | with_reducible exact Nat.lt_of_lt_of_le (Nat.add_lt_add_right (by assumption) _) (by decide) | with_reducible exact Int.natCast_nonneg _ | omega))) ?_
              have := ViewOk.put hcut k ((2 - i : Nat) : Int)
              intro j
              rw [← this j]
              simp [laidP, hm2']
            · have hm2' : mode.fdiv 4096 = 2 := by assumption
              rename Fr g L _ _ => F
              rename News g L _ _ => N
              refine fin _ _ _ ob2 on2 ov2 _ _ D oD cv' F rfl N hob2 hon2 hov2 offD hDI2 hDK ⟨hlD, _, hdD, hf'⟩ (by (first | decide | with_reducible assumption | with_reducible exact Nat.le_trans (by assumption) (by decide) | with_reducible exact Nat.lt_of_lt_of_le (Nat.add_lt_add_right (by assumption) _) (by decide) | with_reducible exact Int.natCast_nonneg _ | omega)) ?_
              intro j
              rw [← hcut j]
              simp [laidP, hm2']
      · rename mode.fdiv 4096 = 4 => hm4
        rename mode.fdiv 4096 ≠ 2 => hm2
        rename Fr g L _ _ => F
        rename News g L _ _ => N
        refine nameX_C N rfl (show (L + 1 + 1, ov) ∈ _ from by first | ((repeat first | exact List.mem_cons_self .. | refine List.mem_cons_of_mem _ ?_); done) | ((repeat first | exact List.forall_mem_nil _ | refine List.forall_mem_cons.2 ⟨by first | ((repeat first | exact List.mem_cons_self .. | refine List.mem_cons_of_mem _ ?_); done) | simp, ?_⟩); done) | simp) hov ?_
        repeat ((try dsimp only [WPost, Turn]); (fail_if_success (first | (with_reducible show wpAny _ _ (exec (Stmt.For _ _ _ _ _) _) _ _ _) | (with_reducible show wpAny _ _ (call (Value.ref _) _ _) _ _ _) | (with_reducible show wpAny _ _ (eval (Expr.ListComp _ _ _ _) _) _ _ _) | (with_reducible show wpAny _ _ (eval (Expr.DictComp _ _ _ _ _) _) _ _ _) | (with_reducible show wpAny _ _ (exec (Stmt.Assign _ (Expr.ListComp _ _ _ _) _) _) _ _ _) | (with_reducible show wpAny _ _ (exec (Stmt.Assign _ (Expr.DictComp _ _ _ _ _) _) _) _ _ _) | (with_reducible show wpAny _ _ (subscriptTail _ _ (Value.ref _) _) _ _ _) | (with_reducible show wpAny _ _ (compareOp CmpOp.NotIn _ _) _ _ _) | (with_reducible show wpAny _ _ (compareOp CmpOp.In _ _) _ _ _) | (with_reducible show wpAny _ _ (setItem _ _ _) _ _ _) | (with_reducible show wpAny _ _ (storeName _ (Str.ofString "view") _) _ _ _) | (with_reducible show wpAny _ _ (storeName _ (Str.ofString "node") _) _ _ _) | (with_reducible show wpAny _ _ (storeName _ (Str.ofString "below") _) _ _ _) | (with_reducible show wpAny _ _ (eval (Expr.Name (Str.ofString "layers") _) _) _ _ _) | (with_reducible show wpAny _ _ (eval (Expr.Name (Str.ofString "view") _) _) _ _ _) | (with_reducible show wpAny _ _ (eval (Expr.Name (Str.ofString "node") _) _) _ _ _) | (with_reducible show wpAny _ _ (eval (Expr.Name (Str.ofString "below") _) _) _ _ _) | (with_reducible show wpAny _ _ (pyIter _) _ _ _) | (with_reducible show wpAny _ _ (binaryOp Operator.Add (Value.ref _) (Value.ref _)) _ _ _))); walk1)
        refine nameX_C N rfl (show (L + 1 + 1 + 1, on2) ∈ _ from by first | ((repeat first | exact List.mem_cons_self .. | refine List.mem_cons_of_mem _ ?_); done) | ((repeat first | exact List.forall_mem_nil _ | refine List.forall_mem_cons.2 ⟨by first | ((repeat first | exact List.mem_cons_self .. | refine List.mem_cons_of_mem _ ?_); done) | simp, ?_⟩); done) | simp) hon2 ?_
        repeat ((try dsimp only [WPost, Turn]); (fail_if_success (first | (with_reducible show wpAny _ _ (exec (Stmt.For _ _ _ _ _) _) _ _ _) | (with_reducible show wpAny _ _ (call (Value.ref _) _ _) _ _ _) | (with_reducible show wpAny _ _ (eval (Expr.ListComp _ _ _ _) _) _ _ _) | (with_reducible show wpAny _ _ (eval (Expr.DictComp _ _ _ _ _) _) _ _ _) | (with_reducible show wpAny _ _ (exec (Stmt.Assign _ (Expr.ListComp _ _ _ _) _) _) _ _ _) | (with_reducible show wpAny _ _ (exec (Stmt.Assign _ (Expr.DictComp _ _ _ _ _) _) _) _ _ _) | (with_reducible show wpAny _ _ (subscriptTail _ _ (Value.ref _) _) _ _ _) | (with_reducible show wpAny _ _ (compareOp CmpOp.NotIn _ _) _ _ _) | (with_reducible show wpAny _ _ (compareOp CmpOp.In _ _) _ _ _) | (with_reducible show wpAny _ _ (setItem _ _ _) _ _ _) | (with_reducible show wpAny _ _ (storeName _ (Str.ofString "view") _) _ _ _) | (with_reducible show wpAny _ _ (storeName _ (Str.ofString "node") _) _ _ _) | (with_reducible show wpAny _ _ (storeName _ (Str.ofString "below") _) _ _ _) | (with_reducible show wpAny _ _ (eval (Expr.Name (Str.ofString "layers") _) _) _ _ _) | (with_reducible show wpAny _ _ (eval (Expr.Name (Str.ofString "view") _) _) _ _ _) | (with_reducible show wpAny _ _ (eval (Expr.Name (Str.ofString "node") _) _) _ _ _) | (with_reducible show wpAny _ _ (eval (Expr.Name (Str.ofString "below") _) _) _ _ _) | (with_reducible show wpAny _ _ (pyIter _) _ _ _) | (with_reducible show wpAny _ _ (binaryOp Operator.Add (Value.ref _) (Value.ref _)) _ _ _))); walk1)
        obtain ⟨loV', kvsV, hkvV, hflV⟩ := id DV
        refine kdf_setItem F N (.tail offV.2.2.2.symm (.tail offV.2.2.1.symm (.tail offV.2.1.symm (.tail offV.1.symm (.head ?_))))) hkvV hflV (by (first | decide | with_reducible assumption | with_reducible exact Nat.le_trans (by assumption) (by decide) | with_reducible exact Nat.lt_of_lt_of_le (Nat.add_lt_add_right (by assumption) _) (by decide) | with_reducible exact Int.natCast_nonneg _ | omega)) ?_
        · intro p hp
          rcases List.mem_cons.mp hp with rfl | hp
          · exact hKV _ (by first | ((repeat first | exact List.mem_cons_self .. | refine List.mem_cons_of_mem _ ?_); done) | ((repeat first | exact List.forall_mem_nil _ | refine List.forall_mem_cons.2 ⟨by first | ((repeat first | exact List.mem_cons_self .. | refine List.mem_cons_of_mem _ ?_); done) | simp, ?_⟩); done) | simp)
          rcases List.mem_cons.mp hp with rfl | hp
          · exact hKV _ (by first | ((repeat first | exact List.mem_cons_self .. | refine List.mem_cons_of_mem _ ?_); done) | ((repeat first | exact List.forall_mem_nil _ | refine List.forall_mem_cons.2 ⟨by first | ((repeat first | exact List.mem_cons_self .. | refine List.mem_cons_of_mem _ ?_); done) | simp, ?_⟩); done) | simp)
          · exact hoV p hp
        intro h8 vo2 kvs2 F8 N8 hkv2 hfl2
        clear F N
        dsimp only at N8 ⊢
        repeat ((try dsimp only [WPost, Turn]); (fail_if_success (first | (with_reducible show wpAny _ _ (exec (Stmt.For _ _ _ _ _) _) _ _ _) | (with_reducible show wpAny _ _ (call (Value.ref _) _ _) _ _ _) | (with_reducible show wpAny _ _ (eval (Expr.ListComp _ _ _ _) _) _ _ _) | (with_reducible show wpAny _ _ (eval (Expr.DictComp _ _ _ _ _) _) _ _ _) | (with_reducible show wpAny _ _ (exec (Stmt.Assign _ (Expr.ListComp _ _ _ _) _) _) _ _ _) | (with_reducible show wpAny _ _ (exec (Stmt.Assign _ (Expr.DictComp _ _ _ _ _) _) _) _ _ _) | (with_reducible show wpAny _ _ (subscriptTail _ _ (Value.ref _) _) _ _ _) | (with_reducible show wpAny _ _ (compareOp CmpOp.NotIn _ _) _ _ _) | (with_reducible show wpAny _ _ (compareOp CmpOp.In _ _) _ _ _) | (with_reducible show wpAny _ _ (setItem _ _ _) _ _ _) | (with_reducible show wpAny _ _ (storeName _ (Str.ofString "view") _) _ _ _) | (with_reducible show wpAny _ _ (storeName _ (Str.ofString "node") _) _ _ _) | (with_reducible show wpAny _ _ (storeName _ (Str.ofString "below") _) _ _ _) | (with_reducible show wpAny _ _ (eval (Expr.Name (Str.ofString "layers") _) _) _ _ _) | (with_reducible show wpAny _ _ (eval (Expr.Name (Str.ofString "view") _) _) _ _ _) | (with_reducible show wpAny _ _ (eval (Expr.Name (Str.ofString "node") _) _) _ _ _) | (with_reducible show wpAny _ _ (eval (Expr.Name (Str.ofString "below") _) _) _ _ _) | (with_reducible show wpAny _ _ (pyIter _) _ _ _) | (with_reducible show wpAny _ _ (binaryOp Operator.Add (Value.ref _) (Value.ref _)) _ _ _))); walk1)
        refine fin _ _ _ ob on2 ov _ _ V vo2 _ F8 rfl N8 hob hon2 hov offV hVI2 hKV ⟨loV', _, hkv2, hfl2⟩ (kdfPut_len _ _ _) ?_
        have := ViewOk.put hvw k ((2 - i : Nat) : Int)
        intro j
        rw [← this j]
        simp [laidP, cutV, hm4]
      · rename mode.fdiv 4096 = 4 => hm4
        rename mode.fdiv 4096 = 2 => hm2
        rw [hm4] at hm2; exact absurd hm2 (by decide)
    · clear F N hob hon hov offV hKV0 hK0 DV hcl hvw hvI hne hTV
      clear ob on ov cb cn V vo cv
      rintro h6 tk6 m6 nx6 F6 N6 hoff6 ⟨hm6, ob, on, ov, cb, cn, V, vo, cv, rfl, hob, hon, hov, offV, hKV, DV, hcl, hvw⟩
      have hlen14 := Wi.len
      have hw : (((c (2 - i)).take kvs.length).foldl (laidP ((2 - i : Nat) : Int)) (vwRun c i)) = vwRun c (i + 1) := by
        rw [hkl, List.take_length]; rfl
      rw [hw] at hvw
      repeat ((try dsimp only [WPost, Turn]); (fail_if_success (first | (with_reducible show wpAny _ _ (exec (Stmt.For _ _ _ _ _) _) _ _ _) | (with_reducible show wpAny _ _ (call (Value.ref _) _ _) _ _ _) | (with_reducible show wpAny _ _ (eval (Expr.ListComp _ _ _ _) _) _ _ _) | (with_reducible show wpAny _ _ (eval (Expr.DictComp _ _ _ _ _) _) _ _ _) | (with_reducible show wpAny _ _ (exec (Stmt.Assign _ (Expr.ListComp _ _ _ _) _) _) _ _ _) | (with_reducible show wpAny _ _ (exec (Stmt.Assign _ (Expr.DictComp _ _ _ _ _) _) _) _ _ _) | (with_reducible show wpAny _ _ (subscriptTail _ _ (Value.ref _) _) _ _ _) | (with_reducible show wpAny _ _ (compareOp CmpOp.NotIn _ _) _ _ _) | (with_reducible show wpAny _ _ (compareOp CmpOp.In _ _) _ _ _) | (with_reducible show wpAny _ _ (setItem _ _ _) _ _ _) | (with_reducible show wpAny _ _ (storeName _ (Str.ofString "view") _) _ _ _) | (with_reducible show wpAny _ _ (storeName _ (Str.ofString "node") _) _ _ _) | (with_reducible show wpAny _ _ (storeName _ (Str.ofString "below") _) _ _ _) | (with_reducible show wpAny _ _ (eval (Expr.Name (Str.ofString "layers") _) _) _ _ _) | (with_reducible show wpAny _ _ (eval (Expr.Name (Str.ofString "view") _) _) _ _ _) | (with_reducible show wpAny _ _ (eval (Expr.Name (Str.ofString "node") _) _) _ _ _) | (with_reducible show wpAny _ _ (eval (Expr.Name (Str.ofString "below") _) _) _ _ _) | (with_reducible show wpAny _ _ (pyIter _) _ _ _) | (with_reducible show wpAny _ _ (binaryOp Operator.Add (Value.ref _) (Value.ref _)) _ _ _))); walk1)
      refine TEnd.intro (s := ⟨_, _, _, _, _⟩) ((L + 1 + 1 + 1 + 1, ob) :: (L + 1 + 1 + 1, on) :: (L + 1 + 1, ov) :: (L + 1, ol) :: [(V, vo)]) F6 N6 (by
          intro p hp
          first | (revert p; (repeat first | exact List.forall_mem_nil _ | refine List.forall_mem_cons.2 ⟨by first | ((repeat first | exact List.mem_cons_self .. | refine List.mem_cons_of_mem _ ?_); done) | simp, ?_⟩); done) | (simp only [List.mem_cons, List.not_mem_nil, or_false] at hp ⊢; rcases hp with hp | hp | hp | hp | hp <;> simp [hp])) (by intro p hp; rw [List.mem_singleton.mp hp]; simp) (by first | ((repeat first | exact List.mem_cons_self .. | refine List.mem_cons_of_mem _ ?_); done) | ((repeat first | exact List.forall_mem_nil _ | refine List.forall_mem_cons.2 ⟨by first | ((repeat first | exact List.mem_cons_self .. | refine List.mem_cons_of_mem _ ?_); done) | simp, ?_⟩); done) | simp) ?_ ⟨ob, on, ov, cb, cn, V, vo, cv, rfl, hob, hon, hov, offV, by simp, DV, by (first | decide | with_reducible assumption | with_reducible exact Nat.le_trans (by assumption) (by decide) | with_reducible exact Nat.lt_of_lt_of_le (Nat.add_lt_add_right (by assumption) _) (by decide) | with_reducible exact Int.natCast_nonneg _ | omega), hvw⟩
      intro p hp
      simp only [List.mem_cons, List.not_mem_nil, or_false] at hp
      rcases hp with rfl | rfl | rfl | rfl | rfl
      · exact offI.2.2.2.symm
      · exact offI.2.2.1.symm
      · exact offI.2.1.symm
      · exact offI.1.symm
      · exact (hKV (I, oI) (by first | ((repeat first | exact List.mem_cons_self .. | refine List.mem_cons_of_mem _ ?_); done) | ((repeat first | exact List.forall_mem_nil _ | refine List.forall_mem_cons.2 ⟨by first | ((repeat first | exact List.mem_cons_self .. | refine List.mem_cons_of_mem _ ?_); done) | simp, ?_⟩); done) | simp)).symm
  · clear F N hob hon hov2
    clear ob on
    rintro m6 nx6 h6 tk6 ⟨ob, on, ov, cb, cn, V, vo, cv, rfl, hob, hon, hov, offV, hKV, DV, hcl, hvw⟩ F N
    replace F : Fr g L h6 _ := F
    replace N : News g L h6 ((L + 1 + 1 + 1 + 1, ob) :: (L + 1 + 1 + 1, on) :: (L + 1 + 1, ov) :: (L + 1, ol) :: (V, vo) :: [(Tp, _)]) := N
    repeat ((try dsimp only [WPost, Turn]); (fail_if_success (first | (with_reducible show wpAny _ _ (exec (Stmt.For _ _ _ _ _) _) _ _ _) | (with_reducible show wpAny _ _ (call (Value.ref _) _ _) _ _ _) | (with_reducible show wpAny _ _ (eval (Expr.ListComp _ _ _ _) _) _ _ _) | (with_reducible show wpAny _ _ (eval (Expr.DictComp _ _ _ _ _) _) _ _ _) | (with_reducible show wpAny _ _ (exec (Stmt.Assign _ (Expr.ListComp _ _ _ _) _) _) _ _ _) | (with_reducible show wpAny _ _ (exec (Stmt.Assign _ (Expr.DictComp _ _ _ _ _) _) _) _ _ _) | (with_reducible show wpAny _ _ (subscriptTail _ _ (Value.ref _) _) _ _ _) | (with_reducible show wpAny _ _ (compareOp CmpOp.NotIn _ _) _ _ _) | (with_reducible show wpAny _ _ (compareOp CmpOp.In _ _) _ _ _) | (with_reducible show wpAny _ _ (setItem _ _ _) _ _ _) | (with_reducible show wpAny _ _ (storeName _ (Str.ofString "view") _) _ _ _) | (with_reducible show wpAny _ _ (storeName _ (Str.ofString "node") _) _ _ _) | (with_reducible show wpAny _ _ (storeName _ (Str.ofString "below") _) _ _ _) | (with_reducible show wpAny _ _ (eval (Expr.Name (Str.ofString "layers") _) _) _ _ _) | (with_reducible show wpAny _ _ (eval (Expr.Name (Str.ofString "view") _) _) _ _ _) | (with_reducible show wpAny _ _ (eval (Expr.Name (Str.ofString "node") _) _) _ _ _) | (with_reducible show wpAny _ _ (eval (Expr.Name (Str.ofString "below") _) _) _ _ _) | (with_reducible show wpAny _ _ (pyIter _) _ _ _) | (with_reducible show wpAny _ _ (binaryOp Operator.Add (Value.ref _) (Value.ref _)) _ _ _))); walk1)
    with_reducible refine' Assign_ListComp_tupT (E := fun _ _ => False) F ?a ?b (cl := [("view", L + 1 + 1)]) ?c ?d ?e ?f ?g ?h ?i ?_ (hs := ?_)
    case a => rfl
    case b => rfl
    case c => rfl
    case d => decide
    case e => rfl
    case f => decide
    case g => rfl
    case h => rfl
    case i => rfl
    rotate_left
    · exact folded_tup
    repeat ((try dsimp only [WPost, Turn]); (fail_if_success (first | (with_reducible show wpAny _ _ (exec (Stmt.For _ _ _ _ _) _) _ _ _) | (with_reducible show wpAny _ _ (call (Value.ref _) _ _) _ _ _) | (with_reducible show wpAny _ _ (eval (Expr.ListComp _ _ _ _) _) _ _ _) | (with_reducible show wpAny _ _ (eval (Expr.DictComp _ _ _ _ _) _) _ _ _) | (with_reducible show wpAny _ _ (exec (Stmt.Assign _ (Expr.ListComp _ _ _ _) _) _) _ _ _) | (with_reducible show wpAny _ _ (exec (Stmt.Assign _ (Expr.DictComp _ _ _ _ _) _) _) _ _ _) | (with_reducible show wpAny _ _ (subscriptTail _ _ (Value.ref _) _) _ _ _) | (with_reducible show wpAny _ _ (compareOp CmpOp.NotIn _ _) _ _ _) | (with_reducible show wpAny _ _ (compareOp CmpOp.In _ _) _ _ _) | (with_reducible show wpAny _ _ (setItem _ _ _) _ _ _) | (with_reducible show wpAny _ _ (storeName _ (Str.ofString "view") _) _ _ _) | (with_reducible show wpAny _ _ (storeName _ (Str.ofString "node") _) _ _ _) | (with_reducible show wpAny _ _ (storeName _ (Str.ofString "below") _) _ _ _) | (with_reducible show wpAny _ _ (eval (Expr.Name (Str.ofString "layers") _) _) _ _ _) | (with_reducible show wpAny _ _ (eval (Expr.Name (Str.ofString "view") _) _) _ _ _) | (with_reducible show wpAny _ _ (eval (Expr.Name (Str.ofString "node") _) _) _ _ _) | (with_reducible show wpAny _ _ (eval (Expr.Name (Str.ofString "below") _) _) _ _ _) | (with_reducible show wpAny _ _ (pyIter _) _ _ _) | (with_reducible show wpAny _ _ (binaryOp Operator.Add (Value.ref _) (Value.ref _)) _ _ _))); walk1)
    rename Fr g L _ _ => F
    rename News g L _ _ => N
    dsimp only at N
    have hIp : IntsAre [.int 1 tk6, .int 3 (tk6 + 1), .int 7 (tk6 + 1 + 1), .int 8 (tk6 + 1 + 1 + 1), .int 4 (tk6 + 1 + 1 + 1 + 1), .int 9 (tk6 + 1 + 1 + 1 + 1 + 1), .int 10 (tk6 + 1 + 1 + 1 + 1 + 1 + 1), .int 2 (tk6 + 1 + 1 + 1 + 1 + 1 + 1 + 1), .int 5 (tk6 + 1 + 1 + 1 + 1 + 1 + 1 + 1 + 1), .int 11 (tk6 + 1 + 1 + 1 + 1 + 1 + 1 + 1 + 1 + 1), .int 12 (tk6 + 1 + 1 + 1 + 1 + 1 + 1 + 1 + 1 + 1 + 1), .int 6 (tk6 + 1 + 1 + 1 + 1 + 1 + 1 + 1 + 1 + 1 + 1 + 1), .int 13 (tk6 + 1 + 1 + 1 + 1 + 1 + 1 + 1 + 1 + 1 + 1 + 1 + 1), .int 14 (tk6 + 1 + 1 + 1 + 1 + 1 + 1 + 1 + 1 + 1 + 1 + 1 + 1 + 1)] preL := .cons _ _ (.cons _ _ (.cons _ _ (.cons _ _ (.cons _ _ (.cons _ _ (.cons _ _ (.cons _ _ (.cons _ _ (.cons _ _ (.cons _ _ (.cons _ _ (.cons _ _ (.cons _ _ .nil)))))))))))))
    generalize h6.objs.size = Tn at N
    have N2 := News.sub (news' := (Tn, ({ cls := .type "tuple", data := .seq #[.int 1 tk6, .int 3 (tk6 + 1), .int 7 (tk6 + 1 + 1), .int 8 (tk6 + 1 + 1 + 1), .int 4 (tk6 + 1 + 1 + 1 + 1), .int 9 (tk6 + 1 + 1 + 1 + 1 + 1), .int 10 (tk6 + 1 + 1 + 1 + 1 + 1 + 1), .int 2 (tk6 + 1 + 1 + 1 + 1 + 1 + 1 + 1), .int 5 (tk6 + 1 + 1 + 1 + 1 + 1 + 1 + 1 + 1), .int 11 (tk6 + 1 + 1 + 1 + 1 + 1 + 1 + 1 + 1 + 1), .int 12 (tk6 + 1 + 1 + 1 + 1 + 1 + 1 + 1 + 1 + 1 + 1), .int 6 (tk6 + 1 + 1 + 1 + 1 + 1 + 1 + 1 + 1 + 1 + 1 + 1), .int 13 (tk6 + 1 + 1 + 1 + 1 + 1 + 1 + 1 + 1 + 1 + 1 + 1 + 1), .int 14 (tk6 + 1 + 1 + 1 + 1 + 1 + 1 + 1 + 1 + 1 + 1 + 1 + 1 + 1)] } : Obj)) :: (L + 1 + 1 + 1 + 1, ob) :: (L + 1 + 1 + 1, on) :: (L + 1 + 1, ov) :: (L + 1, ol) :: [(V, vo)]) N (by
      intro p hp
      first | (revert p; (repeat first | exact List.forall_mem_nil _ | refine List.forall_mem_cons.2 ⟨by first | ((repeat first | exact List.mem_cons_self .. | refine List.mem_cons_of_mem _ ?_); done) | simp, ?_⟩); done) | (simp only [List.mem_cons, List.not_mem_nil, or_false] at hp ⊢; rcases hp with hp | hp | hp | hp | hp | hp <;> simp [hp]))
    refine ⟨_, #[.int 1 tk6, .int 3 (tk6 + 1), .int 7 (tk6 + 1 + 1), .int 8 (tk6 + 1 + 1 + 1), .int 4 (tk6 + 1 + 1 + 1 + 1), .int 9 (tk6 + 1 + 1 + 1 + 1 + 1), .int 10 (tk6 + 1 + 1 + 1 + 1 + 1 + 1), .int 2 (tk6 + 1 + 1 + 1 + 1 + 1 + 1 + 1), .int 5 (tk6 + 1 + 1 + 1 + 1 + 1 + 1 + 1 + 1), .int 11 (tk6 + 1 + 1 + 1 + 1 + 1 + 1 + 1 + 1 + 1), .int 12 (tk6 + 1 + 1 + 1 + 1 + 1 + 1 + 1 + 1 + 1 + 1), .int 6 (tk6 + 1 + 1 + 1 + 1 + 1 + 1 + 1 + 1 + 1 + 1 + 1), .int 13 (tk6 + 1 + 1 + 1 + 1 + 1 + 1 + 1 + 1 + 1 + 1 + 1 + 1), .int 14 (tk6 + 1 + 1 + 1 + 1 + 1 + 1 + 1 + 1 + 1 + 1 + 1 + 1 + 1)], _, rfl, by exact hA, F, N2, ⟨_, List.mem_cons_self .., rfl, _, rfl⟩, by simp [PySem.sizeLine_eq], fun hh => ?_⟩
    refine compRestT_inv (fun j ys nx => nx = (Tn, ({ cls := .type "tuple", data := .seq #[.int 1 tk6, .int 3 (tk6 + 1), .int 7 (tk6 + 1 + 1), .int 8 (tk6 + 1 + 1 + 1), .int 4 (tk6 + 1 + 1 + 1 + 1), .int 9 (tk6 + 1 + 1 + 1 + 1 + 1), .int 10 (tk6 + 1 + 1 + 1 + 1 + 1 + 1), .int 2 (tk6 + 1 + 1 + 1 + 1 + 1 + 1 + 1), .int 5 (tk6 + 1 + 1 + 1 + 1 + 1 + 1 + 1 + 1), .int 11 (tk6 + 1 + 1 + 1 + 1 + 1 + 1 + 1 + 1 + 1), .int 12 (tk6 + 1 + 1 + 1 + 1 + 1 + 1 + 1 + 1 + 1 + 1), .int 6 (tk6 + 1 + 1 + 1 + 1 + 1 + 1 + 1 + 1 + 1 + 1 + 1), .int 13 (tk6 + 1 + 1 + 1 + 1 + 1 + 1 + 1 + 1 + 1 + 1 + 1 + 1), .int 14 (tk6 + 1 + 1 + 1 + 1 + 1 + 1 + 1 + 1 + 1 + 1 + 1 + 1 + 1)] } : Obj)) :: (L + 1 + 1 + 1 + 1, ob) :: (L + 1 + 1 + 1, on) :: (L + 1 + 1, ov) :: (L + 1, ol) :: [(V, vo)] ∧ IntsAre ys ((preL.take j).filter fun n => kdfHas cv n)) ⟨rfl, .nil⟩ ?_ ?_
    · clear F N N2
      rintro j ys nx v I5 oI5 C oC D' m₃ h tk5 E' hj ⟨rfl, hys⟩ hP hns hx F N off ne
      obtain ⟨n, hnj⟩ : ∃ n, preL[j]? = some n := ⟨preL[j]'hj, List.getElem?_eq_getElem _⟩
      obtain ⟨tn, hvn⟩ := hIp.get j n hnj
      have hP' : [.int 1 tk6, .int 3 (tk6 + 1), .int 7 (tk6 + 1 + 1), .int 8 (tk6 + 1 + 1 + 1), .int 4 (tk6 + 1 + 1 + 1 + 1), .int 9 (tk6 + 1 + 1 + 1 + 1 + 1), .int 10 (tk6 + 1 + 1 + 1 + 1 + 1 + 1), .int 2 (tk6 + 1 + 1 + 1 + 1 + 1 + 1 + 1), .int 5 (tk6 + 1 + 1 + 1 + 1 + 1 + 1 + 1 + 1), .int 11 (tk6 + 1 + 1 + 1 + 1 + 1 + 1 + 1 + 1 + 1), .int 12 (tk6 + 1 + 1 + 1 + 1 + 1 + 1 + 1 + 1 + 1 + 1), .int 6 (tk6 + 1 + 1 + 1 + 1 + 1 + 1 + 1 + 1 + 1 + 1 + 1), .int 13 (tk6 + 1 + 1 + 1 + 1 + 1 + 1 + 1 + 1 + 1 + 1 + 1 + 1), .int 14 (tk6 + 1 + 1 + 1 + 1 + 1 + 1 + 1 + 1 + 1 + 1 + 1 + 1 + 1)][j]? = some v := by simpa using hP
      rw [hP'] at hvn
      obtain rfl := Option.some.inj hvn
      have hnsC := hns.ns (N (C, oC) (by first | ((repeat first | exact List.mem_cons_self .. | refine List.mem_cons_of_mem _ ?_); done) | ((repeat first | exact List.forall_mem_nil _ | refine List.forall_mem_cons.2 ⟨by first | ((repeat first | exact List.mem_cons_self .. | refine List.mem_cons_of_mem _ ?_); done) | simp, ?_⟩); done) | simp)).1
      dsimp only at F N ⊢
      repeat ((try dsimp only [WPost, Turn]); (fail_if_success (first | (with_reducible show wpAny _ _ (exec (Stmt.For _ _ _ _ _) _) _ _ _) | (with_reducible show wpAny _ _ (call (Value.ref _) _ _) _ _ _) | (with_reducible show wpAny _ _ (eval (Expr.ListComp _ _ _ _) _) _ _ _) | (with_reducible show wpAny _ _ (eval (Expr.DictComp _ _ _ _ _) _) _ _ _) | (with_reducible show wpAny _ _ (exec (Stmt.Assign _ (Expr.ListComp _ _ _ _) _) _) _ _ _) | (with_reducible show wpAny _ _ (exec (Stmt.Assign _ (Expr.DictComp _ _ _ _ _) _) _) _ _ _) | (with_reducible show wpAny _ _ (subscriptTail _ _ (Value.ref _) _) _ _ _) | (with_reducible show wpAny _ _ (compareOp CmpOp.NotIn _ _) _ _ _) | (with_reducible show wpAny _ _ (compareOp CmpOp.In _ _) _ _ _) | (with_reducible show wpAny _ _ (setItem _ _ _) _ _ _) | (with_reducible show wpAny _ _ (storeName _ (Str.ofString "view") _) _ _ _) | (with_reducible show wpAny _ _ (storeName _ (Str.ofString "node") _) _ _ _) | (with_reducible show wpAny _ _ (storeName _ (Str.ofString "below") _) _ _ _) | (with_reducible show wpAny _ _ (eval (Expr.Name (Str.ofString "layers") _) _) _ _ _) | (with_reducible show wpAny _ _ (eval (Expr.Name (Str.ofString "view") _) _) _ _ _) | (with_reducible show wpAny _ _ (eval (Expr.Name (Str.ofString "node") _) _) _ _ _) | (with_reducible show wpAny _ _ (eval (Expr.Name (Str.ofString "below") _) _) _ _ _) | (with_reducible show wpAny _ _ (pyIter _) _ _ _) | (with_reducible show wpAny _ _ (binaryOp Operator.Add (Value.ref _) (Value.ref _)) _ _ _))); walk1)
      refine cname_local hnsC hx ?_ rfl rfl
      repeat ((try dsimp only [WPost, Turn]); (fail_if_success (first | (with_reducible show wpAny _ _ (exec (Stmt.For _ _ _ _ _) _) _ _ _) | (with_reducible show wpAny _ _ (call (Value.ref _) _ _) _ _ _) | (with_reducible show wpAny _ _ (eval (Expr.ListComp _ _ _ _) _) _ _ _) | (with_reducible show wpAny _ _ (eval (Expr.DictComp _ _ _ _ _) _) _ _ _) | (with_reducible show wpAny _ _ (exec (Stmt.Assign _ (Expr.ListComp _ _ _ _) _) _) _ _ _) | (with_reducible show wpAny _ _ (exec (Stmt.Assign _ (Expr.DictComp _ _ _ _ _) _) _) _ _ _) | (with_reducible show wpAny _ _ (subscriptTail _ _ (Value.ref _) _) _ _ _) | (with_reducible show wpAny _ _ (compareOp CmpOp.NotIn _ _) _ _ _) | (with_reducible show wpAny _ _ (compareOp CmpOp.In _ _) _ _ _) | (with_reducible show wpAny _ _ (setItem _ _ _) _ _ _) | (with_reducible show wpAny _ _ (storeName _ (Str.ofString "view") _) _ _ _) | (with_reducible show wpAny _ _ (storeName _ (Str.ofString "node") _) _ _ _) | (with_reducible show wpAny _ _ (storeName _ (Str.ofString "below") _) _ _ _) | (with_reducible show wpAny _ _ (eval (Expr.Name (Str.ofString "layers") _) _) _ _ _) | (with_reducible show wpAny _ _ (eval (Expr.Name (Str.ofString "view") _) _) _ _ _) | (with_reducible show wpAny _ _ (eval (Expr.Name (Str.ofString "node") _) _) _ _ _) | (with_reducible show wpAny _ _ (eval (Expr.Name (Str.ofString "below") _) _) _ _ _) | (with_reducible show wpAny _ _ (pyIter _) _ _ _) | (with_reducible show wpAny _ _ (binaryOp Operator.Add (Value.ref _) (Value.ref _)) _ _ _))); walk1)
      refine lcf_cell (c := L + 1 + 1) (o := ov) N rfl (by first | ((repeat first | exact List.mem_cons_self .. | refine List.mem_cons_of_mem _ ?_); done) | ((repeat first | exact List.forall_mem_nil _ | refine List.forall_mem_cons.2 ⟨by first | ((repeat first | exact List.mem_cons_self .. | refine List.mem_cons_of_mem _ ?_); done) | simp, ?_⟩); done) | simp) hov ?_ (by rfl) (by rfl)
      repeat ((try dsimp only [WPost, Turn]); (fail_if_success (first | (with_reducible show wpAny _ _ (exec (Stmt.For _ _ _ _ _) _) _ _ _) | (with_reducible show wpAny _ _ (call (Value.ref _) _ _) _ _ _) | (with_reducible show wpAny _ _ (eval (Expr.ListComp _ _ _ _) _) _ _ _) | (with_reducible show wpAny _ _ (eval (Expr.DictComp _ _ _ _ _) _) _ _ _) | (with_reducible show wpAny _ _ (exec (Stmt.Assign _ (Expr.ListComp _ _ _ _) _) _) _ _ _) | (with_reducible show wpAny _ _ (exec (Stmt.Assign _ (Expr.DictComp _ _ _ _ _) _) _) _ _ _) | (with_reducible show wpAny _ _ (subscriptTail _ _ (Value.ref _) _) _ _ _) | (with_reducible show wpAny _ _ (compareOp CmpOp.NotIn _ _) _ _ _) | (with_reducible show wpAny _ _ (compareOp CmpOp.In _ _) _ _ _) | (with_reducible show wpAny _ _ (setItem _ _ _) _ _ _) | (with_reducible show wpAny _ _ (storeName _ (Str.ofString "view") _) _ _ _) | (with_reducible show wpAny _ _ (storeName _ (Str.ofString "node") _) _ _ _) | (with_reducible show wpAny _ _ (storeName _ (Str.ofString "below") _) _ _ _) | (with_reducible show wpAny _ _ (eval (Expr.Name (Str.ofString "layers") _) _) _ _ _) | (with_reducible show wpAny _ _ (eval (Expr.Name (Str.ofString "view") _) _) _ _ _) | (with_reducible show wpAny _ _ (eval (Expr.Name (Str.ofString "node") _) _) _ _ _) | (with_reducible show wpAny _ _ (eval (Expr.Name (Str.ofString "below") _) _) _ _ _) | (with_reducible show wpAny _ _ (pyIter _) _ _ _) | (with_reducible show wpAny _ _ (binaryOp Operator.Add (Value.ref _) (Value.ref _)) _ _ _))); walk1)
      refine kdf_in (DV.tab (N (V, vo) (by first | ((repeat first | exact List.mem_cons_self .. | refine List.mem_cons_of_mem _ ?_); done) | ((repeat first | exact List.forall_mem_nil _ | refine List.forall_mem_cons.2 ⟨by first | ((repeat first | exact List.mem_cons_self .. | refine List.mem_cons_of_mem _ ?_); done) | simp, ?_⟩); done) | simp)).1) ?_
      cases hkn : kdfHas cv n with
      | true =>
        repeat ((try dsimp only [WPost, Turn]); (fail_if_success (first | (with_reducible show wpAny _ _ (exec (Stmt.For _ _ _ _ _) _) _ _ _) | (with_reducible show wpAny _ _ (call (Value.ref _) _ _) _ _ _) | (with_reducible show wpAny _ _ (eval (Expr.ListComp _ _ _ _) _) _ _ _) | (with_reducible show wpAny _ _ (eval (Expr.DictComp _ _ _ _ _) _) _ _ _) | (with_reducible show wpAny _ _ (exec (Stmt.Assign _ (Expr.ListComp _ _ _ _) _) _) _ _ _) | (with_reducible show wpAny _ _ (exec (Stmt.Assign _ (Expr.DictComp _ _ _ _ _) _) _) _ _ _) | (with_reducible show wpAny _ _ (subscriptTail _ _ (Value.ref _) _) _ _ _) | (with_reducible show wpAny _ _ (compareOp CmpOp.NotIn _ _) _ _ _) | (with_reducible show wpAny _ _ (compareOp CmpOp.In _ _) _ _ _) | (with_reducible show wpAny _ _ (setItem _ _ _) _ _ _) | (with_reducible show wpAny _ _ (storeName _ (Str.ofString "view") _) _ _ _) | (with_reducible show wpAny _ _ (storeName _ (Str.ofString "node") _) _ _ _) | (with_reducible show wpAny _ _ (storeName _ (Str.ofString "below") _) _ _ _) | (with_reducible show wpAny _ _ (eval (Expr.Name (Str.ofString "layers") _) _) _ _ _) | (with_reducible show wpAny _ _ (eval (Expr.Name (Str.ofString "view") _) _) _ _ _) | (with_reducible show wpAny _ _ (eval (Expr.Name (Str.ofString "node") _) _) _ _ _) | (with_reducible show wpAny _ _ (eval (Expr.Name (Str.ofString "below") _) _) _ _ _) | (with_reducible show wpAny _ _ (pyIter _) _ _ _) | (with_reducible show wpAny _ _ (binaryOp Operator.Add (Value.ref _) (Value.ref _)) _ _ _))); walk1)
        refine cname_local hnsC hx ?_ rfl rfl
        refine LCg.CompEnd.intro F N _ (by first | ((repeat first | exact List.mem_cons_self .. | refine List.mem_cons_of_mem _ ?_); done) | ((repeat first | exact List.forall_mem_nil _ | refine List.forall_mem_cons.2 ⟨by first | ((repeat first | exact List.mem_cons_self .. | refine List.mem_cons_of_mem _ ?_); done) | simp, ?_⟩); done) | simp) off ⟨_, List.mem_cons_self .., rfl, _, rfl⟩ ⟨rfl, ?_⟩
        rw [List.take_add_one, hnj, Option.toList_some, List.filter_append]
        have : [n].filter (fun n => kdfHas cv n) = [n] := by simp [hkn]
        rw [this]
        exact IntsAre.append hys (.cons _ _ .nil)
      | false =>
        repeat ((try dsimp only [WPost, Turn]); (fail_if_success (first | (with_reducible show wpAny _ _ (exec (Stmt.For _ _ _ _ _) _) _ _ _) | (with_reducible show wpAny _ _ (call (Value.ref _) _ _) _ _ _) | (with_reducible show wpAny _ _ (eval (Expr.ListComp _ _ _ _) _) _ _ _) | (with_reducible show wpAny _ _ (eval (Expr.DictComp _ _ _ _ _) _) _ _ _) | (with_reducible show wpAny _ _ (exec (Stmt.Assign _ (Expr.ListComp _ _ _ _) _) _) _ _ _) | (with_reducible show wpAny _ _ (exec (Stmt.Assign _ (Expr.DictComp _ _ _ _ _) _) _) _ _ _) | (with_reducible show wpAny _ _ (subscriptTail _ _ (Value.ref _) _) _ _ _) | (with_reducible show wpAny _ _ (compareOp CmpOp.NotIn _ _) _ _ _) | (with_reducible show wpAny _ _ (compareOp CmpOp.In _ _) _ _ _) | (with_reducible show wpAny _ _ (setItem _ _ _) _ _ _) | (with_reducible show wpAny _ _ (storeName _ (Str.ofString "view") _) _ _ _) | (with_reducible show wpAny _ _ (storeName _ (Str.ofString "node") _) _ _ _) | (with_reducible show wpAny _ _ (storeName _ (Str.ofString "below") _) _ _ _) | (with_reducible show wpAny _ _ (eval (Expr.Name (Str.ofString "layers") _) _) _ _ _) | (with_reducible show wpAny _ _ (eval (Expr.Name (Str.ofString "view") _) _) _ _ _) | (with_reducible show wpAny _ _ (eval (Expr.Name (Str.ofString "node") _) _) _ _ _) | (with_reducible show wpAny _ _ (eval (Expr.Name (Str.ofString "below") _) _) _ _ _) | (with_reducible show wpAny _ _ (pyIter _) _ _ _) | (with_reducible show wpAny _ _ (binaryOp Operator.Add (Value.ref _) (Value.ref _)) _ _ _))); walk1)
        refine LCg.CompEnd.intro F N _ (by first | ((repeat first | exact List.mem_cons_self .. | refine List.mem_cons_of_mem _ ?_); done) | ((repeat first | exact List.forall_mem_nil _ | refine List.forall_mem_cons.2 ⟨by first | ((repeat first | exact List.mem_cons_self .. | refine List.mem_cons_of_mem _ ?_); done) | simp, ?_⟩); done) | simp) off ⟨_, List.mem_cons_self .., rfl, _, rfl⟩ ⟨rfl, ?_⟩
        rw [List.take_add_one, hnj, Option.toList_some, List.filter_append]
        have : [n].filter (fun n => kdfHas cv n) = [] := by simp [hkn]
        rw [this]
        simpa using hys
    · clear F N N2
      rintro ys nx ⟨rfl, hys⟩ D3 h tk5 F N off
      replace hys : IntsAre ys (preL.filter fun n => kdfHas cv n) := hys
      have N3 := News.sub (news' := (D3, LCg.lst ys) :: (L + 1 + 1 + 1 + 1, ob) :: (L + 1 + 1 + 1, on) :: (L + 1 + 1, ov) :: (L + 1, ol) :: [(V, vo)]) N (by
        intro p hp
        first | (revert p; (repeat first | exact List.forall_mem_nil _ | refine List.forall_mem_cons.2 ⟨by first | ((repeat first | exact List.mem_cons_self .. | refine List.mem_cons_of_mem _ ?_); done) | simp, ?_⟩); done) | (simp only [List.mem_cons, List.not_mem_nil, or_false] at hp ⊢; rcases hp with hp | hp | hp | hp | hp | hp <;> simp [hp]))
      clear N off
      have hyl : ys.length ≤ 14 := by rw [hys.length]; exact Nat.le_trans (List.length_filter_le _ _) (by decide)
      repeat ((try dsimp only [WPost, Turn]); (fail_if_success (first | (with_reducible show wpAny _ _ (exec (Stmt.For _ _ _ _ _) _) _ _ _) | (with_reducible show wpAny _ _ (call (Value.ref _) _ _) _ _ _) | (with_reducible show wpAny _ _ (eval (Expr.ListComp _ _ _ _) _) _ _ _) | (with_reducible show wpAny _ _ (eval (Expr.DictComp _ _ _ _ _) _) _ _ _) | (with_reducible show wpAny _ _ (exec (Stmt.Assign _ (Expr.ListComp _ _ _ _) _) _) _ _ _) | (with_reducible show wpAny _ _ (exec (Stmt.Assign _ (Expr.DictComp _ _ _ _ _) _) _) _ _ _) | (with_reducible show wpAny _ _ (subscriptTail _ _ (Value.ref _) _) _ _ _) | (with_reducible show wpAny _ _ (compareOp CmpOp.NotIn _ _) _ _ _) | (with_reducible show wpAny _ _ (compareOp CmpOp.In _ _) _ _ _) | (with_reducible show wpAny _ _ (setItem _ _ _) _ _ _) | (with_reducible show wpAny _ _ (storeName _ (Str.ofString "view") _) _ _ _) | (with_reducible show wpAny _ _ (storeName _ (Str.ofString "node") _) _ _ _) | (with_reducible show wpAny _ _ (storeName _ (Str.ofString "below") _) _ _ _) | (with_reducible show wpAny _ _ (eval (Expr.Name (Str.ofString "layers") _) _) _ _ _) | (with_reducible show wpAny _ _ (eval (Expr.Name (Str.ofString "view") _) _) _ _ _) | (with_reducible show wpAny _ _ (eval (Expr.Name (Str.ofString "node") _) _) _ _ _) | (with_reducible show wpAny _ _ (eval (Expr.Name (Str.ofString "below") _) _) _ _ _) | (with_reducible show wpAny _ _ (pyIter _) _ _ _) | (with_reducible show wpAny _ _ (binaryOp Operator.Add (Value.ref _) (Value.ref _)) _ _ _))); walk1)
      rename Fr g L _ _ => F
      rename News g L _ _ => N
      with_reducible refine' LCg.ListComp_U (E := fun _ _ => False) F (cl := [("view", L + 1 + 1), ("layers", L + 1)]) ?a ?b ?c ?d ?e ?_ (hs := ?_)
      case a => rfl
      case b => decide
      case c => rfl
      case d => decide
      case e => rfl
      rotate_left
      · intro _; rfl
      repeat ((try dsimp only [WPost, Turn]); (fail_if_success (first | (with_reducible show wpAny _ _ (exec (Stmt.For _ _ _ _ _) _) _ _ _) | (with_reducible show wpAny _ _ (call (Value.ref _) _ _) _ _ _) | (with_reducible show wpAny _ _ (eval (Expr.ListComp _ _ _ _) _) _ _ _) | (with_reducible show wpAny _ _ (eval (Expr.DictComp _ _ _ _ _) _) _ _ _) | (with_reducible show wpAny _ _ (exec (Stmt.Assign _ (Expr.ListComp _ _ _ _) _) _) _ _ _) | (with_reducible show wpAny _ _ (exec (Stmt.Assign _ (Expr.DictComp _ _ _ _ _) _) _) _ _ _) | (with_reducible show wpAny _ _ (subscriptTail _ _ (Value.ref _) _) _ _ _) | (with_reducible show wpAny _ _ (compareOp CmpOp.NotIn _ _) _ _ _) | (with_reducible show wpAny _ _ (compareOp CmpOp.In _ _) _ _ _) | (with_reducible show wpAny _ _ (setItem _ _ _) _ _ _) | (with_reducible show wpAny _ _ (storeName _ (Str.ofString "view") _) _ _ _) | (with_reducible show wpAny _ _ (storeName _ (Str.ofString "node") _) _ _ _) | (with_reducible show wpAny _ _ (storeName _ (Str.ofString "below") _) _ _ _) | (with_reducible show wpAny _ _ (eval (Expr.Name (Str.ofString "layers") _) _) _ _ _) | (with_reducible show wpAny _ _ (eval (Expr.Name (Str.ofString "view") _) _) _ _ _) | (with_reducible show wpAny _ _ (eval (Expr.Name (Str.ofString "node") _) _) _ _ _) | (with_reducible show wpAny _ _ (eval (Expr.Name (Str.ofString "below") _) _) _ _ _) | (with_reducible show wpAny _ _ (pyIter _) _ _ _) | (with_reducible show wpAny _ _ (binaryOp Operator.Add (Value.ref _) (Value.ref _)) _ _ _))); walk1)
      refine LCg.CompSrc.ledger hA F N (List.mem_cons_self ..) (by rw [List.size_toArray, PySem.sizeLine_eq]; (first | decide | with_reducible assumption | with_reducible exact Nat.le_trans (by assumption) (by decide) | with_reducible exact Nat.lt_of_lt_of_le (Nat.add_lt_add_right (by assumption) _) (by decide) | with_reducible exact Int.natCast_nonneg _ | omega)) fun h8 => ?_
      have hvw3 : ViewOk cv (vwRun c 3) := hvw
      refine compRest_inv (fun j zs nx => ∃ ls : List (Addr × Obj × RowT), nx = (D3, LCg.lst ys) :: (L + 1 + 1 + 1 + 1, ob) :: (L + 1 + 1 + 1, on) :: (L + 1 + 1, ov) :: (L + 1, ol) :: (V, vo) :: ls.map (fun e => (e.1, e.2.1)) ∧ zs = ls.map (fun e => Value.ref e.1) ∧ (∀ e ∈ ls, LaidObj e.2.1 e.2.2) ∧ ls.map (·.2.2) = ((preL.filter fun n => kdfHas cv n).take j).map (laidRow c)) ⟨[], rfl, rfl, by simp, rfl⟩ ?_ ?_
      · clear F N
        rintro j zs nx v I5 oI5 C oC D' m₃ h7 tk7 E' hj ⟨ls, rfl, rfl, hob2, hdat⟩ hP hns hx F N off ne
        obtain ⟨n, hnj⟩ : ∃ n, (preL.filter fun n => kdfHas cv n)[j]? = some n := ⟨(preL.filter fun n => kdfHas cv n)[j]'(by rw [← hys.length]; simpa using hj), List.getElem?_eq_getElem _⟩
        obtain ⟨tn, hvn⟩ := hys.get j n hnj
        have hP' : ys[j]? = some v := by simpa using hP
        rw [hP'] at hvn
        obtain rfl := Option.some.inj hvn
        obtain ⟨hnp, hnh⟩ := List.mem_filter.mp (List.mem_of_getElem? hnj)
        have hnok := preL_ok n hnp
        obtain ⟨hn1, hn14⟩ := id hnok
        have hvn3 : vwRun c 3 n = some (kdfLook cv n 0) := by rw [hvw3 n, if_pos hnh]
        obtain ⟨jj, hpj, hj3, mode, hmem, hmk2⟩ := vw_facts c 3 n _ hvn3
        obtain ⟨hdj, Dj, Wj⟩ := hdl jj hj3
        have hmok := Wj.mode _ hmem
        have hlook : kdfLook (c jj) n 0 = mode := kdfLook_mem Wj.nodup hmem
        have hplace : placeOf c n = (jj : Int) := by unfold placeOf; rw [hvn3, ← hpj]; rfl
        have hrow : laidRow c n = ((jj : Int), n, mode) := by
          unfold laidRow
          rw [hplace, Int.toNat_natCast, hlook]
        have zC : ∀ hz : Heap, (∀ b o, h7.get? b = some o → hz.get? b = some o) → hz.Ns C m₃ := fun hz k => hns.ns (k _ _ (N (C, oC) (by first | ((repeat first | exact List.mem_cons_self .. | refine List.mem_cons_of_mem _ ?_); done) | ((repeat first | exact List.forall_mem_nil _ | refine List.forall_mem_cons.2 ⟨by first | ((repeat first | exact List.mem_cons_self .. | refine List.mem_cons_of_mem _ ?_); done) | simp, ?_⟩); done) | simp)).1)
        have zV := (N (V, vo) (by first | ((repeat first | exact List.mem_cons_self .. | refine List.mem_cons_of_mem _ ?_); done) | ((repeat first | exact List.forall_mem_nil _ | refine List.forall_mem_cons.2 ⟨by first | ((repeat first | exact List.mem_cons_self .. | refine List.mem_cons_of_mem _ ?_); done) | simp, ?_⟩); done) | simp)).1
        dsimp only at F N ⊢
        repeat ((try dsimp only [WPost, Turn]); (fail_if_success (first | (with_reducible show wpAny _ _ (exec (Stmt.For _ _ _ _ _) _) _ _ _) | (with_reducible show wpAny _ _ (call (Value.ref _) _ _) _ _ _) | (with_reducible show wpAny _ _ (eval (Expr.ListComp _ _ _ _) _) _ _ _) | (with_reducible show wpAny _ _ (eval (Expr.DictComp _ _ _ _ _) _) _ _ _) | (with_reducible show wpAny _ _ (exec (Stmt.Assign _ (Expr.ListComp _ _ _ _) _) _) _ _ _) | (with_reducible show wpAny _ _ (exec (Stmt.Assign _ (Expr.DictComp _ _ _ _ _) _) _) _ _ _) | (with_reducible show wpAny _ _ (subscriptTail _ _ (Value.ref _) _) _ _ _) | (with_reducible show wpAny _ _ (compareOp CmpOp.NotIn _ _) _ _ _) | (with_reducible show wpAny _ _ (compareOp CmpOp.In _ _) _ _ _) | (with_reducible show wpAny _ _ (setItem _ _ _) _ _ _) | (with_reducible show wpAny _ _ (storeName _ (Str.ofString "view") _) _ _ _) | (with_reducible show wpAny _ _ (storeName _ (Str.ofString "node") _) _ _ _) | (with_reducible show wpAny _ _ (storeName _ (Str.ofString "below") _) _ _ _) | (with_reducible show wpAny _ _ (eval (Expr.Name (Str.ofString "layers") _) _) _ _ _) | (with_reducible show wpAny _ _ (eval (Expr.Name (Str.ofString "view") _) _) _ _ _) | (with_reducible show wpAny _ _ (eval (Expr.Name (Str.ofString "node") _) _) _ _ _) | (with_reducible show wpAny _ _ (eval (Expr.Name (Str.ofString "below") _) _) _ _ _) | (with_reducible show wpAny _ _ (pyIter _) _ _ _) | (with_reducible show wpAny _ _ (binaryOp Operator.Add (Value.ref _) (Value.ref _)) _ _ _))); walk1)
        refine cname_local (zC _ fun b o e => e) hx ?_ rfl rfl
        repeat ((try dsimp only [WPost, Turn]); (fail_if_success (first | (with_reducible show wpAny _ _ (exec (Stmt.For _ _ _ _ _) _) _ _ _) | (with_reducible show wpAny _ _ (call (Value.ref _) _ _) _ _ _) | (with_reducible show wpAny _ _ (eval (Expr.ListComp _ _ _ _) _) _ _ _) | (with_reducible show wpAny _ _ (eval (Expr.DictComp _ _ _ _ _) _) _ _ _) | (with_reducible show wpAny _ _ (exec (Stmt.Assign _ (Expr.ListComp _ _ _ _) _) _) _ _ _) | (with_reducible show wpAny _ _ (exec (Stmt.Assign _ (Expr.DictComp _ _ _ _ _) _) _) _ _ _) | (with_reducible show wpAny _ _ (subscriptTail _ _ (Value.ref _) _) _ _ _) | (with_reducible show wpAny _ _ (compareOp CmpOp.NotIn _ _) _ _ _) | (with_reducible show wpAny _ _ (compareOp CmpOp.In _ _) _ _ _) | (with_reducible show wpAny _ _ (setItem _ _ _) _ _ _) | (with_reducible show wpAny _ _ (storeName _ (Str.ofString "view") _) _ _ _) | (with_reducible show wpAny _ _ (storeName _ (Str.ofString "node") _) _ _ _) | (with_reducible show wpAny _ _ (storeName _ (Str.ofString "below") _) _ _ _) | (with_reducible show wpAny _ _ (eval (Expr.Name (Str.ofString "layers") _) _) _ _ _) | (with_reducible show wpAny _ _ (eval (Expr.Name (Str.ofString "view") _) _) _ _ _) | (with_reducible show wpAny _ _ (eval (Expr.Name (Str.ofString "node") _) _) _ _ _) | (with_reducible show wpAny _ _ (eval (Expr.Name (Str.ofString "below") _) _) _ _ _) | (with_reducible show wpAny _ _ (pyIter _) _ _ _) | (with_reducible show wpAny _ _ (binaryOp Operator.Add (Value.ref _) (Value.ref _)) _ _ _))); walk1)
        rename Fr g L _ _ => F
        rename News g L _ _ => N
        refine wpAny_call (text_spec Bg' (s := ⟨_, _, _, _, _⟩) F.keep (by exact hA) (by show A.depth + 1 < 899; (first | decide | with_reducible assumption | with_reducible exact Nat.le_trans (by assumption) (by decide) | with_reducible exact Nat.lt_of_lt_of_le (Nat.add_lt_add_right (by assumption) _) (by decide) | with_reducible exact Int.natCast_nonneg _ | omega)) (show 0 ≤ n by (first | decide | with_reducible assumption | with_reducible exact Nat.le_trans (by assumption) (by decide) | with_reducible exact Nat.lt_of_lt_of_le (Nat.add_lt_add_right (by assumption) _) (by decide) | with_reducible exact Int.natCast_nonneg _ | omega)) hn14 fun h9 tk9 t9 M9 => ?_)
        have F9 := Fr.keeps' F M9
        have N9 := News.keeps' N M9
        have up9 : ∀ b o, h7.get? b = some o → h9.get? b = some o := fun b o e => M9 b o (by first | ((repeat first | exact List.mem_cons_self .. | refine List.mem_cons_of_mem _ ?_); done) | ((repeat first | exact List.forall_mem_nil _ | refine List.forall_mem_cons.2 ⟨by first | ((repeat first | exact List.mem_cons_self .. | refine List.mem_cons_of_mem _ ?_); done) | simp, ?_⟩); done) | simp) e
        clear F N
        dsimp only
        repeat ((try dsimp only [WPost, Turn]); (fail_if_success (first | (with_reducible show wpAny _ _ (exec (Stmt.For _ _ _ _ _) _) _ _ _) | (with_reducible show wpAny _ _ (call (Value.ref _) _ _) _ _ _) | (with_reducible show wpAny _ _ (eval (Expr.ListComp _ _ _ _) _) _ _ _) | (with_reducible show wpAny _ _ (eval (Expr.DictComp _ _ _ _ _) _) _ _ _) | (with_reducible show wpAny _ _ (exec (Stmt.Assign _ (Expr.ListComp _ _ _ _) _) _) _ _ _) | (with_reducible show wpAny _ _ (exec (Stmt.Assign _ (Expr.DictComp _ _ _ _ _) _) _) _ _ _) | (with_reducible show wpAny _ _ (subscriptTail _ _ (Value.ref _) _) _ _ _) | (with_reducible show wpAny _ _ (compareOp CmpOp.NotIn _ _) _ _ _) | (with_reducible show wpAny _ _ (compareOp CmpOp.In _ _) _ _ _) | (with_reducible show wpAny _ _ (setItem _ _ _) _ _ _) | (with_reducible show wpAny _ _ (storeName _ (Str.ofString "view") _) _ _ _) | (with_reducible show wpAny _ _ (storeName _ (Str.ofString "node") _) _ _ _) | (with_reducible show wpAny _ _ (storeName _ (Str.ofString "below") _) _ _ _) | (with_reducible show wpAny _ _ (eval (Expr.Name (Str.ofString "layers") _) _) _ _ _) | (with_reducible show wpAny _ _ (eval (Expr.Name (Str.ofString "view") _) _) _ _ _) | (with_reducible show wpAny _ _ (eval (Expr.Name (Str.ofString "node") _) _) _ _ _) | (with_reducible show wpAny _ _ (eval (Expr.Name (Str.ofString "below") _) _) _ _ _) | (with_reducible show wpAny _ _ (pyIter _) _ _ _) | (with_reducible show wpAny _ _ (binaryOp Operator.Add (Value.ref _) (Value.ref _)) _ _ _))); walk1)
        rename Fr g L _ _ => F9
        rename News g L _ _ => N9
        refine lcf_cell (c := L + 1) (o := ol) N9 rfl (by first | ((repeat first | exact List.mem_cons_self .. | refine List.mem_cons_of_mem _ ?_); done) | ((repeat first | exact List.forall_mem_nil _ | refine List.forall_mem_cons.2 ⟨by first | ((repeat first | exact List.mem_cons_self .. | refine List.mem_cons_of_mem _ ?_); done) | simp, ?_⟩); done) | simp) hol' ?_ (by rfl) (by rfl)
        repeat ((try dsimp only [WPost, Turn]); (fail_if_success (first | (with_reducible show wpAny _ _ (exec (Stmt.For _ _ _ _ _) _) _ _ _) | (with_reducible show wpAny _ _ (call (Value.ref _) _ _) _ _ _) | (with_reducible show wpAny _ _ (eval (Expr.ListComp _ _ _ _) _) _ _ _) | (with_reducible show wpAny _ _ (eval (Expr.DictComp _ _ _ _ _) _) _ _ _) | (with_reducible show wpAny _ _ (exec (Stmt.Assign _ (Expr.ListComp _ _ _ _) _) _) _ _ _) | (with_reducible show wpAny _ _ (exec (Stmt.Assign _ (Expr.DictComp _ _ _ _ _) _) _) _ _ _) | (with_reducible show wpAny _ _ (subscriptTail _ _ (Value.ref _) _) _ _ _) | (with_reducible show wpAny _ _ (compareOp CmpOp.NotIn _ _) _ _ _) | (with_reducible show wpAny _ _ (compareOp CmpOp.In _ _) _ _ _) | (with_reducible show wpAny _ _ (setItem _ _ _) _ _ _) | (with_reducible show wpAny _ _ (storeName _ (Str.ofString "view") _) _ _ _) | (with_reducible show wpAny _ _ (storeName _ (Str.ofString "node") _) _ _ _) | (with_reducible show wpAny _ _ (storeName _ (Str.ofString "below") _) _ _ _) | (with_reducible show wpAny _ _ (eval (Expr.Name (Str.ofString "layers") _) _) _ _ _) | (with_reducible show wpAny _ _ (eval (Expr.Name (Str.ofString "view") _) _) _ _ _) | (with_reducible show wpAny _ _ (eval (Expr.Name (Str.ofString "node") _) _) _ _ _) | (with_reducible show wpAny _ _ (eval (Expr.Name (Str.ofString "below") _) _) _ _ _) | (with_reducible show wpAny _ _ (pyIter _) _ _ _) | (with_reducible show wpAny _ _ (binaryOp Operator.Add (Value.ref _) (Value.ref _)) _ _ _))); walk1)
        rename Fr g L _ _ => F9
        rename News g L _ _ => N9
        refine lcf_cell (c := L + 1 + 1) (o := ov) N9 rfl (by first | ((repeat first | exact List.mem_cons_self .. | refine List.mem_cons_of_mem _ ?_); done) | ((repeat first | exact List.forall_mem_nil _ | refine List.forall_mem_cons.2 ⟨by first | ((repeat first | exact List.mem_cons_self .. | refine List.mem_cons_of_mem _ ?_); done) | simp, ?_⟩); done) | simp) hov ?_ (by rfl) (by rfl)
        repeat ((try dsimp only [WPost, Turn]); (fail_if_success (first | (with_reducible show wpAny _ _ (exec (Stmt.For _ _ _ _ _) _) _ _ _) | (with_reducible show wpAny _ _ (call (Value.ref _) _ _) _ _ _) | (with_reducible show wpAny _ _ (eval (Expr.ListComp _ _ _ _) _) _ _ _) | (with_reducible show wpAny _ _ (eval (Expr.DictComp _ _ _ _ _) _) _ _ _) | (with_reducible show wpAny _ _ (exec (Stmt.Assign _ (Expr.ListComp _ _ _ _) _) _) _ _ _) | (with_reducible show wpAny _ _ (exec (Stmt.Assign _ (Expr.DictComp _ _ _ _ _) _) _) _ _ _) | (with_reducible show wpAny _ _ (subscriptTail _ _ (Value.ref _) _) _ _ _) | (with_reducible show wpAny _ _ (compareOp CmpOp.NotIn _ _) _ _ _) | (with_reducible show wpAny _ _ (compareOp CmpOp.In _ _) _ _ _) | (with_reducible show wpAny _ _ (setItem _ _ _) _ _ _) | (with_reducible show wpAny _ _ (storeName _ (Str.ofString "view") _) _ _ _) | (with_reducible show wpAny _ _ (storeName _ (Str.ofString "node") _) _ _ _) | (with_reducible show wpAny _ _ (storeName _ (Str.ofString "below") _) _ _ _) | (with_reducible show wpAny _ _ (eval (Expr.Name (Str.ofString "layers") _) _) _ _ _) | (with_reducible show wpAny _ _ (eval (Expr.Name (Str.ofString "view") _) _) _ _ _) | (with_reducible show wpAny _ _ (eval (Expr.Name (Str.ofString "node") _) _) _ _ _) | (with_reducible show wpAny _ _ (eval (Expr.Name (Str.ofString "below") _) _) _ _ _) | (with_reducible show wpAny _ _ (pyIter _) _ _ _) | (with_reducible show wpAny _ _ (binaryOp Operator.Add (Value.ref _) (Value.ref _)) _ _ _))); walk1)
        rename Fr g L _ _ => F9
        rename News g L _ _ => N9
        refine cname_local (zC _ up9) hx ?_ rfl rfl
        repeat ((try dsimp only [WPost, Turn]); (fail_if_success (first | (with_reducible show wpAny _ _ (exec (Stmt.For _ _ _ _ _) _) _ _ _) | (with_reducible show wpAny _ _ (call (Value.ref _) _ _) _ _ _) | (with_reducible show wpAny _ _ (eval (Expr.ListComp _ _ _ _) _) _ _ _) | (with_reducible show wpAny _ _ (eval (Expr.DictComp _ _ _ _ _) _) _ _ _) | (with_reducible show wpAny _ _ (exec (Stmt.Assign _ (Expr.ListComp _ _ _ _) _) _) _ _ _) | (with_reducible show wpAny _ _ (exec (Stmt.Assign _ (Expr.DictComp _ _ _ _ _) _) _) _ _ _) | (with_reducible show wpAny _ _ (subscriptTail _ _ (Value.ref _) _) _ _ _) | (with_reducible show wpAny _ _ (compareOp CmpOp.NotIn _ _) _ _ _) | (with_reducible show wpAny _ _ (compareOp CmpOp.In _ _) _ _ _) | (with_reducible show wpAny _ _ (setItem _ _ _) _ _ _) | (with_reducible show wpAny _ _ (storeName _ (Str.ofString "view") _) _ _ _) | (with_reducible show wpAny _ _ (storeName _ (Str.ofString "node") _) _ _ _) | (with_reducible show wpAny _ _ (storeName _ (Str.ofString "below") _) _ _ _) | (with_reducible show wpAny _ _ (eval (Expr.Name (Str.ofString "layers") _) _) _ _ _) | (with_reducible show wpAny _ _ (eval (Expr.Name (Str.ofString "view") _) _) _ _ _) | (with_reducible show wpAny _ _ (eval (Expr.Name (Str.ofString "node") _) _) _ _ _) | (with_reducible show wpAny _ _ (eval (Expr.Name (Str.ofString "below") _) _) _ _ _) | (with_reducible show wpAny _ _ (pyIter _) _ _ _) | (with_reducible show wpAny _ _ (binaryOp Operator.Add (Value.ref _) (Value.ref _)) _ _ _))); walk1)
        rename Fr g L _ _ => F9
        rename News g L _ _ => N9
        refine kdf_item (DV.tab (up9 _ _ zV)) hnh fun tp => ?_
        rw [hpj]
        repeat ((try dsimp only [WPost, Turn]); (fail_if_success (first | (with_reducible show wpAny _ _ (exec (Stmt.For _ _ _ _ _) _) _ _ _) | (with_reducible show wpAny _ _ (call (Value.ref _) _ _) _ _ _) | (with_reducible show wpAny _ _ (eval (Expr.ListComp _ _ _ _) _) _ _ _) | (with_reducible show wpAny _ _ (eval (Expr.DictComp _ _ _ _ _) _) _ _ _) | (with_reducible show wpAny _ _ (exec (Stmt.Assign _ (Expr.ListComp _ _ _ _) _) _) _ _ _) | (with_reducible show wpAny _ _ (exec (Stmt.Assign _ (Expr.DictComp _ _ _ _ _) _) _) _ _ _) | (with_reducible show wpAny _ _ (subscriptTail _ _ (Value.ref _) _) _ _ _) | (with_reducible show wpAny _ _ (compareOp CmpOp.NotIn _ _) _ _ _) | (with_reducible show wpAny _ _ (compareOp CmpOp.In _ _) _ _ _) | (with_reducible show wpAny _ _ (setItem _ _ _) _ _ _) | (with_reducible show wpAny _ _ (storeName _ (Str.ofString "view") _) _ _ _) | (with_reducible show wpAny _ _ (storeName _ (Str.ofString "node") _) _ _ _) | (with_reducible show wpAny _ _ (storeName _ (Str.ofString "below") _) _ _ _) | (with_reducible show wpAny _ _ (eval (Expr.Name (Str.ofString "layers") _) _) _ _ _) | (with_reducible show wpAny _ _ (eval (Expr.Name (Str.ofString "view") _) _) _ _ _) | (with_reducible show wpAny _ _ (eval (Expr.Name (Str.ofString "node") _) _) _ _ _) | (with_reducible show wpAny _ _ (eval (Expr.Name (Str.ofString "below") _) _) _ _ _) | (with_reducible show wpAny _ _ (pyIter _) _ _ _) | (with_reducible show wpAny _ _ (binaryOp Operator.Add (Value.ref _) (Value.ref _)) _ _ _))); walk1)
        rename Fr g L _ _ => F9
        rename News g L _ _ => N9
        refine item_listL (l := [Value.ref (d 0), .ref (d 1), .ref (d 2)]) (x := .ref (d jj)) ⟨_, F9.keep _ _ hll, rfl, _, rfl⟩ (by (first | decide | with_reducible assumption | with_reducible exact Nat.le_trans (by assumption) (by decide) | with_reducible exact Nat.lt_of_lt_of_le (Nat.add_lt_add_right (by assumption) _) (by decide) | with_reducible exact Int.natCast_nonneg _ | omega)) (by (first | decide | with_reducible assumption | with_reducible exact Nat.le_trans (by assumption) (by decide) | with_reducible exact Nat.lt_of_lt_of_le (Nat.add_lt_add_right (by assumption) _) (by decide) | with_reducible exact Int.natCast_nonneg _ | omega)) ?_ ?_
        · have : jj = 0 ∨ jj = 1 ∨ jj = 2 := by (first | decide | with_reducible assumption | with_reducible exact Nat.le_trans (by assumption) (by decide) | with_reducible exact Nat.lt_of_lt_of_le (Nat.add_lt_add_right (by assumption) _) (by decide) | with_reducible exact Int.natCast_nonneg _ | omega)
          rcases this with rfl | rfl | rfl <;> rfl
        repeat ((try dsimp only [WPost, Turn]); (fail_if_success (first | (with_reducible show wpAny _ _ (exec (Stmt.For _ _ _ _ _) _) _ _ _) | (with_reducible show wpAny _ _ (call (Value.ref _) _ _) _ _ _) | (with_reducible show wpAny _ _ (eval (Expr.ListComp _ _ _ _) _) _ _ _) | (with_reducible show wpAny _ _ (eval (Expr.DictComp _ _ _ _ _) _) _ _ _) | (with_reducible show wpAny _ _ (exec (Stmt.Assign _ (Expr.ListComp _ _ _ _) _) _) _ _ _) | (with_reducible show wpAny _ _ (exec (Stmt.Assign _ (Expr.DictComp _ _ _ _ _) _) _) _ _ _) | (with_reducible show wpAny _ _ (subscriptTail _ _ (Value.ref _) _) _ _ _) | (with_reducible show wpAny _ _ (compareOp CmpOp.NotIn _ _) _ _ _) | (with_reducible show wpAny _ _ (compareOp CmpOp.In _ _) _ _ _) | (with_reducible show wpAny _ _ (setItem _ _ _) _ _ _) | (with_reducible show wpAny _ _ (storeName _ (Str.ofString "view") _) _ _ _) | (with_reducible show wpAny _ _ (storeName _ (Str.ofString "node") _) _ _ _) | (with_reducible show wpAny _ _ (storeName _ (Str.ofString "below") _) _ _ _) | (with_reducible show wpAny _ _ (eval (Expr.Name (Str.ofString "layers") _) _) _ _ _) | (with_reducible show wpAny _ _ (eval (Expr.Name (Str.ofString "view") _) _) _ _ _) | (with_reducible show wpAny _ _ (eval (Expr.Name (Str.ofString "node") _) _) _ _ _) | (with_reducible show wpAny _ _ (eval (Expr.Name (Str.ofString "below") _) _) _ _ _) | (with_reducible show wpAny _ _ (pyIter _) _ _ _) | (with_reducible show wpAny _ _ (binaryOp Operator.Add (Value.ref _) (Value.ref _)) _ _ _))); walk1)
        rename Fr g L _ _ => F9
        rename News g L _ _ => N9
        refine cname_local (zC _ up9) hx ?_ rfl rfl
        repeat ((try dsimp only [WPost, Turn]); (fail_if_success (first | (with_reducible show wpAny _ _ (exec (Stmt.For _ _ _ _ _) _) _ _ _) | (with_reducible show wpAny _ _ (call (Value.ref _) _ _) _ _ _) | (with_reducible show wpAny _ _ (eval (Expr.ListComp _ _ _ _) _) _ _ _) | (with_reducible show wpAny _ _ (eval (Expr.DictComp _ _ _ _ _) _) _ _ _) | (with_reducible show wpAny _ _ (exec (Stmt.Assign _ (Expr.ListComp _ _ _ _) _) _) _ _ _) | (with_reducible show wpAny _ _ (exec (Stmt.Assign _ (Expr.DictComp _ _ _ _ _) _) _) _ _ _) | (with_reducible show wpAny _ _ (subscriptTail _ _ (Value.ref _) _) _ _ _) | (with_reducible show wpAny _ _ (compareOp CmpOp.NotIn _ _) _ _ _) | (with_reducible show wpAny _ _ (compareOp CmpOp.In _ _) _ _ _) | (with_reducible show wpAny _ _ (setItem _ _ _) _ _ _) | (with_reducible show wpAny _ _ (storeName _ (Str.ofString "view") _) _ _ _) | (with_reducible show wpAny _ _ (storeName _ (Str.ofString "node") _) _ _ _) | (with_reducible show wpAny _ _ (storeName _ (Str.ofString "below") _) _ _ _) | (with_reducible show wpAny _ _ (eval (Expr.Name (Str.ofString "layers") _) _) _ _ _) | (with_reducible show wpAny _ _ (eval (Expr.Name (Str.ofString "view") _) _) _ _ _) | (with_reducible show wpAny _ _ (eval (Expr.Name (Str.ofString "node") _) _) _ _ _) | (with_reducible show wpAny _ _ (eval (Expr.Name (Str.ofString "below") _) _) _ _ _) | (with_reducible show wpAny _ _ (pyIter _) _ _ _) | (with_reducible show wpAny _ _ (binaryOp Operator.Add (Value.ref _) (Value.ref _)) _ _ _))); walk1)
        rename Fr g L _ _ => F9
        rename News g L _ _ => N9
        refine kba_turn (value' := Expr.Name (Str.ofString "_") ⟨0, 0, 0, 0⟩) (fun _ => by with_unfolding_all rfl) ?_
        refine kdf_item (Dj.tab (F9.keep _ _ hdj)) (kdfHas_iff.mpr ⟨_, hmem⟩) fun tm => ?_
        rw [hlook]
        repeat ((try dsimp only [WPost, Turn]); (fail_if_success (first | (with_reducible show wpAny _ _ (exec (Stmt.For _ _ _ _ _) _) _ _ _) | (with_reducible show wpAny _ _ (call (Value.ref _) _ _) _ _ _) | (with_reducible show wpAny _ _ (eval (Expr.ListComp _ _ _ _) _) _ _ _) | (with_reducible show wpAny _ _ (eval (Expr.DictComp _ _ _ _ _) _) _ _ _) | (with_reducible show wpAny _ _ (exec (Stmt.Assign _ (Expr.ListComp _ _ _ _) _) _) _ _ _) | (with_reducible show wpAny _ _ (exec (Stmt.Assign _ (Expr.DictComp _ _ _ _ _) _) _) _ _ _) | (with_reducible show wpAny _ _ (subscriptTail _ _ (Value.ref _) _) _ _ _) | (with_reducible show wpAny _ _ (compareOp CmpOp.NotIn _ _) _ _ _) | (with_reducible show wpAny _ _ (compareOp CmpOp.In _ _) _ _ _) | (with_reducible show wpAny _ _ (setItem _ _ _) _ _ _) | (with_reducible show wpAny _ _ (storeName _ (Str.ofString "view") _) _ _ _) | (with_reducible show wpAny _ _ (storeName _ (Str.ofString "node") _) _ _ _) | (with_reducible show wpAny _ _ (storeName _ (Str.ofString "below") _) _ _ _) | (with_reducible show wpAny _ _ (eval (Expr.Name (Str.ofString "layers") _) _) _ _ _) | (with_reducible show wpAny _ _ (eval (Expr.Name (Str.ofString "view") _) _) _ _ _) | (with_reducible show wpAny _ _ (eval (Expr.Name (Str.ofString "node") _) _) _ _ _) | (with_reducible show wpAny _ _ (eval (Expr.Name (Str.ofString "below") _) _) _ _ _) | (with_reducible show wpAny _ _ (pyIter _) _ _ _) | (with_reducible show wpAny _ _ (binaryOp Operator.Add (Value.ref _) (Value.ref _)) _ _ _))); walk1)
        rename Fr g L _ _ => F9
        rename News g L _ _ => N9
        refine wpAny_call (signs_spec Bg' (s := ⟨_, _, _, _, _⟩) F9.keep (by exact hA) (by show A.depth + 1 < 898; (first | decide | with_reducible assumption | with_reducible exact Nat.le_trans (by assumption) (by decide) | with_reducible exact Nat.lt_of_lt_of_le (Nat.add_lt_add_right (by assumption) _) (by decide) | with_reducible exact Int.natCast_nonneg _ | omega)) (by show A.units + 3 < 400; (first | decide | with_reducible assumption | with_reducible exact Nat.le_trans (by assumption) (by decide) | with_reducible exact Nat.lt_of_lt_of_le (Nat.add_lt_add_right (by assumption) _) (by decide) | with_reducible exact Int.natCast_nonneg _ | omega)) hmok hmk2 fun h10 tk10 t10 M10 => ?_)
        have F10 := Fr.keeps' F9 M10
        have N10 := News.keeps' N9 M10
        have up10 : ∀ b o, h7.get? b = some o → h10.get? b = some o := fun b o e => M10 b o (by first | ((repeat first | exact List.mem_cons_self .. | refine List.mem_cons_of_mem _ ?_); done) | ((repeat first | exact List.forall_mem_nil _ | refine List.forall_mem_cons.2 ⟨by first | ((repeat first | exact List.mem_cons_self .. | refine List.mem_cons_of_mem _ ?_); done) | simp, ?_⟩); done) | simp) (up9 b o e)
        clear F9 N9
        dsimp only
        repeat ((try dsimp only [WPost, Turn]); (fail_if_success (first | (with_reducible show wpAny _ _ (exec (Stmt.For _ _ _ _ _) _) _ _ _) | (with_reducible show wpAny _ _ (call (Value.ref _) _ _) _ _ _) | (with_reducible show wpAny _ _ (eval (Expr.ListComp _ _ _ _) _) _ _ _) | (with_reducible show wpAny _ _ (eval (Expr.DictComp _ _ _ _ _) _) _ _ _) | (with_reducible show wpAny _ _ (exec (Stmt.Assign _ (Expr.ListComp _ _ _ _) _) _) _ _ _) | (with_reducible show wpAny _ _ (exec (Stmt.Assign _ (Expr.DictComp _ _ _ _ _) _) _) _ _ _) | (with_reducible show wpAny _ _ (subscriptTail _ _ (Value.ref _) _) _ _ _) | (with_reducible show wpAny _ _ (compareOp CmpOp.NotIn _ _) _ _ _) | (with_reducible show wpAny _ _ (compareOp CmpOp.In _ _) _ _ _) | (with_reducible show wpAny _ _ (setItem _ _ _) _ _ _) | (with_reducible show wpAny _ _ (storeName _ (Str.ofString "view") _) _ _ _) | (with_reducible show wpAny _ _ (storeName _ (Str.ofString "node") _) _ _ _) | (with_reducible show wpAny _ _ (storeName _ (Str.ofString "below") _) _ _ _) | (with_reducible show wpAny _ _ (eval (Expr.Name (Str.ofString "layers") _) _) _ _ _) | (with_reducible show wpAny _ _ (eval (Expr.Name (Str.ofString "view") _) _) _ _ _) | (with_reducible show wpAny _ _ (eval (Expr.Name (Str.ofString "node") _) _) _ _ _) | (with_reducible show wpAny _ _ (eval (Expr.Name (Str.ofString "below") _) _) _ _ _) | (with_reducible show wpAny _ _ (pyIter _) _ _ _) | (with_reducible show wpAny _ _ (binaryOp Operator.Add (Value.ref _) (Value.ref _)) _ _ _))); walk1)
        rename Fr g L _ _ => F10
        rename News g L _ _ => N10
        refine lcf_cell (c := L + 1 + 1) (o := ov) N10 rfl (by first | ((repeat first | exact List.mem_cons_self .. | refine List.mem_cons_of_mem _ ?_); done) | ((repeat first | exact List.forall_mem_nil _ | refine List.forall_mem_cons.2 ⟨by first | ((repeat first | exact List.mem_cons_self .. | refine List.mem_cons_of_mem _ ?_); done) | simp, ?_⟩); done) | simp) hov ?_ (by rfl) (by rfl)
        repeat ((try dsimp only [WPost, Turn]); (fail_if_success (first | (with_reducible show wpAny _ _ (exec (Stmt.For _ _ _ _ _) _) _ _ _) | (with_reducible show wpAny _ _ (call (Value.ref _) _ _) _ _ _) | (with_reducible show wpAny _ _ (eval (Expr.ListComp _ _ _ _) _) _ _ _) | (with_reducible show wpAny _ _ (eval (Expr.DictComp _ _ _ _ _) _) _ _ _) | (with_reducible show wpAny _ _ (exec (Stmt.Assign _ (Expr.ListComp _ _ _ _) _) _) _ _ _) | (with_reducible show wpAny _ _ (exec (Stmt.Assign _ (Expr.DictComp _ _ _ _ _) _) _) _ _ _) | (with_reducible show wpAny _ _ (subscriptTail _ _ (Value.ref _) _) _ _ _) | (with_reducible show wpAny _ _ (compareOp CmpOp.NotIn _ _) _ _ _) | (with_reducible show wpAny _ _ (compareOp CmpOp.In _ _) _ _ _) | (with_reducible show wpAny _ _ (setItem _ _ _) _ _ _) | (with_reducible show wpAny _ _ (storeName _ (Str.ofString "view") _) _ _ _) | (with_reducible show wpAny _ _ (storeName _ (Str.ofString "node") _) _ _ _) | (with_reducible show wpAny _ _ (storeName _ (Str.ofString "below") _) _ _ _) | (with_reducible show wpAny _ _ (eval (Expr.Name (Str.ofString "layers") _) _) _ _ _) | (with_reducible show wpAny _ _ (eval (Expr.Name (Str.ofString "view") _) _) _ _ _) | (with_reducible show wpAny _ _ (eval (Expr.Name (Str.ofString "node") _) _) _ _ _) | (with_reducible show wpAny _ _ (eval (Expr.Name (Str.ofString "below") _) _) _ _ _) | (with_reducible show wpAny _ _ (pyIter _) _ _ _) | (with_reducible show wpAny _ _ (binaryOp Operator.Add (Value.ref _) (Value.ref _)) _ _ _))); walk1)
        rename Fr g L _ _ => F10
        rename News g L _ _ => N10
        refine cname_local (zC _ up10) hx ?_ rfl rfl
        repeat ((try dsimp only [WPost, Turn]); (fail_if_success (first | (with_reducible show wpAny _ _ (exec (Stmt.For _ _ _ _ _) _) _ _ _) | (with_reducible show wpAny _ _ (call (Value.ref _) _ _) _ _ _) | (with_reducible show wpAny _ _ (eval (Expr.ListComp _ _ _ _) _) _ _ _) | (with_reducible show wpAny _ _ (eval (Expr.DictComp _ _ _ _ _) _) _ _ _) | (with_reducible show wpAny _ _ (exec (Stmt.Assign _ (Expr.ListComp _ _ _ _) _) _) _ _ _) | (with_reducible show wpAny _ _ (exec (Stmt.Assign _ (Expr.DictComp _ _ _ _ _) _) _) _ _ _) | (with_reducible show wpAny _ _ (subscriptTail _ _ (Value.ref _) _) _ _ _) | (with_reducible show wpAny _ _ (compareOp CmpOp.NotIn _ _) _ _ _) | (with_reducible show wpAny _ _ (compareOp CmpOp.In _ _) _ _ _) | (with_reducible show wpAny _ _ (setItem _ _ _) _ _ _) | (with_reducible show wpAny _ _ (storeName _ (Str.ofString "view") _) _ _ _) | (with_reducible show wpAny _ _ (storeName _ (Str.ofString "node") _) _ _ _) | (with_reducible show wpAny _ _ (storeName _ (Str.ofString "below") _) _ _ _) | (with_reducible show wpAny _ _ (eval (Expr.Name (Str.ofString "layers") _) _) _ _ _) | (with_reducible show wpAny _ _ (eval (Expr.Name (Str.ofString "view") _) _) _ _ _) | (with_reducible show wpAny _ _ (eval (Expr.Name (Str.ofString "node") _) _) _ _ _) | (with_reducible show wpAny _ _ (eval (Expr.Name (Str.ofString "below") _) _) _ _ _) | (with_reducible show wpAny _ _ (pyIter _) _ _ _) | (with_reducible show wpAny _ _ (binaryOp Operator.Add (Value.ref _) (Value.ref _)) _ _ _))); walk1)
        rename Fr g L _ _ => F10
        rename News g L _ _ => N10
        refine kdf_item (DV.tab (up10 _ _ zV)) hnh fun tp2 => ?_
        rw [hpj]
        have neT := News.neI N10
        repeat ((try dsimp only [WPost, Turn]); (fail_if_success (first | (with_reducible show wpAny _ _ (exec (Stmt.For _ _ _ _ _) _) _ _ _) | (with_reducible show wpAny _ _ (call (Value.ref _) _ _) _ _ _) | (with_reducible show wpAny _ _ (eval (Expr.ListComp _ _ _ _) _) _ _ _) | (with_reducible show wpAny _ _ (eval (Expr.DictComp _ _ _ _ _) _) _ _ _) | (with_reducible show wpAny _ _ (exec (Stmt.Assign _ (Expr.ListComp _ _ _ _) _) _) _ _ _) | (with_reducible show wpAny _ _ (exec (Stmt.Assign _ (Expr.DictComp _ _ _ _ _) _) _) _ _ _) | (with_reducible show wpAny _ _ (subscriptTail _ _ (Value.ref _) _) _ _ _) | (with_reducible show wpAny _ _ (compareOp CmpOp.NotIn _ _) _ _ _) | (with_reducible show wpAny _ _ (compareOp CmpOp.In _ _) _ _ _) | (with_reducible show wpAny _ _ (setItem _ _ _) _ _ _) | (with_reducible show wpAny _ _ (storeName _ (Str.ofString "view") _) _ _ _) | (with_reducible show wpAny _ _ (storeName _ (Str.ofString "node") _) _ _ _) | (with_reducible show wpAny _ _ (storeName _ (Str.ofString "below") _) _ _ _) | (with_reducible show wpAny _ _ (eval (Expr.Name (Str.ofString "layers") _) _) _ _ _) | (with_reducible show wpAny _ _ (eval (Expr.Name (Str.ofString "view") _) _) _ _ _) | (with_reducible show wpAny _ _ (eval (Expr.Name (Str.ofString "node") _) _) _ _ _) | (with_reducible show wpAny _ _ (eval (Expr.Name (Str.ofString "below") _) _) _ _ _) | (with_reducible show wpAny _ _ (pyIter _) _ _ _) | (with_reducible show wpAny _ _ (binaryOp Operator.Add (Value.ref _) (Value.ref _)) _ _ _))); walk1)
        rename Fr g L _ _ => F
        rename News g L _ _ => N
        dsimp only at N neT
        generalize h10.objs.size = T at N neT ⊢
        show LCg.CompEnd g L _ _ I5 oI5 C oC D' _ _ _ _ _
        refine comp_end4 F N ⟨(neT (I5, oI5) (by first | ((repeat first | exact List.mem_cons_self .. | refine List.mem_cons_of_mem _ ?_); done) | ((repeat first | exact List.forall_mem_nil _ | refine List.forall_mem_cons.2 ⟨by first | ((repeat first | exact List.mem_cons_self .. | refine List.mem_cons_of_mem _ ?_); done) | simp, ?_⟩); done) | simp)).symm, (neT (C, oC) (by first | ((repeat first | exact List.mem_cons_self .. | refine List.mem_cons_of_mem _ ?_); done) | ((repeat first | exact List.forall_mem_nil _ | refine List.forall_mem_cons.2 ⟨by first | ((repeat first | exact List.mem_cons_self .. | refine List.mem_cons_of_mem _ ?_); done) | simp, ?_⟩); done) | simp)).symm, (neT (D', LCg.lst (ls.map fun e => Value.ref e.1)) (by first | ((repeat first | exact List.mem_cons_self .. | refine List.mem_cons_of_mem _ ?_); done) | ((repeat first | exact List.forall_mem_nil _ | refine List.forall_mem_cons.2 ⟨by first | ((repeat first | exact List.mem_cons_self .. | refine List.mem_cons_of_mem _ ?_); done) | simp, ?_⟩); done) | simp)).symm⟩ off (.inr ⟨_, List.mem_cons_self .., rfl, _, rfl⟩) ⟨ls ++ [(T, tupOf [.str (textOf n) t9, .str (signsOf mode) t10, .int (jj : Int) tp2], laidRow c n)], by simp [tupOf], by simp, ?_, ?_⟩
        · intro e he
          rcases List.mem_append.mp he with he | he
          · exact hob2 e he
          · rw [List.mem_singleton.mp he]
            show LaidObj _ (laidRow c n)
            rw [hrow]
            exact ⟨_, _, _, rfl⟩
        · rw [List.map_append, hdat, List.take_add_one, hnj, Option.toList_some, List.map_append]
          rfl
      · clear F N
        rintro zs nx ⟨ls, rfl, rfl, hob2, hdat⟩ D4 h7 tk7 F N off
        have hlen : ys.toArray.size = (preL.filter fun n => kdfHas cv n).length := by rw [List.size_toArray]; exact hys.length
        rw [hlen, List.take_length] at hdat
        have hfil : (preL.filter fun n => kdfHas cv n) = preL.filter fun n => (vwRun c 3 n).isSome := by
          refine List.filter_congr fun n _ => ?_
          rw [hvw3 n]
          cases kdfHas cv n <;> (first | ((repeat first | exact List.mem_cons_self .. | refine List.mem_cons_of_mem _ ?_); done) | ((repeat first | exact List.forall_mem_nil _ | refine List.forall_mem_cons.2 ⟨by first | ((repeat first | exact List.mem_cons_self .. | refine List.mem_cons_of_mem _ ?_); done) | simp, ?_⟩); done) | simp)
        refine hR _ _ D4 (ls.map fun e => Value.ref e.1).length ls (back _ F.keep) (born_here (S := []) (fun b o _ e => hg b o e) N (List.mem_cons_self ..) (by first | ((repeat first | exact List.mem_cons_self .. | refine List.mem_cons_of_mem _ ?_); done) | ((repeat first | exact List.forall_mem_nil _ | refine List.forall_mem_cons.2 ⟨by first | ((repeat first | exact List.mem_cons_self .. | refine List.mem_cons_of_mem _ ?_); done) | simp, ?_⟩); done) | simp)) (N _ (List.mem_cons_self ..)).1 (fun e he => ?_) (by rw [hdat, hfil]; rfl)
        have hm' : (e.1, e.2.1) ∈ (D4, LCg.lst (ls.map fun e => Value.ref e.1)) :: (D3, LCg.lst ys) :: (L + 1 + 1 + 1 + 1, ob) :: (L + 1 + 1 + 1, on) :: (L + 1 + 1, ov) :: (L + 1, ol) :: (V, vo) :: ls.map (fun e => (e.1, e.2.1)) := by
          simp only [List.mem_cons]
          exact .inr (.inr (.inr (.inr (.inr (.inr (.inr (List.mem_map.mpr ⟨e, he, rfl⟩)))))))
        exact ⟨born_here (S := []) (fun b o _ e => hg b o e) N hm' (by first | ((repeat first | exact List.mem_cons_self .. | refine List.mem_cons_of_mem _ ?_); done) | ((repeat first | exact List.forall_mem_nil _ | refine List.forall_mem_cons.2 ⟨by first | ((repeat first | exact List.mem_cons_self .. | refine List.mem_cons_of_mem _ ?_); done) | simp, ?_⟩); done) | simp), (N _ hm').1, hob2 e he⟩
end
end Mine
namespace Mine
open PySem PySem.W PySem.Calls PyProof.Rows PyProof.V
theorem strOk_append {a b : Str} (ha : PyData.strOk a = true) (hb : PyData.strOk b = true) : PyData.strOk (a ++ b) = true := by
  unfold PyData.strOk at *
  rw [show (a ++ b).cps = a.cps ++ b.cps from rfl, Array.all_append, ha, hb]; rfl
theorem strOk_join {sep : Str} (hs : PyData.strOk sep = true) : ∀ l : List Str, (∀ x ∈ l, PyData.strOk x = true) → PyData.strOk (Str.join sep l) = true
  | [], _ => by rw [show Str.join sep [] = Str.empty from rfl]; decide +kernel
  | [x], h => h x (List.mem_cons_self ..)
  | x :: y :: r, h => strOk_append (strOk_append (h x (List.mem_cons_self ..)) hs) (strOk_join hs (y :: r) fun z hz => h z (List.mem_cons_of_mem _ hz))
theorem strOk_right (v : Int) (i : Nat) : PyData.strOk (rightOf v i) = true := by
  unfold rightOf
  split
  · have h : (i : Int).fmod 3 = 0 ∨ (i : Int).fmod 3 = 1 ∨ (i : Int).fmod 3 = 2 := by rw [Int.fmod_eq_emod_of_nonneg _ (by decide)]; (first | decide | with_reducible assumption | with_reducible exact Nat.le_trans (by assumption) (by decide) | with_reducible exact Nat.lt_of_lt_of_le (Nat.add_lt_add_right (by assumption) _) (by decide) | with_reducible exact Int.natCast_nonneg _ | omega)
    rcases h with e | e | e <;> rw [e] <;> decide +kernel
  · decide +kernel
theorem strOk_signs (v : Int) : PyData.strOk (signsOf v) = true := by
  unfold signsOf
  refine strOk_append ?_ ?_
  · unfold letterOf
    repeat' split
    all_goals decide +kernel
  · unfold Txt.join
    rw [StrLaws.glued_eq_join]
    refine strOk_join (by decide +kernel) _ fun x hx => ?_
    obtain ⟨i, _, rfl⟩ := List.mem_map.mp hx
    exact strOk_right v i
def datL (r : RowT) : Dat := .tuple [.str (textOf r.2.1), .str (signsOf r.2.2), .int r.1]
theorem datL_ok {r : RowT} (h : NodeOk r.2.1) : kqdOk 8 (datL r) = true := by
  have : PyData.strOk (textOf r.2.1) = true := NodeOk.all (P := fun k => PyData.strOk (textOf k) = true) (by decide +kernel) h
  simp [datL, kqdOk, this, strOk_signs]
def RowGood (r : RowT) : Prop := NodeOk r.2.1 ∧ ModeOk r.2.2 ∧ r.2.2.fdiv 4096 ≠ 2
theorem laid_good {c : Nat → List (Int × Int)} (W : ∀ j, j < 3 → WF (c j)) {r : RowT} (h : r ∈ laidRows c) : RowGood r := by
  obtain ⟨n, hn, rfl⟩ := List.mem_map.mp h
  obtain ⟨h1, h2⟩ := List.mem_filter.mp hn
  obtain ⟨p, hp⟩ := Option.isSome_iff_exists.mp h2
  obtain ⟨j, rfl, hj, mode, hm, hk⟩ := vw_facts c 3 n p hp
  have hpl : placeOf c n = (j : Int) := by unfold placeOf; rw [hp]; rfl
  have e : laidRow c n = ((j : Int), n, mode) := by
    unfold laidRow
    rw [hpl, Int.toNat_natCast, kdfLook_mem (W j hj).nodup hm]
  rw [e]
  exact ⟨preL_ok n h1, (W j hj).mode _ hm, hk⟩
theorem told_laid {o : Obj} {r : RowT} (h : ToldObj o r) (hr : RowGood r) : LaidObj o r := by
  obtain ⟨t, u, v, rfl⟩ := h
  exact ⟨t, u, v, by rw [← signs_eq hr.2.1 hr.2.2]⟩
theorem datAll_laid {news : List (Addr × Obj)} : ∀ {ls : List (Addr × Obj × RowT)}, (∀ e ∈ ls, (e.1, e.2.1) ∈ news ∧ LaidObj e.2.1 e.2.2) → DatAll news (ls.map fun e => Value.ref e.1) ((ls.map (·.2.2)).map datL)
  | [], _ => .nil
  | e :: ls, H => by
    obtain ⟨hm, t, u, v, ho⟩ := H e (List.mem_cons_self ..)
    refine .cons ?_ (datAll_laid fun e' he => H e' (List.mem_cons_of_mem _ he))
    rw [ho] at hm
    exact .tuple hm (.cons (.str _ _) (.cons (.str _ _) (.cons (.int _ _) .nil)))
theorem bornAll {g h h' : Heap} {L : Addr} {m : Str → Option Value} {news l : List (Addr × Obj)} (F : Fr g L h m) (N : News g L h news) (M : Mod [] h h') (hl : ∀ p ∈ l, h.get? p.1 = none ∧ h'.get? p.1 = some p.2) : News g L h' (l ++ news) := by
  intro p hp
  rcases List.mem_append.mp hp with hp | hp
  · obtain ⟨a, b⟩ := hl p hp
    exact ⟨b, L_fresh F a, base_fresh F a⟩
  · exact News.keeps' N M p hp
theorem row_ok {c : Nat → List (Int × Int)} (W : ∀ j, j < 3 → WF (c j)) {r : RowT} (h : r ∈ rowsUpTo c 3) : RowOk r := by
  obtain ⟨p, hp, q, hq, rfl⟩ := rows_mem.mp h
  exact ⟨(W p hp).key q hq, by show (0 : Int) ≤ (p : Int); (first | decide | with_reducible assumption | with_reducible exact Nat.le_trans (by assumption) (by decide) | with_reducible exact Nat.lt_of_lt_of_le (Nat.add_lt_add_right (by assumption) _) (by decide) | with_reducible exact Int.natCast_nonneg _ | omega), by show (p : Int) < 3; (first | decide | with_reducible assumption | with_reducible exact Nat.le_trans (by assumption) (by decide) | with_reducible exact Nat.lt_of_lt_of_le (Nat.add_lt_add_right (by assumption) _) (by decide) | with_reducible exact Int.natCast_nonneg _ | omega), (W p hp).mode q hq⟩
end Mine
namespace Mine
open PySem PySem.W PySem.Calls PyProof.Rows PyProof.V
def lay3 (c0 c1 c2 : List (Int × Int)) : Nat → List (Int × Int)
  | 0 => c0
  | 1 => c1
  | _ => c2
theorem lay3_wf {c0 c1 c2 : List (Int × Int)} (W0 : WF c0) (W1 : WF c1) (W2 : WF c2) : ∀ j, j < 3 → WF (lay3 c0 c1 c2 j) := by
  intro j hj
  have : j = 0 ∨ j = 1 ∨ j = 2 := by (first | decide | with_reducible assumption | with_reducible exact Nat.le_trans (by assumption) (by decide) | with_reducible exact Nat.lt_of_lt_of_le (Nat.add_lt_add_right (by assumption) _) (by decide) | with_reducible exact Int.natCast_nonneg _ | omega)
  rcases this with rfl | rfl | rfl
  · exact W0
  · exact W1
  · exact W2
theorem lay3_at {prog : Program} {w : World} {h : Heap} {ll d0 d1 d2 : Addr} {o0 o1 o2 : Obj} {c0 c1 c2 : List (Int × Int)} (hl : h.get? ll = some (listOf #[Value.ref d0, .ref d1, .ref d2] 0)) (h0 : h.get? d0 = some o0) (h1 : h.get? d1 = some o1) (h2 : h.get? d2 = some o2)
    (D0 : DObj prog w d0 o0 c0 ∧ WF c0) (D1 : DObj prog w d1 o1 c1 ∧ WF c1) (D2 : DObj prog w d2 o2 c2 ∧ WF c2) : LayAt prog w h ll (lay3 c0 c1 c2) := by
  refine ⟨fun j => match j with | 0 => d0 | 1 => d1 | _ => d2, fun j => match j with | 0 => o0 | 1 => o1 | _ => o2, hl, ?_⟩
  intro j hj
  have : j = 0 ∨ j = 1 ∨ j = 2 := by (first | decide | with_reducible assumption | with_reducible exact Nat.le_trans (by assumption) (by decide) | with_reducible exact Nat.lt_of_lt_of_le (Nat.add_lt_add_right (by assumption) _) (by decide) | with_reducible exact Int.natCast_nonneg _ | omega)
  rcases this with rfl | rfl | rfl
  · exact ⟨h0, D0⟩
  · exact ⟨h1, D1⟩
  · exact ⟨h2, D2⟩
theorem rows_len {c : Nat → List (Int × Int)} (W : ∀ j, j < 3 → WF (c j)) {α β : Type} {es : List (α × β × RowT)} (h : es.map (·.2.2) = rowsUpTo c 3) : es.length ≤ 100 := by
  have h1 := congrArg List.length h
  have h2 := rowsUpTo_len (c := c) (i := 3) fun j hj => (W j hj).len
  rw [List.length_map] at h1
  (first | decide | with_reducible assumption | with_reducible exact Nat.le_trans (by assumption) (by decide) | with_reducible exact Nat.lt_of_lt_of_le (Nat.add_lt_add_right (by assumption) _) (by decide) | with_reducible exact Int.natCast_nonneg _ | omega)
end Mine
open PySem PySem.W PySem.Calls PyProof.Rows PyProof.V
theorem Mine.main : PySem.Challenge.rw_pd0156_01.Holds := by
  w_on
  refine holds_law hd.wellSaid fun said => ?_
  refine holds_open (q := hd.only) (loose := (Str.ofString "_wall" :: Str.ofString "S_IFMT" :: Str.ofString "S_IFDIR" :: Str.ofString "S_IFCHR" :: Str.ofString "S_IFBLK" :: Str.ofString "S_IFREG" :: Str.ofString "S_IFIFO" :: Str.ofString "S_IFLNK" :: Str.ofString "S_IFSOCK" :: Str.ofString "S_ISDIR" :: Str.ofString "S_ISCHR" :: Str.ofString "S_ISUID" :: Str.ofString "S_ISGID" :: Str.ofString "S_ISVTX" :: Str.ofString "S_IRUSR" :: Str.ofString "S_IWUSR" :: Str.ofString "S_IXUSR" :: Str.ofString "S_IRGRP" :: Str.ofString "S_IWGRP" :: Str.ofString "S_IXGRP" :: Str.ofString "S_IROTH" :: Str.ofString "S_IWOTH" :: Str.ofString "S_IXOTH" :: Str.ofString "_filemode_table" :: Str.ofString "filemode" :: Str.ofString "heappop" :: Str.ofString "heapify" :: Str.ofString "_siftdown" :: Str.ofString "_siftup" :: Str.ofString "_plain_name" :: Str.ofString "ABCMeta" :: Str.ofString "_ABCLike" :: Str.ofString "_abc_plain_meta" :: Str.ofString "fspath" :: Str.ofString "_check_arg_types" :: Str.ofString "_get_sep" :: Str.ofString "join" :: Str.ofString "splitroot" :: Str.ofString "dirname" :: Str.ofString "normpath" :: Str.ofString "_law_numbers" :: Str.ofString "_law_line" :: Str.ofString "_law_text" :: Str.ofString "_law_layers" :: Str.ofString "_law_rows" :: Str.ofString "_law_swept" :: Str.ofString "_law_signs" :: Str.ofString "_law_laid" :: [])) (Xt := fun s => xlAt hd.only [] s && recOk (RowW.records (OpenRow.toRowW (OpenLaw.row PySem.Challenge.rw_pd0156_01))) s) (XP := XL hd.only []) (Yf := Hook.obs (kHook hd.heap_39 (nat_lit 2 :: nat_lit 3 :: nat_lit 27 :: nat_lit 28 :: nat_lit 34 :: nat_lit 35 :: nat_lit 41 :: nat_lit 42 :: nat_lit 43 :: nat_lit 44 :: nat_lit 45 :: nat_lit 46 :: nat_lit 47 :: nat_lit 48 :: nat_lit 49 :: nat_lit 50 :: nat_lit 51 :: nat_lit 52 :: nat_lit 53 :: nat_lit 54 :: nat_lit 55 :: nat_lit 56 :: nat_lit 57 :: nat_lit 58 :: nat_lit 59 :: nat_lit 60 :: nat_lit 61 :: nat_lit 62 :: nat_lit 63 :: nat_lit 64 :: nat_lit 65 :: nat_lit 66 :: nat_lit 67 :: nat_lit 68 :: nat_lit 69 :: nat_lit 70 :: nat_lit 71 :: nat_lit 72 :: nat_lit 73 :: nat_lit 74 :: nat_lit 75 :: nat_lit 81 :: nat_lit 82 :: nat_lit 88 :: nat_lit 89 :: nat_lit 95 :: nat_lit 96 :: nat_lit 102 :: nat_lit 103 :: nat_lit 109 :: nat_lit 110 :: nat_lit 182 :: nat_lit 183 :: nat_lit 196 :: nat_lit 197 :: nat_lit 203 :: nat_lit 204 :: nat_lit 210 :: nat_lit 211 :: nat_lit 217 :: nat_lit 218 :: nat_lit 224 :: nat_lit 225 :: nat_lit 229 :: nat_lit 230 :: nat_lit 236 :: nat_lit 237 :: nat_lit 241 :: nat_lit 242 :: nat_lit 246 :: nat_lit 247 :: nat_lit 253 :: nat_lit 254 :: nat_lit 258 :: nat_lit 259 :: nat_lit 263 :: nat_lit 264 :: nat_lit 268 :: nat_lit 269 :: nat_lit 275 :: nat_lit 276 :: []) (fun _ => by kernel_rfl))) (Ya := Hook.val (kHook hd.heap_39 (nat_lit 2 :: nat_lit 3 :: nat_lit 27 :: nat_lit 28 :: nat_lit 34 :: nat_lit 35 :: nat_lit 41 :: nat_lit 42 :: nat_lit 43 :: nat_lit 44 :: nat_lit 45 :: nat_lit 46 :: nat_lit 47 :: nat_lit 48 :: nat_lit 49 :: nat_lit 50 :: nat_lit 51 :: nat_lit 52 :: nat_lit 53 :: nat_lit 54 :: nat_lit 55 :: nat_lit 56 :: nat_lit 57 :: nat_lit 58 :: nat_lit 59 :: nat_lit 60 :: nat_lit 61 :: nat_lit 62 :: nat_lit 63 :: nat_lit 64 :: nat_lit 65 :: nat_lit 66 :: nat_lit 67 :: nat_lit 68 :: nat_lit 69 :: nat_lit 70 :: nat_lit 71 :: nat_lit 72 :: nat_lit 73 :: nat_lit 74 :: nat_lit 75 :: nat_lit 81 :: nat_lit 82 :: nat_lit 88 :: nat_lit 89 :: nat_lit 95 :: nat_lit 96 :: nat_lit 102 :: nat_lit 103 :: nat_lit 109 :: nat_lit 110 :: nat_lit 182 :: nat_lit 183 :: nat_lit 196 :: nat_lit 197 :: nat_lit 203 :: nat_lit 204 :: nat_lit 210 :: nat_lit 211 :: nat_lit 217 :: nat_lit 218 :: nat_lit 224 :: nat_lit 225 :: nat_lit 229 :: nat_lit 230 :: nat_lit 236 :: nat_lit 237 :: nat_lit 241 :: nat_lit 242 :: nat_lit 246 :: nat_lit 247 :: nat_lit 253 :: nat_lit 254 :: nat_lit 258 :: nat_lit 259 :: nat_lit 263 :: nat_lit 264 :: nat_lit 268 :: nat_lit 269 :: nat_lit 275 :: nat_lit 276 :: []) (fun _ => by kernel_rfl))) (YP := Hook.says (kHook hd.heap_39 (nat_lit 2 :: nat_lit 3 :: nat_lit 27 :: nat_lit 28 :: nat_lit 34 :: nat_lit 35 :: nat_lit 41 :: nat_lit 42 :: nat_lit 43 :: nat_lit 44 :: nat_lit 45 :: nat_lit 46 :: nat_lit 47 :: nat_lit 48 :: nat_lit 49 :: nat_lit 50 :: nat_lit 51 :: nat_lit 52 :: nat_lit 53 :: nat_lit 54 :: nat_lit 55 :: nat_lit 56 :: nat_lit 57 :: nat_lit 58 :: nat_lit 59 :: nat_lit 60 :: nat_lit 61 :: nat_lit 62 :: nat_lit 63 :: nat_lit 64 :: nat_lit 65 :: nat_lit 66 :: nat_lit 67 :: nat_lit 68 :: nat_lit 69 :: nat_lit 70 :: nat_lit 71 :: nat_lit 72 :: nat_lit 73 :: nat_lit 74 :: nat_lit 75 :: nat_lit 81 :: nat_lit 82 :: nat_lit 88 :: nat_lit 89 :: nat_lit 95 :: nat_lit 96 :: nat_lit 102 :: nat_lit 103 :: nat_lit 109 :: nat_lit 110 :: nat_lit 182 :: nat_lit 183 :: nat_lit 196 :: nat_lit 197 :: nat_lit 203 :: nat_lit 204 :: nat_lit 210 :: nat_lit 211 :: nat_lit 217 :: nat_lit 218 :: nat_lit 224 :: nat_lit 225 :: nat_lit 229 :: nat_lit 230 :: nat_lit 236 :: nat_lit 237 :: nat_lit 241 :: nat_lit 242 :: nat_lit 246 :: nat_lit 247 :: nat_lit 253 :: nat_lit 254 :: nat_lit 258 :: nat_lit 259 :: nat_lit 263 :: nat_lit 264 :: nat_lit 268 :: nat_lit 269 :: nat_lit 275 :: nat_lit 276 :: []) (fun _ => by kernel_rfl))) (N := 3626) hd.left (Hook.of (kHook hd.heap_39 (nat_lit 2 :: nat_lit 3 :: nat_lit 27 :: nat_lit 28 :: nat_lit 34 :: nat_lit 35 :: nat_lit 41 :: nat_lit 42 :: nat_lit 43 :: nat_lit 44 :: nat_lit 45 :: nat_lit 46 :: nat_lit 47 :: nat_lit 48 :: nat_lit 49 :: nat_lit 50 :: nat_lit 51 :: nat_lit 52 :: nat_lit 53 :: nat_lit 54 :: nat_lit 55 :: nat_lit 56 :: nat_lit 57 :: nat_lit 58 :: nat_lit 59 :: nat_lit 60 :: nat_lit 61 :: nat_lit 62 :: nat_lit 63 :: nat_lit 64 :: nat_lit 65 :: nat_lit 66 :: nat_lit 67 :: nat_lit 68 :: nat_lit 69 :: nat_lit 70 :: nat_lit 71 :: nat_lit 72 :: nat_lit 73 :: nat_lit 74 :: nat_lit 75 :: nat_lit 81 :: nat_lit 82 :: nat_lit 88 :: nat_lit 89 :: nat_lit 95 :: nat_lit 96 :: nat_lit 102 :: nat_lit 103 :: nat_lit 109 :: nat_lit 110 :: nat_lit 182 :: nat_lit 183 :: nat_lit 196 :: nat_lit 197 :: nat_lit 203 :: nat_lit 204 :: nat_lit 210 :: nat_lit 211 :: nat_lit 217 :: nat_lit 218 :: nat_lit 224 :: nat_lit 225 :: nat_lit 229 :: nat_lit 230 :: nat_lit 236 :: nat_lit 237 :: nat_lit 241 :: nat_lit 242 :: nat_lit 246 :: nat_lit 247 :: nat_lit 253 :: nat_lit 254 :: nat_lit 258 :: nat_lit 259 :: nat_lit 263 :: nat_lit 264 :: nat_lit 268 :: nat_lit 269 :: nat_lit 275 :: nat_lit 276 :: []) (fun _ => by kernel_rfl))) (Hook.keeps (kHook hd.heap_39 (nat_lit 2 :: nat_lit 3 :: nat_lit 27 :: nat_lit 28 :: nat_lit 34 :: nat_lit 35 :: nat_lit 41 :: nat_lit 42 :: nat_lit 43 :: nat_lit 44 :: nat_lit 45 :: nat_lit 46 :: nat_lit 47 :: nat_lit 48 :: nat_lit 49 :: nat_lit 50 :: nat_lit 51 :: nat_lit 52 :: nat_lit 53 :: nat_lit 54 :: nat_lit 55 :: nat_lit 56 :: nat_lit 57 :: nat_lit 58 :: nat_lit 59 :: nat_lit 60 :: nat_lit 61 :: nat_lit 62 :: nat_lit 63 :: nat_lit 64 :: nat_lit 65 :: nat_lit 66 :: nat_lit 67 :: nat_lit 68 :: nat_lit 69 :: nat_lit 70 :: nat_lit 71 :: nat_lit 72 :: nat_lit 73 :: nat_lit 74 :: nat_lit 75 :: nat_lit 81 :: nat_lit 82 :: nat_lit 88 :: nat_lit 89 :: nat_lit 95 :: nat_lit 96 :: nat_lit 102 :: nat_lit 103 :: nat_lit 109 :: nat_lit 110 :: nat_lit 182 :: nat_lit 183 :: nat_lit 196 :: nat_lit 197 :: nat_lit 203 :: nat_lit 204 :: nat_lit 210 :: nat_lit 211 :: nat_lit 217 :: nat_lit 218 :: nat_lit 224 :: nat_lit 225 :: nat_lit 229 :: nat_lit 230 :: nat_lit 236 :: nat_lit 237 :: nat_lit 241 :: nat_lit 242 :: nat_lit 246 :: nat_lit 247 :: nat_lit 253 :: nat_lit 254 :: nat_lit 258 :: nat_lit 259 :: nat_lit 263 :: nat_lit 264 :: nat_lit 268 :: nat_lit 269 :: nat_lit 275 :: nat_lit 276 :: []) (fun _ => by kernel_rfl))) (fun s e => xl_of s (Bool.and_eq_true_iff.mp e).1) XL.keeps (by rfl) (by rfl) (by rfl) (fun s e => recFacts_of (Bool.and_eq_true_iff.mp e).2) (by rfl) (by first | assumption | decide +kernel) (by decide +kernel) ⟨rfl, rfl, rfl, rfl, rfl, by decide +kernel⟩ ?hw ?hc
  (case hw => w_witness2)
  w_strict (k_go0
            rename Fr _ _ _ _ => F
            rename Top _ _ _ _ _ _ => TT
            rename IntsAre _ _ => hI
            rename (PySem.W.Frag.In _ _) => KX
            repeat ((try dsimp only []); (fail_if_success (first | (with_reducible show wpAny _ _ (call (Value.ref _) _ _) _ _ _) | (with_reducible show wpAny _ _ (compareOp CmpOp.Eq (Value.ref _) (Value.ref _)) _ _ _) | (with_reducible show wpAny _ _ (call (Value.builtin "sum") _) _ _ _))); walk1)
            rename Heap.IsList _ _ _ => hLs
            rename ¬ ((63 : Nat) : Int) < _ => hc63
            have Bg := Mine.Base.mk KX ⟨_, _, _, _, topRead_of TT⟩
            have hA : callerA.handled = none := rfl
            refine wpAny_call (Mine.numbers_spec Bg (s := ⟨_, _, _, _, _⟩) F.keep (by exact hA) (by show callerA.depth + 1 < 899; decide) hLs hI (by (first | decide | with_reducible assumption | with_reducible exact Nat.le_trans (by assumption) (by decide) | with_reducible exact Nat.lt_of_lt_of_le (Nat.add_lt_add_right (by assumption) _) (by decide) | with_reducible exact Int.natCast_nonneg _ | omega)) fun h2 tk2 b us ms ep2 M2 hb0 hb hI2 hms hmb => ?_)
            have F2 := Mine.Fr.keeps' F M2
            have N2 := Mine.News.born F News.nil M2 hb0 hb
            have hml : us.length = 8 := by rw [hI2.length, hms]
            clear F
            dsimp only
            repeat ((try dsimp only []); (fail_if_success (first | (with_reducible show wpAny _ _ (call (Value.ref _) _ _) _ _ _) | (with_reducible show wpAny _ _ (compareOp CmpOp.Eq (Value.ref _) (Value.ref _)) _ _ _) | (with_reducible show wpAny _ _ (call (Value.builtin "sum") _) _ _ _))); walk1)
            rename Fr _ _ _ _ => F
            rename News _ _ _ _ => N
            refine wpAny_call (Mine.layers_spec Bg (s := ⟨_, _, _, _, _⟩) F.keep (by exact hA) (by show callerA.depth + 1 < 898; decide) (by show callerA.units + 3 < 400; decide) (News.isList N (List.mem_cons_self ..)) hI2 hmb (by (first | decide | with_reducible assumption | with_reducible exact Nat.le_trans (by assumption) (by decide) | with_reducible exact Nat.lt_of_lt_of_le (Nat.add_lt_add_right (by assumption) _) (by decide) | with_reducible exact Int.natCast_nonneg _ | omega)) fun h3 tk3 ll d0 d1 d2 o0 o1 o2 c0 c1 c2 M3 hnew D0 D1 D2 hord => ?_)
            have F3 := Mine.Fr.keeps' F M3
            have N3 := Mine.bornAll F N M3 hnew
            clear F N
            dsimp only
            repeat ((try dsimp only []); (fail_if_success (first | (with_reducible show wpAny _ _ (call (Value.ref _) _ _) _ _ _) | (with_reducible show wpAny _ _ (compareOp CmpOp.Eq (Value.ref _) (Value.ref _)) _ _ _) | (with_reducible show wpAny _ _ (call (Value.builtin "sum") _) _ _ _))); walk1)
            rename Fr _ _ _ _ => F
            rename News _ _ _ _ => N
            refine LSm.sum_ints F N (by exact hA) (News.isList N (show (b, listOf (List.toArray us) ep2) ∈ _ from by first | ((repeat first | exact List.mem_cons_self .. | refine List.mem_cons_of_mem _ ?_); done) | ((repeat first | exact List.forall_mem_nil _ | refine List.forall_mem_cons.2 ⟨by first | ((repeat first | exact List.mem_cons_self .. | refine List.mem_cons_of_mem _ ?_); done) | simp, ?_⟩); done) | simp)) hI2 fun h4 tk4 t4 F4 N4 => ?_
            clear F N
            dsimp only
            repeat ((try dsimp only []); (fail_if_success (first | (with_reducible show wpAny _ _ (call (Value.ref _) _ _) _ _ _) | (with_reducible show wpAny _ _ (compareOp CmpOp.Eq (Value.ref _) (Value.ref _)) _ _ _) | (with_reducible show wpAny _ _ (call (Value.builtin "sum") _) _ _ _))); walk1)
            rename Fr _ _ _ _ => F
            rename News _ _ _ _ => N
            have hlay : Mine.LayAt _ _ _ ll (Mine.lay3 c0 c1 c2) := Mine.lay3_at (N (ll, listOf #[Value.ref d0, .ref d1, .ref d2] 0) (by first | ((repeat first | exact List.mem_cons_self .. | refine List.mem_cons_of_mem _ ?_); done) | ((repeat first | exact List.forall_mem_nil _ | refine List.forall_mem_cons.2 ⟨by first | ((repeat first | exact List.mem_cons_self .. | refine List.mem_cons_of_mem _ ?_); done) | simp, ?_⟩); done) | simp)).1 (N (d0, o0) (by first | ((repeat first | exact List.mem_cons_self .. | refine List.mem_cons_of_mem _ ?_); done) | ((repeat first | exact List.forall_mem_nil _ | refine List.forall_mem_cons.2 ⟨by first | ((repeat first | exact List.mem_cons_self .. | refine List.mem_cons_of_mem _ ?_); done) | simp, ?_⟩); done) | simp)).1 (N (d1, o1) (by first | ((repeat first | exact List.mem_cons_self .. | refine List.mem_cons_of_mem _ ?_); done) | ((repeat first | exact List.forall_mem_nil _ | refine List.forall_mem_cons.2 ⟨by first | ((repeat first | exact List.mem_cons_self .. | refine List.mem_cons_of_mem _ ?_); done) | simp, ?_⟩); done) | simp)).1 (N (d2, o2) (by first | ((repeat first | exact List.mem_cons_self .. | refine List.mem_cons_of_mem _ ?_); done) | ((repeat first | exact List.forall_mem_nil _ | refine List.forall_mem_cons.2 ⟨by first | ((repeat first | exact List.mem_cons_self .. | refine List.mem_cons_of_mem _ ?_); done) | simp, ?_⟩); done) | simp)).1 D0 D1 D2
            have W := Mine.lay3_wf D0.2 D1.2 D2.2
            refine wpAny_call (Mine.rows_spec Bg (s := ⟨_, _, _, _, _⟩) F.keep (by exact hA) (by show callerA.depth + 1 < 897; decide) (by show callerA.units + 3 < 400; decide) hlay fun h5 tk5 rr ep5 es M5 hrn hrr hes hrows => ?_)
            have hel := Mine.rows_len W hrows
            have N5 := Mine.bornAll (l := (rr, listOf (es.map fun e => Value.ref e.1).toArray ep5) :: es.map (fun e => (e.1, e.2.1))) F N M5 (fun p hp => by
              rcases List.mem_cons.mp hp with rfl | hp
              · exact ⟨hrn, hrr⟩
              · obtain ⟨e, he, rfl⟩ := List.mem_map.mp hp
                exact ⟨(hes e he).1, (hes e he).2.1⟩)
            have F5 := Mine.Fr.keeps' F M5
            have hlay5 := hlay.keeps fun b o e => M5 b o (by first | ((repeat first | exact List.mem_cons_self .. | refine List.mem_cons_of_mem _ ?_); done) | ((repeat first | exact List.forall_mem_nil _ | refine List.forall_mem_cons.2 ⟨by first | ((repeat first | exact List.mem_cons_self .. | refine List.mem_cons_of_mem _ ?_); done) | simp, ?_⟩); done) | simp) e
            clear F N
            dsimp only
            repeat ((try dsimp only []); (fail_if_success (first | (with_reducible show wpAny _ _ (call (Value.ref _) _ _) _ _ _) | (with_reducible show wpAny _ _ (compareOp CmpOp.Eq (Value.ref _) (Value.ref _)) _ _ _) | (with_reducible show wpAny _ _ (call (Value.builtin "sum") _) _ _ _))); walk1)
            refine wpAny_call (Mine.swept_spec Bg (s := ⟨_, _, _, _, _⟩) F5.keep (by exact hA) (by show callerA.depth + 1 < 896; decide) (by show callerA.units + 3 < 300; decide) hrr (fun e he => ⟨(hes e he).2.1, (hes e he).2.2, Mine.row_ok W (by rw [← hrows]; exact List.mem_map_of_mem he)⟩) hel fun h6 tk6 D ep6 te done M6 hDn hD hte hperm hpw htold => ?_)
            have N6 := Mine.bornAll (l := (D, listOf (te.map fun e => Value.ref e.1).toArray ep6) :: te.map (fun e => (e.1, e.2.1))) F5 N5 M6 (fun p hp => by
              rcases List.mem_cons.mp hp with rfl | hp
              · exact ⟨hDn, hD⟩
              · obtain ⟨e, he, rfl⟩ := List.mem_map.mp hp
                exact ⟨(hte e he).1, (hte e he).2.1⟩)
            have F6 := Mine.Fr.keeps' F5 M6
            have hlay6 := hlay5.keeps fun b o e => M6 b o (by first | ((repeat first | exact List.mem_cons_self .. | refine List.mem_cons_of_mem _ ?_); done) | ((repeat first | exact List.forall_mem_nil _ | refine List.forall_mem_cons.2 ⟨by first | ((repeat first | exact List.mem_cons_self .. | refine List.mem_cons_of_mem _ ?_); done) | simp, ?_⟩); done) | simp) e
            clear F5 N5
            dsimp only
            repeat ((try dsimp only []); (fail_if_success (first | (with_reducible show wpAny _ _ (call (Value.ref _) _ _) _ _ _) | (with_reducible show wpAny _ _ (compareOp CmpOp.Eq (Value.ref _) (Value.ref _)) _ _ _) | (with_reducible show wpAny _ _ (call (Value.builtin "sum") _) _ _ _))); walk1)
            refine wpAny_call (Mine.laid_spec Bg (s := ⟨_, _, _, _, _⟩) F6.keep (by exact hA) (by show callerA.depth + 1 < 896; decide) (by show callerA.units + 3 < 300; decide) hlay6 fun h7 tk7 D' ep7 ls M7 hDn' hD' hls hrows' => ?_)
            have N7 := Mine.bornAll (l := (D', listOf (ls.map fun e => Value.ref e.1).toArray ep7) :: ls.map (fun e => (e.1, e.2.1))) F6 N6 M7 (fun p hp => by
              rcases List.mem_cons.mp hp with rfl | hp
              · exact ⟨hDn', hD'⟩
              · obtain ⟨e, he, rfl⟩ := List.mem_map.mp hp
                exact ⟨(hls e he).1, (hls e he).2.1⟩)
            have F7 := Mine.Fr.keeps' F6 M7
            clear F6 N6
            have hpl := Mine.plain_law W (by rw [← hrows]; exact hperm) hpw
            rw [hpl] at htold
            have hgood : ∀ r ∈ Mine.laidRows (Mine.lay3 c0 c1 c2), Mine.RowGood r := fun r hr => Mine.laid_good W hr
            dsimp only
            repeat ((try dsimp only []); (fail_if_success (first | (with_reducible show wpAny _ _ (call (Value.ref _) _ _) _ _ _) | (with_reducible show wpAny _ _ (compareOp CmpOp.Eq (Value.ref _) (Value.ref _)) _ _ _) | (with_reducible show wpAny _ _ (call (Value.builtin "sum") _) _ _ _))); walk1)
            refine kqd_eq (n₁ := te.map (fun e => (e.1, e.2.1))) (n₂ := ls.map (fun e => (e.1, e.2.1))) N7 (show (D, listOf (te.map fun e => Value.ref e.1).toArray ep6) ∈ _ from by first | ((repeat first | exact List.mem_cons_self .. | refine List.mem_cons_of_mem _ ?_); done) | ((repeat first | exact List.forall_mem_nil _ | refine List.forall_mem_cons.2 ⟨by first | ((repeat first | exact List.mem_cons_self .. | refine List.mem_cons_of_mem _ ?_); done) | simp, ?_⟩); done) | simp) rfl rfl
              (Mine.datAll_laid fun e he => ⟨List.mem_map_of_mem he, Mine.told_laid (hte e he).2.2 (hgood _ (htold ▸ List.mem_map_of_mem he))⟩) (fun p hp => by simp only [List.cons_append, List.mem_cons, List.mem_append]; exact .inr (.inr (.inr (.inl hp)))) (show (D', listOf (ls.map fun e => Value.ref e.1).toArray ep7) ∈ _ from by first | ((repeat first | exact List.mem_cons_self .. | refine List.mem_cons_of_mem _ ?_); done) | ((repeat first | exact List.forall_mem_nil _ | refine List.forall_mem_cons.2 ⟨by first | ((repeat first | exact List.mem_cons_self .. | refine List.mem_cons_of_mem _ ?_); done) | simp, ?_⟩); done) | simp) rfl rfl
              (Mine.datAll_laid fun e he => ⟨List.mem_map_of_mem he, (hls e he).2.2⟩) (fun p hp => by simp only [List.cons_append, List.mem_cons, List.mem_append]; exact .inr (.inl hp)) ?_ ?_ (by show callerA.units + 3 + 64 < 9900; decide) ?_
            · intro d hd
              obtain ⟨r, hr, rfl⟩ := List.mem_map.mp hd
              exact Mine.datL_ok (hgood r (htold ▸ hr)).1
            · intro d hd
              obtain ⟨r, hr, rfl⟩ := List.mem_map.mp hd
              exact Mine.datL_ok (hgood r (hrows' ▸ hr)).1
            rw [htold, hrows']
            simp only [decide_true]
            repeat ((try dsimp only []); (fail_if_success (first | (with_reducible show wpAny _ _ (call (Value.ref _) _ _) _ _ _) | (with_reducible show wpAny _ _ (compareOp CmpOp.Eq (Value.ref _) (Value.ref _)) _ _ _) | (with_reducible show wpAny _ _ (call (Value.builtin "sum") _) _ _ _))); walk1)
            refine goodW_bool F7 (by assumption) ?hn ?hp
            case hn => intro cls; rfl
            case hp =>
              first
                | (with_unfolding_all rfl)
                | (kernel_rfl)
                | (unfold PySem.Challenge.rw_pd0156_01; simp; done)
                | (show PySem.W.ClaimW.post _ _ _ _ = true; unfold PySem.W.ClaimW.post; rfl))

theorem PySem.Challenge.cw_pd0156_01_holds : PySem.Challenge.rw_pd0156_01.Holds :=
  Mine.main

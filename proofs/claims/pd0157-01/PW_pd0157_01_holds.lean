import PyProof.Rows.All
import Wide.All
import OpenK.AllK
import Wide.FinOn
import PySem.Challenge.RW_pd0157_01
set_option Elab.async false
set_option linter.all false
section
open PySem PySem.W PyProof.Rows
set_option maxRecDepth 100000
set_option maxHeartbeats 8000000
namespace Mine
noncomputable abbrev PR : Program := Challenge.rw_pd0157_01.row.prog
/-- the object of a def that stands in the text -/
noncomputable def fnO (s : Option Stmt) (q m : Str) (t : Tok) (c : Addr) : Obj := match s with
  | some (.FunctionDef name params body _ _ _ scope _ _ _) => { cls := .type "function", data := .func { name := name, qualname := q, params := params, body := .stmts body, scope := scope, globals := 3, closure := [], defaults := .none, kwdefaults := .none, pyModule := .str m t, code := .ref c } }
  | _ => default
noncomputable def fnP (s : Option Stmt) (q : Str) : Obj := match s with
  | some (.FunctionDef name params body _ _ _ scope _ _ _) => { cls := .none, data := .func { name := name, qualname := q, params := params, body := .stmts body, scope := scope, globals := 0, closure := [], defaults := .none, kwdefaults := .none } }
  | _ => default
noncomputable def clsSt (s : Option Stmt) (k : Nat) : Option Stmt := match s with
  | some (.ClassDef _ _ _ body ..) => body[k]?
  | _ => none
noncomputable def ob3 (P : Params) : Obj := { cls := Value.type "dict", data := Data.dict #[{ hash := PyData.keyHash P (Str.ofString "__name__"), key := Value.str (Str.ofString "__name__") 165, val := Value.str (Str.ofString "law_pd0157_01") 529 }, { hash := PyData.keyHash P (Str.ofString "__doc__"), key := Value.str (Str.ofString "__doc__") 166, val := Value.none }, { hash := PyData.keyHash P (Str.ofString "__package__"), key := Value.str (Str.ofString "__package__") 167, val := Value.none }, { hash := PyData.keyHash P (Str.ofString "__loader__"), key := Value.str (Str.ofString "__loader__") 168, val := Value.builtin "__main__.__loader__#opaque" }, { hash := PyData.keyHash P (Str.ofString "__spec__"), key := Value.str (Str.ofString "__spec__") 169, val := Value.none }, { hash := PyData.keyHash P (Str.ofString "__annotations__"), key := Value.str (Str.ofString "__annotations__") 170, val := Value.ref 6 }, { hash := PyData.keyHash P (Str.ofString "__builtins__"), key := Value.str (Str.ofString "__builtins__") 171, val := Value.ref 4 }, { hash := PyData.keyHash P (Str.ofString "__file__"), key := Value.str (Str.ofString "__file__") 173, val := Value.str (Str.ofString "/claim/cut.py") 172 }, { hash := PyData.keyHash P (Str.ofString "__cached__"), key := Value.str (Str.ofString "__cached__") 174, val := Value.none }, { hash := PyData.keyHash P (Str.ofString "_wall"), key := Value.str (Str.ofString "_wall") 193, val := Value.ref 21 }, { hash := PyData.keyHash P (Str.ofString "_plain_name"), key := Value.str (Str.ofString "_plain_name") 204, val := Value.ref 28 }, { hash := PyData.keyHash P (Str.ofString "ABCMeta"), key := Value.str (Str.ofString "ABCMeta") 230, val := Value.ref 45 }, { hash := PyData.keyHash P (Str.ofString "_ABCLike"), key := Value.str (Str.ofString "_ABCLike") 273, val := Value.ref 78 }, { hash := PyData.keyHash P (Str.ofString "_abc_plain_meta"), key := Value.str (Str.ofString "_abc_plain_meta") 280, val := Value.ref 87 }, { hash := PyData.keyHash P (Str.ofString "fspath"), key := Value.str (Str.ofString "fspath") 292, val := Value.ref 94 }, { hash := PyData.keyHash P (Str.ofString "_check_arg_types"), key := Value.str (Str.ofString "_check_arg_types") 305, val := Value.ref 101 }, { hash := PyData.keyHash P (Str.ofString "_get_sep"), key := Value.str (Str.ofString "_get_sep") 314, val := Value.ref 108 }, { hash := PyData.keyHash P (Str.ofString "join"), key := Value.str (Str.ofString "join") 325, val := Value.ref 115 }, { hash := PyData.keyHash P (Str.ofString "dirname"), key := Value.str (Str.ofString "dirname") 335, val := Value.ref 122 }, { hash := PyData.keyHash P (Str.ofString "commonpath"), key := Value.str (Str.ofString "commonpath") 341, val := Value.ref 127 }, { hash := PyData.keyHash P (Str.ofString "heappop"), key := Value.str (Str.ofString "heappop") 352, val := Value.ref 134 }, { hash := PyData.keyHash P (Str.ofString "heapify"), key := Value.str (Str.ofString "heapify") 361, val := Value.ref 141 }, { hash := PyData.keyHash P (Str.ofString "_heappop_max"), key := Value.str (Str.ofString "_heappop_max") 370, val := Value.ref 148 }, { hash := PyData.keyHash P (Str.ofString "_heapify_max"), key := Value.str (Str.ofString "_heapify_max") 379, val := Value.ref 155 }, { hash := PyData.keyHash P (Str.ofString "_siftdown"), key := Value.str (Str.ofString "_siftdown") 391, val := Value.ref 162 }, { hash := PyData.keyHash P (Str.ofString "_siftup"), key := Value.str (Str.ofString "_siftup") 404, val := Value.ref 169 }, { hash := PyData.keyHash P (Str.ofString "_siftdown_max"), key := Value.str (Str.ofString "_siftdown_max") 416, val := Value.ref 176 }, { hash := PyData.keyHash P (Str.ofString "_siftup_max"), key := Value.str (Str.ofString "_siftup_max") 429, val := Value.ref 183 }, { hash := PyData.keyHash P (Str.ofString "S_IMODE"), key := Value.str (Str.ofString "S_IMODE") 438, val := Value.ref 190 }, { hash := PyData.keyHash P (Str.ofString "S_IFMT"), key := Value.str (Str.ofString "S_IFMT") 445, val := Value.ref 197 }, { hash := PyData.keyHash P (Str.ofString "S_IFDIR"), key := Value.str (Str.ofString "S_IFDIR") 447, val := Value.int 16384 446 }, { hash := PyData.keyHash P (Str.ofString "S_IFCHR"), key := Value.str (Str.ofString "S_IFCHR") 449, val := Value.int 8192 448 }, { hash := PyData.keyHash P (Str.ofString "S_IFBLK"), key := Value.str (Str.ofString "S_IFBLK") 451, val := Value.int 24576 450 }, { hash := PyData.keyHash P (Str.ofString "S_IFREG"), key := Value.str (Str.ofString "S_IFREG") 453, val := Value.int 32768 452 }, { hash := PyData.keyHash P (Str.ofString "S_IFIFO"), key := Value.str (Str.ofString "S_IFIFO") 455, val := Value.int 4096 454 }, { hash := PyData.keyHash P (Str.ofString "S_IFLNK"), key := Value.str (Str.ofString "S_IFLNK") 457, val := Value.int 40960 456 }, { hash := PyData.keyHash P (Str.ofString "S_IFSOCK"), key := Value.str (Str.ofString "S_IFSOCK") 459, val := Value.int 49152 458 }, { hash := PyData.keyHash P (Str.ofString "S_ISDIR"), key := Value.str (Str.ofString "S_ISDIR") 466, val := Value.ref 204 }, { hash := PyData.keyHash P (Str.ofString "S_ISUID"), key := Value.str (Str.ofString "S_ISUID") 468, val := Value.int 2048 467 }, { hash := PyData.keyHash P (Str.ofString "S_ISGID"), key := Value.str (Str.ofString "S_ISGID") 470, val := Value.int 1024 469 }, { hash := PyData.keyHash P (Str.ofString "S_ISVTX"), key := Value.str (Str.ofString "S_ISVTX") 472, val := Value.int 512 471 }, { hash := PyData.keyHash P (Str.ofString "S_IRUSR"), key := Value.str (Str.ofString "S_IRUSR") 474, val := Value.int 256 473 }, { hash := PyData.keyHash P (Str.ofString "S_IWUSR"), key := Value.str (Str.ofString "S_IWUSR") 476, val := Value.int 128 475 }, { hash := PyData.keyHash P (Str.ofString "S_IXUSR"), key := Value.str (Str.ofString "S_IXUSR") 478, val := Value.int 64 477 }, { hash := PyData.keyHash P (Str.ofString "S_IRGRP"), key := Value.str (Str.ofString "S_IRGRP") 480, val := Value.int 32 479 }, { hash := PyData.keyHash P (Str.ofString "S_IWGRP"), key := Value.str (Str.ofString "S_IWGRP") 482, val := Value.int 16 481 }, { hash := PyData.keyHash P (Str.ofString "S_IXGRP"), key := Value.str (Str.ofString "S_IXGRP") 484, val := Value.int 8 483 }, { hash := PyData.keyHash P (Str.ofString "S_IROTH"), key := Value.str (Str.ofString "S_IROTH") 486, val := Value.int 4 485 }, { hash := PyData.keyHash P (Str.ofString "S_IWOTH"), key := Value.str (Str.ofString "S_IWOTH") 488, val := Value.int 2 487 }, { hash := PyData.keyHash P (Str.ofString "S_IXOTH"), key := Value.str (Str.ofString "S_IXOTH") 490, val := Value.int 1 489 }, { hash := PyData.keyHash P (Str.ofString "_filemode_table"), key := Value.str (Str.ofString "_filemode_table") 516, val := Value.ref 237 }, { hash := PyData.keyHash P (Str.ofString "filemode"), key := Value.str (Str.ofString "filemode") 528, val := Value.ref 244 }, { hash := PyData.keyHash P (Str.ofString "_law_numbers"), key := Value.str (Str.ofString "_law_numbers") 536, val := Value.ref 249 }, { hash := PyData.keyHash P (Str.ofString "_law_wishes"), key := Value.str (Str.ofString "_law_wishes") 548, val := Value.ref 256 }, { hash := PyData.keyHash P (Str.ofString "_law_paths"), key := Value.str (Str.ofString "_law_paths") 557, val := Value.ref 263 }, { hash := PyData.keyHash P (Str.ofString "_law_fitting"), key := Value.str (Str.ofString "_law_fitting") 563, val := Value.ref 268 }, { hash := PyData.keyHash P (Str.ofString "_law_called"), key := Value.str (Str.ofString "_law_called") 569, val := Value.ref 273 }, { hash := PyData.keyHash P (Str.ofString "_law_fewest"), key := Value.str (Str.ofString "_law_fewest") 575, val := Value.ref 278 }, { hash := PyData.keyHash P (Str.ofString "_law_listed"), key := Value.str (Str.ofString "_law_listed") 586, val := Value.ref 285 }, { hash := PyData.keyHash P (Str.ofString "law"), key := Value.str (Str.ofString "law") 592, val := Value.ref 290 }] 60 }
noncomputable def ob11 (_P : Params) : Obj := { cls := Value.type "tuple", data := Data.seq #[] }
noncomputable def ob12 (_P : Params) : Obj := { cls := Value.none, data := Data.fields #[Value.int 1 0, Value.int 0 0, Value.ref 20, Value.int 5 0, Value.int 0 0, Value.ref 27, Value.int 11 0, Value.int 0 0, Value.ref 34, Value.int 16 0, Value.int 0 0, Value.ref 53, Value.int 31 0, Value.int 0 0, Value.ref 86, Value.int 35 0, Value.int 0 0, Value.ref 93, Value.int 52 0, Value.int 0 0, Value.ref 100, Value.int 64 0, Value.int 0 0, Value.ref 107, Value.int 69 0, Value.int 0 0, Value.ref 114, Value.int 86 0, Value.int 0 0, Value.ref 121, Value.int 94 0, Value.int 0 0, Value.ref 126, Value.int 124 0, Value.int 0 0, Value.ref 133, Value.int 132 0, Value.int 0 0, Value.ref 140, Value.int 136 0, Value.int 0 0, Value.ref 147, Value.int 144 0, Value.int 0 0, Value.ref 154, Value.int 148 0, Value.int 0 0, Value.ref 161, Value.int 159 0, Value.int 0 0, Value.ref 168, Value.int 173 0, Value.int 0 0, Value.ref 175, Value.int 184 0, Value.int 0 0, Value.ref 182, Value.int 199 0, Value.int 0 0, Value.ref 189, Value.int 201 0, Value.int 0 0, Value.ref 196, Value.int 210 0, Value.int 0 0, Value.ref 203, Value.int 225 0, Value.int 0 0, Value.ref 243, Value.int 243 0, Value.int 0 0, Value.ref 248, Value.int 246 0, Value.int 0 0, Value.ref 255, Value.int 253 0, Value.int 0 0, Value.ref 262, Value.int 258 0, Value.int 0 0, Value.ref 267, Value.int 271 0, Value.int 0 0, Value.ref 272, Value.int 283 0, Value.int 0 0, Value.ref 277, Value.int 292 0, Value.int 0 0, Value.ref 284, Value.int 299 0, Value.int 0 0, Value.ref 289] }
noncomputable def ob13 (_P : Params) : Obj := { cls := Value.type "code", data := Data.fields #[Value.str (Str.ofString "<module>") 182, Value.str (Str.ofString "<module>") 183, Value.str (Str.ofString "/claim/cut.py") 184, Value.int 1 0, Value.int 0 0, Value.int 0 0, Value.int 0 0, Value.int 0 0, Value.ref 11, Value.bool Bool.false, Value.int 181 0, Value.ref 12, Value.none, Value.none, Value.none, Value.none, Value.int 185 0, Value.int 1 0, Value.str (Str.ofString "/claim/cut.py") 186] }
noncomputable def ob14 (_P : Params) : Obj := { cls := Value.type "frame", slots := #[Option.some (Value.ref 13), Option.some (Value.ref 3), Option.some (Value.ref 3), Option.none, Option.some (Value.str (Str.ofString "__main__") 164), Option.none, Option.some (Value.ref 0)] }
noncomputable def ob15 (_P : Params) : Obj := { cls := Value.type "tuple", data := Data.seq #[] }
noncomputable def ob16 (_P : Params) : Obj := { cls := Value.none, data := Data.fields #[] }
noncomputable def ob17 (_P : Params) : Obj := { cls := Value.type "tuple", data := Data.seq #[Value.str (Str.ofString "k") 190] }
noncomputable def ob18 (_P : Params) : Obj := { cls := Value.type "tuple", data := Data.seq #[] }
noncomputable def ob19 (_P : Params) : Obj := fnP (PR.main.body[0]?) (Str.ofString "_wall")
noncomputable def ob20 (_P : Params) : Obj := { cls := Value.type "code", data := Data.fields #[Value.str (Str.ofString "_wall") 187, Value.str (Str.ofString "_wall") 188, Value.str (Str.ofString "/claim/cut.py") 189, Value.int 1 0, Value.int 1 0, Value.int 0 0, Value.int 0 0, Value.int 3 0, Value.ref 15, Value.bool Bool.true, Value.int 181 0, Value.ref 16, Value.none, Value.ref 17, Value.ref 18, Value.ref 19, Value.int 191 0, Value.int 1 0, Value.str (Str.ofString "/claim/cut.py") 192] }
noncomputable def ob21 (_P : Params) : Obj := fnO (PR.main.body[0]?) (Str.ofString "_wall") (Str.ofString "__main__") 164 20
noncomputable def ob22 (_P : Params) : Obj := { cls := Value.type "tuple", data := Data.seq #[] }
noncomputable def ob23 (_P : Params) : Obj := { cls := Value.none, data := Data.fields #[] }
noncomputable def ob24 (_P : Params) : Obj := { cls := Value.type "tuple", data := Data.seq #[Value.str (Str.ofString "x") 199, Value.str (Str.ofString "what") 200, Value.str (Str.ofString "kind") 201] }
noncomputable def ob25 (_P : Params) : Obj := { cls := Value.type "tuple", data := Data.seq #[] }
noncomputable def ob26 (_P : Params) : Obj := fnP (PR.main.body[2]?) (Str.ofString "_plain_name")
noncomputable def ob27 (_P : Params) : Obj := { cls := Value.type "code", data := Data.fields #[Value.str (Str.ofString "_plain_name") 196, Value.str (Str.ofString "_plain_name") 197, Value.str (Str.ofString "/claim/cut.py") 198, Value.int 5 0, Value.int 2 0, Value.int 0 0, Value.int 0 0, Value.int 3 0, Value.ref 22, Value.bool Bool.true, Value.int 181 0, Value.ref 23, Value.none, Value.ref 24, Value.ref 25, Value.ref 26, Value.int 202 0, Value.int 5 0, Value.str (Str.ofString "/claim/cut.py") 203] }
noncomputable def ob28 (_P : Params) : Obj := fnO (PR.main.body[2]?) (Str.ofString "_plain_name") (Str.ofString "os") 194 27
noncomputable def ob29 (_P : Params) : Obj := { cls := Value.type "tuple", data := Data.seq #[Value.type "type"] }
noncomputable def ob30 (_P : Params) : Obj := { cls := Value.type "builtin_function_or_method", data := Data.fields #[Value.builtin "type.__prepare__", Value.type "type"] }
noncomputable def ob31 (P : Params) : Obj := { cls := Value.type "dict", data := Data.dict #[{ hash := PyData.keyHash P (Str.ofString "__module__"), key := Value.str (Str.ofString "__module__") 214, val := Value.str (Str.ofString "abc") 205 }, { hash := PyData.keyHash P (Str.ofString "__qualname__"), key := Value.str (Str.ofString "__qualname__") 216, val := Value.str (Str.ofString "ABCMeta") 215 }, { hash := PyData.keyHash P (Str.ofString "__firstlineno__"), key := Value.str (Str.ofString "__firstlineno__") 218, val := Value.int 11 217 }, { hash := PyData.keyHash P (Str.ofString "register"), key := Value.str (Str.ofString "register") 226, val := Value.ref 42 }, { hash := PyData.keyHash P (Str.ofString "__static_attributes__"), key := Value.str (Str.ofString "__static_attributes__") 227, val := Value.ref 43 }] 5 }
noncomputable def ob32 (_P : Params) : Obj := { cls := Value.type "tuple", data := Data.seq #[] }
noncomputable def ob33 (_P : Params) : Obj := { cls := Value.none, data := Data.fields #[Value.int 13 0, Value.int 4 0, Value.ref 41] }
noncomputable def ob34 (_P : Params) : Obj := { cls := Value.type "code", data := Data.fields #[Value.str (Str.ofString "ABCMeta") 209, Value.str (Str.ofString "ABCMeta") 210, Value.str (Str.ofString "/claim/cut.py") 211, Value.int 11 0, Value.int 0 0, Value.int 0 0, Value.int 0 0, Value.int 0 0, Value.ref 32, Value.bool Bool.false, Value.int 181 0, Value.ref 33, Value.none, Value.none, Value.none, Value.none, Value.int 212 0, Value.int 11 0, Value.str (Str.ofString "/claim/cut.py") 213] }
noncomputable def ob35 (_P : Params) : Obj := { cls := Value.type "frame", slots := #[Option.some (Value.ref 34), Option.some (Value.ref 3), Option.some (Value.ref 31), Option.none, Option.some (Value.str (Str.ofString "abc") 205), Option.none, Option.some (Value.ref 0)] }
noncomputable def ob36 (_P : Params) : Obj := { cls := Value.type "tuple", data := Data.seq #[] }
noncomputable def ob37 (_P : Params) : Obj := { cls := Value.none, data := Data.fields #[] }
noncomputable def ob38 (_P : Params) : Obj := { cls := Value.type "tuple", data := Data.seq #[Value.str (Str.ofString "cls") 222, Value.str (Str.ofString "subclass") 223] }
noncomputable def ob39 (_P : Params) : Obj := { cls := Value.type "tuple", data := Data.seq #[] }
noncomputable def ob40 (_P : Params) : Obj := fnP (clsSt (PR.main.body[4]?) 0) (Str.ofString "ABCMeta.register")
noncomputable def ob41 (_P : Params) : Obj := { cls := Value.type "code", data := Data.fields #[Value.str (Str.ofString "register") 219, Value.str (Str.ofString "ABCMeta.register") 220, Value.str (Str.ofString "/claim/cut.py") 221, Value.int 13 0, Value.int 2 0, Value.int 0 0, Value.int 0 0, Value.int 3 0, Value.ref 36, Value.bool Bool.true, Value.int 181 0, Value.ref 37, Value.none, Value.ref 38, Value.ref 39, Value.ref 40, Value.int 224 0, Value.int 13 0, Value.str (Str.ofString "/claim/cut.py") 225] }
noncomputable def ob42 (_P : Params) : Obj := fnO (clsSt (PR.main.body[4]?) 0) (Str.ofString "ABCMeta.register") (Str.ofString "abc") 205 41
noncomputable def ob43 (_P : Params) : Obj := { cls := Value.type "tuple", data := Data.seq #[] }
noncomputable def ob44 (P : Params) : Obj := { cls := Value.type "dict", data := Data.dict #[{ hash := PyData.keyHash P (Str.ofString "__module__"), key := Value.str (Str.ofString "__module__") 214, val := Value.str (Str.ofString "abc") 205 }, { hash := PyData.keyHash P (Str.ofString "__firstlineno__"), key := Value.str (Str.ofString "__firstlineno__") 218, val := Value.int 11 217 }, { hash := PyData.keyHash P (Str.ofString "register"), key := Value.str (Str.ofString "register") 226, val := Value.ref 42 }, { hash := PyData.keyHash P (Str.ofString "__static_attributes__"), key := Value.str (Str.ofString "__static_attributes__") 227, val := Value.ref 43 }, { hash := PyData.keyHash P (Str.ofString "__doc__"), key := Value.str (Str.ofString "__doc__") 228, val := Value.none }] 2 }
noncomputable def ob45 (_P : Params) : Obj := { cls := Value.type "type", data := Data.cls { name := Str.ofString "ABCMeta", bases := [Value.type "type"], mro := [Value.ref 45, Value.type "type", Value.type "object"], ns := 44, qualname := Str.ofString "ABCMeta", subclasses := [Value.ref 78] }, slots := #[Option.some (Value.ref 29), Option.none, Option.some (Value.str (Str.ofString "ABCMeta") 207), Option.some (Value.str (Str.ofString "ABCMeta") 215), Option.some (Value.builtin "type.__new__"), Option.some (Value.bool Bool.true)] }
noncomputable def ob46 (_P : Params) : Obj := { cls := Value.type "super", data := Data.fields #[Value.ref 45, Value.ref 45, Value.ref 45] }
noncomputable def ob47 (_P : Params) : Obj := { cls := Value.type "builtin_function_or_method", data := Data.fields #[Value.builtin "object.__init_subclass__", Value.ref 45] }
noncomputable def ob48 (_P : Params) : Obj := { cls := Value.type "tuple", data := Data.seq #[Value.ref 45] }
noncomputable def ob49 (_P : Params) : Obj := { cls := Value.type "builtin_function_or_method", data := Data.fields #[Value.builtin "type.__prepare__", Value.type "type"] }
noncomputable def ob50 (P : Params) : Obj := { cls := Value.type "dict", data := Data.dict #[{ hash := PyData.keyHash P (Str.ofString "__module__"), key := Value.str (Str.ofString "__module__") 240, val := Value.str (Str.ofString "collections.abc") 231 }, { hash := PyData.keyHash P (Str.ofString "__qualname__"), key := Value.str (Str.ofString "__qualname__") 242, val := Value.str (Str.ofString "_ABCLike") 241 }, { hash := PyData.keyHash P (Str.ofString "__firstlineno__"), key := Value.str (Str.ofString "__firstlineno__") 244, val := Value.int 16 243 }, { hash := PyData.keyHash P (Str.ofString "__instancecheck__"), key := Value.str (Str.ofString "__instancecheck__") 253, val := Value.ref 61 }, { hash := PyData.keyHash P (Str.ofString "__subclasscheck__"), key := Value.str (Str.ofString "__subclasscheck__") 261, val := Value.ref 68 }, { hash := PyData.keyHash P (Str.ofString "register"), key := Value.str (Str.ofString "register") 269, val := Value.ref 75 }, { hash := PyData.keyHash P (Str.ofString "__static_attributes__"), key := Value.str (Str.ofString "__static_attributes__") 270, val := Value.ref 76 }] 7 }
noncomputable def ob51 (_P : Params) : Obj := { cls := Value.type "tuple", data := Data.seq #[] }
noncomputable def ob52 (_P : Params) : Obj := { cls := Value.none, data := Data.fields #[Value.int 18 0, Value.int 4 0, Value.ref 60, Value.int 24 0, Value.int 4 0, Value.ref 67, Value.int 29 0, Value.int 4 0, Value.ref 74] }
noncomputable def ob53 (_P : Params) : Obj := { cls := Value.type "code", data := Data.fields #[Value.str (Str.ofString "_ABCLike") 235, Value.str (Str.ofString "_ABCLike") 236, Value.str (Str.ofString "/claim/cut.py") 237, Value.int 16 0, Value.int 0 0, Value.int 0 0, Value.int 0 0, Value.int 0 0, Value.ref 51, Value.bool Bool.false, Value.int 181 0, Value.ref 52, Value.none, Value.none, Value.none, Value.none, Value.int 238 0, Value.int 16 0, Value.str (Str.ofString "/claim/cut.py") 239] }
noncomputable def ob54 (_P : Params) : Obj := { cls := Value.type "frame", slots := #[Option.some (Value.ref 53), Option.some (Value.ref 3), Option.some (Value.ref 50), Option.none, Option.some (Value.str (Str.ofString "collections.abc") 231), Option.none, Option.some (Value.ref 0)] }
noncomputable def ob55 (_P : Params) : Obj := { cls := Value.type "tuple", data := Data.seq #[] }
noncomputable def ob56 (_P : Params) : Obj := { cls := Value.none, data := Data.fields #[] }
noncomputable def ob57 (_P : Params) : Obj := { cls := Value.type "tuple", data := Data.seq #[Value.str (Str.ofString "cls") 248, Value.str ({ cps := #[105, 110, 115, 116, 97, 110, 99, 101] }) 249, Value.str (Str.ofString "C") 250] }
noncomputable def ob58 (_P : Params) : Obj := { cls := Value.type "tuple", data := Data.seq #[] }
noncomputable def ob59 (_P : Params) : Obj := fnP (clsSt (PR.main.body[6]?) 0) (Str.ofString "_ABCLike.__instancecheck__")
noncomputable def ob60 (_P : Params) : Obj := { cls := Value.type "code", data := Data.fields #[Value.str (Str.ofString "__instancecheck__") 245, Value.str (Str.ofString "_ABCLike.__instancecheck__") 246, Value.str (Str.ofString "/claim/cut.py") 247, Value.int 18 0, Value.int 2 0, Value.int 0 0, Value.int 0 0, Value.int 3 0, Value.ref 55, Value.bool Bool.true, Value.int 181 0, Value.ref 56, Value.none, Value.ref 57, Value.ref 58, Value.ref 59, Value.int 251 0, Value.int 18 0, Value.str (Str.ofString "/claim/cut.py") 252] }
noncomputable def ob61 (_P : Params) : Obj := fnO (clsSt (PR.main.body[6]?) 0) (Str.ofString "_ABCLike.__instancecheck__") (Str.ofString "collections.abc") 231 60
noncomputable def ob62 (_P : Params) : Obj := { cls := Value.type "tuple", data := Data.seq #[] }
noncomputable def ob63 (_P : Params) : Obj := { cls := Value.none, data := Data.fields #[] }
noncomputable def ob64 (_P : Params) : Obj := { cls := Value.type "tuple", data := Data.seq #[Value.str (Str.ofString "cls") 257, Value.str (Str.ofString "C") 258] }
noncomputable def ob65 (_P : Params) : Obj := { cls := Value.type "tuple", data := Data.seq #[] }
noncomputable def ob66 (_P : Params) : Obj := fnP (clsSt (PR.main.body[6]?) 1) (Str.ofString "_ABCLike.__subclasscheck__")
noncomputable def ob67 (_P : Params) : Obj := { cls := Value.type "code", data := Data.fields #[Value.str (Str.ofString "__subclasscheck__") 254, Value.str (Str.ofString "_ABCLike.__subclasscheck__") 255, Value.str (Str.ofString "/claim/cut.py") 256, Value.int 24 0, Value.int 2 0, Value.int 0 0, Value.int 0 0, Value.int 3 0, Value.ref 62, Value.bool Bool.true, Value.int 181 0, Value.ref 63, Value.none, Value.ref 64, Value.ref 65, Value.ref 66, Value.int 259 0, Value.int 24 0, Value.str (Str.ofString "/claim/cut.py") 260] }
noncomputable def ob68 (_P : Params) : Obj := fnO (clsSt (PR.main.body[6]?) 1) (Str.ofString "_ABCLike.__subclasscheck__") (Str.ofString "collections.abc") 231 67
noncomputable def ob69 (_P : Params) : Obj := { cls := Value.type "tuple", data := Data.seq #[] }
noncomputable def ob70 (_P : Params) : Obj := { cls := Value.none, data := Data.fields #[] }
noncomputable def ob71 (_P : Params) : Obj := { cls := Value.type "tuple", data := Data.seq #[Value.str (Str.ofString "cls") 265, Value.str (Str.ofString "subclass") 266] }
noncomputable def ob72 (_P : Params) : Obj := { cls := Value.type "tuple", data := Data.seq #[] }
noncomputable def ob73 (_P : Params) : Obj := fnP (clsSt (PR.main.body[6]?) 2) (Str.ofString "_ABCLike.register")
noncomputable def ob74 (_P : Params) : Obj := { cls := Value.type "code", data := Data.fields #[Value.str (Str.ofString "register") 262, Value.str (Str.ofString "_ABCLike.register") 263, Value.str (Str.ofString "/claim/cut.py") 264, Value.int 29 0, Value.int 2 0, Value.int 0 0, Value.int 0 0, Value.int 3 0, Value.ref 69, Value.bool Bool.true, Value.int 181 0, Value.ref 70, Value.none, Value.ref 71, Value.ref 72, Value.ref 73, Value.int 267 0, Value.int 29 0, Value.str (Str.ofString "/claim/cut.py") 268] }
noncomputable def ob75 (_P : Params) : Obj := fnO (clsSt (PR.main.body[6]?) 2) (Str.ofString "_ABCLike.register") (Str.ofString "collections.abc") 231 74
noncomputable def ob76 (_P : Params) : Obj := { cls := Value.type "tuple", data := Data.seq #[] }
noncomputable def ob77 (P : Params) : Obj := { cls := Value.type "dict", data := Data.dict #[{ hash := PyData.keyHash P (Str.ofString "__module__"), key := Value.str (Str.ofString "__module__") 240, val := Value.str (Str.ofString "collections.abc") 231 }, { hash := PyData.keyHash P (Str.ofString "__firstlineno__"), key := Value.str (Str.ofString "__firstlineno__") 244, val := Value.int 16 243 }, { hash := PyData.keyHash P (Str.ofString "__instancecheck__"), key := Value.str (Str.ofString "__instancecheck__") 253, val := Value.ref 61 }, { hash := PyData.keyHash P (Str.ofString "__subclasscheck__"), key := Value.str (Str.ofString "__subclasscheck__") 261, val := Value.ref 68 }, { hash := PyData.keyHash P (Str.ofString "register"), key := Value.str (Str.ofString "register") 269, val := Value.ref 75 }, { hash := PyData.keyHash P (Str.ofString "__static_attributes__"), key := Value.str (Str.ofString "__static_attributes__") 270, val := Value.ref 76 }, { hash := PyData.keyHash P (Str.ofString "__doc__"), key := Value.str (Str.ofString "__doc__") 271, val := Value.none }] 2 }
noncomputable def ob78 (_P : Params) : Obj := { cls := Value.type "type", data := Data.cls { name := Str.ofString "_ABCLike", bases := [Value.ref 45], mro := [Value.ref 78, Value.ref 45, Value.type "type", Value.type "object"], ns := 77, qualname := Str.ofString "_ABCLike" }, slots := #[Option.some (Value.ref 48), Option.none, Option.some (Value.str (Str.ofString "_ABCLike") 233), Option.some (Value.str (Str.ofString "_ABCLike") 241), Option.some (Value.builtin "type.__new__"), Option.some (Value.bool Bool.true)] }
noncomputable def ob79 (_P : Params) : Obj := { cls := Value.type "super", data := Data.fields #[Value.ref 78, Value.ref 78, Value.ref 78] }
noncomputable def ob80 (_P : Params) : Obj := { cls := Value.type "builtin_function_or_method", data := Data.fields #[Value.builtin "object.__init_subclass__", Value.ref 78] }
noncomputable def ob81 (_P : Params) : Obj := { cls := Value.type "tuple", data := Data.seq #[] }
noncomputable def ob82 (_P : Params) : Obj := { cls := Value.none, data := Data.fields #[] }
noncomputable def ob83 (_P : Params) : Obj := { cls := Value.type "tuple", data := Data.seq #[Value.str (Str.ofString "C") 277] }
noncomputable def ob84 (_P : Params) : Obj := { cls := Value.type "tuple", data := Data.seq #[] }
noncomputable def ob85 (_P : Params) : Obj := fnP (PR.main.body[7]?) (Str.ofString "_abc_plain_meta")
noncomputable def ob86 (_P : Params) : Obj := { cls := Value.type "code", data := Data.fields #[Value.str (Str.ofString "_abc_plain_meta") 274, Value.str (Str.ofString "_abc_plain_meta") 275, Value.str (Str.ofString "/claim/cut.py") 276, Value.int 31 0, Value.int 1 0, Value.int 0 0, Value.int 0 0, Value.int 3 0, Value.ref 81, Value.bool Bool.true, Value.int 181 0, Value.ref 82, Value.none, Value.ref 83, Value.ref 84, Value.ref 85, Value.int 278 0, Value.int 31 0, Value.str (Str.ofString "/claim/cut.py") 279] }
noncomputable def ob87 (_P : Params) : Obj := fnO (PR.main.body[7]?) (Str.ofString "_abc_plain_meta") (Str.ofString "collections.abc") 231 86
noncomputable def ob88 (_P : Params) : Obj := { cls := Value.type "tuple", data := Data.seq #[] }
noncomputable def ob89 (_P : Params) : Obj := { cls := Value.none, data := Data.fields #[] }
noncomputable def ob90 (_P : Params) : Obj := { cls := Value.type "tuple", data := Data.seq #[Value.str (Str.ofString "path") 286, Value.str (Str.ofString "kind") 287, Value.str (Str.ofString "hook") 288, Value.str (Str.ofString "given") 289] }
noncomputable def ob91 (_P : Params) : Obj := { cls := Value.type "tuple", data := Data.seq #[] }
noncomputable def ob92 (_P : Params) : Obj := fnP (PR.main.body[9]?) (Str.ofString "fspath")
noncomputable def ob93 (_P : Params) : Obj := { cls := Value.type "code", data := Data.fields #[Value.str (Str.ofString "fspath") 283, Value.str (Str.ofString "fspath") 284, Value.str (Str.ofString "/claim/cut.py") 285, Value.int 35 0, Value.int 1 0, Value.int 0 0, Value.int 0 0, Value.int 3 0, Value.ref 88, Value.bool Bool.true, Value.int 181 0, Value.ref 89, Value.none, Value.ref 90, Value.ref 91, Value.ref 92, Value.int 290 0, Value.int 35 0, Value.str (Str.ofString "/claim/cut.py") 291] }
noncomputable def ob94 (_P : Params) : Obj := fnO (PR.main.body[9]?) (Str.ofString "fspath") (Str.ofString "os") 281 93
noncomputable def ob95 (_P : Params) : Obj := { cls := Value.type "tuple", data := Data.seq #[] }
noncomputable def ob96 (_P : Params) : Obj := { cls := Value.none, data := Data.fields #[] }
noncomputable def ob97 (_P : Params) : Obj := { cls := Value.type "tuple", data := Data.seq #[Value.str (Str.ofString "funcname") 298, Value.str (Str.ofString "args") 299, Value.str (Str.ofString "hasstr") 300, Value.str (Str.ofString "hasbytes") 301, Value.str (Str.ofString "s") 302] }
noncomputable def ob98 (_P : Params) : Obj := { cls := Value.type "tuple", data := Data.seq #[] }
noncomputable def ob99 (_P : Params) : Obj := fnP (PR.main.body[11]?) (Str.ofString "_check_arg_types")
noncomputable def ob100 (_P : Params) : Obj := { cls := Value.type "code", data := Data.fields #[Value.str (Str.ofString "_check_arg_types") 295, Value.str (Str.ofString "_check_arg_types") 296, Value.str (Str.ofString "/claim/cut.py") 297, Value.int 52 0, Value.int 1 0, Value.int 0 0, Value.int 0 0, Value.int 7 0, Value.ref 95, Value.bool Bool.true, Value.int 181 0, Value.ref 96, Value.none, Value.ref 97, Value.ref 98, Value.ref 99, Value.int 303 0, Value.int 52 0, Value.str (Str.ofString "/claim/cut.py") 304] }
noncomputable def ob101 (_P : Params) : Obj := fnO (PR.main.body[11]?) (Str.ofString "_check_arg_types") (Str.ofString "cpy313.genericpath") 293 100
noncomputable def ob102 (_P : Params) : Obj := { cls := Value.type "tuple", data := Data.seq #[] }
noncomputable def ob103 (_P : Params) : Obj := { cls := Value.none, data := Data.fields #[] }
noncomputable def ob104 (_P : Params) : Obj := { cls := Value.type "tuple", data := Data.seq #[Value.str (Str.ofString "path") 311] }
noncomputable def ob105 (_P : Params) : Obj := { cls := Value.type "tuple", data := Data.seq #[] }
noncomputable def ob106 (_P : Params) : Obj := fnP (PR.main.body[13]?) (Str.ofString "_get_sep")
noncomputable def ob107 (_P : Params) : Obj := { cls := Value.type "code", data := Data.fields #[Value.str (Str.ofString "_get_sep") 308, Value.str (Str.ofString "_get_sep") 309, Value.str (Str.ofString "/claim/cut.py") 310, Value.int 64 0, Value.int 1 0, Value.int 0 0, Value.int 0 0, Value.int 3 0, Value.ref 102, Value.bool Bool.true, Value.int 181 0, Value.ref 103, Value.none, Value.ref 104, Value.ref 105, Value.ref 106, Value.int 312 0, Value.int 64 0, Value.str (Str.ofString "/claim/cut.py") 313] }
noncomputable def ob108 (_P : Params) : Obj := fnO (PR.main.body[13]?) (Str.ofString "_get_sep") (Str.ofString "cpy313.posixpath") 306 107
noncomputable def ob109 (_P : Params) : Obj := { cls := Value.type "tuple", data := Data.seq #[] }
noncomputable def ob110 (_P : Params) : Obj := { cls := Value.none, data := Data.fields #[] }
noncomputable def ob111 (_P : Params) : Obj := { cls := Value.type "tuple", data := Data.seq #[Value.str (Str.ofString "a") 318, Value.str (Str.ofString "p") 319, Value.str (Str.ofString "sep") 320, Value.str (Str.ofString "path") 321, Value.str (Str.ofString "b") 322] }
noncomputable def ob112 (_P : Params) : Obj := { cls := Value.type "tuple", data := Data.seq #[] }
noncomputable def ob113 (_P : Params) : Obj := fnP (PR.main.body[14]?) (Str.ofString "join")
noncomputable def ob114 (_P : Params) : Obj := { cls := Value.type "code", data := Data.fields #[Value.str (Str.ofString "join") 315, Value.str (Str.ofString "join") 316, Value.str (Str.ofString "/claim/cut.py") 317, Value.int 69 0, Value.int 1 0, Value.int 0 0, Value.int 0 0, Value.int 7 0, Value.ref 109, Value.bool Bool.true, Value.int 181 0, Value.ref 110, Value.none, Value.ref 111, Value.ref 112, Value.ref 113, Value.int 323 0, Value.int 69 0, Value.str (Str.ofString "/claim/cut.py") 324] }
noncomputable def ob115 (_P : Params) : Obj := fnO (PR.main.body[14]?) (Str.ofString "join") (Str.ofString "cpy313.posixpath") 306 114
noncomputable def ob116 (_P : Params) : Obj := { cls := Value.type "tuple", data := Data.seq #[] }
noncomputable def ob117 (_P : Params) : Obj := { cls := Value.none, data := Data.fields #[] }
noncomputable def ob118 (_P : Params) : Obj := { cls := Value.type "tuple", data := Data.seq #[Value.str (Str.ofString "p") 329, Value.str (Str.ofString "sep") 330, Value.str (Str.ofString "i") 331, Value.str (Str.ofString "head") 332] }
noncomputable def ob119 (_P : Params) : Obj := { cls := Value.type "tuple", data := Data.seq #[] }
noncomputable def ob120 (_P : Params) : Obj := fnP (PR.main.body[15]?) (Str.ofString "dirname")
noncomputable def ob121 (_P : Params) : Obj := { cls := Value.type "code", data := Data.fields #[Value.str (Str.ofString "dirname") 326, Value.str (Str.ofString "dirname") 327, Value.str (Str.ofString "/claim/cut.py") 328, Value.int 86 0, Value.int 1 0, Value.int 0 0, Value.int 0 0, Value.int 3 0, Value.ref 116, Value.bool Bool.true, Value.int 181 0, Value.ref 117, Value.none, Value.ref 118, Value.ref 119, Value.ref 120, Value.int 333 0, Value.int 86 0, Value.str (Str.ofString "/claim/cut.py") 334] }
noncomputable def ob122 (_P : Params) : Obj := fnO (PR.main.body[15]?) (Str.ofString "dirname") (Str.ofString "cpy313.posixpath") 306 121
noncomputable def ob123 (_P : Params) : Obj := { cls := Value.type "tuple", data := Data.seq #[] }
noncomputable def ob124 (_P : Params) : Obj := { cls := Value.none, data := Data.fields #[] }
noncomputable def ob125 (_P : Params) : Obj := fnP (PR.main.body[16]?) (Str.ofString "commonpath")
noncomputable def ob126 (_P : Params) : Obj := { cls := Value.type "code", data := Data.fields #[Value.str (Str.ofString "commonpath") 336, Value.str (Str.ofString "commonpath") 337, Value.str (Str.ofString "/claim/cut.py") 338, Value.int 94 0, Value.int 1 0, Value.int 0 0, Value.int 0 0, Value.int 3 0, Value.ref 123, Value.bool Bool.true, Value.int 181 0, Value.ref 124, Value.none, Value.none, Value.none, Value.ref 125, Value.int 339 0, Value.int 94 0, Value.str (Str.ofString "/claim/cut.py") 340] }
noncomputable def ob127 (_P : Params) : Obj := fnO (PR.main.body[16]?) (Str.ofString "commonpath") (Str.ofString "cpy313.posixpath") 306 126
noncomputable def ob128 (_P : Params) : Obj := { cls := Value.type "tuple", data := Data.seq #[] }
noncomputable def ob129 (_P : Params) : Obj := { cls := Value.none, data := Data.fields #[] }
noncomputable def ob130 (_P : Params) : Obj := { cls := Value.type "tuple", data := Data.seq #[Value.str (Str.ofString "heap") 347, Value.str (Str.ofString "lastelt") 348, Value.str (Str.ofString "returnitem") 349] }
noncomputable def ob131 (_P : Params) : Obj := { cls := Value.type "tuple", data := Data.seq #[] }
noncomputable def ob132 (_P : Params) : Obj := fnP (PR.main.body[18]?) (Str.ofString "heappop")
noncomputable def ob133 (_P : Params) : Obj := { cls := Value.type "code", data := Data.fields #[Value.str (Str.ofString "heappop") 344, Value.str (Str.ofString "heappop") 345, Value.str (Str.ofString "/claim/cut.py") 346, Value.int 124 0, Value.int 1 0, Value.int 0 0, Value.int 0 0, Value.int 3 0, Value.ref 128, Value.bool Bool.true, Value.int 181 0, Value.ref 129, Value.none, Value.ref 130, Value.ref 131, Value.ref 132, Value.int 350 0, Value.int 124 0, Value.str (Str.ofString "/claim/cut.py") 351] }
noncomputable def ob134 (_P : Params) : Obj := fnO (PR.main.body[18]?) (Str.ofString "heappop") (Str.ofString "cpy313.heapq") 342 133
noncomputable def ob135 (_P : Params) : Obj := { cls := Value.type "tuple", data := Data.seq #[] }
noncomputable def ob136 (_P : Params) : Obj := { cls := Value.none, data := Data.fields #[] }
noncomputable def ob137 (_P : Params) : Obj := { cls := Value.type "tuple", data := Data.seq #[Value.str (Str.ofString "x") 356, Value.str (Str.ofString "n") 357, Value.str (Str.ofString "i") 358] }
noncomputable def ob138 (_P : Params) : Obj := { cls := Value.type "tuple", data := Data.seq #[] }
noncomputable def ob139 (_P : Params) : Obj := fnP (PR.main.body[19]?) (Str.ofString "heapify")
noncomputable def ob140 (_P : Params) : Obj := { cls := Value.type "code", data := Data.fields #[Value.str (Str.ofString "heapify") 353, Value.str (Str.ofString "heapify") 354, Value.str (Str.ofString "/claim/cut.py") 355, Value.int 132 0, Value.int 1 0, Value.int 0 0, Value.int 0 0, Value.int 3 0, Value.ref 135, Value.bool Bool.true, Value.int 181 0, Value.ref 136, Value.none, Value.ref 137, Value.ref 138, Value.ref 139, Value.int 359 0, Value.int 132 0, Value.str (Str.ofString "/claim/cut.py") 360] }
noncomputable def ob141 (_P : Params) : Obj := fnO (PR.main.body[19]?) (Str.ofString "heapify") (Str.ofString "cpy313.heapq") 342 140
noncomputable def ob142 (_P : Params) : Obj := { cls := Value.type "tuple", data := Data.seq #[] }
noncomputable def ob143 (_P : Params) : Obj := { cls := Value.none, data := Data.fields #[] }
noncomputable def ob144 (_P : Params) : Obj := { cls := Value.type "tuple", data := Data.seq #[Value.str (Str.ofString "heap") 365, Value.str (Str.ofString "lastelt") 366, Value.str (Str.ofString "returnitem") 367] }
noncomputable def ob145 (_P : Params) : Obj := { cls := Value.type "tuple", data := Data.seq #[] }
noncomputable def ob146 (_P : Params) : Obj := fnP (PR.main.body[20]?) (Str.ofString "_heappop_max")
noncomputable def ob147 (_P : Params) : Obj := { cls := Value.type "code", data := Data.fields #[Value.str (Str.ofString "_heappop_max") 362, Value.str (Str.ofString "_heappop_max") 363, Value.str (Str.ofString "/claim/cut.py") 364, Value.int 136 0, Value.int 1 0, Value.int 0 0, Value.int 0 0, Value.int 3 0, Value.ref 142, Value.bool Bool.true, Value.int 181 0, Value.ref 143, Value.none, Value.ref 144, Value.ref 145, Value.ref 146, Value.int 368 0, Value.int 136 0, Value.str (Str.ofString "/claim/cut.py") 369] }
noncomputable def ob148 (_P : Params) : Obj := fnO (PR.main.body[20]?) (Str.ofString "_heappop_max") (Str.ofString "cpy313.heapq") 342 147
noncomputable def ob149 (_P : Params) : Obj := { cls := Value.type "tuple", data := Data.seq #[] }
noncomputable def ob150 (_P : Params) : Obj := { cls := Value.none, data := Data.fields #[] }
noncomputable def ob151 (_P : Params) : Obj := { cls := Value.type "tuple", data := Data.seq #[Value.str (Str.ofString "x") 374, Value.str (Str.ofString "n") 375, Value.str (Str.ofString "i") 376] }
noncomputable def ob152 (_P : Params) : Obj := { cls := Value.type "tuple", data := Data.seq #[] }
noncomputable def ob153 (_P : Params) : Obj := fnP (PR.main.body[21]?) (Str.ofString "_heapify_max")
noncomputable def ob154 (_P : Params) : Obj := { cls := Value.type "code", data := Data.fields #[Value.str (Str.ofString "_heapify_max") 371, Value.str (Str.ofString "_heapify_max") 372, Value.str (Str.ofString "/claim/cut.py") 373, Value.int 144 0, Value.int 1 0, Value.int 0 0, Value.int 0 0, Value.int 3 0, Value.ref 149, Value.bool Bool.true, Value.int 181 0, Value.ref 150, Value.none, Value.ref 151, Value.ref 152, Value.ref 153, Value.int 377 0, Value.int 144 0, Value.str (Str.ofString "/claim/cut.py") 378] }
noncomputable def ob155 (_P : Params) : Obj := fnO (PR.main.body[21]?) (Str.ofString "_heapify_max") (Str.ofString "cpy313.heapq") 342 154
noncomputable def ob156 (_P : Params) : Obj := { cls := Value.type "tuple", data := Data.seq #[] }
noncomputable def ob157 (_P : Params) : Obj := { cls := Value.none, data := Data.fields #[] }
noncomputable def ob158 (_P : Params) : Obj := { cls := Value.type "tuple", data := Data.seq #[Value.str (Str.ofString "heap") 383, Value.str (Str.ofString "startpos") 384, Value.str (Str.ofString "pos") 385, Value.str (Str.ofString "newitem") 386, Value.str (Str.ofString "parentpos") 387, Value.str (Str.ofString "parent") 388] }
noncomputable def ob159 (_P : Params) : Obj := { cls := Value.type "tuple", data := Data.seq #[] }
noncomputable def ob160 (_P : Params) : Obj := fnP (PR.main.body[22]?) (Str.ofString "_siftdown")
noncomputable def ob161 (_P : Params) : Obj := { cls := Value.type "code", data := Data.fields #[Value.str (Str.ofString "_siftdown") 380, Value.str (Str.ofString "_siftdown") 381, Value.str (Str.ofString "/claim/cut.py") 382, Value.int 148 0, Value.int 3 0, Value.int 0 0, Value.int 0 0, Value.int 3 0, Value.ref 156, Value.bool Bool.true, Value.int 181 0, Value.ref 157, Value.none, Value.ref 158, Value.ref 159, Value.ref 160, Value.int 389 0, Value.int 148 0, Value.str (Str.ofString "/claim/cut.py") 390] }
noncomputable def ob162 (_P : Params) : Obj := fnO (PR.main.body[22]?) (Str.ofString "_siftdown") (Str.ofString "cpy313.heapq") 342 161
noncomputable def ob163 (_P : Params) : Obj := { cls := Value.type "tuple", data := Data.seq #[] }
noncomputable def ob164 (_P : Params) : Obj := { cls := Value.none, data := Data.fields #[] }
noncomputable def ob165 (_P : Params) : Obj := { cls := Value.type "tuple", data := Data.seq #[Value.str (Str.ofString "heap") 395, Value.str (Str.ofString "pos") 396, Value.str (Str.ofString "endpos") 397, Value.str (Str.ofString "startpos") 398, Value.str (Str.ofString "newitem") 399, Value.str (Str.ofString "childpos") 400, Value.str (Str.ofString "rightpos") 401] }
noncomputable def ob166 (_P : Params) : Obj := { cls := Value.type "tuple", data := Data.seq #[] }
noncomputable def ob167 (_P : Params) : Obj := fnP (PR.main.body[23]?) (Str.ofString "_siftup")
noncomputable def ob168 (_P : Params) : Obj := { cls := Value.type "code", data := Data.fields #[Value.str (Str.ofString "_siftup") 392, Value.str (Str.ofString "_siftup") 393, Value.str (Str.ofString "/claim/cut.py") 394, Value.int 159 0, Value.int 2 0, Value.int 0 0, Value.int 0 0, Value.int 3 0, Value.ref 163, Value.bool Bool.true, Value.int 181 0, Value.ref 164, Value.none, Value.ref 165, Value.ref 166, Value.ref 167, Value.int 402 0, Value.int 159 0, Value.str (Str.ofString "/claim/cut.py") 403] }
noncomputable def ob169 (_P : Params) : Obj := fnO (PR.main.body[23]?) (Str.ofString "_siftup") (Str.ofString "cpy313.heapq") 342 168
noncomputable def ob170 (_P : Params) : Obj := { cls := Value.type "tuple", data := Data.seq #[] }
noncomputable def ob171 (_P : Params) : Obj := { cls := Value.none, data := Data.fields #[] }
noncomputable def ob172 (_P : Params) : Obj := { cls := Value.type "tuple", data := Data.seq #[Value.str (Str.ofString "heap") 408, Value.str (Str.ofString "startpos") 409, Value.str (Str.ofString "pos") 410, Value.str (Str.ofString "newitem") 411, Value.str (Str.ofString "parentpos") 412, Value.str (Str.ofString "parent") 413] }
noncomputable def ob173 (_P : Params) : Obj := { cls := Value.type "tuple", data := Data.seq #[] }
noncomputable def ob174 (_P : Params) : Obj := fnP (PR.main.body[24]?) (Str.ofString "_siftdown_max")
noncomputable def ob175 (_P : Params) : Obj := { cls := Value.type "code", data := Data.fields #[Value.str (Str.ofString "_siftdown_max") 405, Value.str (Str.ofString "_siftdown_max") 406, Value.str (Str.ofString "/claim/cut.py") 407, Value.int 173 0, Value.int 3 0, Value.int 0 0, Value.int 0 0, Value.int 3 0, Value.ref 170, Value.bool Bool.true, Value.int 181 0, Value.ref 171, Value.none, Value.ref 172, Value.ref 173, Value.ref 174, Value.int 414 0, Value.int 173 0, Value.str (Str.ofString "/claim/cut.py") 415] }
noncomputable def ob176 (_P : Params) : Obj := fnO (PR.main.body[24]?) (Str.ofString "_siftdown_max") (Str.ofString "cpy313.heapq") 342 175
noncomputable def ob177 (_P : Params) : Obj := { cls := Value.type "tuple", data := Data.seq #[] }
noncomputable def ob178 (_P : Params) : Obj := { cls := Value.none, data := Data.fields #[] }
noncomputable def ob179 (_P : Params) : Obj := { cls := Value.type "tuple", data := Data.seq #[Value.str (Str.ofString "heap") 420, Value.str (Str.ofString "pos") 421, Value.str (Str.ofString "endpos") 422, Value.str (Str.ofString "startpos") 423, Value.str (Str.ofString "newitem") 424, Value.str (Str.ofString "childpos") 425, Value.str (Str.ofString "rightpos") 426] }
noncomputable def ob180 (_P : Params) : Obj := { cls := Value.type "tuple", data := Data.seq #[] }
noncomputable def ob181 (_P : Params) : Obj := fnP (PR.main.body[25]?) (Str.ofString "_siftup_max")
noncomputable def ob182 (_P : Params) : Obj := { cls := Value.type "code", data := Data.fields #[Value.str (Str.ofString "_siftup_max") 417, Value.str (Str.ofString "_siftup_max") 418, Value.str (Str.ofString "/claim/cut.py") 419, Value.int 184 0, Value.int 2 0, Value.int 0 0, Value.int 0 0, Value.int 3 0, Value.ref 177, Value.bool Bool.true, Value.int 181 0, Value.ref 178, Value.none, Value.ref 179, Value.ref 180, Value.ref 181, Value.int 427 0, Value.int 184 0, Value.str (Str.ofString "/claim/cut.py") 428] }
noncomputable def ob183 (_P : Params) : Obj := fnO (PR.main.body[25]?) (Str.ofString "_siftup_max") (Str.ofString "cpy313.heapq") 342 182
noncomputable def ob184 (_P : Params) : Obj := { cls := Value.type "tuple", data := Data.seq #[] }
noncomputable def ob185 (_P : Params) : Obj := { cls := Value.none, data := Data.fields #[] }
noncomputable def ob186 (_P : Params) : Obj := { cls := Value.type "tuple", data := Data.seq #[Value.str (Str.ofString "mode") 435] }
noncomputable def ob187 (_P : Params) : Obj := { cls := Value.type "tuple", data := Data.seq #[] }
noncomputable def ob188 (_P : Params) : Obj := fnP (PR.main.body[27]?) (Str.ofString "S_IMODE")
noncomputable def ob189 (_P : Params) : Obj := { cls := Value.type "code", data := Data.fields #[Value.str (Str.ofString "S_IMODE") 432, Value.str (Str.ofString "S_IMODE") 433, Value.str (Str.ofString "/claim/cut.py") 434, Value.int 199 0, Value.int 1 0, Value.int 0 0, Value.int 0 0, Value.int 3 0, Value.ref 184, Value.bool Bool.true, Value.int 181 0, Value.ref 185, Value.none, Value.ref 186, Value.ref 187, Value.ref 188, Value.int 436 0, Value.int 199 0, Value.str (Str.ofString "/claim/cut.py") 437] }
noncomputable def ob190 (_P : Params) : Obj := fnO (PR.main.body[27]?) (Str.ofString "S_IMODE") (Str.ofString "cpy313.stat") 430 189
noncomputable def ob191 (_P : Params) : Obj := { cls := Value.type "tuple", data := Data.seq #[] }
noncomputable def ob192 (_P : Params) : Obj := { cls := Value.none, data := Data.fields #[] }
noncomputable def ob193 (_P : Params) : Obj := { cls := Value.type "tuple", data := Data.seq #[Value.str (Str.ofString "mode") 442] }
noncomputable def ob194 (_P : Params) : Obj := { cls := Value.type "tuple", data := Data.seq #[] }
noncomputable def ob195 (_P : Params) : Obj := fnP (PR.main.body[28]?) (Str.ofString "S_IFMT")
noncomputable def ob196 (_P : Params) : Obj := { cls := Value.type "code", data := Data.fields #[Value.str (Str.ofString "S_IFMT") 439, Value.str (Str.ofString "S_IFMT") 440, Value.str (Str.ofString "/claim/cut.py") 441, Value.int 201 0, Value.int 1 0, Value.int 0 0, Value.int 0 0, Value.int 3 0, Value.ref 191, Value.bool Bool.true, Value.int 181 0, Value.ref 192, Value.none, Value.ref 193, Value.ref 194, Value.ref 195, Value.int 443 0, Value.int 201 0, Value.str (Str.ofString "/claim/cut.py") 444] }
noncomputable def ob197 (_P : Params) : Obj := fnO (PR.main.body[28]?) (Str.ofString "S_IFMT") (Str.ofString "cpy313.stat") 430 196
noncomputable def ob198 (_P : Params) : Obj := { cls := Value.type "tuple", data := Data.seq #[] }
noncomputable def ob199 (_P : Params) : Obj := { cls := Value.none, data := Data.fields #[] }
noncomputable def ob200 (_P : Params) : Obj := { cls := Value.type "tuple", data := Data.seq #[Value.str (Str.ofString "mode") 463] }
noncomputable def ob201 (_P : Params) : Obj := { cls := Value.type "tuple", data := Data.seq #[] }
noncomputable def ob202 (_P : Params) : Obj := fnP (PR.main.body[36]?) (Str.ofString "S_ISDIR")
noncomputable def ob203 (_P : Params) : Obj := { cls := Value.type "code", data := Data.fields #[Value.str (Str.ofString "S_ISDIR") 460, Value.str (Str.ofString "S_ISDIR") 461, Value.str (Str.ofString "/claim/cut.py") 462, Value.int 210 0, Value.int 1 0, Value.int 0 0, Value.int 0 0, Value.int 3 0, Value.ref 198, Value.bool Bool.true, Value.int 181 0, Value.ref 199, Value.none, Value.ref 200, Value.ref 201, Value.ref 202, Value.int 464 0, Value.int 210 0, Value.str (Str.ofString "/claim/cut.py") 465] }
noncomputable def ob204 (_P : Params) : Obj := fnO (PR.main.body[36]?) (Str.ofString "S_ISDIR") (Str.ofString "cpy313.stat") 430 203
noncomputable def ob205 (_P : Params) : Obj := { cls := Value.type "tuple", data := Data.seq #[Value.int 40960 456, Value.str (Str.ofString "l") 491] }
noncomputable def ob206 (_P : Params) : Obj := { cls := Value.type "tuple", data := Data.seq #[Value.int 49152 458, Value.str (Str.ofString "s") 492] }
noncomputable def ob207 (_P : Params) : Obj := { cls := Value.type "tuple", data := Data.seq #[Value.int 32768 452, Value.str (Str.ofString "-") 493] }
noncomputable def ob208 (_P : Params) : Obj := { cls := Value.type "tuple", data := Data.seq #[Value.int 24576 450, Value.str (Str.ofString "b") 494] }
noncomputable def ob209 (_P : Params) : Obj := { cls := Value.type "tuple", data := Data.seq #[Value.int 16384 446, Value.str (Str.ofString "d") 495] }
noncomputable def ob210 (_P : Params) : Obj := { cls := Value.type "tuple", data := Data.seq #[Value.int 8192 448, Value.str (Str.ofString "c") 496] }
noncomputable def ob211 (_P : Params) : Obj := { cls := Value.type "tuple", data := Data.seq #[Value.int 4096 454, Value.str (Str.ofString "p") 497] }
noncomputable def ob212 (_P : Params) : Obj := { cls := Value.type "tuple", data := Data.seq #[Value.ref 205, Value.ref 206, Value.ref 207, Value.ref 208, Value.ref 209, Value.ref 210, Value.ref 211] }
noncomputable def ob213 (_P : Params) : Obj := { cls := Value.type "tuple", data := Data.seq #[Value.int 256 473, Value.str (Str.ofString "r") 498] }
noncomputable def ob214 (_P : Params) : Obj := { cls := Value.type "tuple", data := Data.seq #[Value.ref 213] }
noncomputable def ob215 (_P : Params) : Obj := { cls := Value.type "tuple", data := Data.seq #[Value.int 128 475, Value.str (Str.ofString "w") 499] }
noncomputable def ob216 (_P : Params) : Obj := { cls := Value.type "tuple", data := Data.seq #[Value.ref 215] }
noncomputable def ob217 (_P : Params) : Obj := { cls := Value.type "tuple", data := Data.seq #[Value.int 2112 500, Value.str (Str.ofString "s") 501] }
noncomputable def ob218 (_P : Params) : Obj := { cls := Value.type "tuple", data := Data.seq #[Value.int 2048 467, Value.str (Str.ofString "S") 502] }
noncomputable def ob219 (_P : Params) : Obj := { cls := Value.type "tuple", data := Data.seq #[Value.int 64 477, Value.str (Str.ofString "x") 503] }
noncomputable def ob220 (_P : Params) : Obj := { cls := Value.type "tuple", data := Data.seq #[Value.ref 217, Value.ref 218, Value.ref 219] }
noncomputable def ob221 (_P : Params) : Obj := { cls := Value.type "tuple", data := Data.seq #[Value.int 32 479, Value.str (Str.ofString "r") 504] }
noncomputable def ob222 (_P : Params) : Obj := { cls := Value.type "tuple", data := Data.seq #[Value.ref 221] }
noncomputable def ob223 (_P : Params) : Obj := { cls := Value.type "tuple", data := Data.seq #[Value.int 16 481, Value.str (Str.ofString "w") 505] }
noncomputable def ob224 (_P : Params) : Obj := { cls := Value.type "tuple", data := Data.seq #[Value.ref 223] }
noncomputable def ob225 (_P : Params) : Obj := { cls := Value.type "tuple", data := Data.seq #[Value.int 1032 506, Value.str (Str.ofString "s") 507] }
noncomputable def ob226 (_P : Params) : Obj := { cls := Value.type "tuple", data := Data.seq #[Value.int 1024 469, Value.str (Str.ofString "S") 508] }
noncomputable def ob227 (_P : Params) : Obj := { cls := Value.type "tuple", data := Data.seq #[Value.int 8 483, Value.str (Str.ofString "x") 509] }
noncomputable def ob228 (_P : Params) : Obj := { cls := Value.type "tuple", data := Data.seq #[Value.ref 225, Value.ref 226, Value.ref 227] }
noncomputable def ob229 (_P : Params) : Obj := { cls := Value.type "tuple", data := Data.seq #[Value.int 4 485, Value.str (Str.ofString "r") 510] }
noncomputable def ob230 (_P : Params) : Obj := { cls := Value.type "tuple", data := Data.seq #[Value.ref 229] }
noncomputable def ob231 (_P : Params) : Obj := { cls := Value.type "tuple", data := Data.seq #[Value.int 2 487, Value.str (Str.ofString "w") 511] }
noncomputable def ob232 (_P : Params) : Obj := { cls := Value.type "tuple", data := Data.seq #[Value.ref 231] }
noncomputable def ob233 (_P : Params) : Obj := { cls := Value.type "tuple", data := Data.seq #[Value.int 513 512, Value.str (Str.ofString "t") 513] }
noncomputable def ob234 (_P : Params) : Obj := { cls := Value.type "tuple", data := Data.seq #[Value.int 512 471, Value.str (Str.ofString "T") 514] }
noncomputable def ob235 (_P : Params) : Obj := { cls := Value.type "tuple", data := Data.seq #[Value.int 1 489, Value.str (Str.ofString "x") 515] }
noncomputable def ob236 (_P : Params) : Obj := { cls := Value.type "tuple", data := Data.seq #[Value.ref 233, Value.ref 234, Value.ref 235] }
noncomputable def ob237 (_P : Params) : Obj := { cls := Value.type "tuple", data := Data.seq #[Value.ref 212, Value.ref 214, Value.ref 216, Value.ref 220, Value.ref 222, Value.ref 224, Value.ref 228, Value.ref 230, Value.ref 232, Value.ref 236] }
noncomputable def ob238 (_P : Params) : Obj := { cls := Value.type "tuple", data := Data.seq #[] }
noncomputable def ob239 (_P : Params) : Obj := { cls := Value.none, data := Data.fields #[] }
noncomputable def ob240 (_P : Params) : Obj := { cls := Value.type "tuple", data := Data.seq #[Value.str (Str.ofString "mode") 520, Value.str (Str.ofString "perm") 521, Value.str (Str.ofString "index") 522, Value.str (Str.ofString "table") 523, Value.str (Str.ofString "bit") 524, Value.str (Str.ofString "char") 525] }
noncomputable def ob241 (_P : Params) : Obj := { cls := Value.type "tuple", data := Data.seq #[] }
noncomputable def ob242 (_P : Params) : Obj := fnP (PR.main.body[50]?) (Str.ofString "filemode")
noncomputable def ob243 (_P : Params) : Obj := { cls := Value.type "code", data := Data.fields #[Value.str (Str.ofString "filemode") 517, Value.str (Str.ofString "filemode") 518, Value.str (Str.ofString "/claim/cut.py") 519, Value.int 225 0, Value.int 1 0, Value.int 0 0, Value.int 0 0, Value.int 3 0, Value.ref 238, Value.bool Bool.true, Value.int 181 0, Value.ref 239, Value.none, Value.ref 240, Value.ref 241, Value.ref 242, Value.int 526 0, Value.int 225 0, Value.str (Str.ofString "/claim/cut.py") 527] }
noncomputable def ob244 (_P : Params) : Obj := fnO (PR.main.body[50]?) (Str.ofString "filemode") (Str.ofString "cpy313.stat") 430 243
noncomputable def ob245 (_P : Params) : Obj := { cls := Value.type "tuple", data := Data.seq #[] }
noncomputable def ob246 (_P : Params) : Obj := { cls := Value.none, data := Data.fields #[] }
noncomputable def ob247 (_P : Params) : Obj := fnP (PR.main.body[52]?) (Str.ofString "_law_numbers")
noncomputable def ob248 (_P : Params) : Obj := { cls := Value.type "code", data := Data.fields #[Value.str (Str.ofString "_law_numbers") 531, Value.str (Str.ofString "_law_numbers") 532, Value.str (Str.ofString "/claim/cut.py") 533, Value.int 243 0, Value.int 1 0, Value.int 0 0, Value.int 0 0, Value.int 3 0, Value.ref 245, Value.bool Bool.true, Value.int 181 0, Value.ref 246, Value.none, Value.none, Value.none, Value.ref 247, Value.int 534 0, Value.int 243 0, Value.str (Str.ofString "/claim/cut.py") 535] }
noncomputable def ob249 (_P : Params) : Obj := fnO (PR.main.body[52]?) (Str.ofString "_law_numbers") (Str.ofString "law_pd0157_01") 529 248
noncomputable def ob250 (_P : Params) : Obj := { cls := Value.type "tuple", data := Data.seq #[] }
noncomputable def ob251 (_P : Params) : Obj := { cls := Value.none, data := Data.fields #[] }
noncomputable def ob252 (_P : Params) : Obj := { cls := Value.type "tuple", data := Data.seq #[Value.str (Str.ofString "numbers") 540, Value.str (Str.ofString "overs") 541, Value.str (Str.ofString "wishes") 542, Value.str (Str.ofString "k") 543, Value.str (Str.ofString "kind") 544, Value.str (Str.ofString "rights") 545] }
noncomputable def ob253 (_P : Params) : Obj := { cls := Value.type "tuple", data := Data.seq #[] }
noncomputable def ob254 (_P : Params) : Obj := fnP (PR.main.body[53]?) (Str.ofString "_law_wishes")
noncomputable def ob255 (_P : Params) : Obj := { cls := Value.type "code", data := Data.fields #[Value.str (Str.ofString "_law_wishes") 537, Value.str (Str.ofString "_law_wishes") 538, Value.str (Str.ofString "/claim/cut.py") 539, Value.int 246 0, Value.int 2 0, Value.int 0 0, Value.int 0 0, Value.int 3 0, Value.ref 250, Value.bool Bool.true, Value.int 181 0, Value.ref 251, Value.none, Value.ref 252, Value.ref 253, Value.ref 254, Value.int 546 0, Value.int 246 0, Value.str (Str.ofString "/claim/cut.py") 547] }
noncomputable def ob256 (_P : Params) : Obj := fnO (PR.main.body[53]?) (Str.ofString "_law_wishes") (Str.ofString "law_pd0157_01") 529 255
noncomputable def ob257 (_P : Params) : Obj := { cls := Value.type "tuple", data := Data.seq #[] }
noncomputable def ob258 (_P : Params) : Obj := { cls := Value.none, data := Data.fields #[] }
noncomputable def ob259 (_P : Params) : Obj := { cls := Value.type "tuple", data := Data.seq #[Value.str (Str.ofString "overs") 552, Value.str (Str.ofString "paths") 553, Value.str (Str.ofString "k") 554] }
noncomputable def ob260 (_P : Params) : Obj := { cls := Value.type "tuple", data := Data.seq #[] }
noncomputable def ob261 (_P : Params) : Obj := fnP (PR.main.body[54]?) (Str.ofString "_law_paths")
noncomputable def ob262 (_P : Params) : Obj := { cls := Value.type "code", data := Data.fields #[Value.str (Str.ofString "_law_paths") 549, Value.str (Str.ofString "_law_paths") 550, Value.str (Str.ofString "/claim/cut.py") 551, Value.int 253 0, Value.int 1 0, Value.int 0 0, Value.int 0 0, Value.int 3 0, Value.ref 257, Value.bool Bool.true, Value.int 181 0, Value.ref 258, Value.none, Value.ref 259, Value.ref 260, Value.ref 261, Value.int 555 0, Value.int 253 0, Value.str (Str.ofString "/claim/cut.py") 556] }
noncomputable def ob263 (_P : Params) : Obj := fnO (PR.main.body[54]?) (Str.ofString "_law_paths") (Str.ofString "law_pd0157_01") 529 262
noncomputable def ob264 (_P : Params) : Obj := { cls := Value.type "tuple", data := Data.seq #[] }
noncomputable def ob265 (_P : Params) : Obj := { cls := Value.none, data := Data.fields #[] }
noncomputable def ob266 (_P : Params) : Obj := fnP (PR.main.body[55]?) (Str.ofString "_law_fitting")
noncomputable def ob267 (_P : Params) : Obj := { cls := Value.type "code", data := Data.fields #[Value.str (Str.ofString "_law_fitting") 558, Value.str (Str.ofString "_law_fitting") 559, Value.str (Str.ofString "/claim/cut.py") 560, Value.int 258 0, Value.int 1 0, Value.int 0 0, Value.int 0 0, Value.int 3 0, Value.ref 264, Value.bool Bool.true, Value.int 181 0, Value.ref 265, Value.none, Value.none, Value.none, Value.ref 266, Value.int 561 0, Value.int 258 0, Value.str (Str.ofString "/claim/cut.py") 562] }
noncomputable def ob268 (_P : Params) : Obj := fnO (PR.main.body[55]?) (Str.ofString "_law_fitting") (Str.ofString "law_pd0157_01") 529 267
noncomputable def ob269 (_P : Params) : Obj := { cls := Value.type "tuple", data := Data.seq #[] }
noncomputable def ob270 (_P : Params) : Obj := { cls := Value.none, data := Data.fields #[] }
noncomputable def ob271 (_P : Params) : Obj := fnP (PR.main.body[56]?) (Str.ofString "_law_called")
noncomputable def ob272 (_P : Params) : Obj := { cls := Value.type "code", data := Data.fields #[Value.str (Str.ofString "_law_called") 564, Value.str (Str.ofString "_law_called") 565, Value.str (Str.ofString "/claim/cut.py") 566, Value.int 271 0, Value.int 2 0, Value.int 0 0, Value.int 0 0, Value.int 3 0, Value.ref 269, Value.bool Bool.true, Value.int 181 0, Value.ref 270, Value.none, Value.none, Value.none, Value.ref 271, Value.int 567 0, Value.int 271 0, Value.str (Str.ofString "/claim/cut.py") 568] }
noncomputable def ob273 (_P : Params) : Obj := fnO (PR.main.body[56]?) (Str.ofString "_law_called") (Str.ofString "law_pd0157_01") 529 272
noncomputable def ob274 (_P : Params) : Obj := { cls := Value.type "tuple", data := Data.seq #[] }
noncomputable def ob275 (_P : Params) : Obj := { cls := Value.none, data := Data.fields #[] }
noncomputable def ob276 (_P : Params) : Obj := fnP (PR.main.body[57]?) (Str.ofString "_law_fewest")
noncomputable def ob277 (_P : Params) : Obj := { cls := Value.type "code", data := Data.fields #[Value.str (Str.ofString "_law_fewest") 570, Value.str (Str.ofString "_law_fewest") 571, Value.str (Str.ofString "/claim/cut.py") 572, Value.int 283 0, Value.int 2 0, Value.int 0 0, Value.int 0 0, Value.int 3 0, Value.ref 274, Value.bool Bool.true, Value.int 181 0, Value.ref 275, Value.none, Value.none, Value.none, Value.ref 276, Value.int 573 0, Value.int 283 0, Value.str (Str.ofString "/claim/cut.py") 574] }
noncomputable def ob278 (_P : Params) : Obj := fnO (PR.main.body[57]?) (Str.ofString "_law_fewest") (Str.ofString "law_pd0157_01") 529 277
noncomputable def ob279 (_P : Params) : Obj := { cls := Value.type "tuple", data := Data.seq #[] }
noncomputable def ob280 (_P : Params) : Obj := { cls := Value.none, data := Data.fields #[] }
noncomputable def ob281 (_P : Params) : Obj := { cls := Value.type "tuple", data := Data.seq #[Value.str (Str.ofString "overs") 579, Value.str (Str.ofString "wishes") 580, Value.str (Str.ofString "listed") 581, Value.str (Str.ofString "place") 582, Value.str (Str.ofString "kind") 583] }
noncomputable def ob282 (_P : Params) : Obj := { cls := Value.type "tuple", data := Data.seq #[] }
noncomputable def ob283 (_P : Params) : Obj := fnP (PR.main.body[58]?) (Str.ofString "_law_listed")
noncomputable def ob284 (_P : Params) : Obj := { cls := Value.type "code", data := Data.fields #[Value.str (Str.ofString "_law_listed") 576, Value.str (Str.ofString "_law_listed") 577, Value.str (Str.ofString "/claim/cut.py") 578, Value.int 292 0, Value.int 2 0, Value.int 0 0, Value.int 0 0, Value.int 3 0, Value.ref 279, Value.bool Bool.true, Value.int 181 0, Value.ref 280, Value.none, Value.ref 281, Value.ref 282, Value.ref 283, Value.int 584 0, Value.int 292 0, Value.str (Str.ofString "/claim/cut.py") 585] }
noncomputable def ob285 (_P : Params) : Obj := fnO (PR.main.body[58]?) (Str.ofString "_law_listed") (Str.ofString "law_pd0157_01") 529 284
noncomputable def ob286 (_P : Params) : Obj := { cls := Value.type "tuple", data := Data.seq #[] }
noncomputable def ob287 (_P : Params) : Obj := { cls := Value.none, data := Data.fields #[] }
noncomputable def ob288 (_P : Params) : Obj := fnP (PR.main.body[59]?) (Str.ofString "law")
noncomputable def ob289 (_P : Params) : Obj := { cls := Value.type "code", data := Data.fields #[Value.str (Str.ofString "law") 587, Value.str (Str.ofString "law") 588, Value.str (Str.ofString "/claim/cut.py") 589, Value.int 299 0, Value.int 1 0, Value.int 0 0, Value.int 0 0, Value.int 3 0, Value.ref 286, Value.bool Bool.true, Value.int 181 0, Value.ref 287, Value.none, Value.none, Value.none, Value.ref 288, Value.int 590 0, Value.int 299 0, Value.str (Str.ofString "/claim/cut.py") 591] }
noncomputable def ob290 (_P : Params) : Obj := fnO (PR.main.body[59]?) (Str.ofString "law") (Str.ofString "law_pd0157_01") 529 289
/-- the heap behind the top -/
noncomputable def heapF (P : Params) : Heap := { objs := #[boot_o_0 P, boot_o_1 P, boot_o_2 P, ob3 P, boot_o_4 P, boot_o_5 P, boot_o_6 P, boot_o_7 P, boot_o_8 P, boot_o_9 P, boot_o_10 P, ob11 P, ob12 P, ob13 P, ob14 P, ob15 P, ob16 P, ob17 P, ob18 P, ob19 P, ob20 P, ob21 P, ob22 P, ob23 P, ob24 P, ob25 P, ob26 P, ob27 P, ob28 P, ob29 P, ob30 P, ob31 P, ob32 P, ob33 P, ob34 P, ob35 P, ob36 P, ob37 P, ob38 P, ob39 P, ob40 P, ob41 P, ob42 P, ob43 P, ob44 P, ob45 P, ob46 P, ob47 P, ob48 P, ob49 P, ob50 P, ob51 P, ob52 P, ob53 P, ob54 P, ob55 P, ob56 P, ob57 P, ob58 P, ob59 P, ob60 P, ob61 P, ob62 P, ob63 P, ob64 P, ob65 P, ob66 P, ob67 P, ob68 P, ob69 P, ob70 P, ob71 P, ob72 P, ob73 P, ob74 P, ob75 P, ob76 P, ob77 P, ob78 P, ob79 P, ob80 P, ob81 P, ob82 P, ob83 P, ob84 P, ob85 P, ob86 P, ob87 P, ob88 P, ob89 P, ob90 P, ob91 P, ob92 P, ob93 P, ob94 P, ob95 P, ob96 P, ob97 P, ob98 P, ob99 P, ob100 P, ob101 P, ob102 P, ob103 P, ob104 P, ob105 P, ob106 P, ob107 P, ob108 P, ob109 P, ob110 P, ob111 P, ob112 P, ob113 P, ob114 P, ob115 P, ob116 P, ob117 P, ob118 P, ob119 P, ob120 P, ob121 P, ob122 P, ob123 P, ob124 P, ob125 P, ob126 P, ob127 P, ob128 P, ob129 P, ob130 P, ob131 P, ob132 P, ob133 P, ob134 P, ob135 P, ob136 P, ob137 P, ob138 P, ob139 P, ob140 P, ob141 P, ob142 P, ob143 P, ob144 P, ob145 P, ob146 P, ob147 P, ob148 P, ob149 P, ob150 P, ob151 P, ob152 P, ob153 P, ob154 P, ob155 P, ob156 P, ob157 P, ob158 P, ob159 P, ob160 P, ob161 P, ob162 P, ob163 P, ob164 P, ob165 P, ob166 P, ob167 P, ob168 P, ob169 P, ob170 P, ob171 P, ob172 P, ob173 P, ob174 P, ob175 P, ob176 P, ob177 P, ob178 P, ob179 P, ob180 P, ob181 P, ob182 P, ob183 P, ob184 P, ob185 P, ob186 P, ob187 P, ob188 P, ob189 P, ob190 P, ob191 P, ob192 P, ob193 P, ob194 P, ob195 P, ob196 P, ob197 P, ob198 P, ob199 P, ob200 P, ob201 P, ob202 P, ob203 P, ob204 P, ob205 P, ob206 P, ob207 P, ob208 P, ob209 P, ob210 P, ob211 P, ob212 P, ob213 P, ob214 P, ob215 P, ob216 P, ob217 P, ob218 P, ob219 P, ob220 P, ob221 P, ob222 P, ob223 P, ob224 P, ob225 P, ob226 P, ob227 P, ob228 P, ob229 P, ob230 P, ob231 P, ob232 P, ob233 P, ob234 P, ob235 P, ob236 P, ob237 P, ob238 P, ob239 P, ob240 P, ob241 P, ob242 P, ob243 P, ob244 P, ob245 P, ob246 P, ob247 P, ob248 P, ob249 P, ob250 P, ob251 P, ob252 P, ob253 P, ob254 P, ob255 P, ob256 P, ob257 P, ob258 P, ob259 P, ob260 P, ob261 P, ob262 P, ob263 P, ob264 P, ob265 P, ob266 P, ob267 P, ob268 P, ob269 P, ob270 P, ob271 P, ob272 P, ob273 P, ob274 P, ob275 P, ob276 P, ob277 P, ob278 P, ob279 P, ob280 P, ob281 P, ob282 P, ob283 P, ob284 P, ob285 P, ob286 P, ob287 P, ob288 P, ob289 P, ob290 P], life := { } }
/-- the part that the walk knows -/
noncomputable def frg (P : Params) : Frag := (nat_lit 2, boot_o_2 P) :: (nat_lit 3, ob3 P) :: (nat_lit 15, ob15 P) :: (nat_lit 17, ob17 P) :: (nat_lit 18, ob18 P) :: (nat_lit 20, ob20 P) :: (nat_lit 21, ob21 P) :: (nat_lit 22, ob22 P) :: (nat_lit 24, ob24 P) :: (nat_lit 25, ob25 P) :: (nat_lit 27, ob27 P) :: (nat_lit 28, ob28 P) :: (nat_lit 29, ob29 P) :: (nat_lit 36, ob36 P) :: (nat_lit 38, ob38 P) :: (nat_lit 39, ob39 P) :: (nat_lit 41, ob41 P) :: (nat_lit 42, ob42 P) :: (nat_lit 43, ob43 P) :: (nat_lit 44, ob44 P) :: (nat_lit 45, ob45 P) :: (nat_lit 48, ob48 P) :: (nat_lit 55, ob55 P) :: (nat_lit 57, ob57 P) :: (nat_lit 58, ob58 P) :: (nat_lit 60, ob60 P) :: (nat_lit 61, ob61 P) :: (nat_lit 62, ob62 P) :: (nat_lit 64, ob64 P) :: (nat_lit 65, ob65 P) :: (nat_lit 67, ob67 P) :: (nat_lit 68, ob68 P) :: (nat_lit 69, ob69 P) :: (nat_lit 71, ob71 P) :: (nat_lit 72, ob72 P) :: (nat_lit 74, ob74 P) :: (nat_lit 75, ob75 P) :: (nat_lit 76, ob76 P) :: (nat_lit 77, ob77 P) :: (nat_lit 78, ob78 P) :: (nat_lit 81, ob81 P) :: (nat_lit 83, ob83 P) :: (nat_lit 84, ob84 P) :: (nat_lit 86, ob86 P) :: (nat_lit 87, ob87 P) :: (nat_lit 88, ob88 P) :: (nat_lit 90, ob90 P) :: (nat_lit 91, ob91 P) :: (nat_lit 93, ob93 P) :: (nat_lit 94, ob94 P) :: (nat_lit 95, ob95 P) :: (nat_lit 97, ob97 P) :: (nat_lit 98, ob98 P) :: (nat_lit 100, ob100 P) :: (nat_lit 101, ob101 P) :: (nat_lit 102, ob102 P) :: (nat_lit 104, ob104 P) :: (nat_lit 105, ob105 P) :: (nat_lit 107, ob107 P) :: (nat_lit 108, ob108 P) :: (nat_lit 109, ob109 P) :: (nat_lit 111, ob111 P) :: (nat_lit 112, ob112 P) :: (nat_lit 114, ob114 P) :: (nat_lit 115, ob115 P) :: (nat_lit 116, ob116 P) :: (nat_lit 118, ob118 P) :: (nat_lit 119, ob119 P) :: (nat_lit 121, ob121 P) :: (nat_lit 122, ob122 P) :: (nat_lit 123, ob123 P) :: (nat_lit 126, ob126 P) :: (nat_lit 127, ob127 P) :: (nat_lit 128, ob128 P) :: (nat_lit 130, ob130 P) :: (nat_lit 131, ob131 P) :: (nat_lit 133, ob133 P) :: (nat_lit 134, ob134 P) :: (nat_lit 135, ob135 P) :: (nat_lit 137, ob137 P) :: (nat_lit 138, ob138 P) :: (nat_lit 140, ob140 P) :: (nat_lit 141, ob141 P) :: (nat_lit 142, ob142 P) :: (nat_lit 144, ob144 P) :: (nat_lit 145, ob145 P) :: (nat_lit 147, ob147 P) :: (nat_lit 148, ob148 P) :: (nat_lit 149, ob149 P) :: (nat_lit 151, ob151 P) :: (nat_lit 152, ob152 P) :: (nat_lit 154, ob154 P) :: (nat_lit 155, ob155 P) :: (nat_lit 156, ob156 P) :: (nat_lit 158, ob158 P) :: (nat_lit 159, ob159 P) :: (nat_lit 161, ob161 P) :: (nat_lit 162, ob162 P) :: (nat_lit 163, ob163 P) :: (nat_lit 165, ob165 P) :: (nat_lit 166, ob166 P) :: (nat_lit 168, ob168 P) :: (nat_lit 169, ob169 P) :: (nat_lit 170, ob170 P) :: (nat_lit 172, ob172 P) :: (nat_lit 173, ob173 P) :: (nat_lit 175, ob175 P) :: (nat_lit 176, ob176 P) :: (nat_lit 177, ob177 P) :: (nat_lit 179, ob179 P) :: (nat_lit 180, ob180 P) :: (nat_lit 182, ob182 P) :: (nat_lit 183, ob183 P) :: (nat_lit 184, ob184 P) :: (nat_lit 186, ob186 P) :: (nat_lit 187, ob187 P) :: (nat_lit 189, ob189 P) :: (nat_lit 190, ob190 P) :: (nat_lit 191, ob191 P) :: (nat_lit 193, ob193 P) :: (nat_lit 194, ob194 P) :: (nat_lit 196, ob196 P) :: (nat_lit 197, ob197 P) :: (nat_lit 198, ob198 P) :: (nat_lit 200, ob200 P) :: (nat_lit 201, ob201 P) :: (nat_lit 203, ob203 P) :: (nat_lit 204, ob204 P) :: (nat_lit 205, ob205 P) :: (nat_lit 206, ob206 P) :: (nat_lit 207, ob207 P) :: (nat_lit 208, ob208 P) :: (nat_lit 209, ob209 P) :: (nat_lit 210, ob210 P) :: (nat_lit 211, ob211 P) :: (nat_lit 212, ob212 P) :: (nat_lit 213, ob213 P) :: (nat_lit 214, ob214 P) :: (nat_lit 215, ob215 P) :: (nat_lit 216, ob216 P) :: (nat_lit 217, ob217 P) :: (nat_lit 218, ob218 P) :: (nat_lit 219, ob219 P) :: (nat_lit 220, ob220 P) :: (nat_lit 221, ob221 P) :: (nat_lit 222, ob222 P) :: (nat_lit 223, ob223 P) :: (nat_lit 224, ob224 P) :: (nat_lit 225, ob225 P) :: (nat_lit 226, ob226 P) :: (nat_lit 227, ob227 P) :: (nat_lit 228, ob228 P) :: (nat_lit 229, ob229 P) :: (nat_lit 230, ob230 P) :: (nat_lit 231, ob231 P) :: (nat_lit 232, ob232 P) :: (nat_lit 233, ob233 P) :: (nat_lit 234, ob234 P) :: (nat_lit 235, ob235 P) :: (nat_lit 236, ob236 P) :: (nat_lit 237, ob237 P) :: (nat_lit 238, ob238 P) :: (nat_lit 240, ob240 P) :: (nat_lit 241, ob241 P) :: (nat_lit 243, ob243 P) :: (nat_lit 244, ob244 P) :: (nat_lit 245, ob245 P) :: (nat_lit 248, ob248 P) :: (nat_lit 249, ob249 P) :: (nat_lit 250, ob250 P) :: (nat_lit 252, ob252 P) :: (nat_lit 253, ob253 P) :: (nat_lit 255, ob255 P) :: (nat_lit 256, ob256 P) :: (nat_lit 257, ob257 P) :: (nat_lit 259, ob259 P) :: (nat_lit 260, ob260 P) :: (nat_lit 262, ob262 P) :: (nat_lit 263, ob263 P) :: (nat_lit 264, ob264 P) :: (nat_lit 267, ob267 P) :: (nat_lit 268, ob268 P) :: (nat_lit 269, ob269 P) :: (nat_lit 272, ob272 P) :: (nat_lit 273, ob273 P) :: (nat_lit 274, ob274 P) :: (nat_lit 277, ob277 P) :: (nat_lit 278, ob278 P) :: (nat_lit 279, ob279 P) :: (nat_lit 281, ob281 P) :: (nat_lit 282, ob282 P) :: (nat_lit 284, ob284 P) :: (nat_lit 285, ob285 P) :: (nat_lit 286, ob286 P) :: (nat_lit 289, ob289 P) :: (nat_lit 290, ob290 P) :: []
noncomputable def frA : List Addr := [2, 3, 15, 17, 18, 20, 21, 22, 24, 25, 27, 28, 29, 36, 38, 39, 41, 42, 43, 44, 45, 48, 55, 57, 58, 60, 61, 62, 64, 65, 67, 68, 69, 71, 72, 74, 75, 76, 77, 78, 81, 83, 84, 86, 87, 88, 90, 91, 93, 94, 95, 97, 98, 100, 101, 102, 104, 105, 107, 108, 109, 111, 112, 114, 115, 116, 118, 119, 121, 122, 123, 126, 127, 128, 130, 131, 133, 134, 135, 137, 138, 140, 141, 142, 144, 145, 147, 148, 149, 151, 152, 154, 155, 156, 158, 159, 161, 162, 163, 165, 166, 168, 169, 170, 172, 173, 175, 176, 177, 179, 180, 182, 183, 184, 186, 187, 189, 190, 191, 193, 194, 196, 197, 198, 200, 201, 203, 204, 205, 206, 207, 208, 209, 210, 211, 212, 213, 214, 215, 216, 217, 218, 219, 220, 221, 222, 223, 224, 225, 226, 227, 228, 229, 230, 231, 232, 233, 234, 235, 236, 237, 238, 240, 241, 243, 244, 245, 248, 249, 250, 252, 253, 255, 256, 257, 259, 260, 262, 263, 264, 267, 268, 269, 272, 273, 274, 277, 278, 279, 281, 282, 284, 285, 286, 289, 290]
noncomputable def vw : Program := view PR [0, 2, 4, 6, 7, 9, 11, 13, 14, 15, 16, 18, 19, 20, 21, 22, 23, 24, 25, 27, 28, 29, 30, 31, 32, 33, 34, 35, 36, 37, 38, 39, 40, 41, 42, 43, 44, 45, 46, 47, 48, 49, 50, 52, 53, 54, 55, 56, 57, 58, 59]
end Mine
end

section
open PySem PySem.W PyProof.Rows
set_option maxRecDepth 100000
set_option maxHeartbeats 8000000
namespace Mine
theorem top_open : ∀ w : World, (fencedOpening treeTable PR w 3758).map (fun s => (s.heap, s.gens, s.drawn, s.toks)) = some (boot_heap w.params, Array.mk [], boot_drawn, boot_toks) :=
  boot_open (by kernel_rfl!) (by decide) (by intro s; kernel_rfl!)
theorem top_size : ∀ w : World, ((boot_heap w.params).isNs mainGlobals && (Array.mk [] : Array GenState).size == 0, (boot_heap w.params).objs.size, (boot_heap w.params).nsMap mainGlobals "__annotations__") = (true, 11, some (Value.ref 6)) := by
  intro w
  kernel_rfl!
/-- the names of the text, after its first statements: the first k entries of those at the end, but for the module's name -/
noncomputable def d3 (nm : String) (tk k : Nat) (P : Params) : Obj := match (ob3 P).data with
  | .dict a _ => { cls := .type "dict", data := .dict ⟨{ hash := PyData.keyHash P (Str.ofString "__name__"), key := .str (Str.ofString "__name__") 165, val := .str (Str.ofString nm) tk } :: (a.toList.drop 1).take (k - 1)⟩ k }
  | _ => default
noncomputable def d12 (k : Nat) (P : Params) : Obj := match (ob12 P).data with
  | .fields a => { cls := .none, data := .fields ⟨a.toList.take k⟩ }
  | _ => default
noncomputable def hpA (P : Params) : Heap := { objs := #[boot_o_0 P, boot_o_1 P, boot_o_2 P, d3 "__main__" 164 9 P, boot_o_4 P, boot_o_5 P, boot_o_6 P, boot_o_7 P, boot_o_8 P, boot_o_9 P, boot_o_10 P, ob11 P, d12 0 P, ob13 P, ob14 P], life := { } }
noncomputable def hp1 (P : Params) : Heap := { objs := #[boot_o_0 P, boot_o_1 P, boot_o_2 P, d3 "collections.abc" 231 13 P, boot_o_4 P, boot_o_5 P, boot_o_6 P, boot_o_7 P, boot_o_8 P, boot_o_9 P, boot_o_10 P, ob11 P, d12 12 P, ob13 P, ob14 P, ob15 P, ob16 P, ob17 P, ob18 P, ob19 P, ob20 P, ob21 P, ob22 P, ob23 P, ob24 P, ob25 P, ob26 P, ob27 P, ob28 P, ob29 P, ob30 P, ob31 P, ob32 P, ob33 P, ob34 P, ob35 P, ob36 P, ob37 P, ob38 P, ob39 P, ob40 P, ob41 P, ob42 P, ob43 P, ob44 P, ob45 P, ob46 P, ob47 P, ob48 P, ob49 P, ob50 P, ob51 P, ob52 P, ob53 P, ob54 P, ob55 P, ob56 P, ob57 P, ob58 P, ob59 P, ob60 P, ob61 P, ob62 P, ob63 P, ob64 P, ob65 P, ob66 P, ob67 P, ob68 P, ob69 P, ob70 P, ob71 P, ob72 P, ob73 P, ob74 P, ob75 P, ob76 P, ob77 P, ob78 P, ob79 P, ob80 P], life := { } }
noncomputable def hp2 (P : Params) : Heap := { objs := #[boot_o_0 P, boot_o_1 P, boot_o_2 P, d3 "cpy313.heapq" 342 28 P, boot_o_4 P, boot_o_5 P, boot_o_6 P, boot_o_7 P, boot_o_8 P, boot_o_9 P, boot_o_10 P, ob11 P, d12 57 P, ob13 P, ob14 P, ob15 P, ob16 P, ob17 P, ob18 P, ob19 P, ob20 P, ob21 P, ob22 P, ob23 P, ob24 P, ob25 P, ob26 P, ob27 P, ob28 P, ob29 P, ob30 P, ob31 P, ob32 P, ob33 P, ob34 P, ob35 P, ob36 P, ob37 P, ob38 P, ob39 P, ob40 P, ob41 P, ob42 P, ob43 P, ob44 P, ob45 P, ob46 P, ob47 P, ob48 P, ob49 P, ob50 P, ob51 P, ob52 P, ob53 P, ob54 P, ob55 P, ob56 P, ob57 P, ob58 P, ob59 P, ob60 P, ob61 P, ob62 P, ob63 P, ob64 P, ob65 P, ob66 P, ob67 P, ob68 P, ob69 P, ob70 P, ob71 P, ob72 P, ob73 P, ob74 P, ob75 P, ob76 P, ob77 P, ob78 P, ob79 P, ob80 P, ob81 P, ob82 P, ob83 P, ob84 P, ob85 P, ob86 P, ob87 P, ob88 P, ob89 P, ob90 P, ob91 P, ob92 P, ob93 P, ob94 P, ob95 P, ob96 P, ob97 P, ob98 P, ob99 P, ob100 P, ob101 P, ob102 P, ob103 P, ob104 P, ob105 P, ob106 P, ob107 P, ob108 P, ob109 P, ob110 P, ob111 P, ob112 P, ob113 P, ob114 P, ob115 P, ob116 P, ob117 P, ob118 P, ob119 P, ob120 P, ob121 P, ob122 P, ob123 P, ob124 P, ob125 P, ob126 P, ob127 P, ob128 P, ob129 P, ob130 P, ob131 P, ob132 P, ob133 P, ob134 P, ob135 P, ob136 P, ob137 P, ob138 P, ob139 P, ob140 P, ob141 P, ob142 P, ob143 P, ob144 P, ob145 P, ob146 P, ob147 P, ob148 P, ob149 P, ob150 P, ob151 P, ob152 P, ob153 P, ob154 P, ob155 P, ob156 P, ob157 P, ob158 P, ob159 P, ob160 P, ob161 P, ob162 P, ob163 P, ob164 P, ob165 P, ob166 P, ob167 P, ob168 P, ob169 P, ob170 P, ob171 P, ob172 P, ob173 P, ob174 P, ob175 P, ob176 P, ob177 P, ob178 P, ob179 P, ob180 P, ob181 P, ob182 P, ob183 P], life := { } }
noncomputable def hp3 (P : Params) : Heap := { objs := #[boot_o_0 P, boot_o_1 P, boot_o_2 P, d3 "cpy313.stat" 430 50 P, boot_o_4 P, boot_o_5 P, boot_o_6 P, boot_o_7 P, boot_o_8 P, boot_o_9 P, boot_o_10 P, ob11 P, d12 66 P, ob13 P, ob14 P, ob15 P, ob16 P, ob17 P, ob18 P, ob19 P, ob20 P, ob21 P, ob22 P, ob23 P, ob24 P, ob25 P, ob26 P, ob27 P, ob28 P, ob29 P, ob30 P, ob31 P, ob32 P, ob33 P, ob34 P, ob35 P, ob36 P, ob37 P, ob38 P, ob39 P, ob40 P, ob41 P, ob42 P, ob43 P, ob44 P, ob45 P, ob46 P, ob47 P, ob48 P, ob49 P, ob50 P, ob51 P, ob52 P, ob53 P, ob54 P, ob55 P, ob56 P, ob57 P, ob58 P, ob59 P, ob60 P, ob61 P, ob62 P, ob63 P, ob64 P, ob65 P, ob66 P, ob67 P, ob68 P, ob69 P, ob70 P, ob71 P, ob72 P, ob73 P, ob74 P, ob75 P, ob76 P, ob77 P, ob78 P, ob79 P, ob80 P, ob81 P, ob82 P, ob83 P, ob84 P, ob85 P, ob86 P, ob87 P, ob88 P, ob89 P, ob90 P, ob91 P, ob92 P, ob93 P, ob94 P, ob95 P, ob96 P, ob97 P, ob98 P, ob99 P, ob100 P, ob101 P, ob102 P, ob103 P, ob104 P, ob105 P, ob106 P, ob107 P, ob108 P, ob109 P, ob110 P, ob111 P, ob112 P, ob113 P, ob114 P, ob115 P, ob116 P, ob117 P, ob118 P, ob119 P, ob120 P, ob121 P, ob122 P, ob123 P, ob124 P, ob125 P, ob126 P, ob127 P, ob128 P, ob129 P, ob130 P, ob131 P, ob132 P, ob133 P, ob134 P, ob135 P, ob136 P, ob137 P, ob138 P, ob139 P, ob140 P, ob141 P, ob142 P, ob143 P, ob144 P, ob145 P, ob146 P, ob147 P, ob148 P, ob149 P, ob150 P, ob151 P, ob152 P, ob153 P, ob154 P, ob155 P, ob156 P, ob157 P, ob158 P, ob159 P, ob160 P, ob161 P, ob162 P, ob163 P, ob164 P, ob165 P, ob166 P, ob167 P, ob168 P, ob169 P, ob170 P, ob171 P, ob172 P, ob173 P, ob174 P, ob175 P, ob176 P, ob177 P, ob178 P, ob179 P, ob180 P, ob181 P, ob182 P, ob183 P, ob184 P, ob185 P, ob186 P, ob187 P, ob188 P, ob189 P, ob190 P, ob191 P, ob192 P, ob193 P, ob194 P, ob195 P, ob196 P, ob197 P, ob198 P, ob199 P, ob200 P, ob201 P, ob202 P, ob203 P, ob204 P], life := { } }
noncomputable def envT : Env := { scope := PR.main.scope, locals := mainNs, globals := mainNs, cells := [], code := .ref 13, frame := some 14 }
noncomputable abbrev stT : List Stmt := behindTheImports PR
noncomputable abbrev cT : Code := .body stT envT
noncomputable def p0 : Pos := { line := 0, col := 0, endLine := 0, endCol := 0 }
noncomputable def p1 : Pos := { line := 16, col := 0, endLine := 30, endCol := 16 }
noncomputable def p2 : Pos := { line := 184, col := 0, endLine := 197, endCol := 38 }
noncomputable def p3 : Pos := { line := 223, col := 0, endLine := 223, endCol := 7 }
noncomputable def p4 : Pos := { line := 299, col := 0, endLine := 305, endCol := 112 }
noncomputable abbrev st (h : Params → Heap) (tk : Nat) (w : World) (os : OsState) : Shared := ⟨h w.params, Array.mk [], {}, tk, os⟩
theorem r_pre : ∀ (w : World) (os : OsState), topGo treeTable PR w 11 (some (Value.ref 6)) 12 ⟨boot_heap w.params, Array.mk [], boot_drawn, boot_toks, os⟩ (topStub PR) = some (st hpA 187 w os, ⟨denote treeTable cT, cT, p0, [topFrame p0]⟩) := by
  intro w os
  kernel_rfl!
theorem r_blk : ∀ (w : World) (os : OsState), segRun treeTable PR w 11 (some (Value.ref 6)) 1 1 (st hpA 187 w os) (blockOf stT envT cT p0 [topFrame p0]) = some (.next, st hpA 187 w os, cT, p0) := by
  intro w os
  kernel_rfl!
set_option maxHeartbeats 0 in
theorem r_1 : ∀ (w : World) (os : OsState), segRun treeTable PR w 11 (some (Value.ref 6)) 1 606 (st hpA 187 w os) (piecesOf (stT.take 7) envT cT p0 [topFrame p0]) = some (.next, st hp1 274 w os, cT, p1) := by
  intro w os
  kernel_rfl!
set_option maxHeartbeats 0 in
theorem r_2 : ∀ (w : World) (os : OsState), segRun treeTable PR w 11 (some (Value.ref 6)) 1 513 (st hp1 274 w os) (piecesOf ((stT.drop 7).take 19) envT cT p1 [topFrame p0]) = some (.next, st hp2 430 w os, cT, p2) := by
  intro w os
  kernel_rfl!
set_option maxHeartbeats 0 in
theorem r_3 : ∀ (w : World) (os : OsState), segRun treeTable PR w 11 (some (Value.ref 6)) 1 268 (st hp2 430 w os) (piecesOf (((stT.drop 7).drop 19).take 23) envT cT p2 [topFrame p0]) = some (.next, st hp3 491 w os, cT, p3) := by
  intro w os
  kernel_rfl!
set_option maxHeartbeats 0 in
theorem r_4 : ∀ (w : World) (os : OsState), segRun treeTable PR w 11 (some (Value.ref 6)) 1 433 (st hp3 491 w os) (piecesOf (((stT.drop 7).drop 19).drop 23) envT cT p3 [topFrame p0]) = some (.next, st heapF 593 w os, cT, p4) := by
  intro w os
  kernel_rfl!
theorem r_fin : ∀ (w : World) (os : OsState), topRun treeTable PR w 11 (some (Value.ref 6)) 2 (st heapF 593 w os) ⟨doneF .next, cT, p4, [topFrame p0]⟩ = some (st heapF 593 w os) := by
  intro w os
  kernel_rfl!
theorem top_run : ∀ (w : World) (os : OsState), topRun treeTable PR w 11 (some (Value.ref 6)) 1835 ⟨boot_heap w.params, Array.mk [], boot_drawn, boot_toks, os⟩ (topStub PR) = some ⟨heapF w.params, Array.mk [], {}, 593, os⟩ := by
  intro w os
  have k4 := piece_app (rest := []) (r_4 w os) (piece_nil (r_fin w os))
  rw [List.append_nil] at k4
  have k3 := piece_app (r_3 w os) k4
  rw [List.take_append_drop] at k3
  have k2 := piece_app (r_2 w os) k3
  rw [List.take_append_drop] at k2
  have k1 := piece_app (r_1 w os) k2
  rw [List.take_append_drop] at k1
  exact go_top (n := 12) (r_pre w os) (piece_block (r_blk w os) k1)
end Mine
end

section
open PySem PySem.W PyProof.Rows
set_option maxRecDepth 100000
set_option maxHeartbeats 8000000
namespace Mine
noncomputable abbrev lv : List (Str × WData) := [(Str.ofString "_filemode_table", WData.tuple [WData.tuple [WData.tuple [WData.int 40960, WData.str { cps := #[108] }], WData.tuple [WData.int 49152, WData.str { cps := #[115] }], WData.tuple [WData.int 32768, WData.str { cps := #[45] }], WData.tuple [WData.int 24576, WData.str { cps := #[98] }], WData.tuple [WData.int 16384, WData.str { cps := #[100] }], WData.tuple [WData.int 8192, WData.str { cps := #[99] }], WData.tuple [WData.int 4096, WData.str { cps := #[112] }]], WData.tuple [WData.tuple [WData.int 256, WData.str { cps := #[114] }]], WData.tuple [WData.tuple [WData.int 128, WData.str { cps := #[119] }]], WData.tuple [WData.tuple [WData.int 2112, WData.str { cps := #[115] }], WData.tuple [WData.int 2048, WData.str { cps := #[83] }], WData.tuple [WData.int 64, WData.str { cps := #[120] }]], WData.tuple [WData.tuple [WData.int 32, WData.str { cps := #[114] }]], WData.tuple [WData.tuple [WData.int 16, WData.str { cps := #[119] }]], WData.tuple [WData.tuple [WData.int 1032, WData.str { cps := #[115] }], WData.tuple [WData.int 1024, WData.str { cps := #[83] }], WData.tuple [WData.int 8, WData.str { cps := #[120] }]], WData.tuple [WData.tuple [WData.int 4, WData.str { cps := #[114] }]], WData.tuple [WData.tuple [WData.int 2, WData.str { cps := #[119] }]], WData.tuple [WData.tuple [WData.int 513, WData.str { cps := #[116] }], WData.tuple [WData.int 512, WData.str { cps := #[84] }], WData.tuple [WData.int 1, WData.str { cps := #[120] }]]])]
theorem frA_eq : ∀ P : Params, frA = (frg P).map (·.1) := by
  intro P
  kernel_rfl!
noncomputable abbrev hk : Hook := kHook frg frA frA_eq
noncomputable abbrev lsn : List Str := [Str.ofString "_filemode_table"]
theorem look_o : ∀ (w : World) (os : OsState), openSeen vw lsn (importedModules PR.main.body) (fun s => xlAt vw lv s && recOk (RowW.records Challenge.rw_pd0157_01.row.toRowW) s) true ⟨heapF w.params, Array.mk [], {}, 593, os⟩ = openGood vw lsn := by
  intro w os
  kernel_rfl!
theorem look_h : ∀ (w : World) (os : OsState), hk.obs ⟨heapF w.params, Array.mk [], {}, 593, os⟩ = hk.val w := by
  intro w os
  kernel_rfl!
theorem look_s : ∀ (w : World) (os : OsState), (staticsOk (importedModules PR.main.body) (boot_heap w.params) (heapF w.params) && namesBound PR (heapF w.params) && gensDone ⟨heapF w.params, Array.mk [], {}, 593, os⟩ && laidKept (boot_heap w.params) (heapF w.params)) = true := by
  intro w os
  kernel_rfl!
theorem top_left : LeftO PR vw lsn (fun s => xlAt vw lv s && recOk (RowW.records Challenge.rw_pd0157_01.row.toRowW) s) (Hook.obs hk) (Hook.val hk) 3758 :=
  LeftO.of_pieces top_open top_size top_run (by decide) fun w => funext fun os => looks_pair (look_s w os) (looks_pair (look_o w os) (look_h w os))
theorem law_said : OpenLaw.wellSaid Challenge.rw_pd0157_01 = true := by
  unfold OpenLaw.wellSaid OpenRow.wellSaid OpenRow.partSaid looksOpen
  repeat' with_reducible refine look_both ?_ ?_
  all_goals decide +kernel
end Mine
end

section
open PySem PySem.W PyProof.Rows
set_option maxRecDepth 100000
set_option maxHeartbeats 8000000
namespace Mine
/-- a contract of the def at f -/
noncomputable def Ct (w : World) (d : Nat) (f : Addr) (args : List Value) (news : List (Addr × Obj)) (Post : Value → List (Addr × Obj) → Prop) : Prop :=
  ∀ (loose : List Str) (mean : ExcName → Option Value) (mg mb : Str → Option Value) (dp un : Nat) (gd : Option (List Code)) (cn : Str) (cs : Scope) (a : Addr) (ccd : Value) (cl : List (Str × Addr)) (outer : List Env) (A₀ : Around) (base h₀ : Heap) (L : Addr) (m : Str → Option Value) (s : Shared) (Q E : Value → Shared → Prop),
    Below A₀ base outer h₀ → Fr h₀ L s.heap m → (frg w.params).In h₀ → News h₀ L s.heap news → Top vw loose mean mg mb h₀ → cs.kind = .function → dp + d < recursionLimit → un + 8 * d < cLine →
    (∀ v news' h' tk', Post v news' → Fr h₀ L h' m → News h₀ L h' news' → Q v { s with heap := h', toks := tk' }) →
    wpAny (model Challenge.rw_pd0157_01.row.prog w) (ktrTop dp un gd cn cs L a ccd cl outer) (call (.ref f) args) Q E s
noncomputable def Halt (P : Prop) : Prop := P
theorem halt {P : Prop} (h : Halt P) : P := h
theorem Halt.go {P : Prop} (h : P) : Halt P := h
theorem some_int {x y : Int} {t : Tok} (h : x = y) : some (Value.int x t) = some (Value.int y t) := by rw [h]
end Mine
end

section
open PySem PySem.W PyProof.Rows
set_option maxRecDepth 100000
set_option maxHeartbeats 8000000
namespace Mine
theorem sub_ri_reversed : isSubtype (.type "range_iterator") (.type "reversed") = pure false := by rw [isSubtype_type]; kernel_rfl
noncomputable def riObj (x left step : Int) : Obj := { cls := .type "range_iterator", dict := none, data := .fields #[rawInt x, rawInt left, rawInt step], slots := #[] }
section
variable {prog : Program} {w : World} {A : Around} {E : Value → Shared → Prop} {s : Shared}
theorem call_range_rev {r : Addr} {t u v : Tok} {Q : Value → Shared → Prop} (hr : IsRange s.heap r 0 3 1 t u v)
    (h : Q (.ref s.heap.objs.size) { s with heap := s.heap.push (riObj 2 3 (-1)) }) : wpAny (model prog w) A (call (.builtin "range.__reversed__") [.ref r]) Q E s := by
  refine wpAny_call_entry F.slot_range_reversed ⟨_, hr, rfl⟩ F.entry_range_reversed ?_ (F.args_range_reversed_1 _)
  unfold Builtin.«range.__reversed__»
  refine wpAny_bind (wpAny_of_eq (a := Value.ref r) rfl ?_)
  unfold Builtin.Range.rangeFields
  refine wpAny_bind (wpAny_bind (wpAny_field hr rfl (x := .int 0 t) rfl ?_))
  refine wpAny_bind (wpAny_of_eq (a := some 0) rfl ?_)
  refine wpAny_bind (wpAny_field hr rfl (x := .int 3 u) rfl ?_)
  refine wpAny_bind (wpAny_of_eq (a := some 3) rfl ?_)
  refine wpAny_bind (wpAny_field hr rfl (x := .int 1 v) rfl ?_)
  refine wpAny_bind (wpAny_of_eq (a := some 1) rfl ?_)
  refine wpAny_pure ?_
  show wpAny _ _ (newFields "range_iterator" [rawInt 2, rawInt 3, rawInt (-1)] >>= fun x => ret x) _ _ s
  refine wpAny_bind (wpAny_newObj_type (wpAny_pure ⟨_, rfl, h⟩))
theorem code_reversed_range {r : Addr} {t u v : Tok} {Q₁ : Value → Shared → Prop} (hr : IsRange s.heap r 0 3 1 t u v)
    (h : Q₁ (.ref s.heap.objs.size) { s with heap := s.heap.push (riObj 2 3 (-1)) }) :
    codeAny (model prog w) A (.call (.builtin "reversed.__new__") ⟨[.type "reversed", .ref r], []⟩) (wants Q₁ E) s := by
  refine codeAny_of_tree ?_
  show wpAny _ A.in1 (do checkBuiltinCall "reversed.__new__" ⟨[.type "reversed", .ref r], []⟩; again (.builtin "reversed.__new__" ⟨[.type "reversed", .ref r], []⟩)) _ _ s
  refine wpAny_bind (wpAny_of_eq (F.newCall_reversed_1 _) (wpAny_pure ⟨plainId_quiet F.plain_reversed_new _, codeAny_builtin F.entry_reversed_new ?_⟩))
  rw [Around.under_plainId F.plain_reversed_new _]
  unfold Builtin.«reversed.__new__»
  refine wpAny_bind (wpAny_of_eq (newClass_reversed _) ?_)
  try dsimp only
  refine wpAny_bind (wpAny_of_eq (a := ()) (by first | rfl | kernel_rfl) ?_)
  refine wpAny_bind (wpAny_of_eq (a := ()) (by first | rfl | kernel_rfl) ?_)
  try dsimp only
  refine wpAny_bind (wpAny_specialOf (T := "range") ⟨_, hr, rfl⟩ F.slot_range_reversed.lookup ?_)
  try dsimp only
  refine wpAny_bind (wpAny_of_eq (F.slot_range_reversed.bind _) ?_)
  try dsimp only
  first
  | rw [if_neg (show ¬ ((Value.builtin "range.__reversed__" == Value.none) = true) from Bool.false_ne_true)]
  | (show wpAny _ _ (if (Value.builtin "range.__reversed__" == Value.none) = true then _ else _) _ _ _; rw [if_neg (show ¬ ((Value.builtin "range.__reversed__" == Value.none) = true) from Bool.false_ne_true)])
  refine wpAny_bind (wpAny_rule ?_)
  refine wpAny_bind (m := runValue (.call (.builtin "range.__reversed__") ⟨[.ref r], []⟩)) (show wpAny _ _ (call (.builtin "range.__reversed__") [.ref r]) _ _ _ from call_range_rev hr ?_)
  first
  | exact wpAny_pure h
  | exact wpAny_bind (wpAny_pure (wpAny_pure h))
theorem call_reversed_range {r : Addr} {t u v : Tok} {Q : Value → Shared → Prop} (hr : IsRange s.heap r 0 3 1 t u v)
    (h : Q (.ref s.heap.objs.size) { s with heap := s.heap.push (riObj 2 3 (-1)) }) : wpAny (model prog w) A (call (.type "reversed") [.ref r]) Q E s := by
  refine callType_other (U := "range_iterator") (Q₁ := fun obj s₁ => obj = .ref s.heap.objs.size ∧ s₁ = { s with heap := s.heap.push (riObj 2 3 (-1)) }) (by decide +kernel) F.create_reversed ⟨_, _, F.mro_reversed⟩ F.made_reversed sub_ri_reversed (F.typeCall_reversed_1 _) (code_reversed_range hr ⟨rfl, rfl⟩) ?_
  rintro obj s₁ ⟨rfl, rfl⟩
  exact ⟨⟨_, Heap.get?_push_size _ rfl, rfl⟩, h⟩
end
end Mine
end

section
open PySem PySem.W PyProof.Rows
set_option maxRecDepth 100000
set_option maxHeartbeats 8000000
namespace Mine
/-- what a turn of a for must leave -/
noncomputable def FsEnd {σ : Type} (h₀ : Heap) (L : Addr) (s : Shared) (x : Str) (Led : σ → List (Addr × Obj)) (ps : σ → List (Str × Value)) (stored : List Str) (m₀ : Str → Option Value) (wr : List Addr) (own : List (Addr × Obj)) (J : σ → Prop) (s₂ : Shared) : Prop :=
  ∃ (c' : σ) (h' : Heap) (tk : Nat) (m' : Str → Option Value) (news' : List (Addr × Obj)), s₂ = { s with heap := h', toks := tk } ∧ Fr h₀ L h' m' ∧ News h₀ L h' news' ∧ (∀ p ∈ Led c', p ∈ news') ∧ (∀ p ∈ own, p ∈ news') ∧ (∀ p ∈ Led c', p.1 ∉ wr) ∧
    (∀ p ∈ ps c', m' p.1 = some p.2) ∧ (∀ z, z ≠ x → (∀ p ∈ ps c', z ≠ p.1) → stored.contains z = false → m' z = m₀ z) ∧ J c'
noncomputable def FsPost {σ : Type} (h₀ : Heap) (L : Addr) (s : Shared) (x : Str) (Led : σ → List (Addr × Obj)) (ps : σ → List (Str × Value)) (stored : List Str) (m₀ : Str → Option Value) (wr : List Addr) (own : List (Addr × Obj)) (J : σ → Prop) (Q : Flow → Shared → Prop) (f : Flow) (s₂ : Shared) : Prop :=
  match f with
  | .ret v => Q (.ret v) s₂
  | .brk => Q .next s₂
  | _ => FsEnd h₀ L s x Led ps stored m₀ wr own J s₂
theorem fs_end {σ : Type} {h₀ : Heap} {L : Addr} {s : Shared} {x : Str} {Led : σ → List (Addr × Obj)} {ps : σ → List (Str × Value)} {stored : List Str} {m₀ m' : Str → Option Value} {wr : List Addr} {own : List (Addr × Obj)} {J : σ → Prop} {h' : Heap} {tk : Nat} {news' : List (Addr × Obj)} (c' : σ)
    (F : Fr h₀ L h' m') (N : News h₀ L h' news') (hn : ∀ p ∈ Led c', p ∈ news') (ho : ∀ p ∈ own, p ∈ news') (hf : ∀ p ∈ Led c', p.1 ∉ wr) (hk : ∀ p ∈ ps c', m' p.1 = some p.2) (hr : ∀ z, z ≠ x → (∀ p ∈ ps c', z ≠ p.1) → stored.contains z = false → m' z = m₀ z) (hj : J c') :
    FsEnd h₀ L s x Led ps stored m₀ wr own J { s with heap := h', toks := tk } := ⟨c', h', tk, m', news', rfl, F, N, hn, ho, hf, hk, hr, hj⟩
section
variable {prog : Program} {w : World} {A : Around} {E : Value → Shared → Prop} {s : Shared} {env : Env} {h₀ : Heap} {x : Str} {body : List Stmt} {Q : Flow → Shared → Prop}
theorem for_st {σ : Type} {I : Addr} {fp wr : List Addr} {n : Nat} {P : Nat → Value → Prop} {St : Nat → Heap → Prop} {m₀ : Str → Option Value} (Led : σ → List (Addr × Obj)) (ps : σ → List (Str × Value)) (stored : List Str) (J : Nat → σ → Prop) (c₀ : σ)
    (W : Walks prog w A I fp wr n P St) (hLf : env.locals ∉ fp) (hwr : ∀ b ∈ wr, h₀.get? b = none) (halive : ∀ b ∈ fp, h₀.get? b = none → ∀ i h, St i h → ∃ o, h.get? b = some o) (hst : St 0 s.heap) (F : Fr h₀ env.locals s.heap m₀) (N : News h₀ env.locals s.heap (Led c₀)) (h0 : ∀ p ∈ Led c₀, p.1 ∉ wr)
    (hk : ∀ p ∈ ps c₀, m₀ p.1 = some p.2) (hj : J 0 c₀)
    (turn : ∀ i v c (u : Str → Option Value) h tk own, i < n → P i v → J i c → (∀ p ∈ own, p.1 ∈ fp) → (∀ b ∈ fp, h₀.get? b = none → ∃ o, (b, o) ∈ own) → (∀ p ∈ Led c, p.1 ∉ wr) → St (i + 1) h →
      Fr h₀ env.locals h (fun y => if y = x then some v else kstB (fun z => if stored.contains z then u z else m₀ z) (ps c) y) → News h₀ env.locals h (Led c ++ own) →
      wpAny (model prog w) A (execs body env) (FsPost h₀ env.locals s x Led ps stored m₀ wr own (J (i + 1)) Q) E { s with heap := h, toks := tk })
    (done : ∀ c (u : Str → Option Value) h tk, J n c → Fr h₀ env.locals h (fun y => if y = x then u y else kstB (fun z => if stored.contains z then u z else m₀ z) (ps c) y) → News h₀ env.locals h (Led c) → Q .next { s with heap := h, toks := tk }) :
    LoopAtV prog w A h₀ env x body Q E (.ref I) s := by
  let J' : Nat → (Str → Option Value) → List (Addr × Obj) → Prop := fun i m news => ∃ c, news = Led c ∧ J i c ∧ (∀ p ∈ Led c, p.1 ∉ wr) ∧ (∀ p ∈ ps c, m p.1 = some p.2) ∧ (∀ z, z ≠ x → (∀ p ∈ ps c, z ≠ p.1) → stored.contains z = false → m z = m₀ z)
  have frame : ∀ (c : σ) (m : Str → Option Value), (∀ p ∈ ps c, m p.1 = some p.2) → (∀ z, z ≠ x → (∀ p ∈ ps c, z ≠ p.1) → stored.contains z = false → m z = m₀ z) → ∀ y, y ≠ x → kstB (fun z => if stored.contains z then m z else m₀ z) (ps c) y = m y := by
    intro c m h1 h2 y hy
    refine kstB_eq h1 fun hn => ?_
    show (if stored.contains y = true then m y else m₀ y) = m y
    cases h3 : stored.contains y with
    | true => simp
    | false => simp only [Bool.false_eq_true, if_false]; exact (h2 y hy hn h3).symm
  refine ⟨I, fp, wr, n, P, St, m₀, Led c₀, J', rfl, W, hLf, hwr, h0, hst, F, N, ⟨c₀, rfl, hj, h0, hk, fun _ _ _ _ => rfl⟩, ?_, ?_⟩
  · rintro i v m₁ news₁ s₁ own ⟨hh', tk', rfl⟩ hin hP ⟨c, rfl, hJ, hoff, h1, h2⟩ _ hown hget hall hst' F₁ N₁
    have e : (fun y => if y = x then some v else m₁ y) = fun y => if y = x then some v else kstB (fun z => if stored.contains z then m₁ z else m₀ z) (ps c) y := by
      funext y
      by_cases hy : y = x
      · simp [hy]
      · simp only [if_neg hy]; exact (frame c m₁ h1 h2 y hy).symm
    rw [e] at F₁
    have N₂ : News h₀ env.locals hh' (Led c ++ own) := fun p hp => N₁ p ((List.mem_append.mp hp).elim (fun h => List.mem_append.mpr (.inr h)) fun h => List.mem_append.mpr (.inl h))
    refine wpAny_mono (turn i v c m₁ hh' tk' own hin hP hJ hown (fun b hb hn => ?_) hoff hst' F₁ N₂) (fun f s₂ p => ?_) fun _ _ e => e
    · obtain ⟨o, ho⟩ := halive b hb hn _ _ hst'
      exact ⟨o, hall b hb hn o ho⟩
    · have fin : FsEnd h₀ env.locals s x Led ps stored m₀ wr own (J (i + 1)) s₂ → LoopStepU h₀ env.locals wr own (J' (i + 1)) { s with heap := hh', toks := tk' } .next s₂ := by
        rintro ⟨c', h', tk, m', news', e, F', N', hn, ho, hf, hk', hr, hj'⟩
        refine ⟨rfl, h', tk, m', Led c', e, F', fun p hp => N' p ((List.mem_append.mp hp).elim (ho p) (hn p)), hf, c', rfl, hj', hf, hk', hr⟩
      cases f with
      | ret v => exact .ret p
      | brk => exact .brk p
      | next => exact .next (fin p)
      | cont => exact .cont (fin p)
  · rintro h' tk m' news' F' N' _ ⟨c, rfl, hJ, _, h1, h2⟩
    refine done c m' h' tk hJ ?_ N'
    have e : (fun y => if y = x then m' y else kstB (fun z => if stored.contains z then m' z else m₀ z) (ps c) y) = m' := by
      funext y
      by_cases hy : y = x
      · simp [hy]
      · simp only [if_neg hy]; exact frame c m' h1 h2 y hy
    rw [e]; exact F'

theorem rng_st {σ : Type} {I : Addr} {n : Nat} {a c : Int} {m₀ : Str → Option Value} (Led : σ → List (Addr × Obj)) (ps : σ → List (Str × Value)) (stored : List Str) (J : Nat → σ → Prop) (c₀ : σ)
    (hh : A.handled = none) (hit : IsRangeIter s.heap I a n c) (hI : h₀.get? I = none) (hIL : I ≠ env.locals) (F : Fr h₀ env.locals s.heap m₀) (N : News h₀ env.locals s.heap (Led c₀)) (h0 : ∀ p ∈ Led c₀, p.1 ≠ I)
    (hk : ∀ p ∈ ps c₀, m₀ p.1 = some p.2) (hj : J 0 c₀)
    (turn : ∀ i t d (u : Str → Option Value) h tk own, i < n → J i d → (∀ p ∈ own, p.1 = I) → (∀ b ∈ [I], h₀.get? b = none → ∃ o, (b, o) ∈ own) → (∀ p ∈ Led d, p.1 ≠ I) →
      Fr h₀ env.locals h (fun y => if y = x then some (.int (a + (i : Int) * c) t) else kstB (fun z => if stored.contains z then u z else m₀ z) (ps d) y) → News h₀ env.locals h (Led d ++ own) →
      wpAny (model prog w) A (execs body env) (FsPost h₀ env.locals s x Led ps stored m₀ [I] own (J (i + 1)) Q) E { s with heap := h, toks := tk })
    (done : ∀ d (u : Str → Option Value) h tk, J n d → Fr h₀ env.locals h (fun y => if y = x then u y else kstB (fun z => if stored.contains z then u z else m₀ z) (ps d) y) → News h₀ env.locals h (Led d) → Q .next { s with heap := h, toks := tk }) :
    LoopAtV prog w A h₀ env x body Q E (.ref I) s := by
  refine for_st Led ps stored J c₀ (Walks.range hh I a c n) (fun e => hIL (List.mem_singleton.mp e).symm) (fun b hb => by rw [List.mem_singleton.mp hb]; exact hI) ?_ (by simpa using hit) F N (fun p hp hm => h0 p hp (List.mem_singleton.mp hm)) hk hj ?_ done
  · intro b hb _ i h hs
    rw [List.mem_singleton.mp hb]
    exact ⟨_, hs⟩
  · rintro i v d u h tk own hi ⟨t, rfl⟩ hJ ho1 ho2 hoff _ F₁ N₁
    exact turn i t d u h tk own hi hJ (fun p hp => List.mem_singleton.mp (ho1 p hp)) ho2 (fun p hp e => hoff p hp (by rw [e]; exact List.mem_singleton.mpr rfl)) F₁ N₁
theorem range_st {σ : Type} {r : Addr} {n : Nat} {a b c : Int} {t₀ u₀ v₀ : Tok} {m₀ : Str → Option Value} (Led : σ → List (Addr × Obj)) (ps : σ → List (Str × Value)) (stored : List Str) (J : Nat → σ → Prop) (c₀ : σ)
    (hh : A.handled = none) (hr : IsRange s.heap r a b c t₀ u₀ v₀) (hsmall : Builtin.Range.small a b c = true) (hn : Builtin.Range.rangeSize a b c = (n : Int)) (F : Fr h₀ env.locals s.heap m₀) (N : News h₀ env.locals s.heap (Led c₀))
    (hk : ∀ p ∈ ps c₀, m₀ p.1 = some p.2) (hj : J 0 c₀)
    (turn : ∀ I i t d (u : Str → Option Value) h tk own, i < n → J i d → (∀ p ∈ own, p.1 = I) → (∀ b ∈ [I], h₀.get? b = none → ∃ o, (b, o) ∈ own) → (∀ p ∈ Led d, p.1 ≠ I) →
      Fr h₀ env.locals h (fun y => if y = x then some (.int (a + (i : Int) * c) t) else kstB (fun z => if stored.contains z then u z else m₀ z) (ps d) y) → News h₀ env.locals h (Led d ++ own) →
      wpAny (model prog w) A (execs body env) (FsPost h₀ env.locals s x Led ps stored m₀ [I] own (J (i + 1)) Q) E { s with heap := h, toks := tk })
    (done : ∀ d (u : Str → Option Value) h tk, J n d → Fr h₀ env.locals h (fun y => if y = x then u y else kstB (fun z => if stored.contains z then u z else m₀ z) (ps d) y) → News h₀ env.locals h (Led d) → Q .next { s with heap := h, toks := tk }) :
    wpAny (model prog w) A (pyIter (.ref r)) (fun it s₂ => LoopAtV prog w A h₀ env x body Q E it s₂) E s := by
  refine wpAny_pyIter_range hr hsmall ?_
  rw [hn]
  refine rng_st Led ps stored J c₀ hh (Heap.get?_push_size _ rfl) (next_is_new F) (Nat.ne_of_gt F.ns.lt) (F.push _) (fun p hp => ⟨Heap.get?_push_of_some _ (N p hp).1, (N p hp).2⟩) (fun p hp => Nat.ne_of_lt (Heap.lt_size (N p hp).1)) hk hj ?_ ?_
  · intro i t d u h tk own hi hJ h1 h2 h3 F₁ N₁
    exact turn _ i t d u h tk own hi hJ h1 h2 h3 F₁ N₁
  · intro d u h tk hJ F₁ N₁
    exact done d u h tk hJ F₁ N₁
theorem rev3_st {σ : Type} {r : Addr} {t₀ u₀ v₀ : Tok} {m₀ : Str → Option Value} (Led : σ → List (Addr × Obj)) (ps : σ → List (Str × Value)) (stored : List Str) (J : Nat → σ → Prop) (c₀ : σ)
    (hh : A.handled = none) (hr : IsRange s.heap r 0 3 1 t₀ u₀ v₀) (F : Fr h₀ env.locals s.heap m₀) (N : News h₀ env.locals s.heap (Led c₀))
    (hk : ∀ p ∈ ps c₀, m₀ p.1 = some p.2) (hj : J 0 c₀)
    (turn : ∀ I i t d (u : Str → Option Value) h tk own, i < 3 → J i d → (∀ p ∈ own, p.1 = I) → (∀ b ∈ [I], h₀.get? b = none → ∃ o, (b, o) ∈ own) → (∀ p ∈ Led d, p.1 ≠ I) →
      Fr h₀ env.locals h (fun y => if y = x then some (.int (2 + (i : Int) * (-1)) t) else kstB (fun z => if stored.contains z then u z else m₀ z) (ps d) y) → News h₀ env.locals h (Led d ++ own) →
      wpAny (model prog w) A (execs body env) (FsPost h₀ env.locals s x Led ps stored m₀ [I] own (J (i + 1)) Q) E { s with heap := h, toks := tk })
    (done : ∀ d (u : Str → Option Value) h tk, J 3 d → Fr h₀ env.locals h (fun y => if y = x then u y else kstB (fun z => if stored.contains z then u z else m₀ z) (ps d) y) → News h₀ env.locals h (Led d) → Q .next { s with heap := h, toks := tk }) :
    wpAny (model prog w) A (call (.type "reversed") [.ref r]) (fun xv s₁ => wpAny (model prog w) A (pyIter xv) (fun it s₂ => LoopAtV prog w A h₀ env x body Q E it s₂) E s₁) E s := by
  refine call_reversed_range hr ?_
  have hit : IsRangeIter (s.heap.push (riObj 2 3 (-1))) s.heap.objs.size 2 3 (-1) := Heap.get?_push_size _ rfl
  refine wpAny_pyIter_rangeiter hit ?_
  refine rng_st (n := 3) Led ps stored J c₀ hh hit (next_is_new F) (Nat.ne_of_gt F.ns.lt) (F.push _) (fun p hp => ⟨Heap.get?_push_of_some _ (N p hp).1, (N p hp).2⟩) (fun p hp => Nat.ne_of_lt (Heap.lt_size (N p hp).1)) hk hj ?_ ?_
  · intro i t d u h tk own hi hJ h1 h2 h3 F₁ N₁
    exact turn _ i t d u h tk own hi hJ h1 h2 h3 F₁ N₁
  · intro d u h tk hJ F₁ N₁
    exact done d u h tk hJ F₁ N₁
theorem tup_st {σ : Type} {ax : Addr} {vs : List Value} {m₀ : Str → Option Value} (Led : σ → List (Addr × Obj)) (ps : σ → List (Str × Value)) (stored : List Str) (J : Nat → σ → Prop) (c₀ : σ)
    (hh : A.handled = none) (hl : s.heap.IsTuple ax vs.toArray) (hax : ax ≠ env.locals) (F : Fr h₀ env.locals s.heap m₀) (N : News h₀ env.locals s.heap (Led c₀))
    (hk : ∀ p ∈ ps c₀, m₀ p.1 = some p.2) (hj : J 0 c₀)
    (turn : ∀ I i v d (u : Str → Option Value) h tk own, vs[i]? = some v → J i d → (∀ p ∈ own, p.1 = I ∨ p.1 = ax) → (∀ b ∈ [I, ax], h₀.get? b = none → ∃ o, (b, o) ∈ own) → (∀ p ∈ Led d, p.1 ≠ I) → h.IsTuple ax vs.toArray →
      Fr h₀ env.locals h (fun y => if y = x then some v else kstB (fun z => if stored.contains z then u z else m₀ z) (ps d) y) → News h₀ env.locals h (Led d ++ own) →
      wpAny (model prog w) A (execs body env) (FsPost h₀ env.locals s x Led ps stored m₀ [I] own (J (i + 1)) Q) E { s with heap := h, toks := tk })
    (done : ∀ d (u : Str → Option Value) h tk, J vs.length d → Fr h₀ env.locals h (fun y => if y = x then u y else kstB (fun z => if stored.contains z then u z else m₀ z) (ps d) y) → News h₀ env.locals h (Led d) → Q .next { s with heap := h, toks := tk }) :
    wpAny (model prog w) A (pyIter (.ref ax)) (fun it s₂ => LoopAtV prog w A h₀ env x body Q E it s₂) E s := by
  obtain ⟨ol, hol, hcl, n, hdl⟩ := id hl
  have hne : ax ≠ s.heap.objs.size := Nat.ne_of_lt (Heap.lt_size hol)
  refine wpAny_pyIter_tuple hl ?_
  have W := Walks.tuple (prog := prog) (w := w) hh s.heap.objs.size ax hne vs.toArray
  have hlen : vs.toArray.size = vs.length := by simp
  rw [hlen] at W
  refine for_st Led ps stored J c₀ W ?_ ?_ ?_ ⟨⟨_, Heap.get?_push_size _ rfl, rfl, rfl⟩, hl.at fun o e => Heap.get?_push_of_some _ e⟩ (F.push _) (fun p hp => ⟨Heap.get?_push_of_some _ (N p hp).1, (N p hp).2⟩) (fun p hp hm => absurd (Heap.lt_size (N p hp).1) (by rw [List.mem_singleton.mp hm]; exact Nat.lt_irrefl _)) hk hj ?_ ?_
  · intro hm
    rcases List.mem_cons.mp hm with e | hm
    · exact absurd F.ns.lt (e ▸ Nat.lt_irrefl _)
    · exact hax (List.mem_singleton.mp hm).symm
  · intro b hb
    rw [List.mem_singleton.mp hb]
    exact next_is_new F
  · intro b hb _ i h hs
    rcases List.mem_cons.mp hb with e | hb
    · obtain ⟨o, ho, _⟩ := hs.1; exact ⟨o, e ▸ ho⟩
    · obtain ⟨o, ho, _⟩ := hs.2; exact ⟨o, (List.mem_singleton.mp hb) ▸ ho⟩
  · intro i v d u h tk own hi hP hJ ho1 ho2 hoff hst F₁ N₁
    exact turn _ i v d u h tk own (by simpa using hP) hJ (fun p hp => by simpa using ho1 p hp) ho2 (fun p hp e => hoff p hp (by rw [e]; exact List.mem_singleton.mpr rfl)) hst.2 F₁ N₁
  · intro d u h tk hJ F₁ N₁
    exact done d u h tk hJ F₁ N₁
theorem lst_st {σ : Type} {ax : Addr} {vs : List Value} {m₀ : Str → Option Value} (Led : σ → List (Addr × Obj)) (ps : σ → List (Str × Value)) (stored : List Str) (J : Nat → σ → Prop) (c₀ : σ)
    (hh : A.handled = none) (hl : s.heap.IsList ax vs.toArray) (hax : ax ≠ env.locals) (F : Fr h₀ env.locals s.heap m₀) (N : News h₀ env.locals s.heap (Led c₀))
    (hk : ∀ p ∈ ps c₀, m₀ p.1 = some p.2) (hj : J 0 c₀)
    (turn : ∀ I i v d (u : Str → Option Value) h tk own, vs[i]? = some v → J i d → (∀ p ∈ own, p.1 = I ∨ p.1 = ax) → (∀ b ∈ [I, ax], h₀.get? b = none → ∃ o, (b, o) ∈ own) → (∀ p ∈ Led d, p.1 ≠ I) → h.IsList ax vs.toArray →
      Fr h₀ env.locals h (fun y => if y = x then some v else kstB (fun z => if stored.contains z then u z else m₀ z) (ps d) y) → News h₀ env.locals h (Led d ++ own) →
      wpAny (model prog w) A (execs body env) (FsPost h₀ env.locals s x Led ps stored m₀ [I] own (J (i + 1)) Q) E { s with heap := h, toks := tk })
    (done : ∀ d (u : Str → Option Value) h tk, J vs.length d → Fr h₀ env.locals h (fun y => if y = x then u y else kstB (fun z => if stored.contains z then u z else m₀ z) (ps d) y) → News h₀ env.locals h (Led d) → Q .next { s with heap := h, toks := tk }) :
    wpAny (model prog w) A (pyIter (.ref ax)) (fun it s₂ => LoopAtV prog w A h₀ env x body Q E it s₂) E s := by
  obtain ⟨ol, hol, hcl, n, hdl⟩ := id hl
  have hne : ax ≠ s.heap.objs.size := Nat.ne_of_lt (Heap.lt_size hol)
  refine wpAny_pyIter_list hl ?_
  have W := Walks.list (prog := prog) (w := w) hh s.heap.objs.size ax hne vs.toArray
  have hlen : vs.toArray.size = vs.length := by simp
  rw [hlen] at W
  refine for_st Led ps stored J c₀ W ?_ ?_ ?_ ⟨⟨_, Heap.get?_push_size _ rfl, rfl, rfl⟩, hl.at fun o e => Heap.get?_push_of_some _ e⟩ (F.push _) (fun p hp => ⟨Heap.get?_push_of_some _ (N p hp).1, (N p hp).2⟩) (fun p hp hm => absurd (Heap.lt_size (N p hp).1) (by rw [List.mem_singleton.mp hm]; exact Nat.lt_irrefl _)) hk hj ?_ ?_
  · intro hm
    rcases List.mem_cons.mp hm with e | hm
    · exact absurd F.ns.lt (e ▸ Nat.lt_irrefl _)
    · exact hax (List.mem_singleton.mp hm).symm
  · intro b hb
    rw [List.mem_singleton.mp hb]
    exact next_is_new F
  · intro b hb _ i h hs
    rcases List.mem_cons.mp hb with e | hb
    · obtain ⟨o, ho, _⟩ := hs.1; exact ⟨o, e ▸ ho⟩
    · obtain ⟨o, ho, _⟩ := hs.2; exact ⟨o, (List.mem_singleton.mp hb) ▸ ho⟩
  · intro i v d u h tk own hi hP hJ ho1 ho2 hoff hst F₁ N₁
    exact turn _ i v d u h tk own (by simpa using hP) hJ (fun p hp => by simpa using ho1 p hp) ho2 (fun p hp e => hoff p hp (by rw [e]; exact List.mem_singleton.mpr rfl)) hst.2 F₁ N₁
  · intro d u h tk hJ F₁ N₁
    exact done d u h tk hJ F₁ N₁
end
end Mine
end

section
open PySem PySem.W PyProof.Rows PySem.Calls
set_option maxRecDepth 100000
set_option maxHeartbeats 8000000
namespace Mine
theorem kind_issub_nested : builtinKind "issubclass.nested" = none := by decide +kernel
theorem plain_issub_nested : plainId "issubclass.nested" = true := by decide +kernel
theorem args_issub_nested_3 (a b c : Value) : argsOk "issubclass.nested" ⟨[a, b, c], []⟩ := by unfold argsOk; kernel_rfl
theorem sub_str_str : isSubtype (.type "str") (.type "str") = pure true := by rw [isSubtype_type]; kernel_rfl
theorem meta_str : typeOf (.type "str") = pure (.type "type") := by kernel_rfl
section
variable {prog : Program} {w : World} {A : Around} {E : Value → Shared → Prop} {s : Shared}
theorem issub_one {dep : Int} {tk : Tok} {Q : Fin → Shared → Prop} (hq : Q (.done (.ret (.bool true))) s) :
    wpAny (model prog w) A (Builtin.«issubclass.nested» ⟨[.type "str", .type "str", .int dep tk], []⟩) Q E s := by
  have h1 := sub_str_str
  have h2 := meta_str
  repeat (any_goals (first | assumption | (rw [sub_str_str]) | wp_step))
theorem issub_nested_tuple {tp : Addr} {cs ls : List Value} {tk : Tok} {s : Shared} {Q : Fin → Shared → Prop} (hls : ls = Value.type "str" :: cs) (htp : s.heap.get? tp = some { cls := .type "tuple", data := .seq ls.toArray })
    (hq : ∀ tk', Q (.done (.ret (.bool true))) { s with toks := tk' }) : wpAny (model prog w) A (Builtin.«issubclass.nested» ⟨[.type "str", .ref tp, .int 0 tk], []⟩) Q E s := by
  obtain ⟨h, g, d, t, os⟩ := s
  have hT2 : (⟨h, g, d, t, os⟩ : Shared).TypeIs (.ref tp) "tuple" := ⟨_, htp, rfl⟩
  have f1 := F.isi_sub_tuple
  repeat (any_goals (first | assumption | wp_step))
  refine wpAny_arrayLoop ?_
  simp only [Option.getD_some, List.toList_toArray]
  rw [hls, List.forIn_cons]
  refine wpAny_bind (wpAny_bind (call_function_meets kind_issub_nested plain_issub_nested F.entry_issubclass_nested (args_issub_nested_3 _ _ _) (S := fun _ R s => R (.ok (.ret (.bool true))) s) (fun _ _ _ _ _ hs => issub_one hs) ?_))
  show wpAny _ _ (truthy (.bool true) >>= _) _ _ _
  refine wpAny_bind (m := truthy (.bool true)) (wpAny_pure ?_)
  repeat (any_goals (first | assumption | wp_step))
  exact hq _
theorem issub_str {tp : Addr} {cs : List Value} {Q : Value → Shared → Prop} (htp : s.heap.get? tp = some { cls := .type "tuple", data := .seq (Value.type "str" :: cs).toArray })
    (hq : ∀ tk', Q (.bool true) { s with toks := tk' }) : wpAny (model prog w) A (call (.builtin "issubclass") [.type "str", .ref tp]) Q E s := by
  refine call_issubclass (S := fun _ R s => s.heap.get? tp = some { cls := .type "tuple", data := .seq (Value.type "str" :: cs).toArray } ∧ ∀ tk', R (.ok (.ret (.bool true))) { s with toks := tk' }) (fun _ _ _ _ _ hs => issubclass_outer (issub_nested_tuple rfl hs.1 hs.2)) ⟨htp, hq⟩
end
end Mine
end

section
open PySem PySem.W PyProof.Rows PySem.Calls
set_option maxRecDepth 100000
set_option maxHeartbeats 8000000
namespace Mine
/-- what a turn of `for xi, xc in ..` leaves -/
noncomputable def PsEnd {σ : Type} (h₀ : Heap) (L : Addr) (s : Shared) (xi xc : Str) (Led : σ → List (Addr × Obj)) (stored : List Str) (m₀ : Str → Option Value) (own : List (Addr × Obj)) (J : σ → Prop) (s₂ : Shared) : Prop :=
  ∃ (c' : σ) (h' : Heap) (tk : Nat) (m' : Str → Option Value), s₂ = { s with heap := h', toks := tk } ∧ Fr h₀ L h' m' ∧ News h₀ L h' (Led c' ++ own) ∧ (∀ z, z ≠ xi → z ≠ xc → stored.contains z = false → m' z = m₀ z) ∧ J c'
noncomputable def PsPost {σ : Type} (h₀ : Heap) (L : Addr) (s : Shared) (xi xc : Str) (Led : σ → List (Addr × Obj)) (stored : List Str) (m₀ : Str → Option Value) (own : List (Addr × Obj)) (J : σ → Prop) (Q : Flow → Shared → Prop) (f : Flow) (s₂ : Shared) : Prop :=
  match f with
  | .ret v => Q (.ret v) s₂
  | .brk => Q .next s₂
  | _ => PsEnd h₀ L s xi xc Led stored m₀ own J s₂
theorem ps_end {σ : Type} {h₀ : Heap} {L : Addr} {s : Shared} {xi xc : Str} {Led : σ → List (Addr × Obj)} {stored : List Str} {m₀ m' : Str → Option Value} {own : List (Addr × Obj)} {J : σ → Prop} {h' : Heap} {tk : Nat} (c' : σ)
    (F : Fr h₀ L h' m') (N : News h₀ L h' (Led c' ++ own)) (hr : ∀ z, z ≠ xi → z ≠ xc → stored.contains z = false → m' z = m₀ z) (hj : J c') :
    PsEnd h₀ L s xi xc Led stored m₀ own J { s with heap := h', toks := tk } := ⟨c', h', tk, m', rfl, F, N, hr, hj⟩
section
variable {prog : Program} {w : World} {A : Around} {E : Value → Shared → Prop} {s : Shared} {env : Env} {h₀ : Heap} {xi xc : Str} {body : List Stmt} {Q : Flow → Shared → Prop}
theorem enum_st {σ : Type} {e it : Addr} {fp : List Addr} {n : Nat} {P : Nat → Value → Prop} {St : Nat → Heap → Prop} {m₀ : Str → Option Value} (Led : σ → List (Addr × Obj)) (stored : List Str) (J : Nat → σ → Prop) (c₀ : σ) (hxx : xi ≠ xc)
    (D : Draws prog w A.in1 it fp n P St) (he : IsEnum s.heap e it 0 .none) (hst : St 0 s.heap) (hei : e ≠ it) (hef : e ∉ fp) (hif : it ∈ fp) (hLf : env.locals ∉ e :: fp) (hne : h₀.get? e = none) (hni : h₀.get? it = none)
    (hadr : ∀ c, (Led c).map (·.1) = (Led c₀).map (·.1)) (hoff : ∀ p ∈ Led c₀, p.1 ≠ e ∧ p.1 ≠ it) (F : Fr h₀ env.locals s.heap m₀) (N : News h₀ env.locals s.heap (Led c₀)) (hj : J 0 c₀)
    (turn : ∀ i v t c (u : Str → Option Value) h tk own, i < n → P i v → J i c → (∀ p ∈ own, p.1 ∈ e :: fp) →
      Fr h₀ env.locals h (fun y => if y = xc then some v else if y = xi then some (.int i t) else if stored.contains y then u y else m₀ y) → News h₀ env.locals h (Led c ++ own) →
      wpAny (model prog w) A (execs body env) (PsPost h₀ env.locals s xi xc Led stored m₀ own (J (i + 1)) Q) E { s with heap := h, toks := tk })
    (done : ∀ c (u : Str → Option Value) h tk, J n c → Fr h₀ env.locals h (fun y => if y = xc then u y else if y = xi then u y else if stored.contains y then u y else m₀ y) → News h₀ env.locals h (Led c) → Q .next { s with heap := h, toks := tk }) :
    wpAny (model prog w) A (pyIter (.ref e)) (fun it s₂ => PairAt3 prog w A h₀ env xi xc body Q E it s₂) E s := by
  refine wpAny_pyIter_enum he ?_
  let J' : Nat → (Str → Option Value) → List (Addr × Obj) → Prop := fun i m news => ∃ c, news = Led c ∧ J i c ∧ (∀ z, z ≠ xi → z ≠ xc → stored.contains z = false → m z = m₀ z)
  refine ⟨e, e :: fp, [e, it], n, _, _, _, (fun i v0 v1 => ∃ t, v0 = .int i t ∧ P i v1), m₀, Led c₀, J', rfl, WalksT.enumerateD D e hei hef hif, ?_, hLf, ?_, ?_, ⟨⟨_, by simpa using he⟩, hst⟩, F, N, ⟨c₀, rfl, hj, fun _ _ _ _ => rfl⟩, ?_, ?_⟩
  · rintro i vals ⟨t, x, hPx, rfl⟩
    exact ⟨_, _, rfl, t, rfl, hPx⟩
  · intro b hb
    rcases List.mem_cons.mp hb with rfl | hb
    · exact hne
    · rw [List.mem_singleton.mp hb]; exact hni
  · intro p hp hb
    rcases List.mem_cons.mp hb with e1 | hb
    · exact (hoff p hp).1 e1
    · exact (hoff p hp).2 (List.mem_singleton.mp hb)
  · rintro i v0 v1 m₁ news₁ s₁ own ⟨h, tk, rfl⟩ hin ⟨t, rfl, hPv⟩ ⟨c, rfl, hJ, hm⟩ _ hown F₁ N₁
    have eq : (fun y => if y = xc then some v1 else if y = xi then some (Value.int i t) else m₁ y) = fun y => if y = xc then some v1 else if y = xi then some (Value.int i t) else if stored.contains y then m₁ y else m₀ y := by
      funext y
      by_cases h1 : y = xc
      · simp [h1]
      · by_cases h2 : y = xi
        · simp [h2]
        · simp only [if_neg h1, if_neg h2]
          cases h3 : stored.contains y with
          | true => simp
          | false => simpa using hm y h2 h1 h3
    rw [eq] at F₁
    have N₂ : News h₀ env.locals h (Led c ++ own) := fun p hp => N₁ p ((List.mem_append.mp hp).elim (fun h => List.mem_append.mpr (.inr h)) fun h => List.mem_append.mpr (.inl h))
    refine wpAny_mono (turn i v1 t c m₁ h tk own hin hPv hJ hown F₁ N₂) (fun f s₂ p => ?_) fun _ _ e => e
    have fin : PsEnd h₀ env.locals s xi xc Led stored m₀ own (J (i + 1)) s₂ → LoopStep2 h₀ env.locals own (Led c) (J' (i + 1)) { s with heap := h, toks := tk } .next s₂ := by
      rintro ⟨c', h', tk', m', rfl, F', N', hr, hj'⟩
      exact ⟨rfl, h', tk', m', Led c', rfl, F', fun p hp => N' p ((List.mem_append.mp hp).elim (fun h => List.mem_append.mpr (.inr h)) fun h => List.mem_append.mpr (.inl h)), (hadr c').trans (hadr c).symm, c', rfl, hj', hr⟩
    cases f with
    | ret v => exact p
    | brk => exact p
    | next => exact fin p
    | cont => exact fin p
  · rintro h' tk m' news' F' N' _ ⟨c, rfl, hJ, hm⟩
    refine done c m' h' tk hJ ?_ N'
    have eq : (fun y => if y = xc then m' y else if y = xi then m' y else if stored.contains y then m' y else m₀ y) = m' := by
      funext y
      by_cases h1 : y = xc
      · simp [h1]
      · by_cases h2 : y = xi
        · simp [h2]
        · simp only [if_neg h1, if_neg h2]
          cases h3 : stored.contains y with
          | true => simp
          | false => simpa using (hm y h2 h1 h3).symm
    rw [eq]; exact F'
/-- over a list of the ledger -/
theorem enum_list_st {σ : Type} {l : Addr} {vs : List Value} {nl : Nat} {m₀ : Str → Option Value} (Led : σ → List (Addr × Obj)) (stored : List Str) (J : Nat → σ → Prop) (c₀ : σ) (hxx : xi ≠ xc) (hh : A.handled = none)
    (hadr : ∀ c, (Led c).map (·.1) = (Led c₀).map (·.1)) (F : Fr h₀ env.locals s.heap m₀) (N : News h₀ env.locals s.heap (Led c₀)) (hl : (l, W.listOf vs.toArray nl) ∈ Led c₀) (hj : J 0 c₀)
    (turn : ∀ i v t c (u : Str → Option Value) h tk own, vs[i]? = some v → J i c →
      Fr h₀ env.locals h (fun y => if y = xc then some v else if y = xi then some (.int i t) else if stored.contains y then u y else m₀ y) → News h₀ env.locals h (Led c ++ own) →
      wpAny (model prog w) A (execs body env) (PsPost h₀ env.locals s xi xc Led stored m₀ own (J (i + 1)) Q) E { s with heap := h, toks := tk })
    (done : ∀ c (u : Str → Option Value) h tk, J vs.length c → Fr h₀ env.locals h (fun y => if y = xc then u y else if y = xi then u y else if stored.contains y then u y else m₀ y) → News h₀ env.locals h (Led c) → Q .next { s with heap := h, toks := tk }) :
    wpAny (model prog w) A (call (.type "enumerate") [.ref l]) (fun xv s₁ => wpAny (model prog w) A (pyIter xv) (fun it s₂ => PairAt3 prog w A h₀ env xi xc body Q E it s₂) E s₁) E s := by
  have hls : s.heap.IsList l vs.toArray := ⟨_, (N _ hl).1, rfl, _, rfl⟩
  have lt : ∀ {p}, p ∈ Led c₀ → @LT.lt Nat _ p.1 s.heap.objs.size := fun hp => Heap.lt_size (N _ hp).1
  have hLs : @LT.lt Nat _ env.locals s.heap.objs.size := F.ns.lt
  refine call_enumerate_list hls fun h' he hit hsz hk => ?_
  have F' : Fr h₀ env.locals h' m₀ := F.keeps hk
  have N' : News h₀ env.locals h' (Led c₀) := N.grown hk
  refine enum_st (s := { s with heap := h' }) Led stored J c₀ hxx (Draws.list (A := A.in1) hh s.heap.objs.size l (Nat.ne_of_lt (lt hl)) vs.toArray) he ⟨hit, hls.at fun o e => hk l o e⟩ (Nat.succ_ne_self _) ?_ (by simp) ?_
    (Heap.get?_none_of_le (Nat.le_trans F.above (Nat.le_of_lt (Nat.lt_succ_of_lt hLs)))) (Heap.get?_none_of_le (Nat.le_trans F.above (Nat.le_of_lt hLs))) hadr (fun p hp => ⟨Nat.ne_of_lt (Nat.lt_succ_of_lt (lt hp)), Nat.ne_of_lt (lt hp)⟩) F' N' hj ?_ ?_
  · intro hm
    rcases List.mem_cons.mp hm with e | hm
    · exact Nat.succ_ne_self _ e
    · exact Nat.ne_of_gt (Nat.lt_succ_of_lt (lt hl)) (List.mem_singleton.mp hm)
  · intro hm
    rcases List.mem_cons.mp hm with e | hm
    · exact Nat.ne_of_lt (Nat.lt_succ_of_lt hLs) e
    · rcases List.mem_cons.mp hm with e | hm
      · exact Nat.ne_of_lt hLs e
      · exact (N _ hl).2.1 (List.mem_singleton.mp hm).symm
  · intro i v t c u h tk own hi hP hJ _ F₁ N₁
    exact turn i v t c u h tk own (by simpa using hP) hJ F₁ N₁
  · intro c u h tk hJ F₁ N₁
    exact done c u h tk (by simpa using hJ) F₁ N₁
end
end Mine
namespace Mine
section
variable {prog : Program} {w : World} {A : Around} {E : Value → Shared → Prop} {s : Shared} {env : Env} {h₀ : Heap} {xi xc : Str} {body : List Stmt} {Q : Flow → Shared → Prop}
/-- the ledger stays as it is -/
theorem enum_plain {l : Addr} {vs : List Value} {nl : Nat} {m₀ : Str → Option Value} {news : List (Addr × Obj)} (J : Nat → Prop) (hxx : xi ≠ xc) (hh : A.handled = none)
    (F : Fr h₀ env.locals s.heap m₀) (N : News h₀ env.locals s.heap news) (hl : (l, W.listOf vs.toArray nl) ∈ news) (hj : J 0)
    (turn : ∀ i v t h tk own, vs[i]? = some v → J i →
      Fr h₀ env.locals h (fun y => if y = xc then some v else if y = xi then some (.int i t) else m₀ y) → News h₀ env.locals h (news ++ own) →
      wpAny (model prog w) A (execs body env) (PsPost (σ := Unit) h₀ env.locals s xi xc (fun _ => news) [] m₀ own (fun _ => J (i + 1)) Q) E { s with heap := h, toks := tk })
    (done : ∀ (u : Str → Option Value) h tk, J vs.length → Fr h₀ env.locals h (fun y => if y = xc then u y else if y = xi then u y else m₀ y) → News h₀ env.locals h news → Q .next { s with heap := h, toks := tk }) :
    wpAny (model prog w) A (call (.type "enumerate") [.ref l]) (fun xv s₁ => wpAny (model prog w) A (pyIter xv) (fun it s₂ => PairAt3 prog w A h₀ env xi xc body Q E it s₂) E s₁) E s := by
  refine enum_list_st (σ := Unit) (fun _ => news) [] (fun i _ => J i) () hxx hh (fun _ => rfl) F N hl hj ?_ ?_
  · intro i v t _ u h tk own hv hJ F₁ N₁
    exact turn i v t h tk own hv hJ (by simpa using F₁) N₁
  · intro _ u h tk hJ F₁ N₁
    exact done u h tk hJ (by simpa using F₁) N₁
end
end Mine
end

section
open PySem PySem.W PyProof.Rows PySem.Calls
open AutoSeq1 (wpAny_loadPart')
set_option maxRecDepth 100000
set_option maxHeartbeats 8000000
namespace Mine
section
variable {prog : Program} {w : World} {A : Around} {E : Value → Shared → Prop} {s : Shared}
theorem nextOf_tup_item {it l : Addr} {i : Nat} {items : Array Value} {x : Value} {Q : Value → Shared → Prop} (hit : s.heap.IsTupleIter it l i) (hl : s.heap.IsTuple l items) (hx : items[i]? = some x)
    (hQ : ∀ h', h'.IsTupleIter it l (i + 1) → Heap.SameBut it s.heap h' → Q x { s with heap := h' }) : wpAny (model prog w) A (Builtin.SmallTypes.nextOf (.ref it)) Q E s := by
  obtain ⟨o, ho, hc, hd⟩ := id hit
  obtain ⟨ol, hol, _, nl, hdl⟩ := hl
  unfold Builtin.SmallTypes.nextOf
  refine wpAny_bind (wpAny_callSpecial?_slot (name := Str.ofString "__next__") hit.typeIs F.slot_tuple_iterator_next (wpAny_call_entry F.slot_tuple_iterator_next hit.typeIs F.entry_tuple_iterator_next ?_ (F.args_tuple_iterator_next_1 _)))
  show wpAny _ _ (field (.ref it) 0 >>= _) _ _ s
  refine wpAny_bind (wpAny_field ho hd (x := .ref l) rfl ?_)
  show wpAny _ _ (if (Value.ref l == Value.none) = true then _ else _) _ _ s
  rw [if_neg (show ¬ ((Value.ref l == Value.none) = true) from Bool.false_ne_true)]
  show wpAny _ _ (field (.ref it) 1 >>= _) _ _ s
  refine wpAny_bind (wpAny_field ho hd (x := .int i 0) rfl ?_)
  show wpAny _ _ (seqItems? (.ref l) >>= _) _ _ s
  refine wpAny_bind (wpAny_seqItems hol hdl ?_)
  simp only [Int.toNat_natCast, hx]
  refine wpAny_bind (wpAny_setField ho hd (by simp) (wpAny_pure ⟨x, rfl, wpAny_pure (hQ _ ?_ (Heap.SameBut.update ..))⟩))
  exact ⟨_, Heap.get?_update_self _ ho (Obj.isFreed_of_fields (Obj.data_mapFields hd _)), (Obj.cls_mapFields ..).trans hc, by rw [Obj.data_mapFields hd]; simp [rawInt]⟩
theorem nextOf_tup_end {it l : Addr} {i : Nat} {items : Array Value} {Q : Value → Shared → Prop} (hh : A.handled = none) (hit : s.heap.IsTupleIter it l i) (hl : s.heap.IsTuple l items) (hx : items[i]? = none)
    (hE : ∀ h' e, Heap.ExtBut it s.heap h' → (∃ o, h'.get? e = some o ∧ o.cls = .type "StopIteration") → E (.ref e) { s with heap := h' }) : wpAny (model prog w) A (Builtin.SmallTypes.nextOf (.ref it)) Q E s := by
  obtain ⟨o, ho, hc, hd⟩ := id hit
  obtain ⟨ol, hol, _, nl, hdl⟩ := hl
  unfold Builtin.SmallTypes.nextOf
  refine wpAny_bind (wpAny_callSpecial?_slot (name := Str.ofString "__next__") hit.typeIs F.slot_tuple_iterator_next (wpAny_call_entry F.slot_tuple_iterator_next hit.typeIs F.entry_tuple_iterator_next ?_ (F.args_tuple_iterator_next_1 _)))
  show wpAny _ _ (field (.ref it) 0 >>= _) _ _ s
  refine wpAny_bind (wpAny_field ho hd (x := .ref l) rfl ?_)
  show wpAny _ _ (if (Value.ref l == Value.none) = true then _ else _) _ _ s
  rw [if_neg (show ¬ ((Value.ref l == Value.none) = true) from Bool.false_ne_true)]
  show wpAny _ _ (field (.ref it) 1 >>= _) _ _ s
  refine wpAny_bind (wpAny_field ho hd (x := .int i 0) rfl ?_)
  show wpAny _ _ (seqItems? (.ref l) >>= _) _ _ s
  refine wpAny_bind (wpAny_seqItems hol hdl ?_)
  simp only [Int.toNat_natCast, hx]
  refine wpAny_bind (wpAny_rule (wpAny_bind (wpAny_setField ho hd (by simp) ?_)))
  show wpAny _ _ (newExc (.type "StopIteration") [] >>= _) _ _ _
  refine wpAny_bind ?_
  simp only [newExc, newTuple]
  refine wpAny_bind (wpAny_newObj_type ?_ (by size_fits))
  refine wpAny_bind (m := firstArgMember _ _) (wpAny_of_eq (a := Value.none) (by first | rfl | (simp only [firstArgMember]; rfl)) ?_)
  refine wpAny_newObj_type ?_ (by size_fits)
  simp only [raiseNew]
  refine wpAny_bind (wpAny_handled ?_)
  first | rw [show A.in1.handled = none from hh] | rw [hh]
  refine wpAny_bind (wpAny_pure (wpAny_throw ?_))
  exact hE _ _ (((Heap.SameBut.update ..).extBut.push _).push _) ⟨_, Heap.get?_push_size _ rfl, rfl⟩
end
theorem draws_tup {prog : Program} {w : World} {A : Around} (hh : A.handled = none) (it l : Addr) (hne : l ≠ it) (items : Array Value) :
    Draws prog w A it [it, l] items.size (fun i v => items[i]? = some v) (fun i h => h.IsTupleIter it l i ∧ h.IsTuple l items) where
  live := fun _ _ st => let ⟨o, ho, _⟩ := st.1; ⟨o, ho⟩
  frame := fun _ _ _ st hk => ⟨by obtain ⟨o, ho, r⟩ := st.1; exact ⟨o, hk it (by simp) o ho, r⟩, st.2.at fun o e => hk l (by simp) o e⟩
  item := fun i s Q E hi st hQ => by
    refine nextOf_tup_item st.1 st.2 (x := items[i]) (by simp [hi]) fun h' hit' hs' => ?_
    exact hQ _ h' s.toks (by simp [hi]) ⟨hit', st.2.at fun o e => hs'.extBut _ o hne e⟩ hs'
  done := fun s Q E st hE => nextOf_tup_end hh st.1 st.2 (by simp) hE
theorem meets_enumerate_newT (l : Addr) (items : Array Value) (n : Nat) (dct : Option Addr) (sl : Array (Option Value)) :
    Meets (Builtin.«enumerate.__new__» ⟨[.type "enumerate", .ref l], []⟩) (fun _ R s => s.heap.get? l = some { cls := .type "tuple", dict := dct, data := .seq items n, slots := sl } ∧
      R (.ok (.ret (.ref (s.heap.push { cls := .type "tuple_iterator", data := .fields #[.ref l, .int 0 0] }).objs.size)))
        { s with heap := (s.heap.push { cls := .type "tuple_iterator", data := .fields #[.ref l, .int 0 0] }).push { cls := .type "enumerate", data := .fields #[.none, .bool false, .ref s.heap.objs.size, rawInt 0, .none, .none] } }) :=
  .of_wp fun prog w A R s h => by
    obtain ⟨hp, g, d, tk, os⟩ := s; obtain ⟨hl, h⟩ := h
    have hsub := sub_enumerate
    have hL : Heap.IsTuple (Shared.heap ⟨hp, g, d, tk, os⟩) l items := ⟨_, hl, rfl, n, rfl⟩
    wp_walk using wpAny_loadPart' hl
    refine wpAny_stack_any fun st => wpAny_pure ?_
    split
    · rename_i c _ _ _ _ _
      cases (c == Value.type "enumerate")
      · wp_walk using wpAny_loadPart' hl, wpAny_pyIter_tuple hL
        exact ⟨_, rfl, h⟩
      · wp_walk using wpAny_loadPart' hl, wpAny_pyIter_tuple hL
        exact ⟨_, rfl, h⟩
    · wp_walk using wpAny_loadPart' hl, wpAny_pyIter_tuple hL
      exact ⟨_, rfl, h⟩
section
variable {prog : Program} {w : World} {A : Around} {E : Value → Shared → Prop} {s : Shared}
theorem call_enumerate_tup {l : Addr} {items : Array Value} {Q : Value → Shared → Prop} (hL : s.heap.IsTuple l items)
    (h : ∀ h', IsEnum h' (s.heap.objs.size + 1) s.heap.objs.size 0 .none → h'.IsTupleIter s.heap.objs.size l 0 → h'.objs.size = s.heap.objs.size + 2 →
      (∀ b o, s.heap.get? b = some o → h'.get? b = some o) → Q (.ref (s.heap.objs.size + 1)) { s with heap := h' }) :
    wpAny (model prog w) A (call (.type "enumerate") [.ref l]) Q E s := by
  obtain ⟨⟨c, dct, dt, sl⟩, hl, hc, n, hd⟩ := hL
  replace hc : c = .type "tuple" := hc
  replace hd : dt = .seq items n := hd
  subst hc hd
  refine callType_new F.called_enumerate (by decide) (F.typeCall_enumerate_1 _) (F.newCall_enumerate_1 _) (fun obj => F.args_object_init_2 obj _) F.entry_enumerate_new (meets_enumerate_newT l items n dct sl) ⟨hl, ?_⟩
  have hz : (s.heap.push { cls := .type "tuple_iterator", data := .fields #[.ref l, .int 0 0] }).objs.size = s.heap.objs.size + 1 := Heap.size_push ..
  show _ ∧ _
  rw [hz]
  have he : IsEnum ((s.heap.push { cls := .type "tuple_iterator", data := .fields #[.ref l, .int 0 0] }).push
      { cls := .type "enumerate", data := .fields #[.none, .bool false, .ref s.heap.objs.size, rawInt 0, .none, .none] }) (s.heap.objs.size + 1) s.heap.objs.size 0 .none := by
    have := Heap.get?_push_size (s.heap.push { cls := .type "tuple_iterator", data := .fields #[.ref l, .int 0 0] }) (o := { cls := .type "enumerate", data := .fields #[.none, .bool false, .ref s.heap.objs.size, rawInt 0, .none, .none] }) rfl
    rw [hz] at this; exact this
  refine ⟨⟨_, he, rfl⟩, h _ he ⟨_, Heap.get?_push_of_some _ (Heap.get?_push_size _ rfl), rfl, rfl⟩ (by rw [Heap.size_push, hz]) fun b o x => Heap.get?_push_of_some _ (Heap.get?_push_of_some _ x)⟩
variable {env : Env} {h₀ : Heap} {xi xc : Str} {body : List Stmt} {Q : Flow → Shared → Prop}
/-- over a tuple -/
theorem enum_tup_st {σ : Type} {l : Addr} {vs : List Value} {m₀ : Str → Option Value} (Led : σ → List (Addr × Obj)) (stored : List Str) (J : Nat → σ → Prop) (c₀ : σ) (hxx : xi ≠ xc) (hh : A.handled = none)
    (hadr : ∀ c, (Led c).map (·.1) = (Led c₀).map (·.1)) (F : Fr h₀ env.locals s.heap m₀) (N : News h₀ env.locals s.heap (Led c₀)) (hls : s.heap.IsTuple l vs.toArray) (hlL : l ≠ env.locals) (hlq : ∀ q ∈ Led c₀, q.1 ≠ l) (hj : J 0 c₀)
    (turn : ∀ i v t c (u : Str → Option Value) h tk own, vs[i]? = some v → J i c → (∀ p ∈ own, ∀ q ∈ Led c₀, p.1 ≠ q.1) →
      Fr h₀ env.locals h (fun y => if y = xc then some v else if y = xi then some (.int i t) else if stored.contains y then u y else m₀ y) → News h₀ env.locals h (Led c ++ own) →
      wpAny (model prog w) A (execs body env) (PsPost h₀ env.locals s xi xc Led stored m₀ own (J (i + 1)) Q) E { s with heap := h, toks := tk })
    (done : ∀ c (u : Str → Option Value) h tk, J vs.length c → Fr h₀ env.locals h (fun y => if y = xc then u y else if y = xi then u y else if stored.contains y then u y else m₀ y) → News h₀ env.locals h (Led c) → Q .next { s with heap := h, toks := tk }) :
    wpAny (model prog w) A (call (.type "enumerate") [.ref l]) (fun xv s₁ => wpAny (model prog w) A (pyIter xv) (fun it s₂ => PairAt3 prog w A h₀ env xi xc body Q E it s₂) E s₁) E s := by
  have ltl : @LT.lt Nat _ l s.heap.objs.size := by obtain ⟨o, e, _⟩ := hls; exact Heap.lt_size e
  have lt : ∀ {p}, p ∈ Led c₀ → @LT.lt Nat _ p.1 s.heap.objs.size := fun hp => Heap.lt_size (N _ hp).1
  have hLs : @LT.lt Nat _ env.locals s.heap.objs.size := F.ns.lt
  refine call_enumerate_tup hls fun h' he hit hsz hk => ?_
  have F' : Fr h₀ env.locals h' m₀ := F.keeps hk
  have N' : News h₀ env.locals h' (Led c₀) := N.grown hk
  refine enum_st (s := { s with heap := h' }) Led stored J c₀ hxx (draws_tup (A := A.in1) hh s.heap.objs.size l (Nat.ne_of_lt ltl) vs.toArray) he ⟨hit, hls.at fun o e => hk l o e⟩ (Nat.succ_ne_self _) ?_ (by simp) ?_
    (Heap.get?_none_of_le (Nat.le_trans F.above (Nat.le_of_lt (Nat.lt_succ_of_lt hLs)))) (Heap.get?_none_of_le (Nat.le_trans F.above (Nat.le_of_lt hLs))) hadr (fun p hp => ⟨Nat.ne_of_lt (Nat.lt_succ_of_lt (lt hp)), Nat.ne_of_lt (lt hp)⟩) F' N' hj ?_ ?_
  · intro hm
    rcases List.mem_cons.mp hm with e | hm
    · exact Nat.succ_ne_self _ e
    · exact Nat.ne_of_gt (Nat.lt_succ_of_lt ltl) (List.mem_singleton.mp hm)
  · intro hm
    rcases List.mem_cons.mp hm with e | hm
    · exact Nat.ne_of_lt (Nat.lt_succ_of_lt hLs) e
    · rcases List.mem_cons.mp hm with e | hm
      · exact Nat.ne_of_lt hLs e
      · exact hlL (List.mem_singleton.mp hm).symm
  · intro i v t c u h tk own hi hP hJ hown F₁ N₁
    refine turn i v t c u h tk own (by simpa using hP) hJ (fun p hp q hq => ?_) F₁ N₁
    have := hown p hp
    rcases List.mem_cons.mp this with e | e
    · rw [e]; exact Ne.symm (Nat.ne_of_lt (Nat.lt_succ_of_lt (lt hq)))
    · rcases List.mem_cons.mp e with e | e
      · rw [e]; exact Ne.symm (Nat.ne_of_lt (lt hq))
      · rw [List.mem_singleton.mp e]; exact Ne.symm (hlq q hq)
  · intro c u h tk hJ F₁ N₁
    exact done c u h tk (by simpa using hJ) F₁ N₁
end
end Mine
end

section
open PySem PySem.W PyProof.Rows PySem.Calls
set_option maxRecDepth 100000
set_option maxHeartbeats 8000000
namespace Mine
noncomputable def ElseEnd (h₀ : Heap) (L : Addr) (s : Shared) (xb xc : Str) (news : List (Addr × Obj)) (m₀ : Str → Option Value) (own : List (Addr × Obj)) (miss : Prop) (s₂ : Shared) : Prop :=
  miss ∧ ∃ (h' : Heap) (tk : Nat) (m' : Str → Option Value), s₂ = { s with heap := h', toks := tk } ∧ Fr h₀ L h' m' ∧ News h₀ L h' (news ++ own) ∧ (∀ z, z ≠ xb → z ≠ xc → m' z = m₀ z)
noncomputable def ElsePost (h₀ : Heap) (L : Addr) (s : Shared) (xb xc : Str) (news : List (Addr × Obj)) (m₀ : Str → Option Value) (own : List (Addr × Obj)) (miss : Prop) (Q : Flow → Shared → Prop) (f : Flow) (s₂ : Shared) : Prop :=
  match f with
  | .ret v => Q (.ret v) s₂
  | .brk => Q .next s₂
  | _ => ElseEnd h₀ L s xb xc news m₀ own miss s₂
theorem else_end {h₀ : Heap} {L : Addr} {s : Shared} {xb xc : Str} {news : List (Addr × Obj)} {m₀ m' : Str → Option Value} {own : List (Addr × Obj)} {miss : Prop} {h' : Heap} {tk : Nat} (hm : miss)
    (F : Fr h₀ L h' m') (N : News h₀ L h' (news ++ own)) (hr : ∀ z, z ≠ xb → z ≠ xc → m' z = m₀ z) : ElseEnd h₀ L s xb xc news m₀ own miss { s with heap := h', toks := tk } := ⟨hm, h', tk, m', rfl, F, N, hr⟩
section
variable {prog : Program} {w : World} {A : Around} {E : Value → Shared → Prop} {s : Shared} {env : Env} {h₀ : Heap} {xb xc : Str} {body orelse : List Stmt} {Q : Flow → Shared → Prop}
/-- a for with an else over a tuple of pairs -/
noncomputable def ElseAt (prog : Program) (w : World) (A : Around) (h₀ : Heap) (env : Env) (xb xc : Str) (body orelse : List Stmt) (Q : Flow → Shared → Prop) (E : Value → Shared → Prop) (p : Value × Value → Bool) (xv : Value) (s₁ : Shared) : Prop :=
  ∃ (l : Addr) (as : List Addr) (ps : List (Value × Value)) (m₀ : Str → Option Value) (news : List (Addr × Obj)), xv = .ref l ∧ h₀.IsTuple l (as.map Value.ref).toArray ∧ as.length = ps.length ∧
    (∀ (j : Nat) a b c, as[j]? = some a → ps[j]? = some (b, c) → h₀.IsTuple a #[b, c]) ∧ Fr h₀ env.locals s₁.heap m₀ ∧ News h₀ env.locals s₁.heap news ∧
    (∀ pre b c post h tk own, ps = pre ++ (b, c) :: post → (∀ x ∈ pre, p x = false) → (∀ p ∈ own, ∀ q ∈ news, p.1 ≠ q.1) → Fr h₀ env.locals h (fun y => if y = xc then some c else if y = xb then some b else m₀ y) → News h₀ env.locals h (news ++ own) →
      wpAny (model prog w) A (execs body env) (ElsePost h₀ env.locals s₁ xb xc news m₀ own (p (b, c) = false) Q) E { s₁ with heap := h, toks := tk }) ∧
    (∀ (u : Str → Option Value) h tk, (∀ x ∈ ps, p x = false) → Fr h₀ env.locals h (fun y => if y = xc then u y else if y = xb then u y else m₀ y) → News h₀ env.locals h news → wpAny (model prog w) A (execs orelse env) Q E { s₁ with heap := h, toks := tk })
theorem go_tupiter {elts : List Expr} {x1 : Nat} {pos : Pos} {I l T : Addr} {i : Nat} {Q : Unit → Shared → Prop} (hit : s.heap.IsTupleIter I l i) (hQ : Q () s) :
    wpAny (model prog w) A (letOwnedTupleGo (.Tuple elts x1 pos) (.ref I) (.ref T)) Q E s := by
  obtain ⟨⟨c, d, dt, sl⟩, ho, hc, hd⟩ := hit
  replace hc : c = .type "tuple_iterator" := hc
  replace hd : dt = .fields #[.ref l, .int i 0] := hd
  subst hc hd
  show wpAny _ _ (load I >>= _) _ _ _
  refine wpAny_bind (wpAny_load ho ?_)
  dsimp only
  rw [if_neg (by simp)]
  exact wpAny_pure hQ
theorem For_else {pk pv pt pos : Pos} {x1 : Nat} {iter : Expr} {mF : Str → Option Value} (_F : Fr h₀ env.locals s.heap mF) (p : Value × Value → Bool) (hh : A.handled = none) (hxb : env.kindOf xb = some .local) (hxc : env.kindOf xc = some .local)
    (hp : (env.scope.kind == .class || (env.scope.kind == .module && env.locals != env.globals)) = false)
    (h : wpAny (model prog w) A (eval iter env) (fun xv s₁ => ElseAt prog w A h₀ env xb xc body orelse Q E p xv s₁) E s)
    (hs : ∀ x, foldedSetIterable iter env x = pure x) (hE : PassesOwn (model prog w) A env E := by passes_own) :
    wpAny (model prog w) A (exec (.For (.Tuple [.Name xb pk, .Name xc pv] x1 pt) iter body orelse pos) env) Q E s := by
  refine wpAny_For (wpAny_mono h (fun xv s₁ h₁ => ?_) fun _ _ e => e) hs
  obtain ⟨l, as, ps, m₀, news, rfl, hl₀, hlen, hps, F, N, turn, last⟩ := h₁
  have hlL : l ≠ env.locals := by
    obtain ⟨o, ho, _⟩ := hl₀
    rintro rfl
    exact Nat.lt_irrefl _ (Nat.lt_of_lt_of_le (Heap.lt_size ho) F.above)
  have hl : s₁.heap.IsTuple l (as.map Value.ref).toArray := hl₀.at fun o e => F.keep _ o e
  have ltl : @LT.lt Nat _ l s₁.heap.objs.size := by obtain ⟨o, e, _⟩ := hl; exact Heap.lt_size e
  refine wpAny_pyIter_tuple hl ?_
  have W := Walks.tuple (prog := prog) (w := w) (A := A) hh s₁.heap.objs.size l (Nat.ne_of_lt ltl) (as.map Value.ref).toArray
  have hsz : (as.map Value.ref).toArray.size = ps.length := by simp [hlen]
  rw [hsz] at W
  have hI₀ : h₀.get? s₁.heap.objs.size = none := next_is_new F
  have hIL : s₁.heap.objs.size ≠ env.locals := Nat.ne_of_gt F.ns.lt
  have hIn : ∀ p ∈ news, p.1 ≠ s₁.heap.objs.size := fun p hp => Nat.ne_of_lt (Heap.lt_size (N p hp).1)
  generalize hIe : s₁.heap.objs.size = I at W hI₀ hIL hIn ltl ⊢
  refine codeAny_forLoop_any (R := fun r s' => match r with | .ok f => Q f s' | .error e => cameBackBy (model prog w) A env E e s')
    (fun k s' => ∃ h' tk m' i, s' = { s₁ with heap := h', toks := tk } ∧ (h'.IsTupleIter I l i ∧ h'.IsTuple l (as.map Value.ref).toArray) ∧ Fr h₀ env.locals h' m' ∧ News h₀ env.locals h' news ∧ (∀ z, z ≠ xb → z ≠ xc → m' z = m₀ z) ∧ (∀ x ∈ ps.take i, p x = false) ∧ i ≤ ps.length ∧ k = ps.length + 1 - i) ?_ (ps.length + 1)
    ⟨_, s₁.toks, m₀, 0, rfl, ⟨⟨_, by rw [← hIe]; exact Heap.get?_push_size _ rfl, rfl, rfl⟩, hl.at fun o e => Heap.get?_push_of_some _ e⟩, F.push _, N.grown fun b o e => Heap.get?_push_of_some _ e, fun _ _ _ => rfl, by simp, Nat.zero_le _, rfl⟩
  rintro k s' ⟨h', tk, m', i, rfl, hst, F', N', hm, hno, hi, rfl⟩
  have next : ∀ h₁ : Heap, (∀ b o, b ∉ [I] → h'.get? b = some o → h₁.get? b = some o) → Fr h₀ env.locals h₁ m' ∧ News h₀ env.locals h₁ news := fun h₁ hk =>
    ⟨⟨F'.ns.at' fun o e => hk _ o (fun q => hIL (List.mem_singleton.mp q).symm) e, fun b o e => hk b o (fun q => by rw [List.mem_singleton.mp q, hI₀] at e; cases e) (F'.keep b o e), F'.above⟩, fun p hp => ⟨hk _ _ (fun q => hIn p hp (List.mem_singleton.mp q)) (N' p hp).1, (N' p hp).2⟩⟩
  by_cases hlt : i < ps.length
  · refine W.item i _ _ _ hlt hst fun v h₁ tk₁ hP hst₁ hk₁ => ?_
    obtain ⟨a, ha⟩ : ∃ a, as[i]? = some a := ⟨_, List.getElem?_eq_getElem (by lia)⟩
    obtain ⟨⟨b, c⟩, hbc⟩ : ∃ x, ps[i]? = some x := ⟨_, List.getElem?_eq_getElem hlt⟩
    obtain rfl : Value.ref a = v := by simpa [ha] using hP
    obtain ⟨F₁, N₁⟩ := next h₁ hk₁
    have ht := hps i a b c ha hbc
    refine go_tupiter hst₁.1 ?_
    have ht₁ : h₁.IsTuple a #[b, c] := ht.at fun o e => F₁.keep _ o e
    refine wpAny_assign_Tuple hh ht₁ rfl rfl fun h₃ hx₃ => ?_
    replace hx₃ : Heap.ExtBut h₁.objs.size h₁ h₃ := hx₃
    have up₃ : ∀ b o, h₁.get? b = some o → h₃.get? b = some o := fun b o x => hx₃ b o (Nat.ne_of_lt (Heap.lt_size x)) x
    have F₃ := F₁.keeps up₃
    have N₃ := N₁.grown up₃
    show wpAny _ A (do holding [c] (assign (.Name xb pk) env b); do holding [] (assign (.Name xc pv) env c); pure ()) _ _ _
    refine wpAny_bind (wpAny_holding (wpAny_assign_Name (wpAny_storeName_local hxb F₃.ns (fun h₄ hn₄ hs₄ => ?_) hp)))
    replace hs₄ : Heap.SameBut env.locals h₃ h₄ := hs₄
    have F₄ := F₃.set hn₄ hs₄
    refine wpAny_bind (wpAny_holding (wpAny_assign_Name (wpAny_storeName_local hxc F₄.ns (fun h₅ hn₅ hs₅ => wpAny_pure ?_) hp)))
    replace hs₅ : Heap.SameBut env.locals h₄ h₅ := hs₅
    have F₅ := F₄.set hn₅ hs₅
    have N₅ : News h₀ env.locals h₅ news := (N₃.set hs₄).set hs₅
    obtain ⟨oI, hoI, rI⟩ := id hst₁.1
    have hI5 : h₅.get? I = some oI := hs₅.extBut _ _ hIL (hs₄.extBut _ _ hIL (up₃ _ _ hoI))
    have Nown : News h₀ env.locals h₅ (news ++ [(I, oI)]) := fun q hq => by
      rcases List.mem_append.mp hq with hq | hq
      · exact N₅ q hq
      · rw [List.mem_singleton.mp hq]
        exact ⟨hI5, hIL, hI₀⟩
    have eq : (fun y => if y = xc then some c else if y = xb then some b else m' y) = fun y => if y = xc then some c else if y = xb then some b else m₀ y := by
      funext y
      by_cases h1 : y = xc
      · simp [h1]
      · by_cases h2 : y = xb
        · simp [h2]
        · simp only [if_neg h1, if_neg h2]; exact hm y h2 h1
    have F₅' : Fr h₀ env.locals h₅ fun y => if y = xc then some c else if y = xb then some b else m₀ y := by rw [← eq]; exact F₅
    have hsplit : ps = ps.take i ++ (b, c) :: ps.drop (i + 1) := by
      have : ps.drop i = (b, c) :: ps.drop (i + 1) := by
        rw [List.drop_eq_getElem_cons hlt]; rw [List.getElem?_eq_getElem hlt] at hbc; rw [Option.some.inj hbc]
      rw [← this, List.take_append_drop]
    refine wpAny_mono (wpAny_passesOwn hE (turn (ps.take i) b c (ps.drop (i + 1)) h₅ _ _ hsplit hno (fun p hp q hq => by rw [List.mem_singleton.mp hp]; exact Ne.symm (hIn q hq)) F₅' Nown)) (fun f s₃ h₆ => ?_) fun _ _ e => e
    have fin : ElseEnd h₀ env.locals s₁ xb xc news m₀ [(I, oI)] (p (b, c) = false) s₃ → ∃ m, m < ps.length + 1 - i ∧ ∃ h' tk m' i, s₃ = { s₁ with heap := h', toks := tk } ∧ (h'.IsTupleIter I l i ∧ h'.IsTuple l (as.map Value.ref).toArray) ∧ Fr h₀ env.locals h' m' ∧ News h₀ env.locals h' news ∧ (∀ z, z ≠ xb → z ≠ xc → m' z = m₀ z) ∧ (∀ x ∈ ps.take i, p x = false) ∧ i ≤ ps.length ∧ m = ps.length + 1 - i := by
      rintro ⟨hmiss, H₆, tk₆, m₆, rfl, F₆, N₆, hm₆⟩
      refine ⟨ps.length + 1 - (i + 1), by lia, H₆, tk₆, m₆, i + 1, rfl, ⟨⟨oI, (N₆ (I, oI) (by simp)).1, rI⟩, hl₀.at fun o e => F₆.keep _ o e⟩, F₆, fun q hq => N₆ q (List.mem_append_left _ hq), hm₆, fun x hx => ?_, hlt, rfl⟩
      rw [List.take_succ, hbc] at hx
      rcases List.mem_append.mp hx with hx | hx
      · exact hno x hx
      · simp at hx; rw [hx]; exact hmiss
    cases f with
    | ret v => exact h₆
    | brk => exact h₆
    | next => exact fin h₆
    | cont => exact fin h₆
  · obtain rfl : i = ps.length := by lia
    refine W.done _ _ _ hst fun h₁ tk₁ hk₁ => ?_
    obtain ⟨F₁, N₁⟩ := next h₁ hk₁
    rw [List.take_length] at hno
    refine wpAny_passesOwn hE (last m' h₁ tk₁ hno ?_ N₁)
    have eq : (fun y => if y = xc then m' y else if y = xb then m' y else m₀ y) = m' := by
      funext y
      by_cases h1 : y = xc
      · simp [h1]
      · by_cases h2 : y = xb
        · simp [h2]
        · simp only [if_neg h1, if_neg h2]; exact (hm y h2 h1).symm
    rw [eq]; exact F₁
end
end Mine
end

section
open PySem PySem.W PyProof.Rows PySem.Calls
open AutoSeq1 (wpAny_loadPart')
open MeetsSeq3 (plain_eq_loop entry_eq_loop)
set_option maxRecDepth 100000
set_option maxHeartbeats 8000000
namespace Mine
noncomputable def strL (xs : List (Str × Tok)) : List Value := xs.map fun p => Value.str p.1 p.2
/-- the order of two lists of texts -/
noncomputable def ltS : List Str → List Str → Bool
  | [], [] => false
  | [], _ :: _ => true
  | _ :: _, [] => false
  | x :: xs, y :: ys => if x = y then ltS xs ys else decide (x.cps.toList < y.cps.toList)
noncomputable def opF (op : CmpOp) (xs ys : List Str) : Bool := match op with | .Lt => ltS xs ys | _ => ltS ys xs
section
variable {prog : Program} {w : World} {A : Around} {E : Value → Shared → Prop} {s : Shared}
theorem rc_lt_str {x y : Str} {t u : Tok} {Q : Value → Shared → Prop} (h : Q (.bool (decide (x.cps.toList < y.cps.toList))) s) : wpAny (model prog w) A (richCompare .Lt (.str x t) (.str y u)) Q E s :=
  wpAny_richCompare_same (op := .Lt) (T := "str") (typeIs_str s x t) (typeIs_str s y u) F.slot_str_lt
    (wpAny_call_entry F.slot_str_lt (typeIs_str s x t) F.entry_str_lt (show wpAny _ _ (ret (.bool (x.cps.toList < y.cps.toList))) _ _ s from wpAny_pure ⟨_, rfl, by simp, h⟩) (F.args_str_lt_2 _ _))
theorem rc_gt_str {x y : Str} {t u : Tok} {Q : Value → Shared → Prop} (h : Q (.bool (decide (y.cps.toList < x.cps.toList))) s) : wpAny (model prog w) A (richCompare .Gt (.str x t) (.str y u)) Q E s :=
  wpAny_richCompare_same (op := .Gt) (T := "str") (typeIs_str s x t) (typeIs_str s y u) F.slot_str_gt
    (wpAny_call_entry F.slot_str_gt (typeIs_str s x t) F.entry_str_gt (show wpAny _ _ (ret (.bool (y.cps.toList < x.cps.toList))) _ _ s from wpAny_pure ⟨_, rfl, by simp, h⟩) (F.args_str_gt_2 _ _))
end
theorem ltS_cons (x y : Str) (xs ys : List Str) : ltS (x :: xs) (y :: ys) = if x = y then ltS xs ys else decide (x.cps.toList < y.cps.toList) := rfl
theorem lt_loop (l b : Addr) (xs ys : List (Str × Tok)) (n n2 : Nat) (op : CmpOp) (code : Nat) (hop : op = .Lt ∧ code = 0 ∨ op = .Gt ∧ code = 4) (k : Nat) :
    ∀ i : Nat, xs.length - i = k → i ≤ xs.length → i ≤ ys.length → Meets (Builtin.«list.__eq__.loop» ⟨[.ref l, .ref b, rawInt i, rawInt code], []⟩)
      (fun A R s => s.heap.get? l = some (W.listOf (strL xs).toArray n) ∧ s.heap.get? b = some (W.listOf (strL ys).toArray n2) ∧
        R (.ok (.ret (.bool (opF op ((xs.drop i).map (·.1)) ((ys.drop i).map (·.1)))))) s) := by
  induction k with
  | zero =>
    intro i hk hix hiy prog w A R s h
    obtain ⟨hp, g, d, tk, os⟩ := s; obtain ⟨hl, hb, h⟩ := h
    have hd : xs.drop i = [] := by simp; omega
    have hi1 : (strL xs).toArray[((i : Nat) : Int).toNat]? = none := by simp [strL]; omega
    have hxi : xs.length = i := by omega
    rw [hd] at h
    rcases hop with ⟨rfl, rfl⟩ | ⟨rfl, rfl⟩
    · wp_walk using wpAny_loadPart' hl, wpAny_loadPart' hb
      rw [hi1]
      dsimp only
      wp_walk using wpAny_loadPart' hl, wpAny_loadPart' hb
      show R (.ok (.ret (.bool (decide ((strL xs).toArray.size < (strL ys).toArray.size))))) _
      have e : decide ((strL xs).toArray.size < (strL ys).toArray.size) = opF .Lt [] ((ys.drop i).map (·.1)) := by
        cases hy : ys.drop i with
        | nil =>
          have := List.drop_eq_nil_iff.mp hy
          simp [strL, opF, ltS]; omega
        | cons y r =>
          have := congrArg List.length hy
          simp [strL, opF, ltS] at this ⊢; omega
      rw [e]; exact h
    · wp_walk using wpAny_loadPart' hl, wpAny_loadPart' hb
      rw [hi1]
      dsimp only
      wp_walk using wpAny_loadPart' hl, wpAny_loadPart' hb
      show R (.ok (.ret (.bool (decide ((strL xs).toArray.size > (strL ys).toArray.size))))) _
      have e : decide ((strL xs).toArray.size > (strL ys).toArray.size) = opF .Gt [] ((ys.drop i).map (·.1)) := by
        cases hy : ys.drop i with
        | nil =>
          have := List.drop_eq_nil_iff.mp hy
          simp [strL, opF, ltS]; omega
        | cons y r =>
          have := congrArg List.length hy
          simp [strL, opF, ltS] at this ⊢; omega
      rw [e]; exact h
  | succ k ih =>
    intro i hk hix hiy prog w A R s h
    obtain ⟨hp, g, d, tk, os⟩ := s; obtain ⟨hl, hb, h⟩ := h
    have hlt : i < xs.length := by omega
    obtain ⟨⟨x, tx⟩, hx⟩ : ∃ x, xs[i]? = some x := ⟨_, List.getElem?_eq_getElem hlt⟩
    have hdx : xs.drop i = (x, tx) :: xs.drop (i + 1) := by
      rw [List.drop_eq_getElem_cons hlt]; rw [List.getElem?_eq_getElem hlt] at hx; rw [Option.some.inj hx]
    have hi1 : (strL xs).toArray[((i : Nat) : Int).toNat]? = some (.str x tx) := by simp [strL, hx]
    rw [hdx] at h
    by_cases hlty : i < ys.length
    · obtain ⟨⟨y, ty⟩, hy⟩ : ∃ y, ys[i]? = some y := ⟨_, List.getElem?_eq_getElem hlty⟩
      have hdy : ys.drop i = (y, ty) :: ys.drop (i + 1) := by
        rw [List.drop_eq_getElem_cons hlty]; rw [List.getElem?_eq_getElem hlty] at hy; rw [Option.some.inj hy]
      have hi2 : (strL ys).toArray[((i : Nat) : Int).toNat]? = some (.str y ty) := by simp [strL, hy]
      have hc : ((i : Int) + 1) = ((i + 1 : Nat) : Int) := by push_cast; rfl
      rw [hdy] at h
      rcases hop with ⟨rfl, rfl⟩ | ⟨rfl, rfl⟩
      · wp_walk using wpAny_loadPart' hl, wpAny_loadPart' hb
        rw [hi1, hi2]
        dsimp only
        refine wpAny_bind (wpAny_eqBool_str ?_)
        by_cases hxy : x = y
        · subst hxy
          rw [decide_eq_true rfl]
          wp_walk
          rw [hc]
          refine ⟨plainId_quiet plain_eq_loop _, codeAny_builtin entry_eq_loop ?_⟩
          rw [Around.under_plainId plain_eq_loop _]
          refine ih (i + 1) (by omega) hlt hlty prog w A R _ ⟨hl, hb, ?_⟩
          simpa [opF, ltS_cons] using h
        · rw [decide_eq_false hxy]
          wp_walk using wpAny_loadPart' hl, wpAny_loadPart' hb
          rw [hi1, hi2]
          dsimp only
          refine wpAny_bind (rc_lt_str ?_)
          wp_walk
          simpa [opF, ltS_cons, hxy] using h
      · wp_walk using wpAny_loadPart' hl, wpAny_loadPart' hb
        rw [hi1, hi2]
        dsimp only
        refine wpAny_bind (wpAny_eqBool_str ?_)
        by_cases hxy : x = y
        · subst hxy
          rw [decide_eq_true rfl]
          wp_walk
          rw [hc]
          refine ⟨plainId_quiet plain_eq_loop _, codeAny_builtin entry_eq_loop ?_⟩
          rw [Around.under_plainId plain_eq_loop _]
          refine ih (i + 1) (by omega) hlt hlty prog w A R _ ⟨hl, hb, ?_⟩
          simpa [opF, ltS_cons] using h
        · rw [decide_eq_false hxy]
          wp_walk using wpAny_loadPart' hl, wpAny_loadPart' hb
          rw [hi1, hi2]
          dsimp only
          refine wpAny_bind (rc_gt_str ?_)
          wp_walk
          simpa [opF, ltS_cons, Ne.symm hxy] using h
    · have hi2 : (strL ys).toArray[((i : Nat) : Int).toNat]? = none := by simp [strL]; omega
      have hdy : ys.drop i = [] := by simp; omega
      rw [hdy] at h
      rcases hop with ⟨rfl, rfl⟩ | ⟨rfl, rfl⟩
      · wp_walk using wpAny_loadPart' hl, wpAny_loadPart' hb
        rw [hi1, hi2]
        dsimp only
        wp_walk using wpAny_loadPart' hl, wpAny_loadPart' hb
        show R (.ok (.ret (.bool (decide ((strL xs).toArray.size < (strL ys).toArray.size))))) _
        rw [decide_eq_false (by simp [strL]; omega)]
        exact h
      · wp_walk using wpAny_loadPart' hl, wpAny_loadPart' hb
        rw [hi1, hi2]
        dsimp only
        wp_walk using wpAny_loadPart' hl, wpAny_loadPart' hb
        show R (.ok (.ret (.bool (decide ((strL xs).toArray.size > (strL ys).toArray.size))))) _
        rw [decide_eq_true (by simp [strL]; omega)]
        exact h
theorem list_lt (l b : Addr) (xs ys : List (Str × Tok)) (n n2 : Nat) :
    Meets (Builtin.«list.__lt__» ⟨[.ref l, .ref b], []⟩) (fun A R s => s.heap.get? l = some (W.listOf (strL xs).toArray n) ∧ s.heap.get? b = some (W.listOf (strL ys).toArray n2) ∧
        R (.ok (.ret (.bool (ltS (xs.map (·.1)) (ys.map (·.1)))))) s) := by
  intro prog w A R s h
  obtain ⟨hp, g, d, tk, os⟩ := s; obtain ⟨hl, hb, h⟩ := h
  have f3 := AutoSeq1.sub_list_list
  wp_walk using wpAny_loadPart' hl, wpAny_loadPart' hb
  refine ⟨plainId_quiet plain_eq_loop _, codeAny_builtin entry_eq_loop ?_⟩
  rw [Around.under_plainId plain_eq_loop _]
  exact lt_loop l b xs ys n n2 .Lt 0 (.inl ⟨rfl, rfl⟩) _ 0 rfl (Nat.zero_le _) (Nat.zero_le _) prog w A R _ ⟨hl, hb, h⟩
theorem list_gt (l b : Addr) (xs ys : List (Str × Tok)) (n n2 : Nat) :
    Meets (Builtin.«list.__gt__» ⟨[.ref l, .ref b], []⟩) (fun A R s => s.heap.get? l = some (W.listOf (strL xs).toArray n) ∧ s.heap.get? b = some (W.listOf (strL ys).toArray n2) ∧
        R (.ok (.ret (.bool (ltS (ys.map (·.1)) (xs.map (·.1)))))) s) := by
  intro prog w A R s h
  obtain ⟨hp, g, d, tk, os⟩ := s; obtain ⟨hl, hb, h⟩ := h
  have f3 := AutoSeq1.sub_list_list
  wp_walk using wpAny_loadPart' hl, wpAny_loadPart' hb
  refine ⟨plainId_quiet plain_eq_loop _, codeAny_builtin entry_eq_loop ?_⟩
  rw [Around.under_plainId plain_eq_loop _]
  exact lt_loop l b xs ys n n2 .Gt 4 (.inr ⟨rfl, rfl⟩) _ 0 rfl (Nat.zero_le _) (Nat.zero_le _) prog w A R _ ⟨hl, hb, h⟩
section
variable {prog : Program} {w : World} {A : Around} {E : Value → Shared → Prop} {s : Shared}
theorem rc_lt_list {l b : Addr} {xs ys : List (Str × Tok)} {n n2 : Nat} {Q : Value → Shared → Prop} (hu : A.units < cLine) (hl : s.heap.get? l = some (W.listOf (strL xs).toArray n)) (hb : s.heap.get? b = some (W.listOf (strL ys).toArray n2))
    (h : Q (.bool (ltS (xs.map (·.1)) (ys.map (·.1)))) s) : wpAny (model prog w) A (richCompare .Lt (.ref l) (.ref b)) Q E s :=
  richCompare_meets_room (op := .Lt) (T := "list") ⟨_, hl, rfl⟩ ⟨_, hb, rfl⟩ F.slot_list_lt F.entry_list_lt (F.args_list_lt_2 _ _) (list_lt l b xs ys n n2) (by first | exact ⟨hl, hb, by simp, h⟩ | exact ⟨hl, hb, h⟩ | exact ⟨hl, hb, ⟨by simp, h⟩⟩) hu
theorem rc_gt_list {l b : Addr} {xs ys : List (Str × Tok)} {n n2 : Nat} {Q : Value → Shared → Prop} (hu : A.units < cLine) (hl : s.heap.get? l = some (W.listOf (strL xs).toArray n)) (hb : s.heap.get? b = some (W.listOf (strL ys).toArray n2))
    (h : Q (.bool (ltS (ys.map (·.1)) (xs.map (·.1)))) s) : wpAny (model prog w) A (richCompare .Gt (.ref l) (.ref b)) Q E s :=
  richCompare_meets_room (op := .Gt) (T := "list") ⟨_, hl, rfl⟩ ⟨_, hb, rfl⟩ F.slot_list_gt F.entry_list_gt (F.args_list_gt_2 _ _) (list_gt l b xs ys n n2) (by first | exact ⟨hl, hb, by simp, h⟩ | exact ⟨hl, hb, h⟩ | exact ⟨hl, hb, ⟨by simp, h⟩⟩) hu
end
end Mine
end

section
open PySem PySem.W PyProof.Rows PySem.Calls
set_option maxRecDepth 100000
set_option maxHeartbeats 8000000
namespace Mine
section
variable {prog : Program} {w : World} {A : Around} {E : Value → Shared → Prop} {s : Shared} {fp : List Addr} {St : Nat → Heap → Prop}

theorem min2_loop {l a b I S : Addr} {xs ys : List (Str × Tok)} {na nb : Nat} {R : Result → Shared → Prop} {c : Nat} (hh : A.handled = none) (hu : A.units + 1 < cLine) (WK : Walks prog w A.in1 I fp [I] 2 (fun i v => (#[Value.ref a, .ref b] : Array Value)[i]? = some v) St) (hSf : S ∉ fp) (hIa : a ≠ I) (hIb : b ≠ I) (hSa : a ≠ S) (hSb : b ≠ S) (hst : St 0 s.heap)
    (hS : s.heap.get? S = some { cls := .type "list", dict := none, data := .seq #[] c, slots := #[] }) (ha : s.heap.get? a = some (W.listOf (strL xs).toArray na)) (hb : s.heap.get? b = some (W.listOf (strL ys).toArray nb))
    (hR : ∀ h' tk, (∀ b o, b ≠ I → b ≠ S → s.heap.get? b = some o → h'.get? b = some o) → R (.ok (.ret (.ref (if ltS (ys.map (·.1)) (xs.map (·.1)) then b else a)))) { s with heap := h', toks := tk }) :
    codeAny (model prog w) A (.builtin "min.loop" ⟨[.ref I, .none, .ref S], []⟩) R s := by
  have hname : (toString "min" ++ toString ".loop" : String) = "min.loop" := by decide
  have hSI : S ≠ I := fun e => hSf (by rw [e]; exact WK.sub _ (List.mem_singleton.mpr rfl))
  have off : ∀ {b : Addr}, b ≠ I → b ∉ [I] := fun h q => h (List.mem_singleton.mp q)
  have upd : ∀ {h : Heap} {g : Obj → Obj} {b : Addr} {o : Obj}, b ≠ S → h.get? b = some o → (h.update S g).get? b = some o := fun hb e => (Heap.get?_update_other _ _ (Ne.symm hb)).trans e
  refine codeAny_builtin F.entry_min_loop ?_
  rw [Around.under_plainId F.plain_min_loop _]
  show wpAny _ A.in1 (seqItems? (.ref S) >>= _) _ _ s
  refine wpAny_bind (wpAny_seqItems hS rfl ?_)
  show wpAny _ A.in1 (tryCatch (pyNext (.ref I)) _ >>= _) _ _ s
  refine wpAny_bind (wpAny_tryCatch (WK.item 0 s _ _ (by decide) hst fun v h1 tk1 hP hst1 hk1 => ?_))
  obtain rfl : Value.ref a = v := by simpa using hP
  have hS1 := hk1 S _ (off hSI) hS
  show wpAny _ A.in1 (updateSeq S (fun _ => #[.ref a, .ref a]) >>= _) _ _ _
  refine wpAny_bind ?_
  refine wpAny_updateSeq hS1 rfl ?_
  rw [hname]
  have hst1' := WK.frame _ _ _ hst1 fun b hbf o e => upd (g := Obj.mapSeq fun _ => #[.ref a, .ref a]) (fun h : b = S => hSf (h ▸ hbf)) e
  have hS1' : (h1.update S (Obj.mapSeq fun _ => #[.ref a, .ref a])).get? S = some _ := Heap.get?_update_self _ hS1 rfl
  refine wpAny_pure ⟨plainId_quiet F.plain_min_loop _, ?_⟩
  refine codeAny_builtin F.entry_min_loop ?_
  rw [Around.under_plainId F.plain_min_loop _]
  show wpAny _ A.in1 (seqItems? (.ref S) >>= _) _ _ _
  refine wpAny_bind (wpAny_seqItems hS1' rfl ?_)
  show wpAny _ A.in1 (tryCatch (pyNext (.ref I)) _ >>= _) _ _ _
  refine wpAny_bind (wpAny_tryCatch (WK.item 1 { s with heap := h1.update S (Obj.mapSeq fun _ => #[.ref a, .ref a]), toks := tk1 } _ _ (by decide) hst1' fun v h2 tk2 hP2 hst2 hk2 => ?_))
  obtain rfl : Value.ref b = v := by simpa using hP2
  have hS2 := hk2 S _ (off hSI) hS1'
  have ha2 := hk2 a _ (off hIa) (upd hSa (hk1 a _ (off hIa) ha))
  have hb2 := hk2 b _ (off hIb) (upd hSb (hk1 b _ (off hIb) hb))
  show wpAny _ A.in1 (tryCatch (holding [.ref b, .ref b] (richCompare .Lt (.ref b) (.ref a) >>= _)) _ >>= _) _ _ _
  refine wpAny_bind (wpAny_tryCatch (wpAny_holding (wpAny_bind (rc_lt_list (by rw [units_in1]; exact hu) hb2 ha2 ?_))))
  refine wpAny_bind (wpAny_holding (wpAny_truthy_bool ?_))
  refine wpAny_bind (wpAny_letGo (wpAny_pure ?_))
  have last : ∀ (h3 : Heap) (r : Value) (c3 : Nat), St 2 h3 → h3.get? S = some { cls := .type "list", dict := none, data := .seq #[r, r] c3, slots := #[] } → (∀ b o, b ≠ I → b ≠ S → s.heap.get? b = some o → h3.get? b = some o) → r = .ref (if ltS (ys.map (·.1)) (xs.map (·.1)) then b else a) →
      codeAny (model prog w) A (.builtin "min.loop" ⟨[.ref I, .none, .ref S], []⟩) R { s with heap := h3, toks := tk2 } := by
    rintro h3 r c3 hst3 hS3 hk3 rfl
    refine codeAny_builtin F.entry_min_loop ?_
    rw [Around.under_plainId F.plain_min_loop _]
    show wpAny _ A.in1 (seqItems? (.ref S) >>= _) _ _ _
    refine wpAny_bind (wpAny_seqItems hS3 rfl ?_)
    show wpAny _ A.in1 (tryCatch (pyNext (.ref I)) _ >>= _) _ _ _
    refine wpAny_bind (wpAny_tryCatch (WK.done { s with heap := h3, toks := tk2 } _ _ hst3 fun h4 tk4 hk4 => ?_))
    show wpAny _ A.in1 (updateSeq S (fun _ => #[]) >>= _) _ _ _
    refine wpAny_bind ?_
    refine wpAny_updateSeq (hk4 S _ (off hSI) hS3) rfl (wpAny_bind (wpAny_letGo (wpAny_pure ?_)))
    exact hR _ _ fun b o h1 h2 e => upd h2 (hk4 b o (off h1) (hk3 b o h1 h2 e))
  have kp : ∀ b o, b ≠ I → b ≠ S → s.heap.get? b = some o → h2.get? b = some o := fun b o h1 h2 e => hk2 b o (off h1) (upd h2 (hk1 b o (off h1) e))
  cases hc : ltS (ys.map (·.1)) (xs.map (·.1)) with
  | true =>
    simp only [if_true]
    refine wpAny_bind ?_
    refine wpAny_updateSeq hS2 rfl (wpAny_bind (wpAny_letGo ?_))
    rw [hname]
    refine wpAny_pure ⟨plainId_quiet F.plain_min_loop _, last _ (.ref b) _ (WK.frame _ _ _ hst2 fun b hbf o e => upd (fun h : b = S => hSf (h ▸ hbf)) e) (Heap.get?_update_self _ hS2 rfl) (fun b o h1 h2 e => upd h2 (kp b o h1 h2 e)) ?_⟩
    rw [if_pos hc]
  | false =>
    simp only [Bool.false_eq_true, if_false]
    refine wpAny_bind (wpAny_letGo ?_)
    rw [hname]
    refine wpAny_pure ⟨plainId_quiet F.plain_min_loop _, last _ (.ref a) _ hst2 hS2 kp ?_⟩
    rw [if_neg (by rw [hc]; exact Bool.false_ne_true)]
theorem call_min2 {h₀ : Heap} {L l a b : Addr} {m : Str → Option Value} {news : List (Addr × Obj)} {xs ys : List (Str × Tok)} {n na nb : Nat} {Q : Value → Shared → Prop} (hh : A.handled = none) (hu : A.units + 1 < cLine) (Fm : Fr h₀ L s.heap m) (N : News h₀ L s.heap news)
    (hl : (l, W.listOf #[.ref a, .ref b] n) ∈ news) (ha : (a, W.listOf (strL xs).toArray na) ∈ news) (hb : (b, W.listOf (strL ys).toArray nb) ∈ news)
    (h : ∀ h' tk', Fr h₀ L h' m → News h₀ L h' news → Q (.ref (if ltS (ys.map (·.1)) (xs.map (·.1)) then b else a)) { s with heap := h', toks := tk' }) :
    wpAny (model prog w) A (call (.builtin "min") [.ref l]) Q E s := by
  have hname : (toString "min" ++ toString ".loop" : String) = "min.loop" := by decide
  have hL : s.heap.IsList l #[.ref a, .ref b] := ⟨_, (N _ hl).1, rfl, _, rfl⟩
  have lt : ∀ {p}, p ∈ news → @LT.lt Nat _ p.1 s.heap.objs.size := fun hp => Heap.lt_size (N _ hp).1
  refine call_function_tree F.kind_min F.plain_min F.entry_min (F.args_min1 _) ?_
  show wpAny _ A.in1 (Builtin.Builtins.bindParams "min" ["key", "default"] 0 ⟨[], []⟩ >>= _) _ _ s
  refine wpAny_bind (wpAny_of_eq (show Builtin.Builtins.bindParams "min" ["key", "default"] 0 ⟨[], []⟩ = pure [none, none] from rfl) ?_)
  refine wpAny_bind (wpAny_pure ?_)
  refine wpAny_bind (wpAny_pyIter_list hL ?_)
  refine wpAny_bind (wpAny_newObj_type ?_)
  rw [hname]
  have hls : l ≠ s.heap.objs.size := Nat.ne_of_lt (lt hl)
  have WK := Walks.list (prog := prog) (w := w) (A := A.in1) hh s.heap.objs.size l hls #[.ref a, .ref b]
  generalize hI : s.heap.objs.size = I at WK hls ⊢
  have ne1 : ∀ {p}, p ∈ news → p.1 ≠ I := fun hp => hI ▸ Nat.ne_of_lt (lt hp)
  have sz : (s.heap.push { cls := .type "list_iterator", data := .fields #[.ref l, .int 0 0] }).objs.size = I + 1 := by rw [Heap.size_push, hI]
  have ne2 : ∀ {p}, p ∈ news → p.1 ≠ I + 1 := fun hp => Nat.ne_of_lt (Nat.lt_succ_of_lt (hI ▸ lt hp))
  have up : ∀ {b o}, s.heap.get? b = some o → ((s.heap.push { cls := .type "list_iterator", data := .fields #[.ref l, .int 0 0] }).push { cls := .type "list", dict := none, data := .seq [].toArray, slots := #[] }).get? b = some o := fun e => Heap.get?_push_of_some _ (Heap.get?_push_of_some _ e)
  rw [show (s.heap.push { cls := .type "list_iterator", data := .fields #[.ref l, .int 0 0] }).objs.size = I + 1 from sz]
  refine wpAny_pure ⟨plainId_quiet F.plain_min_loop _, min2_loop (l := l) (c := 0) (xs := xs) (ys := ys) (na := na) (nb := nb) hh hu WK ?_ (ne1 ha) (ne1 hb) (ne2 ha) (ne2 hb) ?_ ?_ (up (N _ ha).1) (up (N _ hb).1) fun h' tk hk => ?_⟩
  · intro hm
    rcases List.mem_cons.mp hm with e | hm
    · exact Nat.succ_ne_self _ e
    · exact ne2 hl (List.mem_singleton.mp hm).symm
  · refine ⟨⟨_, Heap.get?_push_of_some _ (by rw [← hI]; exact Heap.get?_push_size _ rfl), rfl, rfl⟩, hL.at fun o e => up e⟩
  · rw [← sz]; exact Heap.get?_push_size _ rfl
  · have k : ∀ b o, s.heap.get? b = some o → h'.get? b = some o := fun b o e => hk b o (hI ▸ Nat.ne_of_lt (Heap.lt_size e)) (Nat.ne_of_lt (Nat.lt_succ_of_lt (hI ▸ Heap.lt_size e))) (up e)
    exact h h' tk (Fm.keeps k) (N.grown k)

theorem max2_loop {l a b I S : Addr} {xs ys : List (Str × Tok)} {na nb : Nat} {R : Result → Shared → Prop} {c : Nat} (hh : A.handled = none) (hu : A.units + 1 < cLine) (WK : Walks prog w A.in1 I fp [I] 2 (fun i v => (#[Value.ref a, .ref b] : Array Value)[i]? = some v) St) (hSf : S ∉ fp) (hIa : a ≠ I) (hIb : b ≠ I) (hSa : a ≠ S) (hSb : b ≠ S) (hst : St 0 s.heap)
    (hS : s.heap.get? S = some { cls := .type "list", dict := none, data := .seq #[] c, slots := #[] }) (ha : s.heap.get? a = some (W.listOf (strL xs).toArray na)) (hb : s.heap.get? b = some (W.listOf (strL ys).toArray nb))
    (hR : ∀ h' tk, (∀ b o, b ≠ I → b ≠ S → s.heap.get? b = some o → h'.get? b = some o) → R (.ok (.ret (.ref (if ltS (xs.map (·.1)) (ys.map (·.1)) then b else a)))) { s with heap := h', toks := tk }) :
    codeAny (model prog w) A (.builtin "max.loop" ⟨[.ref I, .none, .ref S], []⟩) R s := by
  have hname : (toString "max" ++ toString ".loop" : String) = "max.loop" := by decide
  have hSI : S ≠ I := fun e => hSf (by rw [e]; exact WK.sub _ (List.mem_singleton.mpr rfl))
  have off : ∀ {b : Addr}, b ≠ I → b ∉ [I] := fun h q => h (List.mem_singleton.mp q)
  have upd : ∀ {h : Heap} {g : Obj → Obj} {b : Addr} {o : Obj}, b ≠ S → h.get? b = some o → (h.update S g).get? b = some o := fun hb e => (Heap.get?_update_other _ _ (Ne.symm hb)).trans e
  refine codeAny_builtin F.entry_max_loop ?_
  rw [Around.under_plainId F.plain_max_loop _]
  show wpAny _ A.in1 (seqItems? (.ref S) >>= _) _ _ s
  refine wpAny_bind (wpAny_seqItems hS rfl ?_)
  show wpAny _ A.in1 (tryCatch (pyNext (.ref I)) _ >>= _) _ _ s
  refine wpAny_bind (wpAny_tryCatch (WK.item 0 s _ _ (by decide) hst fun v h1 tk1 hP hst1 hk1 => ?_))
  obtain rfl : Value.ref a = v := by simpa using hP
  have hS1 := hk1 S _ (off hSI) hS
  show wpAny _ A.in1 (updateSeq S (fun _ => #[.ref a, .ref a]) >>= _) _ _ _
  refine wpAny_bind ?_
  refine wpAny_updateSeq hS1 rfl ?_
  rw [hname]
  have hst1' := WK.frame _ _ _ hst1 fun b hbf o e => upd (g := Obj.mapSeq fun _ => #[.ref a, .ref a]) (fun h : b = S => hSf (h ▸ hbf)) e
  have hS1' : (h1.update S (Obj.mapSeq fun _ => #[.ref a, .ref a])).get? S = some _ := Heap.get?_update_self _ hS1 rfl
  refine wpAny_pure ⟨plainId_quiet F.plain_max_loop _, ?_⟩
  refine codeAny_builtin F.entry_max_loop ?_
  rw [Around.under_plainId F.plain_max_loop _]
  show wpAny _ A.in1 (seqItems? (.ref S) >>= _) _ _ _
  refine wpAny_bind (wpAny_seqItems hS1' rfl ?_)
  show wpAny _ A.in1 (tryCatch (pyNext (.ref I)) _ >>= _) _ _ _
  refine wpAny_bind (wpAny_tryCatch (WK.item 1 { s with heap := h1.update S (Obj.mapSeq fun _ => #[.ref a, .ref a]), toks := tk1 } _ _ (by decide) hst1' fun v h2 tk2 hP2 hst2 hk2 => ?_))
  obtain rfl : Value.ref b = v := by simpa using hP2
  have hS2 := hk2 S _ (off hSI) hS1'
  have ha2 := hk2 a _ (off hIa) (upd hSa (hk1 a _ (off hIa) ha))
  have hb2 := hk2 b _ (off hIb) (upd hSb (hk1 b _ (off hIb) hb))
  show wpAny _ A.in1 (tryCatch (holding [.ref b, .ref b] (richCompare .Gt (.ref b) (.ref a) >>= _)) _ >>= _) _ _ _
  refine wpAny_bind (wpAny_tryCatch (wpAny_holding (wpAny_bind (rc_gt_list (by rw [units_in1]; exact hu) hb2 ha2 ?_))))
  refine wpAny_bind (wpAny_holding (wpAny_truthy_bool ?_))
  refine wpAny_bind (wpAny_letGo (wpAny_pure ?_))
  have last : ∀ (h3 : Heap) (r : Value) (c3 : Nat), St 2 h3 → h3.get? S = some { cls := .type "list", dict := none, data := .seq #[r, r] c3, slots := #[] } → (∀ b o, b ≠ I → b ≠ S → s.heap.get? b = some o → h3.get? b = some o) → r = .ref (if ltS (xs.map (·.1)) (ys.map (·.1)) then b else a) →
      codeAny (model prog w) A (.builtin "max.loop" ⟨[.ref I, .none, .ref S], []⟩) R { s with heap := h3, toks := tk2 } := by
    rintro h3 r c3 hst3 hS3 hk3 rfl
    refine codeAny_builtin F.entry_max_loop ?_
    rw [Around.under_plainId F.plain_max_loop _]
    show wpAny _ A.in1 (seqItems? (.ref S) >>= _) _ _ _
    refine wpAny_bind (wpAny_seqItems hS3 rfl ?_)
    show wpAny _ A.in1 (tryCatch (pyNext (.ref I)) _ >>= _) _ _ _
    refine wpAny_bind (wpAny_tryCatch (WK.done { s with heap := h3, toks := tk2 } _ _ hst3 fun h4 tk4 hk4 => ?_))
    show wpAny _ A.in1 (updateSeq S (fun _ => #[]) >>= _) _ _ _
    refine wpAny_bind ?_
    refine wpAny_updateSeq (hk4 S _ (off hSI) hS3) rfl (wpAny_bind (wpAny_letGo (wpAny_pure ?_)))
    exact hR _ _ fun b o h1 h2 e => upd h2 (hk4 b o (off h1) (hk3 b o h1 h2 e))
  have kp : ∀ b o, b ≠ I → b ≠ S → s.heap.get? b = some o → h2.get? b = some o := fun b o h1 h2 e => hk2 b o (off h1) (upd h2 (hk1 b o (off h1) e))
  cases hc : ltS (xs.map (·.1)) (ys.map (·.1)) with
  | true =>
    simp only [if_true]
    refine wpAny_bind ?_
    refine wpAny_updateSeq hS2 rfl (wpAny_bind (wpAny_letGo ?_))
    rw [hname]
    refine wpAny_pure ⟨plainId_quiet F.plain_max_loop _, last _ (.ref b) _ (WK.frame _ _ _ hst2 fun b hbf o e => upd (fun h : b = S => hSf (h ▸ hbf)) e) (Heap.get?_update_self _ hS2 rfl) (fun b o h1 h2 e => upd h2 (kp b o h1 h2 e)) ?_⟩
    rw [if_pos hc]
  | false =>
    simp only [Bool.false_eq_true, if_false]
    refine wpAny_bind (wpAny_letGo ?_)
    rw [hname]
    refine wpAny_pure ⟨plainId_quiet F.plain_max_loop _, last _ (.ref a) _ hst2 hS2 kp ?_⟩
    rw [if_neg (by rw [hc]; exact Bool.false_ne_true)]
theorem call_max2 {h₀ : Heap} {L l a b : Addr} {m : Str → Option Value} {news : List (Addr × Obj)} {xs ys : List (Str × Tok)} {n na nb : Nat} {Q : Value → Shared → Prop} (hh : A.handled = none) (hu : A.units + 1 < cLine) (Fm : Fr h₀ L s.heap m) (N : News h₀ L s.heap news)
    (hl : (l, W.listOf #[.ref a, .ref b] n) ∈ news) (ha : (a, W.listOf (strL xs).toArray na) ∈ news) (hb : (b, W.listOf (strL ys).toArray nb) ∈ news)
    (h : ∀ h' tk', Fr h₀ L h' m → News h₀ L h' news → Q (.ref (if ltS (xs.map (·.1)) (ys.map (·.1)) then b else a)) { s with heap := h', toks := tk' }) :
    wpAny (model prog w) A (call (.builtin "max") [.ref l]) Q E s := by
  have hname : (toString "max" ++ toString ".loop" : String) = "max.loop" := by decide
  have hL : s.heap.IsList l #[.ref a, .ref b] := ⟨_, (N _ hl).1, rfl, _, rfl⟩
  have lt : ∀ {p}, p ∈ news → @LT.lt Nat _ p.1 s.heap.objs.size := fun hp => Heap.lt_size (N _ hp).1
  refine call_function_tree F.kind_max F.plain_max F.entry_max (F.args_max1 _) ?_
  show wpAny _ A.in1 (Builtin.Builtins.bindParams "max" ["key", "default"] 0 ⟨[], []⟩ >>= _) _ _ s
  refine wpAny_bind (wpAny_of_eq (show Builtin.Builtins.bindParams "max" ["key", "default"] 0 ⟨[], []⟩ = pure [none, none] from rfl) ?_)
  refine wpAny_bind (wpAny_pure ?_)
  refine wpAny_bind (wpAny_pyIter_list hL ?_)
  refine wpAny_bind (wpAny_newObj_type ?_)
  rw [hname]
  have hls : l ≠ s.heap.objs.size := Nat.ne_of_lt (lt hl)
  have WK := Walks.list (prog := prog) (w := w) (A := A.in1) hh s.heap.objs.size l hls #[.ref a, .ref b]
  generalize hI : s.heap.objs.size = I at WK hls ⊢
  have ne1 : ∀ {p}, p ∈ news → p.1 ≠ I := fun hp => hI ▸ Nat.ne_of_lt (lt hp)
  have sz : (s.heap.push { cls := .type "list_iterator", data := .fields #[.ref l, .int 0 0] }).objs.size = I + 1 := by rw [Heap.size_push, hI]
  have ne2 : ∀ {p}, p ∈ news → p.1 ≠ I + 1 := fun hp => Nat.ne_of_lt (Nat.lt_succ_of_lt (hI ▸ lt hp))
  have up : ∀ {b o}, s.heap.get? b = some o → ((s.heap.push { cls := .type "list_iterator", data := .fields #[.ref l, .int 0 0] }).push { cls := .type "list", dict := none, data := .seq [].toArray, slots := #[] }).get? b = some o := fun e => Heap.get?_push_of_some _ (Heap.get?_push_of_some _ e)
  rw [show (s.heap.push { cls := .type "list_iterator", data := .fields #[.ref l, .int 0 0] }).objs.size = I + 1 from sz]
  refine wpAny_pure ⟨plainId_quiet F.plain_max_loop _, max2_loop (l := l) (c := 0) (xs := xs) (ys := ys) (na := na) (nb := nb) hh hu WK ?_ (ne1 ha) (ne1 hb) (ne2 ha) (ne2 hb) ?_ ?_ (up (N _ ha).1) (up (N _ hb).1) fun h' tk hk => ?_⟩
  · intro hm
    rcases List.mem_cons.mp hm with e | hm
    · exact Nat.succ_ne_self _ e
    · exact ne2 hl (List.mem_singleton.mp hm).symm
  · refine ⟨⟨_, Heap.get?_push_of_some _ (by rw [← hI]; exact Heap.get?_push_size _ rfl), rfl, rfl⟩, hL.at fun o e => up e⟩
  · rw [← sz]; exact Heap.get?_push_size _ rfl
  · have k : ∀ b o, s.heap.get? b = some o → h'.get? b = some o := fun b o e => hk b o (hI ▸ Nat.ne_of_lt (Heap.lt_size e)) (Nat.ne_of_lt (Nat.lt_succ_of_lt (hI ▸ Heap.lt_size e))) (up e)
    exact h h' tk (Fm.keeps k) (N.grown k)
end
end Mine
end

section
open PySem PySem.W PyProof.Rows PyProof.Rows.LCg PyProof.Rows.LCt PySem.Calls
set_option maxRecDepth 100000
set_option maxHeartbeats 8000000
namespace Mine
/-- any source of a comprehension whose iterator is one new object -/
noncomputable def SrcW (prog : Program) (w : World) (A : Around) (h₀ : Heap) (L : Addr) (m : Str → Option Value) (Rest : (List (Addr × Obj) → Prop) → (Nat → Value → Prop) → Nat → List (Addr × Obj) → Shared → Prop) (xv : Value) (s₁ : Shared) : Prop :=
  ∃ (n : Nat) (P : Nat → Value → Prop) (news : List (Addr × Obj)) (S : List (Addr × Obj) → Prop) (oI : Obj) (fp : List Addr) (St : Nat → Heap → Prop), Fr h₀ L s₁.heap m ∧ News h₀ L s₁.heap news ∧ n ≤ sizeLine ∧ S news ∧
    (∀ (Q : Value → Shared → Prop) (E : Value → Shared → Prop), Q (.ref s₁.heap.objs.size) { s₁ with heap := s₁.heap.push oI } → wpAny (model prog w) A (pyIter xv) Q E s₁) ∧ Walks prog w A s₁.heap.objs.size fp [s₁.heap.objs.size] n P St ∧ (∀ i h, St i h → ∃ o, h.get? s₁.heap.objs.size = some o) ∧
    (∀ i h h' o nw, St i h → h.get? s₁.heap.objs.size = some o → h'.get? s₁.heap.objs.size = some o → (∀ b o, h₀.get? b = some o → h'.get? b = some o) → News h₀ L h' nw → S nw → St i h') ∧ St 0 (s₁.heap.push oI) ∧ (∀ b ∈ fp, b ≤ s₁.heap.objs.size) ∧ ∀ g, Rest S P n news { s₁ with heap := g }
noncomputable def SrcAtT (h₀ : Heap) (ax : Addr) (its : Array Value) (news : List (Addr × Obj)) : Prop := h₀.IsTuple ax its ∨ ∃ o, (ax, o) ∈ news ∧ o.cls = .type "tuple" ∧ ∃ n, o.data = .seq its n
theorem SrcAtT.tup {h₀ h : Heap} {L ax : Addr} {its : Array Value} {news : List (Addr × Obj)} (x : SrcAtT h₀ ax its news) (k : ∀ b o, h₀.get? b = some o → h.get? b = some o) (N : News h₀ L h news) : h.IsTuple ax its := by
  rcases x with ⟨o, e, r⟩ | ⟨o, hm, r⟩
  · exact ⟨o, k _ _ e, r⟩
  · exact ⟨o, (N _ hm).1, r⟩
section
variable {prog : Program} {w : World} {A : Around} {E : Value → Shared → Prop} {s s₁ : Shared} {h₀ : Heap} {L : Addr} {m : Str → Option Value} {env : Env} {Rest : (List (Addr × Obj) → Prop) → (Nat → Value → Prop) → Nat → List (Addr × Obj) → Shared → Prop}
theorem SrcW.tuple {ax : Addr} {its : Array Value} {news : List (Addr × Obj)} (hh : A.handled = none) (F : Fr h₀ L s₁.heap m) (N : News h₀ L s₁.heap news) (hS : SrcAtT h₀ ax its news) (hsz : its.size ≤ sizeLine)
    (h : ∀ g, Rest (SrcAtT h₀ ax its) (fun i v => its[i]? = some v) its.size news { s₁ with heap := g }) : SrcW prog w A h₀ L m Rest (.ref ax) s₁ := by
  have hl := hS.tup F.keep N
  have hlt : ax < s₁.heap.objs.size := by obtain ⟨_, e, _⟩ := hl; exact Heap.lt_size e
  refine ⟨its.size, _, news, SrcAtT h₀ ax its, { cls := .type "tuple_iterator", data := .fields #[.ref ax, .int 0 0] }, _, _, F, N, hsz, hS, fun Q E q => wpAny_pyIter_tuple hl q, Walks.tuple hh s₁.heap.objs.size ax (Nat.ne_of_lt hlt) its, fun i h st => ?_, ?_, ⟨⟨_, Heap.get?_push_size _ rfl, rfl, rfl⟩, hl.at fun o e => Heap.get?_push_of_some _ e⟩, fun b hb => ?_, h⟩
  · obtain ⟨o, e, _⟩ := st.1; exact ⟨o, e⟩
  · intro i h h' o nw st e e' k N S
    exact ⟨by obtain ⟨o', q, r⟩ := st.1; rw [e] at q; cases q; exact ⟨o, e', r⟩, S.tup k N⟩
  · rcases List.mem_cons.mp hb with rfl | hb
    · exact Nat.le_refl _
    · rw [List.mem_singleton.mp hb]; exact Nat.le_of_lt hlt
theorem SrcW.list {ax : Addr} {its : Array Value} {news : List (Addr × Obj)} (hh : A.handled = none) (F : Fr h₀ L s₁.heap m) (N : News h₀ L s₁.heap news) (hS : SrcAt h₀ ax its news) (hsz : its.size ≤ sizeLine)
    (h : ∀ g, Rest (SrcAt h₀ ax its) (fun i v => its[i]? = some v) its.size news { s₁ with heap := g }) : SrcW prog w A h₀ L m Rest (.ref ax) s₁ := by
  have hl := hS.list F.keep N
  have hlt : ax < s₁.heap.objs.size := by obtain ⟨_, e, _⟩ := hl; exact Heap.lt_size e
  refine ⟨its.size, _, news, SrcAt h₀ ax its, { cls := .type "list_iterator", data := .fields #[.ref ax, .int 0 0] }, _, _, F, N, hsz, hS, fun Q E q => wpAny_pyIter_list hl q, Walks.list hh s₁.heap.objs.size ax (Nat.ne_of_lt hlt) its, fun i h st => ?_, list_st, ⟨⟨_, Heap.get?_push_size _ rfl, rfl, rfl⟩, hl.push _⟩, fun b hb => ?_, h⟩
  · obtain ⟨o, e, _⟩ := st.1; exact ⟨o, e⟩
  · rcases List.mem_cons.mp hb with rfl | hb
    · exact Nat.le_refl _
    · rw [List.mem_singleton.mp hb]; exact Nat.le_of_lt hlt
theorem ListComp_W {elt iter : Expr} {x : Str} {px : Pos} {scope : Scope} {cl : List (Str × Addr)} {pos : Pos} {Q : Value → Shared → Prop} (_F₀ : Fr h₀ L s.heap m)
    (hclos : closureFor scope env = pure cl) (hcell : ∀ y ∈ scope.names, y.2 ≠ .cell) (hkind : scope.kind = .function)
    (hnames : ∀ y ∈ scope.names, y.2 = .local → scope.names.lookup y.1 = some .local) (hx : scope.names.lookup x = some .local)
    (h : wpAny (model prog w) A (eval iter env) (SrcW prog w A h₀ L m fun S P n news s₂ => CompRest prog w A h₀ L m env elt x scope cl s₂ S P (FinE h₀ L m s₂ Q) n 0 [] news) E s)
    (hs : ∀ x, foldedSetIterable iter env x = pure x := by intro _; rfl) :
    wpAny (model prog w) A (eval (.ListComp elt [⟨.Name x px, iter, [], 0⟩] scope pos) env) Q E s := by
  rw [eval_ListComp]
  refine wpAny_comprehension_free (use := none) rfl hs hclos hkind hnames (wpAny_mono h (fun xv s₁ h₁ => ?_) fun _ _ e => e)
  obtain ⟨n, P, news, S, oI, fp, St, F, N, hsz, hS, hit, W, hIo, hSt, hst, hfp, R⟩ := h₁
  refine hit _ _ ?_
  have up : ∀ b o, s₁.heap.get? b = some o → (s₁.heap.push oI).get? b = some o := fun b o e => Heap.get?_push_of_some _ e
  refine block_U W hsz hIo hSt hcell hkind hx hst (fun b hb => ?_) (F.keeps up) (N.grown up) (Nat.ne_of_lt F.ns.lt) (next_is_new F) (fun p hp => Nat.ne_of_lt (Heap.lt_size (N p hp).1)) hS (R _) ?_
  · show b < (s₁.heap.push _).objs.size
    rw [Heap.size_push]; exact Nat.lt_succ_of_le (hfp b hb)
  · intro D C h tk m' ys news' F' N' o1 hn hC₀ hD₀ hCL hDL hCD offC fin
    refine ⟨m', hn, fun h'' hs'' => fin D h'' tk (F'.change hs'' hCL hC₀) (fun p hp => ?_) o1⟩
    refine ⟨hs''.extBut _ _ ?_ (N' p hp).1, (N' p hp).2⟩
    rcases List.mem_cons.mp hp with rfl | hp
    · exact Ne.symm hCD
    · exact offC p hp
theorem ListComp_WT {ct elt iter : Expr} {x : Str} {px : Pos} {scope : Scope} {cl : List (Str × Addr)} {pos : Pos} {Q : Value → Shared → Prop} (_F₀ : Fr h₀ L s.heap m)
    (hclos : closureFor scope env = pure cl) (hcell : ∀ y ∈ scope.names, y.2 ≠ .cell) (hkind : scope.kind = .function)
    (hnames : ∀ y ∈ scope.names, y.2 = .local → scope.names.lookup y.1 = some .local) (hx : scope.names.lookup x = some .local)
    (h : wpAny (model prog w) A (eval iter env) (SrcW prog w A h₀ L m fun S P n news s₂ => CompRestT prog w A h₀ L m env ct elt x scope cl s₂ S P (FinE h₀ L m s₂ Q) n 0 [] news) E s)
    (hs : ∀ x, foldedSetIterable iter env x = pure x := by intro _; rfl) :
    wpAny (model prog w) A (eval (.ListComp elt [⟨.Name x px, iter, [ct], 0⟩] scope pos) env) Q E s := by
  rw [eval_ListComp]
  refine wpAny_comprehension_free (use := none) rfl hs hclos hkind hnames (wpAny_mono h (fun xv s₁ h₁ => ?_) fun _ _ e => e)
  obtain ⟨n, P, news, S, oI, fp, St, F, N, hsz, hS, hit, W, hIo, hSt, hst, hfp, R⟩ := h₁
  refine hit _ _ ?_
  have up : ∀ b o, s₁.heap.get? b = some o → (s₁.heap.push oI).get? b = some o := fun b o e => Heap.get?_push_of_some _ e
  refine block_T W hsz hIo hSt hcell hkind hx hst (fun b hb => ?_) (F.keeps up) (N.grown up) (Nat.ne_of_lt F.ns.lt) (next_is_new F) (fun p hp => Nat.ne_of_lt (Heap.lt_size (N p hp).1)) hS (R _) ?_
  · show b < (s₁.heap.push _).objs.size
    rw [Heap.size_push]; exact Nat.lt_succ_of_le (hfp b hb)
  · intro D C h tk m' ys news' F' N' o1 hn hC₀ hD₀ hCL hDL hCD offC fin
    refine ⟨m', hn, fun h'' hs'' => fin D h'' tk (F'.change hs'' hCL hC₀) (fun p hp => ?_) o1⟩
    refine ⟨hs''.extBut _ _ ?_ (N' p hp).1, (N' p hp).2⟩
    rcases List.mem_cons.mp hp with rfl | hp
    · exact Ne.symm hCD
    · exact offC p hp
theorem Assign_ListComp_W {elt iter : Expr} {x y : Str} {px py : Pos} {scope : Scope} {cl : List (Str × Addr)} {pos spos : Pos} {Q : Flow → Shared → Prop} (_F₀ : Fr h₀ L s.heap m) (hLe : env.locals = L)
    (hsw : swapsWith (.ListComp elt [⟨.Name x px, iter, [], 0⟩] scope pos) (some (.Name y py)) spos.line env = pure true)
    (hclos : closureFor scope env = pure cl) (hcell : ∀ z ∈ scope.names, z.2 ≠ .cell) (hkind : scope.kind = .function)
    (hnames : ∀ z ∈ scope.names, z.2 = .local → scope.names.lookup z.1 = some .local) (hx : scope.names.lookup x = some .local)
    (hy : env.kindOf y = some .local) (hp : (env.scope.kind == .class || (env.scope.kind == .module && env.locals != env.globals)) = false)
    (h : wpAny (model prog w) A (eval iter env) (SrcW prog w A h₀ L m fun S P n news s₂ => CompRest prog w A h₀ L m env elt x scope cl s₂ S P (FinA h₀ L m s₂ y Q) n 0 [] news) E s)
    (hs : ∀ x, foldedSetIterable iter env x = pure x := by intro _; rfl) :
    wpAny (model prog w) A (exec (.Assign [.Name y py] (.ListComp elt [⟨.Name x px, iter, [], 0⟩] scope pos) spos) env) Q E s := by
  subst hLe
  rw [exec_Assign_Name_used _ _ _ _ hsw]
  refine wpAny_bind (wpAny_standAt (wpAny_bind ?_))
  show wpAny _ A (do let _ ← comprehension (.ListComp elt [⟨.Name x px, iter, [], 0⟩] scope pos) scope env _ (newList []) false (eval iter env) (some (assign (.Name y py) env))) _ _ s
  refine wpAny_bind (wpAny_mono (wpAny_comprehension_free (use := some (assign (.Name y py) env)) (Q := fun _ s' => Q .next s') rfl hs hclos hkind hnames
    (wpAny_mono h (fun xv s₁ h₁ => ?_) fun _ _ e => e)) (fun _ s' hq => wpAny_pure (wpAny_pure hq)) fun _ _ e => e)
  obtain ⟨n, P, news, S, oI, fp, St, F, N, hsz, hS, hit, W, hIo, hSt, hst, hfp, R⟩ := h₁
  refine hit _ _ ?_
  have up : ∀ b o, s₁.heap.get? b = some o → (s₁.heap.push oI).get? b = some o := fun b o e => Heap.get?_push_of_some _ e
  refine block_U W hsz hIo hSt hcell hkind hx hst (fun b hb => ?_) (F.keeps up) (N.grown up) (Nat.ne_of_lt F.ns.lt) (next_is_new F) (fun p hp => Nat.ne_of_lt (Heap.lt_size (N p hp).1)) hS (R _) ?_
  · show b < (s₁.heap.push _).objs.size
    rw [Heap.size_push]; exact Nat.lt_succ_of_le (hfp b hb)
  · intro D C h' tk m' ys news' F' N' o1 hn hC₀ hD₀ hCL hDL hCD offC fin
    show wpAny _ A (assign (.Name y py) env (.ref D)) _ _ _
    refine wpAny_assign_Name (wpAny_storeName_local hy F'.ns (fun h₂ hn₂ hs₂ => ?_) hp)
    have hL₀ : h₀.get? env.locals = none := Heap.get?_none_of_le F'.above
    have F₂ : Fr h₀ env.locals h₂ (fun z => if z = y then some (.ref D) else m z) := ⟨hn₂, fun b o e => hs₂.extBut b o (fun q => by rw [q, hL₀] at e; cases e) (F'.keep b o e), F'.above⟩
    refine ⟨m', hn.sameBut hs₂ hCL, fun h'' hs'' => fin D h'' _ (F₂.change hs'' hCL hC₀) (fun p hp => ?_) o1⟩
    have z : h₂.get? p.1 = some p.2 := hs₂.extBut _ _ (N' p hp).2.1 (N' p hp).1
    refine ⟨hs''.extBut _ _ ?_ z, (N' p hp).2⟩
    rcases List.mem_cons.mp hp with rfl | hp
    · exact Ne.symm hCD
    · exact offC p hp
end
theorem SrcAtT.cons {h₀ : Heap} {ax : Addr} {its : Array Value} {news : List (Addr × Obj)} {p : Addr × Obj} (x : SrcAtT h₀ ax its news) : SrcAtT h₀ ax its (p :: news) := x.imp id fun ⟨o, hm, r⟩ => ⟨o, .tail _ hm, r⟩
theorem comp_push {h₀ : Heap} {L I C D a : Addr} {m : Str → Option Value} {s₁ : Shared} {oI oC oD o : Obj} {S : List (Addr × Obj) → Prop} {rest : Value → List (Addr × Obj) → Prop} {y : Value} {h' : Heap} {tk : Nat} {news : List (Addr × Obj)}
    (F : Fr h₀ L h' m) (N : News h₀ L h' ((a, o) :: (I, oI) :: (C, oC) :: (D, oD) :: news)) (hlt : ∀ p ∈ (I, oI) :: (C, oC) :: (D, oD) :: news, p.1 < a) (off : Off3 I C D news) (hS : S ((a, o) :: news)) (r : rest y ((a, o) :: news)) :
    CompEnd h₀ L m s₁ I oI C oC D oD S rest y { s₁ with heap := h', toks := tk } := by
  refine CompEnd.intro F N ((a, o) :: news) (fun p hp => ?_) ⟨⟨?_, ?_, ?_⟩, off⟩ hS r
  · simp only [List.mem_cons] at hp ⊢
    rcases hp with h | h | h | h | h <;> simp [h]
  · exact Nat.ne_of_gt (hlt _ (.head _))
  · exact Nat.ne_of_gt (hlt _ (.tail _ (.head _)))
  · exact Nat.ne_of_gt (hlt _ (.tail _ (.tail _ (.head _))))
theorem comp_same {h₀ : Heap} {L I C D : Addr} {m : Str → Option Value} {s₁ : Shared} {oI oC oD : Obj} {S : List (Addr × Obj) → Prop} {rest : Value → List (Addr × Obj) → Prop} {y : Value} {h' : Heap} {tk : Nat} {news : List (Addr × Obj)}
    (F : Fr h₀ L h' m) (N : News h₀ L h' ((I, oI) :: (C, oC) :: (D, oD) :: news)) (off : Off3 I C D news) (hS : S news) (r : rest y news) :
    CompEnd h₀ L m s₁ I oI C oC D oD S rest y { s₁ with heap := h', toks := tk } := CompEnd.intro F N news (fun _ hp => hp) off hS r
end Mine
end

section
open PySem PySem.W PyProof.Rows PyProof.Rows.LCg PyProof.Rows.LCt PySem.Calls
set_option maxRecDepth 100000
set_option maxHeartbeats 8000000
namespace Mine
noncomputable def CompEndG (h₀ : Heap) (L : Addr) (m : Str → Option Value) (s₁ : Shared) (I : Addr) (oI : Obj) (C : Addr) (oC : Obj) (D : Addr) (S : List (Addr × Obj) → Prop) (rest : Obj → List (Addr × Obj) → Prop) (s₂ : Shared) : Prop :=
  ∃ h' tk oD' news', s₂ = { s₁ with heap := h', toks := tk } ∧ Fr h₀ L h' m ∧ News h₀ L h' ((I, oI) :: (C, oC) :: (D, oD') :: news') ∧ Off3 I C D news' ∧ S news' ∧ rest oD' news'
theorem compG_end {h₀ : Heap} {L I C D : Addr} {m : Str → Option Value} {s₁ : Shared} {oI oC oD' : Obj} {S : List (Addr × Obj) → Prop} {rest : Obj → List (Addr × Obj) → Prop} {h' : Heap} {tk : Nat} {news' : List (Addr × Obj)}
    (F : Fr h₀ L h' m) (N : News h₀ L h' ((I, oI) :: (C, oC) :: (D, oD') :: news')) (off : Off3 I C D news') (hS : S news') (r : rest oD' news') :
    CompEndG h₀ L m s₁ I oI C oC D S rest { s₁ with heap := h', toks := tk } := ⟨h', tk, oD', news', rfl, F, N, off, hS, r⟩
/-- the turns of a comprehension that emits by `em C D` -/
noncomputable def CompRestG (prog : Program) (w : World) (A : Around) (h₀ : Heap) (L : Addr) (m : Str → Option Value) (x : Str) (em : Addr → Addr → (Shared → Prop) → (Value → Shared → Prop) → Shared → Prop) (s : Shared) (S : List (Addr × Obj) → Prop) (P : Nat → Value → Prop)
    (Fin : Obj → List (Addr × Obj) → Prop) : Nat → Nat → Obj → List (Addr × Obj) → Prop
  | 0, _, oD, news => Fin oD news
  | k + 1, i, oD, news => ∀ v I oI C oC D m₂ h tk (E' : Value → Shared → Prop), P i v → NsObj oC m₂ → m₂ x = some v → Fr h₀ L h m → News h₀ L h ((I, oI) :: (C, oC) :: (D, oD) :: news) → Off3 I C D news → ((@Ne Nat I C) ∧ (@Ne Nat I D) ∧ (@Ne Nat C D)) →
      em C D (CompEndG h₀ L m { s with heap := h, toks := tk } I oI C oC D S (fun oD' news' => CompRestG prog w A h₀ L m x em s S P Fin k (i + 1) oD' news')) E' { s with heap := h, toks := tk }
section
variable {prog : Program} {w : World} {A : Around} {E : Value → Shared → Prop} {s : Shared} {h₀ : Heap} {L : Addr} {m : Str → Option Value} {env : Env}
theorem block_G {e : Expr} {x : Str} {px : Pos} {scope : Scope} {cl : List (Str × Addr)} {s₂ : Shared} {I : Addr} {fp : List Addr} {n : Nat} {P : Nat → Value → Prop} {St : Nat → Heap → Prop} {S : List (Addr × Obj) → Prop} {news : List (Addr × Obj)}
    {Fin : Obj → List (Addr × Obj) → Prop} {RR : Value → Addr → Result → Shared → Prop} {newAcc : Sem Value} {oD₀ : Obj} {em : Addr → Addr → (Shared → Prop) → (Value → Shared → Prop) → Shared → Prop} (hmono : ∀ C D (Q Q' : Shared → Prop) E s, (∀ s, Q s → Q' s) → em C D Q E s → em C D Q' E s) (hfree : oD₀.isFreed = false)
    (hnew : ∀ (Q : Value → Shared → Prop), Q (.ref s₂.heap.objs.size) { s₂ with heap := s₂.heap.push oD₀ } → wpAny (model prog w) A newAcc Q E s₂)
    (hloop : ∀ (C D : Addr) (Inv : Nat → Shared → Prop) (R : Result → Shared → Prop) (s : Shared) (k : Nat),
      (∀ n s, Inv n s → ∀ E₁ : Value → Shared → Prop, wpAny (model prog w) A (pyNext (.ref I)) (fun r s₁ => match r with
        | none => R (.ok .next) s₁
        | some v => wpAny (model prog w) A (assign (.Name x px) (compEnvC scope cl C env) v) (fun _ s₂ => em C D (fun s₅ => ∃ m, m < n ∧ Inv m s₅) E₁ s₂) E₁ s₁) E₁ s) →
      Inv k s → codeAny (model prog w) A (.compLoop e 0 (.ref I) (.ref D) (compEnvC scope cl C env)) R s)
    (hstart : ∀ (C D : Addr) (R : Result → Shared → Prop) (s : Shared), codeAny (model prog w) A (.compLoop e 0 (.ref I) (.ref D) (compEnvC scope cl C env)) R s →
      (∀ E₁ : Value → Shared → Prop, wpAny (model prog w) A (pyIter (.ref I)) (fun it' s' => codeAny (model prog w) A (.compLoop e 0 it' (.ref D) (compEnvC scope cl C env)) R s') E₁ s) → codeAny (model prog w) A (.compStart e 0 (.ref I) (.ref D) (compEnvC scope cl C env)) R s)
    (W : Walks prog w A I fp [I] n P St) (hIo : ∀ i h, St i h → ∃ o, h.get? I = some o)
    (hSt : ∀ i h h' o nw, St i h → h.get? I = some o → h'.get? I = some o → (∀ b o, h₀.get? b = some o → h'.get? b = some o) → News h₀ L h' nw → S nw → St i h')
    (hcell : ∀ y ∈ scope.names, y.2 ≠ .cell) (hkind : scope.kind = .function) (hx : scope.names.lookup x = some .local) (hst : St 0 s₂.heap) (hfp : ∀ b ∈ fp, b < s₂.heap.objs.size)
    (F : Fr h₀ L s₂.heap m) (N : News h₀ L s₂.heap news) (hIL : L ≠ I) (hI₀ : h₀.get? I = none) (off : ∀ p ∈ news, p.1 ≠ I) (hS : S news)
    (R : CompRestG prog w A h₀ L m x em s₂ S P Fin n 0 oD₀ news)
    (hRR : ∀ D C h tk m' oD news', @LT.lt Nat _ L D → Fr h₀ L h m → News h₀ L h ((D, oD) :: news') → Off1 D news' → h.Ns C m' → h₀.get? C = none → h₀.get? D = none → C ≠ L → D ≠ L → C ≠ D → (∀ p ∈ news', p.1 ≠ C) → Fin oD news' → RR (.ref D) C (.ok .next) { s₂ with heap := h, toks := tk }) :
    wpAny (model prog w) A newAcc (fun acc s₃ => wpAny (model prog w) A (newFunctionEnv scope env.globals cl [] env.qual none .none (some env)) (fun cenv s₄ =>
      codeAny (model prog w) A (.compStart e 0 (.ref I) acc { cenv with scope := relabel scope env }) (RR acc cenv.locals) s₄) E s₃) E s₂ := by
  refine hnew _ (wpAny_newFunctionEnv hcell (by intro y hy; simp at hy) (fun h₁ hns₁ hsb₁ => ?_) hkind)
  dsimp only at hns₁ hsb₁ ⊢
  generalize hH2 : s₂.heap.push oD₀ = H2 at hns₁ hsb₁ ⊢
  have hC : H2.objs.size = s₂.heap.objs.size + 1 := by rw [← hH2, Heap.size_push]
  have hDC : s₂.heap.objs.size ≠ H2.objs.size := by rw [hC]; exact Nat.ne_of_lt (Nat.lt_succ_self _)
  have below : ∀ b, b < s₂.heap.objs.size → b ≠ H2.objs.size ∧ b ≠ s₂.heap.objs.size := fun b hb => ⟨by rw [hC]; exact Nat.ne_of_lt (Nat.lt_succ_of_lt hb), Nat.ne_of_lt hb⟩
  have hDf : s₂.heap.objs.size ∉ fp := fun hm => Nat.lt_irrefl _ (hfp _ hm)
  have hCf : H2.objs.size ∉ fp := fun hm => by have := hfp _ hm; rw [hC] at this; exact Nat.lt_irrefl _ (Nat.lt_of_succ_lt this)
  have hIf : I ∈ fp := W.sub I (List.mem_singleton.mpr rfl)
  have hIlt : I < s₂.heap.objs.size := hfp I hIf
  have old : ∀ b o, s₂.heap.get? b = some o → h₁.get? b = some o := fun b o e => hsb₁.extBut b o (below b (Heap.lt_size e)).1 (Heap.get?_push_of_some _ (hH2 ▸ Heap.get?_push_of_some _ e))
  have hacc : h₁.get? s₂.heap.objs.size = some oD₀ := hsb₁.extBut _ _ hDC (Heap.get?_push_of_some _ (hH2 ▸ Heap.get?_push_size _ hfree))
  have hst₁ : St 0 h₁ := W.frame _ _ _ hst fun b _ o e => old b o e
  have fresh : ∀ a, s₂.heap.objs.size ≤ a → s₂.heap.get? a = none := fun a ha => by
    cases e : s₂.heap.get? a with
    | none => rfl
    | some o' => exact absurd (Heap.lt_size e) (Nat.not_lt.mpr ha)
  have fresh₀ : ∀ a, s₂.heap.objs.size ≤ a → h₀.get? a = none := fun a ha => by
    cases e : h₀.get? a with
    | none => rfl
    | some o' => have := F.keep a o' e; rw [fresh a ha] at this; cases this
  have hD₀ : h₀.get? s₂.heap.objs.size = none := fresh₀ _ (Nat.le_refl _)
  have hC₀ : h₀.get? H2.objs.size = none := fresh₀ _ (by rw [hC]; exact Nat.le_succ _)
  have hLlt : L < s₂.heap.objs.size := F.ns.lt
  have hDL : s₂.heap.objs.size ≠ L := Ne.symm (below L hLlt).2
  have hCL : H2.objs.size ≠ L := Ne.symm (below L hLlt).1
  have hCI : I ≠ H2.objs.size := (below I hIlt).1
  have hDI : I ≠ s₂.heap.objs.size := (below I hIlt).2
  have off₀ : Off3 I H2.objs.size s₂.heap.objs.size news := Off3.of fun p hp => ⟨off p hp, (below _ (Heap.lt_size (N p hp).1)).1, (below _ (Heap.lt_size (N p hp).1)).2⟩
  have loop : ∀ s₃ : Shared, s₃ = { s₂ with heap := h₁, toks := s₂.toks + ([] : List (Str × Value)).length } →
      codeAny (model prog w) A (.compLoop e 0 (.ref I) (.ref s₂.heap.objs.size) (compEnvC scope cl H2.objs.size env))
        (RR (.ref s₂.heap.objs.size) H2.objs.size) s₃ := by
    rintro s₃ rfl
    refine hloop H2.objs.size s₂.heap.objs.size
      (fun k s' => ∃ h' tk i oD m' news', s' = { s₂ with heap := h', toks := tk } ∧ i ≤ n ∧ k = n + 1 - i ∧ St i h' ∧ Fr h₀ L h' m ∧ h'.Ns H2.objs.size m' ∧ News h₀ L h' ((s₂.heap.objs.size, oD) :: news') ∧
        Off3 I H2.objs.size s₂.heap.objs.size news' ∧ S news' ∧ CompRestG prog w A h₀ L m x em s₂ S P Fin (n - i) i oD news') _ _ (n + 1) ?_
      ⟨h₁, _, 0, oD₀, _, news, rfl, Nat.zero_le _, rfl, hst₁, F.keeps old, hns₁, fun p hp => ?_, off₀, hS, R⟩
    · rintro k s' ⟨h', tk, i, oD, m', news', rfl, hi, rfl, hst', F', hn', N', off', hS', R'⟩ E₁
      by_cases hlt : i < n
      · obtain ⟨j, hj⟩ : ∃ j, n - i = j + 1 := ⟨n - i - 1, by lia⟩
        rw [hj] at R'
        refine W.item i _ _ _ hlt hst' fun v h₂ tk₂ hPv hst₂ hk₂ => ?_
        refine wpAny_assign_Name (wpAny_storeName_local (lookup_relabel_local hx) (hn'.at' fun o e => hk₂ _ o (by simpa using Ne.symm hCI) e) (fun h₃ hn₃ hs₃ => ?_) (by simp [compEnvC, relabel, hkind]))
        have hst₃ : St (i + 1) h₃ := W.frame _ _ _ hst₂ fun b hb o e => hs₃.extBut b o (fun q => hCf (by have q' : b = H2.objs.size := q; rw [← q']; exact hb)) e
        obtain ⟨oI, heI⟩ := hIo _ _ hst₃
        obtain ⟨oC, heC, hoC⟩ := ns_obj hn₃
        have F₃ : Fr h₀ L h₃ m := (fr_but F' hk₂ hIL hI₀).change hs₃ hCL hC₀
        have off3 := off'.mem
        have N₂ : News h₀ L h₂ ((s₂.heap.objs.size, oD) :: news') := news_but N' hk₂ fun p hp => by
          rcases List.mem_cons.mp hp with rfl | hp
          · exact Ne.symm hDI
          · exact (off3 p hp).1
        have N₃ : News h₀ L h₃ ((I, oI) :: (H2.objs.size, oC) :: (s₂.heap.objs.size, oD) :: news') := fun p hp => by
          rcases List.mem_cons.mp hp with rfl | hp
          · exact ⟨heI, Ne.symm hIL, hI₀⟩
          · rcases List.mem_cons.mp hp with rfl | hp
            · exact ⟨heC, hCL, hC₀⟩
            · have z := N₂ p hp
              refine ⟨hs₃.extBut _ _ ?_ z.1, z.2⟩
              rcases List.mem_cons.mp hp with rfl | hp
              · exact hDC
              · exact (off3 p hp).2.1
        refine hmono _ _ _ _ _ _ (fun s₄ h₄ => ?_) (R' v I oI H2.objs.size oC s₂.heap.objs.size _ h₃ _ _ hPv hoC (by simp) F₃ N₃ off' ⟨hCI, hDI, Ne.symm hDC⟩)
        obtain ⟨h₄, tk₄, oD₄, news₄, rfl, F₄, N₄, off₄, hS₄, R₄⟩ := h₄
        have zI := (N₄ (I, oI) List.mem_cons_self).1
        have zC := (N₄ (H2.objs.size, oC) (List.mem_cons_of_mem _ List.mem_cons_self)).1
        have N₄' : News h₀ L h₄ news₄ := fun p hp => N₄ p (List.mem_cons_of_mem _ (List.mem_cons_of_mem _ (List.mem_cons_of_mem _ hp)))
        have hst₄ : St (i + 1) h₄ := hSt _ _ _ _ _ hst₃ heI zI F₄.keep N₄' hS₄
        refine ⟨n + 1 - (i + 1), by lia, h₄, tk₄, i + 1, oD₄, _, news₄, rfl, hlt, rfl, hst₄, F₄, hoC.ns zC, fun p hp => N₄ p (List.mem_cons_of_mem _ (List.mem_cons_of_mem _ hp)), off₄, hS₄, ?_⟩
        rw [show n - (i + 1) = j by lia]
        exact R₄
      · obtain rfl : i = n := Nat.le_antisymm hi (Nat.not_lt.mp hlt)
        rw [Nat.sub_self] at R'
        refine W.done _ _ _ hst' fun h₂ tk₂ hk₂ => ?_
        have off3 := off'.mem
        exact hRR _ _ h₂ tk₂ _ oD news' hLlt (fr_but F' hk₂ hIL hI₀) (news_but N' hk₂ fun p hp => by
          rcases List.mem_cons.mp hp with rfl | hp
          · exact Ne.symm hDI
          · exact (off3 p hp).1) off'.one (hn'.at' fun o e => hk₂ _ o (by simpa using Ne.symm hCI) e) hC₀ hD₀ hCL hDL (Ne.symm hDC) (fun p hp => (off3 p hp).2.1) R'
    · rcases List.mem_cons.mp hp with rfl | hp
      · exact ⟨hacc, hDL, hD₀⟩
      · exact ⟨old _ _ (N p hp).1, (N p hp).2⟩
  exact hstart _ _ _ _ (loop _ rfl) fun E₁ => W.self 0 _ _ _ hst₁ (loop _ rfl)
/-- what a turn of {k: v for x in ..} does -/
noncomputable def emD (prog : Program) (w : World) (A : Around) (kx vx : Expr) (scope : Scope) (cl : List (Str × Addr)) (env : Env) (C D : Addr) (Q : Shared → Prop) (E : Value → Shared → Prop) (s : Shared) : Prop :=
  wpAny (model prog w) A (eval kx (compEnvC scope cl C env)) (fun kv s₄ => wpAny (model prog w) A (eval vx (compEnvC scope cl C env)) (fun vv s₅ => wpAny (model prog w) A (dictSet D kv vv) (fun _ s₆ => Q s₆) E s₅) E s₄) E s
theorem emD_mono {kx vx : Expr} {scope : Scope} {cl : List (Str × Addr)} : ∀ C D (Q Q' : Shared → Prop) E s, (∀ s, Q s → Q' s) → emD prog w A kx vx scope cl env C D Q E s → emD prog w A kx vx scope cl env C D Q' E s :=
  fun _ _ _ _ _ _ h q => wpAny_mono q (fun _ _ q => wpAny_mono q (fun _ _ q => wpAny_mono q (fun _ s x => h s x) fun _ _ x => x) fun _ _ x => x) fun _ _ x => x
noncomputable def FinO (h₀ : Heap) (L : Addr) (m : Str → Option Value) (s : Shared) (Q : Value → Shared → Prop) (oD : Obj) (news : List (Addr × Obj)) : Prop :=
  ∀ D h tk, @LT.lt Nat _ L D → Fr h₀ L h m → News h₀ L h ((D, oD) :: news) → Off1 D news → Q (.ref D) { s with heap := h, toks := tk }
theorem eval_DictComp' (kx vx gens scope pos) : eval (.DictComp kx vx gens scope pos) env = comprehension (.DictComp kx vx gens scope pos) scope env (firstIterPos gens pos) newDict (firstAsync gens) (firstIter gens env) := arm_eval_DictComp ..
theorem DictComp_W {kx vx iter : Expr} {x : Str} {px : Pos} {scope : Scope} {cl : List (Str × Addr)} {pos : Pos} {Q : Value → Shared → Prop} (_F₀ : Fr h₀ L s.heap m)
    (hclos : closureFor scope env = pure cl) (hcell : ∀ y ∈ scope.names, y.2 ≠ .cell) (hkind : scope.kind = .function)
    (hnames : ∀ y ∈ scope.names, y.2 = .local → scope.names.lookup y.1 = some .local) (hx : scope.names.lookup x = some .local)
    (h : wpAny (model prog w) A (eval iter env) (SrcW prog w A h₀ L m fun S P n news s₂ => CompRestG prog w A h₀ L m x (emD prog w A kx vx scope cl env) s₂ S P (FinO h₀ L m s₂ Q) n 0 (dictOf [] 0) news) E s)
    (hs : ∀ x, foldedSetIterable iter env x = pure x := by intro _; rfl) :
    wpAny (model prog w) A (eval (.DictComp kx vx [⟨.Name x px, iter, [], 0⟩] scope pos) env) Q E s := by
  rw [eval_DictComp']
  refine wpAny_comprehension_free (use := none) rfl hs hclos hkind hnames (wpAny_mono h (fun xv s₁ h₁ => ?_) fun _ _ e => e)
  obtain ⟨n, P, news, S, oI, fp, St, F, N, hsz, hS, hit, W, hIo, hSt, hst, hfp, R⟩ := h₁
  refine hit _ _ ?_
  have up : ∀ b o, s₁.heap.get? b = some o → (s₁.heap.push oI).get? b = some o := fun b o e => Heap.get?_push_of_some _ e
  refine block_G (px := px) (em := emD prog w A kx vx scope cl env) (oD₀ := dictOf [] 0) emD_mono rfl (fun Q q => ?_) ?_ ?_ W hIo hSt hcell hkind hx hst (fun b hb => ?_) (F.keeps up) (N.grown up) (Nat.ne_of_lt F.ns.lt) (next_is_new F) (fun p hp => Nat.ne_of_lt (Heap.lt_size (N p hp).1)) hS (R _) ?_
  · exact wpAny_newObj_type q
  · intro C D Inv R s k turn hk
    refine codeAny_compLoop_testsD Inv (fun n s hI => ?_) k hk
    refine wpAny_mono (turn n s hI _) (fun r s₁ h₁ => ?_) fun _ _ e => e
    cases r with
    | none => exact h₁
    | some v => exact wpAny_mono h₁ (fun _ s₂ h₂ => wpAny_pure (by simp only [if_true]; exact h₂)) fun _ _ e => e
  · intro C D R s h0 h1
    exact codeAny_compStart_dict h0 (h1 _)
  · show b < (s₁.heap.push _).objs.size
    rw [Heap.size_push]; exact Nat.lt_succ_of_le (hfp b hb)
  · intro D C h tk m' oD news' hLD F' N' o1 hn hC₀ hD₀ hCL hDL hCD offC fin
    refine ⟨m', hn, fun h'' hs'' => fin D h'' tk hLD (F'.change hs'' hCL hC₀) (fun p hp => ?_) o1⟩
    refine ⟨hs''.extBut _ _ ?_ (N' p hp).1, (N' p hp).2⟩
    rcases List.mem_cons.mp hp with rfl | hp
    · exact Ne.symm hCD
    · exact offC p hp
end
end Mine
end

section
open PySem PySem.W PyProof.Rows PyProof.Rows.LCg PyProof.Rows.LCt PySem.Calls
set_option maxRecDepth 100000
set_option maxHeartbeats 8000000
namespace Mine
theorem compEnd_mono {h₀ : Heap} {L I C D : Addr} {m : Str → Option Value} {s₁ s₂ : Shared} {oI oC oD : Obj} {S : List (Addr × Obj) → Prop} {rest rest' : Value → List (Addr × Obj) → Prop} {y : Value} (hr : ∀ y n, rest y n → rest' y n)
    (h : CompEnd h₀ L m s₁ I oI C oC D oD S rest y s₂) : CompEnd h₀ L m s₁ I oI C oC D oD S rest' y s₂ := by
  obtain ⟨h', tk, news', e, F, N, off, hS, r⟩ := h
  exact ⟨h', tk, news', e, F, N, off, hS, hr _ _ r⟩
theorem CompEndG.mono {h₀ : Heap} {L I C D : Addr} {m : Str → Option Value} {s₁ s₂ : Shared} {oI oC : Obj} {S : List (Addr × Obj) → Prop} {rest rest' : Obj → List (Addr × Obj) → Prop} (hr : ∀ y n, rest y n → rest' y n)
    (h : CompEndG h₀ L m s₁ I oI C oC D S rest s₂) : CompEndG h₀ L m s₁ I oI C oC D S rest' s₂ := by
  obtain ⟨h', tk, oD', news', e, F, N, off, hS, r⟩ := h
  exact ⟨h', tk, oD', news', e, F, N, off, hS, hr _ _ r⟩
section
variable {prog : Program} {w : World} {A : Around} {E : Value → Shared → Prop} {s : Shared} {h₀ : Heap} {L : Addr} {m : Str → Option Value} {env : Env}
theorem CompRest.inv {elt : Expr} {x : Str} {scope : Scope} {cl : List (Str × Addr)} {S : List (Addr × Obj) → Prop} {P : Nat → Value → Prop} {Fin : List Value → List (Addr × Obj) → Prop} {n : Nat} {news : List (Addr × Obj)} (J : Nat → List Value → List (Addr × Obj) → Prop) (h0 : J 0 [] news)
    (turn : ∀ i ys nw v I oI C oC D m₂ h tk (E' : Value → Shared → Prop), i < n → J i ys nw → P i v → NsObj oC m₂ → m₂ x = some v → Fr h₀ L h m → News h₀ L h ((I, oI) :: (C, oC) :: (D, lst ys) :: nw) → Off3 I C D nw → ((@Ne Nat I C) ∧ (@Ne Nat I D) ∧ (@Ne Nat C D)) →
      wpAny (model prog w) A (eval elt (compEnvC scope cl C env)) (CompEnd h₀ L m { s with heap := h, toks := tk } I oI C oC D (lst ys) S (fun y nw' => J (i + 1) (ys ++ [y]) nw')) E' { s with heap := h, toks := tk })
    (fin : ∀ ys nw, J n ys nw → Fin ys nw) : CompRest prog w A h₀ L m env elt x scope cl s S P Fin n 0 [] news := by
  have go : ∀ k i ys nw, i + k = n → J i ys nw → CompRest prog w A h₀ L m env elt x scope cl s S P Fin k i ys nw := by
    intro k
    induction k with
    | zero => intro i ys nw hi hJ; exact CompRest.zero (fin _ _ (by rw [← hi]; exact hJ))
    | succ k ih =>
      intro i ys nw hi hJ
      refine CompRest.succ fun v I oI C oC D m₂ h tk E' hP hC hx F N off ne => ?_
      exact wpAny_mono (turn i ys nw v I oI C oC D m₂ h tk E' (by lia) hJ hP hC hx F N off ne) (fun y s' q => compEnd_mono (fun y n r => ih (i + 1) _ _ (by lia) r) q) fun _ _ e => e
  exact go n 0 [] news (by lia) h0
theorem CompRestT.inv {ct elt : Expr} {x : Str} {scope : Scope} {cl : List (Str × Addr)} {S : List (Addr × Obj) → Prop} {P : Nat → Value → Prop} {Fin : List Value → List (Addr × Obj) → Prop} {n : Nat} {news : List (Addr × Obj)} (J : Nat → List Value → List (Addr × Obj) → Prop) (h0 : J 0 [] news)
    (turn : ∀ i ys nw v I oI C oC D m₂ h tk (E' : Value → Shared → Prop), i < n → J i ys nw → P i v → NsObj oC m₂ → m₂ x = some v → Fr h₀ L h m → News h₀ L h ((I, oI) :: (C, oC) :: (D, lst ys) :: nw) → Off3 I C D nw → ((@Ne Nat I C) ∧ (@Ne Nat I D) ∧ (@Ne Nat C D)) →
      wpAny (model prog w) A (isTrue ct (compEnvC scope cl C env) (eval ct (compEnvC scope cl C env))) (fun ok s' => if ok = true then
        wpAny (model prog w) A (eval elt (compEnvC scope cl C env)) (CompEnd h₀ L m { s with heap := h, toks := tk } I oI C oC D (lst ys) S (fun y nw' => J (i + 1) (ys ++ [y]) nw')) E' s'
        else CompEnd h₀ L m { s with heap := h, toks := tk } I oI C oC D (lst ys) S (fun _ nw' => J (i + 1) ys nw') Value.none s') E' { s with heap := h, toks := tk })
    (fin : ∀ ys nw, J n ys nw → Fin ys nw) : CompRestT prog w A h₀ L m env ct elt x scope cl s S P Fin n 0 [] news := by
  have go : ∀ k i ys nw, i + k = n → J i ys nw → CompRestT prog w A h₀ L m env ct elt x scope cl s S P Fin k i ys nw := by
    intro k
    induction k with
    | zero => intro i ys nw hi hJ; exact CompRestT.zero (fin _ _ (by rw [← hi]; exact hJ))
    | succ k ih =>
      intro i ys nw hi hJ
      refine CompRestT.succ fun v I oI C oC D m₂ h tk E' hP hC hx F N off ne => ?_
      refine wpAny_mono (turn i ys nw v I oI C oC D m₂ h tk E' (by lia) hJ hP hC hx F N off ne) (fun ok s' q => ?_) fun _ _ e => e
      by_cases hok : ok = true
      · rw [if_pos hok] at q ⊢
        exact wpAny_mono q (fun y s' q => compEnd_mono (fun y n r => ih (i + 1) _ _ (by lia) r) q) fun _ _ e => e
      · rw [if_neg hok] at q ⊢
        exact compEnd_mono (fun y n r => ih (i + 1) _ _ (by lia) r) q
  exact go n 0 [] news (by lia) h0
theorem CompRestG.inv {x : Str} {em : Addr → Addr → (Shared → Prop) → (Value → Shared → Prop) → Shared → Prop} (hmono : ∀ C D (Q Q' : Shared → Prop) E s, (∀ s, Q s → Q' s) → em C D Q E s → em C D Q' E s) {S : List (Addr × Obj) → Prop} {P : Nat → Value → Prop} {Fin : Obj → List (Addr × Obj) → Prop} {n : Nat} {oD₀ : Obj} {news : List (Addr × Obj)} (J : Nat → Obj → List (Addr × Obj) → Prop) (h0 : J 0 oD₀ news)
    (turn : ∀ i oD nw v I oI C oC D m₂ h tk (E' : Value → Shared → Prop), i < n → J i oD nw → P i v → NsObj oC m₂ → m₂ x = some v → Fr h₀ L h m → News h₀ L h ((I, oI) :: (C, oC) :: (D, oD) :: nw) → Off3 I C D nw → ((@Ne Nat I C) ∧ (@Ne Nat I D) ∧ (@Ne Nat C D)) →
      em C D (CompEndG h₀ L m { s with heap := h, toks := tk } I oI C oC D S (fun oD' nw' => J (i + 1) oD' nw')) E' { s with heap := h, toks := tk })
    (fin : ∀ oD nw, J n oD nw → Fin oD nw) : CompRestG prog w A h₀ L m x em s S P Fin n 0 oD₀ news := by
  have go : ∀ k i oD nw, i + k = n → J i oD nw → CompRestG prog w A h₀ L m x em s S P Fin k i oD nw := by
    intro k
    induction k with
    | zero => intro i oD nw hi hJ; exact fin _ _ (by rw [← hi]; exact hJ)
    | succ k ih =>
      intro i oD nw hi hJ v I oI C oC D m₂ h tk E' hP hC hx F N off ne
      exact hmono _ _ _ _ _ _ (fun s' q => q.mono fun y n r => ih (i + 1) _ _ (by lia) r) (turn i oD nw v I oI C oC D m₂ h tk E' (by lia) hJ hP hC hx F N off ne)
  exact go n 0 oD₀ news (by lia) h0
end
end Mine
namespace Mine
noncomputable def keepF (c : Str) : Bool := decide (c.length ≠ 0 ∧ c ≠ Str.ofString ".")
theorem filt_yes {l : List (Str × Tok)} {i : Nat} {c : Str} {t : Tok} (h : l[i]? = some (c, t)) (hk : keepF c = true) : strValues ((l.take i).filter fun p => keepF p.1) ++ [.str c t] = strValues ((l.take (i + 1)).filter fun p => keepF p.1) := by
  rw [List.take_succ, h]
  simp [strValues, hk]
theorem filt_no {l : List (Str × Tok)} {i : Nat} {c : Str} {t : Tok} (h : l[i]? = some (c, t)) (hk : keepF c = false) : strValues ((l.take i).filter fun p => keepF p.1) = strValues ((l.take (i + 1)).filter fun p => keepF p.1) := by
  rw [List.take_succ, h]
  simp [strValues, hk]
section
variable {prog : Program} {w : World} {A : Around} {E : Value → Shared → Prop} {s : Shared} {h₀ : Heap} {L : Addr} {m : Str → Option Value} {env : Env}
/-- the turns leave the ledger as it is -/
theorem CompRestT.invF {ct elt : Expr} {x : Str} {scope : Scope} {cl : List (Str × Addr)} {S : List (Addr × Obj) → Prop} {P : Nat → Value → Prop} {Fin : List Value → List (Addr × Obj) → Prop} {n : Nat} {news : List (Addr × Obj)} (J : Nat → List Value) (h0 : J 0 = [])
    (turn : ∀ i v I oI C oC D m₂ h tk (E' : Value → Shared → Prop), i < n → P i v → NsObj oC m₂ → m₂ x = some v → Fr h₀ L h m → News h₀ L h ((I, oI) :: (C, oC) :: (D, lst (J i)) :: news) → Off3 I C D news → ((@Ne Nat I C) ∧ (@Ne Nat I D) ∧ (@Ne Nat C D)) →
      wpAny (model prog w) A (isTrue ct (compEnvC scope cl C env) (eval ct (compEnvC scope cl C env))) (fun ok s' => if ok = true then
        wpAny (model prog w) A (eval elt (compEnvC scope cl C env)) (CompEnd h₀ L m { s with heap := h, toks := tk } I oI C oC D (lst (J i)) S (fun y nw' => nw' = news ∧ J i ++ [y] = J (i + 1))) E' s'
        else CompEnd h₀ L m { s with heap := h, toks := tk } I oI C oC D (lst (J i)) S (fun _ nw' => nw' = news ∧ J i = J (i + 1)) Value.none s') E' { s with heap := h, toks := tk })
    (fin : Fin (J n) news) : CompRestT prog w A h₀ L m env ct elt x scope cl s S P Fin n 0 [] news := by
  refine CompRestT.inv (fun i ys nw => ys = J i ∧ nw = news) ⟨h0.symm, rfl⟩ ?_ (by rintro ys nw ⟨rfl, rfl⟩; exact fin)
  rintro i ys nw v I oI C oC D m₂ h tk E' hi ⟨rfl, rfl⟩ hP hC hx F N off ne
  refine wpAny_mono (turn i v I oI C oC D m₂ h tk E' hi hP hC hx F N off ne) (fun ok s' q => ?_) fun _ _ e => e
  by_cases hok : ok = true
  · rw [if_pos hok] at q ⊢
    exact wpAny_mono q (fun y s' q => compEnd_mono (fun y n r => ⟨r.2, r.1⟩) q) fun _ _ e => e
  · rw [if_neg hok] at q ⊢
    exact compEnd_mono (fun y n r => ⟨r.2, r.1⟩) q
end
end Mine
namespace Mine
theorem keep_1 {c : Str} (h1 : ¬ (c.length : Int) = 0) (h2 : (c != Str.ofString ".") = true) : keepF c = true := decide_eq_true ⟨fun e => h1 (by rw [e]; rfl), fun e => by rw [e] at h2; simp at h2⟩
theorem keep_2 {c : Str} (h2 : (c != Str.ofString ".") = false) : keepF c = false := decide_eq_false fun h => h.2 (by simpa using h2)
theorem keep_3 {c : Str} (h1 : (c.length : Int) = 0) : keepF c = false := decide_eq_false fun h => h.1 (Int.ofNat.inj h1)
theorem comp_push1 {h₀ : Heap} {L I C D a : Addr} {m : Str → Option Value} {s₁ : Shared} {oI oC oD o : Obj} {S : List (Addr × Obj) → Prop} {rest : Value → List (Addr × Obj) → Prop} {y : Value} {h' : Heap} {tk : Nat} {news : List (Addr × Obj)}
    (F : Fr h₀ L h' m) (N : News h₀ L h' ((a, o) :: (I, oI) :: (C, oC) :: (D, oD) :: news)) (o1 : Off1 a ((I, oI) :: (C, oC) :: (D, oD) :: news)) (off : Off3 I C D news) (hS : S ((a, o) :: news)) (r : rest y ((a, o) :: news)) :
    CompEnd h₀ L m s₁ I oI C oC D oD S rest y { s₁ with heap := h', toks := tk } := by
  refine CompEnd.intro F N ((a, o) :: news) (fun p hp => ?_) ⟨⟨?_, ?_, ?_⟩, off⟩ hS r
  · simp only [List.mem_cons] at hp ⊢
    rcases hp with h | h | h | h | h <;> simp [h]
  · exact Ne.symm o1.1
  · exact Ne.symm o1.2.1
  · exact Ne.symm o1.2.2.1
end Mine
end

section
open PySem PySem.W PyProof.Rows PySem.Calls
set_option maxRecDepth 100000
set_option maxHeartbeats 8000000
namespace Mine
noncomputable def minS (a b : List Str) : List Str := if ltS b a then b else a
noncomputable def maxS (a b : List Str) : List Str := if ltS a b then b else a
/-- the longest common beginning -/
noncomputable def lcp : List Str → List Str → List Str
  | x :: xs, y :: ys => if x = y then x :: lcp xs ys else []
  | _, _ => []
theorem ltS_irrefl : ∀ a : List Str, ltS a a = false
  | [] => rfl
  | x :: xs => by rw [ltS, if_pos rfl]; exact ltS_irrefl xs
theorem cps_lt_asymm {x y : Str} (h : x.cps.toList < y.cps.toList) : ¬ y.cps.toList < x.cps.toList := List.lt_asymm h
theorem ltS_asymm : ∀ {a b : List Str}, ltS a b = true → ltS b a = false
  | [], [], h => by cases h
  | [], _ :: _, _ => rfl
  | _ :: _, [], h => by cases h
  | x :: xs, y :: ys, h => by
    rw [ltS] at h ⊢
    by_cases e : x = y
    · subst e
      rw [if_pos rfl] at h ⊢
      exact ltS_asymm h
    · rw [if_neg e] at h
      rw [if_neg (Ne.symm e)]
      exact decide_eq_false (cps_lt_asymm (of_decide_eq_true h))
theorem mm_le (a b : List Str) : ltS (maxS a b) (minS a b) = false := by
  unfold maxS minS
  cases h1 : ltS b a with
  | true => rw [ltS_asymm h1]; simp [ltS_asymm h1]
  | false =>
    cases h2 : ltS a b with
    | true => simp [h1]
    | false => simp [ltS_irrefl]
theorem lcp_comm : ∀ a b : List Str, lcp a b = lcp b a
  | [], [] => rfl
  | [], _ :: _ => rfl
  | _ :: _, [] => rfl
  | x :: xs, y :: ys => by
    rw [lcp, lcp]
    by_cases e : x = y
    · subst e; simp [lcp_comm xs ys]
    · rw [if_neg e, if_neg (Ne.symm e)]
theorem lcp_self : ∀ a : List Str, lcp a a = a
  | [] => rfl
  | x :: xs => by rw [lcp, if_pos rfl, lcp_self]
theorem lcp_mm (a b : List Str) : lcp (minS a b) (maxS a b) = lcp a b := by
  unfold maxS minS
  cases h1 : ltS b a with
  | true => simp [ltS_asymm h1, lcp_comm]
  | false =>
    cases h2 : ltS a b with
    | true => simp
    | false =>
      simp only [Bool.false_eq_true, if_false]
      have : ∀ a b : List Str, ltS a b = false → ltS b a = false → a = b := by
        intro a
        induction a with
        | nil => intro b h1 h2; cases b with | nil => rfl | cons => cases h1
        | cons x xs ih =>
          intro b h1 h2
          cases b with
          | nil => cases h2
          | cons y ys =>
            rw [ltS] at h1 h2
            by_cases e : x = y
            · subst e
              rw [if_pos rfl] at h1 h2
              rw [ih ys h1 h2]
            · rw [if_neg e] at h1
              rw [if_neg (Ne.symm e)] at h2
              have h1 := of_decide_eq_false h1
              have h2 := of_decide_eq_false h2
              refine absurd ?_ e
              have e2 : x.cps.toList = y.cps.toList := List.le_antisymm h2 h1
              exact Str.ext' (by simpa using congrArg List.toArray e2)
      rw [this a b h2 h1]
/-- the first i agree, the i-th does not -/
theorem lcp_cut : ∀ {a b : List Str} {i : Nat} {x y : Str}, (∀ j, j < i → a[j]? = b[j]?) → a[i]? = some x → b[i]? = some y → x ≠ y → lcp a b = a.take i
  | [], _, _, _, _, _, h, _, _ => by simp at h
  | _ :: _, [], _, _, _, _, _, h, _ => by simp at h
  | u :: us, v :: vs, 0, x, y, _, ha, hb, hne => by
    simp at ha hb
    subst ha; subst hb
    rw [lcp, if_neg hne]; rfl
  | u :: us, v :: vs, i + 1, x, y, hj, ha, hb, hne => by
    have h0 : u = v := by simpa using hj 0 (Nat.succ_pos _)
    subst h0
    rw [lcp, if_pos rfl, lcp_cut (a := us) (b := vs) (i := i) (fun j h => by simpa using hj (j + 1) (Nat.succ_lt_succ h)) (by simpa using ha) (by simpa using hb) hne]
    rfl
theorem lcp_all : ∀ {a b : List Str}, (∀ j, j < a.length → a[j]? = b[j]?) → lcp a b = a
  | [], b, _ => by cases b <;> rfl
  | x :: xs, [], h => by have := h 0 (Nat.succ_pos _); simp at this
  | x :: xs, y :: ys, h => by
    have h0 : x = y := by simpa using h 0 (Nat.succ_pos _)
    subst h0
    rw [lcp, if_pos rfl, lcp_all (a := xs) (b := ys) fun j hj => by simpa using h (j + 1) (Nat.succ_lt_succ hj)]
theorem in_other : ∀ {a b : List Str} {i : Nat}, ltS b a = false → (∀ j, j < i → a[j]? = b[j]?) → i < a.length → i < b.length
  | [], _, _, _, _, h => by simp at h
  | x :: xs, [], 0, h, _, _ => by cases h
  | x :: xs, [], i + 1, _, hj, _ => by have := hj 0 (Nat.succ_pos _); simp at this
  | x :: xs, y :: ys, 0, _, _, _ => Nat.succ_pos _
  | x :: xs, y :: ys, i + 1, h, hj, hi => by
    have h0 : x = y := by simpa using hj 0 (Nat.succ_pos _)
    subst h0
    rw [ltS, if_pos rfl] at h
    exact Nat.succ_lt_succ (in_other h (fun j hj' => by simpa using hj (j + 1) (Nat.succ_lt_succ hj')) (Nat.lt_of_succ_lt_succ hi))
section
variable {prog : Program} {w : World} {A : Around} {E : Value → Shared → Prop} {s : Shared} {h₀ : Heap} {L l a b : Addr} {m : Str → Option Value} {news : List (Addr × Obj)} {xs ys : List (Str × Tok)} {n na nb : Nat} {Q : Value → Shared → Prop}
theorem call_min2L (hh : A.handled = none) (hu : A.units + 1 < cLine) (Fm : Fr h₀ L s.heap m) (N : News h₀ L s.heap news)
    (hl : (l, W.listOf #[.ref a, .ref b] n) ∈ news) (ha : (a, W.listOf (strL xs).toArray na) ∈ news) (hb : (b, W.listOf (strL ys).toArray nb) ∈ news)
    (h : ∀ h' tk' S z c, Fr h₀ L h' m → News h₀ L h' ((S, W.listOf (strL z).toArray c) :: news) → z.map (·.1) = minS (xs.map (·.1)) (ys.map (·.1)) → Q (.ref S) { s with heap := h', toks := tk' }) :
    wpAny (model prog w) A (call (.builtin "min") [.ref l]) Q E s := by
  refine call_min2 hh hu Fm N hl ha hb fun h' tk' F' N' => ?_
  cases hc : ltS (ys.map (·.1)) (xs.map (·.1)) with
  | true => exact h h' tk' b ys nb F' (fun p hp => (List.mem_cons.mp hp).elim (fun e => e ▸ N' _ hb) (N' p)) (by rw [minS, if_pos hc])
  | false => exact h h' tk' a xs na F' (fun p hp => (List.mem_cons.mp hp).elim (fun e => e ▸ N' _ ha) (N' p)) (by rw [minS, if_neg (by rw [hc]; exact Bool.false_ne_true)])
theorem call_max2L (hh : A.handled = none) (hu : A.units + 1 < cLine) (Fm : Fr h₀ L s.heap m) (N : News h₀ L s.heap news)
    (hl : (l, W.listOf #[.ref a, .ref b] n) ∈ news) (ha : (a, W.listOf (strL xs).toArray na) ∈ news) (hb : (b, W.listOf (strL ys).toArray nb) ∈ news)
    (h : ∀ h' tk' S z c, Fr h₀ L h' m → News h₀ L h' ((S, W.listOf (strL z).toArray c) :: news) → z.map (·.1) = maxS (xs.map (·.1)) (ys.map (·.1)) → Q (.ref S) { s with heap := h', toks := tk' }) :
    wpAny (model prog w) A (call (.builtin "max") [.ref l]) Q E s := by
  refine call_max2 hh hu Fm N hl ha hb fun h' tk' F' N' => ?_
  cases hc : ltS (xs.map (·.1)) (ys.map (·.1)) with
  | true => exact h h' tk' b ys nb F' (fun p hp => (List.mem_cons.mp hp).elim (fun e => e ▸ N' _ hb) (N' p)) (by rw [maxS, if_pos hc])
  | false => exact h h' tk' a xs na F' (fun p hp => (List.mem_cons.mp hp).elim (fun e => e ▸ N' _ ha) (N' p)) (by rw [maxS, if_neg (by rw [hc]; exact Bool.false_ne_true)])
end
end Mine
namespace Mine
theorem minS_len {a b : List Str} {n : Nat} (ha : a.length ≤ n) (hb : b.length ≤ n) : (minS a b).length ≤ n := by unfold minS; split <;> assumption
theorem map_get {z : List (Str × Tok)} {i : Nat} : (z.map (·.1))[i]? = (z[i]?).map (·.1) := List.getElem?_map ..
end Mine
namespace Mine
theorem fold_len (sep : Str) : ∀ (texts : List Str) (B : Nat), (∀ y ∈ texts, y.length ≤ B) → (texts.map (·.length)).sum ≤ texts.length * B
  | [], _, _ => by simp
  | x :: xs, B, h => by
    have := fold_len sep xs B fun y hy => h y (.tail _ hy)
    have h2 := h x (.head _)
    simp only [List.map_cons, List.sum_cons, List.length_cons, Nat.add_mul]
    lia
theorem join_ok {sep : Str} {texts : List Str} (hn : texts.length ≤ 100) (hl : ∀ y ∈ texts, y.length ≤ 1000) (hs : sep.length ≤ 1) : JoinOk sep texts = true ∧ (Txt.join sep texts).length ≤ 110000 := by
  have h1 := fold_len sep texts 1000 hl
  have h2 : texts.length * 1000 ≤ 100 * 1000 := Nat.mul_le_mul_right _ hn
  have h3 : texts.length * sep.length ≤ 100 * 1 := Nat.mul_le_mul hn hs
  constructor
  · unfold JoinOk PySem.Builtin.Str.tooLong
    rw [StrLaws.joinTotal]
    simp [sizeLine]
    lia
  · have := StrLaws.join_length_le sep texts
    have e : Txt.join sep texts = Str.join sep texts := beq_iff_eq.mp (join_closes rfl)
    rw [e]
    lia
section
variable {prog : Program} {w : World} {A : Around} {E : Value → Shared → Prop} {s : Shared} {h₀ : Heap} {L l : Addr} {news : List (Addr × Obj)} {z : List (Str × Tok)} {n : Nat} {Q : Value → Shared → Prop} {x : Str} {t : Tok}
theorem join_led (N : News h₀ L s.heap news) (hm : (l, W.listOf (strL z).toArray n) ∈ news) (hn : z.length ≤ 100) (hl : ∀ y ∈ z.map (·.1), y.length ≤ 1000) (hs : x.length ≤ 1)
    (h : ∀ t' k, (Txt.join x (z.map (·.1))).length ≤ 110000 → Q (.str (Txt.join x (z.map (·.1))) t') { s with toks := k }) : wpAny (model prog w) A (call (.builtin "str.join") [.str x t, .ref l]) Q E s := by
  obtain ⟨h1, h2⟩ := join_ok (sep := x) (texts := z.map (·.1)) (by simpa using hn) hl hs
  exact SC.join (l := z) ⟨_, (N _ hm).1, rfl, _, rfl⟩ rfl h1 fun t' k => h t' k h2
end
theorem News.cut {h₀ h : Heap} {L : Addr} {l : List (Addr × Obj)} (i j : Nat) (N : News h₀ L h l) : News h₀ L h (l.take i ++ l.drop j) := fun p hp => N p ((List.mem_append.mp hp).elim List.mem_of_mem_take List.mem_of_mem_drop)
theorem filter_fst (l : List (Str × Tok)) : (l.filter fun p => keepF p.1).map (fun p => p.1) = (l.map fun p => p.1).filter keepF := by
  induction l with
  | nil => rfl
  | cons a t ih =>
    simp only [List.filter_cons, List.map_cons]
    split
    · simp [ih]
    · exact ih
noncomputable def partsF (x : Str) : List Str := (Txt.split x (Str.ofString "/")).filter keepF
noncomputable def cpF (x y : Str) : Str := Str.ofString "/" ++ Txt.join (Str.ofString "/") (lcp (partsF x) (partsF y))
theorem minS_all {a b : List Str} {P : Str → Prop} (ha : ∀ y ∈ a, P y) (hb : ∀ y ∈ b, P y) : ∀ y ∈ minS a b, P y := by unfold minS; split <;> assumption
end Mine
namespace Mine
theorem pick_upto {vs : List Value} {i : Nat} (h : i ≤ vs.length) : (slicePick vs.toArray none (some (i : Int)) none).toList = vs.take i := by
  have e : sliceBounds none (some (i : Int)) none vs.toArray.size = (((0 : Nat) : Int), ((i : Nat) : Int), 1) := by
    simp only [sliceBounds, Option.getD_none, show (1 : Int) > 0 by decide, if_true, if_neg (show ¬ ((i : Int) < 0) by lia), List.size_toArray]
    congr 1
    congr 1
    lia
  rw [kmk_pick_nat _ e]
  simp
end Mine
end

section
open PySem PySem.W PyProof.Rows PySem.Calls
set_option maxRecDepth 100000
set_option maxHeartbeats 8000000
namespace Mine
/-- the tables of filemode, where they lie -/
noncomputable def tabs : List (Addr × List Addr × List (Value × Value)) := [
  (212, [205, 206, 207, 208, 209, 210, 211], [(.int 40960 456, .str (Str.ofString "l") 491), (.int 49152 458, .str (Str.ofString "s") 492), (.int 32768 452, .str (Str.ofString "-") 493), (.int 24576 450, .str (Str.ofString "b") 494), (.int 16384 446, .str (Str.ofString "d") 495), (.int 8192 448, .str (Str.ofString "c") 496), (.int 4096 454, .str (Str.ofString "p") 497)]),
  (214, [213], [(.int 256 473, .str (Str.ofString "r") 498)]),
  (216, [215], [(.int 128 475, .str (Str.ofString "w") 499)]),
  (220, [217, 218, 219], [(.int 2112 500, .str (Str.ofString "s") 501), (.int 2048 467, .str (Str.ofString "S") 502), (.int 64 477, .str (Str.ofString "x") 503)]),
  (222, [221], [(.int 32 479, .str (Str.ofString "r") 504)]),
  (224, [223], [(.int 16 481, .str (Str.ofString "w") 505)]),
  (228, [225, 226, 227], [(.int 1032 506, .str (Str.ofString "s") 507), (.int 1024 469, .str (Str.ofString "S") 508), (.int 8 483, .str (Str.ofString "x") 509)]),
  (230, [229], [(.int 4 485, .str (Str.ofString "r") 510)]),
  (232, [231], [(.int 2 487, .str (Str.ofString "w") 511)]),
  (236, [233, 234, 235], [(.int 513 512, .str (Str.ofString "t") 513), (.int 512 471, .str (Str.ofString "T") 514), (.int 1 489, .str (Str.ofString "x") 515)])]
noncomputable def tabP (i : Nat) : List (Value × Value) := match tabs[i]? with | some t => t.2.2 | none => []
noncomputable def hitF (i : Nat) (mode : Int) (p : Value × Value) : Bool := match p.1 with | .int b _ => if i = 0 then decide (Builtin.bitAnd mode 61440 = b) else decide (Builtin.bitAnd mode b = b) | _ => false
noncomputable def chS (mode : Int) (i : Nat) : Str := match (tabP i).find? (hitF i mode) with | some (_, .str c _) => c | _ => if i = 0 then Str.ofString "?" else Str.ofString "-"
noncomputable def fmF (mode : Int) : Str := Txt.join (Str.ofString "") ((List.range 10).map (chS mode))
theorem tabs_shape : ∀ t ∈ tabs, t.2.1.length = t.2.2.length ∧ ∀ p ∈ t.2.2, ∃ b bt c ct, p = (.int b bt, .str c ct) ∧ c.length = 1 := by
  intro t ht
  simp only [tabs, List.mem_cons, List.not_mem_nil, or_false] at ht
  rcases ht with rfl | rfl | rfl | rfl | rfl | rfl | rfl | rfl | rfl | rfl
  all_goals
    refine ⟨rfl, fun p hp => ?_⟩
    simp only [List.mem_cons, List.not_mem_nil, or_false] at hp
    repeat' (first | (rcases hp with rfl | hp; exact ⟨_, _, _, _, rfl, by decide +kernel⟩) | (subst hp; exact ⟨_, _, _, _, rfl, by decide +kernel⟩))
theorem tabs_in {P : Params} {h : Heap} (X : (frg P).In h) : h.IsTuple 237 (tabs.map fun t => Value.ref t.1).toArray ∧ ∀ t ∈ tabs, h.IsTuple t.1 (t.2.1.map Value.ref).toArray ∧ ∀ (j : Nat) a b c, t.2.1[j]? = some a → t.2.2[j]? = some (b, c) → h.IsTuple a #[b, c] := by
  refine ⟨⟨_, X 237 _ (by with_unfolding_all rfl), rfl, _, rfl⟩, fun t ht => ?_⟩
  simp only [tabs, List.mem_cons, List.not_mem_nil, or_false] at ht
  rcases ht with rfl | rfl | rfl | rfl | rfl | rfl | rfl | rfl | rfl | rfl
  · refine ⟨⟨_, X 212 _ (by with_unfolding_all rfl), rfl, _, rfl⟩, fun j a b c h1 h2 => ?_⟩
    match j, h1, h2 with
    | 0, h1, h2 => cases Option.some.inj h1; cases Option.some.inj h2; exact ⟨_, X 205 _ (by with_unfolding_all rfl), rfl, _, rfl⟩
    | 1, h1, h2 => cases Option.some.inj h1; cases Option.some.inj h2; exact ⟨_, X 206 _ (by with_unfolding_all rfl), rfl, _, rfl⟩
    | 2, h1, h2 => cases Option.some.inj h1; cases Option.some.inj h2; exact ⟨_, X 207 _ (by with_unfolding_all rfl), rfl, _, rfl⟩
    | 3, h1, h2 => cases Option.some.inj h1; cases Option.some.inj h2; exact ⟨_, X 208 _ (by with_unfolding_all rfl), rfl, _, rfl⟩
    | 4, h1, h2 => cases Option.some.inj h1; cases Option.some.inj h2; exact ⟨_, X 209 _ (by with_unfolding_all rfl), rfl, _, rfl⟩
    | 5, h1, h2 => cases Option.some.inj h1; cases Option.some.inj h2; exact ⟨_, X 210 _ (by with_unfolding_all rfl), rfl, _, rfl⟩
    | 6, h1, h2 => cases Option.some.inj h1; cases Option.some.inj h2; exact ⟨_, X 211 _ (by with_unfolding_all rfl), rfl, _, rfl⟩
    | _ + 7, h1, h2 => simp at h1
  · refine ⟨⟨_, X 214 _ (by with_unfolding_all rfl), rfl, _, rfl⟩, fun j a b c h1 h2 => ?_⟩
    match j, h1, h2 with
    | 0, h1, h2 => cases Option.some.inj h1; cases Option.some.inj h2; exact ⟨_, X 213 _ (by with_unfolding_all rfl), rfl, _, rfl⟩
    | _ + 1, h1, h2 => simp at h1
  · refine ⟨⟨_, X 216 _ (by with_unfolding_all rfl), rfl, _, rfl⟩, fun j a b c h1 h2 => ?_⟩
    match j, h1, h2 with
    | 0, h1, h2 => cases Option.some.inj h1; cases Option.some.inj h2; exact ⟨_, X 215 _ (by with_unfolding_all rfl), rfl, _, rfl⟩
    | _ + 1, h1, h2 => simp at h1
  · refine ⟨⟨_, X 220 _ (by with_unfolding_all rfl), rfl, _, rfl⟩, fun j a b c h1 h2 => ?_⟩
    match j, h1, h2 with
    | 0, h1, h2 => cases Option.some.inj h1; cases Option.some.inj h2; exact ⟨_, X 217 _ (by with_unfolding_all rfl), rfl, _, rfl⟩
    | 1, h1, h2 => cases Option.some.inj h1; cases Option.some.inj h2; exact ⟨_, X 218 _ (by with_unfolding_all rfl), rfl, _, rfl⟩
    | 2, h1, h2 => cases Option.some.inj h1; cases Option.some.inj h2; exact ⟨_, X 219 _ (by with_unfolding_all rfl), rfl, _, rfl⟩
    | _ + 3, h1, h2 => simp at h1
  · refine ⟨⟨_, X 222 _ (by with_unfolding_all rfl), rfl, _, rfl⟩, fun j a b c h1 h2 => ?_⟩
    match j, h1, h2 with
    | 0, h1, h2 => cases Option.some.inj h1; cases Option.some.inj h2; exact ⟨_, X 221 _ (by with_unfolding_all rfl), rfl, _, rfl⟩
    | _ + 1, h1, h2 => simp at h1
  · refine ⟨⟨_, X 224 _ (by with_unfolding_all rfl), rfl, _, rfl⟩, fun j a b c h1 h2 => ?_⟩
    match j, h1, h2 with
    | 0, h1, h2 => cases Option.some.inj h1; cases Option.some.inj h2; exact ⟨_, X 223 _ (by with_unfolding_all rfl), rfl, _, rfl⟩
    | _ + 1, h1, h2 => simp at h1
  · refine ⟨⟨_, X 228 _ (by with_unfolding_all rfl), rfl, _, rfl⟩, fun j a b c h1 h2 => ?_⟩
    match j, h1, h2 with
    | 0, h1, h2 => cases Option.some.inj h1; cases Option.some.inj h2; exact ⟨_, X 225 _ (by with_unfolding_all rfl), rfl, _, rfl⟩
    | 1, h1, h2 => cases Option.some.inj h1; cases Option.some.inj h2; exact ⟨_, X 226 _ (by with_unfolding_all rfl), rfl, _, rfl⟩
    | 2, h1, h2 => cases Option.some.inj h1; cases Option.some.inj h2; exact ⟨_, X 227 _ (by with_unfolding_all rfl), rfl, _, rfl⟩
    | _ + 3, h1, h2 => simp at h1
  · refine ⟨⟨_, X 230 _ (by with_unfolding_all rfl), rfl, _, rfl⟩, fun j a b c h1 h2 => ?_⟩
    match j, h1, h2 with
    | 0, h1, h2 => cases Option.some.inj h1; cases Option.some.inj h2; exact ⟨_, X 229 _ (by with_unfolding_all rfl), rfl, _, rfl⟩
    | _ + 1, h1, h2 => simp at h1
  · refine ⟨⟨_, X 232 _ (by with_unfolding_all rfl), rfl, _, rfl⟩, fun j a b c h1 h2 => ?_⟩
    match j, h1, h2 with
    | 0, h1, h2 => cases Option.some.inj h1; cases Option.some.inj h2; exact ⟨_, X 231 _ (by with_unfolding_all rfl), rfl, _, rfl⟩
    | _ + 1, h1, h2 => simp at h1
  · refine ⟨⟨_, X 236 _ (by with_unfolding_all rfl), rfl, _, rfl⟩, fun j a b c h1 h2 => ?_⟩
    match j, h1, h2 with
    | 0, h1, h2 => cases Option.some.inj h1; cases Option.some.inj h2; exact ⟨_, X 233 _ (by with_unfolding_all rfl), rfl, _, rfl⟩
    | 1, h1, h2 => cases Option.some.inj h1; cases Option.some.inj h2; exact ⟨_, X 234 _ (by with_unfolding_all rfl), rfl, _, rfl⟩
    | 2, h1, h2 => cases Option.some.inj h1; cases Option.some.inj h2; exact ⟨_, X 235 _ (by with_unfolding_all rfl), rfl, _, rfl⟩
    | _ + 3, h1, h2 => simp at h1
theorem ne_locals {h₀ h : Heap} {L a : Addr} {m : Str → Option Value} {its : Array Value} (F : Fr h₀ L h m) (ht : h₀.IsTuple a its) : a ≠ L := by
  obtain ⟨o, ho, _⟩ := ht
  rintro rfl
  exact Nat.lt_irrefl _ (Nat.lt_of_lt_of_le (Heap.lt_size ho) F.above)
theorem chS_hit {x : Int} {i : Nat} {ps pre post : List (Value × Value)} {b c : Value} {cs : Str} {ct : Tok} (hp : tabP i = ps) (hs : ps = pre ++ (b, c) :: post) (hno : ∀ y ∈ pre, hitF i x y = false) (hc : c = .str cs ct) (hh : hitF i x (b, c) = true) : chS x i = cs := by
  have : (tabP i).find? (hitF i x) = some (b, c) := by
    rw [hp, hs, List.find?_append, List.find?_eq_none.mpr (fun y hy => by rw [hno y hy]; exact Bool.false_ne_true)]
    simp [hh]
  unfold chS
  rw [this, hc]
theorem chS_miss {x : Int} {i : Nat} {ps : List (Value × Value)} (hp : tabP i = ps) (hno : ∀ y ∈ ps, hitF i x y = false) : chS x i = if i = 0 then Str.ofString "?" else Str.ofString "-" := by
  have : (tabP i).find? (hitF i x) = none := by
    rw [hp]; exact List.find?_eq_none.mpr (fun y hy => by rw [hno y hy]; exact Bool.false_ne_true)
  unfold chS
  rw [this]
theorem chS_step {x : Int} {i : Nat} {its : List (Str × Tok)} {c : Str} {t : Tok} (h : its.map (·.1) = (List.range i).map (chS x)) (hc : chS x i = c) : (its ++ [(c, t)]).map (·.1) = (List.range (i + 1)).map (chS x) := by
  rw [List.map_append, h, List.range_succ, List.map_append]
  simp [hc]
theorem its_len {x : Int} {i : Nat} {its : List (Str × Tok)} (h : its.map (·.1) = (List.range i).map (chS x)) : its.length = i := by simpa using congrArg List.length h
/-- an object of the base is none of the ledger's -/
theorem ne_news {h₀ h : Heap} {L a : Addr} {news : List (Addr × Obj)} {its : Array Value} (N : News h₀ L h news) (ht : h₀.IsTuple a its) : ∀ q ∈ news, q.1 ≠ a := by
  obtain ⟨o, ho, _⟩ := ht
  intro q hq e
  have := (N q hq).2.2
  rw [e, ho] at this
  cases this
theorem append_led {prog : Program} {w : World} {A : Around} {E : Value → Shared → Prop} {s : Shared} {h₀ : Heap} {L l : Addr} {m : Str → Option Value} {rest : List (Addr × Obj)} {z : List (Str × Tok)} {n : Nat} {c : Str} {t : Tok} {Q : Value → Shared → Prop} (F : Fr h₀ L s.heap m) (N : News h₀ L s.heap ((l, W.listOf (strL z).toArray n) :: rest)) (hoff : ∀ p ∈ rest, p.1 ≠ l) (hz : z.length ≤ 1000)
    (h : ∀ h', Fr h₀ L h' m → News h₀ L h' ((l, W.listOf (strL (z ++ [(c, t)])).toArray (n + 1)) :: rest) → Q .none { s with heap := h' }) : wpAny (model prog w) A (call (.builtin "list.append") [.ref l, .str c t]) Q E s := by
  refine append_K F N (.head hoff) (fun h' F' N' => h h' F' ?_) (by simp [strL, sizeLine]; lia)
  have e : (strL (z ++ [(c, t)])).toArray = (strL z).toArray.push (.str c t) := by simp [strL]
  rw [e]; exact N'
theorem hit_0 {i : Nat} {x b : Int} {t : Tok} {c : Value} (h0 : (i : Int) = 0) (h : Builtin.bitAnd x 61440 = b) : hitF i x (.int b t, c) = true := by
  have : i = 0 := Int.ofNat.inj h0
  simp [hitF, this, h]
theorem miss_0 {i : Nat} {x b : Int} {t : Tok} {c : Value} (h0 : (i : Int) = 0) (h : Builtin.bitAnd x 61440 ≠ b) : hitF i x (.int b t, c) = false := by
  have : i = 0 := Int.ofNat.inj h0
  simp [hitF, this, h]
theorem hit_1 {i : Nat} {x b : Int} {t : Tok} {c : Value} (h0 : (i : Int) ≠ 0) (h : Builtin.bitAnd x b = b) : hitF i x (.int b t, c) = true := by
  have : i ≠ 0 := fun e => h0 (by rw [e]; rfl)
  simp [hitF, this, h]
theorem miss_1 {i : Nat} {x b : Int} {t : Tok} {c : Value} (h0 : (i : Int) ≠ 0) (h : Builtin.bitAnd x b ≠ b) : hitF i x (.int b t, c) = false := by
  have : i ≠ 0 := fun e => h0 (by rw [e]; rfl)
  simp [hitF, this, h]
theorem ne_of_not2 {a b z : Str} (h : [a, b].contains z = false) : z ≠ a ∧ z ≠ b := by
  simp at h; exact h
theorem news_sub {h₀ h : Heap} {L : Addr} {news news' : List (Addr × Obj)} (N : News h₀ L h news) (hs : ∀ p ∈ news', p ∈ news) : News h₀ L h news' := fun p hp => N p (hs p hp)
theorem fm_len {x : Int} {i : Nat} : (chS x i).length ≤ 1 := by
  unfold chS
  split
  · rename_i p c t h
    have hm := List.mem_of_find?_eq_some h
    unfold tabP at hm
    split at hm
    · rename_i t' ht
      obtain ⟨_, _, c', _, e, hl⟩ := (tabs_shape t' (List.mem_of_getElem? ht)).2 _ hm
      obtain ⟨_, e⟩ := Prod.mk.inj e
      cases e
      exact Nat.le_of_eq hl
    · cases hm
  · split <;> decide
end Mine
end

section
open PySem PySem.W PyProof.Rows
set_option maxRecDepth 100000
set_option maxHeartbeats 8000000
namespace Mine
noncomputable abbrev Item := Str × Tok
noncomputable abbrev Item.val (p : Item) : Value := .str p.1 p.2
noncomputable abbrev vals (xs : List Item) : List Value := xs.map Item.val
/-- x, coming from below at pos, goes up past what it goes before -/
noncomputable def sdF (bf : Item → Item → Bool) (start : Nat) (x : Item) : Nat → List Item → Nat → List Item
  | 0, xs, pos => xs.set pos x
  | f + 1, xs, pos => if pos > start then (match xs[(pos - 1) / 2]? with
      | some p => if bf x p then sdF bf start x f (xs.set pos p) ((pos - 1) / 2) else xs.set pos x
      | none => xs.set pos x) else xs.set pos x
noncomputable def pickF (bf : Item → Item → Bool) (xs : List Item) (c : Nat) : Nat :=
  match xs[c]?, xs[c + 1]? with
  | some y, some z => if bf y z then c else c + 1
  | _, _ => c
/-- the hole goes down to a leaf -/
noncomputable def suF (bf : Item → Item → Bool) : Nat → List Item → Nat → List Item × Nat
  | 0, xs, pos => (xs, pos)
  | f + 1, xs, pos => match xs[pickF bf xs (2 * pos + 1)]? with
    | some y => suF bf f (xs.set pos y) (pickF bf xs (2 * pos + 1))
    | none => (xs, pos)
noncomputable def siftF (bf : Item → Item → Bool) (xs : List Item) (pos : Nat) : List Item :=
  match xs[pos]? with
  | some x => let r := suF bf xs.length xs pos; sdF bf pos x r.2 (r.1.set r.2 x) r.2
  | none => xs
noncomputable def popV (xs : List Item) (y : Item) : Item := match xs with | [] => y | x :: _ => x
noncomputable def popR (bf : Item → Item → Bool) (xs : List Item) (y : Item) : List Item := match xs with | [] => [] | _ :: r => siftF bf (y :: r) 0
noncomputable def maxBf (a b : Item) : Bool := decide (b.1.cps.toList < a.1.cps.toList)
noncomputable def minBf (a b : Item) : Bool := decide (a.1.cps.toList < b.1.cps.toList)

section
variable {prog : Program} {w : World} {A : Around} {E : Value → Shared → Prop} {s : Shared} {h₀ : Heap} {L : Addr} {news news' : List (Addr × Obj)} {m : Str → Option Value} {value slice : Expr} {l : Addr} {n : Nat} {k : Int} {u : Tok} {xs : List Item}
theorem item_get {Q : Value → Shared → Prop} (i : Nat) (x : Item) (N : News h₀ L s.heap news) (hm : (l, listOf (vals xs).toArray n) ∈ news) (hk : k = (i : Int)) (hi : i < 2 ^ 62) (hx : xs[i]? = some x) (h : Q (.str x.1 x.2) s)
    (hs : subscripted slice false (.ref l) (.int k u) = operate [.ref l, .int k u] (getItem (.ref l) (.int k u)) := by with_unfolding_all rfl) (hg : ∀ r, letTemporaryGo value (.ref l) r = pure () := by intro _; with_unfolding_all rfl) :
    wpAny (model prog w) A (subscriptTail value slice (.ref l) (.int k u)) Q E s := by
  subst hk
  exact kim_list N hm rfl rfl (by lia) (by lia) (by simp [vals, hx]) h hs hg
theorem item_set {Q : Unit → Shared → Prop} (i : Nat) (x : Item) {rest : List (Addr × Obj)} (F : Fr h₀ L s.heap m) (N : News h₀ L s.heap ((l, listOf (vals xs).toArray n) :: rest)) (hoff : ∀ p ∈ rest, p.1 ≠ l) (hk : k = (i : Int)) (hi : i < 2 ^ 62) (hl : i < xs.length)
    (h : ∀ h', Fr h₀ L h' m → News h₀ L h' ((l, listOf (vals (xs.set i x)).toArray n) :: rest) → Q () { s with heap := h' }) : wpAny (model prog w) A (setItem (.ref l) (.int k u) (.str x.1 x.2)) Q E s := by
  subst hk
  have z := N _ (.head _)
  refine ki_setAt z.1 (by lia) (by lia) (by simp [vals]; lia) (h _ (F.change (Heap.SameBut.update ..) z.2.1 z.2.2) (ki_turn (pre := []) _ N (fun _ h => nomatch h) hoff ?_ ?_))
  · apply Array.toList_inj.mp
    simp [vals, List.map_set]
  · simp [vals]
end
theorem list_len {prog : Program} {w : World} {A : Around} {E : Value → Shared → Prop} {s : Shared} {h₀ : Heap} {L : Addr} {news : List (Addr × Obj)} {l : Addr} {n : Nat} {xs : List Item} {Q : Value → Shared → Prop} (N : News h₀ L s.heap news) (hm : (l, listOf (vals xs).toArray n) ∈ news) (hl : xs.length < 1000)
    (h : Q (.int (xs.length : Nat) (s.toks + 1)) { s with toks := s.toks + 1 + 1 }) : wpAny (model prog w) A (call (.builtin "len") [.ref l]) Q E s :=
  KM.len_K N hm (by simp [vals]) (by lia) h
theorem list_pop {prog : Program} {w : World} {A : Around} {E : Value → Shared → Prop} {s : Shared} {h₀ : Heap} {L : Addr} {m : Str → Option Value} {rest : List (Addr × Obj)} {l : Addr} {n : Nat} {xs : List Item} {y : Item} {Q : Value → Shared → Prop} (F : Fr h₀ L s.heap m) (N : News h₀ L s.heap ((l, listOf (vals (xs ++ [y])).toArray n) :: rest)) (hoff : ∀ p ∈ rest, p.1 ≠ l) (hl : xs.length < 999)
    (h : ∀ h', Fr h₀ L h' m → News h₀ L h' ((l, listOf (vals xs).toArray (n + 1)) :: rest) → Q (.str y.1 y.2) { s with heap := h' }) : wpAny (model prog w) A (call (.builtin "list.pop") [.ref l]) Q E s :=
  kl_pop (p := vals xs) (y := .str y.1 y.2) F N (by simp only [vals, List.map_append, List.map_cons, List.map_nil]; exact kpa_last _ _) (Upd.head hoff) (by simp only [vals, List.length_map, List.length_append, sizeLine]; simp only [List.length_cons, List.length_nil]; lia) h
theorem half_eq {p : Nat} (h : 1 ≤ p) : Int.fdiv ((p : Int) - 1) (2 ^ Int.toNat 1) = (((p - 1) / 2 : Nat) : Int) := by
  rw [Int.fdiv_eq_ediv_of_nonneg _ (by decide)]
  have : (2 : Int) ^ Int.toNat 1 = 2 := by decide
  rw [this]
  lia
section
variable {bf : Item → Item → Bool}
theorem sdF_end {st f p : Nat} {x : Item} {xs : List Item} (h : p ≤ st) : sdF bf st x f xs p = xs.set p x := by
  cases f with
  | zero => rfl
  | succ f => rw [sdF, if_neg (by lia)]
theorem sdF_stop {st p : Nat} {x y : Item} {xs : List Item} (h : st < p) (hy : xs[(p - 1) / 2]? = some y) (hb : bf x y = false) : sdF bf st x p xs p = xs.set p x := by
  cases p with
  | zero => lia
  | succ f => rw [sdF, if_pos (by lia), hy]; simp [hb]
theorem sdF_fuel {st : Nat} {x : Item} : ∀ {f g p : Nat} {xs : List Item}, p ≤ f → p ≤ g → sdF bf st x f xs p = sdF bf st x g xs p
  | 0, 0, _, _, _, _ => rfl
  | 0, g + 1, p, xs, h, _ => by
    obtain rfl : p = 0 := by lia
    rw [sdF, sdF, if_neg (by lia)]
  | f + 1, 0, p, xs, _, h => by
    obtain rfl : p = 0 := by lia
    rw [sdF, sdF, if_neg (by lia)]
  | f + 1, g + 1, p, xs, h1, h2 => by
    rw [sdF, sdF]
    split
    · split
      · split
        · exact sdF_fuel (by lia) (by lia)
        · rfl
      · rfl
    · rfl
theorem sdF_go {st p : Nat} {x y : Item} {xs : List Item} (h : st < p) (hy : xs[(p - 1) / 2]? = some y) (hb : bf x y = true) : sdF bf st x p xs p = sdF bf st x ((p - 1) / 2) (xs.set p y) ((p - 1) / 2) := by
  cases p with
  | zero => lia
  | succ f =>
    rw [sdF, if_pos (by lia), hy]
    simp only [hb, if_true]
    exact sdF_fuel (by lia) (by lia)
theorem suF_len : ∀ {f : Nat} {xs : List Item} {p : Nat}, (suF bf f xs p).1.length = xs.length
  | 0, _, _ => rfl
  | f + 1, xs, p => by
    rw [suF]
    split
    · rw [suF_len, List.length_set]
    · rfl
theorem sdF_len {st : Nat} {x : Item} : ∀ {f : Nat} {xs : List Item} {p : Nat}, (sdF bf st x f xs p).length = xs.length
  | 0, _, _ => by rw [sdF, List.length_set]
  | f + 1, xs, p => by
    rw [sdF]
    split
    · split
      · split
        · rw [sdF_len, List.length_set]
        · rw [List.length_set]
      · rw [List.length_set]
    · rw [List.length_set]
theorem pickF_ge (xs : List Item) (c : Nat) : c ≤ pickF bf xs c := by
  unfold pickF
  split
  · split <;> lia
  · lia
theorem suF_end {f p : Nat} {xs : List Item} (h : xs.length ≤ 2 * p + 1) : suF bf f xs p = (xs, p) := by
  cases f with
  | zero => rfl
  | succ f =>
    rw [suF]
    have : xs[pickF bf xs (2 * p + 1)]? = none := List.getElem?_eq_none (Nat.le_trans h (pickF_ge ..))
    rw [this]
theorem suF_fuel : ∀ {f g p : Nat} {xs : List Item}, xs.length ≤ p + f → xs.length ≤ p + g → suF bf f xs p = suF bf g xs p
  | 0, 0, _, _, _, _ => rfl
  | 0, g + 1, p, xs, h, _ => by rw [suF_end (by lia), suF_end (by lia)]
  | f + 1, 0, p, xs, _, h => by rw [suF_end (by lia), suF_end (by lia)]
  | f + 1, g + 1, p, xs, h1, h2 => by
    rw [suF, suF]
    split
    · have := pickF_ge (bf := bf) xs (2 * p + 1)
      exact suF_fuel (by rw [List.length_set]; lia) (by rw [List.length_set]; lia)
    · rfl
theorem suF_go {n p c : Nat} {y : Item} {xs : List Item} (hn : xs.length = n) (hc : pickF bf xs (2 * p + 1) = c) (hy : xs[c]? = some y) : suF bf (n - p) xs p = suF bf (n - c) (xs.set p y) c := by
  subst hn
  have h1 := (List.getElem?_eq_some_iff.mp hy).1
  have h2 := pickF_ge (bf := bf) xs (2 * p + 1)
  obtain ⟨f, hf⟩ : ∃ f, xs.length - p = f + 1 := ⟨xs.length - p - 1, by lia⟩
  rw [hf, suF, hc, hy]
  exact suF_fuel (by rw [List.length_set]; lia) (by rw [List.length_set]; lia)
theorem siftF_len {xs : List Item} {p : Nat} : (siftF bf xs p).length = xs.length := by
  unfold siftF
  split
  · rw [sdF_len, List.length_set, suF_len]
  · rfl
noncomputable def hpF (bf : Item → Item → Bool) (xs : List Item) : Nat → List Item
  | 0 => xs
  | i + 1 => siftF bf (hpF bf xs i) (2 - i)
theorem pick_one {xs : List Item} {c : Nat} (h : xs.length ≤ c + 1) : pickF bf xs c = c := by
  unfold pickF
  rw [List.getElem?_eq_none h]
  split <;> simp_all
theorem pick_left {xs : List Item} {c : Nat} {y z : Item} (hy : xs[c]? = some y) (hz : xs[c + 1]? = some z) (h : bf y z = true) : pickF bf xs c = c := by
  unfold pickF
  simp [hy, hz, h]
theorem pick_right {xs : List Item} {c : Nat} {y z : Item} (hy : xs[c]? = some y) (hz : xs[c + 1]? = some z) (h : bf y z = false) : pickF bf xs c = c + 1 := by
  unfold pickF
  simp [hy, hz, h]
end
end Mine
end

section
local macro_rules | `(tactic| walk_at $k:str) => if ["call ref", "call builtin:issubclass", "exec For Tuple Call cons nil", "call type:enumerate", "PsPost", "PsEnd", "ElsePost", "ElseEnd", "call builtin:str.join", "subscriptTail Name Name ref int", "subscriptTail Name BinOp ref int", "exec While Compare cons nil", "KswEnd", "call type:reversed", "FsEnd", "call builtin:list.pop"].contains k.getString then `(tactic| refine Mine.halt ?_) else Lean.Macro.throwUnsupported
section
open PySem PySem.W PyProof.Rows
set_option maxRecDepth 100000
set_option maxHeartbeats 8000000
namespace Mine
noncomputable def headF (x : Str) : Str := Txt.slice x none (some (Txt.rfind x (Str.ofString "/") + 1))
noncomputable def dirF (x : Str) : Str := if (headF x).length = 0 then headF x else if (headF x != Txt.mul (Str.ofString "/") ((headF x).length : Nat)) = true then Txt.rstripChars (headF x) (Str.ofString "/") else headF x
theorem str_eq {x y : Str} {t : Tok} (h : x = y) : Value.str x t = Value.str y t := by rw [h]
theorem dirF_1 {x : Str} (h2 : ((Txt.slice x none (some (Txt.rfind x (Str.ofString "/") + 1))).length : Int) ≠ 0) (h1 : (Txt.slice x none (some (Txt.rfind x (Str.ofString "/") + 1)) != Txt.mul (Str.ofString "/") ((Txt.slice x none (some (Txt.rfind x (Str.ofString "/") + 1))).length : Nat)) = true) :
    dirF x = Txt.rstripChars (Txt.slice x none (some (Txt.rfind x (Str.ofString "/") + 1))) (Str.ofString "/") :=
  (if_neg (fun e => h2 (congrArg Int.ofNat e))).trans (if_pos h1)
theorem dirF_2 {x : Str} (h2 : ((Txt.slice x none (some (Txt.rfind x (Str.ofString "/") + 1))).length : Int) ≠ 0) (h1 : (Txt.slice x none (some (Txt.rfind x (Str.ofString "/") + 1)) != Txt.mul (Str.ofString "/") ((Txt.slice x none (some (Txt.rfind x (Str.ofString "/") + 1))).length : Nat)) = false) :
    dirF x = Txt.slice x none (some (Txt.rfind x (Str.ofString "/") + 1)) :=
  (if_neg (fun e => h2 (congrArg Int.ofNat e))).trans (if_neg (fun e => Bool.false_ne_true (h1.symm.trans e)))
theorem dirF_3 {x : Str} (h2 : ((Txt.slice x none (some (Txt.rfind x (Str.ofString "/") + 1))).length : Int) = 0) : dirF x = Txt.slice x none (some (Txt.rfind x (Str.ofString "/") + 1)) :=
  if_pos (show (headF x).length = 0 from Int.ofNat.inj h2)
noncomputable def joinF (a b : Str) : Str := if Txt.endswith a (Str.ofString "/") = true then a ++ b else a ++ (Str.ofString "/" ++ b)
section
theorem imode_c (w : World) (news : List (Addr × Obj)) (x : Int) (tx : Tok) : Ct w 1 190 [.int x tx] news (fun v news' => (∃ t, v = .int (Builtin.bitAnd x 4095) t) ∧ news' = news) := by
  unfold Ct
  k_fill
  intro loose mean mg mb dp un gd cn cs a ccd cl outer A₀ base h₀ L m s Q E B F X N T hk hdp hu hret
  refine wpAny_call ?_
  k_dflt ktr_enter
  k_steps
  exact hret _ _ _ _ ⟨⟨_, rfl⟩, rfl⟩ (by k_asm) (by k_asm)
theorem ifmt_c (w : World) (news : List (Addr × Obj)) (x : Int) (tx : Tok) : Ct w 1 197 [.int x tx] news (fun v news' => (∃ t, v = .int (Builtin.bitAnd x 61440) t) ∧ news' = news) := by
  unfold Ct
  k_fill
  intro loose mean mg mb dp un gd cn cs a ccd cl outer A₀ base h₀ L m s Q E B F X N T hk hdp hu hret
  refine wpAny_call ?_
  k_dflt ktr_enter
  k_steps
  exact hret _ _ _ _ ⟨⟨_, rfl⟩, rfl⟩ (by k_asm) (by k_asm)
theorem fspath_c (w : World) (news : List (Addr × Obj)) (x : Str) (tx : Tok) : Ct w 1 94 [.str x tx] news (fun v news' => v = .str x tx ∧ news' = news) := by
  unfold Ct
  k_fill
  intro loose mean mg mb dp un gd cn cs a ccd cl outer A₀ base h₀ L m s Q E B F X N T hk hdp hu hret
  refine wpAny_call ?_
  k_dflt ktr_enter
  k_steps
  refine Halt.go ?_
  rename News _ _ _ _ => N'
  k_dflt refine issub_str (N' _ (.head _)).1 ?_
  intro tk'
  k_steps
  exact hret _ _ _ _ ⟨rfl, rfl⟩ (by k_asm) (fun p hp => by rename News h₀ _ _ _ => N5; exact N5 p (.tail _ hp))
theorem getsep_c (w : World) (news : List (Addr × Obj)) (x : Str) (tx : Tok) : Ct w 1 108 [.str x tx] news (fun v news' => (∃ t, v = .str (Str.ofString "/") t) ∧ news' = news) := by
  unfold Ct
  k_fill
  intro loose mean mg mb dp un gd cn cs a ccd cl outer A₀ base h₀ L m s Q E B F X N T hk hdp hu hret
  refine wpAny_call ?_
  k_dflt ktr_enter
  k_steps
  exact hret _ _ _ _ ⟨⟨_, rfl⟩, rfl⟩ (by k_asm) (by k_asm)
theorem isdir_c (w : World) (news : List (Addr × Obj)) (x : Int) (tx : Tok) : Ct w 2 204 [.int x tx] news (fun v news' => v = .bool (decide (Builtin.bitAnd x 61440 = 16384)) ∧ news' = news) := by
  unfold Ct
  k_fill
  intro loose mean mg mb dp un gd cn cs a ccd cl outer A₀ base h₀ L m s Q E B F X N T hk hdp hu hret
  refine wpAny_call ?_
  k_dflt ktr_enter
  k_steps
  refine Halt.go ?_
  k_dflt refine ifmt_c w _ x _ _ _ _ _ _ _ _ _ _ _ _ _ _ _ _ _ _ _ _ _ _ (by k_asm) (by k_asm) (by k_asm) (by k_asm) (by k_asm) rfl (by ktr_room) (by ktr_units) ?_
  intro v news' h2 tk2 hpost F2 N2
  obtain ⟨⟨t, rfl⟩, rfl⟩ := hpost
  k_steps
  refine hret _ _ _ _ ⟨?_, rfl⟩ (by k_asm) (by k_asm)
  rfl
theorem dirname_c (w : World) (news : List (Addr × Obj)) (x : Str) (tx : Tok) (hlx : x.length ≤ 1000) : Ct w 2 122 [.str x tx] news (fun v news' => (∃ t, v = .str (dirF x) t) ∧ news' = news) := by
  unfold Ct
  k_fill
  intro loose mean mg mb dp un gd cn cs a ccd cl outer A₀ base h₀ L m s Q E B F X N T hk hdp hu hret
  refine wpAny_call ?_
  k_dflt ktr_enter
  k_steps
  refine Halt.go ?_
  k_dflt refine fspath_c w _ x _ _ _ _ _ _ _ _ _ _ _ _ _ _ _ _ _ _ _ _ _ _ (by k_asm) (by k_asm) (by k_asm) (by k_asm) (by k_asm) rfl (by ktr_room) (by ktr_units) ?_
  intro v news' h2 tk2 hpost F2 N2
  obtain ⟨rfl, rfl⟩ := hpost
  k_steps
  refine Halt.go ?_
  k_dflt refine getsep_c w _ x _ _ _ _ _ _ _ _ _ _ _ _ _ _ _ _ _ _ _ _ _ _ (by k_asm) (by k_asm) (by k_asm) (by k_asm) (by k_asm) rfl (by ktr_room) (by ktr_units) ?_
  intro v news' h2 tk2 hpost F2 N2
  obtain ⟨⟨t, rfl⟩, rfl⟩ := hpost
  k_steps
  · exact hret _ _ _ _ ⟨⟨_, str_eq (dirF_1 (by assumption) (by assumption)).symm⟩, rfl⟩ (by k_asm) (by k_asm)
  · exact hret _ _ _ _ ⟨⟨_, str_eq (dirF_2 (by assumption) (by assumption)).symm⟩, rfl⟩ (by k_asm) (by k_asm)
  · exact hret _ _ _ _ ⟨⟨_, str_eq (dirF_3 (by assumption)).symm⟩, rfl⟩ (by k_asm) (by k_asm)
end
end Mine
end
section
open PySem PySem.W PyProof.Rows PySem.Calls
set_option maxRecDepth 100000
set_option maxHeartbeats 8000000
namespace Mine
section
theorem filemode_c (w : World) (news : List (Addr × Obj)) (x : Int) (tx : Tok) : Ct w 2 244 [.int x tx] news (fun v news' => (∃ t, v = .str (fmF x) t) ∧ news' = news) := by
  unfold Ct
  k_fill
  intro loose mean mg mb dp un gd cn cs a ccd cl outer A₀ base h₀ L m s Q E B F X N T hk hdp hu hret
  refine wpAny_call ?_
  k_dflt ktr_enter
  k_steps
  refine Halt.go ?_
  rename Fr _ _ _ _ => F5
  rename News _ _ _ _ => N5
  k_dflt refine For_pair3F F5 (by exact rfl) (by exact rfl) (by exact rfl) (by exact rfl) ?_ (by intro _; rfl) (by passes_own)
  k_steps
  refine Halt.go ?_
  rename_i l' ha l1 kx
  rename Frag.In _ _ => X'
  have htabs := tabs_in X'
  k_dflt refine enum_tup_st (σ := List (Str × Tok) × Nat) (vs := tabs.map fun t => Value.ref t.1) (fun c => (l', W.listOf (strL c.1).toArray c.2) :: news) [Str.ofString "bit", Str.ofString "char"] (fun i c => c.1.map (·.1) = (List.range i).map (chS x)) ([], 0) (by decide) rfl (fun _ => rfl) F5 N5 (htabs.1.at fun o e => F5.keep _ o e) ?hne (ne_news N5 htabs.1) rfl ?_ ?_
  case hne => exact ne_locals F5 htabs.1
  · intro i v t c u h tk own hv hJ hown F₁ N₁
    obtain ⟨its, n⟩ := c
    clear F5 N5
    obtain ⟨tb, htb, rfl⟩ : ∃ tb, tabs[i]? = some tb ∧ Value.ref tb.1 = v := by simpa using hv
    have hmem := List.mem_of_getElem? htb
    obtain ⟨ht1, ht2⟩ := htabs.2 tb hmem
    obtain ⟨hs1, hs2⟩ := tabs_shape tb hmem
    have hi : i < 10 := (List.getElem?_eq_some_iff.mp htb).1
    have htp : tabP i = tb.2.2 := by unfold tabP; rw [htb]
    obtain ⟨ta, tas, tps⟩ := tb
    dsimp only at N₁ hJ ht1 ht2 hs1 hs2 htp
    k_steps
    rename Fr _ _ _ _ => F6
    rename News _ _ _ _ => N6
    k_dflt refine For_else F6 (hitF i x) (by exact rfl) (by exact rfl) (by exact rfl) (by exact rfl) ?_ (by intro _; rfl) (by passes_own)
    k_steps
    have hz : its.length ≤ 1000 := by rw [its_len hJ]; lia
    refine ⟨ta, tas, tps, _, _, rfl, ht1, hs1, ht2, F6, N6, ?_, ?_⟩
    · intro pre b c post h2 tk2 own2 hsp hno hown2 F₂ N₂
      have hoff : ∀ p ∈ news ++ (own ++ own2), p.1 ≠ l' := fun p hp => by
        rcases List.mem_append.mp hp with hp | hp
        · exact Nat.ne_of_lt (l1 p hp)
        · rcases List.mem_append.mp hp with hp | hp
          · exact hown p hp _ (.head _)
          · exact hown2 p hp (l', _) (.head _)
      simp only [List.cons_append, List.nil_append, List.append_assoc] at N₂
      clear F6 N6
      obtain ⟨bi, bt, ci, ct, hbc, hcl⟩ := hs2 (b, c) (by rw [hsp]; simp)
      obtain ⟨rfl, rfl⟩ := Prod.mk.inj hbc
      have hhit : ∀ hv : hitF i x (.int bi bt, .str ci ct) = true, chS x i = ci := fun hv => chS_hit htp hsp hno rfl hv
      k_steps
      · refine Halt.go ?_
        k_dflt refine ifmt_c w _ x _ _ _ _ _ _ _ _ _ _ _ _ _ _ _ _ _ _ _ _ _ _ (by k_asm) (by k_asm) (by k_asm) (by k_asm) (by k_asm) rfl (by ktr_room) (by ktr_units) ?_
        intro v news' h3 tk3 hpost F3 N3
        obtain ⟨⟨t3, rfl⟩, rfl⟩ := hpost
        k_steps
        · k_dflt refine append_led (by k_asm) (by k_asm) hoff hz ?_
          intro h4 F4 N4
          k_steps
          refine Halt.go ?_
          dsimp only [ElsePost]
          k_steps
          refine Halt.go ?_
          rename Fr _ _ _ _ => F9
          rename News _ _ _ _ => N9
          exact ps_end (its ++ [(ci, ct)], n + 1) F9 (news_sub N9 fun p hp => by simp only [List.cons_append, List.mem_cons, List.mem_append] at hp ⊢; rcases hp with h | h | h <;> simp [h]) (by intro z g1 g2 g3; obtain ⟨g4, g5⟩ := ne_of_not2 g3; simp only [g1, g2, g3, g4, g5, if_false, Bool.false_eq_true]) (chS_step hJ (hhit (hit_0 (by assumption) (by assumption))))
        · refine Halt.go ?_
          rename Fr _ _ _ _ => F9
          rename News _ _ _ _ => N9
          exact else_end (miss_0 (by assumption) (by assumption)) F9 (news_sub N9 fun p hp => by simp only [List.cons_append, List.mem_cons, List.mem_append] at hp ⊢; rcases hp with h | (h | h) | h <;> simp [h]) (by intro z g1 g2; simp only [g1, g2, if_false])
      · k_dflt refine append_led (by k_asm) (by k_asm) hoff hz ?_
        intro h3 F3 N3
        k_steps
        refine Halt.go ?_
        dsimp only [ElsePost]
        k_steps
        refine Halt.go ?_
        rename Fr _ _ _ _ => F9
        rename News _ _ _ _ => N9
        exact ps_end (its ++ [(ci, ct)], n + 1) F9 (news_sub N9 fun p hp => by simp only [List.cons_append, List.mem_cons, List.mem_append] at hp ⊢; rcases hp with h | h | h <;> simp [h]) (by intro z g1 g2 g3; obtain ⟨g4, g5⟩ := ne_of_not2 g3; simp only [g1, g2, g3, g4, g5, if_false, Bool.false_eq_true]) (chS_step hJ (hhit (hit_1 (by assumption) (by assumption))))
      · refine Halt.go ?_
        rename Fr _ _ _ _ => F9
        rename News _ _ _ _ => N9
        exact else_end (miss_1 (by assumption) (by assumption)) F9 (news_sub N9 fun p hp => by simp only [List.cons_append, List.mem_cons, List.mem_append] at hp ⊢; rcases hp with h | (h | h) | h <;> simp [h]) (by intro z g1 g2; simp only [g1, g2, if_false])
    · intro u2 h2 tk2 hno F₂ N₂
      have hoff : ∀ p ∈ news ++ own, p.1 ≠ l' := fun p hp => by
        rcases List.mem_append.mp hp with hp | hp
        · exact Nat.ne_of_lt (l1 p hp)
        · exact hown p hp _ (.head _)
      clear F6 N6
      simp only [List.cons_append, List.nil_append, List.append_assoc] at N₂
      have hch := chS_miss htp hno
      k_steps
      · k_dflt refine append_led (by k_asm) (by k_asm) hoff hz ?_
        intro h3 F3 N3
        k_steps
        refine Halt.go ?_
        rename Fr _ _ _ _ => F9
        rename News _ _ _ _ => N9
        exact ps_end (its ++ [(_, _)], n + 1) F9 (by simpa using N9) (by intro z g1 g2 g3; obtain ⟨g4, g5⟩ := ne_of_not2 g3; simp only [g1, g2, g3, g4, g5, if_false, Bool.false_eq_true]) (chS_step hJ (hch.trans (if_pos (Int.ofNat.inj (by assumption)))))
      · k_dflt refine append_led (by k_asm) (by k_asm) hoff hz ?_
        intro h3 F3 N3
        k_steps
        refine Halt.go ?_
        rename Fr _ _ _ _ => F9
        rename News _ _ _ _ => N9
        exact ps_end (its ++ [(_, _)], n + 1) F9 (by simpa using N9) (by intro z g1 g2 g3; obtain ⟨g4, g5⟩ := ne_of_not2 g3; simp only [g1, g2, g3, g4, g5, if_false, Bool.false_eq_true]) (chS_step hJ (hch.trans (if_neg fun e => absurd (congrArg Int.ofNat e) (by assumption))))
  · intro c u h tk hJ F₁ N₁
    obtain ⟨its, n⟩ := c
    dsimp only at N₁ hJ
    clear F5 N5
    k_steps
    refine Halt.go ?_
    have hz : its.length ≤ 100 := by rw [its_len hJ]; decide
    k_dflt refine join_led (by k_asm) (.head _) hz ?hz1 (by decide) ?_
    case hz1 =>
      intro y hy
      rw [hJ] at hy
      obtain ⟨j, _, rfl⟩ := List.mem_map.mp hy
      exact Nat.le_trans fm_len (by decide)
    intro tj kj hjl
    k_steps
    have e : its.map (fun p => p.1) = (List.range 10).map (chS x) := hJ
    rw [e]
    rename News _ _ _ _ => N9
    exact hret _ _ _ _ ⟨⟨_, rfl⟩, rfl⟩ (by k_asm) (fun p hp => N9 p (.tail _ hp))
end
end Mine
end
section
open PySem PySem.W PyProof.Rows
set_option maxRecDepth 100000
set_option maxHeartbeats 8000000
namespace Mine

section
theorem siftdown_max_c (w : World) (rest : List (Addr × Obj)) (l : Addr) (xs : List Item) (n : Nat) (st ps : Nat) (t1 t2 : Tok) (x : Item) (hoff : ∀ p ∈ rest, p.1 ≠ l) (hx : xs[ps]? = some x) (hps : ps < 1000) (hst : st < 1000) :
    Ct w 1 176 [.ref l, .int st t1, .int ps t2] ((l, W.listOf (vals xs).toArray n) :: rest) (fun v news' => v = .none ∧ news' = (l, W.listOf (vals (sdF maxBf st x ps xs ps)).toArray n) :: rest) := by
  unfold Ct
  k_fill
  intro loose mean mg mb dp un gd cn cs a ccd cl outer A₀ base h₀ L m s Q E B F X N T hk hdp hu hret
  refine wpAny_call ?_
  k_dflt ktr_enter
  k_steps
  refine Halt.go ?_
  k_dflt refine item_get ps x (by k_asm) (by k_mem) rfl (by omega) hx ?_
  k_steps
  refine Halt.go ?_
  rename Fr _ _ _ _ => F'
  rename News _ _ _ _ => N'
  refine ksw_while (σ := List Item × Nat × Tok) (fun c => (l, W.listOf (vals c.1).toArray n) :: rest) (fun c => [(Str.ofString "pos", .int (c.2.1 : Int) c.2.2)]) (fun _ => True) [Str.ofString "parentpos", Str.ofString "parent"] (fun c => c.2.1 < c.1.length ∧ c.2.1 ≤ ps ∧ sdF maxBf st x c.2.1 c.1 c.2.1 = sdF maxBf st x ps xs ps) (fun c => c.2.1) (xs, ps, t2) F' N' trivial ?kk ?kp ?_
  case kk => kst_all
  case kp => exact ⟨(List.getElem?_eq_some_iff.mp hx).1, Nat.le_refl _, rfl⟩
  intro c u h tk _ hP F'' N''
  obtain ⟨ys, p, tp⟩ := c
  obtain ⟨hp1, hp2, hp3⟩ := hP
  dsimp only at hp1 hp2 hp3 N''
  dsimp only [kstB] at F''
  clear F' N'
  k_steps
  · rename (st : Int) < (p : Int) => hlt
    have hlt' : st < p := by omega
    obtain ⟨y, hy⟩ : ∃ y, ys[(p - 1) / 2]? = some y := ⟨_, List.getElem?_eq_getElem (by omega)⟩
    refine Halt.go ?_
    k_dflt refine item_get ((p - 1) / 2) y (by k_asm) (by k_mem) (half_eq (by omega)) (by omega) hy ?_
    k_steps
    · rename y.fst.cps.toList < x.fst.cps.toList => hb
      k_dflt refine item_set p y (by k_asm) (by k_asm) hoff rfl (by omega) hp1 ?_
      intro h' F' N'
      k_steps
      rename Fr _ _ _ _ => F5
      rename News _ _ _ _ => N5
      refine Halt.go (ksw_end (ys.set p y, (p - 1) / 2, ?tok) F5 N5 (fun _ h => h) trivial (fun q hq => ?hk) (by ksw_same) ⟨by simp; omega, by simp; omega, ?hp⟩ (by show (p - 1) / 2 < p; omega))
      case hp => rw [← hp3, sdF_go hlt' hy (by simp [maxBf, hb])]
      case hk =>
        rw [List.mem_singleton.mp hq]
        exact some_int (half_eq (p := p) (by omega))
    · rename ¬ y.fst.cps.toList < x.fst.cps.toList => hb
      k_dflt refine item_set p x (by k_asm) (by k_asm) hoff rfl (by omega) hp1 ?_
      intro h' F' N'
      k_steps
      refine hret _ _ _ _ ⟨rfl, rfl⟩ (by k_asm) ?_
      rw [← hp3, sdF_stop hlt' hy (by simp [maxBf, hb])]
      k_asm
  · rename ¬ (st : Int) < (p : Int) => hlt
    k_dflt refine item_set p x (by k_asm) (by k_asm) hoff rfl (by omega) hp1 ?_
    intro h' F' N'
    k_steps
    refine hret _ _ _ _ ⟨rfl, rfl⟩ (by k_asm) ?_
    rw [← hp3, sdF_end (by omega)]
    k_asm
end

section
theorem siftdown_c (w : World) (rest : List (Addr × Obj)) (l : Addr) (xs : List Item) (n : Nat) (st ps : Nat) (t1 t2 : Tok) (x : Item) (hoff : ∀ p ∈ rest, p.1 ≠ l) (hx : xs[ps]? = some x) (hps : ps < 1000) (hst : st < 1000) :
    Ct w 1 162 [.ref l, .int st t1, .int ps t2] ((l, W.listOf (vals xs).toArray n) :: rest) (fun v news' => v = .none ∧ news' = (l, W.listOf (vals (sdF minBf st x ps xs ps)).toArray n) :: rest) := by
  unfold Ct
  k_fill
  intro loose mean mg mb dp un gd cn cs a ccd cl outer A₀ base h₀ L m s Q E B F X N T hk hdp hu hret
  refine wpAny_call ?_
  k_dflt ktr_enter
  k_steps
  refine Halt.go ?_
  k_dflt refine item_get ps x (by k_asm) (by k_mem) rfl (by omega) hx ?_
  k_steps
  refine Halt.go ?_
  rename Fr _ _ _ _ => F'
  rename News _ _ _ _ => N'
  refine ksw_while (σ := List Item × Nat × Tok) (fun c => (l, W.listOf (vals c.1).toArray n) :: rest) (fun c => [(Str.ofString "pos", .int (c.2.1 : Int) c.2.2)]) (fun _ => True) [Str.ofString "parentpos", Str.ofString "parent"] (fun c => c.2.1 < c.1.length ∧ c.2.1 ≤ ps ∧ sdF minBf st x c.2.1 c.1 c.2.1 = sdF minBf st x ps xs ps) (fun c => c.2.1) (xs, ps, t2) F' N' trivial ?kk ?kp ?_
  case kk => kst_all
  case kp => exact ⟨(List.getElem?_eq_some_iff.mp hx).1, Nat.le_refl _, rfl⟩
  intro c u h tk _ hP F'' N''
  obtain ⟨ys, p, tp⟩ := c
  obtain ⟨hp1, hp2, hp3⟩ := hP
  dsimp only at hp1 hp2 hp3 N''
  dsimp only [kstB] at F''
  clear F' N'
  k_steps
  · rename (st : Int) < (p : Int) => hlt
    have hlt' : st < p := by omega
    obtain ⟨y, hy⟩ : ∃ y, ys[(p - 1) / 2]? = some y := ⟨_, List.getElem?_eq_getElem (by omega)⟩
    refine Halt.go ?_
    k_dflt refine item_get ((p - 1) / 2) y (by k_asm) (by k_mem) (half_eq (by omega)) (by omega) hy ?_
    k_steps
    · rename x.fst.cps.toList < y.fst.cps.toList => hb
      k_dflt refine item_set p y (by k_asm) (by k_asm) hoff rfl (by omega) hp1 ?_
      intro h' F' N'
      k_steps
      rename Fr _ _ _ _ => F5
      rename News _ _ _ _ => N5
      refine Halt.go (ksw_end (ys.set p y, (p - 1) / 2, ?tok) F5 N5 (fun _ h => h) trivial (fun q hq => ?hk) (by ksw_same) ⟨by simp; omega, by simp; omega, ?hp⟩ (by show (p - 1) / 2 < p; omega))
      case hp => rw [← hp3, sdF_go hlt' hy (by simp [minBf, hb])]
      case hk =>
        rw [List.mem_singleton.mp hq]
        exact some_int (half_eq (p := p) (by omega))
    · rename ¬ x.fst.cps.toList < y.fst.cps.toList => hb
      k_dflt refine item_set p x (by k_asm) (by k_asm) hoff rfl (by omega) hp1 ?_
      intro h' F' N'
      k_steps
      refine hret _ _ _ _ ⟨rfl, rfl⟩ (by k_asm) ?_
      rw [← hp3, sdF_stop hlt' hy (by simp [minBf, hb])]
      k_asm
  · rename ¬ (st : Int) < (p : Int) => hlt
    k_dflt refine item_set p x (by k_asm) (by k_asm) hoff rfl (by omega) hp1 ?_
    intro h' F' N'
    k_steps
    refine hret _ _ _ _ ⟨rfl, rfl⟩ (by k_asm) ?_
    rw [← hp3, sdF_end (by omega)]
    k_asm
end
end Mine
end
section
open PySem PySem.W PyProof.Rows
set_option maxRecDepth 100000
set_option maxHeartbeats 8000000
namespace Mine

section
theorem siftup_max_c (w : World) (rest : List (Addr × Obj)) (l : Addr) (xs : List Item) (n : Nat) (ps : Nat) (t2 : Tok) (x : Item) (hoff : ∀ p ∈ rest, p.1 ≠ l) (hx : xs[ps]? = some x) (hlen : xs.length < 1000) :
    Ct w 2 183 [.ref l, .int ps t2] ((l, W.listOf (vals xs).toArray n) :: rest) (fun v news' => v = .none ∧ news' = (l, W.listOf (vals (siftF maxBf xs ps)).toArray n) :: rest) := by
  unfold Ct
  k_fill
  intro loose mean mg mb dp un gd cn cs a ccd cl outer A₀ base h₀ L m s Q E B F X N T hk hdp hu hret
  refine wpAny_call ?_
  k_dflt ktr_enter
  k_steps
  have hps : ps < xs.length := (List.getElem?_eq_some_iff.mp hx).1
  k_dflt refine list_len (by k_asm) (by k_mem) hlen ?_
  k_steps
  refine Halt.go ?_
  k_dflt refine item_get ps x (by k_asm) (by k_mem) rfl (by omega) hx ?_
  k_steps
  refine Halt.go ?_
  rename Fr _ _ _ _ => F'
  rename News _ _ _ _ => N'
  refine ksw_while (σ := List Item × Nat × Tok × Tok) (fun c => (l, W.listOf (vals c.1).toArray n) :: rest) (fun c => [(Str.ofString "pos", .int (c.2.1 : Int) c.2.2.1), (Str.ofString "childpos", .int (2 * (c.2.1 : Int) + 1) c.2.2.2)]) (fun _ => True) [Str.ofString "rightpos"] (fun c => c.1.length = xs.length ∧ c.2.1 < xs.length ∧ suF maxBf (xs.length - c.2.1) c.1 c.2.1 = suF maxBf xs.length xs ps) (fun c => xs.length - c.2.1) (xs, ps, t2, ?tok) F' N' trivial ?kk ?kp ?_
  case kk => kst_all
  case kp => exact ⟨rfl, hps, suF_fuel (by show xs.length ≤ ps + (xs.length - ps); omega) (by show xs.length ≤ ps + xs.length; omega)⟩
  intro c u h tk _ hP F'' N''
  obtain ⟨ys, p, tp, tc⟩ := c
  obtain ⟨hp1, hp2, hp3⟩ := hP
  dsimp only at hp1 hp2 hp3 N''
  dsimp only [kstB] at F''
  clear F' N'
  k_steps
  · rename 2 * (p : Int) + 1 < (xs.length : Int) => h1
    rename 2 * (p : Int) + 1 + 1 < (xs.length : Int) => h2
    obtain ⟨y, hy⟩ : ∃ y, ys[2 * p + 1]? = some y := ⟨_, List.getElem?_eq_getElem (by omega)⟩
    obtain ⟨z, hz⟩ : ∃ z, ys[2 * p + 1 + 1]? = some z := ⟨_, List.getElem?_eq_getElem (by omega)⟩
    refine Halt.go ?_
    k_dflt refine item_get (2 * p + 1 + 1) z (by k_asm) (by k_mem) (by omega) (by omega) hz ?_
    k_steps
    refine Halt.go ?_
    k_dflt refine item_get (2 * p + 1) y (by k_asm) (by k_mem) (by omega) (by omega) hy ?_
    k_steps
    · rename z.fst.cps.toList < y.fst.cps.toList => hb
      refine Halt.go ?_
      k_dflt refine item_get (2 * p + 1) y (by k_asm) (by k_mem) (by omega) (by omega) hy ?_
      k_steps
      k_dflt refine item_set p y (by k_asm) (by k_asm) hoff rfl (by omega) (by omega) ?_
      intro h' F' N'
      k_steps
      rename Fr _ _ _ _ => F5
      rename News _ _ _ _ => N5
      refine Halt.go (ksw_end (ys.set p y, 2 * p + 1, ?ta1, ?tb1) F5 N5 (fun _ h => h) trivial (fun q hq => ?hk) (by ksw_same) ⟨by simp [hp1], by show 2 * p + 1 < xs.length; omega, ?hp⟩ (by show xs.length - (2 * p + 1) < xs.length - p; omega))
      case hp => rw [← hp3]; exact (suF_go hp1 (pick_left hy hz (by simp [maxBf, hb])) hy).symm
      case hk =>
        rcases List.mem_cons.mp hq with rfl | hq
        · exact some_int (x := 2 * (p : Int) + 1) (y := ((2 * p + 1 : Nat) : Int)) (by omega)
        · rw [List.mem_singleton.mp hq]
          exact some_int (x := 2 * (2 * (p : Int) + 1) + 1) (y := 2 * ((2 * p + 1 : Nat) : Int) + 1) (by omega)
    · rename ¬ z.fst.cps.toList < y.fst.cps.toList => hb
      refine Halt.go ?_
      k_dflt refine item_get (2 * p + 1 + 1) z (by k_asm) (by k_mem) (by omega) (by omega) hz ?_
      k_steps
      k_dflt refine item_set p z (by k_asm) (by k_asm) hoff rfl (by omega) (by omega) ?_
      intro h' F' N'
      k_steps
      rename Fr _ _ _ _ => F5
      rename News _ _ _ _ => N5
      refine Halt.go (ksw_end (ys.set p z, 2 * p + 1 + 1, ?ta2, ?tb2) F5 N5 (fun _ h => h) trivial (fun q hq => ?hk) (by ksw_same) ⟨by simp [hp1], by show 2 * p + 1 + 1 < xs.length; omega, ?hp⟩ (by show xs.length - (2 * p + 1 + 1) < xs.length - p; omega))
      case hp => rw [← hp3]; exact (suF_go hp1 (pick_right hy hz (by simp [maxBf, hb])) hz).symm
      case hk =>
        rcases List.mem_cons.mp hq with rfl | hq
        · exact some_int (x := 2 * (p : Int) + 1 + 1) (y := ((2 * p + 1 + 1 : Nat) : Int)) (by omega)
        · rw [List.mem_singleton.mp hq]
          exact some_int (x := 2 * (2 * (p : Int) + 1 + 1) + 1) (y := 2 * ((2 * p + 1 + 1 : Nat) : Int) + 1) (by omega)
  · rename 2 * (p : Int) + 1 < (xs.length : Int) => h1
    rename ¬ 2 * (p : Int) + 1 + 1 < (xs.length : Int) => h2
    obtain ⟨y, hy⟩ : ∃ y, ys[2 * p + 1]? = some y := ⟨_, List.getElem?_eq_getElem (by omega)⟩
    refine Halt.go ?_
    k_dflt refine item_get (2 * p + 1) y (by k_asm) (by k_mem) (by omega) (by omega) hy ?_
    k_steps
    k_dflt refine item_set p y (by k_asm) (by k_asm) hoff rfl (by omega) (by omega) ?_
    intro h' F' N'
    k_steps
    rename Fr _ _ _ _ => F5
    rename News _ _ _ _ => N5
    refine Halt.go (ksw_end (ys.set p y, 2 * p + 1, ?ta3, ?tb3) F5 N5 (fun _ h => h) trivial (fun q hq => ?hk) (by ksw_same) ⟨by simp [hp1], by show 2 * p + 1 < xs.length; omega, ?hp⟩ (by show xs.length - (2 * p + 1) < xs.length - p; omega))
    case hp => rw [← hp3]; exact (suF_go hp1 (pick_one (by omega)) hy).symm
    case hk =>
      rcases List.mem_cons.mp hq with rfl | hq
      · exact some_int (x := 2 * (p : Int) + 1) (y := ((2 * p + 1 : Nat) : Int)) (by omega)
      · rw [List.mem_singleton.mp hq]
        exact some_int (x := 2 * (2 * (p : Int) + 1) + 1) (y := 2 * ((2 * p + 1 : Nat) : Int) + 1) (by omega)
  · rename ¬ 2 * (p : Int) + 1 < (xs.length : Int) => h1
    k_dflt refine item_set p x (by k_asm) (by k_asm) hoff rfl (by omega) (by omega) ?_
    intro h' F' N'
    k_steps
    refine Halt.go ?_
    k_dflt refine siftdown_max_c w rest l (ys.set p x) n ps p _ _ x hoff (by rw [List.getElem?_set_self (by omega)]) (by omega) (by omega) _ _ _ _ _ _ _ _ _ _ _ _ _ _ _ _ _ _ _ _ _ (by k_asm) (by k_asm) (by k_asm) (by k_asm) (by k_asm) rfl (by ktr_room) (by ktr_units) ?_
    intro v news' h2 tk2 hpost F2 N2
    obtain ⟨rfl, rfl⟩ := hpost
    k_steps
    refine hret _ _ _ _ ⟨rfl, rfl⟩ (by k_asm) ?_
    have e : siftF maxBf xs ps = sdF maxBf ps x p (ys.set p x) p := by
      unfold siftF
      rw [hx, ← hp3, suF_end (by omega)]
    rw [e]
    k_asm
end
end Mine
end
section
open PySem PySem.W PyProof.Rows
set_option maxRecDepth 100000
set_option maxHeartbeats 8000000
namespace Mine

section
theorem heapify_max_c (w : World) (rest : List (Addr × Obj)) (l : Addr) (xs : List Item) (n : Nat) (hoff : ∀ p ∈ rest, p.1 ≠ l) (hlen : xs.length = 7) :
    Ct w 3 155 [.ref l] ((l, W.listOf (vals xs).toArray n) :: rest) (fun v news' => v = .none ∧ news' = (l, W.listOf (vals (siftF maxBf (siftF maxBf (siftF maxBf xs 2) 1) 0)).toArray n) :: rest) := by
  unfold Ct
  k_fill
  intro loose mean mg mb dp un gd cn cs a ccd cl outer A₀ base h₀ L m s Q E B F X N T hk hdp hu hret
  refine wpAny_call ?_
  k_dflt ktr_enter
  k_steps
  k_dflt refine list_len (by k_asm) (by k_mem) (by omega) ?_
  rw [hlen]
  k_steps
  refine Halt.go ?_
  rename IsRange _ _ _ _ _ _ _ _ => hR
  k_dflt refine rev3_st (σ := List Item) (fun c => (l, W.listOf (vals c).toArray n) :: rest) (fun _ => []) [] (fun i c => c = hpF maxBf xs i ∧ c.length = 7) xs rfl hR (by k_asm) (by k_asm) (fun _ h => nomatch h) ⟨rfl, hlen⟩ ?_ ?_
  · intro I i t d u h tk own hi hJ ho1 ho2 ho3 F₁ N₁
    obtain ⟨hJ, hJ7⟩ := hJ
    dsimp only [kstB] at F₁
    have hoff' : ∀ p ∈ rest ++ own, p.1 ≠ l := by
      intro p hp e
      rcases List.mem_append.mp hp with hp | hp
      · exact hoff p hp e
      · exact ho3 _ (.head _) (e.symm.trans (ho1 p hp))
    k_steps
    refine Halt.go ?_
    obtain ⟨x, hx⟩ : ∃ x, d[2 - i]? = some x := ⟨_, List.getElem?_eq_getElem (by omega)⟩
    have ei : (2 + (i : Int) * (-1)) = ((2 - i : Nat) : Int) := by omega
    rw [ei]
    k_dflt refine siftup_max_c w (rest ++ own) l d n (2 - i) _ x hoff' hx (by omega) _ _ _ _ _ _ _ _ _ _ _ _ _ _ _ _ _ _ _ _ _ (by k_asm) (by k_asm) (by k_asm) N₁ (by k_asm) rfl (by ktr_room) (by ktr_units) ?_
    intro v news' h2 tk2 hpost F2 N2
    obtain ⟨rfl, rfl⟩ := hpost
    k_steps
    k_dflt refine fs_end (siftF maxBf d (2 - i)) F2 N2 (fun p hp => ?_) (fun p hp => .tail _ (List.mem_append.mpr (.inr hp))) (fun p hp => ?_) (fun _ h => nomatch h) (fun z hz _ _ => by simp [hz]) ⟨by rw [hJ]; rfl, by rw [siftF_len, hJ7]⟩
    · rcases List.mem_cons.mp hp with rfl | hp
      · exact .head _
      · exact .tail _ (List.mem_append.mpr (.inl hp))
    · intro hm
      have e := List.mem_singleton.mp hm
      rcases List.mem_cons.mp hp with rfl | hp
      · exact ho3 _ (.head _) e
      · exact ho3 _ (.tail _ hp) e
  · intro d u h tk hJ F₁ N₁
    dsimp only [kstB] at F₁
    k_steps
    obtain ⟨rfl, _⟩ := hJ
    exact hret _ _ _ _ ⟨rfl, rfl⟩ (by k_asm) (by k_asm)
end
end Mine
end
section
open PySem PySem.W PyProof.Rows
set_option maxRecDepth 100000
set_option maxHeartbeats 8000000
namespace Mine

section
theorem heappop_max_c (w : World) (rest : List (Addr × Obj)) (l : Addr) (xs : List Item) (y : Item) (n : Nat) (hoff : ∀ p ∈ rest, p.1 ≠ l) (hlen : xs.length < 999) :
    Ct w 3 148 [.ref l] ((l, W.listOf (vals (xs ++ [y])).toArray n) :: rest) (fun v news' => v = Item.val (popV xs y) ∧ news' = (l, W.listOf (vals (popR maxBf xs y)).toArray (n + 1)) :: rest) := by
  unfold Ct
  k_fill
  intro loose mean mg mb dp un gd cn cs a ccd cl outer A₀ base h₀ L m s Q E B F X N T hk hdp hu hret
  refine wpAny_call ?_
  k_dflt ktr_enter
  k_steps
  refine Halt.go ?_
  k_dflt refine list_pop (by k_asm) (by k_asm) hoff hlen ?_
  intro h' F' N'
  k_steps
  · rename (vals xs).isEmpty = true => he
    obtain rfl : xs = [] := by cases xs with
      | nil => rfl
      | cons _ _ => cases he
    exact hret _ _ _ _ ⟨rfl, rfl⟩ (by k_asm) (by k_asm)
  · rename (vals xs).isEmpty = false => he
    obtain ⟨x, r, rfl⟩ : ∃ x r, xs = x :: r := by cases xs with
      | nil => cases he
      | cons x r => exact ⟨x, r, rfl⟩
    k_dflt refine item_get 0 x (by k_asm) (by k_mem) rfl (by omega) rfl ?_
    k_steps
    k_dflt refine item_set 0 y (by k_asm) (by k_asm) hoff rfl (by omega) (by simp) ?_
    intro h' F' N'
    k_steps
    refine Halt.go ?_
    k_dflt refine siftup_max_c w rest l (y :: r) (n + 1) 0 _ y hoff rfl (by simpa using Nat.lt_succ_of_lt hlen) _ _ _ _ _ _ _ _ _ _ _ _ _ _ _ _ _ _ _ _ _ (by k_asm) (by k_asm) (by k_asm) (by k_asm) (by k_asm) rfl (by ktr_room) (by ktr_units) ?_
    intro v news' h2 tk2 hpost F2 N2
    obtain ⟨rfl, rfl⟩ := hpost
    k_steps
    exact hret _ _ _ _ ⟨rfl, rfl⟩ (by k_asm) (by k_asm)
end
end Mine
end
section
open PySem PySem.W PyProof.Rows
set_option maxRecDepth 100000
set_option maxHeartbeats 8000000
namespace Mine

section
theorem siftup_c (w : World) (rest : List (Addr × Obj)) (l : Addr) (xs : List Item) (n : Nat) (ps : Nat) (t2 : Tok) (x : Item) (hoff : ∀ p ∈ rest, p.1 ≠ l) (hx : xs[ps]? = some x) (hlen : xs.length < 1000) :
    Ct w 2 169 [.ref l, .int ps t2] ((l, W.listOf (vals xs).toArray n) :: rest) (fun v news' => v = .none ∧ news' = (l, W.listOf (vals (siftF minBf xs ps)).toArray n) :: rest) := by
  unfold Ct
  k_fill
  intro loose mean mg mb dp un gd cn cs a ccd cl outer A₀ base h₀ L m s Q E B F X N T hk hdp hu hret
  refine wpAny_call ?_
  k_dflt ktr_enter
  k_steps
  have hps : ps < xs.length := (List.getElem?_eq_some_iff.mp hx).1
  k_dflt refine list_len (by k_asm) (by k_mem) hlen ?_
  k_steps
  refine Halt.go ?_
  k_dflt refine item_get ps x (by k_asm) (by k_mem) rfl (by omega) hx ?_
  k_steps
  refine Halt.go ?_
  rename Fr _ _ _ _ => F'
  rename News _ _ _ _ => N'
  refine ksw_while (σ := List Item × Nat × Tok × Tok) (fun c => (l, W.listOf (vals c.1).toArray n) :: rest) (fun c => [(Str.ofString "pos", .int (c.2.1 : Int) c.2.2.1), (Str.ofString "childpos", .int (2 * (c.2.1 : Int) + 1) c.2.2.2)]) (fun _ => True) [Str.ofString "rightpos"] (fun c => c.1.length = xs.length ∧ c.2.1 < xs.length ∧ suF minBf (xs.length - c.2.1) c.1 c.2.1 = suF minBf xs.length xs ps) (fun c => xs.length - c.2.1) (xs, ps, t2, ?tok) F' N' trivial ?kk ?kp ?_
  case kk => kst_all
  case kp => exact ⟨rfl, hps, suF_fuel (by show xs.length ≤ ps + (xs.length - ps); omega) (by show xs.length ≤ ps + xs.length; omega)⟩
  intro c u h tk _ hP F'' N''
  obtain ⟨ys, p, tp, tc⟩ := c
  obtain ⟨hp1, hp2, hp3⟩ := hP
  dsimp only at hp1 hp2 hp3 N''
  dsimp only [kstB] at F''
  clear F' N'
  k_steps
  · rename 2 * (p : Int) + 1 < (xs.length : Int) => h1
    rename 2 * (p : Int) + 1 + 1 < (xs.length : Int) => h2
    obtain ⟨y, hy⟩ : ∃ y, ys[2 * p + 1]? = some y := ⟨_, List.getElem?_eq_getElem (by omega)⟩
    obtain ⟨z, hz⟩ : ∃ z, ys[2 * p + 1 + 1]? = some z := ⟨_, List.getElem?_eq_getElem (by omega)⟩
    refine Halt.go ?_
    k_dflt refine item_get (2 * p + 1) y (by k_asm) (by k_mem) (by omega) (by omega) hy ?_
    k_steps
    refine Halt.go ?_
    k_dflt refine item_get (2 * p + 1 + 1) z (by k_asm) (by k_mem) (by omega) (by omega) hz ?_
    k_steps
    · rename y.fst.cps.toList < z.fst.cps.toList => hb
      refine Halt.go ?_
      k_dflt refine item_get (2 * p + 1) y (by k_asm) (by k_mem) (by omega) (by omega) hy ?_
      k_steps
      k_dflt refine item_set p y (by k_asm) (by k_asm) hoff rfl (by omega) (by omega) ?_
      intro h' F' N'
      k_steps
      rename Fr _ _ _ _ => F5
      rename News _ _ _ _ => N5
      refine Halt.go (ksw_end (ys.set p y, 2 * p + 1, ?ta1, ?tb1) F5 N5 (fun _ h => h) trivial (fun q hq => ?hk) (by ksw_same) ⟨by simp [hp1], by show 2 * p + 1 < xs.length; omega, ?hp⟩ (by show xs.length - (2 * p + 1) < xs.length - p; omega))
      case hp => rw [← hp3]; exact (suF_go hp1 (pick_left hy hz (by simp [minBf, hb])) hy).symm
      case hk =>
        rcases List.mem_cons.mp hq with rfl | hq
        · exact some_int (x := 2 * (p : Int) + 1) (y := ((2 * p + 1 : Nat) : Int)) (by omega)
        · rw [List.mem_singleton.mp hq]
          exact some_int (x := 2 * (2 * (p : Int) + 1) + 1) (y := 2 * ((2 * p + 1 : Nat) : Int) + 1) (by omega)
    · rename ¬ y.fst.cps.toList < z.fst.cps.toList => hb
      refine Halt.go ?_
      k_dflt refine item_get (2 * p + 1 + 1) z (by k_asm) (by k_mem) (by omega) (by omega) hz ?_
      k_steps
      k_dflt refine item_set p z (by k_asm) (by k_asm) hoff rfl (by omega) (by omega) ?_
      intro h' F' N'
      k_steps
      rename Fr _ _ _ _ => F5
      rename News _ _ _ _ => N5
      refine Halt.go (ksw_end (ys.set p z, 2 * p + 1 + 1, ?ta2, ?tb2) F5 N5 (fun _ h => h) trivial (fun q hq => ?hk) (by ksw_same) ⟨by simp [hp1], by show 2 * p + 1 + 1 < xs.length; omega, ?hp⟩ (by show xs.length - (2 * p + 1 + 1) < xs.length - p; omega))
      case hp => rw [← hp3]; exact (suF_go hp1 (pick_right hy hz (by simp [minBf, hb])) hz).symm
      case hk =>
        rcases List.mem_cons.mp hq with rfl | hq
        · exact some_int (x := 2 * (p : Int) + 1 + 1) (y := ((2 * p + 1 + 1 : Nat) : Int)) (by omega)
        · rw [List.mem_singleton.mp hq]
          exact some_int (x := 2 * (2 * (p : Int) + 1 + 1) + 1) (y := 2 * ((2 * p + 1 + 1 : Nat) : Int) + 1) (by omega)
  · rename 2 * (p : Int) + 1 < (xs.length : Int) => h1
    rename ¬ 2 * (p : Int) + 1 + 1 < (xs.length : Int) => h2
    obtain ⟨y, hy⟩ : ∃ y, ys[2 * p + 1]? = some y := ⟨_, List.getElem?_eq_getElem (by omega)⟩
    refine Halt.go ?_
    k_dflt refine item_get (2 * p + 1) y (by k_asm) (by k_mem) (by omega) (by omega) hy ?_
    k_steps
    k_dflt refine item_set p y (by k_asm) (by k_asm) hoff rfl (by omega) (by omega) ?_
    intro h' F' N'
    k_steps
    rename Fr _ _ _ _ => F5
    rename News _ _ _ _ => N5
    refine Halt.go (ksw_end (ys.set p y, 2 * p + 1, ?ta3, ?tb3) F5 N5 (fun _ h => h) trivial (fun q hq => ?hk) (by ksw_same) ⟨by simp [hp1], by show 2 * p + 1 < xs.length; omega, ?hp⟩ (by show xs.length - (2 * p + 1) < xs.length - p; omega))
    case hp => rw [← hp3]; exact (suF_go hp1 (pick_one (by omega)) hy).symm
    case hk =>
      rcases List.mem_cons.mp hq with rfl | hq
      · exact some_int (x := 2 * (p : Int) + 1) (y := ((2 * p + 1 : Nat) : Int)) (by omega)
      · rw [List.mem_singleton.mp hq]
        exact some_int (x := 2 * (2 * (p : Int) + 1) + 1) (y := 2 * ((2 * p + 1 : Nat) : Int) + 1) (by omega)
  · rename ¬ 2 * (p : Int) + 1 < (xs.length : Int) => h1
    k_dflt refine item_set p x (by k_asm) (by k_asm) hoff rfl (by omega) (by omega) ?_
    intro h' F' N'
    k_steps
    refine Halt.go ?_
    k_dflt refine siftdown_c w rest l (ys.set p x) n ps p _ _ x hoff (by rw [List.getElem?_set_self (by omega)]) (by omega) (by omega) _ _ _ _ _ _ _ _ _ _ _ _ _ _ _ _ _ _ _ _ _ (by k_asm) (by k_asm) (by k_asm) (by k_asm) (by k_asm) rfl (by ktr_room) (by ktr_units) ?_
    intro v news' h2 tk2 hpost F2 N2
    obtain ⟨rfl, rfl⟩ := hpost
    k_steps
    refine hret _ _ _ _ ⟨rfl, rfl⟩ (by k_asm) ?_
    have e : siftF minBf xs ps = sdF minBf ps x p (ys.set p x) p := by
      unfold siftF
      rw [hx, ← hp3, suF_end (by omega)]
    rw [e]
    k_asm
end
end Mine
end
section
open PySem PySem.W PyProof.Rows
set_option maxRecDepth 100000
set_option maxHeartbeats 8000000
namespace Mine

section
theorem heapify_c (w : World) (rest : List (Addr × Obj)) (l : Addr) (xs : List Item) (n : Nat) (hoff : ∀ p ∈ rest, p.1 ≠ l) (hlen : xs.length = 7) :
    Ct w 3 141 [.ref l] ((l, W.listOf (vals xs).toArray n) :: rest) (fun v news' => v = .none ∧ news' = (l, W.listOf (vals (siftF minBf (siftF minBf (siftF minBf xs 2) 1) 0)).toArray n) :: rest) := by
  unfold Ct
  k_fill
  intro loose mean mg mb dp un gd cn cs a ccd cl outer A₀ base h₀ L m s Q E B F X N T hk hdp hu hret
  refine wpAny_call ?_
  k_dflt ktr_enter
  k_steps
  k_dflt refine list_len (by k_asm) (by k_mem) (by omega) ?_
  rw [hlen]
  k_steps
  refine Halt.go ?_
  rename IsRange _ _ _ _ _ _ _ _ => hR
  k_dflt refine rev3_st (σ := List Item) (fun c => (l, W.listOf (vals c).toArray n) :: rest) (fun _ => []) [] (fun i c => c = hpF minBf xs i ∧ c.length = 7) xs rfl hR (by k_asm) (by k_asm) (fun _ h => nomatch h) ⟨rfl, hlen⟩ ?_ ?_
  · intro I i t d u h tk own hi hJ ho1 ho2 ho3 F₁ N₁
    obtain ⟨hJ, hJ7⟩ := hJ
    dsimp only [kstB] at F₁
    have hoff' : ∀ p ∈ rest ++ own, p.1 ≠ l := by
      intro p hp e
      rcases List.mem_append.mp hp with hp | hp
      · exact hoff p hp e
      · exact ho3 _ (.head _) (e.symm.trans (ho1 p hp))
    k_steps
    refine Halt.go ?_
    obtain ⟨x, hx⟩ : ∃ x, d[2 - i]? = some x := ⟨_, List.getElem?_eq_getElem (by omega)⟩
    have ei : (2 + (i : Int) * (-1)) = ((2 - i : Nat) : Int) := by omega
    rw [ei]
    k_dflt refine siftup_c w (rest ++ own) l d n (2 - i) _ x hoff' hx (by omega) _ _ _ _ _ _ _ _ _ _ _ _ _ _ _ _ _ _ _ _ _ (by k_asm) (by k_asm) (by k_asm) N₁ (by k_asm) rfl (by ktr_room) (by ktr_units) ?_
    intro v news' h2 tk2 hpost F2 N2
    obtain ⟨rfl, rfl⟩ := hpost
    k_steps
    k_dflt refine fs_end (siftF minBf d (2 - i)) F2 N2 (fun p hp => ?_) (fun p hp => .tail _ (List.mem_append.mpr (.inr hp))) (fun p hp => ?_) (fun _ h => nomatch h) (fun z hz _ _ => by simp [hz]) ⟨by rw [hJ]; rfl, by rw [siftF_len, hJ7]⟩
    · rcases List.mem_cons.mp hp with rfl | hp
      · exact .head _
      · exact .tail _ (List.mem_append.mpr (.inl hp))
    · intro hm
      have e := List.mem_singleton.mp hm
      rcases List.mem_cons.mp hp with rfl | hp
      · exact ho3 _ (.head _) e
      · exact ho3 _ (.tail _ hp) e
  · intro d u h tk hJ F₁ N₁
    dsimp only [kstB] at F₁
    k_steps
    obtain ⟨rfl, _⟩ := hJ
    exact hret _ _ _ _ ⟨rfl, rfl⟩ (by k_asm) (by k_asm)
end
end Mine
end
section
open PySem PySem.W PyProof.Rows
set_option maxRecDepth 100000
set_option maxHeartbeats 8000000
namespace Mine

section
theorem heappop_c (w : World) (rest : List (Addr × Obj)) (l : Addr) (xs : List Item) (y : Item) (n : Nat) (hoff : ∀ p ∈ rest, p.1 ≠ l) (hlen : xs.length < 999) :
    Ct w 3 134 [.ref l] ((l, W.listOf (vals (xs ++ [y])).toArray n) :: rest) (fun v news' => v = Item.val (popV xs y) ∧ news' = (l, W.listOf (vals (popR minBf xs y)).toArray (n + 1)) :: rest) := by
  unfold Ct
  k_fill
  intro loose mean mg mb dp un gd cn cs a ccd cl outer A₀ base h₀ L m s Q E B F X N T hk hdp hu hret
  refine wpAny_call ?_
  k_dflt ktr_enter
  k_steps
  refine Halt.go ?_
  k_dflt refine list_pop (by k_asm) (by k_asm) hoff hlen ?_
  intro h' F' N'
  k_steps
  · rename (vals xs).isEmpty = true => he
    obtain rfl : xs = [] := by cases xs with
      | nil => rfl
      | cons _ _ => cases he
    exact hret _ _ _ _ ⟨rfl, rfl⟩ (by k_asm) (by k_asm)
  · rename (vals xs).isEmpty = false => he
    obtain ⟨x, r, rfl⟩ : ∃ x r, xs = x :: r := by cases xs with
      | nil => cases he
      | cons x r => exact ⟨x, r, rfl⟩
    k_dflt refine item_get 0 x (by k_asm) (by k_mem) rfl (by omega) rfl ?_
    k_steps
    k_dflt refine item_set 0 y (by k_asm) (by k_asm) hoff rfl (by omega) (by simp) ?_
    intro h' F' N'
    k_steps
    refine Halt.go ?_
    k_dflt refine siftup_c w rest l (y :: r) (n + 1) 0 _ y hoff rfl (by simpa using Nat.lt_succ_of_lt hlen) _ _ _ _ _ _ _ _ _ _ _ _ _ _ _ _ _ _ _ _ _ (by k_asm) (by k_asm) (by k_asm) (by k_asm) (by k_asm) rfl (by ktr_room) (by ktr_units) ?_
    intro v news' h2 tk2 hpost F2 N2
    obtain ⟨rfl, rfl⟩ := hpost
    k_steps
    exact hret _ _ _ _ ⟨rfl, rfl⟩ (by k_asm) (by k_asm)
end
end Mine
end
end

section
open PySem PySem.W PyProof.Rows
set_option maxRecDepth 100000
set_option maxHeartbeats 8000000
namespace Mine
theorem owner_map : Manifest.owners.lookup (String.ofList ['p', 'a', 'm'].reverse) = some Manifest.sig_map := by kernel_rfl
theorem slot_map_init : Slot "map" "__init__" "object.__init__" :=
  .of (owner := "object") (n := "__init__") (by rw [typeLookup_type, builtinLookup_eq_fast]; kernel_rfl) (by decide +kernel) (by decide +kernel) (by decide +kernel)
    (by first | exact .inl (by decide +kernel) | exact .inr (by decide +kernel)) (by rw [isSubtype_type]; kernel_rfl)
theorem slot_map_iter : Slot "map" "__iter__" "map.__iter__" :=
  .of (owner := "map") (n := "__iter__") (by rw [typeLookup_type, builtinLookup_eq_fast]; kernel_rfl) (by decide +kernel) (by decide +kernel) (by decide +kernel)
    (by first | exact .inl (by decide +kernel) | exact .inr (by decide +kernel)) (by rw [isSubtype_type]; kernel_rfl)
theorem args_map_iter_1 (a : Value) : argsOk "map.__iter__" ⟨[a], []⟩ := by
  unfold argsOk; rw [signature?_of (id := "map.__iter__") (n := ['_', '_', 'r', 'e', 't', 'i', '_', '_']) (o := ['p', 'a', 'm']) (by kernel_rfl) owner_map]; kernel_rfl
theorem entry_map_iter : entryFor table "map.__iter__" = some Builtin.«dict_keyiterator.__iter__» :=
  entryFor_alias (id' := "dict_keyiterator.__iter__") (by kernel_rfl) (by first | rfl | decide +kernel | (unfold String.splitOn; simp +decide [String.splitOnAux])) (by decide +kernel) (by kernel_rfl)
theorem slot_map_next : Slot "map" "__next__" "map.__next__" :=
  .of (owner := "map") (n := "__next__") (by rw [typeLookup_type, builtinLookup_eq_fast]; kernel_rfl) (by decide +kernel) (by decide +kernel) (by decide +kernel)
    (by first | exact .inl (by decide +kernel) | exact .inr (by decide +kernel)) (by rw [isSubtype_type]; kernel_rfl)
theorem entry_map_next : entryFor table "map.__next__" = some Builtin.«map.__next__» := entryFor_of_tree (by kernel_rfl)
theorem args_map_next_1 (a : Value) : argsOk "map.__next__" ⟨[a], []⟩ := by
  unfold argsOk; rw [signature?_of (id := "map.__next__") (n := ['_', '_', 't', 'x', 'e', 'n', '_', '_']) (o := ['p', 'a', 'm']) (by kernel_rfl) owner_map]; kernel_rfl
theorem mro_map : mroOf (.type "map") = pure [.type "map", .type "object"] := by rw [mroOf_type]; kernel_rfl
theorem lookup_map_new : typeLookup (.type "map") "__new__" = pure (some (.builtin "map.__new__")) := by rw [typeLookup_type, builtinLookup_eq_fast]; kernel_rfl
theorem called_map : TypeCalled "map" "map.__new__" "object.__init__" :=
  ⟨by decide +kernel, by decide +kernel, ⟨_, _, mro_map⟩, madeBy_type mro_map lookup_map_new (by decide +kernel), by decide +kernel, by rw [isSubtype_type]; kernel_rfl, slot_map_init⟩
theorem typeCall_map_2 (a b : Value) : checkTypeCall "map" ⟨[a, b], []⟩ = pure () := by kernel_rfl
theorem newCall_map_2 (a b : Value) : checkBuiltinCall "map.__new__" ⟨[.type "map", a, b], []⟩ = pure () := by kernel_rfl
theorem entry_map_new : entryFor table "map.__new__" = some Builtin.«map.__new__» := entryFor_of_tree (by kernel_rfl)
theorem sub_map : isSubtype (.type "map") (.type "map") = pure true := by rw [isSubtype_type]; kernel_rfl
theorem nolen_map : typeLookup (.type "map") "__len__" = pure none := by rw [typeLookup_type, builtinLookup_eq_fast]; kernel_rfl
theorem nohint_map : typeLookup (.type "map") "__length_hint__" = pure none := by rw [typeLookup_type, builtinLookup_eq_fast]; kernel_rfl
noncomputable abbrev liObj (l : Addr) (i : Nat) : Obj := { cls := .type "list_iterator", data := .fields #[.ref l, .int i 0] }
noncomputable abbrev tup1Obj (v : Value) : Obj := { cls := .type "tuple", data := .seq #[v] }
noncomputable abbrev mapObj (T : Addr) (f : Value) : Obj := { cls := .type "map", data := .fields #[.ref T, f] }
noncomputable abbrev mapH1 (h : Heap) (l : Addr) : Heap := h.push (liObj l 0)
noncomputable abbrev mapH2 (h : Heap) (l : Addr) : Heap := (mapH1 h l).push (tup1Obj (.ref h.objs.size))
noncomputable abbrev mapH3 (h : Heap) (l : Addr) (f : Value) : Heap := (mapH2 h l).push (mapObj (mapH1 h l).objs.size f)
theorem meets_map_new (l : Addr) (f : Value) (xs : Array Value) :
    Meets (Builtin.«map.__new__» ⟨[.type "map", f, .ref l], []⟩) (fun _ R s => s.heap.IsList l xs ∧
      R (.ok (.ret (.ref (mapH2 s.heap l).objs.size))) { s with heap := mapH3 s.heap l f }) :=
  .of_wp fun prog w A R s h => by
    obtain ⟨hp, g, d, tk, os⟩ := s; obtain ⟨hl1, h⟩ := h
    have hsub := sub_map
    have hL1 : Heap.IsList (Shared.heap ⟨hp, g, d, tk, os⟩) l xs := hl1
    wp_walk using wpAny_pyIter_list hL1
    exact ⟨_, rfl, h⟩
section
variable {prog : Program} {w : World} {A : Around} {E : Value → Shared → Prop} {s : Shared}
theorem call_map {l : Addr} {f : Value} {xs : Array Value} {Q : Value → Shared → Prop} (hl : s.heap.IsList l xs)
    (h : Q (.ref (mapH2 s.heap l).objs.size) { s with heap := mapH3 s.heap l f }) :
    wpAny (model prog w) A (call (.type "map") [f, .ref l]) Q E s := by
  refine callType_new called_map (by decide) (typeCall_map_2 _ _) (newCall_map_2 _ _) (fun obj => F.args_object_init_3 obj _ _) entry_map_new (meets_map_new l f xs) ⟨hl, ?_⟩
  exact ⟨⟨_, Heap.get?_push_size _ rfl, rfl⟩, h⟩
theorem pyIter_map {z T : Addr} {f : Value} {Q : Value → Shared → Prop} (hz : s.heap.get? z = some (mapObj T f)) (h : Q (.ref z) s) : wpAny (model prog w) A (pyIter (.ref z)) Q E s := by
  have hT : s.TypeIs (.ref z) "map" := ⟨_, hz, rfl⟩
  refine wpAny_pyIter_slot hT slot_map_iter (wpAny_call_entry slot_map_iter hT entry_map_iter ?_ (args_map_iter_1 _))
  show wpAny _ _ (ret (.ref z)) _ _ s
  exact wpAny_pure ⟨_, rfl, "map", _, hT, slot_map_next.lookup, h⟩
theorem map_next_item {z T I l : Addr} {f : Value} {i : Nat} {xs : Array Value} {x : Value} {Q : Option Value → Shared → Prop} (hz : s.heap.get? z = some (mapObj T f)) (hT : s.heap.get? T = some (tup1Obj (.ref I)))
    (hi : s.heap.IsListIter I l i) (hl : s.heap.IsList l xs) (hx : xs[i]? = some x) (hzI : z ≠ I)
    (h : ∀ h', h'.IsListIter I l (i + 1) → Heap.SameBut I s.heap h' → wpAny (model prog w) A.in1 (call f [x]) (fun r s' => Q (some r) s') (fun _ _ => False) { s with heap := h' }) :
    wpAny (model prog w) A (pyNext (.ref z)) Q E s := by
  have hTy : s.TypeIs (.ref z) "map" := ⟨_, hz, rfl⟩
  unfold pyNext
  refine wpAny_bind (wpAny_attempt (wpAny_callSpecial?_slot (name := Str.ofString "__next__") hTy slot_map_next (wpAny_call_entry slot_map_next hTy entry_map_next ?_ (args_map_next_1 _))))
  unfold Builtin.«map.__next__»
  refine wpAny_bind (wpAny_of_eq (a := (Value.ref z, [])) rfl ?_)
  try dsimp only
  refine wpAny_bind (wpAny_field hz rfl (x := .ref T) rfl ?_)
  refine wpAny_bind (wpAny_seqItems hT rfl ?_)
  show wpAny _ _ (forIn #[Value.ref I] (#[] : Array Value) _ >>= _) _ _ s
  rw [← Array.forIn_toList]
  simp only [List.forIn_cons, List.forIn_nil]
  refine wpAny_bind (wpAny_bind (wpAny_bind (wpAny_holding (wpAny_nextOf_list_item hi hl hx fun h' hi' hs' => wpAny_pure (wpAny_pure ?_)))))
  refine wpAny_bind (wpAny_field (hs'.extBut _ _ hzI hz) rfl (x := f) rfl ?_)
  refine wpAny_bind (wpAny_holding ?_)
  refine wpAny_mono (h h' hi' hs') (fun r s' hq => ?_) fun _ _ e => e.elim
  refine wpAny_bind (wpAny_letGo ?_)
  exact wpAny_pure ⟨_, rfl, wpAny_pure hq⟩
theorem map_next_end {z T I l : Addr} {f : Value} {i : Nat} {xs : Array Value} {Q : Option Value → Shared → Prop} (hh : A.handled = none) (hz : s.heap.get? z = some (mapObj T f)) (hT : s.heap.get? T = some (tup1Obj (.ref I)))
    (hi : s.heap.IsListIter I l i) (hl : s.heap.IsList l xs) (hx : xs[i]? = none)
    (h : ∀ h', Heap.ExtBut I s.heap h' → Q none { s with heap := h' }) :
    wpAny (model prog w) A (pyNext (.ref z)) Q E s := by
  have hTy : s.TypeIs (.ref z) "map" := ⟨_, hz, rfl⟩
  unfold pyNext
  refine wpAny_bind (wpAny_attempt (wpAny_callSpecial?_slot (name := Str.ofString "__next__") hTy slot_map_next (wpAny_call_entry slot_map_next hTy entry_map_next ?_ (args_map_next_1 _))))
  unfold Builtin.«map.__next__»
  refine wpAny_bind (wpAny_of_eq (a := (Value.ref z, [])) rfl ?_)
  try dsimp only
  refine wpAny_bind (wpAny_field hz rfl (x := .ref T) rfl ?_)
  refine wpAny_bind (wpAny_seqItems hT rfl ?_)
  show wpAny _ _ (forIn #[Value.ref I] (#[] : Array Value) _ >>= _) _ _ s
  rw [← Array.forIn_toList]
  simp only [List.forIn_cons, List.forIn_nil]
  refine wpAny_bind (wpAny_bind (wpAny_bind (wpAny_holding (wpAny_nextOf_list_end hh hi hl hx fun h' e hs' he => ?_))))
  obtain ⟨o, ho, hc⟩ := he
  refine wpAny_bind (wpAny_isInstance (T := "StopIteration") (b := true) ⟨o, ho, hc⟩ isSubtype_stop ?_)
  exact wpAny_pure (h h' hs')
end
end Mine
end

section
open PySem PySem.W PyProof.Rows
set_option maxRecDepth 100000
set_option maxHeartbeats 8000000
namespace Mine
theorem News.sub {h₀ h : Heap} {L : Addr} {news news' : List (Addr × Obj)} (N : News h₀ L h news) (hs : ∀ p ∈ news', p ∈ news) : News h₀ L h news' := fun p hp => N p (hs p hp)
theorem ne_tail {rest : List (Addr × Obj)} {b a : Addr} (h : AllLt b rest) (hle : @LE.le Nat _ b a) : ∀ p ∈ rest, p.1 ≠ a := fun p hp => Nat.ne_of_lt (Nat.lt_of_lt_of_le (kst_ltOf h p hp) hle)
theorem News.drop2 {h₀ h : Heap} {L : Addr} {a b c : Addr × Obj} {t : List (Addr × Obj)} (N : News h₀ L h (a :: b :: c :: t)) : News h₀ L h (a :: t) := fun p hp => by
  rcases List.mem_cons.mp hp with rfl | hp
  · exact N _ (.head _)
  · exact N _ (.tail _ (.tail _ (.tail _ hp)))
theorem Fr.off {h₀ h h' : Heap} {L a : Addr} {m : Str → Option Value} (F : Fr h₀ L h m) (hs : ∀ b o, b ≠ a → h.get? b = some o → h'.get? b = some o) (h1 : a ≠ L) (h2 : h₀.get? a = none) : Fr h₀ L h' m := by
  refine ⟨F.ns.at' fun o e => hs _ _ (Ne.symm h1) e, fun b o e => hs _ _ (fun q => ?_) (F.keep b o e), F.above⟩
  rw [q, h2] at e; cases e
theorem News.off {h₀ h h' : Heap} {L a : Addr} {news : List (Addr × Obj)} (N : News h₀ L h news) (hs : ∀ b o, b ≠ a → h.get? b = some o → h'.get? b = some o) (hn : ∀ p ∈ news, p.1 ≠ a) : News h₀ L h' news :=
  fun p hp => ⟨hs _ _ (hn p hp) (N p hp).1, (N p hp).2⟩
section
variable {prog : Program} {w : World} {A : Around} {E : Value → Shared → Prop} {s : Shared}
/-- the loop of extend over map(fspath, l): the texts come as they are -/
theorem map_ext_loop {loose : List Str} {mean : ExcName → Option Value} {mg mb : Str → Option Value} {dp un : Nat} {gd : Option (List Code)} {cn : Str} {cs : Scope} {a : Addr} {ccd : Value} {cl : List (Str × Addr)} {outer : List Env} {A₀ : Around} {base h₀ : Heap} {L : Addr} {m : Str → Option Value} {R : Result → Shared → Prop}
    {S I T M l : Addr} {nl : Nat} {xs : List (Str × Tok)} {fx : List (Addr × Obj)} {res : Value}
    (B : Below A₀ base outer h₀) (X : (frg w.params).In h₀) (To : Top vw loose mean mg mb h₀) (hk : cs.kind = .function) (hdp : dp + 1 < recursionLimit) (hu : un + 10 < cLine)
    (hM : (M, mapObj T (.ref 94)) ∈ fx) (hT : (T, tup1Obj (.ref I)) ∈ fx) (hl : (l, W.listOf (xs.map fun p => Value.str p.1 p.2).toArray nl) ∈ fx) (hoff : ∀ p ∈ fx, p.1 ≠ S ∧ p.1 ≠ I) (hSI : S ≠ I) (hsz : xs.length < 1000) :
    ∀ (k i : Nat) (acc : List Value) (c : Nat) (oI : Obj) (s : Shared), xs.length - i = k → i ≤ xs.length → acc.length = i → oI.cls = .type "list_iterator" → oI.data = .fields #[.ref l, .int i 0] → Fr h₀ L s.heap m → News h₀ L s.heap ((S, W.listOf acc.toArray c) :: (I, oI) :: fx) →
      (∀ h' tk' c', Fr h₀ L h' m → News h₀ L h' ((S, W.listOf (acc ++ (xs.drop i).map fun p => Value.str p.1 p.2).toArray c') :: fx) → R (.ok (.ret res)) { s with heap := h', toks := tk' }) →
      codeAny (model Challenge.rw_pd0157_01.row.prog w) (ktrTop dp un gd cn cs L a ccd cl outer) (.builtin "list.extend.loop" ⟨[.ref S, .ref M, res], []⟩) R s := by
  intro k
  induction k with
  | zero =>
    intro i acc c oI s hki hi hacc hoc hod Fm N hR
    have hin : i = xs.length := by lia
    subst hin
    refine codeAny_builtin F.entry_extend_loop ?_
    rw [Around.under_plainId F.plain_extend_loop _]
    show wpAny _ _ (pyNext (.ref M) >>= _) _ _ s
    have nM := N _ (.tail _ (.tail _ hM))
    have nT := N _ (.tail _ (.tail _ hT))
    have nl := N _ (.tail _ (.tail _ hl))
    have nI := N (I, oI) (.tail _ (.head _))
    refine wpAny_bind (map_next_end rfl nM.1 nT.1 ⟨_, nI.1, hoc, hod⟩ ⟨_, nl.1, rfl, _, rfl⟩ (by simp) fun h' hs' => ?_)
    refine wpAny_pure (hR h' s.toks c (Fr.off Fm hs' nI.2.1 nI.2.2) ?_)
    have : (acc ++ (xs.drop xs.length).map fun p => Value.str p.1 p.2) = acc := by simp
    rw [this]
    refine News.off (News.sub N fun p hp => ?_) hs' fun p hp => ?_
    · rcases List.mem_cons.mp hp with rfl | hp
      · exact .head _
      · exact .tail _ (.tail _ hp)
    · rcases List.mem_cons.mp hp with rfl | hp
      · exact hSI
      · exact (hoff p hp).2
  | succ k ih =>
    intro i acc c oI s hki hi hacc hoc hod Fm N hR
    have hlt : i < xs.length := by lia
    refine codeAny_builtin F.entry_extend_loop ?_
    rw [Around.under_plainId F.plain_extend_loop _]
    show wpAny _ _ (pyNext (.ref M) >>= _) _ _ s
    have nM := N _ (.tail _ (.tail _ hM))
    have nT := N _ (.tail _ (.tail _ hT))
    have nl := N _ (.tail _ (.tail _ hl))
    have nI := N (I, oI) (.tail _ (.head _))
    obtain ⟨⟨x, tx⟩, hx⟩ : ∃ x, xs[i]? = some x := ⟨_, List.getElem?_eq_getElem hlt⟩
    refine wpAny_bind (map_next_item (x := .str x tx) nM.1 nT.1 ⟨_, nI.1, hoc, hod⟩ ⟨_, nl.1, rfl, _, rfl⟩ (by simp [hx]) (hoff _ hM).2 fun h' hi' hs' => ?_)
    have F1 : Fr h₀ L h' m := Fr.off Fm (fun b o hb e => hs'.extBut b o hb e) nI.2.1 nI.2.2
    obtain ⟨oJ, hJo, hJc, hJd⟩ := hi'
    have N1 : News h₀ L h' ((S, W.listOf acc.toArray c) :: (I, oJ) :: fx) := by
      intro p hp
      rcases List.mem_cons.mp hp with rfl | hp
      · exact ⟨hs'.extBut _ _ hSI (N _ (.head _)).1, (N (S, W.listOf acc.toArray c) (.head _)).2⟩
      · rcases List.mem_cons.mp hp with rfl | hp
        · exact ⟨hJo, nI.2⟩
        · exact ⟨hs'.extBut _ _ (hoff p hp).2 (N p (.tail _ (.tail _ hp))).1, (N p (.tail _ (.tail _ hp))).2⟩
    k_dflt refine fspath_c w _ x tx _ _ _ _ _ _ _ _ _ _ _ _ _ _ _ _ _ _ _ _ _ B F1 X N1 To hk (by ktr_room) (by ktr_units) ?_
    intro v news' h2 tk2 hpost F2 N2
    obtain ⟨rfl, rfl⟩ := hpost
    show wpAny _ _ (updateSeq S (·.push (.str x tx)) >>= fun _ => again (.builtin "list.extend.loop" ⟨[.ref S, .ref M, res], []⟩)) _ _ _
    have nS := N2 _ (.head _)
    refine wpAny_bind (wpAny_updateSeq nS.1 rfl ?_ (by simp [sizeLine]; lia) (by simp [sizeLine]; lia))
    refine wpAny_pure ⟨plainId_quiet F.plain_extend_loop _, ?_⟩
    have hfx : ∀ p ∈ (I, oJ) :: fx, p.1 ≠ S := by
      intro p hp
      rcases List.mem_cons.mp hp with rfl | hp
      · exact Ne.symm hSI
      · exact (hoff p hp).1
    refine ih (i + 1) (acc ++ [.str x tx]) (c + 1) oJ _ (by lia) hlt (by simp [hacc]) hJc hJd (F2.change (Heap.SameBut.update ..) nS.2.1 nS.2.2) (ki_turn (pre := []) _ N2 (fun _ h => nomatch h) hfx (by simp) (by simp)) ?_
    intro h3 tk3 c3 F3 N3
    refine hR h3 tk3 c3 F3 ?_
    have e : acc ++ [Value.str x tx] ++ (xs.drop (i + 1)).map (fun p => Value.str p.1 p.2) = acc ++ (xs.drop i).map (fun p => Value.str p.1 p.2) := by
      have hd : xs.drop i = (x, tx) :: xs.drop (i + 1) := by
        obtain ⟨hlt', hx'⟩ := List.getElem?_eq_some_iff.mp hx
        rw [← hx', List.drop_eq_getElem_cons hlt']
      rw [hd]; simp
    rw [← e]
    exact N3
theorem collect_map {loose : List Str} {mean : ExcName → Option Value} {mg mb : Str → Option Value} {dp un : Nat} {gd : Option (List Code)} {cn : Str} {cs : Scope} {a : Addr} {ccd : Value} {cl : List (Str × Addr)} {outer : List Env} {A₀ : Around} {base h₀ : Heap} {L : Addr} {m : Str → Option Value} {Q : List Value → Shared → Prop}
    {I T M l : Addr} {nl : Nat} {xs : List (Str × Tok)} {fx : List (Addr × Obj)} {oI : Obj}
    (B : Below A₀ base outer h₀) (X : (frg w.params).In h₀) (To : Top vw loose mean mg mb h₀) (hk : cs.kind = .function) (hdp : dp + 1 < recursionLimit) (hu : un + 10 < cLine)
    (hM : (M, mapObj T (.ref 94)) ∈ fx) (hT : (T, tup1Obj (.ref I)) ∈ fx) (hl : (l, W.listOf (xs.map fun p => Value.str p.1 p.2).toArray nl) ∈ fx) (hoff : ∀ p ∈ fx, p.1 ≠ I) (hsz : xs.length < 1000)
    (hoc : oI.cls = .type "list_iterator") (hod : oI.data = .fields #[.ref l, .int (0 : Nat) 0]) (Fm : Fr h₀ L s.heap m) (N : News h₀ L s.heap ((I, oI) :: fx))
    (hQ : ∀ h' tk', Fr h₀ L h' m → News h₀ L h' fx → Q (xs.map fun p => Value.str p.1 p.2) { s with heap := h', toks := tk' }) :
    wpAny (model Challenge.rw_pd0157_01.row.prog w) (ktrTop dp un gd cn cs L a ccd cl outer) (collect (.ref M)) Q E s := by
  unfold collect
  refine wpAny_bind (wpAny_runValue (codeAny_builtin F.entry_proto_collect ?_))
  rw [Around.under_plainId F.plain_proto_collect _]
  show wpAny _ _ (newList [] >>= fun l => again (.builtin "list.__iadd__" ⟨[l, .ref M], []⟩)) _ _ s
  refine wpAny_bind (wpAny_newObj_type ?_)
  refine wpAny_pure ⟨plainId_quiet F.plain_list_iadd _, codeAny_builtin F.entry_list_iadd ?_⟩
  rw [Around.under_plainId F.plain_list_iadd _]
  have N1 := News.push Fm N (W.listOf ([] : List Value).toArray 0)
  have F1 := Fm.push (W.listOf ([] : List Value).toArray 0)
  have hlt : ∀ p ∈ (I, oI) :: fx, p.1 < s.heap.objs.size := fun p hp => Heap.lt_size (N p hp).1
  have nM := N1 _ (.tail _ (.tail _ hM))
  have hTy : ({ s with heap := s.heap.push (W.listOf ([] : List Value).toArray 0) } : Shared).TypeIs (.ref M) "map" := ⟨_, nM.1, rfl⟩
  have hMS : s.heap.objs.size ≠ M := Nat.ne_of_gt (hlt _ (.tail _ hM))
  show wpAny _ _ (Builtin.List.listExtendWith (.ref s.heap.objs.size) (.ref M) (.ref s.heap.objs.size)) _ _ _
  unfold Builtin.List.listExtendWith
  refine wpAny_bind (wpAny_typeOf hTy ?_)
  have h1 : Builtin.List.listSameRef (.ref s.heap.objs.size) (.ref M) = false := by simp [Builtin.List.listSameRef, hMS]
  have h2 : (Value.type "map" == Value.type "list") = false := by decide
  have h3 : (Value.type "map" == Value.type "tuple") = false := by decide
  simp only [h1, h2, h3, Bool.or_false, Bool.false_eq_true, if_false]
  refine wpAny_bind (pyIter_map nM.1 ?_)
  refine wpAny_bind (wpAny_holding ?_)
  unfold Builtin.List.listLengthHint
  refine wpAny_bind (wpAny_specialOf hTy nolen_map ?_)
  show wpAny _ _ (specialOf (Value.ref M) (Str.ofString "__length_hint__") >>= _) _ _ _
  refine wpAny_bind (wpAny_specialOf hTy nohint_map ?_)
  refine wpAny_pure ?_
  show wpAny _ _ (rule "list.extend.makes-room" >>= fun _ => Builtin.List.listTouch (.ref s.heap.objs.size) >>= fun _ =>
    again (.builtin "list.extend.loop" ⟨[.ref s.heap.objs.size, .ref M, .ref s.heap.objs.size], []⟩)) _ _ _
  refine wpAny_bind (wpAny_rule ?_)
  refine wpAny_bind ?_
  show wpAny _ _ (updateSeq s.heap.objs.size (·.push .none) >>= fun _ => updateSeq s.heap.objs.size (·.pop)) _ _ _
  have hSoff : ∀ p ∈ (I, oI) :: fx, p.1 ≠ s.heap.objs.size := fun p hp => Nat.ne_of_lt (hlt p hp)
  have n1 := N1 _ (.head _)
  refine wpAny_bind (wpAny_updateSeq n1.1 rfl ?_)
  have F2 := F1.change (Heap.SameBut.update _ s.heap.objs.size (Obj.mapSeq (·.push Value.none))) n1.2.1 n1.2.2
  have N2 := ki_turn (pre := []) (its' := #[Value.none]) (n' := 1) (·.push Value.none) N1 (fun _ h => nomatch h) hSoff rfl rfl
  have n2 := N2 _ (.head _)
  refine wpAny_updateSeq n2.1 rfl ?_
  have F3 := F2.change (Heap.SameBut.update _ s.heap.objs.size (Obj.mapSeq (·.pop))) n2.2.1 n2.2.2
  have N3 := ki_turn (pre := []) (its' := ([] : List Value).toArray) (n' := 2) (·.pop) N2 (fun _ h => nomatch h) hSoff rfl rfl
  refine wpAny_pure ⟨plainId_quiet F.plain_extend_loop _, ?_⟩
  refine map_ext_loop B X To hk hdp hu hM hT hl (fun p hp => ⟨hSoff p (.tail _ hp), hoff p hp⟩) (Ne.symm (hSoff _ (.head _))) hsz xs.length 0 [] 2 oI _ (by lia) (by lia) rfl hoc hod F3 N3 ?_
  intro h' tk' c' F' N'
  show wpAny _ _ (load s.heap.objs.size >>= _) _ _ _
  refine wpAny_bind (wpAny_load (N' _ (.head _)).1 ?_)
  refine wpAny_pure ?_
  simp only [List.drop_zero, List.nil_append]
  exact hQ h' tk' F' (News.sub N' fun p hp => .tail _ hp)
/-- tuple(map(fspath, l)) -/
theorem tuple_map {loose : List Str} {mean : ExcName → Option Value} {mg mb : Str → Option Value} {dp un : Nat} {gd : Option (List Code)} {cn : Str} {cs : Scope} {a : Addr} {ccd : Value} {cl : List (Str × Addr)} {outer : List Env} {A₀ : Around} {base h₀ : Heap} {L : Addr} {m : Str → Option Value} {Q : Value → Shared → Prop}
    {I T M l : Addr} {nl : Nat} {xs : List (Str × Tok)} {fx : List (Addr × Obj)} {oI : Obj}
    (B : Below A₀ base outer h₀) (X : (frg w.params).In h₀) (To : Top vw loose mean mg mb h₀) (hk : cs.kind = .function) (hdp : dp + 1 < recursionLimit) (hu : un + 16 < cLine)
    (hM : (M, mapObj T (.ref 94)) ∈ fx) (hT : (T, tup1Obj (.ref I)) ∈ fx) (hl : (l, W.listOf (xs.map fun p => Value.str p.1 p.2).toArray nl) ∈ fx) (hoff : ∀ p ∈ fx, p.1 ≠ I) (hsz : xs.length < 1000)
    (hoc : oI.cls = .type "list_iterator") (hod : oI.data = .fields #[.ref l, .int (0 : Nat) 0]) (Fm : Fr h₀ L s.heap m) (N : News h₀ L s.heap ((I, oI) :: fx))
    (hQ : ∀ D h' tk', (∀ p ∈ fx, p.1 < D) → Fr h₀ L h' m → News h₀ L h' ((D, ({ cls := .type "tuple", data := .seq (xs.map fun p => Value.str p.1 p.2).toArray } : Obj)) :: fx) → Q (.ref D) { s with heap := h', toks := tk' }) :
    wpAny (model Challenge.rw_pd0157_01.row.prog w) (ktrTop dp un gd cn cs L a ccd cl outer) (call (.type "tuple") [.ref M]) Q E s := by
  refine callType_codes (Q₁ := fun obj s₁ => s₁.TypeIs obj "tuple" ∧ Q obj s₁) F.called_tuple (F.typeCall_tuple_1 _) F.entry_object_init ?_ fun obj s₁ h₁ => ?_
  · refine codeAny_of_tree ?_
    show wpAny _ _ (do checkBuiltinCall "tuple.__new__" ⟨[.type "tuple", .ref M], []⟩; again (.builtin "tuple.__new__" ⟨[.type "tuple", .ref M], []⟩)) _ _ s
    refine wpAny_bind (wpAny_of_eq (F.newCall_tuple_1 _) (wpAny_pure ⟨plainId_quiet F.plain_tuple_new _, codeAny_builtin F.entry_tuple_new ?_⟩))
    rw [Around.under_plainId F.plain_tuple_new _]
    have hsub := sub_tuple_self
    have hinit := init_tuple_lookup
    have hmh := madeHere_tuple
    have hTI : s.TypeIs (.ref M) "map" := ⟨_, (N _ (.tail _ hM)).1, rfl⟩
    wp_walk using wpAny_typeOf hTI, collect_map (un := un + 1 + 1) (gd := gd) (cn := cn) (a := a) (ccd := ccd) (cl := cl) B X To hk hdp (by lia) hM hT hl hoff hsz hoc hod Fm N
    intro h' tk' F' N'
    show wpAny _ _ (Builtin.Tuple.tupleExact (xs.map fun p => Value.str p.1 p.2).toArray >>= fun v => ret v) _ _ _
    unfold Builtin.Tuple.tupleExact
    refine wpAny_bind (wpAny_newObj_type ?_ (by show (xs.map fun p => Value.str p.1 p.2).toArray.size ≤ sizeLine; simp [sizeLine]; lia))
    refine wpAny_pure ?_
    exact ⟨⟨_, Heap.get?_push_size _ rfl, rfl⟩, hQ _ _ _ (fun p hp => Heap.lt_size (N' p hp).1) (F'.push _) (News.push F' N' _)⟩
  · exact ⟨h₁.1, F.args_object_init_2 obj _, object_init_meets F.called_tuple.init.lookup F.called_tuple.made (by decide) _ w _ _ s₁ ⟨h₁.1, rfl, h₁.2⟩⟩
theorem call_mapN {h₀ : Heap} {L : Addr} {m : Str → Option Value} {news : List (Addr × Obj)} {l : Addr} {its : Array Value} {n : Nat} {f : Value} {Q : Value → Shared → Prop} (Fm : Fr h₀ L s.heap m) (N : News h₀ L s.heap news) (hl : (l, W.listOf its n) ∈ news)
    (h : ∀ I T M h', (∀ p ∈ news, p.1 < I) → I < T → T < M → Fr h₀ L h' m → News h₀ L h' ((I, liObj l 0) :: (M, mapObj T f) :: (T, tup1Obj (.ref I)) :: news) → Q (.ref M) { s with heap := h' }) :
    wpAny (model prog w) A (call (.type "map") [f, .ref l]) Q E s := by
  refine call_map ⟨_, (N _ hl).1, rfl, _, rfl⟩ ?_
  have F1 := Fm.push (liObj l 0)
  have N1 := News.push Fm N (liObj l 0)
  have F2 := F1.push (tup1Obj (.ref s.heap.objs.size))
  have N2 := News.push F1 N1 (tup1Obj (.ref s.heap.objs.size))
  have F3 := F2.push (mapObj (mapH1 s.heap l).objs.size f)
  have N3 := News.push F2 N2 (mapObj (mapH1 s.heap l).objs.size f)
  refine h _ _ _ _ (fun p hp => Heap.lt_size (N p hp).1) (Heap.lt_size (N1 _ (.head _)).1) (Heap.lt_size (N2 _ (.head _)).1) F3 (News.sub N3 fun p hp => ?_)
  rcases List.mem_cons.mp hp with rfl | hp
  · exact .tail _ (.tail _ (.head _))
  · rcases List.mem_cons.mp hp with rfl | hp
    · exact .head _
    · rcases List.mem_cons.mp hp with rfl | hp
      · exact .tail _ (.head _)
      · exact .tail _ (.tail _ (.tail _ hp))
end
end Mine
end

section
open PySem PySem.W PyProof.Rows PyProof.Rows.LCg PyProof.Rows.LCt PySem.Calls
set_option maxRecDepth 100000
set_option maxHeartbeats 8000000
namespace Mine
noncomputable abbrev set0 (led : Bool) : Obj := { cls := .type "set", dict := none, data := .set #[] 0 (.fresh 0 0 led) }
noncomputable abbrev tab1 (led : Bool) : SetTable := { mask := 7, place := #[1], dummies := #[], finger := 0, led := led, moves := 0, plain := true }
noncomputable abbrev set1 (led : Bool) : Obj := { cls := .type "set", dict := none, data := .set #[(1, .bool true)] 1 (tab1 led) }
section
variable {prog : Program} {w : World} {A : Around} {E : Value → Shared → Prop} {s : Shared}
theorem pyHash_true {Q : Int → Shared → Prop} (h : Q 1 { s with toks := s.toks + 1 }) : wpAny (model prog w) A (pyHash (.bool true)) Q E s := by
  have hT : s.TypeIs (.bool true) "bool" := rfl
  unfold pyHash
  have hv : [Value.bool true].any Value.onHeap = false := rfl
  refine wpAny_bind ?_
  rw [cRoomFor, if_neg (by rw [hv]; exact Bool.false_ne_true)]; refine wpAny_pure ?_
  refine wpAny_bind (wpAny_specialOf hT F.slot_bool_hash.lookup ?_)
  show wpAny _ _ (if (some (Value.builtin "int.__hash__") == some Value.none) = true then _ else _) Q E s
  rw [if_neg (by rw [beq_builtin_none]; exact Bool.false_ne_true)]
  refine wpAny_bind (wpAny_specialOf hT F.slot_bool_hash.lookup ?_)
  show wpAny _ _ (callSpecialIfBoundUnlessNone? (.bool true) "__hash__" _ >>= _) Q E s
  refine wpAny_bind (wpAny_callSpecialIfBoundUnlessNone?_slot hT F.slot_bool_hash
    (wpAny_call_entry F.slot_bool_hash hT entry_int_hash
      (show wpAny _ _ (do ret (← mkInt 1)) _ _ s from wpAny_ret_mkInt ?_) (args_int_hash _)))
  exact wpAny_pure h
theorem set_add0 {D : Addr} {led : Bool} {Q : Value → Shared → Prop} (hD : s.heap.get? D = some (set0 led))
    (h : ∀ h' tk, h'.get? D = some (set1 led) → Heap.SameBut D s.heap h' → Q .none { s with heap := h', toks := tk }) :
    wpAny (model prog w) A (call (.builtin "set.add") [.ref D, .bool true]) Q E s := by
  refine wpAny_call_entry F.slot_set_add ⟨_, hD, rfl⟩ F.entry_set_add ?_ (F.args_set_add_2 _ _)
  unfold Builtin.«set.add» Builtin.Frozenset.oneOther
  simp only [List.isEmpty_nil, bind_assoc]
  unfold Builtin.Frozenset.addrOf setAdd
  refine wpAny_bind (wpAny_pure ?_)
  try dsimp only
  refine wpAny_bind (wpAny_pure ?_)
  try dsimp only
  refine wpAny_bind ?_
  refine wpAny_holding ?_
  refine wpAny_bind (pyHash_true ?_)
  unfold setAddHashed
  refine wpAny_holding ?_
  unfold setAddHashedIn
  refine wpAny_bind (wpAny_setState_of (s := { s with toks := s.toks + 1 }) hD rfl rfl ?_)
  dsimp only
  rw [if_pos (show byScan (Value.bool true) #[] = true by decide +kernel)]
  refine wpAny_bind ?_
  unfold setAddByScan
  refine wpAny_bind (wpAny_rule ?_)
  refine wpAny_bind (wpAny_of_eq (a := ScanMet.absent) rfl ?_)
  have hlay : layNew (.fresh 0 0 led) #[] 1 (.bool true) = (#[(1, .bool true)], tab1 led, false, false) := by cases led <;> decide +kernel
  dsimp only
  rw [hlay]
  refine wpAny_bind (wpAny_of_eq (a := ()) rfl ?_)
  show wpAny _ _ (hashByValue 8 (Value.bool true) >>= fun byValue => _) _ _ _
  refine wpAny_bind (wpAny_of_eq (a := true) rfl ?_)
  show wpAny _ _ (storeSet D #[(1, .bool true)] (tab1 led) >>= fun _ => (pure (some true) : Sem (Option Bool))) _ _ _
  refine wpAny_bind ?_
  unfold storeSet
  refine wpAny_bind (wpAny_load hD ?_)
  show wpAny _ _ (update D (Obj.putSet #[(1, .bool true)] (tab1 led))) _ _ _
  refine wpAny_update hD ?_
  refine wpAny_pure ?_
  refine wpAny_pure ?_
  exact wpAny_pure ⟨_, rfl, h _ _ (Heap.get?_update_self _ hD rfl) (Heap.SameBut.update ..)⟩
end
end Mine
end

section
open PySem PySem.W PyProof.Rows PyProof.Rows.LCg PyProof.Rows.LCt PySem.Calls
set_option maxRecDepth 100000
set_option maxHeartbeats 8000000
namespace Mine
theorem slot_si_next : Slot "set_iterator" "__next__" "set_iterator.__next__" :=
  .of (owner := "set_iterator") (n := "__next__") (by rw [typeLookup_type, builtinLookup_eq_fast]; kernel_rfl) (by decide +kernel) (by decide +kernel) (by decide +kernel)
    (by first | exact .inl (by decide +kernel) | exact .inr (by decide +kernel)) (by rw [isSubtype_type]; kernel_rfl)
theorem entry_si_next : entryFor table "set_iterator.__next__" = some Builtin.«set_iterator.__next__» := entryFor_of_tree (by kernel_rfl)
theorem args_si_next (a : Value) : argsOk "set_iterator.__next__" ⟨[a], []⟩ := by unfold argsOk; kernel_rfl
theorem entry_set_iter : entryFor table "set.__iter__" = some Builtin.«frozenset.__iter__» :=
  entryFor_alias (id' := "frozenset.__iter__") (by kernel_rfl) rfl (by decide +kernel) (by kernel_rfl)
section
variable {prog : Program} {w : World} {A : Around} {E : Value → Shared → Prop} {s : Shared}
theorem newSet_set {Q : Value → Shared → Prop} (h : Q (.ref s.heap.objs.size) { s with heap := s.heap.push (set0 (!w.params.followText "set-order")) }) : wpAny (model prog w) A (newSet (.type "set")) Q E s := by
  unfold newSet setsByText
  refine wpAny_bind (wpAny_bind (wpAny_askSetting (wpAny_pure ?_)))
  exact wpAny_newObj_type h
theorem eqBool_true {Q : Bool → Shared → Prop} (h : Q true s) : wpAny (model prog w) A (eqBool (.bool true) (.bool true)) Q E s := by
  unfold eqBool
  refine wpAny_holding ?_
  rw [if_pos (by decide)]
  exact wpAny_bind (wpAny_rule (wpAny_pure h))
theorem set_add1 {D : Addr} {led : Bool} {Q : Value → Shared → Prop} (hD : s.heap.get? D = some (set1 led))
    (h : ∀ tk, Q .none { s with toks := tk }) :
    wpAny (model prog w) A (call (.builtin "set.add") [.ref D, .bool true]) Q E s := by
  refine wpAny_call_entry F.slot_set_add ⟨_, hD, rfl⟩ F.entry_set_add ?_ (F.args_set_add_2 _ _)
  unfold Builtin.«set.add» Builtin.Frozenset.oneOther
  simp only [List.isEmpty_nil, bind_assoc]
  unfold Builtin.Frozenset.addrOf setAdd
  refine wpAny_bind (wpAny_pure ?_)
  try dsimp only
  refine wpAny_bind (wpAny_pure ?_)
  try dsimp only
  refine wpAny_bind ?_
  refine wpAny_holding ?_
  refine wpAny_bind (pyHash_true ?_)
  unfold setAddHashed
  refine wpAny_holding ?_
  unfold setAddHashedIn
  refine wpAny_bind (wpAny_setState_of (s := { s with toks := s.toks + 1 }) hD rfl rfl ?_)
  dsimp only
  rw [if_pos (show byScan (Value.bool true) #[(1, .bool true)] = true by decide +kernel)]
  refine wpAny_bind ?_
  unfold setAddByScan
  refine wpAny_bind (wpAny_rule ?_)
  refine wpAny_bind ?_
  show wpAny _ _ (setScanFrom D (.bool true) 1 true [(1, .bool true)] 0) _ _ _
  unfold setScanFrom
  rw [if_pos (by decide)]
  refine wpAny_bind (wpAny_setEpoch_of (s := { s with toks := s.toks + 1 }) hD rfl rfl ?_)
  refine wpAny_bind (eqBool_true ?_)
  rw [if_pos (by decide)]
  refine wpAny_pure ?_
  refine wpAny_pure ?_
  refine wpAny_pure ?_
  exact wpAny_pure ⟨_, rfl, h _⟩
end
end Mine
end

section
open PySem PySem.W PyProof.Rows PyProof.Rows.LCg PyProof.Rows.LCt PySem.Calls
set_option maxRecDepth 100000
set_option maxHeartbeats 8000000
namespace Mine
noncomputable abbrev siObj (D : Addr) (a b : Int) : Obj := { cls := .type "set_iterator", dict := none, data := .fields #[rawInt a, rawInt b, .ref D, rawInt 1, rawInt 1], slots := #[] }
section
variable {prog : Program} {w : World} {A : Around} {E : Value → Shared → Prop} {s : Shared}
theorem iter_set1 {D : Addr} {led : Bool} {Q : Value → Shared → Prop} (hD : s.heap.get? D = some (set1 led))
    (h : Q (.ref s.heap.objs.size) { s with heap := s.heap.push (siObj D 0 0) }) : wpAny (model prog w) A (pyIter (.ref D)) Q E s := by
  have hT : s.TypeIs (.ref D) "set" := ⟨_, hD, rfl⟩
  refine wpAny_pyIter_slot hT F.slot_set_iter (wpAny_call_entry F.slot_set_iter hT entry_set_iter ?_ (F.args_set_iter_1 _))
  unfold Builtin.«frozenset.__iter__» Builtin.Frozenset.slot0 slotArgs
  simp only [List.isEmpty_nil, Bool.not_true, Bool.false_eq_true, ↓reduceIte, bind_assoc, List.length_nil, bne_self_eq_false]
  unfold Builtin.Frozenset.addrOf Builtin.Frozenset.sizeOf
  refine wpAny_bind (wpAny_pure ?_)
  try dsimp only
  refine wpAny_bind (wpAny_pure ?_)
  refine wpAny_bind (wpAny_bind (wpAny_setEntries_of hD rfl rfl (wpAny_pure ?_)))
  unfold setDrawn setsByText
  refine wpAny_bind (wpAny_bind (wpAny_setState_of hD rfl rfl ?_))
  refine wpAny_bind (wpAny_bind (wpAny_askSetting (wpAny_pure ?_)))
  show wpAny _ _ (pure _) _ _ _
  refine wpAny_pure ?_
  have hz : ∀ b : Bool, (!b && ((!(tab1 led).plain) && decide ((#[((1 : Int), Value.bool true)] : Array (Int × Value)).size > 1))) = false := by intro b; cases b <;> rfl
  show wpAny _ _ (if (!w.params.followText "set-order" && ((!(tab1 led).plain) && decide ((#[((1 : Int), Value.bool true)] : Array (Int × Value)).size > 1))) = true then _ else _) _ _ _
  rw [hz]
  simp only [Bool.false_eq_true, if_false]
  refine wpAny_bind (wpAny_pure ?_)
  refine wpAny_bind (wpAny_setEpoch_of hD rfl rfl ?_)
  refine wpAny_bind (wpAny_newObj_type (wpAny_pure ⟨_, rfl, "set_iterator", _, ⟨_, Heap.get?_push_size _ rfl, rfl⟩, slot_si_next.lookup, ?_⟩))
  exact h
theorem setNext_first {D : Addr} {Q : Option (Value × Nat) → Shared → Prop} (hD : s.heap.get? D = some (set1 (!w.params.followText "set-order")))
    (h : ∀ x : Nat, (x = 0 ∧ w.params.followText "set-order" = true ∨ x = 2 ∧ w.params.followText "set-order" = false) → Q (some (.bool true, x)) s) : wpAny (model prog w) A (setNext D 0 0 1) Q E s := by
  unfold setNext
  refine wpAny_bind (wpAny_setState_of hD rfl rfl ?_)
  dsimp only
  unfold setsByText
  refine wpAny_bind (wpAny_bind (wpAny_askSetting (wpAny_pure ?_)))
  show wpAny _ _ (if (w.params.followText "set-order") = true then _ else _) _ _ _
  cases hf : w.params.followText "set-order" with
  | true =>
    rw [hf] at hD
    simp only [if_true]
    rw [if_neg (by decide)]
    refine wpAny_bind ?_
    unfold setWalk setsByText
    refine wpAny_bind (wpAny_setState_of hD rfl rfl ?_)
    dsimp only
    refine wpAny_bind (wpAny_bind (wpAny_askSetting (wpAny_pure ?_)))
    rw [show (⟨(model prog w).prog, (model prog w).w.params⟩ : Setting).params.followText "set-order" = true from hf]
    simp only [if_true]
    refine wpAny_bind (wpAny_askSetting (wpAny_pure ?_))
    refine wpAny_pure ?_
    have e : ∀ f : Nat → Nat, pickOrder f #[((1 : Int), Value.bool true)] = #[(1, Value.bool true)] := by
      intro f
      simp [pickOrder, pickOrder.go, Nat.mod_one]
    rw [e]
    exact h 0 (.inl ⟨rfl, hf⟩)
  | false =>
    rw [hf] at hD
    simp only [Bool.false_eq_true, if_false]
    exact wpAny_of_eq (a := some (.bool true, 2)) rfl (h 2 (.inr ⟨rfl, hf⟩))
theorem setNext_then {D : Addr} {x : Nat} {Q : Option (Value × Nat) → Shared → Prop} (hD : s.heap.get? D = some (set1 (!w.params.followText "set-order"))) (hx : x = 0 ∧ w.params.followText "set-order" = true ∨ x = 2 ∧ w.params.followText "set-order" = false)
    (h : Q none s) : wpAny (model prog w) A (setNext D x 1 1) Q E s := by
  unfold setNext
  refine wpAny_bind (wpAny_setState_of hD rfl rfl ?_)
  dsimp only
  unfold setsByText
  refine wpAny_bind (wpAny_bind (wpAny_askSetting (wpAny_pure ?_)))
  show wpAny _ _ (if (w.params.followText "set-order") = true then _ else _) _ _ _
  rcases hx with ⟨rfl, hf⟩ | ⟨rfl, hf⟩
  · rw [hf] at hD ⊢
    simp only [if_true]
    rw [if_neg (by decide)]
    refine wpAny_bind ?_
    unfold setWalk setsByText
    refine wpAny_bind (wpAny_setState_of hD rfl rfl ?_)
    dsimp only
    refine wpAny_bind (wpAny_bind (wpAny_askSetting (wpAny_pure ?_)))
    rw [show (⟨(model prog w).prog, (model prog w).w.params⟩ : Setting).params.followText "set-order" = true from hf]
    simp only [if_true]
    refine wpAny_bind (wpAny_askSetting (wpAny_pure ?_))
    refine wpAny_pure ?_
    have e : ∀ f : Nat → Nat, pickOrder f #[((1 : Int), Value.bool true)] = #[(1, Value.bool true)] := by
      intro f
      simp [pickOrder, pickOrder.go, Nat.mod_one]
    rw [e]
    exact h
  · rw [hf] at hD ⊢
    simp only [Bool.false_eq_true, if_false]
    exact wpAny_of_eq (a := none) rfl h
theorem next_set1 {D I : Addr} {Q : Option Value → Shared → Prop} (hD : s.heap.get? D = some (set1 (!w.params.followText "set-order"))) (hI : s.heap.get? I = some (siObj D 0 0))
    (h : ∀ h' x, h'.get? I = some (siObj D x 1) → (x = 0 ∧ w.params.followText "set-order" = true ∨ x = 2 ∧ w.params.followText "set-order" = false) → Heap.SameBut I s.heap h' → Q (some (.bool true)) { s with heap := h' }) : wpAny (model prog w) A (pyNext (.ref I)) Q E s := by
  have hT : s.TypeIs (.ref I) "set_iterator" := ⟨_, hI, rfl⟩
  unfold pyNext
  refine wpAny_bind (wpAny_attempt (wpAny_callSpecial?_slot (name := Str.ofString "__next__") hT slot_si_next
    (wpAny_call_entry slot_si_next hT entry_si_next ?_ (args_si_next _))))
  unfold Builtin.«set_iterator.__next__» slotArgs
  simp only [List.isEmpty_nil, Bool.not_true, Bool.false_eq_true, ↓reduceIte, bind_assoc, List.length_nil, bne_self_eq_false]
  refine wpAny_bind (wpAny_pure ?_)
  refine wpAny_bind (wpAny_fieldsOf hI rfl ?_)
  show wpAny _ _ (setEntries D >>= _) _ _ _
  refine wpAny_bind (wpAny_setEntries_of hD rfl rfl ?_)
  rw [if_neg (by decide)]
  show wpAny _ _ (setNext D 0 0 1 >>= _) _ _ _
  refine wpAny_bind (setNext_first hD fun x hx => ?_)
  dsimp only
  refine wpAny_bind (wpAny_setField hI rfl (by simp) ?_)
  have hI2 : (s.heap.update I (Obj.mapFields (·.setIfInBounds 0 (rawInt (x : Int))))).get? I = some (siObj D x 0) := Heap.get?_update_self _ hI rfl
  refine wpAny_bind (wpAny_setField (s := { s with heap := s.heap.update I (Obj.mapFields (·.setIfInBounds 0 (rawInt (x : Int)))) }) hI2 rfl (by simp) ?_)
  refine wpAny_pure ⟨_, rfl, wpAny_pure (h _ x (Heap.get?_update_self _ hI2 rfl) ?_ ((Heap.SameBut.update ..).trans (Heap.SameBut.update ..)))⟩
  rcases hx with ⟨rfl, hx⟩ | ⟨rfl, hx⟩
  · exact .inl ⟨rfl, hx⟩
  · exact .inr ⟨rfl, hx⟩
theorem end_set1 {D I : Addr} {x : Int} {Q : Option Value → Shared → Prop} (hh : A.handled = none) (hD : s.heap.get? D = some (set1 (!w.params.followText "set-order"))) (hI : s.heap.get? I = some (siObj D x 1)) (hx : x = 0 ∧ w.params.followText "set-order" = true ∨ x = 2 ∧ w.params.followText "set-order" = false)
    (hQ : ∀ h', Heap.ExtBut I s.heap h' → Q none { s with heap := h' }) : wpAny (model prog w) A (pyNext (.ref I)) Q E s := by
  have hT : s.TypeIs (.ref I) "set_iterator" := ⟨_, hI, rfl⟩
  unfold pyNext
  refine wpAny_bind (wpAny_attempt (wpAny_callSpecial?_slot (name := Str.ofString "__next__") hT slot_si_next
    (wpAny_call_entry slot_si_next hT entry_si_next ?_ (args_si_next _))))
  unfold Builtin.«set_iterator.__next__» slotArgs
  simp only [List.isEmpty_nil, Bool.not_true, Bool.false_eq_true, ↓reduceIte, bind_assoc, List.length_nil, bne_self_eq_false]
  refine wpAny_bind (wpAny_pure ?_)
  refine wpAny_bind (wpAny_fieldsOf hI rfl ?_)
  show wpAny _ _ (setEntries D >>= _) _ _ _
  refine wpAny_bind (wpAny_setEntries_of hD rfl rfl ?_)
  rw [if_neg (by decide)]
  show wpAny _ _ (setNext D x.toNat 1 1 >>= _) _ _ _
  refine wpAny_bind (setNext_then hD ?_ ?_)
  · rcases hx with ⟨rfl, hx⟩ | ⟨rfl, hx⟩
    · exact .inl ⟨rfl, hx⟩
    · exact .inr ⟨rfl, hx⟩
  dsimp only
  refine wpAny_bind (wpAny_setField hI rfl (by simp) ?_)
  show wpAny _ _ (newExc (.type "StopIteration") [] >>= _) _ _ _
  refine wpAny_bind ?_
  simp only [newExc, newTuple]
  refine wpAny_bind (wpAny_newObj_type ?_ (by size_fits))
  refine wpAny_bind (m := firstArgMember _ _) (wpAny_of_eq (a := Value.none) (by first | rfl | (simp only [firstArgMember]; rfl)) ?_)
  refine wpAny_newObj_type ?_ (by size_fits)
  simp only [raiseNew]
  refine wpAny_bind (wpAny_handled ?_)
  rw [show A.in1.handled = none from hh]
  refine wpAny_bind (wpAny_pure (wpAny_throw ?_))
  refine wpAny_bind (wpAny_isInstance (T := "StopIteration") (b := true) ⟨_, Heap.get?_push_size _ rfl, rfl⟩ isSubtype_stop ?_)
  exact wpAny_pure (hQ _ (((Heap.SameBut.update ..).extBut.push _).push _))
theorem unpack_set1 {D : Addr} {Q : List Value → Shared → Prop} (hh : A.handled = none) (hD : s.heap.get? D = some (set1 (!w.params.followText "set-order")))
    (hQ : ∀ h', Heap.ExtBut s.heap.objs.size s.heap h' → Q [.bool true] { s with heap := h' }) : wpAny (model prog w) A (unpackItems (.ref D) 1 none) Q E s := by
  have hne : D ≠ s.heap.objs.size := Nat.ne_of_lt (Heap.lt_size hD)
  have hT : s.TypeIs (.ref D) "set" := ⟨_, hD, rfl⟩
  unfold unpackItems
  refine wpAny_bind ?_
  unfold notIterableAtAll
  refine wpAny_bind (wpAny_specialOf hT F.slot_set_iter.lookup ?_)
  refine wpAny_pure ?_
  simp only [Bool.false_eq_true, if_false]
  refine wpAny_bind (wpAny_holding (iter_set1 hD ?_))
  refine wpAny_bind (wpAny_holding ?_)
  show wpAny _ _ (pyNext (.ref s.heap.objs.size) >>= _) _ _ _
  refine wpAny_bind (next_set1 (s := { s with heap := s.heap.push (siObj D 0 0) }) (Heap.get?_push_of_some _ hD) (Heap.get?_push_size _ rfl) fun h₁ x hI hx hs => ?_)
  dsimp only
  refine wpAny_bind (wpAny_holding (wpAny_pure (wpAny_pure ?_)))
  rw [if_neg (by simp)]
  refine wpAny_bind (wpAny_holding (end_set1 (s := { s with heap := h₁ }) hh (hs.extBut _ _ hne (Heap.get?_push_of_some _ hD)) hI hx fun h₂ he => ?_))
  simp only [Option.isSome_none, Bool.false_eq_true, if_false]
  exact wpAny_pure (hQ h₂ fun b o hb e => he b o hb (hs.extBut b o hb (Heap.get?_push_of_some _ e)))
end
end Mine
end

section
open PySem PySem.W PyProof.Rows PyProof.Rows.LCg PyProof.Rows.LCt PySem.Calls
set_option maxRecDepth 100000
set_option maxHeartbeats 8000000
namespace Mine
theorem compTurn_set (elt target iter : Expr) (ifs : List Expr) (scope : Scope) (pos : Pos) (it : Value) (D : Addr) (env : Env) :
    compTurn (.SetComp elt [⟨target, iter, ifs, 0⟩] scope pos) 0 it (.ref D) env = (do
      standAt iter.pos
      match ← pyNext it with
      | none => pure (.done .next)
      | some v =>
        letOwnedTupleGo target it v
        assign target env v
        let mut ok := true
        for c in ifs do
          if ok then ok ← isTrue c env (eval c env)
        if ok then
          (do
            let v ← eval elt env
            standAt elt.pos
            let _ ← call (.builtin "set.add") [.ref D, v])
        again (.compLoop (.SetComp elt [⟨target, iter, ifs, 0⟩] scope pos) 0 it (.ref D) env)) := by rfl
section
variable {prog : Program} {w : World} {A : Around} {E : Value → Shared → Prop} {R : Result → Shared → Prop} {s : Shared}
theorem codeAny_compStart_set {elt target iter ifs rest scope pos it acc env}
    (h0 : codeAny (model prog w) A (.compLoop (.SetComp elt (⟨target, iter, ifs, 0⟩ :: rest) scope pos) 0 it acc env) R s)
    (h : wpAny (model prog w) A (pyIter it) (fun it' s' => codeAny (model prog w) A (.compLoop (.SetComp elt (⟨target, iter, ifs, 0⟩ :: rest) scope pos) 0 it' acc env) R s')
      (notedBy (model prog w) A env fun x s' => R (.error x) s') s) :
    codeAny (model prog w) A (.compStart (.SetComp elt (⟨target, iter, ifs, 0⟩ :: rest) scope pos) 0 it acc env) R s := by
  refine codeAny_of_tree ?_
  show wpAny _ A ((compStart (.SetComp elt (⟨target, iter, ifs, 0⟩ :: rest) scope pos) 0 it acc env).onRaise (fun x => do noteFrame x env; standAt theWindowsPlace)) _ _ s
  refine wpAny_notedAt ?_
  unfold compStart
  show wpAny _ A (ask >>= _) _ _ s
  refine wpAny_bind (wpAny_askSetting (wpAny_ite ?_))
  split
  · first
      | exact wpAny_bind (wpAny_pure (wpAny_pure (And.intro rfl h0)))
      | exact wpAny_pure (And.intro rfl h0)
  · first
      | exact wpAny_bind (wpAny_rule (wpAny_bind (wpAny_standAt (wpAny_bind (wpAny_mono h (fun it' s' h' => wpAny_pure (And.intro rfl h')) fun _ _ x => x)))))
      | (refine wpAny_bind (wpAny_rule ?_); show wpAny _ _ (standAt iter.pos >>= _) _ _ s; exact wpAny_bind (wpAny_standAt (wpAny_bind (wpAny_mono h (fun it' s' h' => wpAny_pure (And.intro rfl h')) fun _ _ x => x))))
theorem codeAny_compLoop_set {elt target iter : Expr} {scope : Scope} {pos : Pos} {it : Value} {D : Addr} {env : Env} (I : Nat → Shared → Prop)
    (turn : ∀ n s, I n s → wpAny (model prog w) A (pyNext it) (fun r s₁ => match r with
      | none => R (.ok .next) s₁
      | some v => wpAny (model prog w) A (assign target env v) (fun _ s₂ =>
          wpAny (model prog w) A (eval elt env) (fun v s₅ =>
              wpAny (model prog w) A (call (.builtin "set.add") [.ref D, v]) (fun _ s₆ => ∃ m, m < n ∧ I m s₆) (notedBy (model prog w) A env fun e s' => R (.error e) s') s₅) (notedBy (model prog w) A env fun e s' => R (.error e) s') s₂)
            (notedBy (model prog w) A env fun e s' => R (.error e) s') s₁) (notedBy (model prog w) A env fun e s' => R (.error e) s') s)
    (n : Nat) (h : I n s) (ht : ∀ v, letOwnedTupleGo target it v = pure () := by intro _; rfl) :
    codeAny (model prog w) A (.compLoop (.SetComp elt [⟨target, iter, [], 0⟩] scope pos) 0 it (.ref D) env) R s := by
  refine codeAny_loop rfl I (fun n s hI => ?_) n h
  show wpAny _ A ((compTurn (.SetComp elt [⟨target, iter, [], 0⟩] scope pos) 0 it (.ref D) env).onRaise (fun x => do noteFrame x env; theTreesLotGoes x)) _ _ s
  refine wpAny_noted ?_
  rw [compTurn_set]
  refine wpAny_bind (wpAny_standAt (wpAny_bind (wpAny_mono (turn n s hI) (fun r s₁ h₁ => ?_) fun _ _ h' => h')))
  cases r with
  | none => exact wpAny_pure h₁
  | some v =>
    refine wpAny_bind (wpAny_of_eq (ht v) ?_)
    refine wpAny_bind (wpAny_mono h₁ (fun _ s₂ h₂ => wpAny_bind (wpAny_pure ?_)) fun _ _ h' => h')
    exact wpAny_bind (wpAny_bind (wpAny_mono h₂ (fun kv s₄ h₄ => wpAny_bind (wpAny_standAt (wpAny_bind (wpAny_mono h₄ (fun vv s₅ h₅ => wpAny_pure (wpAny_pure ⟨rfl, h₅⟩)) fun _ _ h' => h')))) fun _ _ h' => h'))
end
section
variable {prog : Program} {w : World} {A : Around} {E : Value → Shared → Prop} {s : Shared} {h₀ : Heap} {L : Addr} {m : Str → Option Value} {env : Env}
noncomputable def emS (prog : Program) (w : World) (A : Around) (elt : Expr) (scope : Scope) (cl : List (Str × Addr)) (env : Env) (C D : Addr) (Q : Shared → Prop) (E : Value → Shared → Prop) (s : Shared) : Prop :=
  wpAny (model prog w) A (eval elt (compEnvC scope cl C env)) (fun v s₄ => wpAny (model prog w) A (call (.builtin "set.add") [.ref D, v]) (fun _ s₆ => Q s₆) E s₄) E s
theorem emS_mono {elt : Expr} {scope : Scope} {cl : List (Str × Addr)} : ∀ C D (Q Q' : Shared → Prop) E s, (∀ s, Q s → Q' s) → emS prog w A elt scope cl env C D Q E s → emS prog w A elt scope cl env C D Q' E s :=
  fun _ _ _ _ _ _ h q => wpAny_mono q (fun _ _ q => wpAny_mono q (fun _ s x => h s x) fun _ _ x => x) fun _ _ x => x
theorem eval_SetComp' (elt gens scope pos) : eval (.SetComp elt gens scope pos) env = comprehension (.SetComp elt gens scope pos) scope env (firstIterPos gens pos) (newSet (.type "set")) (firstAsync gens) (firstIter gens env) := arm_eval_SetComp ..
theorem SetComp_W {elt iter : Expr} {x : Str} {px : Pos} {scope : Scope} {cl : List (Str × Addr)} {pos : Pos} {Q : Value → Shared → Prop} (_F₀ : Fr h₀ L s.heap m)
    (hclos : closureFor scope env = pure cl) (hcell : ∀ y ∈ scope.names, y.2 ≠ .cell) (hkind : scope.kind = .function)
    (hnames : ∀ y ∈ scope.names, y.2 = .local → scope.names.lookup y.1 = some .local) (hx : scope.names.lookup x = some .local)
    (h : wpAny (model prog w) A (eval iter env) (SrcW prog w A h₀ L m fun S P n news s₂ => CompRestG prog w A h₀ L m x (emS prog w A elt scope cl env) s₂ S P (FinO h₀ L m s₂ Q) n 0 (set0 (!w.params.followText "set-order")) news) E s)
    (hs : ∀ x, foldedSetIterable iter env x = pure x := by intro _; rfl) :
    wpAny (model prog w) A (eval (.SetComp elt [⟨.Name x px, iter, [], 0⟩] scope pos) env) Q E s := by
  rw [eval_SetComp']
  refine wpAny_comprehension_free (use := none) rfl hs hclos hkind hnames (wpAny_mono h (fun xv s₁ h₁ => ?_) fun _ _ e => e)
  obtain ⟨n, P, news, S, oI, fp, St, F, N, hsz, hS, hit, W, hIo, hSt, hst, hfp, R⟩ := h₁
  refine hit _ _ ?_
  have up : ∀ b o, s₁.heap.get? b = some o → (s₁.heap.push oI).get? b = some o := fun b o e => Heap.get?_push_of_some _ e
  refine block_G (px := px) (em := emS prog w A elt scope cl env) (oD₀ := set0 (!w.params.followText "set-order")) emS_mono rfl (fun Q q => ?_) ?_ ?_ W hIo hSt hcell hkind hx hst (fun b hb => ?_) (F.keeps up) (N.grown up) (Nat.ne_of_lt F.ns.lt) (next_is_new F) (fun p hp => Nat.ne_of_lt (Heap.lt_size (N p hp).1)) hS (R _) ?_
  · exact newSet_set q
  · intro C D Inv R s k turn hk
    refine codeAny_compLoop_set Inv (fun n s hI => ?_) k hk
    refine wpAny_mono (turn n s hI _) (fun r s₁ h₁ => ?_) fun _ _ e => e
    cases r with
    | none => exact h₁
    | some v => exact wpAny_mono h₁ (fun _ s₂ h₂ => h₂) fun _ _ e => e
  · intro C D R s h0 h1
    exact codeAny_compStart_set h0 (h1 _)
  · show b < (s₁.heap.push _).objs.size
    rw [Heap.size_push]; exact Nat.lt_succ_of_le (hfp b hb)
  · intro D C h tk m' oD news' hLD F' N' o1 hn hC₀ hD₀ hCL hDL hCD offC fin
    refine ⟨m', hn, fun h'' hs'' => fin D h'' tk hLD (F'.change hs'' hCL hC₀) (fun p hp => ?_) o1⟩
    refine ⟨hs''.extBut _ _ ?_ (N' p hp).1, (N' p hp).2⟩
    rcases List.mem_cons.mp hp with rfl | hp
    · exact Ne.symm hCD
    · exact offC p hp
end
end Mine
end

section
open PySem PySem.W PyProof.Rows PyProof.Rows.LCg PyProof.Rows.LCt PySem.Calls
set_option maxRecDepth 100000
set_option maxHeartbeats 8000000
namespace Mine
section
variable {prog : Program} {w : World} {A : Around} {E : Value → Shared → Prop} {s : Shared} {h₀ : Heap} {L : Addr} {m : Str → Option Value}
theorem setc_first {I C D : Addr} {oI oC : Obj} {led : Bool} {news : List (Addr × Obj)} {h : Heap} {tk : Nat} {S : List (Addr × Obj) → Prop} {rest : Obj → List (Addr × Obj) → Prop} (Fm : Fr h₀ L h m) (N : News h₀ L h ((I, oI) :: (C, oC) :: (D, set0 led) :: news)) (off : Off3 I C D news) (ne : (@Ne Nat I C) ∧ (@Ne Nat I D) ∧ (@Ne Nat C D)) (hS : S news) (r : rest (set1 led) news) :
    wpAny (model prog w) A (call (.builtin "set.add") [.ref D, .bool true]) (fun _ s₆ => CompEndG h₀ L m s I oI C oC D S rest s₆) E { s with heap := h, toks := tk } := by
  have z := N _ (.tail _ (.tail _ (.head _)))
  refine set_add0 z.1 fun h' tk' hD' hs => ?_
  refine compG_end (Fm.change hs z.2.1 z.2.2) (fun p hp => ?_) off hS r
  rcases List.mem_cons.mp hp with rfl | hp
  · exact ⟨hs.extBut _ _ ne.2.1 (N _ (.head _)).1, (N _ (.head _)).2⟩
  · rcases List.mem_cons.mp hp with rfl | hp
    · exact ⟨hs.extBut _ _ ne.2.2 (N _ (.tail _ (.head _))).1, (N _ (.tail _ (.head _))).2⟩
    · rcases List.mem_cons.mp hp with rfl | hp
      · exact ⟨hD', z.2⟩
      · exact ⟨hs.extBut _ _ (off.mem p hp).2.2 (N _ (.tail _ (.tail _ (.tail _ hp)))).1, (N _ (.tail _ (.tail _ (.tail _ hp)))).2⟩
theorem setc_again {I C D : Addr} {oI oC : Obj} {led : Bool} {news : List (Addr × Obj)} {h : Heap} {tk : Nat} {S : List (Addr × Obj) → Prop} {rest : Obj → List (Addr × Obj) → Prop} (Fm : Fr h₀ L h m) (N : News h₀ L h ((I, oI) :: (C, oC) :: (D, set1 led) :: news)) (off : Off3 I C D news) (hS : S news) (r : rest (set1 led) news) :
    wpAny (model prog w) A (call (.builtin "set.add") [.ref D, .bool true]) (fun _ s₆ => CompEndG h₀ L m s I oI C oC D S rest s₆) E { s with heap := h, toks := tk } := by
  have z := N _ (.tail _ (.tail _ (.head _)))
  exact set_add1 z.1 fun tk' => compG_end Fm N off hS r
theorem unpack_set1L {D : Addr} {news : List (Addr × Obj)} {Q : List Value → Shared → Prop} (hh : A.handled = none) (Fm : Fr h₀ L s.heap m) (N : News h₀ L s.heap ((D, set1 (!w.params.followText "set-order")) :: news))
    (hQ : ∀ h', Fr h₀ L h' m → News h₀ L h' news → Q [.bool true] { s with heap := h' }) : wpAny (model prog w) A (unpackItems (.ref D) 1 none) Q E s := by
  refine unpack_set1 hh (N _ (.head _)).1 fun h' he => ?_
  have k : ∀ b o, s.heap.get? b = some o → h'.get? b = some o := fun b o e => he b o (Nat.ne_of_lt (Heap.lt_size e)) e
  exact hQ h' (Fm.keeps k) (News.grown (fun p hp => N p (.tail _ hp)) k)
end
end Mine
namespace Mine
section
variable {prog : Program} {w : World} {A : Around} {E : Value → Shared → Prop} {s : Shared} {h₀ : Heap} {L : Addr} {m : Str → Option Value}
theorem CompRestG.zero {x : Str} {em : Addr → Addr → (Shared → Prop) → (Value → Shared → Prop) → Shared → Prop} {S : List (Addr × Obj) → Prop} {P : Nat → Value → Prop} {Fin : Obj → List (Addr × Obj) → Prop} {i : Nat} {oD : Obj} {news : List (Addr × Obj)} (h : Fin oD news) :
    CompRestG prog w A h₀ L m x em s S P Fin 0 i oD news := h
theorem CompRestG.succ {x : Str} {em : Addr → Addr → (Shared → Prop) → (Value → Shared → Prop) → Shared → Prop} {S : List (Addr × Obj) → Prop} {P : Nat → Value → Prop} {Fin : Obj → List (Addr × Obj) → Prop} {k i : Nat} {oD : Obj} {news : List (Addr × Obj)}
    (h : ∀ v I oI C oC D m₂ h tk (E' : Value → Shared → Prop), P i v → NsObj oC m₂ → m₂ x = some v → Fr h₀ L h m → News h₀ L h ((I, oI) :: (C, oC) :: (D, oD) :: news) → Off3 I C D news → ((@Ne Nat I C) ∧ (@Ne Nat I D) ∧ (@Ne Nat C D)) →
      em C D (CompEndG h₀ L m { s with heap := h, toks := tk } I oI C oC D S (fun oD' news' => CompRestG prog w A h₀ L m x em s S P Fin k (i + 1) oD' news')) E' { s with heap := h, toks := tk }) :
    CompRestG prog w A h₀ L m x em s S P Fin (k + 1) i oD news := h
theorem emS_go {elt : Expr} {scope : Scope} {cl : List (Str × Addr)} {env : Env} {C D : Addr} {Q : Shared → Prop} (h : wpAny (model prog w) A (eval elt (compEnvC scope cl C env)) (fun v s₄ => wpAny (model prog w) A (call (.builtin "set.add") [.ref D, v]) (fun _ s₆ => Q s₆) E s₄) E s) : emS prog w A elt scope cl env C D Q E s := h
theorem emD_go {kx vx : Expr} {scope : Scope} {cl : List (Str × Addr)} {env : Env} {C D : Addr} {Q : Shared → Prop} (h : wpAny (model prog w) A (eval kx (compEnvC scope cl C env)) (fun kv s₄ => wpAny (model prog w) A (eval vx (compEnvC scope cl C env)) (fun vv s₅ => wpAny (model prog w) A (dictSet D kv vv) (fun _ s₆ => Q s₆) E s₅) E s₄) E s) : emD prog w A kx vx scope cl env C D Q E s := h
end
end Mine
namespace Mine
section
variable {prog : Program} {w : World} {A : Around} {E : Value → Shared → Prop} {s : Shared} {h₀ : Heap} {L : Addr} {m : Str → Option Value} {env : Env}
theorem assign_set1 {x : Str} {px pos : Pos} {k : Nat} {D : Addr} {news : List (Addr × Obj)} {Q : Unit → Shared → Prop} (hh : A.handled = none) (Fm : Fr h₀ L s.heap m) (N : News h₀ L s.heap ((D, set1 (!w.params.followText "set-order")) :: news))
    (h : ∀ h', Fr h₀ L h' m → News h₀ L h' news → wpAny (model prog w) A (assign (.Name x px) env (.bool true)) Q E { s with heap := h' }) : wpAny (model prog w) A (assign (.Tuple [.Name x px] k pos) env (.ref D)) Q E s := by
  rw [assign_Tuple]
  refine wpAny_bind (wpAny_standAt ?_)
  unfold unpack
  refine wpAny_bind (wpAny_holding (unpack_set1L hh Fm N fun h' F' N' => ?_))
  show wpAny _ _ (assignInOrder [assign (.Name x px) env] [.bool true]) _ _ _
  unfold assignInOrder
  have := h h' F' N'
  refine wpAny_bind (wpAny_mono this (fun _ s' q => ?_) fun _ _ e => e)
  exact wpAny_pure q
end
end Mine
end

section
open PySem PySem.W PyProof.Rows
set_option maxRecDepth 100000
set_option maxHeartbeats 2000000
namespace Mine
noncomputable def nmL : List Str := [Str.ofString "b", Str.ofString "a", Str.ofString "c", Str.ofString "a-", Str.ofString "ab", Str.ofString "a."]
noncomputable def nm (k : Nat) : Str := nmL.getD k (Str.ofString "")
noncomputable def pathOf (cs : List Str) : Str := Str.ofString "/" ++ Txt.join (Str.ofString "/") cs
/-- the names that a path of the places below k may have -/
noncomputable def subs : Nat → List (List Str)
  | 0 => [[]]
  | k + 1 => subs k ++ (subs k).map (· ++ [nm k])
theorem sub_parts : ∀ cs ∈ subs 6, partsF (pathOf cs) = cs := by decide +kernel
end Mine
namespace Mine
noncomputable def intL (xs : List (Int × Tok)) : List Value := xs.map fun p => .int p.1 p.2
/-- the place above place k + 1 -/
noncomputable def prn (ov : Nat → Nat) (k : Nat) : Nat := min (ov k) k
theorem prn_le (ov : Nat → Nat) (k : Nat) : prn ov k ≤ k := Nat.min_le_right _ _
/-- the names of a place's path -/
noncomputable def cmp (ov : Nat → Nat) : Nat → List Str
  | 0 => []
  | k + 1 => cmp ov (prn ov k) ++ [nm k]
termination_by j => j
decreasing_by exact Nat.lt_succ_of_le (prn_le ov k)
noncomputable def pth (ov : Nat → Nat) (j : Nat) : Str := pathOf (cmp ov j)
theorem cmp_zero (ov : Nat → Nat) : cmp ov 0 = [] := by rw [cmp]
theorem cmp_succ (ov : Nat → Nat) (k : Nat) : cmp ov (k + 1) = cmp ov (prn ov k) ++ [nm k] := by rw [cmp]
theorem subs_up {k : Nat} : ∀ {j}, j ≤ k → ∀ cs ∈ subs j, cs ∈ subs k := by
  induction k with
  | zero => intro j h; obtain rfl : j = 0 := by lia
            exact fun _ h => h
  | succ k ih =>
    intro j h cs hc
    by_cases e : j = k + 1
    · subst e; exact hc
    · exact List.mem_append_left _ (ih (by lia) cs hc)
theorem cmp_sub (ov : Nat → Nat) : ∀ n j, j ≤ n → cmp ov j ∈ subs j := by
  intro n
  induction n with
  | zero => intro j h; obtain rfl : j = 0 := by lia
            rw [cmp_zero]; exact List.mem_singleton.mpr rfl
  | succ n ih =>
    intro j h
    cases j with
    | zero => rw [cmp_zero]; exact List.mem_singleton.mpr rfl
    | succ k =>
      rw [cmp_succ]
      exact List.mem_append_right _ (List.mem_map_of_mem (f := fun x => x ++ [nm k]) (subs_up (prn_le ov k) _ (ih _ (Nat.le_trans (prn_le ov k) (by lia)))))
theorem cmp_in (ov : Nat → Nat) {j : Nat} (h : j ≤ 6) : cmp ov j ∈ subs 6 := subs_up h _ (cmp_sub ov j j (Nat.le_refl _))
theorem sub_facts : ∀ cs ∈ subs 6, (pathOf cs).length ≤ 20 ∧ (pathOf cs).length ≠ 0 ∧ (Txt.split (pathOf cs) (Str.ofString "/")).length ≤ 8 ∧ Txt.startswith (pathOf cs) (Str.ofString "/") = true := by decide +kernel
theorem sub_step : ∀ k ∈ List.range 6, ∀ cs ∈ subs k, joinF (pathOf cs) (nm k) = pathOf (cs ++ [nm k]) ∧ dirF (pathOf (cs ++ [nm k])) = pathOf cs ∧ (pathOf cs).cps.toList < (pathOf (cs ++ [nm k])).cps.toList := by decide +kernel
theorem sub_take : ∀ cs ∈ subs 6, ∀ n ∈ List.range 7, cs.take n ∈ subs 6 := by decide +kernel
theorem sub_short : ∀ cs ∈ subs 6, cs.length ≤ 6 := by decide +kernel
theorem nm_facts : ∀ k ∈ List.range 6, (nm k).length ≤ 2 ∧ (nm k).length ≠ 0 ∧ Txt.startswith (nm k) (Str.ofString "/") = false ∧ ∀ l ∈ List.range 6, nm k = nm l → k = l := by decide +kernel
theorem pth_zero (ov : Nat → Nat) : pth ov 0 = Str.ofString "/" := by
  unfold pth; rw [cmp_zero]; decide +kernel
theorem pth_succ (ov : Nat → Nat) {k : Nat} (h : k < 6) : pth ov (k + 1) = joinF (pth ov (prn ov k)) (nm k) := by
  unfold pth; rw [cmp_succ]
  exact (sub_step k (List.mem_range.mpr h) _ (subs_up (prn_le ov k) _ (cmp_sub ov _ _ (Nat.le_refl _)))).1.symm
theorem pth_dir (ov : Nat → Nat) {k : Nat} (h : k < 6) : dirF (pth ov (k + 1)) = pth ov (prn ov k) := by
  unfold pth; rw [cmp_succ]
  exact (sub_step k (List.mem_range.mpr h) _ (subs_up (prn_le ov k) _ (cmp_sub ov _ _ (Nat.le_refl _)))).2.1
theorem pth_dir0 (ov : Nat → Nat) : dirF (pth ov 0) = pth ov 0 := by rw [pth_zero]; decide +kernel
theorem pth_lt (ov : Nat → Nat) {k : Nat} (h : k < 6) : (pth ov (prn ov k)).cps.toList < (pth ov (k + 1)).cps.toList := by
  unfold pth; rw [cmp_succ]
  exact (sub_step k (List.mem_range.mpr h) _ (subs_up (prn_le ov k) _ (cmp_sub ov _ _ (Nat.le_refl _)))).2.2
theorem pathOf_inj {cs ds : List Str} (h1 : cs ∈ subs 6) (h2 : ds ∈ subs 6) (h : pathOf cs = pathOf ds) : cs = ds := by rw [← sub_parts cs h1, h, sub_parts ds h2]
theorem cmp_inj (ov : Nat → Nat) {i j : Nat} (hi : i ≤ 6) (hj : j ≤ 6) (h : cmp ov i = cmp ov j) : i = j := by
  cases i with
  | zero =>
    cases j with
    | zero => rfl
    | succ j => rw [cmp_zero, cmp_succ] at h; simp at h
  | succ i =>
    cases j with
    | zero => rw [cmp_zero, cmp_succ] at h; simp at h
    | succ j =>
      rw [cmp_succ, cmp_succ] at h
      have := (List.append_inj' h rfl).2
      rw [(nm_facts i (List.mem_range.mpr (by lia))).2.2.2 j (List.mem_range.mpr (by lia)) (by simpa using this)]
theorem pth_inj (ov : Nat → Nat) {i j : Nat} (hi : i ≤ 6) (hj : j ≤ 6) (h : pth ov i = pth ov j) : i = j := cmp_inj ov hi hj (pathOf_inj (cmp_in ov hi) (cmp_in ov hj) h)
theorem lcp_pre : ∀ a b : List Str, lcp a b = a.take (lcp a b).length
  | [], b => by cases b <;> rfl
  | x :: xs, [] => rfl
  | x :: xs, y :: ys => by
    rw [lcp]
    split
    · rw [List.length_cons, List.take_succ_cons, ← lcp_pre xs ys]
    · rfl
/-- place i lies above place j, or is it -/
noncomputable def anc (ov : Nat → Nat) (i j : Nat) : Bool := decide (lcp (cmp ov i) (cmp ov j) = cmp ov i)
theorem lcp_len : ∀ a b : List Str, (lcp a b).length ≤ a.length
  | [], b => by cases b <;> exact Nat.le_refl _
  | x :: xs, [] => Nat.zero_le _
  | x :: xs, y :: ys => by
    rw [lcp]
    split
    · exact Nat.succ_le_succ (lcp_len xs ys)
    · exact Nat.zero_le _
theorem cp_anc (ov : Nat → Nat) {i j : Nat} (hi : i ≤ 6) (hj : j ≤ 6) : decide (cpF (pth ov i) (pth ov j) = pth ov i) = anc ov i j := by
  have e : cpF (pth ov i) (pth ov j) = pathOf (lcp (cmp ov i) (cmp ov j)) := by
    unfold cpF pth
    rw [sub_parts _ (cmp_in ov hi), sub_parts _ (cmp_in ov hj)]
    rfl
  have hm : lcp (cmp ov i) (cmp ov j) ∈ subs 6 := by
    rw [lcp_pre]
    refine sub_take _ (cmp_in ov hi) _ (List.mem_range.mpr ?_)
    have := lcp_len (cmp ov i) (cmp ov j)
    have := sub_short _ (cmp_in ov hi)
    lia
  unfold anc
  rw [e]
  by_cases h : lcp (cmp ov i) (cmp ov j) = cmp ov i
  · rw [decide_eq_true h, decide_eq_true (by rw [h]; rfl)]
  · rw [decide_eq_false h]
    exact decide_eq_false fun h2 => h (pathOf_inj hm (cmp_in ov hi) h2)
theorem lcp_eq_iff : ∀ {a b : List Str}, lcp a b = a ↔ a <+: b
  | [], b => by cases b <;> simp [lcp]
  | x :: xs, [] => by simp [lcp]
  | x :: xs, y :: ys => by
    rw [lcp, List.cons_prefix_cons]
    by_cases h : x = y
    · subst h; simp [lcp_eq_iff (a := xs) (b := ys)]
    · simp [h]
theorem anc_self (ov : Nat → Nat) (i : Nat) : anc ov i i = true := decide_eq_true (lcp_self _)
theorem anc_succ (ov : Nat → Nat) {i k : Nat} (hi : i ≤ 6) (hk : k < 6) : anc ov i (k + 1) = true ↔ i = k + 1 ∨ anc ov i (prn ov k) = true := by
  unfold anc
  rw [decide_eq_true_eq, decide_eq_true_eq, lcp_eq_iff, lcp_eq_iff, cmp_succ, List.prefix_concat_iff, ← cmp_succ]
  constructor
  · rintro (h | h)
    · exact .inl (cmp_inj ov hi (by lia) h)
    · exact .inr h
  · rintro (h | h)
    · exact .inl (by rw [h])
    · exact .inr h
theorem anc_zero (ov : Nat → Nat) {i : Nat} (hi : i ≤ 6) : anc ov i 0 = true ↔ i = 0 := by
  unfold anc
  rw [decide_eq_true_eq, lcp_eq_iff, cmp_zero, List.prefix_nil]
  constructor
  · intro h; exact cmp_inj ov hi (by lia) (h.trans (cmp_zero ov).symm)
  · rintro rfl; exact cmp_zero ov
end Mine
end

section
open PySem PySem.W PyProof.Rows PySem.Calls
set_option maxRecDepth 100000
set_option maxHeartbeats 8000000
namespace Mine
section
variable {prog : Program} {w : World} {A : Around} {E : Value → Shared → Prop} {s : Shared} {h₀ : Heap} {L : Addr} {news : List (Addr × Obj)} {m : Str → Option Value} {value slice : Expr} {l : Addr} {n : Nat} {k : Int} {u : Tok} {vs : List Value}
theorem item_getV {Q : Value → Shared → Prop} (i : Nat) (x : Value) (N : News h₀ L s.heap news) (hm : (l, listOf vs.toArray n) ∈ news) (hk : k = (i : Int)) (hi : i < 2 ^ 62) (hx : vs[i]? = some x) (h : Q x s)
    (hs : subscripted slice false (.ref l) (.int k u) = operate [.ref l, .int k u] (getItem (.ref l) (.int k u)) := by with_unfolding_all rfl) (hg : ∀ r, letTemporaryGo value (.ref l) r = pure () := by intro _; with_unfolding_all rfl) :
    wpAny (model prog w) A (subscriptTail value slice (.ref l) (.int k u)) Q E s := by
  subst hk
  exact kim_list N hm rfl rfl (by lia) (by lia) (by simp [hx]) h hs hg
theorem append_ledV {rest : List (Addr × Obj)} {v : Value} {Q : Value → Shared → Prop} (F : Fr h₀ L s.heap m) (N : News h₀ L s.heap ((l, W.listOf vs.toArray n) :: rest)) (hoff : ∀ p ∈ rest, p.1 ≠ l) (hz : vs.length ≤ 1000)
    (h : ∀ h', Fr h₀ L h' m → News h₀ L h' ((l, W.listOf (vs ++ [v]).toArray (n + 1)) :: rest) → Q .none { s with heap := h' }) : wpAny (model prog w) A (call (.builtin "list.append") [.ref l, v]) Q E s := by
  refine append_K F N (.head hoff) (fun h' F' N' => h h' F' ?_) (by simp [sizeLine]; lia)
  have e : (vs ++ [v]).toArray = vs.toArray.push v := by simp
  rw [e]; exact N'
end
end Mine
namespace Mine
section
variable {prog : Program} {w : World} {A : Around} {E : Value → Shared → Prop} {s : Shared} {h₀ : Heap} {L : Addr} {news : List (Addr × Obj)} {m : Str → Option Value} {value slice : Expr} {a : Addr} {n : Nat} {u : Tok} {vs : List Value} {o : Obj}
theorem item_getT {Q : Value → Shared → Prop} {k : Int} (i : Nat) (x : Value) (N : News h₀ L s.heap news) (hm : (a, o) ∈ news) (hc : o.cls = .type "tuple") (hd : o.data = .seq vs.toArray n) (hk : k = (i : Int)) (hi : i < 2 ^ 62) (hx : vs[i]? = some x) (h : Q x s)
    (hs : subscripted slice false (.ref a) (.int k u) = operate [.ref a, .int k u] (getItem (.ref a) (.int k u)) := by with_unfolding_all rfl) (hg : ∀ r, letTemporaryGo value (.ref a) r = pure () := by intro _; with_unfolding_all rfl) :
    wpAny (model prog w) A (subscriptTail value slice (.ref a) (.int k u)) Q E s := by
  subst hk
  have hl := (List.getElem?_eq_some_iff.mp hx).1
  refine kim_tup (j := i) N hm hc hd (by lia) (by lia) ?_ hx h hs hg
  unfold seqIndex?
  simp; lia
end
end Mine
namespace Mine
section
variable {prog : Program} {w : World} {A : Around} {E : Value → Shared → Prop} {s : Shared} {h₀ : Heap} {L l : Addr} {m : Str → Option Value} {rest : List (Addr × Obj)} {z : List (Int × Tok)} {n : Nat} {x : Int} {t : Tok} {Q : Value → Shared → Prop}
theorem append_ledI (F : Fr h₀ L s.heap m) (N : News h₀ L s.heap ((l, W.listOf (intL z).toArray n) :: rest)) (hoff : ∀ p ∈ rest, p.1 ≠ l) (hz : z.length ≤ 1000)
    (h : ∀ h' z', z'.map (·.1) = z.map (·.1) ++ [x] → Fr h₀ L h' m → News h₀ L h' ((l, W.listOf (intL z').toArray (n + 1)) :: rest) → Q .none { s with heap := h' }) : wpAny (model prog w) A (call (.builtin "list.append") [.ref l, .int x t]) Q E s := by
  refine append_ledV F N hoff (by simpa [intL] using hz) fun h' F' N' => h h' (z ++ [(x, t)]) (by simp) F' ?_
  have e : intL (z ++ [(x, t)]) = intL z ++ [.int x t] := by simp [intL]
  rw [e]; exact N'
end
end Mine
namespace Mine
section
variable {prog : Program} {w : World} {A : Around} {E : Value → Shared → Prop} {s : Shared} {h₀ : Heap} {L l : Addr} {m : Str → Option Value} {rest : List (Addr × Obj)} {z : List (Str × Tok)} {n : Nat} {x : Str} {t : Tok} {Q : Value → Shared → Prop}
theorem append_ledS (F : Fr h₀ L s.heap m) (N : News h₀ L s.heap ((l, W.listOf (strL z).toArray n) :: rest)) (hoff : ∀ p ∈ rest, p.1 ≠ l) (hz : z.length ≤ 1000)
    (h : ∀ h' z', z'.map (·.1) = z.map (·.1) ++ [x] → Fr h₀ L h' m → News h₀ L h' ((l, W.listOf (strL z').toArray (n + 1)) :: rest) → Q .none { s with heap := h' }) : wpAny (model prog w) A (call (.builtin "list.append") [.ref l, .str x t]) Q E s := by
  refine append_ledV F N hoff (by simpa [strL] using hz) fun h' F' N' => h h' (z ++ [(x, t)]) (by simp) F' ?_
  have e : strL (z ++ [(x, t)]) = strL z ++ [.str x t] := by simp [strL]
  rw [e]; exact N'
end
end Mine
namespace Mine
section
variable {prog : Program} {w : World} {A : Around} {E : Value → Shared → Prop} {s : Shared} {h₀ : Heap} {L l : Addr} {m : Str → Option Value} {rest : List (Addr × Obj)} {vs : List Value} {n : Nat} {k : Int} {u : Tok} {v : Value}
theorem set_ledV {Q : Unit → Shared → Prop} (i : Nat) (F : Fr h₀ L s.heap m) (N : News h₀ L s.heap ((l, listOf vs.toArray n) :: rest)) (hoff : ∀ p ∈ rest, p.1 ≠ l) (hk : k = (i : Int)) (hi : i < 2 ^ 62) (hl : i < vs.length)
    (h : ∀ h', Fr h₀ L h' m → News h₀ L h' ((l, listOf (vs.set i v).toArray n) :: rest) → Q () { s with heap := h' }) : wpAny (model prog w) A (setItem (.ref l) (.int k u) v) Q E s := by
  subst hk
  have z := N _ (.head _)
  refine ki_setAt z.1 (by lia) (by lia) (by simp; lia) (h _ (F.change (Heap.SameBut.update ..) z.2.1 z.2.2) (ki_turn (pre := []) _ N (fun _ h => nomatch h) hoff ?_ ?_))
  · apply Array.toList_inj.mp
    simp
  · simp
end
end Mine
end

section
open PySem PySem.W PyProof.Rows PySem.Calls
set_option maxRecDepth 100000
set_option maxHeartbeats 8000000
namespace Mine
/-- what a turn of a for must leave, whatever its target -/
noncomputable def NxEnd {σ : Type} (h₀ : Heap) (L : Addr) (s : Shared) (Led : σ → List (Addr × Obj)) (stored : List Str) (m₀ : Str → Option Value) (wr : List Addr) (own : List (Addr × Obj)) (J : σ → Prop) (s₂ : Shared) : Prop :=
  ∃ (c' : σ) (h' : Heap) (tk : Nat) (m' : Str → Option Value) (news' : List (Addr × Obj)), s₂ = { s with heap := h', toks := tk } ∧ Fr h₀ L h' m' ∧ News h₀ L h' news' ∧ (∀ p ∈ Led c', p ∈ news') ∧ (∀ p ∈ own, p ∈ news') ∧ (∀ p ∈ Led c', p.1 ∉ wr) ∧
    (∀ z, stored.contains z = false → m' z = m₀ z) ∧ J c'
noncomputable def NxPost {σ : Type} (h₀ : Heap) (L : Addr) (s : Shared) (Led : σ → List (Addr × Obj)) (stored : List Str) (m₀ : Str → Option Value) (wr : List Addr) (own : List (Addr × Obj)) (J : σ → Prop) (f : Flow) (s₂ : Shared) : Prop :=
  match f with
  | .next => NxEnd h₀ L s Led stored m₀ wr own J s₂
  | _ => False
theorem nx_end {σ : Type} {h₀ : Heap} {L : Addr} {s : Shared} {Led : σ → List (Addr × Obj)} {stored : List Str} {m₀ m' : Str → Option Value} {wr : List Addr} {own : List (Addr × Obj)} {J : σ → Prop} {h' : Heap} {tk : Nat} {news' : List (Addr × Obj)} (c' : σ)
    (F : Fr h₀ L h' m') (N : News h₀ L h' news') (hn : ∀ p ∈ Led c', p ∈ news') (ho : ∀ p ∈ own, p ∈ news') (hf : ∀ p ∈ Led c', p.1 ∉ wr) (hr : ∀ z, stored.contains z = false → m' z = m₀ z) (hj : J c') :
    NxEnd h₀ L s Led stored m₀ wr own J { s with heap := h', toks := tk } := ⟨c', h', tk, m', news', rfl, F, N, hn, ho, hf, hr, hj⟩
section
variable {prog : Program} {w : World} {A : Around} {E : Value → Shared → Prop} {s : Shared} {env : Env} {h₀ : Heap} {target : Expr} {body : List Stmt} {Q : Flow → Shared → Prop}
/-- over a range, with any target -/
theorem range_any {σ : Type} {r : Addr} {n : Nat} {a b c : Int} {t₀ u₀ v₀ : Tok} {m₀ : Str → Option Value} (Led : σ → List (Addr × Obj)) (stored : List Str) (J : Nat → σ → Prop) (c₀ : σ)
    (hh : A.handled = none) (hr : IsRange s.heap r a b c t₀ u₀ v₀) (hsmall : Builtin.Range.small a b c = true) (hn : Builtin.Range.rangeSize a b c = (n : Int)) (F : Fr h₀ env.locals s.heap m₀) (N : News h₀ env.locals s.heap (Led c₀)) (hj : J 0 c₀)
    (hgo : ∀ (it v : Value) (s' : Shared) (Q' : Unit → Shared → Prop), Q' () s' → wpAny (model prog w) A (letOwnedTupleGo target it v) Q' E s')
    (turn : ∀ I i t d (u : Str → Option Value) s₁ own, i < n → J i d → (∀ q ∈ Led c₀, @LT.lt Nat _ q.1 I) → (∀ p ∈ own, p.1 = I) → (∃ o, (I, o) ∈ own) → (∀ p ∈ Led d, p.1 ≠ I) →
      Fr h₀ env.locals s₁.heap (fun y => if stored.contains y then u y else m₀ y) → News h₀ env.locals s₁.heap (Led d ++ own) →
      wpAny (model prog w) A (assign target env (.int (a + (i : Int) * c) t)) (fun _ s₃ => wpAny (model prog w) A (execs body env) (NxPost h₀ env.locals s₁ Led stored m₀ [I] own (J (i + 1))) E s₃) E s₁)
    (done : ∀ d (u : Str → Option Value) h tk, J n d → Fr h₀ env.locals h (fun y => if stored.contains y then u y else m₀ y) → News h₀ env.locals h (Led d) → Q .next { s with heap := h, toks := tk }) :
    wpAny (model prog w) A (pyIter (.ref r)) (fun it s₂ => LoopAtT prog w A h₀ env target body Q E it s₂) E s := by
  refine wpAny_pyIter_range hr hsmall ?_
  rw [hn]
  have fr : ∀ m : Str → Option Value, (∀ z, stored.contains z = false → m z = m₀ z) → (fun y => if stored.contains y then m y else m₀ y) = m := by
    intro m hm
    funext y
    cases h : stored.contains y with
    | true => simp
    | false => simpa using (hm y h).symm
  have hI₀ : h₀.get? s.heap.objs.size = none := next_is_new F
  have hIL : s.heap.objs.size ≠ env.locals := Nat.ne_of_gt F.ns.lt
  have hoff : ∀ p ∈ Led c₀, p.1 ≠ s.heap.objs.size := fun p hp => Nat.ne_of_lt (Heap.lt_size (N p hp).1)
  let J' : Nat → (Str → Option Value) → List (Addr × Obj) → Prop := fun i m news => ∃ d, news = Led d ∧ J i d ∧ (∀ z, stored.contains z = false → m z = m₀ z)
  refine ⟨s.heap.objs.size, _, [s.heap.objs.size], n, _, _, m₀, Led c₀, J', rfl, Walks.range hh s.heap.objs.size a c n, fun hm => hIL (List.mem_singleton.mp hm).symm, fun b hb => by rw [List.mem_singleton.mp hb]; exact hI₀, fun p hp hm => hoff p hp (List.mem_singleton.mp hm), by simpa using (Heap.get?_push_size _ rfl), F.push _, N.grown fun b o e => Heap.get?_push_of_some _ e, fun i s' v Q' _ q => hgo _ _ _ _ q, ⟨c₀, rfl, hj, fun _ _ => rfl⟩, ?_, ?_⟩
  · rintro i v m₁ news₁ s₁ own hi ⟨t, rfl⟩ ⟨d, rfl, hJ, hm⟩ hoff' hown hget hall hst F₁ N₁
    have N₂ : News h₀ env.locals s₁.heap (Led d ++ own) := fun p hp => N₁ p ((List.mem_append.mp hp).elim (fun h => List.mem_append.mpr (.inr h)) fun h => List.mem_append.mpr (.inl h))
    rw [← fr m₁ hm] at F₁
    refine wpAny_mono (turn s.heap.objs.size i t d m₁ s₁ own hi hJ (fun q hq => Heap.lt_size (N q hq).1) (fun p hp => List.mem_singleton.mp (hown p hp)) ⟨_, hall _ (List.mem_singleton.mpr rfl) hI₀ _ hst⟩ (fun p hp e => hoff' p hp (List.mem_singleton.mpr e)) F₁ N₂) (fun _ s₃ h₃ => wpAny_mono h₃ (fun f s₄ p => ?_) fun _ _ e => e) fun _ _ e => e
    cases f with
    | next =>
      obtain ⟨c', h', tk, m', news', rfl, F', N', hn', ho, hf, hr', hj'⟩ := p
      exact ⟨rfl, h', tk, m', Led c', rfl, F', fun p hp => N' p ((List.mem_append.mp hp).elim (ho p) (hn' p)), hf, c', rfl, hj', hr'⟩
    | brk => exact p.elim
    | cont => exact p.elim
    | ret v => exact p.elim
  · rintro h' tk m' news' F' N' _ ⟨d, rfl, hJ, hm⟩
    refine done d m' h' tk hJ ?_ N'
    rw [fr m' hm]; exact F'
end
end Mine
namespace Mine
/-- where two ways meet -/
noncomputable def MidPost {σ : Type} (h₀ : Heap) (L : Addr) (s : Shared) (m : Str → Option Value) (Led : σ → List (Addr × Obj)) (P : σ → Prop) (f : Flow) (s' : Shared) : Prop :=
  f = .next ∧ ∃ (h : Heap) (tk : Nat) (c : σ), s' = { s with heap := h, toks := tk } ∧ Fr h₀ L h m ∧ News h₀ L h (Led c) ∧ P c
theorem mid_end {σ : Type} {h₀ : Heap} {L : Addr} {s : Shared} {m : Str → Option Value} {Led : σ → List (Addr × Obj)} {P : σ → Prop} {h : Heap} {tk : Nat} (c : σ) (F : Fr h₀ L h m) (N : News h₀ L h (Led c)) (p : P c) : MidPost h₀ L s m Led P .next { s with heap := h, toks := tk } := ⟨rfl, h, tk, c, rfl, F, N, p⟩
theorem merge {σ : Type} {M : Model} {A : Around} {E : Value → Shared → Prop} {s : Shared} {h₀ : Heap} {L : Addr} {m : Str → Option Value} {t : Sem Flow} {Q : Flow → Shared → Prop} (_F : Fr h₀ L s.heap m) (Led : σ → List (Addr × Obj)) (P : σ → Prop) (h1 : wpAny M A t (MidPost h₀ L s m Led P) E s)
    (h2 : ∀ h tk c, Fr h₀ L h m → News h₀ L h (Led c) → P c → Q .next { s with heap := h, toks := tk }) : wpAny M A t Q E s := by
  refine wpAny_mono h1 (fun f s' q => ?_) fun _ _ e => e
  obtain ⟨rfl, h, tk, c, rfl, F, N, p⟩ := q
  exact h2 h tk c F N p
end Mine
end

section
open PySem PySem.W PyProof.Rows PyProof.Rows.LCg PyProof.Rows.LCt PySem.Calls
set_option maxRecDepth 100000
set_option maxHeartbeats 8000000
namespace Mine
/-- the name is stored; then the comprehension's frame goes -/
noncomputable def UseEnd (h₀ : Heap) (L : Addr) (s : Shared) (C : Addr) (oC : Obj) (Q : Flow → Shared → Prop) (_ : Unit) (s' : Shared) : Prop :=
  ∃ (h' : Heap) (tk' : Nat) (m' : Str → Option Value) (news' : List (Addr × Obj)), s' = { s with heap := h', toks := tk' } ∧ Fr h₀ L h' m' ∧ News h₀ L h' ((C, oC) :: news') ∧ (∀ p ∈ news', p.1 ≠ C) ∧
    ∀ h'' tk'', Fr h₀ L h'' m' → News h₀ L h'' news' → Q .next { s with heap := h'', toks := tk'' }
theorem use_end {h₀ : Heap} {L : Addr} {s : Shared} {C : Addr} {oC : Obj} {Q : Flow → Shared → Prop} {h' : Heap} {tk' : Nat} {m' : Str → Option Value} (news' : List (Addr × Obj)) (F : Fr h₀ L h' m') (N : News h₀ L h' ((C, oC) :: news')) (hC : ∀ p ∈ news', p.1 ≠ C)
    (h : ∀ h'' tk'', Fr h₀ L h'' m' → News h₀ L h'' news' → Q .next { s with heap := h'', toks := tk'' }) : UseEnd h₀ L s C oC Q () { s with heap := h', toks := tk' } := ⟨h', tk', m', news', rfl, F, N, hC, h⟩
noncomputable def FinUAt (prog : Program) (w : World) (A : Around) (h₀ : Heap) (L : Addr) (m : Str → Option Value) (env : Env) (y : Str) (py : Pos) (s : Shared) (Q : Flow → Shared → Prop) (D : Addr) (oD : Obj) (news : List (Addr × Obj)) : Prop :=
  ∀ C oC mC h tk (E' : Value → Shared → Prop), NsObj oC mC → Fr h₀ L h m → News h₀ L h ((C, oC) :: (D, oD) :: news) → Off1 D news → (@Ne Nat C D) → (∀ p ∈ news, p.1 ≠ C) →
    wpAny (model prog w) A (assign (.Name y py) env (.ref D)) (UseEnd h₀ L s C oC Q) E' { s with heap := h, toks := tk }
noncomputable def FinUD (prog : Program) (w : World) (A : Around) (h₀ : Heap) (L : Addr) (m : Str → Option Value) (env : Env) (y : Str) (py : Pos) (s : Shared) (Q : Flow → Shared → Prop) (oD : Obj) (news : List (Addr × Obj)) : Prop :=
  ∀ D, @LT.lt Nat _ L D → FinUAt prog w A h₀ L m env y py s Q D oD news
noncomputable def FinU (prog : Program) (w : World) (A : Around) (h₀ : Heap) (L : Addr) (m : Str → Option Value) (env : Env) (y : Str) (py : Pos) (s : Shared) (Q : Flow → Shared → Prop) (oD : Obj) (news : List (Addr × Obj)) : Prop :=
  ∀ D C oC mC h tk (E' : Value → Shared → Prop), NsObj oC mC → Fr h₀ L h m → News h₀ L h ((C, oC) :: (D, oD) :: news) → Off1 D news → (@Ne Nat C D) → (∀ p ∈ news, p.1 ≠ C) →
    wpAny (model prog w) A (assign (.Name y py) env (.ref D)) (UseEnd h₀ L s C oC Q) E' { s with heap := h, toks := tk }
section
variable {prog : Program} {w : World} {A : Around} {E : Value → Shared → Prop} {s : Shared} {h₀ : Heap} {L : Addr} {m : Str → Option Value} {env : Env}
theorem use_go {y : Str} {py : Pos} {s₁ : Shared} {Q : Flow → Shared → Prop} {D C : Addr} {h' : Heap} {tk : Nat} {m' : Str → Option Value} {oD : Obj} {news' : List (Addr × Obj)} {E' : Value → Shared → Prop} (F' : Fr h₀ L h' m) (N' : News h₀ L h' ((D, oD) :: news')) (o1 : Off1 D news') (hn : h'.Ns C m') (hC₀ : h₀.get? C = none) (hCL : C ≠ L) (hCD : C ≠ D) (offC : ∀ p ∈ news', p.1 ≠ C)
    (fin : FinUAt prog w A h₀ L m env y py s₁ Q D oD news') :
    wpAny (model prog w) A (assign (.Name y py) env (.ref D)) (fun _ s' => ∃ m', s'.heap.Ns C m' ∧ ∀ h'', Heap.SameBut C s'.heap h'' → Q .next { s' with heap := h'' }) E' { s₁ with heap := h', toks := tk } := by
  obtain ⟨oC, hoC, hoN⟩ := ns_obj hn
  refine wpAny_mono (fin C oC m' h' tk E' hoN F' (fun p hp => ?_) o1 hCD offC) (fun _ s' q => ?_) fun _ _ e => e
  · rcases List.mem_cons.mp hp with rfl | hp
    · exact ⟨hoC, hCL, hC₀⟩
    · exact N' p hp
  · obtain ⟨h2, tk2, m2, news2, rfl, F2, N2, hC2, hQ⟩ := q
    have zC := N2 _ (.head _)
    refine ⟨m', hoN.ns zC.1, fun h'' hs => hQ h'' tk2 (F2.change hs zC.2.1 zC.2.2) fun p hp => ?_⟩
    have z := N2 p (.tail _ hp)
    exact ⟨hs.extBut _ _ (hC2 p hp) z.1, z.2⟩
theorem Assign_ListComp_T' {ct elt iter : Expr} {x y : Str} {px py : Pos} {scope : Scope} {cl : List (Str × Addr)} {pos spos : Pos} {Q : Flow → Shared → Prop} (_F₀ : Fr h₀ L s.heap m) (hLe : env.locals = L)
    (hsw : swapsWith (.ListComp elt [⟨.Name x px, iter, [ct], 0⟩] scope pos) (some (.Name y py)) spos.line env = pure true)
    (hclos : closureFor scope env = pure cl) (hcell : ∀ z ∈ scope.names, z.2 ≠ .cell) (hkind : scope.kind = .function)
    (hnames : ∀ z ∈ scope.names, z.2 = .local → scope.names.lookup z.1 = some .local) (hx : scope.names.lookup x = some .local)
    (h : wpAny (model prog w) A (eval iter env) (SrcW prog w A h₀ L m fun S P n news s₂ => CompRestT prog w A h₀ L m env ct elt x scope cl s₂ S P (fun ys nw => FinU prog w A h₀ L m env y py s₂ Q (lst ys) nw) n 0 [] news) E s)
    (hs : ∀ x, foldedSetIterable iter env x = pure x := by intro _; rfl) :
    wpAny (model prog w) A (exec (.Assign [.Name y py] (.ListComp elt [⟨.Name x px, iter, [ct], 0⟩] scope pos) spos) env) Q E s := by
  subst hLe
  rw [exec_Assign_Name_used _ _ _ _ hsw]
  refine wpAny_bind (wpAny_standAt (wpAny_bind ?_))
  show wpAny _ A (do let _ ← comprehension (.ListComp elt [⟨.Name x px, iter, [ct], 0⟩] scope pos) scope env _ (newList []) false (eval iter env) (some (assign (.Name y py) env))) _ _ s
  refine wpAny_bind (wpAny_mono (wpAny_comprehension_free (use := some (assign (.Name y py) env)) (Q := fun _ s' => Q .next s') rfl hs hclos hkind hnames
    (wpAny_mono h (fun xv s₁ h₁ => ?_) fun _ _ e => e)) (fun _ s' hq => wpAny_pure (wpAny_pure hq)) fun _ _ e => e)
  obtain ⟨n, P, news, S, oI, fp, St, F, N, hsz, hS, hit, W, hIo, hSt, hst, hfp, R⟩ := h₁
  refine hit _ _ ?_
  have up : ∀ b o, s₁.heap.get? b = some o → (s₁.heap.push oI).get? b = some o := fun b o e => Heap.get?_push_of_some _ e
  refine block_T W hsz hIo hSt hcell hkind hx hst (fun b hb => ?_) (F.keeps up) (N.grown up) (Nat.ne_of_lt F.ns.lt) (next_is_new F) (fun p hp => Nat.ne_of_lt (Heap.lt_size (N p hp).1)) hS (R _) ?_
  · show b < (s₁.heap.push _).objs.size
    rw [Heap.size_push]; exact Nat.lt_succ_of_le (hfp b hb)
  · intro D C h' tk m' ys news' F' N' o1 hn hC₀ hD₀ hCL hDL hCD offC fin
    exact use_go F' N' o1 hn hC₀ hCL hCD offC (fin D)
theorem Assign_DictComp_U' {kx vx iter : Expr} {x y : Str} {px py : Pos} {scope : Scope} {cl : List (Str × Addr)} {pos spos : Pos} {Q : Flow → Shared → Prop} (_F₀ : Fr h₀ L s.heap m) (hLe : env.locals = L)
    (hsw : swapsWith (.DictComp kx vx [⟨.Name x px, iter, [], 0⟩] scope pos) (some (.Name y py)) spos.line env = pure true)
    (hclos : closureFor scope env = pure cl) (hcell : ∀ z ∈ scope.names, z.2 ≠ .cell) (hkind : scope.kind = .function)
    (hnames : ∀ z ∈ scope.names, z.2 = .local → scope.names.lookup z.1 = some .local) (hx : scope.names.lookup x = some .local)
    (h : wpAny (model prog w) A (eval iter env) (SrcW prog w A h₀ L m fun S P n news s₂ => CompRestG prog w A h₀ L m x (emD prog w A kx vx scope cl env) s₂ S P (FinUD prog w A h₀ L m env y py s₂ Q) n 0 (dictOf [] 0) news) E s)
    (hs : ∀ x, foldedSetIterable iter env x = pure x := by intro _; rfl) :
    wpAny (model prog w) A (exec (.Assign [.Name y py] (.DictComp kx vx [⟨.Name x px, iter, [], 0⟩] scope pos) spos) env) Q E s := by
  subst hLe
  rw [exec_Assign_Name_used _ _ _ _ hsw]
  refine wpAny_bind (wpAny_standAt (wpAny_bind ?_))
  show wpAny _ A (do let _ ← comprehension (.DictComp kx vx [⟨.Name x px, iter, [], 0⟩] scope pos) scope env _ newDict false (eval iter env) (some (assign (.Name y py) env))) _ _ s
  refine wpAny_bind (wpAny_mono (wpAny_comprehension_free (use := some (assign (.Name y py) env)) (Q := fun _ s' => Q .next s') rfl hs hclos hkind hnames
    (wpAny_mono h (fun xv s₁ h₁ => ?_) fun _ _ e => e)) (fun _ s' hq => wpAny_pure (wpAny_pure hq)) fun _ _ e => e)
  obtain ⟨n, P, news, S, oI, fp, St, F, N, hsz, hS, hit, W, hIo, hSt, hst, hfp, R⟩ := h₁
  refine hit _ _ ?_
  have up : ∀ b o, s₁.heap.get? b = some o → (s₁.heap.push oI).get? b = some o := fun b o e => Heap.get?_push_of_some _ e
  refine block_G (px := px) (em := emD prog w A kx vx scope cl env) (oD₀ := dictOf [] 0) emD_mono rfl (fun Q q => ?_) ?_ ?_ W hIo hSt hcell hkind hx hst (fun b hb => ?_) (F.keeps up) (N.grown up) (Nat.ne_of_lt F.ns.lt) (next_is_new F) (fun p hp => Nat.ne_of_lt (Heap.lt_size (N p hp).1)) hS (R _) ?_
  · exact wpAny_newObj_type q
  · intro C D Inv R s k turn hk
    refine codeAny_compLoop_testsD Inv (fun n s hI => ?_) k hk
    refine wpAny_mono (turn n s hI _) (fun r s₁ h₁ => ?_) fun _ _ e => e
    cases r with
    | none => exact h₁
    | some v => exact wpAny_mono h₁ (fun _ s₂ h₂ => wpAny_pure (by simp only [if_true]; exact h₂)) fun _ _ e => e
  · intro C D R s h0 h1
    exact codeAny_compStart_dict h0 (h1 _)
  · show b < (s₁.heap.push _).objs.size
    rw [Heap.size_push]; exact Nat.lt_succ_of_le (hfp b hb)
  · intro D C h' tk m' oD news' hLD F' N' o1 hn hC₀ hD₀ hCL hDL hCD offC fin
    exact use_go F' N' o1 hn hC₀ hCL hCD offC (fin D hLD)
end
end Mine
namespace Mine
section
variable {prog : Program} {w : World} {A : Around} {E : Value → Shared → Prop} {s s₁ : Shared} {h₀ : Heap} {L : Addr} {m : Str → Option Value} {env : Env} {Rest : (List (Addr × Obj) → Prop) → (Nat → Value → Prop) → Nat → List (Addr × Obj) → Shared → Prop}
theorem SrcW.range {r : Addr} {n : Nat} {a b c : Int} {t₀ u₀ v₀ : Tok} {news : List (Addr × Obj)} (hh : A.handled = none) (F : Fr h₀ L s₁.heap m) (N : News h₀ L s₁.heap news) (hr : IsRange s₁.heap r a b c t₀ u₀ v₀) (hsmall : Builtin.Range.small a b c = true) (hn : Builtin.Range.rangeSize a b c = (n : Int)) (hsz : n ≤ sizeLine)
    (h : ∀ g, Rest (fun _ => True) (fun i v => ∃ t, v = .int (a + (i : Int) * c) t) n news { s₁ with heap := g }) : SrcW prog w A h₀ L m Rest (.ref r) s₁ := by
  refine ⟨n, _, news, fun _ => True, ?oI, _, _, F, N, hsz, trivial, fun Q E q => wpAny_pyIter_range hr hsmall ?hq, Walks.range hh s₁.heap.objs.size a c n, fun i h st => ⟨_, st⟩, fun i h h' o nw st e e' _ _ _ => ?_, ?_, fun b hb => by rw [List.mem_singleton.mp hb]; exact Nat.le_refl _, h⟩
  case hq => rw [hn]; exact q
  · have : some o = some _ := e.symm.trans st
    cases this
    exact e'
  · simpa using (Heap.get?_push_size _ rfl)
end
end Mine
namespace Mine
section
variable {prog : Program} {w : World} {A : Around} {E : Value → Shared → Prop} {s : Shared} {h₀ : Heap} {L : Addr} {m : Str → Option Value} {env : Env}
/-- the turns add to the ledger's end -/
theorem CompRest.invQ {elt : Expr} {x : Str} {scope : Scope} {cl : List (Str × Addr)} {S : List (Addr × Obj) → Prop} {P : Nat → Value → Prop} {Fin : List Value → List (Addr × Obj) → Prop} {n : Nat} {news : List (Addr × Obj)} (J : Nat → List Value → List (Addr × Obj) → Prop) (h0 : J 0 [] [])
    (turn : ∀ i ys post v I oI C oC D m₂ h tk (E' : Value → Shared → Prop), i < n → J i ys post → P i v → NsObj oC m₂ → m₂ x = some v → Fr h₀ L h m → News h₀ L h ((I, oI) :: (C, oC) :: (D, lst ys) :: (news ++ post)) → Off3 I C D (news ++ post) → ((@Ne Nat I C) ∧ (@Ne Nat I D) ∧ (@Ne Nat C D)) →
      wpAny (model prog w) A (eval elt (compEnvC scope cl C env)) (CompEnd h₀ L m { s with heap := h, toks := tk } I oI C oC D (lst ys) S (fun y nw' => ∃ post', nw' = news ++ post' ∧ J (i + 1) (ys ++ [y]) post')) E' { s with heap := h, toks := tk })
    (fin : ∀ ys post, J n ys post → Fin ys (news ++ post)) : CompRest prog w A h₀ L m env elt x scope cl s S P Fin n 0 [] news := by
  refine CompRest.inv (fun i ys nw => ∃ post, nw = news ++ post ∧ J i ys post) ⟨[], by simp, h0⟩ ?_ ?_
  · rintro i ys nw v I oI C oC D m₂ h tk E' hi ⟨post, rfl, hJ⟩ hP hC hx F N off ne
    exact turn i ys post v I oI C oC D m₂ h tk E' hi hJ hP hC hx F N off ne
  · rintro ys nw ⟨post, rfl, hJ⟩
    exact fin ys post hJ
/-- the turns make ints, and leave the ledger as it is -/
theorem CompRest.invF {elt : Expr} {x : Str} {scope : Scope} {cl : List (Str × Addr)} {S : List (Addr × Obj) → Prop} {P : Nat → Value → Prop} {Fin : List Value → List (Addr × Obj) → Prop} {n : Nat} {news : List (Addr × Obj)} (J : Nat → List Value → Prop) (h0 : J 0 [])
    (turn : ∀ i ys v I oI C oC D m₂ h tk (E' : Value → Shared → Prop), i < n → J i ys → P i v → NsObj oC m₂ → m₂ x = some v → Fr h₀ L h m → News h₀ L h ((I, oI) :: (C, oC) :: (D, lst ys) :: news) → Off3 I C D news → ((@Ne Nat I C) ∧ (@Ne Nat I D) ∧ (@Ne Nat C D)) →
      wpAny (model prog w) A (eval elt (compEnvC scope cl C env)) (CompEnd h₀ L m { s with heap := h, toks := tk } I oI C oC D (lst ys) S (fun y nw' => nw' = news ∧ J (i + 1) (ys ++ [y]))) E' { s with heap := h, toks := tk })
    (fin : ∀ ys, J n ys → Fin ys news) : CompRest prog w A h₀ L m env elt x scope cl s S P Fin n 0 [] news := by
  refine CompRest.inv (fun i ys nw => nw = news ∧ J i ys) ⟨rfl, h0⟩ ?_ ?_
  · rintro i ys nw v I oI C oC D m₂ h tk E' hi ⟨rfl, hJ⟩ hP hC hx F N off ne
    exact turn i ys v I oI C oC D m₂ h tk E' hi hJ hP hC hx F N off ne
  · rintro ys nw ⟨rfl, hJ⟩
    exact fin ys hJ
end
end Mine
namespace Mine
theorem compQ_push {h₀ : Heap} {L I C D a : Addr} {m : Str → Option Value} {s₁ : Shared} {oI oC oD o : Obj} {y : Value} {h' : Heap} {tk : Nat} {news post : List (Addr × Obj)} {J : Value → List (Addr × Obj) → Prop}
    (F : Fr h₀ L h' m) (N : News h₀ L h' ((a, o) :: (I, oI) :: (C, oC) :: (D, oD) :: (news ++ post))) (hlt : ∀ p ∈ (I, oI) :: (C, oC) :: (D, oD) :: (news ++ post), @LT.lt Nat _ p.1 a) (off : Off3 I C D (news ++ post)) (r : J y (post ++ [(a, o)])) :
    CompEnd h₀ L m s₁ I oI C oC D oD (fun _ => True) (fun y nw' => ∃ post', nw' = news ++ post' ∧ J y post') y { s₁ with heap := h', toks := tk } := by
  refine CompEnd.intro F N (news ++ (post ++ [(a, o)])) (fun p hp => ?_) (Off3.of fun p hp => ?_) trivial ⟨_, rfl, r⟩
  · simp only [List.mem_cons, List.mem_append, List.not_mem_nil, or_false] at hp ⊢
    rcases hp with h | h | h | h | h | h <;> simp [h]
  · rw [← List.append_assoc] at hp
    rcases List.mem_append.mp hp with hp | hp
    · exact off.mem p hp
    · rw [List.mem_singleton.mp hp]
      exact ⟨Nat.ne_of_gt (hlt _ (.head _)), Nat.ne_of_gt (hlt _ (.tail _ (.head _))), Nat.ne_of_gt (hlt _ (.tail _ (.tail _ (.head _))))⟩
end Mine
end

section
open PySem PySem.W PyProof.Rows
namespace Mine
section
variable {α : Type} {p : α → Prop} {a : α} {l r : List α}
theorem fa (h : p a) (t : ∀ q ∈ l, p q) : ∀ q ∈ a :: l, p q := fun q hq => by
  cases hq with
  | head => exact h
  | tail _ hq => exact t q hq
theorem fa_app (h : ∀ q ∈ l, p q) (t : ∀ q ∈ r, p q) : ∀ q ∈ l ++ r, p q := fun q hq => (List.mem_append.mp hq).elim (h q) (t q)
theorem ix (k : Nat) (h : l[k]? = some a) : a ∈ l := List.mem_of_getElem? h
theorem dr (k : Nat) {q : α} (h : q ∈ l.drop k) : q ∈ l := List.mem_of_mem_drop h
theorem ni {x I : Addr} (h : x ≠ I) : x ∉ [I] := fun e => h (List.mem_singleton.mp e)
end
end Mine
end

section
open PySem PySem.W PyProof.Rows
set_option maxRecDepth 100000
set_option maxHeartbeats 2000000
namespace Mine
/-- a strict order in all -/
structure Ord (bf : Item → Item → Bool) : Prop where
  asymm : ∀ a b, bf a b = true → bf b a = false
  trans : ∀ a b c, bf b a = false → bf c b = false → bf c a = false
/-- no child goes ahead of its parent -/
noncomputable def Edge (bf : Item → Item → Bool) (xs : List Item) (i j : Nat) : Prop := ∀ a b, xs[i]? = some a → xs[j]? = some b → bf b a = false
noncomputable def HeapFrom (bf : Item → Item → Bool) (xs : List Item) (k : Nat) : Prop := ∀ j, 1 ≤ j → k ≤ (j - 1) / 2 → Edge bf xs ((j - 1) / 2) j
inductive Desc (k : Nat) : Nat → Prop
  | refl : Desc k k
  | step {p : Nat} : 1 ≤ p → Desc k ((p - 1) / 2) → Desc k p
theorem Desc.le {k p : Nat} (h : Desc k p) : k ≤ p := by
  induction h with
  | refl => exact Nat.le_refl _
  | step h1 _ ih => lia
theorem Desc.up {k p : Nat} (h : Desc k p) (hp : k < p) : 1 ≤ p ∧ Desc k ((p - 1) / 2) := by
  cases h with
  | refl => exact absurd hp (Nat.lt_irrefl _)
  | step h1 h2 => exact ⟨h1, h2⟩
structure Hole (bf : Item → Item → Bool) (k : Nat) (xs : List Item) (h : Nat) : Prop where
  desc : Desc k h
  lt : h < xs.length
  edge : ∀ j, 1 ≤ j → k ≤ (j - 1) / 2 → j ≠ h → (j - 1) / 2 ≠ h → Edge bf xs ((j - 1) / 2) j
  skip : ∀ j, 1 ≤ j → (j - 1) / 2 = h → k < h → Edge bf xs ((h - 1) / 2) j
variable {bf : Item → Item → Bool}
theorem get_set {xs : List Item} {p i : Nat} {v : Item} : (xs.set p v)[i]? = if p = i then (if p < xs.length then some v else none) else xs[i]? := by
  rw [List.getElem?_set]
theorem get_ne {xs : List Item} {p i : Nat} {v : Item} (h : p ≠ i) : (xs.set p v)[i]? = xs[i]? := by rw [get_set, if_neg h]
theorem Hole.down {k h c : Nat} {xs : List Item} {y : Item} (H : Hole bf k xs h) (hc1 : 1 ≤ c) (hc : (c - 1) / 2 = h) (hy : xs[c]? = some y) (best : ∀ j, 1 ≤ j → (j - 1) / 2 = h → ∀ z, xs[j]? = some z → bf z y = false) : Hole bf k (xs.set h y) c where
  desc := .step hc1 (by rw [hc]; exact H.desc)
  lt := by rw [List.length_set]; exact (List.getElem?_eq_some_iff.mp hy).1
  edge := by
    intro j h1 hk hj1 hj2 a b ha hb
    have hch : c ≠ h := by lia
    by_cases e : j = h
    · subst e
      rw [get_set, if_pos rfl, if_pos H.lt] at hb
      cases hb
      rw [get_ne (by lia)] at ha
      exact H.skip c hc1 hc (by have := H.desc.le; lia) a y ha hy
    · rw [get_ne (Ne.symm e)] at hb
      by_cases e2 : (j - 1) / 2 = h
      · rw [e2, get_set, if_pos rfl, if_pos H.lt] at ha
        cases ha
        exact best j h1 e2 b hb
      · rw [get_ne (Ne.symm e2)] at ha
        exact H.edge j h1 hk e e2 a b ha hb
  skip := by
    intro j h1 hj hkc a b ha hb
    have hjh : j ≠ h := by lia
    rw [hc, get_set, if_pos rfl, if_pos H.lt] at ha
    cases ha
    rw [get_ne (Ne.symm hjh)] at hb
    have := H.edge j h1 (by rw [hj]; exact Nat.le_of_lt hkc) hjh (by rw [hj]; lia) y b
    rw [hj] at this
    exact this hy hb
theorem pick_best (O : Ord bf) {xs : List Item} {h : Nat} {y : Item} (hy : xs[pickF bf xs (2 * h + 1)]? = some y) : (1 ≤ pickF bf xs (2 * h + 1) ∧ (pickF bf xs (2 * h + 1) - 1) / 2 = h) ∧ ∀ j, 1 ≤ j → (j - 1) / 2 = h → ∀ z, xs[j]? = some z → bf z y = false := by
  have irr : ∀ a, bf a a = false := fun a => by
    cases e : bf a a with
    | false => rfl
    | true => rw [O.asymm a a e] at e; cases e
  cases hu : xs[2 * h + 1]? with
  | none =>
    have hp : pickF bf xs (2 * h + 1) = 2 * h + 1 := by unfold pickF; rw [hu]
    rw [hp, hu] at hy; cases hy
  | some u =>
    cases hv : xs[2 * h + 1 + 1]? with
    | none =>
      have hp : pickF bf xs (2 * h + 1) = 2 * h + 1 := by unfold pickF; rw [hu, hv]
      rw [hp] at hy ⊢
      refine ⟨by lia, fun j h1 hj z hz => ?_⟩
      rcases (by lia : j = 2 * h + 1 ∨ j = 2 * h + 1 + 1) with rfl | rfl
      · rw [hy] at hz; cases hz; exact irr _
      · rw [hv] at hz; cases hz
    | some v =>
      cases e : bf u v with
      | true =>
        have hp : pickF bf xs (2 * h + 1) = 2 * h + 1 := by unfold pickF; rw [hu, hv]; simp [e]
        rw [hp] at hy ⊢
        rw [hu] at hy; cases hy
        refine ⟨by lia, fun j h1 hj z hz => ?_⟩
        rcases (by lia : j = 2 * h + 1 ∨ j = 2 * h + 1 + 1) with rfl | rfl
        · rw [hu] at hz; cases hz; exact irr _
        · rw [hv] at hz; cases hz; exact O.asymm _ _ e
      | false =>
        have hp : pickF bf xs (2 * h + 1) = 2 * h + 1 + 1 := by unfold pickF; rw [hu, hv]; simp [e]
        rw [hp] at hy ⊢
        rw [hv] at hy; cases hy
        refine ⟨by lia, fun j h1 hj z hz => ?_⟩
        rcases (by lia : j = 2 * h + 1 ∨ j = 2 * h + 1 + 1) with rfl | rfl
        · rw [hu] at hz; cases hz; exact e
        · rw [hv] at hz; cases hz; exact irr _
theorem pick_none {xs : List Item} {h : Nat} (hy : xs[pickF bf xs (2 * h + 1)]? = none) : ∀ j, 1 ≤ j → (j - 1) / 2 = h → xs[j]? = none := by
  have h0 : xs[2 * h + 1]? = none := by
    unfold pickF at hy
    split at hy
    · rename_i u v hu hv
      split at hy
      · exact hy
      · rw [hv] at hy; cases hy
    · exact hy
  intro j h1 hj
  have := List.getElem?_eq_none_iff.mp h0
  exact List.getElem?_eq_none (by lia)
theorem cnt_swap {xs : List Item} {h c : Nat} {x y : Item} (z : Item) (hh : h < xs.length) (hy : xs[c]? = some y) (hne : c ≠ h) : ((xs.set h y).set c x).count z = (xs.set h x).count z := by
  obtain ⟨hc, hy⟩ := List.getElem?_eq_some_iff.mp hy
  have hc' : c < (xs.set h y).length := by rw [List.length_set]; exact hc
  rw [List.count_set hc', List.count_set hh, List.count_set hh, List.getElem_set_ne (Ne.symm hne), hy]
  have h1 : (if xs[h] == z then 1 else 0) ≤ xs.count z := by
    split
    · rename_i e; exact List.count_pos_iff.mpr (by rw [← eq_of_beq e]; exact List.getElem_mem _)
    · lia
  lia
theorem suF_hole (O : Ord bf) {k : Nat} {x : Item} : ∀ (f : Nat) (xs : List Item) (h : Nat), xs.length ≤ h + f → Hole bf k xs h → Hole bf k (suF bf f xs h).1 (suF bf f xs h).2 ∧ (suF bf f xs h).1.length = xs.length ∧ (∀ j, 1 ≤ j → (j - 1) / 2 = (suF bf f xs h).2 → (suF bf f xs h).1[j]? = none) ∧ ∀ z, ((suF bf f xs h).1.set (suF bf f xs h).2 x).count z = (xs.set h x).count z
  | 0, xs, h, hf, H => absurd H.lt (by lia)
  | f + 1, xs, h, hf, H => by
    rw [suF]
    cases e : xs[pickF bf xs (2 * h + 1)]? with
    | none => exact ⟨H, rfl, pick_none e, fun _ => rfl⟩
    | some y =>
      obtain ⟨⟨hc1, hc⟩, best⟩ := pick_best O e
      have H' := H.down hc1 hc e best
      obtain ⟨r1, r2, r3, r4⟩ := suF_hole O (x := x) f (xs.set h y) (pickF bf xs (2 * h + 1)) (by rw [List.length_set]; lia) H'
      refine ⟨r1, by rw [r2, List.length_set], r3, fun z => ?_⟩
      rw [r4 z]
      exact cnt_swap z H.lt e (by lia)
theorem sdF_heap (O : Ord bf) {k : Nat} {x : Item} : ∀ (f : Nat) (xs : List Item) (p : Nat), p ≤ f → Hole bf k xs p → (∀ j, 1 ≤ j → (j - 1) / 2 = p → ∀ z, xs[j]? = some z → bf z x = false) → HeapFrom bf (sdF bf k x f xs p) k ∧ ∀ z, (sdF bf k x f xs p).count z = (xs.set p x).count z := by
  have stop : ∀ (xs : List Item) (p : Nat), Hole bf k xs p → (∀ j, 1 ≤ j → (j - 1) / 2 = p → ∀ z, xs[j]? = some z → bf z x = false) → (k < p → ∀ y, xs[(p - 1) / 2]? = some y → bf x y = false) → HeapFrom bf (xs.set p x) k := by
    intro xs p H hx hup j h1 hk a b ha hb
    by_cases e : j = p
    · subst e
      rw [get_set, if_pos rfl, if_pos H.lt] at hb
      cases hb
      rw [get_ne (by lia)] at ha
      exact hup (by lia) a ha
    · rw [get_ne (Ne.symm e)] at hb
      by_cases e2 : (j - 1) / 2 = p
      · rw [e2, get_set, if_pos rfl, if_pos H.lt] at ha
        cases ha
        exact hx j h1 e2 b hb
      · rw [get_ne (Ne.symm e2)] at ha
        exact H.edge j h1 hk e e2 a b ha hb
  intro f
  induction f with
  | zero =>
    intro xs p hp H hx
    rw [sdF_end (by lia)]
    exact ⟨stop xs p H hx (fun h => by lia), fun _ => rfl⟩
  | succ f ih =>
    intro xs p hp H hx
    by_cases hkp : k < p
    · obtain ⟨hp1, hd⟩ := H.desc.up hkp
      have hpl := H.lt
      obtain ⟨y, hy⟩ : ∃ y, xs[(p - 1) / 2]? = some y := ⟨_, List.getElem?_eq_getElem (by lia)⟩
      rw [sdF, if_pos hkp, hy]
      dsimp only
      cases hb : bf x y with
      | true =>
        rw [if_pos rfl]
        have hqp : (p - 1) / 2 ≠ p := by lia
        have H' : Hole bf k (xs.set p y) ((p - 1) / 2) := by
          refine ⟨hd, by rw [List.length_set]; lia, ?_, ?_⟩
          · intro j h1 hk hj1 hj2 a b ha hbb
            by_cases e : j = p
            · exact absurd (by rw [e]) hj2
            · rw [get_ne (Ne.symm e)] at hbb
              by_cases e2 : (j - 1) / 2 = p
              · rw [e2, get_set, if_pos rfl, if_pos H.lt] at ha
                cases ha
                exact H.skip j h1 e2 hkp y b hy hbb
              · rw [get_ne (Ne.symm e2)] at ha
                exact H.edge j h1 hk e e2 a b ha hbb
          · intro j h1 hj hkq a b ha hbb
            obtain ⟨hq1, hdq⟩ := hd.up hkq
            rw [get_ne (by lia)] at ha
            have ey := H.edge ((p - 1) / 2) hq1 hdq.le hqp (by lia) a y ha hy
            by_cases e : j = p
            · subst e
              rw [get_set, if_pos rfl, if_pos H.lt] at hbb
              cases hbb
              exact ey
            · rw [get_ne (Ne.symm e)] at hbb
              have e2 := H.edge j h1 (by rw [hj]; lia) e (by rw [hj]; exact hqp) y b
              rw [hj] at e2
              exact O.trans a y b ey (e2 hy hbb)
        obtain ⟨r1, r2⟩ := ih (xs.set p y) ((p - 1) / 2) (by lia) H' (by
          intro j h1 hj z hz
          by_cases e : j = p
          · subst e
            rw [get_set, if_pos rfl, if_pos H.lt] at hz
            cases hz
            exact O.asymm _ _ hb
          · rw [get_ne (Ne.symm e)] at hz
            have e2 := H.edge j h1 (by rw [hj]; exact hd.le) e (by rw [hj]; exact hqp) y z
            rw [hj] at e2
            exact O.trans x y z (O.asymm _ _ hb) (e2 hy hz))
        refine ⟨r1, fun z => ?_⟩
        rw [r2 z]
        exact cnt_swap z H.lt hy hqp
      | false =>
        rw [if_neg Bool.false_ne_true]
        exact ⟨stop xs p H hx (fun _ y' hy' => by rw [hy] at hy'; cases hy'; exact hb), fun _ => rfl⟩
    · rw [sdF_end (by lia)]
      exact ⟨stop xs p H hx (fun h => absurd h hkp), fun _ => rfl⟩
/-- sifting at k mends a heap whose edges from k + 1 on hold -/
theorem siftF_heap (O : Ord bf) {xs : List Item} {k : Nat} (H : HeapFrom bf xs (k + 1)) (hk : k < xs.length) : HeapFrom bf (siftF bf xs k) k ∧ ∀ z, (siftF bf xs k).count z = xs.count z := by
  obtain ⟨x, hx⟩ : ∃ x, xs[k]? = some x := ⟨_, List.getElem?_eq_getElem hk⟩
  unfold siftF
  rw [hx]
  dsimp only
  have H0 : Hole bf k xs k := ⟨.refl, hk, fun j h1 h2 h3 h4 => H j h1 (by lia), fun j h1 h2 h3 => absurd h3 (Nat.lt_irrefl _)⟩
  obtain ⟨r1, r2, r3, r4⟩ := suF_hole O (x := x) xs.length xs k (by lia) H0
  generalize suF bf xs.length xs k = r at r1 r2 r3 r4
  have H1 : Hole bf k (r.1.set r.2 x) r.2 := by
    refine ⟨r1.desc, by rw [List.length_set]; exact r1.lt, fun j h1 h2 h3 h4 a b ha hb => ?_, fun j h1 h2 h3 a b ha hb => ?_⟩
    · rw [get_ne (Ne.symm h4)] at ha
      rw [get_ne (Ne.symm h3)] at hb
      exact r1.edge j h1 h2 h3 h4 a b ha hb
    · rw [get_ne (by lia), r3 j h1 h2] at hb
      cases hb
  obtain ⟨s1, s2⟩ := sdF_heap O (x := x) r.2 (r.1.set r.2 x) r.2 (Nat.le_refl _) H1 (by
    intro j h1 hj z hz
    rw [get_ne (by lia), r3 j h1 hj] at hz
    cases hz)
  refine ⟨s1, fun z => ?_⟩
  rw [s2 z, List.set_set, r4 z]
  have : xs.set k x = xs := by
    obtain ⟨h1, h2⟩ := List.getElem?_eq_some_iff.mp hx
    rw [← h2, List.set_getElem_self]
  rw [this]
/-- the root of a heap is one of the first -/
theorem heap_root (O : Ord bf) {xs : List Item} (H : HeapFrom bf xs 0) {x : Item} (hx : xs[0]? = some x) : ∀ z ∈ xs, bf z x = false := by
  have irr : bf x x = false := by
    cases e : bf x x with
    | false => rfl
    | true => rw [O.asymm x x e] at e; cases e
  have : ∀ (n i : Nat), i ≤ n → ∀ z, xs[i]? = some z → bf z x = false := by
    intro n
    induction n with
    | zero => intro i hi z hz; obtain rfl : i = 0 := by lia
              rw [hx] at hz; cases hz; exact irr
    | succ n ih =>
      intro i hi z hz
      by_cases e : i = 0
      · subst e; rw [hx] at hz; cases hz; exact irr
      · have hil := (List.getElem?_eq_some_iff.mp hz).1
        obtain ⟨y, hy⟩ : ∃ y, xs[(i - 1) / 2]? = some y := ⟨_, List.getElem?_eq_getElem (by lia)⟩
        exact O.trans x y z (ih ((i - 1) / 2) (by lia) y hy) (H i (by lia) (Nat.zero_le _) y z hy hz)
  intro z hz
  obtain ⟨i, hi⟩ := List.getElem?_of_mem hz
  exact this i i (Nat.le_refl _) z hi
theorem heap_prefix {xs : List Item} {y : Item} (H : HeapFrom bf (xs ++ [y]) 0) : HeapFrom bf xs 0 := by
  intro j h1 hk a b ha hb
  have l1 := (List.getElem?_eq_some_iff.mp ha).1
  have l2 := (List.getElem?_eq_some_iff.mp hb).1
  exact H j h1 hk a b (by rw [List.getElem?_append_left l1]; exact ha) (by rw [List.getElem?_append_left l2]; exact hb)
/-- a pop: the first comes out, the rest is a heap -/
theorem pop_heap (O : Ord bf) {xs : List Item} {y : Item} (H : HeapFrom bf (xs ++ [y]) 0) :
    HeapFrom bf (popR bf xs y) 0 ∧ (∀ z, (popV xs y :: popR bf xs y).count z = (xs ++ [y]).count z) ∧ ∀ z ∈ xs ++ [y], bf z (popV xs y) = false := by
  cases xs with
  | nil =>
    refine ⟨fun j h1 hk a b ha hb => by simp [popR] at hb, fun z => rfl, heap_root O H rfl⟩
  | cons x r =>
    have h1 : HeapFrom bf (y :: r) 1 := by
      intro j h1 hk a b ha hb
      have hp := heap_prefix H
      have e : ∀ i, 1 ≤ i → (y :: r)[i]? = (x :: r)[i]? := fun i hi => by
        obtain ⟨k, rfl⟩ : ∃ k, i = k + 1 := ⟨i - 1, by lia⟩
        rfl
      rw [e _ hk] at ha
      rw [e _ h1] at hb
      exact hp j h1 (Nat.zero_le _) a b ha hb
    obtain ⟨s1, s2⟩ := siftF_heap O h1 (Nat.succ_pos _)
    refine ⟨s1, fun z => ?_, heap_root O H rfl⟩
    show (x :: siftF bf (y :: r) 0).count z = _
    rw [List.count_cons, s2 z, List.cons_append, List.count_cons, List.count_cons, List.count_append, List.count_cons, List.count_nil]
    lia
theorem hp_heap (O : Ord bf) {xs : List Item} (hl : xs.length = 7) : HeapFrom bf (hpF bf xs 3) 0 ∧ ∀ z, (hpF bf xs 3).count z = xs.count z := by
  have h3 : HeapFrom bf xs 3 := by
    intro j h1 hk a b ha hb
    have := (List.getElem?_eq_some_iff.mp hb).1
    lia
  obtain ⟨a1, a2⟩ := siftF_heap O (k := 2) h3 (by lia)
  have l1 : (siftF bf xs 2).length = 7 := by rw [siftF_len, hl]
  obtain ⟨b1, b2⟩ := siftF_heap O (k := 1) a1 (by lia)
  have l2 : (siftF bf (siftF bf xs 2) 1).length = 7 := by rw [siftF_len, l1]
  obtain ⟨c1, c2⟩ := siftF_heap O (k := 0) b1 (by lia)
  exact ⟨c1, fun z => by show (siftF bf (siftF bf (siftF bf xs 2) 1) 0).count z = _; rw [c2, b2, a2]⟩
end Mine
namespace Mine
theorem ord_min : Ord minBf where
  asymm a b h := decide_eq_false (List.lt_asymm (of_decide_eq_true h))
  trans a b c h1 h2 := decide_eq_false fun h => by
    have h1 : ¬ b.1.cps.toList < a.1.cps.toList := of_decide_eq_false h1
    have h2 : ¬ c.1.cps.toList < b.1.cps.toList := of_decide_eq_false h2
    exact List.le_trans h1 h2 h
theorem ord_max : Ord maxBf where
  asymm a b h := decide_eq_false (List.lt_asymm (of_decide_eq_true h))
  trans a b c h1 h2 := decide_eq_false fun h => by
    have h1 : ¬ a.1.cps.toList < b.1.cps.toList := of_decide_eq_false h1
    have h2 : ¬ b.1.cps.toList < c.1.cps.toList := of_decide_eq_false h2
    exact List.le_trans h2 h1 h
end Mine
end

section
open PySem PySem.W PyProof.Rows PyProof.Rows.LCg PyProof.Rows.LCt PySem.Calls
set_option maxRecDepth 100000
set_option maxHeartbeats 8000000
namespace Mine
section
variable {prog : Program} {w : World} {A : Around} {E : Value → Shared → Prop} {s s₁ : Shared} {h₀ : Heap} {L : Addr} {m : Str → Option Value} {env : Env} {Rest : (List (Addr × Obj) → Prop) → (Nat → Value → Prop) → Nat → List (Addr × Obj) → Shared → Prop} {K : Type} [DecidableEq K] {knd : KeyKind prog w K} {kvs : List (K × Value)} {d : Addr} {o : Obj} {news : List (Addr × Obj)}
/-- the keys of a dict of the ledger -/
theorem SrcW.dict (hh : A.handled = none) (F : Fr h₀ L s₁.heap m) (N : News h₀ L s₁.heap news) (hm : (d, o) ∈ news) (hd : o.IsDictOf knd kvs) (lo : (d == sysModules) = false) (hsz : kvs.length ≤ sizeLine)
    (h : ∀ g, Rest (fun nw => (d, o) ∈ nw) (fun i v => ∃ k x, kvs[i]? = some (k, x) ∧ knd.is k v = true) kvs.length news { s₁ with heap := g }) : SrcW prog w A h₀ L m Rest (.ref d) s₁ := by
  obtain ⟨es, ep, hd1, hd2, hd3, hd4, hd5⟩ := hd
  have at' : ∀ h : Heap, h.get? d = some o → h.DictAt knd d kvs ep := fun h e => ⟨o, es, e, hd1, hd2, hd3, hd4, hd5⟩
  have z := N _ hm
  have hlt : @LT.lt Nat _ d s₁.heap.objs.size := Heap.lt_size z.1
  refine ⟨kvs.length, _, news, fun nw => (d, o) ∈ nw, _, _, _, F, N, hsz, hm, fun Q E q => wpAny_pyIter_dict lo (at' _ z.1) q, Walks.dictKeys hh s₁.heap.objs.size d (Nat.ne_of_lt hlt) kvs ep, fun i h st => ?_, fun i h h' oo nw st e e' k N' S => ?_, ⟨⟨_, Heap.get?_push_size _ rfl, rfl, rfl⟩, at' _ (Heap.get?_push_of_some _ z.1)⟩, fun b hb => ?_, h⟩
  · obtain ⟨oo, e, _⟩ := st.1; exact ⟨oo, e⟩
  · refine ⟨?_, at' _ (N' _ S).1⟩
    obtain ⟨o2, q, r⟩ := st.1
    rw [e] at q; cases q
    exact ⟨oo, e', r⟩
  · rcases List.mem_cons.mp hb with rfl | hb
    · exact Nat.le_refl _
    · rw [List.mem_singleton.mp hb]; exact Nat.le_of_lt hlt
end
end Mine
namespace Mine
theorem texts_of {prog : Program} {w : World} : ∀ {vs : List Value} {ks : List Str}, vs.length = ks.length → (∀ (j : Nat) v, vs[j]? = some v → ∃ k, ks[j]? = some k ∧ (strKind prog w).is k v = true) → ∃ xs : List (Str × Tok), vs = strL xs ∧ xs.map (·.1) = ks
  | [], [], _, _ => ⟨[], rfl, rfl⟩
  | [], _ :: _, h, _ => by simp at h
  | _ :: _, [], h, _ => by simp at h
  | v :: vs, k :: ks, h, hv => by
    obtain ⟨k', hk, hkv⟩ := hv 0 v rfl
    cases Option.some.inj hk
    obtain ⟨t, rfl⟩ := Value.isStrOf_shape hkv
    obtain ⟨xs, rfl, hx⟩ := texts_of (vs := vs) (ks := ks) (by simpa using h) fun j u hu => hv (j + 1) u (by simpa using hu)
    exact ⟨(k, t) :: xs, rfl, by rw [List.map_cons, hx]⟩
section
variable {prog : Program} {w : World} {A : Around} {E : Value → Shared → Prop} {s : Shared} {h₀ : Heap} {L d : Addr} {m : Str → Option Value} {news : List (Addr × Obj)} {o : Obj} {kvs : List (Str × Value)} {Q : Value → Shared → Prop}
theorem list_dict_led (hh : A.handled = none) (F : Fr h₀ L s.heap m) (N : News h₀ L s.heap news) (hm : (d, o) ∈ news) (hd : o.IsDictOf (strKind prog w) kvs) (lo : (d == sysModules) = false) (hsz : kvs.length ≤ sizeLine)
    (h : ∀ (D : Addr) c h' tk (xs : List (Str × Tok)), Fr h₀ L h' m → News h₀ L h' ((D, W.listOf (strL xs).toArray c) :: news) → (∀ q ∈ news, q.1 < D) → xs.map (·.1) = kvs.map (·.1) → Q (.ref D) { s with heap := h', toks := tk }) :
    wpAny (model prog w) A (call (.type "list") [.ref d]) Q E s := by
  obtain ⟨ep, hat⟩ := (kda_dict N hm hd).dictAt
  refine kdl_N (kdl_dict (knd := strKind prog w) (kvs := kvs) (ep := ep) lo) hh F N hat hsz fun D c h' tk vs F' N' l1 hl hv => ?_
  obtain ⟨xs, rfl, hx⟩ := texts_of (prog := prog) (w := w) (vs := vs) (ks := kvs.map (·.1)) (by simpa using hl) fun j v hj => by
    obtain ⟨k, x, e, hk⟩ := hv j v hj
    exact ⟨k, by rw [List.getElem?_map, e]; rfl, hk⟩
  exact h D c h' tk xs F' N' l1 hx
end
end Mine
namespace Mine
section
variable {prog : Program} {w : World} {A : Around} {E : Value → Shared → Prop} {s : Shared} {h₀ : Heap} {L : Addr} {m : Str → Option Value} {env : Env} {K : Type} [DecidableEq K] {knd : KeyKind prog w K} {kvs : List (K × Value)} {k : K} {key v : Value}
theorem CompRestG.invQ {x : Str} {em : Addr → Addr → (Shared → Prop) → (Value → Shared → Prop) → Shared → Prop} (hmono : ∀ C D (Q Q' : Shared → Prop) E s, (∀ s, Q s → Q' s) → em C D Q E s → em C D Q' E s) {S : List (Addr × Obj) → Prop} {P : Nat → Value → Prop} {Fin : Obj → List (Addr × Obj) → Prop} {n : Nat} {oD₀ : Obj} {news : List (Addr × Obj)} (J : Nat → Obj → List (Addr × Obj) → Prop) (h0 : J 0 oD₀ [])
    (turn : ∀ i oD post v I oI C oC D m₂ h tk (E' : Value → Shared → Prop), i < n → J i oD post → P i v → NsObj oC m₂ → m₂ x = some v → Fr h₀ L h m → News h₀ L h ((I, oI) :: (C, oC) :: (D, oD) :: (news ++ post)) → Off3 I C D (news ++ post) → ((@Ne Nat I C) ∧ (@Ne Nat I D) ∧ (@Ne Nat C D)) →
      em C D (CompEndG h₀ L m { s with heap := h, toks := tk } I oI C oC D S (fun oD' nw' => ∃ post', nw' = news ++ post' ∧ J (i + 1) oD' post')) E' { s with heap := h, toks := tk })
    (fin : ∀ oD post, J n oD post → Fin oD (news ++ post)) : CompRestG prog w A h₀ L m x em s S P Fin n 0 oD₀ news := by
  refine CompRestG.inv hmono (fun i oD nw => ∃ post, nw = news ++ post ∧ J i oD post) ⟨[], by simp, h0⟩ ?_ ?_
  · rintro i oD nw v I oI C oC D m₂ h tk E' hi ⟨post, rfl, hJ⟩ hP hC hx F N off ne
    exact turn i oD post v I oI C oC D m₂ h tk E' hi hJ hP hC hx F N off ne
  · rintro oD nw ⟨post, rfl, hJ⟩
    exact fin oD post hJ
/-- a key with a new object -/
theorem compGQ_set {I C D a : Addr} {oI oC oD o : Obj} {news post : List (Addr × Obj)} {S : List (Addr × Obj) → Prop} {J : Obj → List (Addr × Obj) → Prop} {h : Heap} {tk tk₀ : Nat} {hs : Heap} (hkey : knd.is k key = true) (hd : oD.IsDictOf knd kvs) (hsz : kvs.length ≤ sizeLine)
    (F : Fr h₀ L h m) (N : News h₀ L h ((a, o) :: (I, oI) :: (C, oC) :: (D, oD) :: (news ++ post))) (hlt : ∀ p ∈ (I, oI) :: (C, oC) :: (D, oD) :: (news ++ post), @LT.lt Nat _ p.1 a) (off : Off3 I C D (news ++ post)) (ne : (@Ne Nat I C) ∧ (@Ne Nat I D) ∧ (@Ne Nat C D)) (hS : S (news ++ (post ++ [(a, o)])))
    (r : ∀ oD', oD'.IsDictOf knd (stored kvs k v) → J oD' (post ++ [(a, o)])) :
    wpAny (model prog w) A (dictSet D key v) (fun _ s₆ => CompEndG h₀ L m { s with heap := hs, toks := tk₀ } I oI C oC D S (fun oD' nw' => ∃ post', nw' = news ++ post' ∧ J oD' post') s₆) E { s with heap := h, toks := tk } := by
  have zD := N (D, oD) (.tail _ (.tail _ (.tail _ (.head _))))
  refine wpAny_dictSet_pairs (hsz := hsz) hkey (Heap.dictOf_iff.mpr ⟨oD, zD.1, hd⟩) fun h' hmm hsb => ?_
  obtain ⟨oD', ho', hd'⟩ := Heap.dictOf_iff.mp hmm
  have up : ∀ p ∈ (a, o) :: (I, oI) :: (C, oC) :: (D, oD) :: (news ++ post), p.1 ≠ D → h'.get? p.1 = some p.2 ∧ p.1 ≠ L ∧ h₀.get? p.1 = none := fun p hp hne => ⟨hsb.extBut _ _ hne (N p hp).1, (N p hp).2⟩
  have hDa : @Ne Nat a D := Nat.ne_of_gt (hlt _ (.tail _ (.tail _ (.head _))))
  refine ⟨h', tk + 1, oD', news ++ (post ++ [(a, o)]), rfl, F.change hsb zD.2.1 zD.2.2, fun p hp => ?_, Off3.of fun p hp => ?_, hS, _, rfl, r oD' hd'⟩
  · simp only [List.mem_cons, List.mem_append, List.not_mem_nil, or_false] at hp
    rcases hp with rfl | rfl | rfl | hp | hp | rfl
    · exact up _ (by simp) ne.2.1
    · exact up _ (by simp) ne.2.2
    · exact ⟨ho', zD.2⟩
    · exact up _ (by simp [hp]) (off.mem p (by simp [hp])).2.2
    · exact up _ (by simp [hp]) (off.mem p (by simp [hp])).2.2
    · exact up _ (by simp) hDa
  · rw [← List.append_assoc] at hp
    rcases List.mem_append.mp hp with hp | hp
    · exact off.mem p hp
    · rw [List.mem_singleton.mp hp]
      exact ⟨Nat.ne_of_gt (hlt _ (.head _)), Nat.ne_of_gt (hlt _ (.tail _ (.head _))), hDa⟩
/-- a key with a plain value -/
theorem compG_set {I C D : Addr} {oI oC oD : Obj} {news : List (Addr × Obj)} {S : List (Addr × Obj) → Prop} {J : Obj → List (Addr × Obj) → Prop} {h : Heap} {tk tk₀ : Nat} {hs : Heap} (hkey : knd.is k key = true) (hd : oD.IsDictOf knd kvs) (hsz : kvs.length ≤ sizeLine)
    (F : Fr h₀ L h m) (N : News h₀ L h ((I, oI) :: (C, oC) :: (D, oD) :: news)) (off : Off3 I C D news) (ne : (@Ne Nat I C) ∧ (@Ne Nat I D) ∧ (@Ne Nat C D)) (hS : S news)
    (r : ∀ oD', oD'.IsDictOf knd (stored kvs k v) → J oD' news) :
    wpAny (model prog w) A (dictSet D key v) (fun _ s₆ => CompEndG h₀ L m { s with heap := hs, toks := tk₀ } I oI C oC D S J s₆) E { s with heap := h, toks := tk } := by
  have zD := N (D, oD) (.tail _ (.tail _ (.head _)))
  refine wpAny_dictSet_pairs (hsz := hsz) hkey (Heap.dictOf_iff.mpr ⟨oD, zD.1, hd⟩) fun h' hmm hsb => ?_
  obtain ⟨oD', ho', hd'⟩ := Heap.dictOf_iff.mp hmm
  refine ⟨h', tk + 1, oD', news, rfl, F.change hsb zD.2.1 zD.2.2, fun p hp => ?_, off, hS, r oD' hd'⟩
  rcases List.mem_cons.mp hp with rfl | hp
  · exact ⟨hsb.extBut _ _ ne.2.1 (N _ (.head _)).1, (N _ (.head _)).2⟩
  · rcases List.mem_cons.mp hp with rfl | hp
    · exact ⟨hsb.extBut _ _ ne.2.2 (N _ (.tail _ (.head _))).1, (N _ (.tail _ (.head _))).2⟩
    · rcases List.mem_cons.mp hp with rfl | hp
      · exact ⟨ho', zD.2⟩
      · exact ⟨hsb.extBut _ _ (off.mem p hp).2.2 (N _ (.tail _ (.tail _ (.tail _ hp)))).1, (N _ (.tail _ (.tail _ (.tail _ hp)))).2⟩
end
theorem isdict_nil {prog : Program} {w : World} {K : Type} [DecidableEq K] {knd : KeyKind prog w K} : Obj.IsDictOf knd (dictOf [] 0) [] :=
  ⟨#[], 0, ⟨rfl, rfl, rfl⟩, rfl, by first | (intro e h; simp at h) | (intro i e h; simp at h) | (unfold KeysOf; simp), by first | exact .nil | exact Pairs.nil | simp, by simp⟩
end Mine
namespace Mine
theorem lo_of {p : Program} {loose : List Str} {mean : ExcName → Option Value} {mg mb : Str → Option Value} {h₀ h : Heap} {L D : Addr} {m : Str → Option Value} (T : Top p loose mean mg mb h₀) (F : Fr h₀ L h m) (hD : @LT.lt Nat _ L D) : (D == sysModules) = false :=
  beq_eq_false_iff_ne.mpr (Nat.ne_of_gt (Nat.lt_trans (modules_low T.nolimit) (Nat.lt_of_le_of_lt F.above hD)))
theorem strKind_is {prog : Program} {w : World} (k : Str) (t : Tok) : (PySem.strKind prog w).is k (.str k t) = true := by
  show Value.isStrOf k (.str k t) = true
  simp [Value.isStrOf]
/-- a dict by places -/
noncomputable def kvG (ov : Nat → Nat) (fl : List Nat) (val : Nat → Value) : List (Str × Value) := fl.map fun j => (pth ov j, val j)
theorem kvG_keys (ov : Nat → Nat) (fl : List Nat) (val : Nat → Value) : (kvG ov fl val).map (·.1) = fl.map (pth ov) := by simp [kvG, Function.comp]
theorem pth_mem {ov : Nat → Nat} {fl : List Nat} (hf : ∀ i ∈ fl, i ≤ 6) {j : Nat} (hj : j ≤ 6) : pth ov j ∈ fl.map (pth ov) ↔ j ∈ fl := by
  constructor
  · intro h
    obtain ⟨i, hi, e⟩ := List.mem_map.mp h
    rw [← pth_inj ov (hf i hi) hj e]; exact hi
  · exact List.mem_map_of_mem
theorem kvG_nodup {ov : Nat → Nat} {fl : List Nat} (hf : ∀ i ∈ fl, i ≤ 6) (hn : fl.Nodup) : (fl.map (pth ov)).Nodup := by
  induction fl with
  | nil => simp
  | cons a t ih =>
    rw [List.map_cons, List.nodup_cons]
    rw [List.nodup_cons] at hn
    exact ⟨fun h => hn.1 ((pth_mem (fun i hi => hf i (.tail _ hi)) (hf a (.head _))).mp h), ih (fun i hi => hf i (.tail _ hi)) hn.2⟩
theorem kvG_at {ov : Nat → Nat} {fl : List Nat} {val : Nat → Value} (hf : ∀ i ∈ fl, i ≤ 6) (hn : fl.Nodup) {j : Nat} (hj : j ∈ fl) : valueAt (kvG ov fl val) (pth ov j) = some (val j) := by
  obtain ⟨i, hi⟩ := List.getElem?_of_mem hj
  exact valueAt_of_get (by rw [kvG_keys]; exact kvG_nodup hf hn) (i := i) (by simp [kvG, hi])
theorem kvG_new {ov : Nat → Nat} {fl : List Nat} {val : Nat → Value} {v : Value} (hf : ∀ i ∈ fl, i ≤ 6) {j : Nat} (hj : j ≤ 6) (hn : j ∉ fl) : stored (kvG ov fl val) (pth ov j) v = kvG ov (fl ++ [j]) fun i => if i = j then v else val i := by
  rw [stored_absent (valueAt_none_of_not_mem (by rw [kvG_keys]; exact fun h => hn ((pth_mem hf hj).mp h)))]
  unfold kvG
  rw [List.map_append]
  congr 1
  · refine List.map_congr_left fun i hi => ?_
    have : i ≠ j := fun e => hn (e ▸ hi)
    simp [this]
  · simp
theorem kvG_set {ov : Nat → Nat} {fl : List Nat} {val : Nat → Value} {v : Value} (hf : ∀ i ∈ fl, i ≤ 6) {j : Nat} (hj : j ≤ 6) (hm : j ∈ fl) : stored (kvG ov fl val) (pth ov j) v = kvG ov fl fun i => if i = j then v else val i := by
  unfold stored
  have : (kvG ov fl val).any (fun kv => kv.1 = pth ov j) = true := by
    rw [List.any_eq_true]
    exact ⟨(pth ov j, val j), List.mem_map_of_mem hm, by simp⟩
  rw [if_pos this]
  unfold kvG
  rw [List.map_map]
  refine List.map_congr_left fun i hi => ?_
  by_cases e : i = j
  · subst e; simp
  · have : pth ov i ≠ pth ov j := fun h => e (pth_inj ov (hf i hi) hj h)
    simp [e, this]
end Mine
end

section
open PySem PySem.W PyProof.Rows
set_option maxRecDepth 100000
set_option maxHeartbeats 2000000
namespace Mine
theorem perm_map_mem {α β : Type} {f : α → β} {xs : List β} {rm : List α} (h : xs.Perm (rm.map f)) {i : α} (hi : i ∈ rm) : f i ∈ xs := h.symm.subset (List.mem_map_of_mem hi)
/-- a pop: which place comes out -/
theorem pop_place {bf : Item → Item → Bool} (O : Ord bf) (ov : Nat → Nat) {xs : List Item} {y : Item} {rm : List Nat} (H : HeapFrom bf (xs ++ [y]) 0) (P : ((xs ++ [y]).map (·.1)).Perm (rm.map (pth ov))) :
    ∃ j ∈ rm, (popV xs y).1 = pth ov j ∧ HeapFrom bf (popR bf xs y) 0 ∧ ((popR bf xs y).map (·.1)).Perm ((rm.erase j).map (pth ov)) ∧ (∀ i ∈ rm, ∃ t, bf (pth ov i, t) (popV xs y) = false) ∧ (popR bf xs y).length = xs.length := by
  obtain ⟨h1, h2, h3⟩ := pop_heap O H
  have hp : (popV xs y :: popR bf xs y).Perm (xs ++ [y]) := List.perm_iff_count.mpr h2
  have hv : popV xs y ∈ xs ++ [y] := hp.subset (.head _)
  have hv1 : (popV xs y).1 ∈ rm.map (pth ov) := P.subset (List.mem_map_of_mem (f := (·.1)) hv)
  obtain ⟨j, hj, e⟩ := List.mem_map.mp hv1
  refine ⟨j, hj, e.symm, h1, ?_, fun i hi => ?_, ?_⟩
  · have q := (hp.map (·.1)).trans P
    rw [List.map_cons, ← e] at q
    have r : (rm.map (pth ov)).Perm (pth ov j :: (rm.erase j).map (pth ov)) := (List.perm_cons_erase hj).map (pth ov)
    exact (List.perm_cons _).mp (q.trans r)
  · obtain ⟨z, hz, e2⟩ := List.mem_map.mp (perm_map_mem P hi)
    obtain ⟨z1, zt⟩ := z
    cases e2
    exact ⟨zt, h3 _ hz⟩
  · have := hp.length_eq
    simp at this
    exact this
/-- the three rights -/
noncomputable def R3 : List Int := [420, 2541, 928]
noncomputable def dirW (n : Int) : Bool := decide (Builtin.bitAnd n 61440 = 16384)
noncomputable def max3 (f : Int → Nat) : Nat := max (max (f 420) (f 2541)) (f 928)
/-- how many that lie right in j, of those in dn, are served by c -/
noncomputable def kids (ov : Nat → Nat) (F : Nat → List Int) (dn : List Nat) (j : Nat) (c : Int) : Nat := ((List.range 6).filter fun k => decide (k + 1 ∈ dn) && decide (prn ov k = j) && decide (c ∈ F (k + 1))).length
noncomputable def servF (n : Int) (f : Int → Nat) : List Int := if dirW n = true then R3.filter (fun c => decide (f c = max3 f)) else [Builtin.bitAnd n 4095]
theorem max3_ge (f : Int → Nat) : f 420 ≤ max3 f ∧ f 2541 ≤ max3 f ∧ f 928 ≤ max3 f :=
  ⟨Nat.le_trans (Nat.le_max_left _ _) (Nat.le_max_left _ _), Nat.le_trans (Nat.le_max_right _ _) (Nat.le_max_left _ _), Nat.le_max_right _ _⟩
theorem max_or (a b : Nat) : max a b = a ∨ max a b = b := (Nat.le_total a b).elim (fun h => .inr (Nat.max_eq_right h)) (fun h => .inl (Nat.max_eq_left h))
theorem max3_or (f : Int → Nat) : max3 f = f 420 ∨ max3 f = f 2541 ∨ max3 f = f 928 :=
  (max_or (max (f 420) (f 2541)) (f 928)).elim (fun h => (max_or (f 420) (f 2541)).elim (fun g => .inl (h.trans g)) (fun g => .inr (.inl (h.trans g)))) (fun h => .inr (.inr h))
theorem servF_nodup (n : Int) (f : Int → Nat) : (servF n f).Nodup := by
  unfold servF
  split
  · exact (List.filter_sublist).nodup (by decide)
  · simp
structure UpI (ov : Nat → Nat) (wn : Nat → Int) (xs : List Item) (dn rm : List Nat) (F cw : Nat → List Int) : Prop where
  heap : HeapFrom maxBf xs 0
  items : (xs.map (·.1)).Perm (rm.map (pth ov))
  all : (dn ++ rm).Perm (List.range 7)
  up : ∀ k, k < 6 → k + 1 ∈ rm → prn ov k ∈ rm
  eqs : ∀ j ∈ dn, F j = servF (wn j) (kids ov F dn j)
  cnt : ∀ j ∈ rm, ∀ c, (cw j).count c = kids ov F dn j c
theorem servF_congr {n : Int} {f g : Int → Nat} (h : ∀ c, f c = g c) : servF n f = servF n g := by
  have : f = g := funext h
  rw [this]
theorem UpI.rng {ov : Nat → Nat} {wn : Nat → Int} {xs : List Item} {dn rm : List Nat} {F cw : Nat → List Int} (U : UpI ov wn xs dn rm F cw) {j : Nat} (h : j ∈ rm) : j ≤ 6 := by
  have := List.mem_range.mp (U.all.subset (List.mem_append_right _ h)); lia
theorem UpI.rngd {ov : Nat → Nat} {wn : Nat → Int} {xs : List Item} {dn rm : List Nat} {F cw : Nat → List Int} (U : UpI ov wn xs dn rm F cw) {j : Nat} (h : j ∈ dn) : j ≤ 6 := by
  have := List.mem_range.mp (U.all.subset (List.mem_append_left _ h)); lia
theorem UpI.nodup {ov : Nat → Nat} {wn : Nat → Int} {xs : List Item} {dn rm : List Nat} {F cw : Nat → List Int} (U : UpI ov wn xs dn rm F cw) : (dn ++ rm).Nodup := U.all.nodup_iff.mpr List.nodup_range
/-- the place over j -/
noncomputable def over (ov : Nat → Nat) (j : Nat) : Nat := match j with | 0 => 0 | k + 1 => prn ov k
theorem pth_over (ov : Nat → Nat) {j : Nat} (h : j ≤ 6) : dirF (pth ov j) = pth ov (over ov j) := by
  cases j with
  | zero => exact pth_dir0 ov
  | succ k => exact pth_dir ov (by lia)
theorem over_le (ov : Nat → Nat) {j : Nat} (h : j ≤ 6) : over ov j ≤ 6 := by
  cases j with
  | zero => exact h
  | succ k => have := prn_le ov k; show prn ov k ≤ 6; lia
theorem kids_congr {ov : Nat → Nat} {F G : Nat → List Int} {dn en : List Nat} {j : Nat} {c : Int} (h : ∀ k, k < 6 → prn ov k = j → ((k + 1 ∈ dn ∧ c ∈ F (k + 1)) ↔ (k + 1 ∈ en ∧ c ∈ G (k + 1)))) : kids ov F dn j c = kids ov G en j c := by
  unfold kids
  congr 1
  refine List.filter_congr fun k hk => ?_
  have := h k (List.mem_range.mp hk)
  by_cases e : prn ov k = j
  · have := this e
    simp only [e, decide_true, Bool.and_true]
    rw [← Bool.decide_and, ← Bool.decide_and]
    exact decide_eq_decide.mpr this
  · simp [e]
theorem UpI.start {ov : Nat → Nat} {wn : Nat → Int} {xs0 : List Item} {F : Nat → List Int} (h : xs0.map (·.1) = (List.range 7).map (pth ov)) : UpI ov wn (hpF maxBf xs0 3) [] (List.range 7) F (fun _ => []) := by
  have hl : xs0.length = 7 := by have := congrArg List.length h; simpa using this
  obtain ⟨h1, h2⟩ := hp_heap ord_max hl
  have hp : (hpF maxBf xs0 3).Perm xs0 := List.perm_iff_count.mpr h2
  refine ⟨h1, h ▸ hp.map (·.1), by simp, fun k hk _ => List.mem_range.mpr (by have := prn_le ov k; lia), (fun j hj => nomatch hj), fun j hj c => ?_⟩
  simp [kids]
  rfl
theorem filter_one {l : List Nat} {p q : Nat → Bool} {a : Nat} (hn : l.Nodup) (ha : a ∈ l) (hp : p a = false) (h : ∀ k ∈ l, k ≠ a → q k = p k) : (l.filter q).length = (l.filter p).length + (if q a = true then 1 else 0) := by
  induction l with
  | nil => cases ha
  | cons b t ih =>
    rw [List.nodup_cons] at hn
    rcases List.mem_cons.mp ha with rfl | hb
    · have e : t.filter q = t.filter p := List.filter_congr fun k hk => h k (.tail _ hk) fun e => hn.1 (e ▸ hk)
      rw [List.filter_cons, List.filter_cons, e, hp]
      split <;> simp
    · have hne : b ≠ a := fun e => hn.1 (e ▸ hb)
      have e := h b (.head _) hne
      have := ih hn.2 hb fun k hk => h k (.tail _ hk)
      rw [List.filter_cons, List.filter_cons, e]
      split
      · simp only [List.length_cons, this]; lia
      · exact this
theorem count_nodup {l : List Int} (h : l.Nodup) (c : Int) : l.count c = if c ∈ l then 1 else 0 := List.Nodup.count h
noncomputable def upF (wn : Nat → Int) (F cw : Nat → List Int) (j : Nat) : Nat → List Int := fun i => if i = j then servF (wn j) (fun c => (cw j).count c) else F i
noncomputable def upC (ov : Nat → Nat) (wn : Nat → Int) (F cw : Nat → List Int) (j : Nat) : Nat → List Int := fun i => if i = over ov j then cw (over ov j) ++ upF wn F cw j j else cw i
theorem UpI.step {ov : Nat → Nat} {wn : Nat → Int} {xs : List Item} {y : Item} {dn rm : List Nat} {F cw : Nat → List Int} (U : UpI ov wn (xs ++ [y]) dn rm F cw) :
    ∃ j ∈ rm, (popV xs y).1 = pth ov j ∧ j ≤ 6 ∧ j ∉ dn ∧ (popR maxBf xs y).length = xs.length ∧ UpI ov wn (popR maxBf xs y) (dn ++ [j]) (rm.erase j) (upF wn F cw j) (upC ov wn F cw j) := by
  obtain ⟨j, hj, e, h1, h2, h3, h4⟩ := pop_place ord_max ov U.heap U.items
  have nd := U.nodup
  have nrm : rm.Nodup := (List.nodup_append.mp nd).2.1
  have dj : ∀ i ∈ dn, i ∉ rm := fun i hi hr => (List.nodup_append.mp nd).2.2 i hi i hr rfl
  have hjd : j ∉ dn := fun h => dj j h hj
  have upj : ∀ k, k < 6 → k + 1 ∈ rm → prn ov k ≠ j := fun k hk hr he => by
    obtain ⟨t, ht⟩ := h3 _ hr
    have ht := of_decide_eq_false ht
    rw [e, ← he] at ht
    exact ht (pth_lt ov hk)
  have fne : ∀ i, i ≠ j → upF wn F cw j i = F i := fun i hi => if_neg hi
  refine ⟨j, hj, e, U.rng hj, hjd, h4, h1, h2, ?_, ?_, ?_, ?_⟩
  · rw [List.append_assoc]
    exact ((List.perm_cons_erase hj).symm.append_left dn).trans U.all
  · intro k hk hr
    have hr' := List.mem_of_mem_erase hr
    exact (List.mem_erase_of_ne (upj k hk hr')).mpr (U.up k hk hr')
  · intro i hi
    rcases List.mem_append.mp hi with hi | hi
    · have hij : i ≠ j := fun e => hjd (e ▸ hi)
      rw [fne i hij, U.eqs i hi]
      refine servF_congr fun c => kids_congr fun k hk hp => ?_
      have hkj : k + 1 ≠ j := fun e => dj i hi (hp ▸ U.up k hk (e ▸ hj))
      rw [fne _ hkj, List.mem_append, List.mem_singleton]
      simp [hkj]
    · rw [List.mem_singleton.mp hi]
      show upF wn F cw j j = _
      unfold upF
      rw [if_pos rfl]
      refine servF_congr fun c => ?_
      rw [U.cnt j hj c]
      refine kids_congr fun k hk hp => ?_
      have hkj : k + 1 ≠ j := fun e => by have := prn_le ov k; lia
      rw [if_neg hkj, List.mem_append, List.mem_singleton]
      simp [hkj]
  · intro i hi c
    have hir := List.mem_of_mem_erase hi
    have hij : i ≠ j := fun e => by
      rw [e] at hi
      exact (List.Nodup.not_mem_erase nrm) hi
    unfold upC
    by_cases ho : i = over ov j
    · rw [if_pos ho]
      obtain ⟨k0, rfl⟩ : ∃ k0, j = k0 + 1 := by
        cases j with
        | zero => exact absurd ho hij
        | succ k => exact ⟨k, rfl⟩
      have hk0 : k0 < 6 := by have := U.rng hj; lia
      have ho : i = prn ov k0 := ho
      rw [show over ov (k0 + 1) = i from ho.symm, List.count_append, U.cnt i hir c, count_nodup (by unfold upF; rw [if_pos rfl]; exact servF_nodup _ _)]
      unfold kids
      rw [filter_one (l := List.range 6) (q := fun k => decide (k + 1 ∈ dn ++ [k0 + 1]) && decide (prn ov k = i) && decide (c ∈ upF wn F cw (k0 + 1) (k + 1))) (p := fun k => decide (k + 1 ∈ dn) && decide (prn ov k = i) && decide (c ∈ F (k + 1))) (a := k0) List.nodup_range (List.mem_range.mpr hk0) (by simp [hjd])]
      · congr 1
        simp [ho]
      · intro k hk hne
        have hkj : k + 1 ≠ k0 + 1 := fun e => hne (by lia)
        simp only [fne _ hkj, List.mem_append, List.mem_singleton, hkj, or_false]
    · rw [if_neg ho, U.cnt i hir c]
      refine kids_congr fun k hk hp => ?_
      have hkj : k + 1 ≠ j := fun e => ho (by rw [← e]; exact hp.symm)
      rw [fne _ hkj, List.mem_append, List.mem_singleton]
      simp [hkj]
theorem UpI.fin {ov : Nat → Nat} {wn : Nat → Int} {dn rm : List Nat} {F cw : Nat → List Int} (U : UpI ov wn [] dn rm F cw) : ∀ j, j ≤ 6 → j ∈ dn ∧ F j = servF (wn j) (kids ov F (List.range 7) j) := by
  have hr : rm = [] := by
    have := U.items.length_eq
    simp at this
    exact List.eq_nil_of_length_eq_zero this.symm
  have ha := U.all
  rw [hr, List.append_nil] at ha
  intro j hj
  have hd : ∀ i, i ≤ 6 → i ∈ dn := fun i hi => ha.symm.subset (List.mem_range.mpr (by lia))
  refine ⟨hd j hj, ?_⟩
  rw [U.eqs j (hd j hj)]
  refine servF_congr fun c => kids_congr fun k hk _ => ?_
  have : k + 1 ∈ List.range 7 := List.mem_range.mpr (by lia)
  simp [hd (k + 1) (by lia), this]
end Mine
end

section
open PySem PySem.W PyProof.Rows PyProof.V PySem.Spec
set_option maxRecDepth 100000
set_option maxHeartbeats 2000000
namespace Mine
theorem es_canLayAll0 : ∀ ns : List Str, (∀ x ∈ ns, PyData.strOk x = true) → PyData.canLayAll0 (ns.map PyData.str) = true
  | [], _ => rfl
  | x :: r, h => by simp [PyData.canLayAll0, PyData.canLay0, es_canLayAll0 r fun x hx => h x (.tail _ hx), h x (.head _)]
theorem es_depthAll : ∀ ns : List Str, PyData.depthAll (ns.map PyData.str) = 0
  | [] => rfl
  | _ :: r => by simp [PyData.depthAll, PyData.depth, es_depthAll r]
theorem es_shaped (ns : List Str) (h : ∀ x ∈ ns, PyData.strOk x = true) : SeqAt.shaped (.list (ns.map PyData.str)) = true := by
  simp [SeqAt.shaped, PyData.canLay0, PyData.depth, es_canLayAll0 ns h, es_depthAll]
theorem pth_ok (ov : Nat → Nat) {j : Nat} (h : j ≤ 6) : PyData.strOk (pth ov j) = true := by
  have : ∀ cs ∈ subs 6, PyData.strOk (pathOf cs) = true := by decide +kernel
  exact this _ (cmp_in ov h)
theorem es_sameAll : ∀ ns ms : List Str, PySem.Spec.sameAll (ns.map PyData.str) (ms.map PyData.str) = decide (ns = ms)
  | [], [] => by simp [PySem.Spec.sameAll]
  | [], _ :: _ => by simp [PySem.Spec.sameAll]
  | _ :: _, [] => by simp [PySem.Spec.sameAll]
  | a :: r, b :: t => by
    simp only [List.map_cons, PySem.Spec.sameAll, PySem.Spec.same, es_sameAll r t]
    by_cases h : a = b <;> by_cases h' : r = t <;> simp [h, h']
theorem es_same (ns ms : List Str) : PySem.Spec.same (.list (ns.map PyData.str)) (.list (ms.map PyData.str)) = decide (ns = ms) := by
  simp only [PySem.Spec.same]; exact es_sameAll ns ms
theorem es_carried : ∀ (xs : List Item), CarriedAll (vals xs) ((xs.map (·.1)).map PyData.str)
  | [] => .nil
  | p :: r => .cons (.str p.1 p.2) (es_carried r)
section
variable {prog : Program} {w : World} {A : Around} {E : Value → Shared → Prop} {s : Shared} {a b : Addr} {xs ys : List Item} {Q : Value → Shared → Prop}
theorem ne_strs (ha : s.heap.IsList a (vals xs).toArray) (hb : s.heap.IsList b (vals ys).toArray) (hx : ∀ x ∈ xs.map (·.1), PyData.strOk x = true) (hy : ∀ x ∈ ys.map (·.1), PyData.strOk x = true) (hu : A.units + 64 < cLine) (h : Q (.bool (!decide (xs.map (·.1) = ys.map (·.1)))) s) :
    wpAny (model prog w) A (compareOp .NotEq (.ref a) (.ref b)) Q E s :=
  ne_dataH_same (reads_newData ha (es_carried xs)) (reads_newData hb (es_carried ys)) (es_shaped _ hx) (es_shaped _ hy) hu (SeqAt.noMix_of_shape (.list .str) rfl _ _ (list_map_has fun _ => rfl) (list_map_has fun _ => rfl)) (by rw [es_same]; exact h)
theorem eq_strs (ha : s.heap.IsList a (vals xs).toArray) (hb : s.heap.IsList b (vals ys).toArray) (hx : ∀ x ∈ xs.map (·.1), PyData.strOk x = true) (hy : ∀ x ∈ ys.map (·.1), PyData.strOk x = true) (hu : A.units + 64 < cLine) (h : Q (.bool (decide (xs.map (·.1) = ys.map (·.1)))) s) :
    wpAny (model prog w) A (compareOp .Eq (.ref a) (.ref b)) Q E s :=
  eq_dataH_same (reads_newData ha (es_carried xs)) (reads_newData hb (es_carried ys)) (es_shaped _ hx) (es_shaped _ hy) hu (SeqAt.noMix_of_shape (.list .str) rfl _ _ (list_map_has fun _ => rfl) (list_map_has fun _ => rfl)) (by rw [es_same]; exact h)
end
end Mine
end

section
local macro_rules | `(tactic| walk_at "execs cons") => `(tactic| (k_fold; walk_at "execs cons"))

section
open PySem PySem.W PyProof.Rows PyProof.Rows.LCg PyProof.Rows.LCt
set_option maxRecDepth 100000
set_option maxHeartbeats 8000000
namespace Mine
section
local macro_rules | `(tactic| walk_at "exec Try") => `(tactic| refine wpAny_Try_except ?_)
local macro_rules | `(tactic| walk_at $k:str) => if ["call ref", "exec Assign cons ListComp", "exec For Tuple Call cons nil", "call type:enumerate", "subscriptTail Name Name ref int", "subscriptTail Name Slice ref ref", "call builtin:min", "call builtin:max", "call builtin:str.join", "assign Tuple", "PsPost", "PsEnd"].contains k.getString then `(tactic| refine Mine.halt ?_) else Lean.Macro.throwUnsupported
local macro_rules | `(tactic| k_all) => `(tactic| exact ne_tail (by assumption) (by lia))
theorem commonpath_c (w : World) (rest : List (Addr × Obj)) (l : Addr) (n : Nat) (x y : Str) (tx ty : Tok) (hlx : x.length ≤ 1000) (hly : y.length ≤ 1000) (hsx : (Txt.split x (Str.ofString "/")).length ≤ 100) (hsy : (Txt.split y (Str.ofString "/")).length ≤ 100) (hoff : ∀ p ∈ rest, p.1 ≠ l) (hax : Txt.startswith x (Str.ofString "/") = true) (hay : Txt.startswith y (Str.ofString "/") = true) : Ct w 3 127 [.ref l] ((l, W.listOf #[.str x tx, .str y ty] n) :: rest) (fun v news' => (∃ t, v = .str (cpF x y) t) ∧ news' = rest) := by
  unfold Ct
  k_fill
  intro loose mean mg mb dp un gd cn cs a ccd cl outer A₀ base h₀ L m s Q E B F X N T hk hdp hu hret
  refine wpAny_call ?_
  k_dflt (refine' code_defC ?k1 ?k2 ?k3 ?k4 ?k5 ?kA ?kF ?kK ?k6 ?k7 ?k8 ?k9 ?kB ?kD ?_ ?c2 ?c3 ?c4; (case kA => exact rfl); (case kF => exact rfl); (case kK => assumption); (case k1 => k_asm); (case k2 => k_asm); (case k3 => k_asm); (case k4 => k_asm); (case k5 => k_asm); (case k6 => k_is); (case k7 => k_is); (case k8 => ktr_room); (case k9 => exact BindsTo.of_eq rfl); (case kB => exact rfl); (case kD => decide +kernel); (case c2 => exact rfl); (case c3 => exact rfl); (case c4 => exact rfl); k_whole; intro g' L' h' tk' cells' FG' F' N' Y' B' X' T' l1; (try k_lt l1); k_cells Y'; (try simp only [List.cons_append, List.nil_append] at N'); (try dsimp only); (try k_fold))
  k_steps
  rename News _ _ _ _ => N5
  rename Fr _ _ _ _ => F5
  k_dflt refine call_mapN F5 N5 (.tail _ (.tail _ (.head _))) ?_
  intro I T M h6 hlt1 hlt2 hlt3 F6 N6
  k_steps
  k_dflt refine tuple_map (xs := [(x, tx), (y, ty)]) (by k_asm) (by k_asm) (by k_asm) rfl (by ktr_room) (by ktr_units) (.head _) (.tail _ (.head _)) (.tail _ (.tail _ (.tail _ (.tail _ (.head _))))) ?hof (by simp) rfl rfl F6 N6 ?_
  case hof =>
    intro p hp
    rcases List.mem_cons.mp hp with rfl | hp
    · exact Nat.ne_of_gt (Nat.lt_trans hlt2 hlt3)
    · rcases List.mem_cons.mp hp with rfl | hp
      · exact Nat.ne_of_gt hlt2
      · exact Nat.ne_of_lt (hlt1 p hp)
  intro D h7 tk7 hD F7 N7
  obtain ⟨l1a, l1b⟩ := l1
  have hD1 := ltN (hD _ (.tail _ (.tail _ (.head _))))
  dsimp only at hD1
  have N8 := News.drop2 N7
  simp only [List.map_cons, List.map_nil] at N8
  clear N7 N6 F6 N5 F5 hD hlt1 hlt2 hlt3
  k_steps
  refine Halt.go ?_
  k_dflt refine Assign_ListComp_W (by k_asm) (by rfl) (by with_unfolding_all rfl) (by with_unfolding_all rfl) (by decide) (by rfl) (by decide) (by rfl) (by rfl) (by rfl) ?_
  k_steps
  rename News _ _ _ _ => N9
  rename Fr _ _ _ _ => F9
  k_dflt refine SrcW.tuple rfl F9 N9 (.inr ⟨_, .head _, rfl, _, rfl⟩) (by simp [sizeLine]) ?_
  intro g2
  refine CompRest.succ ?_
  intro v I1 oI C oC D1 m2 h8 tk8 E8 hv hC hx2 F10 N10 off ne
  obtain rfl : Value.str x tx = v := by simpa using hv
  clear N9 F9
  have hlt1 := fun p hp => Heap.lt_size (N10 p hp).1
  k_steps
  rename_i xs ls1 kk1 hs1 hs2 hs3 hs4 hs5 hs6
  refine comp_push hs5 hs6 hlt1 off (SrcAtT.cons (.inr ⟨_, .head _, rfl, _, rfl⟩)) ?_
  clear hlt1 hs6 hs5 hs4
  refine CompRest.succ ?_
  intro v I2 oI2 C2 oC2 D2 m3 h9 tk9 E9 hv hC2 hx3 F11 N11 off2 ne2
  obtain rfl : Value.str y ty = v := by simpa using hv
  have hlt2 := fun p hp => Heap.lt_size (N11 p hp).1
  k_steps
  rename_i ys ls2 kk2 ht1 ht2 ht3 ht4 ht5 ht6
  refine comp_push ht5 ht6 hlt2 off2 (SrcAtT.cons (SrcAtT.cons (.inr ⟨_, .head _, rfl, _, rfl⟩))) ?_
  refine CompRest.zero ?_
  intro SP h10 tk10 F12 N12 off3
  clear ht6 ht5 ht4 hlt2
  k_steps
  rename News _ _ _ _ => N13
  rename Fr _ _ _ _ => F13

  k_dflt refine SetComp_W F13 (by with_unfolding_all rfl) (by decide) (by rfl) (by decide) (by rfl) ?_
  k_steps
  k_dflt refine SrcW.tuple (its := #[.str x tx, .str y ty]) rfl F13 N13 (.inr ⟨{ cls := .type "tuple", data := .seq #[.str x tx, .str y ty] }, by k_mem, rfl, _, rfl⟩) (by simp [sizeLine]) ?_
  intro g3
  refine CompRestG.succ ?_
  intro v I3 oI3 C3 oC3 D3 m4 h11 tk11 E11 hv hC3 hx4 F14 N14 off4 ne4
  obtain rfl : Value.str x tx = v := by simpa using hv
  clear N13 F13
  refine emS_go ?_
  k_steps
  rw [hax]
  k_dflt refine setc_first F14 N14 off4 ne4 (.inr ⟨{ cls := .type "tuple", data := .seq #[.str x tx, .str y ty] }, by k_mem, rfl, _, rfl⟩) ?_
  clear F14 N14 off4 ne4 hv hC3 hx4
  refine CompRestG.succ ?_
  intro v I4 oI4 C4 oC4 D4 m5 h12 tk12 E12 hv hC4 hx5 F15 N15 off5 ne5
  obtain rfl : Value.str y ty = v := by simpa using hv
  refine emS_go ?_
  k_steps
  rw [hay]
  k_dflt refine setc_again F15 N15 off5 (.inr ⟨{ cls := .type "tuple", data := .seq #[.str x tx, .str y ty] }, by k_mem, rfl, _, rfl⟩) ?_
  clear F15 N15 off5 ne5 hv hC4 hx5
  refine CompRestG.zero ?_
  intro SX h13 tk13 _ F16 N16 off6
  k_steps
  refine Halt.go ?_
  k_dflt refine assign_set1 rfl F16 N16 ?_
  intro h14 F17 N17
  clear F16 N16 off6
  k_steps
  refine Halt.go ?_
  k_dflt refine Assign_ListComp_W (by k_asm) (by rfl) (by with_unfolding_all rfl) (by with_unfolding_all rfl) (by decide) (by rfl) (by decide) (by rfl) (by rfl) (by rfl) ?_
  k_steps
  rename News _ _ _ _ => N18
  rename Fr _ _ _ _ => F18

  k_dflt refine SrcW.list (its := #[.ref h8.objs.size, .ref h9.objs.size]) rfl F18 N18 (.inr ⟨_, .head _, rfl, _, rfl⟩) (by simp [sizeLine]) ?_
  intro g4
  refine CompRest.succ ?_
  intro v Ia oIa Ca oCa Da ma ha tka Ea hv hCa hxa Fa Na offa nea
  obtain rfl : Value.ref h8.objs.size = v := by simpa using hv
  have hxl : xs.length ≤ 100 := by rw [← List.length_map (as := xs) (f := fun p => p.1), hs1]; exact hsx
  have hyl : ys.length ≤ 100 := by rw [← List.length_map (as := ys) (f := fun p => p.1), ht1]; exact hsy
  k_dflt refine ListComp_WT Fa (by with_unfolding_all rfl) (by decide) (by rfl) (by decide) (by rfl) ?_
  k_steps
  k_dflt refine SrcW.list (its := (strValues xs).toArray) rfl Fa Na (.inr ⟨{ cls := .type "list", data := .seq (strValues xs).toArray }, by k_mem, rfl, _, rfl⟩) (by simp [strValues, sizeLine]; lia) ?_
  intro g5
  refine CompRestT.invF (fun i => strValues ((xs.take i).filter fun p => keepF p.1)) rfl ?_ ?_
  · intro i v Ib oIb Cb oCb Db mb hb tkb Eb hib hvb hCb hxb Fb Nb offb neb
    obtain ⟨c, tc, hc, rfl⟩ : ∃ c tc, xs[i]? = some (c, tc) ∧ Value.str c tc = v := by
      have : (strValues xs)[i]? = some v := by simpa using hvb
      obtain ⟨p, h1, h2⟩ := (by simpa [strValues] using this : ∃ p : Str × Tok, xs[i]? = some p ∧ Value.str p.1 p.2 = v)
      exact ⟨p.1, p.2, h1, h2⟩
    have hcl : c.length ≤ 1000 := Nat.le_trans (hs3 c (List.mem_map.mpr ⟨_, List.mem_of_getElem? hc, rfl⟩)) hlx
    k_steps
    · exact comp_same Fb (by k_asm) offb (.inr ⟨{ cls := .type "list", data := .seq (strValues xs).toArray }, by k_mem, rfl, _, rfl⟩) ⟨rfl, filt_yes hc (keep_1 (by assumption) (by assumption))⟩
    · exact comp_same Fb (by k_asm) offb (.inr ⟨{ cls := .type "list", data := .seq (strValues xs).toArray }, by k_mem, rfl, _, rfl⟩) ⟨rfl, filt_no hc (keep_2 (by assumption))⟩
    · exact comp_same Fb (by k_asm) offb (.inr ⟨{ cls := .type "list", data := .seq (strValues xs).toArray }, by k_mem, rfl, _, rfl⟩) ⟨rfl, filt_no hc (keep_3 (by assumption))⟩
  have hcx : (strValues xs).toArray.size = xs.length := by simp [strValues]
  rw [hcx, List.take_length]
  intro X1 hc1 tkc1 Fc Nc o1c
  clear Na
  refine comp_push1 (by k_asm) Nc o1c offa (.inr ⟨_, .tail _ (.head _), rfl, _, rfl⟩) ?_
  clear Nc Fc o1c offa nea hCa hxa
  refine CompRest.succ ?_
  intro v Id oId Cd oCd Dd md hd tkd Ed hv hCd hxd Fd Nd offd ned
  obtain rfl : Value.ref h9.objs.size = v := by simpa using hv
  k_dflt refine ListComp_WT Fd (by with_unfolding_all rfl) (by decide) (by rfl) (by decide) (by rfl) ?_
  k_steps
  k_dflt refine SrcW.list (its := (strValues ys).toArray) rfl Fd Nd (.inr ⟨{ cls := .type "list", data := .seq (strValues ys).toArray }, by k_mem, rfl, _, rfl⟩) (by simp [strValues, sizeLine]; lia) ?_
  intro g5
  refine CompRestT.invF (fun i => strValues ((ys.take i).filter fun p => keepF p.1)) rfl ?_ ?_
  · intro i v Ie oIe Ce oCe De me he tke Ee hie hve hCe hxe Fe Ne offe nee
    obtain ⟨c, tc, hc, rfl⟩ : ∃ c tc, ys[i]? = some (c, tc) ∧ Value.str c tc = v := by
      have : (strValues ys)[i]? = some v := by simpa using hve
      obtain ⟨p, h1, h2⟩ := (by simpa [strValues] using this : ∃ p : Str × Tok, ys[i]? = some p ∧ Value.str p.1 p.2 = v)
      exact ⟨p.1, p.2, h1, h2⟩
    have hcl : c.length ≤ 1000 := Nat.le_trans (ht3 c (List.mem_map.mpr ⟨_, List.mem_of_getElem? hc, rfl⟩)) hly
    k_steps
    · exact comp_same Fe (by k_asm) offe (.inr ⟨{ cls := .type "list", data := .seq (strValues ys).toArray }, by k_mem, rfl, _, rfl⟩) ⟨rfl, filt_yes hc (keep_1 (by assumption) (by assumption))⟩
    · exact comp_same Fe (by k_asm) offe (.inr ⟨{ cls := .type "list", data := .seq (strValues ys).toArray }, by k_mem, rfl, _, rfl⟩) ⟨rfl, filt_no hc (keep_2 (by assumption))⟩
    · exact comp_same Fe (by k_asm) offe (.inr ⟨{ cls := .type "list", data := .seq (strValues ys).toArray }, by k_mem, rfl, _, rfl⟩) ⟨rfl, filt_no hc (keep_3 (by assumption))⟩
  have hcy : (strValues ys).toArray.size = ys.length := by simp [strValues]
  rw [hcy, List.take_length]
  intro X2 hc2 tkc2 Fc Nc o1c
  refine comp_push1 (by k_asm) Nc o1c offd (.inr ⟨_, .tail _ (.tail _ (.head _)), rfl, _, rfl⟩) ?_
  clear Nc Fc o1c offd ned hCd hxd Nd
  refine CompRest.zero ?_
  intro SQ hf tkf Ff Nf offf
  k_steps
  have Nf := News.cut 3 7 Nf
  simp only [List.take_succ_cons, List.take_zero, List.drop_succ_cons, List.drop_zero, List.cons_append, List.nil_append] at Nf
  clear offf hv off ne hC hx2 off2 ne2 hC2 hx3 off3 hcx hcy
  have hxm : ∀ y ∈ (xs.filter fun p => keepF p.1).map (fun p => p.1), y.length ≤ 1000 := fun y hy => by
    obtain ⟨p, hp, rfl⟩ := List.mem_map.mp hy
    exact Nat.le_trans (hs3 _ (List.mem_map_of_mem (List.mem_filter.mp hp).1)) hlx
  have hym : ∀ y ∈ (ys.filter fun p => keepF p.1).map (fun p => p.1), y.length ≤ 1000 := fun y hy => by
    obtain ⟨p, hp, rfl⟩ := List.mem_map.mp hy
    exact Nat.le_trans (ht3 _ (List.mem_map_of_mem (List.mem_filter.mp hp).1)) hly
  have hxn : ((xs.filter fun p => keepF p.1).map fun p => p.1).length ≤ 100 := by rw [List.length_map]; exact Nat.le_trans (List.length_filter_le _ _) hxl
  have hyn : ((ys.filter fun p => keepF p.1).map fun p => p.1).length ≤ 100 := by rw [List.length_map]; exact Nat.le_trans (List.length_filter_le _ _) hyl
  have hxe : (xs.filter fun p => keepF p.1).map (fun p => p.1) = partsF x := by rw [filter_fst, hs1]; rfl
  have hye : (ys.filter fun p => keepF p.1).map (fun p => p.1) = partsF y := by rw [filter_fst, ht1]; rfl
  refine Halt.go ?_
  k_dflt refine call_min2L (a := X1) (b := X2) (xs := xs.filter fun p => keepF p.1) (ys := ys.filter fun p => keepF p.1) rfl (by ktr_units) Ff Nf (.head _) (.tail _ (.tail _ (.head _))) (.tail _ (.head _)) ?_
  intro hg tkg S1 z1 c1 Fg Ng hz1
  k_steps
  rename Fr _ _ _ _ => Fh
  rename News _ _ _ _ => Nh
  refine Halt.go ?_
  k_dflt refine call_max2L (a := X1) (b := X2) (xs := xs.filter fun p => keepF p.1) (ys := ys.filter fun p => keepF p.1) rfl (by ktr_units) Fh Nh (.tail _ (.head _)) (.tail _ (.tail _ (.tail _ (.head _)))) (.tail _ (.tail _ (.head _))) ?_
  intro hj tkj S2 z2 c2 Fj Nj hz2
  rw [hxe, hye] at hz1 hz2
  rw [hxe] at hxm hxn
  rw [hye] at hym hyn
  have hle := mm_le (partsF x) (partsF y)
  have hlc := lcp_mm (partsF x) (partsF y)
  have hzl : z1.length ≤ 100 := by
    have := minS_len hxn hyn
    rw [← hz1, List.length_map] at this; exact this
  have hzm : ∀ y ∈ z1.map (fun p => p.1), y.length ≤ 1000 := by rw [hz1]; exact minS_all hxm hym
  rw [← hz1, ← hz2] at hle hlc
  clear hz1 hz2 hxm hym hxn hyn hxe hye hs3 ht3 hs1 hs2 ht1 ht2 hxl hyl hsx hsy hlx hly
  have Nj := News.cut 2 5 Nj
  simp only [List.take_succ_cons, List.take_zero, List.drop_succ_cons, List.drop_zero, List.cons_append, List.nil_append] at Nj
  try clear Nh
  try clear Fh
  k_steps
  refine Halt.go ?_
  rename Fr _ _ _ _ => F5
  rename News _ _ _ _ => N5
  k_dflt refine For_pair3F F5 (by exact rfl) (by exact rfl) (by exact rfl) (by exact rfl) ?_ (by intro _; rfl) (by passes_own)
  k_steps
  refine Halt.go ?_
  k_dflt refine enum_plain (vs := strL z1) (fun i => ∀ j, j < i → (z1.map (·.1))[j]? = (z2.map (·.1))[j]?) (by decide) rfl F5 N5 (.tail _ (.head _)) (fun _ h => (nomatch h)) ?_ ?_
  · intro i v t h tk own hv hJ F₁ N₁
    simp only [List.cons_append, List.nil_append] at N₁
    clear F5 N5
    obtain ⟨c, tc, hc, rfl⟩ : ∃ c tc, z1[i]? = some (c, tc) ∧ Value.str c tc = v := by
      obtain ⟨p, h1, h2⟩ := (by simpa [strL] using hv : ∃ p : Str × Tok, z1[i]? = some p ∧ Value.str p.1 p.2 = v)
      exact ⟨p.1, p.2, h1, h2⟩
    clear hv
    have hil : i < z1.length := (List.getElem?_eq_some_iff.mp hc).1
    have hi2 : i < z2.length := by
      have := in_other hle hJ (by simpa using hil)
      simpa using this
    obtain ⟨⟨c2', tc2⟩, hc2⟩ : ∃ p, z2[i]? = some p := ⟨_, List.getElem?_eq_getElem hi2⟩
    k_steps
    refine Halt.go ?_
    k_dflt refine item_get i (c2', tc2) (by k_asm) (.head _) rfl (by lia) hc2 ?_
    k_steps
    · refine Halt.go ?_
      rename Fr _ _ _ _ => F7
      rename News _ _ _ _ => N7
      rename (c != c2') = true => hne9
      k_dflt refine kmk_slice_lit (its := (strL z1).toArray) (zs := strL (z1.take i)) F7 N7 ⟨_, (N7 _ (.tail _ (.head _))).1, rfl, _, rfl⟩ .none (.int _ _) ?e1 ?_ (by with_unfolding_all rfl) (by intro _; with_unfolding_all rfl) (by simp [strL, sizeLine]; lia)
      case e1 => rw [pick_upto (by simp [strL]; lia)]; simp [strL]
      intro D9 h9 F8 N8 hl9
      have el : lcp (partsF x) (partsF y) = (z1.take i).map fun p => p.1 := by
        rw [← hlc, List.map_take]
        exact lcp_cut hJ (by rw [map_get, hc]; rfl) (by rw [map_get, hc2]; rfl) (by simpa using hne9)
      have ee : Str.ofString "/" ++ Txt.join (Str.ofString "/") ((z1.take i).map fun p => p.1) = cpF x y := by rw [← el]; rfl
      have hzl9 : (z1.take i).length ≤ 100 := Nat.le_trans (List.length_take_le' _ _) hzl
      have hzm9 : ∀ y ∈ (z1.take i).map (fun p => p.1), y.length ≤ 1000 := fun y hy => hzm y (by rw [List.map_take] at hy; exact List.mem_of_mem_take hy)
      k_steps
      refine Halt.go ?_
      dsimp only [PsPost]
      k_steps
      refine Halt.go ?_
      dsimp only [PsPost]
      k_steps
      refine Halt.go ?_
      rename Fr _ _ _ _ => F7
      rename News _ _ _ _ => N7
      k_dflt refine join_led N7 (.head _) hzl9 hzm9 (by decide) ?_
      intro tj kj hjl
      k_steps
      rw [ee]
      rename News h₀ _ _ _ => N9
      exact hret _ _ _ _ ⟨⟨_, rfl⟩, rfl⟩ (by k_asm) (fun p hp => N9 p (by simp [hp]))
    · refine Halt.go ?_
      dsimp only [PsPost]
      rename Fr _ _ _ _ => F7
      rename News _ _ _ _ => N7
      refine ps_end () F7 (by simpa using N7) (by intro z g1 g2 _; simp only [g1, g2, if_false]) ?_
      intro j hj2
      by_cases e : j = i
      · subst e
        rw [map_get, map_get, hc, hc2]
        rename (c != c2') = false => hq
        simpa using hq
      · exact hJ j (by lia)
  · intro u h tk hJ F₁ N₁
    clear F5 N5
    k_steps
    refine Halt.go ?_
    k_dflt refine join_led (by k_asm) (.tail _ (.head _)) hzl hzm (by decide) ?_
    intro tj kj hjl
    k_steps
    have el : lcp (partsF x) (partsF y) = z1.map fun p => p.1 := by
      rw [← hlc]; exact lcp_all (by simpa [strL] using hJ)
    have ee : Str.ofString "/" ++ Txt.join (Str.ofString "/") (z1.map fun p => p.1) = cpF x y := by rw [← el]; rfl
    rw [ee]
    rename News h₀ _ _ _ => N9
    exact hret _ _ _ _ ⟨⟨_, rfl⟩, rfl⟩ (by k_asm) (fun p hp => N9 p (by simp [hp]))
end
end Mine
end

section
local macro_rules | `(tactic| walk_at $k:str) => if ["call ref", "exec For Name Call cons nil", "pyIter ref", "FsEnd", "subscriptTail Name Name ref int", "subscriptTail Name Subscript ref int", "subscriptTail Tuple BinOp ref int", "compareOp In int ref", "subscriptTail Tuple Name ref int", "call builtin:list.append", "exec For Name Name cons nil"].contains k.getString then `(tactic| refine Mine.halt ?_) else Lean.Macro.throwUnsupported
section
open PySem PySem.W PyProof.Rows PySem.Calls
set_option maxRecDepth 100000
set_option maxHeartbeats 8000000
namespace Mine
/-- place j has others in it -/
noncomputable def isd (ov : Nat → Nat) (j : Nat) : Bool := (List.range 6).any fun k => ov k == j
noncomputable def kdF (num : Nat → Nat) (k : Nat) : Int := [8, 1, 12].getD (((num k : Int).fdiv 30).fmod 3).toNat 0
noncomputable def rtF (num : Nat → Nat) (k : Nat) : Int := [420, 2541, 928].getD (((num k : Int).fdiv 10).fmod 3).toNat 0
/-- the wish for a place -/
noncomputable def wsh (num ov : Nat → Nat) : Nat → Int
  | 0 => 16384
  | k + 1 => if isd ov (k + 1) then 16384 else kdF num k * 4096 + rtF num k
theorem ints_intL : ∀ xs : List (Int × Tok), IntsAre (intL xs) (xs.map (·.1)) := by
  intro xs
  induction xs with
  | nil => exact .nil
  | cons a t ih => exact .cons _ _ ih
theorem get_of_map {xs : List (Int × Tok)} {n : Nat} {f : Nat → Int} (h : xs.map (·.1) = (List.range n).map f) {i : Nat} (hi : i < n) : ∃ t, xs[i]? = some (f i, t) := by
  have e : (xs.map (·.1))[i]? = some (f i) := by rw [h, List.getElem?_map, List.getElem?_range hi]; rfl
  rw [List.getElem?_map] at e
  cases hx : xs[i]? with
  | none => rw [hx] at e; cases e
  | some p => rw [hx] at e; exact ⟨p.2, by rw [← Option.some.inj e]⟩
theorem any_isd {ov : Nat → Nat} {os : List (Int × Tok)} {i : Nat} (h : os.map (·.1) = (List.range 6).map fun k => (ov k : Int)) : (os.map (·.1)).any (· == (i : Int)) = isd ov i := by
  rw [h, List.any_map]
  unfold isd
  congr 1
  funext k
  show (((ov k : Nat) : Int) == (i : Int)) = (ov k == i)
  rw [Bool.eq_iff_iff, beq_iff_eq, beq_iff_eq]
  lia
section
theorem lawwishes_c (w : World) (rest : List (Addr × Obj)) (ln lo n n2 : Nat) (ns os : List (Int × Tok)) (num ov : Nat → Nat) (hns : ns.map (·.1) = (List.range 6).map fun k => (num k : Int)) (hos : os.map (·.1) = (List.range 6).map fun k => (ov k : Int)) (hnum : ∀ k, num k < 1000000) :
    Ct w 2 256 [.ref ln, .ref lo] ((lo, W.listOf (intL os).toArray n) :: (ln, W.listOf (intL ns).toArray n2) :: rest) (fun v news' => ∃ l its c, v = .ref l ∧ news' = (l, W.listOf (intL its).toArray c) :: (lo, W.listOf (intL os).toArray n) :: (ln, W.listOf (intL ns).toArray n2) :: rest ∧ its.map (·.1) = (List.range 7).map (wsh num ov) ∧ ∀ p ∈ (lo, W.listOf (intL os).toArray n) :: (ln, W.listOf (intL ns).toArray n2) :: rest, p.1 < l) := by
  unfold Ct
  k_fill
  intro loose mean mg mb dp un gd cn cs a ccd cl outer A₀ base h₀ L m s Q E B F X N T hk hdp hu hret
  refine wpAny_call ?_
  k_dflt ktr_enter
  k_steps
  refine Halt.go ?_
  rename_i l' ha l1 hb F5 N5
  k_dflt refine For_invVF F5 (by exact rfl) (by exact rfl) ?_ (by intro _; rfl) (by passes_own)
  k_steps
  refine Halt.go ?_
  rename IsRange _ _ _ _ _ _ _ _ => hR
  rename Fr _ _ _ _ => F6
  rename News _ _ _ _ => N6
  k_dflt refine range_st (σ := List (Int × Tok) × Nat) (n := 6) (fun c => (l', W.listOf (intL c.1).toArray c.2) :: (lo, W.listOf (intL os).toArray n) :: (ln, W.listOf (intL ns).toArray n2) :: rest) (fun _ => []) [Str.ofString "kind", Str.ofString "rights"] (fun i c => c.1.map (·.1) = (List.range (i + 1)).map (wsh num ov)) ([(16384, _)], 0) rfl hR (by decide) (by decide) F6 N6 (fun _ h => nomatch h) ?hJ0 ?_ ?_
  case hJ0 => simp [List.range_succ, wsh]
  · intro I i t d u h tk own hi hJ ho1 ho2 ho3 F₁ N₁
    obtain ⟨its, c⟩ := d
    dsimp only [kstB] at F₁ N₁ hJ
    rw [show (0 : Int) + (i : Int) * 1 = (i : Int) by lia] at F₁
    clear F6 N6
    simp only [List.cons_append, List.nil_append] at N₁
    k_steps
    refine Halt.go ?_
    obtain ⟨tn, htn⟩ : ∃ t, ns[i]? = some ((num i : Int), t) := get_of_map hns hi
    have hlen : its.length = i + 1 := by simpa using congrArg List.length hJ
    k_dflt refine item_getV (vs := intL ns) i (.int (num i) tn) (by k_asm) (by k_mem) rfl (by lia) (by simp [intL, htn]) ?_
    have hnn := hnum i
    k_steps
    refine Halt.go ?_
    k_dflt refine item_getV (vs := intL ns) i (.int (num i) tn) (by k_asm) (by k_mem) rfl (by lia) (by simp [intL, htn]) ?_
    k_steps
    refine Halt.go ?_
    rename News _ _ _ _ => N7
    k_dflt refine in_list_ints (vs := intL os) (ns := os.map (·.1)) ⟨_, (N7 (lo, W.listOf (intL os).toArray n) (by k_mem)).1, rfl, _, rfl⟩ (ints_intL os) ?_
    rw [show ((i : Int) + 1) = ((i + 1 : Nat) : Int) from rfl, any_isd hos]
    obtain ⟨h1a, h1b, h1c⟩ := l1
    have hoff : ∀ p ∈ (lo, W.listOf (intL os).toArray n) :: (ln, W.listOf (intL ns).toArray n2) :: (rest ++ own), p.1 ≠ l' := by
      intro p hp
      rcases List.mem_cons.mp hp with rfl | hp
      · exact Nat.ne_of_lt (ltN h1a)
      · rcases List.mem_cons.mp hp with rfl | hp
        · exact Nat.ne_of_lt (ltN h1b)
        · rcases List.mem_append.mp hp with hp | hp
          · exact Nat.ne_of_lt (kst_ltOf h1c p hp)
          · rw [ho1 p hp]; exact Ne.symm (ho3 _ (.head _))
    cases hd9 : isd ov (i + 1) with
    | true =>
      k_steps
      refine Halt.go ?_
      rename Fr _ _ _ _ => F7
      rename News _ _ _ _ => N7
      have N8 : News _ _ _ ((l', W.listOf (intL its).toArray c) :: (lo, W.listOf (intL os).toArray n) :: (ln, W.listOf (intL ns).toArray n2) :: (rest ++ own)) := fun p hp => N7 p (.tail _ (.tail _ hp))
      k_dflt refine append_ledI F7 N8 hoff (by lia) ?_
      intro h3 z3 hz3 F9 N9
      k_steps
      refine Halt.go ?_
      rename Fr _ _ _ _ => F10
      rename News _ _ _ _ => N10
      refine fs_end (z3, c + 1) F10 N10 (fun p hp => ?_) (fun p hp => .tail _ (.tail _ (.tail _ (List.mem_append.mpr (.inr hp))))) (fun p hp hm => ?_) (fun _ h => nomatch h) (fun z hz _ h3 => ?_) ?_
      · rcases List.mem_cons.mp hp with rfl | hp
        · exact .head _
        · rcases List.mem_cons.mp hp with rfl | hp
          · exact .tail _ (.head _)
          · rcases List.mem_cons.mp hp with rfl | hp
            · exact .tail _ (.tail _ (.head _))
            · exact .tail _ (.tail _ (.tail _ (List.mem_append.mpr (.inl hp))))
      · have e := List.mem_singleton.mp hm
        rcases List.mem_cons.mp hp with rfl | hp
        · exact ho3 _ (.head _) e
        · exact ho3 _ (.tail _ hp) e
      · obtain ⟨g4, g5⟩ := ne_of_not2 h3
        simp only [hz, g4, g5, h3, if_false, Bool.false_eq_true]
      · show z3.map _ = _
        rw [hz3, hJ, List.range_succ (n := i + 1), List.map_append]
        simp [wsh, hd9]
    | false =>
      k_steps
      refine Halt.go ?_
      rename Fr _ _ _ _ => F7
      rename News _ _ _ _ => N7
      have N8 : News _ _ _ ((l', W.listOf (intL its).toArray c) :: (lo, W.listOf (intL os).toArray n) :: (ln, W.listOf (intL ns).toArray n2) :: (rest ++ own)) := fun p hp => N7 p (.tail _ (.tail _ hp))
      k_dflt refine append_ledI F7 N8 hoff (by lia) ?_
      intro h3 z3 hz3 F9 N9
      k_steps
      refine Halt.go ?_
      rename Fr _ _ _ _ => F10
      rename News _ _ _ _ => N10
      refine fs_end (z3, c + 1) F10 N10 (fun p hp => ?_) (fun p hp => .tail _ (.tail _ (.tail _ (List.mem_append.mpr (.inr hp))))) (fun p hp hm => ?_) (fun _ h => nomatch h) (fun z hz _ h3 => ?_) ?_
      · rcases List.mem_cons.mp hp with rfl | hp
        · exact .head _
        · rcases List.mem_cons.mp hp with rfl | hp
          · exact .tail _ (.head _)
          · rcases List.mem_cons.mp hp with rfl | hp
            · exact .tail _ (.tail _ (.head _))
            · exact .tail _ (.tail _ (.tail _ (List.mem_append.mpr (.inl hp))))
      · have e := List.mem_singleton.mp hm
        rcases List.mem_cons.mp hp with rfl | hp
        · exact ho3 _ (.head _) e
        · exact ho3 _ (.tail _ hp) e
      · obtain ⟨g4, g5⟩ := ne_of_not2 h3
        simp only [hz, g4, g5, h3, if_false, Bool.false_eq_true]
      · show z3.map _ = _
        rw [hz3, hJ, List.range_succ (n := i + 1), List.map_append]
        simp [wsh, hd9, kdF, rtF]
  · intro d u h tk hJ F₁ N₁
    obtain ⟨its, c⟩ := d
    dsimp only [kstB] at F₁ N₁ hJ
    obtain ⟨h1a, h1b, h1c⟩ := l1
    k_steps
    refine hret _ _ _ _ ⟨l', its, c, rfl, rfl, hJ, ?_⟩ (by k_asm) (by k_asm)
    intro p hp
    rcases List.mem_cons.mp hp with rfl | hp
    · exact ltN h1a
    · rcases List.mem_cons.mp hp with rfl | hp
      · exact ltN h1b
      · exact kst_ltOf h1c p hp
end
end Mine
end
section
open PySem PySem.W PyProof.Rows
set_option maxRecDepth 100000
set_option maxHeartbeats 8000000
namespace Mine
section
theorem join_c (w : World) (news : List (Addr × Obj)) (x y : Str) (tx ty : Tok) (hlx : x.length ≤ 1000) (hly : y.length ≤ 100) (hx0 : x.length ≠ 0) (hy0 : Txt.startswith y (Str.ofString "/") = false) : Ct w 2 115 [.str x tx, .str y ty] news (fun v news' => (∃ t, v = .str (joinF x y) t) ∧ news' = news) := by
  unfold Ct
  k_fill
  intro loose mean mg mb dp un gd cn cs a ccd cl outer A₀ base h₀ L m s Q E B F X N T hk hdp hu hret
  refine wpAny_call ?_
  k_dflt (refine' kp_rest ?k1 ?k2 ?k3 ?k4 ?k5 ?kA ?kF ?kK ?k6 ?k7 ?k8 ?kV ?kP ?kG ?kB ?_ ?c2 ?c3 ?c4 ?c5; (case kA => exact rfl); (case kF => exact rfl); (case kK => assumption); (case k1 => k_asm); (case k2 => k_asm); (case k3 => k_asm); (case k4 => k_asm); (case k5 => k_asm); (case k6 => k_is); (case k7 => k_is); (case k8 => ktr_room); (case kV => kl_lit); (case kP => exact rfl); (case kG => exact fun _ => rfl); (case kB => exact fun _ => locs rfl); (case c5 => decide); (case c2 => exact rfl); (case c3 => exact rfl); (case c4 => exact rfl); k_whole; intro D' g' L' h' l1 FG' F' N' B' X' T'; (try k_lt l1); (try dsimp only); (try k_fold))
  k_steps
  refine Halt.go ?_
  k_dflt refine fspath_c w _ x _ _ _ _ _ _ _ _ _ _ _ _ _ _ _ _ _ _ _ _ _ _ (by k_asm) (by k_asm) (by k_asm) (by k_asm) (by k_asm) rfl (by ktr_room) (by ktr_units) ?_
  intro v news' h2 tk2 hpost F2 N2
  obtain ⟨rfl, rfl⟩ := hpost
  k_steps
  refine Halt.go ?_
  k_dflt refine getsep_c w _ x _ _ _ _ _ _ _ _ _ _ _ _ _ _ _ _ _ _ _ _ _ _ (by k_asm) (by k_asm) (by k_asm) (by k_asm) (by k_asm) rfl (by ktr_room) (by ktr_units) ?_
  intro v news' h2 tk2 hpost F2 N2
  obtain ⟨⟨t, rfl⟩, rfl⟩ := hpost
  k_steps
  refine Halt.go ?_
  rename Fr _ _ _ _ => F5
  rename News _ _ _ _ => N5
  k_dflt refine For_invVF F5 (by exact rfl) (by exact rfl) ?_ (by intro _; rfl) (by passes_own)
  k_steps
  refine Halt.go ?_
  have hT := (N5 _ (.head _))
  k_dflt refine tup_st (σ := Str × Tok) (vs := [.str y ty]) (fun _ => news) (fun c => [(Str.ofString "path", .str c.1 c.2)]) [] (fun i c => (i = 0 → c.1 = x) ∧ (i = 1 → c.1 = joinF x y)) (x, tx) rfl ⟨_, hT.1, rfl, _, rfl⟩ hT.2.1 F5 (fun p hp => N5 p (.tail _ hp)) (by kst_all) ⟨fun _ => rfl, fun h => nomatch h⟩ ?_ ?_
  · intro I i v d u h tk own hv hJ ho1 ho2 ho3 hl F₁ N₁
    obtain rfl : i = 0 := by
      cases i with
      | zero => rfl
      | succ i => simp at hv
    obtain rfl : Value.str y ty = v := by simpa using hv
    obtain ⟨xd, td⟩ := d
    obtain rfl : xd = x := hJ.1 rfl
    dsimp only [kstB] at F₁
    clear F5 N5
    k_steps
    refine Halt.go ?_
    k_dflt refine fspath_c w _ y _ _ _ _ _ _ _ _ _ _ _ _ _ _ _ _ _ _ _ _ _ _ (by k_asm) (by k_asm) (by k_asm) (by k_asm) (by k_asm) rfl (by ktr_room) (by ktr_units) ?_
    intro v news' h2 tk2 hpost F2 N2
    obtain ⟨rfl, rfl⟩ := hpost
    k_steps
    rotate_left 2
    · exact absurd (Int.ofNat.inj (by assumption)) hx0
    · rename Fr _ _ _ _ => F5
      rename News _ _ _ _ => N5
      k_dflt refine fs_end (xd ++ y, ?ta1) F5 N5 (fun p hp => List.mem_append.mpr (.inl hp)) (fun p hp => List.mem_append.mpr (.inr hp)) (fun p hp hm => ho3 p hp (List.mem_singleton.mp hm)) (fun q hq => ?hk1) ?hr1 ⟨fun h => (nomatch h), fun _ => ?hj1⟩
      case hk1 => rw [List.mem_singleton.mp hq]; exact rfl
      case hr1 =>
        intro z hz h2 _
        have h2 := h2 _ (.head _)
        simp [hz, h2]
      case hj1 => exact (if_pos (by assumption)).symm
    · rename Fr _ _ _ _ => F5
      rename News _ _ _ _ => N5
      k_dflt refine fs_end (xd ++ (Str.ofString "/" ++ y), ?ta2) F5 N5 (fun p hp => List.mem_append.mpr (.inl hp)) (fun p hp => List.mem_append.mpr (.inr hp)) (fun p hp hm => ho3 p hp (List.mem_singleton.mp hm)) (fun q hq => ?hk2) ?hr2 ⟨fun h => (nomatch h), fun _ => ?hj2⟩
      case hk2 => rw [List.mem_singleton.mp hq]; exact rfl
      case hr2 =>
        intro z hz h2 _
        have h2 := h2 _ (.head _)
        simp [hz, h2]
      case hj2 => exact (if_neg (by rename Txt.endswith _ _ = false => he; rw [he]; exact Bool.false_ne_true)).symm
  · intro d u h tk hJ F₁ N₁
    obtain ⟨xd, td⟩ := d
    obtain rfl : xd = joinF x y := hJ.2 rfl
    dsimp only [kstB] at F₁
    clear F5 N5
    k_steps
    exact hret _ _ _ _ ⟨⟨_, rfl⟩, rfl⟩ (by k_asm) (by k_asm)
end
end Mine
end
section
open PySem PySem.W PyProof.Rows PySem.Calls
set_option maxRecDepth 100000
set_option maxHeartbeats 8000000
namespace Mine
theorem item_names {prog : Program} {w : World} {A : Around} {E : Value → Shared → Prop} {s : Shared} {h₀ : Heap} {L : Addr} {news : List (Addr × Obj)} {value slice : Expr} {a : Addr} {u : Tok} {i : Nat} {t0 t1 t2 t3 t4 t5 : Tok} {Q : Value → Shared → Prop} (N : News h₀ L s.heap news)
    (hm : (a, ({ cls := .type "tuple", data := .seq #[.str (Str.ofString "b") t0, .str (Str.ofString "a") t1, .str (Str.ofString "c") t2, .str (Str.ofString "a-") t3, .str (Str.ofString "ab") t4, .str (Str.ofString "a.") t5] } : Obj)) ∈ news) (hi : i < 6) (h : ∀ t, Q (.str (nm i) t) s)
    (hs : subscripted slice false (.ref a) (.int i u) = operate [.ref a, .int i u] (getItem (.ref a) (.int i u)) := by with_unfolding_all rfl) (hg : ∀ r, letTemporaryGo value (.ref a) r = pure () := by intro _; with_unfolding_all rfl) :
    wpAny (model prog w) A (subscriptTail value slice (.ref a) (.int i u)) Q E s := by
  obtain ⟨t, ht⟩ : ∃ t, ([.str (Str.ofString "b") t0, .str (Str.ofString "a") t1, .str (Str.ofString "c") t2, .str (Str.ofString "a-") t3, .str (Str.ofString "ab") t4, .str (Str.ofString "a.") t5] : List Value)[i]? = some (.str (nm i) t) := by
    match i, hi with
    | 0, _ => exact ⟨_, rfl⟩
    | 1, _ => exact ⟨_, rfl⟩
    | 2, _ => exact ⟨_, rfl⟩
    | 3, _ => exact ⟨_, rfl⟩
    | 4, _ => exact ⟨_, rfl⟩
    | 5, _ => exact ⟨_, rfl⟩
  exact item_getT (vs := [.str (Str.ofString "b") t0, .str (Str.ofString "a") t1, .str (Str.ofString "c") t2, .str (Str.ofString "a-") t3, .str (Str.ofString "ab") t4, .str (Str.ofString "a.") t5]) i _ N hm rfl rfl rfl (by lia) ht (h t) hs hg
theorem pth_facts (ov : Nat → Nat) {j : Nat} (h : j ≤ 6) : (pth ov j).length ≤ 20 ∧ (pth ov j).length ≠ 0 ∧ (Txt.split (pth ov j) (Str.ofString "/")).length ≤ 8 ∧ Txt.startswith (pth ov j) (Str.ofString "/") = true := sub_facts _ (cmp_in ov h)
section
theorem lawpaths_c (w : World) (rest : List (Addr × Obj)) (lo n : Nat) (os : List (Int × Tok)) (ov : Nat → Nat) (hos : ∀ k, k < 6 → ∃ t, os[k]? = some ((ov k : Int), t)) (hov : ∀ k, k < 6 → ov k ≤ k) :
    Ct w 3 263 [.ref lo] ((lo, W.listOf (intL os).toArray n) :: rest) (fun v news' => ∃ l its c, v = .ref l ∧ news' = (l, W.listOf (strL its).toArray c) :: (lo, W.listOf (intL os).toArray n) :: rest ∧ its.map (·.1) = (List.range 7).map (pth ov) ∧ ∀ p ∈ (lo, W.listOf (intL os).toArray n) :: rest, p.1 < l) := by
  unfold Ct
  k_fill
  intro loose mean mg mb dp un gd cn cs a ccd cl outer A₀ base h₀ L m s Q E B F X N T hk hdp hu hret
  refine wpAny_call ?_
  k_dflt ktr_enter
  k_steps
  refine Halt.go ?_
  rename_i l' ha l1 hb F5 N5
  k_dflt refine For_invVF F5 (by exact rfl) (by exact rfl) ?_ (by intro _; rfl) (by passes_own)
  k_steps
  refine Halt.go ?_
  rename IsRange _ _ _ _ _ _ _ _ => hR
  rename Fr _ _ _ _ => F6
  rename News _ _ _ _ => N6
  k_dflt refine range_st (σ := List (Str × Tok) × Nat) (n := 6) (fun c => (l', W.listOf (strL c.1).toArray c.2) :: (lo, W.listOf (intL os).toArray n) :: rest) (fun _ => []) [] (fun i c => c.1.map (·.1) = (List.range (i + 1)).map (pth ov)) ([(Str.ofString "/", _)], 0) rfl hR (by decide) (by decide) F6 N6 (fun _ h => nomatch h) ?hJ0 ?_ ?_
  case hJ0 => simp [List.range_succ, pth_zero]
  · intro I i t d u h tk own hi hJ ho1 ho2 ho3 F₁ N₁
    obtain ⟨its, c⟩ := d
    dsimp only [kstB] at F₁ N₁ hJ
    rw [show (0 : Int) + (i : Int) * 1 = (i : Int) by lia] at F₁
    clear F6 N6
    simp only [List.cons_append, List.nil_append] at N₁
    k_steps
    refine Halt.go ?_
    obtain ⟨to, hto⟩ := hos i hi
    have hlen : its.length = i + 1 := by simpa using congrArg List.length hJ
    obtain ⟨⟨px, tp⟩, hpx⟩ : ∃ p, its[ov i]? = some p := ⟨_, List.getElem?_eq_getElem (by have := hov i hi; lia)⟩
    have hpe : px = pth ov (prn ov i) := by
      have e1 : (its.map (·.1))[ov i]? = some px := by rw [List.getElem?_map, hpx]; rfl
      rw [hJ, List.getElem?_map, List.getElem?_range (by have := hov i hi; lia)] at e1
      rw [show prn ov i = ov i from Nat.min_eq_left (hov i hi)]
      exact (Option.some.inj e1).symm
    k_dflt refine item_getV (vs := intL os) i (.int (ov i) to) (by k_asm) (.tail _ (.head _)) rfl (by lia) (by simp [intL, hto]) ?_
    k_steps
    refine Halt.go ?_
    k_dflt refine item_getV (vs := strL its) (ov i) (.str px tp) (by k_asm) (.head _) rfl (by have := hov i hi; lia) (by simp [strL, hpx]) ?_
    k_steps
    refine Halt.go ?_
    k_dflt refine item_names (by k_asm) (.head _) hi ?_
    intro tm
    k_steps
    refine Halt.go ?_
    have pf := pth_facts ov (j := prn ov i) (by have := prn_le ov i; lia)
    have nf := nm_facts i (List.mem_range.mpr hi)
    subst hpe
    k_dflt refine join_c w _ _ (nm i) _ _ (by lia) (by lia) pf.2.1 nf.2.2.1 _ _ _ _ _ _ _ _ _ _ _ _ _ _ _ _ _ _ _ _ _ (by k_asm) (by k_asm) (by k_asm) (by k_asm) (by k_asm) rfl (by ktr_room) (by ktr_units) ?_
    intro v news' h2 tk2 hpost F2 N2
    obtain ⟨⟨tj, rfl⟩, rfl⟩ := hpost
    rw [← pth_succ ov hi]
    k_steps
    refine Halt.go ?_
    rename Fr _ _ _ _ => F7
    rename News _ _ _ _ => N7
    have N8 : News _ _ _ ((l', W.listOf (strL its).toArray c) :: (lo, W.listOf (intL os).toArray n) :: (rest ++ own)) := fun p hp => N7 p (.tail _ hp)
    obtain ⟨h1a, h1b⟩ := l1
    k_dflt refine append_led F7 N8 ?hoff (by lia) ?_
    case hoff =>
      intro p hp
      rcases List.mem_cons.mp hp with rfl | hp
      · exact Nat.ne_of_lt (ltN h1a)
      · rcases List.mem_append.mp hp with hp | hp
        · exact Nat.ne_of_lt (kst_ltOf h1b p hp)
        · rw [ho1 p hp]; exact Ne.symm (ho3 _ (.head _))
    intro h3 F9 N9
    k_steps
    refine Halt.go ?_
    rename Fr _ _ _ _ => F10
    rename News _ _ _ _ => N10
    refine fs_end (its ++ [(pth ov (i + 1), tj)], c + 1) F10 N10 (fun p hp => ?_) (fun p hp => .tail _ (.tail _ (List.mem_append.mpr (.inr hp)))) (fun p hp hm => ?_) (fun _ h => nomatch h) (fun z hz _ _ => by simp [hz]) ?_
    · rcases List.mem_cons.mp hp with rfl | hp
      · exact .head _
      · rcases List.mem_cons.mp hp with rfl | hp
        · exact .tail _ (.head _)
        · exact .tail _ (.tail _ (List.mem_append.mpr (.inl hp)))
    · have e := List.mem_singleton.mp hm
      rcases List.mem_cons.mp hp with rfl | hp
      · exact ho3 _ (.head _) e
      · exact ho3 _ (.tail _ hp) e
    · show (its ++ _).map _ = _
      rw [List.map_append, hJ, List.range_succ (n := i + 1), List.map_append]
      rfl
  · intro d u h tk hJ F₁ N₁
    obtain ⟨its, c⟩ := d
    dsimp only [kstB] at F₁ N₁ hJ
    obtain ⟨h1a, h1b⟩ := l1
    k_steps
    refine hret _ _ _ _ ⟨l', its, c, rfl, rfl, hJ, ?_⟩ (by k_asm) (by k_asm)
    intro p hp
    rcases List.mem_cons.mp hp with rfl | hp
    · exact ltN h1a
    · exact kst_ltOf h1b p hp
end
end Mine
end
end

section
open PySem PySem.W PyProof.Rows PyProof.Rows.LCg PyProof.Rows.LCt PySem.Calls
set_option maxRecDepth 100000
set_option maxHeartbeats 8000000
namespace Mine
noncomputable def AllOut (a b : Nat) (l : List (Addr × Obj)) : Prop := ∀ p ∈ l, @LT.lt Nat _ p.1 a ∨ @LT.lt Nat _ b p.1
theorem ne_out {a b : Nat} {x : Addr} {l : List (Addr × Obj)} (h : AllOut a b l) (h1 : @LE.le Nat _ a x) (h2 : @LE.le Nat _ x b) : ∀ p ∈ l, p.1 ≠ x := fun p hp e => by
  rcases h p hp with h | h
  · exact Nat.ne_of_lt (Nat.lt_of_lt_of_le h h1) e
  · exact Nat.ne_of_gt (Nat.lt_of_le_of_lt h2 h) e
/-- a made list of ints: where it lies, its items -/
noncomputable abbrev CE := Addr × List (Int × Tok) × Nat
noncomputable def ent (e : CE) : Addr × Obj := (e.1, W.listOf (intL e.2.1).toArray e.2.2)
noncomputable def refs (c : List CE) : List Value := c.map fun e => .ref e.1
/-- the colours: none, and the three rights -/
noncomputable def clr (c : Nat) : Int := [0, 420, 2541, 928].getD c 0
theorem news_swap {h₀ h : Heap} {L : Addr} {a b : Addr × Obj} {t : List (Addr × Obj)} (N : News h₀ L h (a :: b :: t)) : News h₀ L h (b :: a :: t) := news_sub N (fa (ix 1 rfl) (fa (ix 0 rfl) fun _ h => dr 2 h))
theorem out_of {a b : Addr} (h0 : b ≠ a) (h5 : @Ne Nat (a + 1 + 1 + 1 + 1 + 1) b) (h4 : @Ne Nat (a + 1 + 1 + 1 + 1) b) (h3 : @Ne Nat (a + 1 + 1 + 1) b) (h2 : @Ne Nat (a + 1 + 1) b) (h1 : @Ne Nat (a + 1) b) : @LT.lt Nat _ b a ∨ @LT.lt Nat _ (a + 5) b := by
  have h0 : @Ne Nat b a := h0
  lia
theorem clr_get {a b c d : Tok} {j : Nat} {v : Value} (h : (#[Value.int 0 a, .int 420 b, .int 2541 c, .int 928 d] : Array Value)[j]? = some v) : ∃ t, v = .int (clr j) t := by
  match j, h with
  | 0, h => cases h; exact ⟨_, rfl⟩
  | 1, h => cases h; exact ⟨_, rfl⟩
  | 2, h => cases h; exact ⟨_, rfl⟩
  | 3, h => cases h; exact ⟨_, rfl⟩
  | _ + 4, h => simp at h
theorem news_swap3 {h₀ h : Heap} {L : Addr} {a x b : Addr × Obj} {t : List (Addr × Obj)} (N : News h₀ L h (a :: x :: b :: t)) : News h₀ L h (b :: a :: t) := news_sub N (fa (ix 2 rfl) (fa (ix 0 rfl) fun _ h => dr 3 h))
theorem intL_snoc (its : List (Int × Tok)) (x : Int) (t : Tok) : intL its ++ [.int x t] = intL (its ++ [(x, t)]) := by simp [intL]
theorem off1_mem {D : Addr} : ∀ {l : List (Addr × Obj)}, Off1 D l → ∀ p ∈ l, p.1 ≠ D
  | [], _, _, hp => nomatch hp
  | q :: r, h, p, hp => by
    rcases List.mem_cons.mp hp with rfl | hp
    · exact h.1
    · exact off1_mem h.2 p hp
noncomputable def mn4 (H : Nat → Int) : Int := min (min (H 0) (H 1)) (min (H 2) (H 3))
theorem mn4_le (H : Nat → Int) : mn4 H ≤ H 0 ∧ mn4 H ≤ H 1 ∧ mn4 H ≤ H 2 ∧ mn4 H ≤ H 3 :=
  ⟨Int.le_trans (Int.min_le_left _ _) (Int.min_le_left _ _), Int.le_trans (Int.min_le_left _ _) (Int.min_le_right _ _), Int.le_trans (Int.min_le_right _ _) (Int.min_le_left _ _), Int.le_trans (Int.min_le_right _ _) (Int.min_le_right _ _)⟩
theorem le_mn4 {H : Nat → Int} {x : Int} (h : ∀ c, c < 4 → x ≤ H c) : x ≤ mn4 H :=
  Int.le_min.mpr ⟨Int.le_min.mpr ⟨h 0 (by decide), h 1 (by decide)⟩, Int.le_min.mpr ⟨h 2 (by decide), h 3 (by decide)⟩⟩
theorem mn4_eq {H : Nat → Int} {M : Int} (h1 : M ∈ (List.range 4).map H) (h2 : ∀ a ∈ (List.range 4).map H, M ≤ a) : M = mn4 H := by
  refine Int.le_antisymm (le_mn4 fun c hc => h2 _ (List.mem_map_of_mem (List.mem_range.mpr hc))) ?_
  obtain ⟨c, hc, rfl⟩ := List.mem_map.mp h1
  obtain ⟨a, b, d, e⟩ := mn4_le H
  exact match c, List.mem_range.mp hc with
  | 0, _ => a
  | 1, _ => b
  | 2, _ => d
  | 3, _ => e
/-- the costs, after i turns -/
noncomputable def leafC (num ov : Nat → Nat) (p : Nat) (C : Nat → Nat → Int) : Nat → Nat → Int := if isd ov p then C else fun q c => if q = p then (if (wsh num ov p).fmod 4096 = clr c then 0 else 99) else C q c
noncomputable def pushC (ov : Nat → Nat) (p : Nat) (C : Nat → Nat → Int) : Nat → Nat → Int := fun q c => if q = ov (p - 1) then C q c + min (C p c) (mn4 (C p) + 1) else C q c
noncomputable def CC (num ov : Nat → Nat) : Nat → Nat → Nat → Int
  | 0 => fun _ _ => 0
  | i + 1 => pushC ov (6 - i) (leafC num ov (6 - i) (CC num ov i))
noncomputable def fewF (num ov : Nat → Nat) : Int := min (CC num ov 6 0 0) (mn4 (CC num ov 6 0) + 1)
noncomputable abbrev FS := List CE × Nat × Obj × Obj × Obj × Obj
section
local macro_rules | `(tactic| walk_at $k:str) => if ["call ref", "exec For Name Call cons nil", "pyIter ref", "eval ListComp", "exec If", "MidPost", "NxPost", "NxEnd", "compareOp NotIn int ref", "subscriptTail Name Name ref int", "subscriptTail Name Constant ref int", "subscriptTail Subscript Constant ref int", "subscriptTail Name BinOp ref int", "subscriptTail Subscript Name ref int", "setItem ref int ref", "call builtin:min", "CompEnd"].contains k.getString then `(tactic| refine Mine.halt ?_) else Lean.Macro.throwUnsupported
local macro_rules | `(tactic| walk_at "exec Assign cons ListComp") => `(tactic| ((with_reducible refine wpAny_Assign_Subscript ?_ ?_); rotate_left; with_unfolding_all rfl))
local macro_rules | `(tactic| k_ne) => `(tactic| (refine neN ?_; (try dsimp only); first | assumption | exact Ne.symm (by assumption) | omega))
local macro_rules | `(tactic| k_all) => `(tactic| first | exact ne_tail (by assumption) (by lia) | exact ne_out (by assumption) (by lia) (by lia))
theorem lawfewest_c (w : World) (rest : List (Addr × Obj)) (lw lo n n2 : Nat) (ws os : List (Int × Tok)) (num ov : Nat → Nat) (hws : ws.map (·.1) = (List.range 7).map (wsh num ov)) (hos : os.map (·.1) = (List.range 6).map fun k => (ov k : Int)) (hov : ∀ k, k < 6 → ov k ≤ k) :
    Ct w 2 278 [.ref lo, .ref lw] ((lw, W.listOf (intL ws).toArray n) :: (lo, W.listOf (intL os).toArray n2) :: rest) (fun v news' => (∃ t, v = .int (fewF num ov) t) ∧ news' = (lw, W.listOf (intL ws).toArray n) :: (lo, W.listOf (intL os).toArray n2) :: rest) := by
  unfold Ct
  k_fill
  intro loose mean mg mb dp un gd cn cs a ccd cl outer A₀ base h₀ L m s Q E B F X N T hk hdp hu hret
  refine wpAny_call ?_
  k_dflt (refine' code_defC ?k1 ?k2 ?k3 ?k4 ?k5 ?kA ?kF ?kK ?k6 ?k7 ?k8 ?k9 ?kB ?kD ?_ ?c2 ?c3 ?c4; (case kA => exact rfl); (case kF => exact rfl); (case kK => assumption); (case k1 => k_asm); (case k2 => k_asm); (case k3 => k_asm); (case k4 => k_asm); (case k5 => k_asm); (case k6 => k_is); (case k7 => k_is); (case k8 => ktr_room); (case k9 => exact BindsTo.of_eq rfl); (case kB => exact rfl); (case kD => decide +kernel); (case c2 => exact rfl); (case c3 => exact rfl); (case c4 => exact rfl); k_whole; intro g' L' h' tk' cells' FG' F' N' Y' B' X' T' l1; (try k_lt l1); k_cells Y'; (try simp only [List.cons_append, List.nil_append] at N'); (try dsimp only); (try k_fold))
  rename_i q1 q2 q3 q4 q5 z1 z2 z3 z4 z5
  k_steps
  refine Halt.go ?_
  rename Fr _ _ _ _ => F5
  rename News _ _ _ _ => N5
  k_dflt refine ListComp_W F5 (by with_unfolding_all rfl) (by decide) (by rfl) (by decide) (by rfl) ?_
  k_steps
  rename IsRange _ _ _ _ _ _ _ _ => hR
  rename Fr _ _ _ _ => F6
  rename News _ _ _ _ => N6
  k_dflt refine SrcW.range (n := 7) rfl F6 N6 hR (by decide) (by decide) (by decide) ?_
  intro g2
  obtain ⟨l1a, l1b, l1c⟩ := l1
  refine CompRest.invQ (fun i ys post => ∃ c : List CE, c.length = i ∧ ys = refs c ∧ post = c.map ent ∧ (∀ e ∈ c, e.2.1.map (·.1) = [0, 0, 0, 0]) ∧ AllOut L' (L' + 5) (rest ++ post)) ⟨[], rfl, rfl, rfl, (fun _ h => nomatch h), fun p hp => ?out0⟩ ?_ ?_
  case out0 => exact .inl (kst_ltOf l1c p (by simpa using hp))
  · intro i ys post v Ia oIa Ca oCa Da ma ha tka Ea hi hJ hP hCa hxa Fa Na offa nea
    obtain ⟨c, hc1, rfl, rfl, hc2, hc3⟩ := hJ
    simp only [List.cons_append, List.nil_append] at Na
    k_steps
    refine Halt.go ?_
    rename_i l9 hy9 F9 N9 l19
    have hlc : @LT.lt Nat _ (L' + 5) l9 := ltN l19.2.2.2.1
    refine compQ_push F9 (by exact N9) (by exact kst_ltOf l19) offa ⟨c ++ [(l9, [(0, _), (0, _), (0, _), (0, _)], 0)], by simp [hc1], by simp [refs], by rw [List.map_append]; rfl, ?_, ?_⟩
    · intro e he
      rcases List.mem_append.mp he with he | he
      · exact hc2 e he
      · rw [List.mem_singleton.mp he]; rfl
    · intro p hp
      rw [← List.append_assoc] at hp
      rcases List.mem_append.mp hp with hp | hp
      · exact hc3 p hp
      · rw [List.mem_singleton.mp hp]
        exact .inr hlc
  · intro ys post hJ
    obtain ⟨c, hc1, rfl, rfl, hc2, hc3⟩ := hJ
    intro D hb tkb Fb Nb o1
    simp only [List.cons_append, List.nil_append] at Nb o1
    obtain ⟨e1, e2, e3, e4, e5, e6, e7, e8⟩ := o1
    k_steps
    refine Halt.go ?_
    rename_i oc Fx Nx dC
    k_dflt refine For_invTF Fx ?_ (by intro _; rfl) (by passes_own)
    k_steps
    refine Halt.go ?_
    clear hR
    rename IsRange _ _ _ _ _ _ _ _ => hR
    rename Fr _ _ _ _ => F8
    rename News _ _ _ _ => N8
    have zw : q5.data = Data.cell (some (.ref lw)) := z5
    have z4 : ∃ x, q4.data = Data.cell x := ⟨_, z4⟩
    have z2 : ∃ x, q2.data = Data.cell x := ⟨_, z2⟩
    have z1 : ∃ x, q1.data = Data.cell x := ⟨_, z1⟩
    clear z3 z5
    k_dflt refine range_any (σ := FS) (n := 6) (fun c => (D, W.listOf (refs c.1).toArray c.2.1) :: (L' + 1 + 1 + 1 + 1 + 1, c.2.2.1) :: (L' + 1 + 1 + 1 + 1, c.2.2.2.1) :: (L' + 1 + 1 + 1, c.2.2.2.2.1) :: (L' + 1 + 1, c.2.2.2.2.2) :: (L' + 1, q5) :: (lw, W.listOf (intL ws).toArray n) :: (lo, W.listOf (intL os).toArray n2) :: (rest ++ c.1.map ent)) []
      (fun i c => c.1.length = 7 ∧ (∀ q e, c.1[q]? = some e → e.2.1.map (·.1) = (List.range 4).map (CC num ov i q)) ∧ AllOut L' (L' + 5) (rest ++ c.1.map ent) ∧ (∀ p ∈ rest ++ c.1.map ent, p.1 ≠ D) ∧ (∃ x, c.2.2.1.data = Data.cell x) ∧ (∃ x, c.2.2.2.1.data = Data.cell x) ∧ c.2.2.2.2.1.data = Data.cell (some (.ref D)) ∧ (∃ x, c.2.2.2.2.2.data = Data.cell x))
      (c, (refs c).length, q1, q2, oc, q4) rfl hR (by decide) (by decide) F8 (by exact N8) ⟨hc1, ?hj2, hc3, ?hj4, z1, z2, dC, z4⟩ ?hgo ?_ ?_
    case hj2 =>
      intro q e he
      rw [hc2 e (List.mem_of_getElem? he)]
      rfl
    case hj4 => exact off1_mem e8
    case hgo =>
      intro it v s' Q' hq
      exact wpAny_of_eq (a := ()) rfl hq
    · intro I i t d u s₁ own hi hJ hI ho1 hIo ho3 F₁ N₁
      obtain ⟨cl1, k1, oV, oH, oC, oP⟩ := d
      dsimp only at hJ ho3 N₁
      obtain ⟨j1, j2, j3, j4, ⟨xV, dV⟩, ⟨xH, dH⟩, dC1, ⟨xP, dP⟩⟩ := hJ
      rw [show (6 : Int) + (i : Int) * (-1) = ((6 - i : Nat) : Int) by lia]
      obtain ⟨p, hp⟩ : ∃ p, p = 6 - i := ⟨_, rfl⟩
      rw [← hp]
      have hI5 : @LT.lt Nat _ (L' + 5) I := hI _ (.tail _ (.head _))
      have hoI : ∀ q ∈ own, q.1 ≠ D := fun q hq => by
        rw [ho1 q hq]
        exact Ne.symm (Nat.ne_of_lt (hI _ (.head _)))
      have hoU : ∀ q ∈ own, @LT.lt Nat _ q.1 L' ∨ @LT.lt Nat _ (L' + 5) q.1 := fun q hq => by
        rw [ho1 q hq]
        exact .inr hI5
      have j3' : AllOut L' (L' + 5) (rest ++ cl1.map ent ++ own) := fa_app j3 hoU
      simp only [List.cons_append] at N₁
      clear F8 N8
      k_steps
      rename_i oP2 Fp Np dP2
      refine Halt.go ?_
      refine merge (σ := List CE) Fp (fun c2 => (D, W.listOf (refs c2).toArray k1) :: (L' + 1 + 1 + 1 + 1 + 1, oV) :: (L' + 1 + 1 + 1 + 1, oH) :: (L' + 1 + 1 + 1, oC) :: (L' + 1 + 1, oP2) :: (L' + 1, q5) :: (lw, W.listOf (intL ws).toArray n) :: (lo, W.listOf (intL os).toArray n2) :: (rest ++ c2.map ent ++ own))
        (fun c2 => c2.length = 7 ∧ (∀ q e, c2[q]? = some e → e.2.1.map (·.1) = (List.range 4).map (leafC num ov p (CC num ov i) q)) ∧ AllOut L' (L' + 5) (rest ++ c2.map ent) ∧ (∀ q ∈ rest ++ c2.map ent, q.1 ≠ D ∧ q.1 ≠ I)) ?_ ?_
      · have hpI : ∀ q ∈ rest ++ cl1.map ent, q.1 ≠ D ∧ q.1 ≠ I := fun q hq => ⟨j4 q hq, ho3 q (.tail _ (.tail _ (.tail _ (.tail _ (.tail _ (.tail _ (.tail _ (.tail _ hq))))))))⟩
        -- walk the if itself
        refine wpAny_If ?_
        k_steps
        refine Halt.go ?_
        rename News _ _ _ _ => N7
        k_dflt refine notin_list_ints (vs := intL os) (ns := os.map (·.1)) ⟨_, (N7 (lo, W.listOf (intL os).toArray n2) (by k_mem)).1, rfl, _, rfl⟩ (ints_intL os) ?_
        rw [any_isd hos]
        cases hd9 : isd ov p with
        | true =>
          k_steps
          refine Halt.go ?_
          rename Fr _ _ _ _ => F8
          rename News _ _ _ _ => N8
          refine mid_end cl1 F8 N8 ⟨j1, fun q e he => ?_, j3, hpI⟩
          rw [j2 q e he]
          simp [leafC, hd9]
        | false =>
          k_steps
          refine Halt.go ?_
          rename Fr _ _ _ _ => F8
          rename News _ _ _ _ => N8
          obtain ⟨tw, htw⟩ : ∃ t, ws[p]? = some (wsh num ov p, t) := get_of_map hws (by lia)
          k_dflt refine ListComp_W F8 (by with_unfolding_all rfl) (by decide) (by rfl) (by decide) (by rfl) ?_
          k_steps
          rename Fr _ _ _ _ => F9
          rename News _ _ _ _ => N9
          k_dflt refine SrcW.tuple rfl F9 N9 (.inr ⟨_, .head _, rfl, _, rfl⟩) (by simp [sizeLine]) ?_
          intro g6
          refine CompRest.invF (fun j ys => ∃ its : List (Int × Tok), ys = intL its ∧ its.map (·.1) = (List.range j).map fun c => if (wsh num ov p).fmod 4096 = clr c then 0 else 99) ⟨[], rfl, rfl⟩ ?_ ?_
          · intro j ys v Ia oIa Ca oCa Da ma hb tkb Eb hj4 hJb hP hCa hxa Fa Na offa nea
            obtain ⟨its, rfl, hits⟩ := hJb
            obtain ⟨tv, rfl⟩ := clr_get hP
            k_steps
            refine Halt.go ?_
            k_dflt refine item_getV (vs := intL ws) p (.int (wsh num ov p) tw) (by k_asm) (by k_mem) rfl (by lia) (by simp [intL, htw]) ?_
            k_steps
            · refine Halt.go ?_
              rename Fr _ _ _ _ => F36
              rename News _ _ _ _ => N36
              rename _ = clr j => hcj
              refine comp_same F36 N36 offa (.inr ⟨_, .head _, rfl, _, rfl⟩) ⟨rfl, _, intL_snoc _ _ _, ?_⟩
              rw [List.map_append, hits, List.range_succ, List.map_append]
              simp [hcj]
            · refine Halt.go ?_
              rename Fr _ _ _ _ => F36
              rename News _ _ _ _ => N36
              rename _ ≠ clr j => hcj
              refine comp_same F36 N36 offa (.inr ⟨_, .head _, rfl, _, rfl⟩) ⟨rfl, _, intL_snoc _ _ _, ?_⟩
              rw [List.map_append, hits, List.range_succ, List.map_append]
              simp [hcj]
          · intro ys hJb
            obtain ⟨its, rfl, hits⟩ := hJb
            intro D2 hb tkb Fb Nb o1b
            k_steps
            refine Halt.go ?_
            rename Fr _ _ _ _ => F40
            rename News _ _ _ _ => N40
            have hoffD : ∀ q ∈ (D2, lst (intL its)) :: (L' + 1 + 1 + 1 + 1 + 1, oV) :: (L' + 1 + 1 + 1 + 1, oH) :: (L' + 1 + 1 + 1, oC) :: (L' + 1 + 1, oP2) :: (L' + 1, q5) :: (lw, W.listOf (intL ws).toArray n) :: (lo, W.listOf (intL os).toArray n2) :: (rest ++ cl1.map ent ++ own), q.1 ≠ D := by
              exact fa (Ne.symm o1b.2.1) (fa e1 (fa e2 (fa e3 (fa e4 (fa e5 (fa e6 (fa e7 (fa_app j4 hoI))))))))
            k_dflt refine set_ledV (vs := refs cl1) p F40 (news_swap3 N40) hoffD rfl (by lia) (by simp [refs]; lia) ?_
            intro hz F41 N41
            k_steps
            refine Halt.go ?_
            rename Fr _ _ _ _ => F42
            rename News _ _ _ _ => N42
            obtain ⟨oI9, hoI9⟩ := hIo
            have hD2I : @Ne Nat D2 I := Ne.symm (off1_mem o1b (I, oI9) (by repeat (first | exact List.mem_append_right _ hoI9 | apply List.mem_cons_of_mem)))
            have hset : ∀ q ∈ rest ++ (cl1.set p (D2, its, (intL its).length)).map ent, q = (D2, lst (intL its)) ∨ q ∈ rest ++ cl1.map ent := by
              intro q hq
              rcases List.mem_append.mp hq with hq | hq
              · exact .inr (List.mem_append_left _ hq)
              · obtain ⟨e, he, rfl⟩ := List.mem_map.mp hq
                rcases List.mem_or_eq_of_mem_set he with he | rfl
                · exact .inr (List.mem_append_right _ (List.mem_map_of_mem he))
                · exact .inl rfl
            have hD2 : @LT.lt Nat _ D2 L' ∨ @LT.lt Nat _ (L' + 5) D2 := out_of (N40 _ (.head _)).2.1 (o1b.2.2.1) (o1b.2.2.2.1) (o1b.2.2.2.2.1) (o1b.2.2.2.2.2.1) (o1b.2.2.2.2.2.2.1)
            refine mid_end (cl1.set p (D2, its, (intL its).length)) F42 (news_sub N42 fun q hq => ?_) ⟨by simp [j1], ?_, ?_, ?_⟩
            · have er : refs (cl1.set p (D2, its, (intL its).length)) = (refs cl1).set p (.ref D2) := by simp [refs, List.map_set]
              exact fa (p := fun q => q ∈ _) (by rw [er]; exact .head _) (fa (ix 2 rfl) (fa (ix 3 rfl) (fa (ix 4 rfl) (fa (ix 5 rfl) (fa (ix 6 rfl) (fa (ix 7 rfl) (fa (ix 8 rfl) (fa_app (fun q hq => (hset q hq).elim (fun e => ix 1 (congrArg some e.symm)) (fun h => dr 9 (List.mem_append_left _ h))) (fun q hq => dr 9 (List.mem_append_right _ hq)))))))))) q hq
            · intro q e he
              rw [List.getElem?_set] at he
              by_cases e2 : p = q
              · rw [if_pos e2] at he
                split at he
                · cases he
                  show its.map _ = _
                  rw [hits]
                  subst e2
                  simp [leafC, hd9]
                · cases he
              · rw [if_neg e2] at he
                rw [j2 q e he]
                simp [leafC, hd9, Ne.symm e2]
            · intro q hq
              rcases hset q hq with rfl | hq
              · exact hD2
              · exact j3 q hq
            · intro q hq
              rcases hset q hq with rfl | hq
              · exact ⟨hoffD _ (.head _), hD2I⟩
              · exact hpI q hq
      · intro hq tkq cl2 Fq Nq hq2
        obtain ⟨jj1, jj2, jj3, jj4⟩ := hq2
        have jj3' : AllOut L' (L' + 5) (rest ++ cl2.map ent ++ own) := fa_app jj3 hoU
        clear Fp Np
        k_steps
        -- the second half: here, over, the costs of what lies above
        refine Halt.go ?_
        obtain ⟨ep, hep⟩ : ∃ e, cl2[p]? = some e := ⟨_, List.getElem?_eq_getElem (by lia)⟩
        obtain ⟨eo, heo⟩ : ∃ e, cl2[ov (p - 1)]? = some e := ⟨_, List.getElem?_eq_getElem (by have := hov (p - 1) (by lia); lia)⟩
        obtain ⟨to, hto⟩ : ∃ t, os[p - 1]? = some ((ov (p - 1) : Int), t) := get_of_map hos (by lia)
        k_dflt refine item_getV (vs := refs cl2) p (.ref ep.1) (by k_asm) (by k_mem) rfl (by lia) (by simp [refs, hep]) ?_
        k_steps
        rename_i oH2 FH NH dH2
        refine Halt.go ?_
        k_dflt refine item_getV (vs := intL os) (p - 1) (.int (ov (p - 1)) to) (by k_asm) (by k_mem) (by lia) (by lia) (by simp [intL, hto]) ?_
        k_steps
        rename_i oV2 FV NV dV2
        refine Halt.go ?_
        rename Fr _ _ _ _ => F20
        rename News _ _ _ _ => N20
        k_dflt refine ListComp_W F20 (by with_unfolding_all rfl) (by decide) (by rfl) (by decide) (by rfl) ?_
        k_steps
        clear hR
        rename IsRange _ _ _ _ _ _ _ _ => hR
        rename Fr _ _ _ _ => F21
        rename News _ _ _ _ => N21
        k_dflt refine SrcW.range (n := 4) rfl F21 N21 hR (by decide) (by decide) (by decide) ?_
        intro g5
        refine CompRest.invF (fun j ys => ∃ its : List (Int × Tok), ys = intL its ∧ its.map (·.1) = (List.range j).map fun c => leafC num ov p (CC num ov i) (ov (p - 1)) c + min (leafC num ov p (CC num ov i) p c) (mn4 (leafC num ov p (CC num ov i) p) + 1)) ⟨[], rfl, rfl⟩ ?_ ?_
        · intro j ys v Ia oIa Ca oCa Da ma hb tkb Eb hj4 hJb hP hCa hxa Fa Na offa nea
          obtain ⟨its, rfl, hits⟩ := hJb
          obtain ⟨tv, rfl⟩ := hP
          rw [show (0 : Int) + (j : Int) * 1 = (j : Int) by lia] at hxa
          (try clear F21); (try clear N21)
          have hmo : ent eo ∈ cl2.map ent := List.mem_map_of_mem (List.mem_of_getElem? heo)
          have hmp : ent ep ∈ cl2.map ent := List.mem_map_of_mem (List.mem_of_getElem? hep)
          obtain ⟨tx, htx⟩ := get_of_map (jj2 _ _ heo) hj4
          obtain ⟨ty, hty⟩ := get_of_map (jj2 _ _ hep) hj4
          k_steps
          refine Halt.go ?_
          k_dflt refine item_getV (vs := refs cl2) (ov (p - 1)) (.ref eo.1) (by k_asm) (by k_mem) rfl (by have := hov (p - 1) (by lia); lia) (by simp [refs, heo]) ?_
          k_steps
          refine Halt.go ?_
          rename News _ _ _ _ => N30
          k_dflt refine item_getV (vs := intL eo.2.1) (n := eo.2.2) j (.int (leafC num ov p (CC num ov i) (ov (p - 1)) j) tx) N30 (by repeat (first | exact List.mem_append_left _ (List.mem_append_right _ hmo) | exact List.mem_append_right _ (List.mem_append_left _ hmo) | exact List.mem_append_right _ hmo | apply List.mem_cons_of_mem)) rfl (by lia) (by simp [intL, htx]) ?_
          k_steps
          refine Halt.go ?_
          rename News _ _ _ _ => N31
          k_dflt refine item_getV (vs := intL ep.2.1) (n := ep.2.2) j (.int (leafC num ov p (CC num ov i) p j) ty) N31 (by repeat (first | exact List.mem_append_left _ (List.mem_append_right _ hmp) | exact List.mem_append_right _ (List.mem_append_left _ hmp) | exact List.mem_append_right _ hmp | apply List.mem_cons_of_mem)) rfl (by lia) (by simp [intL, hty]) ?_
          k_steps
          refine Halt.go ?_
          rename Fr _ _ _ _ => F32
          rename News _ _ _ _ => N32
          have hN32 := (N32 (ent ep) (by repeat (first | exact List.mem_append_left _ (List.mem_append_right _ hmp) | exact List.mem_append_right _ (List.mem_append_left _ hmp) | exact List.mem_append_right _ hmp | apply List.mem_cons_of_mem))).1
          k_dflt refine min_list_N (vs := intL ep.2.1) (ns := ep.2.1.map (·.1)) rfl F32 N32 ⟨_, hN32, rfl, _, rfl⟩ (ints_intL _) (by rw [jj2 _ _ hep]; simp) ?_
          intro hm1 M tM tkm F33 N33 hM1 hM2
          rw [jj2 _ _ hep] at hM1 hM2
          obtain rfl := mn4_eq hM1 hM2
          k_steps
          refine Halt.go ?_
          rename Fr _ _ _ _ => F34
          rename News _ _ _ _ => N34
          k_dflt refine min_two_N rfl F34 N34 ?_
          intro hm2 tkm2 F35 N35
          k_steps
          refine Halt.go ?_
          rename Fr _ _ _ _ => F36
          rename News _ _ _ _ => N36
          refine comp_same F36 N36 offa trivial ⟨rfl, _, intL_snoc _ _ _, ?_⟩
          rw [List.map_append, hits, List.range_succ, List.map_append]
          simp only [List.map_cons, List.map_nil, List.append_cancel_left_eq, List.cons.injEq, and_true]
          split <;> lia
        · intro ys hJb
          obtain ⟨its, rfl, hits⟩ := hJb
          intro D2 hb tkb Fb Nb o1b
          k_steps
          refine Halt.go ?_
          rename Fr _ _ _ _ => F40
          rename News _ _ _ _ => N40
          have hoffD : ∀ q ∈ (D2, lst (intL its)) :: (L' + 1 + 1 + 1 + 1 + 1, oV2) :: (L' + 1 + 1 + 1 + 1, oH2) :: (L' + 1 + 1 + 1, oC) :: (L' + 1 + 1, oP2) :: (L' + 1, q5) :: (lw, W.listOf (intL ws).toArray n) :: (lo, W.listOf (intL os).toArray n2) :: (rest ++ cl2.map ent ++ own), q.1 ≠ D := by
            exact fa (Ne.symm o1b.1) (fa e1 (fa e2 (fa e3 (fa e4 (fa e5 (fa e6 (fa e7 (fa_app (fun q hq => (jj4 q hq).1) hoI))))))))
          k_dflt refine set_ledV (vs := refs cl2) (ov (p - 1)) F40 (news_swap N40) hoffD rfl (by have := hov (p - 1) (by lia); lia) (by simp [refs]; have := hov (p - 1) (by lia); lia) ?_
          intro hz F41 N41
          k_steps
          refine Halt.go ?_
          rename Fr _ _ _ _ => F42
          rename News _ _ _ _ => N42
          obtain ⟨oI9, hoI9⟩ := hIo
          have hD2I : @Ne Nat D2 I := Ne.symm (off1_mem o1b (I, oI9) (by repeat (first | exact List.mem_append_right _ hoI9 | apply List.mem_cons_of_mem)))
          have hset : ∀ q ∈ rest ++ (cl2.set (ov (p - 1)) (D2, its, (intL its).length)).map ent, q = (D2, lst (intL its)) ∨ q ∈ rest ++ cl2.map ent := by
            intro q hq
            rcases List.mem_append.mp hq with hq | hq
            · exact .inr (List.mem_append_left _ hq)
            · obtain ⟨e, he, rfl⟩ := List.mem_map.mp hq
              rcases List.mem_or_eq_of_mem_set he with he | rfl
              · exact .inr (List.mem_append_right _ (List.mem_map_of_mem he))
              · exact .inl rfl
          have hD2 : @LT.lt Nat _ D2 L' ∨ @LT.lt Nat _ (L' + 5) D2 := out_of (N40 _ (.head _)).2.1 (o1b.2.1) (o1b.2.2.1) (o1b.2.2.2.1) (o1b.2.2.2.2.1) (o1b.2.2.2.2.2.1)
          refine nx_end (cl2.set (ov (p - 1)) (D2, its, (intL its).length), k1, oV2, oH2, oC, oP2) F42 N42 (fun q hq => ?_) (fun q hq => ?_) (fun q hq hm => ?_) (fun z hz => by simp) ⟨by simp [jj1], ?_, ?_, ?_, ⟨_, dV2⟩, ⟨_, dH2⟩, dC1, ⟨_, dP2⟩⟩
          · have er : refs (cl2.set (ov (p - 1)) (D2, its, (intL its).length)) = (refs cl2).set (ov (p - 1)) (.ref D2) := by simp [refs, List.map_set]
            exact fa (p := fun q => q ∈ _) (by rw [er]; exact .head _) (fa (ix 2 rfl) (fa (ix 3 rfl) (fa (ix 4 rfl) (fa (ix 5 rfl) (fa (ix 6 rfl) (fa (ix 7 rfl) (fa (ix 8 rfl) (fun q hq => (hset q hq).elim (fun e => ix 1 (congrArg some e.symm)) (fun h => dr 9 (List.mem_append_left _ h)))))))))) q hq
          · exact dr 9 (List.mem_append_right _ hq)
          · exact ni (fa (p := fun q => q.1 ≠ I) (ho3 _ (.head _)) (fa (ho3 (_, oV) (ix 1 rfl)) (fa (ho3 (_, oH) (ix 2 rfl)) (fa (ho3 (_, oC) (ix 3 rfl)) (fa (ho3 (_, oP) (ix 4 rfl)) (fa (ho3 _ (ix 5 rfl)) (fa (ho3 _ (ix 6 rfl)) (fa (ho3 _ (ix 7 rfl)) fun q hq => (hset q hq).elim (fun e => e ▸ hD2I) (fun h => (jj4 q h).2)))))))) q hq) hm
          · intro q e he
            rw [List.getElem?_set] at he
            show e.2.1.map _ = (List.range 4).map (pushC ov (6 - i) (leafC num ov (6 - i) (CC num ov i)) q)
            rw [← hp]
            by_cases e2 : ov (p - 1) = q
            · rw [if_pos e2] at he
              split at he
              · cases he
                show its.map _ = _
                rw [hits]
                simp [pushC, e2]
              · cases he
            · rw [if_neg e2] at he
              rw [jj2 q e he]
              simp [pushC, Ne.symm e2]
          · intro q hq
            rcases hset q hq with rfl | hq
            · exact hD2
            · exact jj3 q hq
          · intro q hq
            rcases hset q hq with rfl | hq
            · exact hoffD _ (.head _)
            · exact (jj4 q hq).1
    · intro d u h tk hJ F₁ N₁
      obtain ⟨cl1, k1, oV, oH, oC, oP⟩ := d
      dsimp only at hJ N₁
      obtain ⟨j1, j2, j3, j4, ⟨xV, dV⟩, ⟨xH, dH⟩, dC1, ⟨xP, dP⟩⟩ := hJ
      obtain ⟨e0, he0⟩ : ∃ e, cl1[0]? = some e := ⟨_, List.getElem?_eq_getElem (by lia)⟩
      have hm0 : ent e0 ∈ cl1.map ent := List.mem_map_of_mem (List.mem_of_getElem? he0)
      obtain ⟨tx, htx⟩ := get_of_map (j2 _ _ he0) (i := 0) (by decide)
      k_steps
      refine Halt.go ?_
      k_dflt refine item_getV (vs := refs cl1) 0 (.ref e0.1) (by k_asm) (by k_mem) rfl (by lia) (by simp [refs, he0]) ?_
      k_steps
      refine Halt.go ?_
      rename News _ _ _ _ => N30
      k_dflt refine item_getV (vs := intL e0.2.1) (n := e0.2.2) 0 (.int (CC num ov 6 0 0) tx) N30 (by repeat (first | exact List.mem_append_right _ hm0 | apply List.mem_cons_of_mem)) rfl (by lia) (by simp [intL, htx]) ?_
      k_steps
      refine Halt.go ?_
      k_dflt refine item_getV (vs := refs cl1) 0 (.ref e0.1) (by k_asm) (by k_mem) rfl (by lia) (by simp [refs, he0]) ?_
      k_steps
      refine Halt.go ?_
      rename Fr _ _ _ _ => F32
      rename News _ _ _ _ => N32
      have hN32 := (N32 (ent e0) (by repeat (first | exact List.mem_append_right _ hm0 | apply List.mem_cons_of_mem))).1
      k_dflt refine min_list_N (vs := intL e0.2.1) (ns := e0.2.1.map (·.1)) rfl F32 N32 ⟨_, hN32, rfl, _, rfl⟩ (ints_intL _) (by rw [j2 _ _ he0]; simp) ?_
      intro hm1 M tM tkm F33 N33 hM1 hM2
      rw [j2 _ _ he0] at hM1 hM2
      obtain rfl := mn4_eq hM1 hM2
      k_steps
      refine Halt.go ?_
      rename Fr _ _ _ _ => F34
      rename News _ _ _ _ => N34
      k_dflt refine min_two_N rfl F34 N34 ?_
      intro hm2 tkm2 F35 N35
      k_steps
      rename News h₀ _ _ _ => N50
      have ev : (if mn4 (CC num ov 6 0) + 1 < CC num ov 6 0 0 then mn4 (CC num ov 6 0) + 1 else CC num ov 6 0 0) = fewF num ov := by
        unfold fewF
        split <;> lia
      rw [ev]
      exact hret _ _ _ _ ⟨⟨_, rfl⟩, rfl⟩ (by k_asm) (news_sub N50 (fa (by k_mem) (fa (by k_mem) fun q hq => by repeat (first | exact List.mem_append_left _ hq | apply List.mem_cons_of_mem))))
end
end Mine
end

section
open PySem PySem.W PyProof.Rows PyProof.Rows.LCg PyProof.Rows.LCt PySem.Calls
set_option maxRecDepth 100000
set_option maxHeartbeats 8000000
namespace Mine
theorem r3_get {a b c : Tok} {j : Nat} {v : Value} (h : (#[Value.int 420 a, .int 2541 b, .int 928 c] : Array Value)[j]? = some v) : ∃ t, v = .int (R3.getD j 0) t := by
  match j, h with
  | 0, h => cases h; exact ⟨_, rfl⟩
  | 1, h => cases h; exact ⟨_, rfl⟩
  | 2, h => cases h; exact ⟨_, rfl⟩
  | _ + 3, h => simp at h
theorem mx3_eq {f : Int → Nat} {M : Int} (h1 : M ∈ (List.range 3).map fun k => ((f (R3.getD k 0) : Nat) : Int)) (h2 : ∀ a ∈ (List.range 3).map fun k => ((f (R3.getD k 0) : Nat) : Int), a ≤ M) : M = (max3 f : Nat) := by
  obtain ⟨g1, g2, g3⟩ := max3_ge f
  refine Int.le_antisymm ?_ ?_
  · obtain ⟨k, hk, rfl⟩ := List.mem_map.mp h1
    exact Int.ofNat_le.mpr (match k, List.mem_range.mp hk with
    | 0, _ => g1
    | 1, _ => g2
    | 2, _ => g3)
  · rcases max3_or f with h | h | h <;> rw [h]
    · exact h2 _ (List.mem_map.mpr ⟨0, by decide, rfl⟩)
    · exact h2 _ (List.mem_map.mpr ⟨1, by decide, rfl⟩)
    · exact h2 _ (List.mem_map.mpr ⟨2, by decide, rfl⟩)
section
variable {prog : Program} {w : World} {K : Type} [DecidableEq K] {knd : KeyKind prog w K} {A : Around} {E : Value → Shared → Prop} {s : Shared} {h₀ : Heap} {L d : Addr} {m : Str → Option Value} {rest : List (Addr × Obj)} {o : Obj} {kvs : List (K × Value)} {k : K} {key v : Value} {env : Env}
theorem dset {Q : Unit → Shared → Prop} (F : Fr h₀ L s.heap m) (N : News h₀ L s.heap ((d, o) :: rest)) (hoff : ∀ p ∈ rest, p.1 ≠ d) (hd : o.IsDictOf knd kvs) (hkey : knd.is k key = true) (hsz : kvs.length ≤ sizeLine)
    (h : ∀ h' o', Fr h₀ L h' m → News h₀ L h' ((d, o') :: rest) → o'.IsDictOf knd (stored kvs k v) → Q () { s with heap := h', toks := s.toks + 1 }) : wpAny (model prog w) A (setItem (.ref d) key v) Q E s :=
  kda_set F N (UpdF.head hoff) hd hkey hsz h
/-- the turns of a tested comprehension leave the ledger as it is -/
theorem CompRestT.invX {ct elt : Expr} {x : Str} {scope : Scope} {cl : List (Str × Addr)} {S : List (Addr × Obj) → Prop} {P : Nat → Value → Prop} {Fin : List Value → List (Addr × Obj) → Prop} {n : Nat} {news : List (Addr × Obj)} (J : Nat → List Value → Prop) (h0 : J 0 [])
    (turn : ∀ i ys v I oI C oC D m₂ h tk (E' : Value → Shared → Prop), i < n → J i ys → P i v → NsObj oC m₂ → m₂ x = some v → Fr h₀ L h m → News h₀ L h ((I, oI) :: (C, oC) :: (D, lst ys) :: news) → Off3 I C D news → ((@Ne Nat I C) ∧ (@Ne Nat I D) ∧ (@Ne Nat C D)) →
      wpAny (model prog w) A (isTrue ct (compEnvC scope cl C env) (eval ct (compEnvC scope cl C env))) (fun ok s' => if ok = true then
        wpAny (model prog w) A (eval elt (compEnvC scope cl C env)) (CompEnd h₀ L m { s with heap := h, toks := tk } I oI C oC D (lst ys) S (fun y nw' => nw' = news ∧ J (i + 1) (ys ++ [y]))) E' s'
        else CompEnd h₀ L m { s with heap := h, toks := tk } I oI C oC D (lst ys) S (fun _ nw' => nw' = news ∧ J (i + 1) ys) Value.none s') E' { s with heap := h, toks := tk })
    (fin : ∀ ys, J n ys → Fin ys news) : CompRestT prog w A h₀ L m env ct elt x scope cl s S P Fin n 0 [] news := by
  refine CompRestT.inv (fun i ys nw => nw = news ∧ J i ys) ⟨rfl, h0⟩ ?_ ?_
  · rintro i ys nw v I oI C oC D m₂ h tk E' hi ⟨rfl, hJ⟩ hP hC hx F N off ne
    exact turn i ys v I oI C oC D m₂ h tk E' hi hJ hP hC hx F N off ne
  · rintro ys nw ⟨rfl, hJ⟩
    exact fin ys hJ
end
section
local macro_rules | `(tactic| walk_at "exec Assign cons ListComp") => `(tactic| ((with_reducible refine wpAny_Assign_Subscript ?_ ?_); rotate_left; with_unfolding_all rfl))
local macro_rules | `(tactic| walk_at "getMethod ref") => `(tactic| ((with_reducible show wpAny _ _ (getMethod (Value.ref _) (Str.ofString "count") _) _ _ _); refine halt ?_))
local macro_rules | `(tactic| walk_at "ite") => `(tactic| first | with_reducible refine ite_tt ?_ | with_reducible refine ite_ff ?_)
local macro_rules | `(tactic| walk_at $k:str) => if ["binaryOp Add ref ref", "call ref", "eval DictComp", "eval ListComp", "call type:list", "exec While Compare cons nil", "exec If", "compareOp NotEq ref ref", "subscriptTail Name Name ref str", "subscriptTail Name Call ref str", "setItem ref str ref", "call builtin:max", "MidPost", "call builtin:list.count", "CompEnd", "CompEndG", "KswEnd"].contains k.getString then `(tactic| refine Mine.halt ?_) else Lean.Macro.throwUnsupported
local macro_rules | `(tactic| k_ne) => `(tactic| (refine neN ?_; (try dsimp only); first | assumption | exact Ne.symm (by assumption) | omega))
local macro_rules | `(tactic| k_all) => `(tactic| first | assumption | exact tbn_neAll (by assumption) | exact ne_out (by assumption) (by lia) (by lia))
/-- lists of ints at the places of fl -/
noncomputable def HasI (nw : List (Addr × Obj)) (val : Nat → Value) (cw : Nat → List Int) (fl : List Nat) : Prop := ∀ j ∈ fl, ∃ a c xs, val j = .ref a ∧ xs.map (·.1) = cw j ∧ (a, W.listOf (intL xs).toArray c) ∈ nw
theorem News.part {h₀ h : Heap} {L : Addr} {l l' : List (Addr × Obj)} (N : News h₀ L h l) (s : ∀ p ∈ l', p ∈ l) : News h₀ L h l' := fun p hp => N p (s p hp)
/-- none of these addresses -/
noncomputable def Apart (l : List (Addr × Obj)) (x : Addr) : Prop := ∀ p ∈ l, p.1 ≠ x
structure US where
  xs : List Item
  hc : Nat
  oP : Obj
  oM : Obj
  oW : Obj
  oF : Obj
  wi : Nat → Value
  fi : Nat → Value
  dn : List Nat
  rm : List Nat
  F : Nat → List Int
  cw : Nat → List Int
  pool : List (Addr × Obj)
noncomputable def US.led (L' D DF H : Addr) (oC : Obj) (c : US) : List (Addr × Obj) := (H, W.listOf (vals c.xs).toArray c.hc) :: (DF, c.oF) :: (D, c.oW) :: (L' + 1 + 1 + 1, c.oM) :: (L' + 1 + 1, oC) :: (L' + 1, c.oP) :: c.pool
structure US.Ok (w : World) (news : List (Addr × Obj)) (ov : Nat → Nat) (wn : Nat → Int) (L' D DF H : Addr) (c : US) : Prop where
  dW : c.oW.IsDictOf (strKind PR w) (kvG ov (List.range 7) c.wi)
  dF : c.oF.IsDictOf (strKind PR w) (kvG ov c.dn c.fi)
  hW : HasI c.pool c.wi c.cw (List.range 7)
  hF : HasI c.pool c.fi c.F c.dn
  sub : ∀ p ∈ news, p ∈ c.pool
  aD : Apart c.pool D
  aF : Apart c.pool DF
  aH : Apart c.pool H
  a1 : Apart c.pool (L' + 1)
  a3 : Apart c.pool (L' + 1 + 1 + 1)
  cP : ∃ x, c.oP.data = Data.cell x
  cM : ∃ x, c.oM.data = Data.cell x
  up : UpI ov wn c.xs c.dn c.rm c.F c.cw
  len : ∀ j, (c.cw j).length ≤ 3 * c.dn.length
theorem lawfitting_c (w : World) (news : List (Addr × Obj)) (dw : Nat) (ow : Obj) (wv : Nat → Value) (wn : Nat → Int) (ov : Nat → Nat) (hm : (dw, ow) ∈ news) (lo : (dw == sysModules) = false) (hwv : ∀ j, j ≤ 6 → ∃ t, wv j = .int (wn j) t) (hkd : ow.IsDictOf (strKind PR w) (kvG ov (List.range 7) wv)) :
    Ct w 12 268 [.ref dw] news (fun v news' => ∃ d o fl fi F, v = .ref d ∧ (d, o) ∈ news' ∧ (d == sysModules) = false ∧ (∀ p ∈ news, p ∈ news') ∧ o.IsDictOf (strKind PR w) (kvG ov fl fi) ∧ fl.Perm (List.range 7) ∧ HasI news' fi F fl ∧ ∀ j, j ≤ 6 → F j = servF (wn j) (kids ov F (List.range 7) j)) := by
  unfold Ct
  k_fill
  intro loose mean mg mb dp un gd cn cs a ccd cl outer A₀ base h₀ L m s Q E B F X N T hk hdp hu hret
  refine wpAny_call ?_
  k_dflt (refine' code_defC ?k1 ?k2 ?k3 ?k4 ?k5 ?kA ?kF ?kK ?k6 ?k7 ?k8 ?k9 ?kB ?kD ?_ ?c2 ?c3 ?c4; (case kA => exact rfl); (case kF => exact rfl); (case kK => assumption); (case k1 => k_asm); (case k2 => k_asm); (case k3 => k_asm); (case k4 => k_asm); (case k5 => k_asm); (case k6 => k_is); (case k7 => k_is); (case k8 => ktr_room); (case k9 => exact BindsTo.of_eq rfl); (case kB => exact rfl); (case kD => decide +kernel); (case c2 => exact rfl); (case c3 => exact rfl); (case c4 => exact rfl); k_whole; intro g' L' h' tk' cells' FG' F' N' Y' B' X' T' l1; (try k_lt l1); k_cells Y'; (try simp only [List.cons_append, List.nil_append] at N'); (try dsimp only); (try k_fold))
  rename_i q1 q2 q3 z1 z2 z3
  k_steps
  refine Halt.go ?_
  refine' DictComp_W F' ?d1 ?d2 ?d3 ?d4 ?d5 ?_
  case d1 => exact rfl
  case d2 => decide +kernel
  case d3 => exact rfl
  case d4 => decide +kernel
  case d5 => exact rfl
  k_steps
  refine SrcW.dict (knd := strKind PR w) (kvs := kvG ov (List.range 7) wv) rfl (by k_asm) (by k_asm) (.tail _ (.tail _ (.tail _ hm))) hkd lo (by rw [sizeLine_eq]; simp [kvG]) ?_
  intro g2
  refine CompRestG.invQ emD_mono (fun i oD post => ∃ wi, oD.IsDictOf (strKind PR w) (kvG ov (List.range i) wi) ∧ HasI post wi (fun _ => []) (List.range i) ∧ AllOut L' (L' + 3) (news ++ post)) ⟨fun _ => .none, isdict_nil, fun j hj => absurd hj (by simp), fun p hp => .inl (ltN (l1 p (by simpa using hp)))⟩ ?_ ?_
  · rintro i oD post v I oI C oC D m₂ h tk E' hi ⟨wi, hdi, hw, hao⟩ ⟨k, x, hkx, hkv⟩ hC hx F2 N2 off ne
    obtain ⟨tv, rfl⟩ := Value.isStrOf_shape hkv
    obtain rfl : k = pth ov i := by
      have hi7 : i < 7 := by simpa [kvG] using hi
      simp [kvG, hi7] at hkx
      exact hkx.1.symm
    have hi7 : i < 7 := by simpa [kvG] using hi
    simp only [List.cons_append] at N2
    refine emD_go ?_
    k_steps
    rename_i l9 hy9 F9 N9 l19
    refine compGQ_set (knd := strKind PR w) (kvs := kvG ov (List.range i) wi) (k := pth ov i) (strKind_is _ _) hdi (by rw [sizeLine_eq]; simp [kvG]; lia) F9 (by exact N9) (by exact kst_ltOf l19) off ne ?hS ?_
    case hS => exact .tail _ (.tail _ (.tail _ (List.mem_append_left _ hm)))
    intro oD' hd'
    refine ⟨fun j => if j = i then .ref l9 else wi j, ?_, ?_, ?_⟩
    · rw [kvG_new (fun j hj => by have := List.mem_range.mp hj; lia) (by lia) (by simp), ← List.range_succ] at hd'
      exact hd'
    · intro j hj
      by_cases e : j = i
      · exact ⟨l9, 0, [], by simp [e], rfl, List.mem_append_right _ (.head _)⟩
      · obtain ⟨a, c, xs, h1, h2, h3⟩ := hw j (List.mem_range.mpr (by have := List.mem_range.mp hj; lia))
        exact ⟨a, c, xs, by simp [e, h1], h2, List.mem_append_left _ h3⟩
    · intro p hp
      rw [← List.append_assoc] at hp
      rcases List.mem_append.mp hp with hp | hp
      · exact hao p hp
      · rw [List.mem_singleton.mp hp]
        exact .inr (ltN l19.2.2.2.1)
  · rintro oD post ⟨wi, hdi, hw, hao⟩ D h tk hlD F2 N2 off
    obtain ⟨hD, hlt⟩ : (D == sysModules) = false ∧ True := ⟨lo_of T' F2 hlD, trivial⟩
    simp only [List.cons_append, List.nil_append] at N2 off
    obtain ⟨e1, e2, e3, e4⟩ := off
    have e4' := off1_mem e4
    k_steps
    refine Halt.go ?_
    rename_i DF x1 oF loF hsF fsF hiF fiF lF DT x2 lT x3 x4 oC dC x5 F3 N3
    k_dflt refine list_dict_led (w := w) rfl F3 N3 (by first | k_mem | simp [hm]) hkd lo (by rw [sizeLine_eq]; simp [kvG]) ?_
    intro H cH h4 tk4 xs0 F4 N4 l4 hxs0
    rw [kvG_keys] at hxs0
    k_steps
    refine Halt.go ?_
    k_dflt refine heapify_max_c w _ H xs0 cH (fun p hp => Nat.ne_of_lt (l4 p hp)) (by have := congrArg List.length hxs0; simpa using this) _ _ _ _ _ _ _ _ _ _ _ _ _ _ _ _ _ _ _ _ _ (by k_asm) (by k_asm) (by k_asm) (by k_asm) (by k_asm) rfl (by ktr_room) (by ktr_units) ?_
    intro v news' h2 tk2 hpost F5 N5
    obtain ⟨rfl, rfl⟩ := hpost
    k_steps
    refine Halt.go ?_
    have c1 : ∃ x, q1.data = Data.cell x := ⟨_, z1⟩
    have c3 : ∃ x, q3.data = Data.cell x := ⟨_, z3⟩
    clear z1 z2 z3
    have lDF : @LT.lt Nat _ D DF := ltN lF.1
    have lFH : @LT.lt Nat _ DF H := ltN (l4 (DF, oF) (by simp))
    have lLF : @LT.lt Nat _ (L' + 3) DF := ltN lF.2.1
    have n1 : @Ne Nat D (L' + 1) := fun e => e3 e.symm
    have n2 : @Ne Nat D (L' + 2) := fun e => e2 e.symm
    have n3 : @Ne Nat D (L' + 3) := fun e => e1 e.symm
    have hlD : @LT.lt Nat _ L' D := hlD
    k_dflt refine ksw_while (σ := US) (US.led L' D DF H oC) (fun _ => []) (fun _ => True) [] (US.Ok w news ov wn L' D DF H) (fun c => c.xs.length)
      ⟨hpF maxBf xs0 3, cH, q3, q1, oD, oF, wi, fun _ => .none, [], List.range 7, fun _ => [], fun _ => [], news ++ post⟩ F5 ?n5 trivial (fun _ h => nomatch h) ?ok ?turn
    case n5 =>
      refine News.part N5 ?_
      dsimp only [US.led]
      exact (fa (by k_mem) (fa (by k_mem) (fa (by k_mem) (fa (by k_mem) (fa (by k_mem) (fa (by k_mem) (fun q hq => by first | exact dr 6 hq | exact dr 7 hq | exact dr 8 hq | exact dr 9 hq | exact dr 10 hq)))))))
    case ok =>
      refine ⟨hdi, hsF, ?_, (fun j hj => nomatch hj), fun p hp => List.mem_append_left _ hp, e4', fun p hp => ?_, fun p hp => ?_, fun p hp => ?_, fun p hp => ?_, c3, c1, UpI.start hxs0, fun _ => Nat.le_refl _⟩
      · intro j hj
        obtain ⟨a, c, xs, h1, h2, h3⟩ := hw j hj
        exact ⟨a, c, xs, h1, h2, List.mem_append_right _ h3⟩
      · exact tbn_neAll lF.2.2.2.2 p hp
      · exact Nat.ne_of_lt (l4 p (by simp [List.mem_append.mp hp]))
      · have := hao p hp
        intro e
        rw [e] at this
        rcases this with h | h <;> lia
      · have := hao p hp
        intro e
        rw [e] at this
        rcases this with h | h <;> lia
    intro c u hh tk hF1 hok F1 N1
    obtain ⟨xs, hc, oP, oM, oW, oV, wi, fi, dn, rm, F, cw, pool⟩ := c
    obtain ⟨kW, kF, kwi, kfi, ksub, a2, a4, a5, a1, a3, cP, cM, U, hlen⟩ := hok
    unfold Apart at a1 a2 a3 a4 a5
    dsimp only at kW kF kwi kfi ksub a1 a2 a3 a4 a5 cP cM U hlen
    dsimp only [US.led] at N1
    have F1 : Fr g' L' hh _ := F1
    k_steps
    refine Halt.go ?_
    rename_i lE x7 F7 N7 l7
    have ok7 : ∀ x ∈ xs.map (·.1), PyData.strOk x = true := fun x hx => by
      obtain ⟨j, hj, rfl⟩ := List.mem_map.mp (U.items.subset hx)
      exact pth_ok ov (U.rng hj)
    k_dflt refine ne_strs (xs := xs) (ys := []) ⟨_, (N7 _ (.tail _ (.head _))).1, rfl, _, rfl⟩ ⟨_, (N7 _ (.head _)).1, rfl, _, rfl⟩ ok7 (fun _ h => nomatch h) (by ktr_units) ?_
    k_steps
    · rename News h₀ _ _ _ => N8
      rename List.map _ _ = List.map _ _ => ht
      obtain rfl : xs = [] := by simpa using ht
      have ff := U.fin
      have hr : rm = [] := by
        have := U.items.length_eq
        simp at this
        exact List.eq_nil_of_length_eq_zero this.symm
      have ha := U.all
      rw [hr, List.append_nil] at ha
      refine hret _ ((DF, oV) :: pool) _ _ ⟨DF, oV, dn, fi, F, rfl, .head _, loF, fun p hp => .tail _ (ksub p hp), kF, ha, ?_, fun j hj => (ff j hj).2⟩ (by k_asm) (News.part N8 (fa (by k_mem) (fun q hq => by first | exact dr 6 hq | exact dr 7 hq | exact dr 8 hq | exact dr 9 hq | exact dr 10 hq)))
      intro j hj
      obtain ⟨a, c, xs, h1, h2, h3⟩ := kfi j hj
      exact ⟨a, c, xs, h1, h2, .tail _ h3⟩
    · refine Halt.go ?_
      rename ¬ List.map _ _ = List.map _ _ => ht
      obtain ⟨ys, y, rfl⟩ : ∃ ys y, xs = ys ++ [y] := by
        rcases List.eq_nil_or_concat xs with h | ⟨ys, y, h⟩
        · rw [h] at ht; exact absurd rfl ht
        · exact ⟨ys, y, by simpa using h⟩
      (try clear N1)
      (try clear F1)
      have N8 : News g' L' x7 ((H, W.listOf (vals (ys ++ [y])).toArray hc) :: (DF, oV) :: (D, oW) :: (L' + 1 + 1 + 1, oM) :: (L' + 1 + 1, oC) :: (L' + 1, oP) :: pool) := News.part N7 fun p hp => .tail _ hp
      clear N7
      have hl : (ys ++ [y]).length ≤ 7 := by
        have h1 := U.items.length_eq
        have h2 := U.all.length_eq
        simp only [List.length_map, List.length_append, List.length_range] at h1 h2
        rw [List.length_append]
        lia
      rw [List.length_append] at hl
      obtain ⟨j, hjr, hjv, hj6, hjd, hjl, U2⟩ := U.step
      k_dflt refine heappop_max_c w _ H ys y hc ?hoff (by simp at hl; lia) _ _ _ _ _ _ _ _ _ _ _ _ _ _ _ _ _ _ _ _ _ (by k_asm) (by exact F7) (by k_asm) (by exact N8) (by k_asm) rfl (by ktr_room) (by ktr_units) ?_
      case hoff =>
        exact fa (Nat.ne_of_lt lFH) (fa (Nat.ne_of_lt (Nat.lt_trans lDF lFH)) (fa (Nat.ne_of_lt (show @LT.lt Nat _ (L' + 1 + 1 + 1) H by omega)) (fa (Nat.ne_of_lt (show @LT.lt Nat _ (L' + 1 + 1) H by omega)) (fa (Nat.ne_of_lt (show @LT.lt Nat _ (L' + 1) H by omega)) a5))))
      intro v news' h9 tk9 hpost F9 N9
      obtain ⟨rfl, rfl⟩ := hpost
      obtain ⟨pv, hpv⟩ : ∃ p, popV ys y = p := ⟨_, rfl⟩
      rw [hpv] at hjv
      obtain ⟨pv, tp⟩ := pv
      obtain rfl : pv = pth ov j := hjv
      rw [show Item.val (popV ys y) = Value.str (pth ov j) tp from by rw [hpv]]
      obtain ⟨xP, dP⟩ := cP
      obtain ⟨xM, dM⟩ := cM
      clear F7 N8 hpv hw hao hdi lT l4
      k_steps
      refine Halt.go ?_
      rename_i oP1 F1 N1 dP1
      obtain ⟨aj, cj, xj, hwj, hxj, hpj⟩ := kwi j (List.mem_range.mpr (by lia))
      obtain ⟨tj, hwvj⟩ := hwv j hj6
      have b1 : ∀ p ∈ (aj, W.listOf (intL xj).toArray cj) :: pool, p.1 ≠ L' + 1 := fun p hp => (List.mem_cons.mp hp).elim (fun e => e ▸ a1 _ hpj) (a1 p)
      have b2 : ∀ p ∈ (aj, W.listOf (intL xj).toArray cj) :: pool, p.1 ≠ D := fun p hp => (List.mem_cons.mp hp).elim (fun e => e ▸ a2 _ hpj) (a2 p)
      have b3 : ∀ p ∈ (aj, W.listOf (intL xj).toArray cj) :: pool, p.1 ≠ L' + 1 + 1 + 1 := fun p hp => (List.mem_cons.mp hp).elim (fun e => e ▸ a3 _ hpj) (a3 p)
      have b4 : ∀ p ∈ (aj, W.listOf (intL xj).toArray cj) :: pool, p.1 ≠ DF := fun p hp => (List.mem_cons.mp hp).elim (fun e => e ▸ a4 _ hpj) (a4 p)
      have b5 : ∀ p ∈ (aj, W.listOf (intL xj).toArray cj) :: pool, p.1 ≠ H := fun p hp => (List.mem_cons.mp hp).elim (fun e => e ▸ a5 _ hpj) (a5 p)
      have N2 : News g' L' _ ((H, W.listOf (vals (popR maxBf ys y)).toArray (hc + 1)) :: (DF, oV) :: (D, oW) :: (L' + 1 + 1 + 1, oM) :: (L' + 1 + 1, oC) :: (L' + 1, oP1) :: (aj, W.listOf (intL xj).toArray cj) :: pool) := News.part N1 (fa (by k_mem) (fa (by k_mem) (fa (by k_mem) (fa (by k_mem) (fa (by k_mem) (fa (by k_mem) (fa (by first | exact dr 6 hpj | exact dr 7 hpj | exact dr 8 hpj) (fun q hq => by first | exact dr 6 hq | exact dr 7 hq | exact dr 8 hq | exact dr 9 hq | exact dr 10 hq))))))))
      clear N1
      have r7 : ∀ i ∈ List.range 7, i ≤ 6 := fun i hi => by have := List.mem_range.mp hi; lia
      have m7 : j ∈ List.range 7 := List.mem_range.mpr (by lia)
      have rdn : ∀ i ∈ dn, i ≤ 6 := fun i hi => U.rngd hi
      have ndn : dn.Nodup := (List.nodup_append.mp U.nodup).1
      have ldn : dn.length ≤ 7 := by
        have h2 := U.all.length_eq
        simp only [List.length_append, List.length_range] at h2
        lia
      have hdz : (kvG ov dn fi).length ≤ sizeLine := by rw [sizeLine_eq]; simp [kvG]; lia
      have hoffDF : ∀ (a : Addr) (o oM' : Obj), @Ne Nat a DF → ∀ p ∈ (H, W.listOf (vals (popR maxBf ys y)).toArray (hc + 1)) :: (D, oW) :: (L' + 1 + 1 + 1, oM') :: (L' + 1 + 1, oC) :: (L' + 1, oP1) :: (a, o) :: pool, p.1 ≠ DF := by
        exact fun a o oM' ha => fa (Nat.ne_of_gt lFH) (fa (Nat.ne_of_lt lDF) (fa (Nat.ne_of_lt lLF) (fa (Nat.ne_of_lt (show @LT.lt Nat _ (L' + 1 + 1) DF by omega)) (fa (Nat.ne_of_lt (show @LT.lt Nat _ (L' + 1) DF by omega)) (fa ha a4)))))
      refine merge (σ := Obj × Obj × Addr × List (Int × Tok) × Nat) F1 (fun c => (H, W.listOf (vals (popR maxBf ys y)).toArray (hc + 1)) :: (DF, c.1) :: (D, oW) :: (L' + 1 + 1 + 1, c.2.1) :: (L' + 1 + 1, oC) :: (L' + 1, oP1) :: (c.2.2.1, W.listOf (intL c.2.2.2.1).toArray c.2.2.2.2) :: pool)
        (fun c => c.1.IsDictOf (strKind PR w) (kvG ov (dn ++ [j]) fun i => if i = j then .ref c.2.2.1 else fi i) ∧ (∃ x, c.2.1.data = Data.cell x) ∧ c.2.2.2.1.map (·.1) = servF (wn j) (fun c => (cw j).count c) ∧ @Ne Nat c.2.2.1 H ∧ @Ne Nat c.2.2.1 DF ∧ @Ne Nat c.2.2.1 D ∧ @Ne Nat c.2.2.1 (L' + 1) ∧ @Ne Nat c.2.2.1 (L' + 3)) ?_ ?_
      · refine wpAny_If ?_
        k_steps
        refine Halt.go ?_
        k_dflt refine kda_item (k := pth ov j) (by k_asm) (by repeat (first | exact ksub _ hm | apply List.mem_cons_of_mem)) hkd (strKind_is _ _) (kvG_at r7 List.nodup_range m7) ?_
        rw [hwvj]
        k_steps
        refine Halt.go ?_
        k_dflt refine isdir_c w _ (wn j) _ _ _ _ _ _ _ _ _ _ _ _ _ _ _ _ _ _ _ _ _ _ (by k_asm) (by k_asm) (by k_asm) (by k_asm) (by k_asm) rfl (by ktr_room) (by ktr_units) ?_
        intro v news' h3 tk3 hpost F3 N3
        obtain ⟨rfl, rfl⟩ := hpost
        cases hd9 : decide (Builtin.bitAnd (wn j) 61440 = 16384) with
        | true =>
          k_steps
          refine Halt.go ?_
          rename Fr _ _ _ _ => F8
          k_dflt refine ListComp_W F8 (by with_unfolding_all rfl) (by decide) (by rfl) (by decide) (by rfl) ?_
          k_steps
          rename Fr _ _ _ _ => F9
          rename News _ _ _ _ => N9
          k_dflt refine SrcW.tuple rfl F9 N9 (.inr ⟨_, .head _, rfl, _, rfl⟩) (by simp [sizeLine]) ?_
          intro g6
          refine CompRest.invF (fun i zs => ∃ its : List (Int × Tok), zs = intL its ∧ its.map (·.1) = (List.range i).map fun k => (((cw j).count (R3.getD k 0) : Nat) : Int)) ⟨[], rfl, rfl⟩ ?_ ?_
          · intro i zs v Ia oIa Ca oCa Da ma hb tkb Eb hi3 hJb hP hCa hxa Fa Na offa nea
            obtain ⟨its, rfl, hits⟩ := hJb
            obtain ⟨tv, rfl⟩ := r3_get hP
            k_steps
            refine Halt.go ?_
            k_dflt refine kda_item (k := pth ov j) (by k_asm) (by k_mem) kW (strKind_is _ _) (kvG_at r7 List.nodup_range m7) ?_
            rw [hwj]
            k_steps
            refine Halt.go ?_
            rename News _ _ _ _ => N30
            have hlX : Heap.IsList _ aj (intL xj).toArray := ⟨_, (N30 (aj, W.listOf (intL xj).toArray cj) (by k_mem)).1, rfl, _, rfl⟩
            k_dflt refine getMethod_list_of PySem.F.slot_list_count PySem.F.type_list_count hlX ⟨_, (N30 (aj, W.listOf (intL xj).toArray cj) (by k_mem)).1, rfl⟩ ?_
            k_steps
            refine Halt.go ?_
            clear hlX
            rename News _ _ _ _ => N30
            k_dflt refine count_list_ints (vs := intL xj) (ns := xj.map (·.1)) ⟨_, (N30 (aj, _) (by k_mem)).1, rfl, _, rfl⟩ (ints_intL xj) ?_
            k_steps
            refine Halt.go ?_
            rename Fr _ _ _ _ => F36
            rename News _ _ _ _ => N36
            refine comp_same F36 N36 offa (.inr ⟨_, .head _, rfl, _, rfl⟩) ⟨rfl, _, intL_snoc _ _ _, ?_⟩
            rw [List.map_append, hits, List.range_succ, List.map_append, ← hxj]
            rfl
          · intro zs hJb
            obtain ⟨its, rfl, hits⟩ := hJb
            intro D2 hb tkb Fb Nb o1b
            k_steps
            refine Halt.go ?_
            rename Fr _ _ _ _ => F32
            rename News _ _ _ _ => N32
            k_dflt refine max_list_N (vs := intL its) (ns := its.map (·.1)) rfl F32 N32 ⟨_, (N32 _ (.head _)).1, rfl, _, rfl⟩ (ints_intL _) (by rw [hits]; simp) ?_
            intro hm1 M tM tkm F33 N33 hM1 hM2
            rw [hits] at hM1 hM2
            obtain rfl := mx3_eq (f := fun c => (cw j).count c) hM1 hM2
            have N34 : News g' L' _ ((H, W.listOf (vals (popR maxBf ys y)).toArray (hc + 1)) :: (DF, oV) :: (D, oW) :: (L' + 1 + 1 + 1, oM) :: (L' + 1 + 1, oC) :: (L' + 1, oP1) :: (aj, W.listOf (intL xj).toArray cj) :: pool) := News.part N33 fun p hp => .tail _ (.tail _ hp)
            clear N33 N32 N9
            k_steps
            refine Halt.go ?_
            rename Fr _ _ _ _ => F40
            rename_i xF40 oM1 N40 dM1
            k_dflt refine ListComp_WT F40 (by with_unfolding_all rfl) (by decide) (by rfl) (by decide) (by rfl) ?_
            k_steps
            rename Fr _ _ _ _ => F41
            rename News _ _ _ _ => N41
            k_dflt refine SrcW.tuple rfl F41 N41 (.inr ⟨_, .head _, rfl, _, rfl⟩) (by simp [sizeLine]) ?_
            intro g7
            refine CompRestT.invX (fun i zs => ∃ its : List (Int × Tok), zs = intL its ∧ its.map (·.1) = ((List.range i).map fun k => R3.getD k 0).filter fun c => decide ((cw j).count c = max3 fun c => (cw j).count c)) ⟨[], rfl, rfl⟩ ?_ ?_
            · intro i zs v Ia oIa Ca oCa Da ma hb tkb Eb hi3 hJb hP hCa hxa Fa Na offa nea
              obtain ⟨itz, rfl, hitz⟩ := hJb
              obtain ⟨tv, rfl⟩ := r3_get hP
              k_steps
              refine Halt.go ?_
              k_dflt refine kda_item (k := pth ov j) (by k_asm) (by k_mem) kW (strKind_is _ _) (kvG_at r7 List.nodup_range m7) ?_
              rw [hwj]
              k_steps
              refine Halt.go ?_
              rename News _ _ _ _ => N50
              have hlX : Heap.IsList _ aj (intL xj).toArray := ⟨_, (N50 (aj, W.listOf (intL xj).toArray cj) (by k_mem)).1, rfl, _, rfl⟩
              k_dflt refine getMethod_list_of PySem.F.slot_list_count PySem.F.type_list_count hlX ⟨_, (N50 (aj, W.listOf (intL xj).toArray cj) (by k_mem)).1, rfl⟩ ?_
              k_steps
              refine Halt.go ?_
              clear hlX
              rename News _ _ _ _ => N50
              k_dflt refine count_list_ints (vs := intL xj) (ns := xj.map (·.1)) ⟨_, (N50 (aj, _) (by k_mem)).1, rfl, _, rfl⟩ (ints_intL xj) ?_
              k_steps
              · refine Halt.go ?_
                rename Fr _ _ _ _ => F60
                rename News _ _ _ _ => N60
                rename ((List.count _ _ : Nat) : Int) = _ => hcm
                have e : (cw j).count (R3.getD i 0) = max3 fun c => (cw j).count c := by rw [hxj] at hcm; exact Int.ofNat.inj hcm
                refine comp_same F60 N60 offa (.inr ⟨_, .head _, rfl, _, rfl⟩) ⟨rfl, _, intL_snoc _ _ _, ?_⟩
                rw [List.map_append, hitz, List.range_succ, List.map_append, List.filter_append]
                congr 1
                exact (List.filter_cons_of_pos (p := fun c => decide ((cw j).count c = max3 fun c => (cw j).count c)) (l := []) (decide_eq_true e)).symm
              · refine Halt.go ?_
                rename Fr _ _ _ _ => F60
                rename News _ _ _ _ => N60
                rename ¬ ((List.count _ _ : Nat) : Int) = _ => hcm
                have e : ¬ (cw j).count (R3.getD i 0) = max3 fun c => (cw j).count c := by rw [hxj] at hcm; exact fun e => hcm (congrArg Int.ofNat e)
                refine comp_same F60 N60 offa (.inr ⟨_, .head _, rfl, _, rfl⟩) ⟨rfl, _, rfl, ?_⟩
                rw [hitz, List.range_succ, List.map_append, List.filter_append, show List.filter _ (List.map _ [i]) = [] from List.filter_cons_of_neg (p := fun c => decide ((cw j).count c = max3 fun c => (cw j).count c)) (by simpa using e), List.append_nil]
            · intro zs hJb
              obtain ⟨itz, rfl, hitz⟩ := hJb
              intro D3 hb tkb Fb Nb o1b
              k_steps
              refine Halt.go ?_
              rename Fr _ _ _ _ => F61
              rename News _ _ _ _ => N61
              obtain ⟨_, d1, d2, d3, d4, d5, d6, _⟩ := o1b
              have N62 : News g' L' _ ((DF, oV) :: (H, W.listOf (vals (popR maxBf ys y)).toArray (hc + 1)) :: (D, oW) :: (L' + 1 + 1 + 1, oM1) :: (L' + 1 + 1, oC) :: (L' + 1, oP1) :: (D3, lst (intL itz)) :: pool) := News.part N61 (fa (by k_mem) (fa (by k_mem) (fa (by k_mem) (fa (by k_mem) (fa (by k_mem) (fa (by k_mem) (fa (by k_mem) (fun q hq => by first | exact dr 6 hq | exact dr 7 hq | exact dr 8 hq | exact dr 9 hq | exact dr 10 hq))))))))
              k_dflt refine dset (kvs := kvG ov dn fi) F61 N62 (hoffDF _ _ _ (Ne.symm d2)) kF (strKind_is _ _) hdz ?_
              intro h6 oV6 F6 N6 kV6
              rw [kvG_new rdn hj6 hjd] at kV6
              k_steps
              refine Halt.go ?_
              rename Fr _ _ _ _ => F63
              rename News _ _ _ _ => N63
              refine mid_end (oV6, oM1, D3, itz, (intL itz).length) F63 (News.part N63 (by dsimp only; exact (fa (by k_mem) (fa (by k_mem) (fa (by k_mem) (fa (by k_mem) (fa (by k_mem) (fa (by k_mem) (fa (by k_mem) (fun q hq => by first | exact dr 6 hq | exact dr 7 hq | exact dr 8 hq | exact dr 9 hq | exact dr 10 hq)))))))))) ⟨kV6, ⟨_, dM1⟩, ?_, Ne.symm d1, Ne.symm d2, Ne.symm d3, Ne.symm d6, Ne.symm d4⟩
              · show itz.map _ = _
                rw [servF, if_pos (show dirW (wn j) = true from hd9), hitz]
                rfl
        | false =>
          k_steps
          refine Halt.go ?_
          k_dflt refine kda_item (k := pth ov j) (by k_asm) (by repeat (first | exact ksub _ hm | apply List.mem_cons_of_mem)) hkd (strKind_is _ _) (kvG_at r7 List.nodup_range m7) ?_
          rw [hwvj]
          k_steps
          refine Halt.go ?_
          k_dflt refine imode_c w _ (wn j) _ _ _ _ _ _ _ _ _ _ _ _ _ _ _ _ _ _ _ _ _ _ (by k_asm) (by k_asm) (by k_asm) (by k_asm) (by k_asm) rfl (by ktr_room) (by ktr_units) ?_
          intro v news' h4 tk4 hpost F4 N4
          obtain ⟨⟨t4, rfl⟩, rfl⟩ := hpost
          k_steps
          refine Halt.go ?_
          rename_i l5 x5 F5 N5 l15
          obtain ⟨d1, d2, d3, d4, d5, d6, _⟩ := l15
          have N62 : News g' L' _ ((DF, oV) :: (H, W.listOf (vals (popR maxBf ys y)).toArray (hc + 1)) :: (D, oW) :: (L' + 1 + 1 + 1, oM) :: (L' + 1 + 1, oC) :: (L' + 1, oP1) :: (l5, W.listOf (intL [(Builtin.bitAnd (wn j) 4095, t4)]).toArray 0) :: pool) := News.part N5 (fa (by k_mem) (fa (by k_mem) (fa (by k_mem) (fa (by k_mem) (fa (by k_mem) (fa (by k_mem) (fa (by k_mem) (fun q hq => by first | exact dr 6 hq | exact dr 7 hq | exact dr 8 hq | exact dr 9 hq | exact dr 10 hq))))))))
          k_dflt refine dset (kvs := kvG ov dn fi) F5 N62 (hoffDF _ _ _ (Nat.ne_of_gt (ltN d2))) kF (strKind_is _ _) hdz ?_
          intro h6 oV6 F6 N6 kV6
          rw [kvG_new rdn hj6 hjd] at kV6
          k_steps
          refine Halt.go ?_
          rename Fr _ _ _ _ => F63
          rename News _ _ _ _ => N63
          refine mid_end (oV6, oM, l5, [(Builtin.bitAnd (wn j) 4095, t4)], 0) F63 (News.part N63 (by dsimp only; exact (fa (by k_mem) (fa (by k_mem) (fa (by k_mem) (fa (by k_mem) (fa (by k_mem) (fa (by k_mem) (fa (by k_mem) (fun q hq => by first | exact dr 6 hq | exact dr 7 hq | exact dr 8 hq | exact dr 9 hq | exact dr 10 hq)))))))))) ⟨kV6, ⟨_, dM⟩, ?_, Nat.ne_of_gt (ltN d1), Nat.ne_of_gt (ltN d2), Nat.ne_of_gt (ltN d3), Nat.ne_of_gt (ltN d6), Nat.ne_of_gt (ltN d4)⟩
          · rw [servF, if_neg (fun e : dirW (wn j) = true => by rw [show dirW (wn j) = false from hd9] at e; cases e)]
            rfl
      · intro h tk c F3 N3 hP
        obtain ⟨oV2, oM2, a, xa, ca⟩ := c
        obtain ⟨kV2, ⟨xM2, dM2⟩, hxa, lHa⟩ := hP
        dsimp only at kV2 dM2 hxa lHa N3
        clear F1 N2
        k_steps
        refine Halt.go ?_
        have hlj : (pth ov j).length ≤ 20 := (pth_facts ov hj6).1
        k_dflt refine dirname_c w _ (pth ov j) _ (by lia) _ _ _ _ _ _ _ _ _ _ _ _ _ _ _ _ _ _ _ _ _ (by k_asm) (by k_asm) (by k_asm) (by k_asm) (by k_asm) rfl (by ktr_room) (by ktr_units) ?_
        intro v news' h4 tk4 hpost F4 N4
        obtain ⟨⟨t4, rfl⟩, rfl⟩ := hpost
        rw [pth_over ov hj6]
        k_steps
        refine Halt.go ?_
        have o7 : over ov j ∈ List.range 7 := List.mem_range.mpr (by have := over_le ov hj6; lia)
        obtain ⟨ao, co, xo, hwo, hxo, hpo⟩ := kwi (over ov j) o7
        k_dflt refine kda_item (k := pth ov (over ov j)) (by k_asm) (by k_mem) kW (strKind_is _ _) (kvG_at r7 List.nodup_range o7) ?_
        rw [hwo]
        k_steps
        refine Halt.go ?_
        have nd2 : (dn ++ [j]).Nodup := (List.nodup_append.mp U2.nodup).1
        have rd2 : ∀ i ∈ dn ++ [j], i ≤ 6 := fun i hi => U2.rngd hi
        k_dflt refine kda_item (k := pth ov j) (by k_asm) (by k_mem) kV2 (strKind_is _ _) ((kvG_at rd2 nd2 (by simp)).trans (congrArg some (if_pos rfl))) ?_
        k_steps
        refine Halt.go ?_
        have lfl : ∀ n f, (servF n f).length ≤ 3 := fun n f => by
          unfold servF
          split
          · exact List.length_filter_le _ _
          · simp
        have lxo : xo.length ≤ 21 := by
          have := hlen (over ov j)
          rw [← hxo, List.length_map] at this
          lia
        have lxa : xa.length ≤ 3 := by
          have := lfl (wn j) (fun c => (cw j).count c)
          rw [← hxa, List.length_map] at this
          exact this
        rename Fr _ _ _ _ => F70
        rename News _ _ _ _ => N70
        have hpo' := N70 (ao, W.listOf (intL xo).toArray co) (by repeat (first | exact hpo | apply List.mem_cons_of_mem))
        have hpa' := N70 (a, W.listOf (intL xa).toArray ca) (by k_mem)
        k_dflt refine kmk_add_lit (its := (intL xo).toArray) (its2 := (intL xa).toArray) (zs := intL (xo ++ xa)) F70 N70 ⟨_, hpo'.1, rfl, _, rfl⟩ ⟨_, hpa'.1, rfl, _, rfl⟩ (by simp [intL]) ?_ (by rw [sizeLine_eq]; simp [intL]; lia)
        intro D4 h7 F71 N71 l71
        k_steps
        refine Halt.go ?_
        k_dflt refine dirname_c w _ (pth ov j) _ (by lia) _ _ _ _ _ _ _ _ _ _ _ _ _ _ _ _ _ _ _ _ _ (by k_asm) (by k_asm) (by k_asm) (by k_asm) (by k_asm) rfl (by ktr_room) (by ktr_units) ?_
        intro v news' h8 tk8 hpost F8 N8
        obtain ⟨⟨t8, rfl⟩, rfl⟩ := hpost
        rw [pth_over ov hj6]
        k_steps
        refine Halt.go ?_
        rename Fr _ _ _ _ => F80
        rename News _ _ _ _ => N80
        have N81 : News g' L' _ ((D, oW) :: (D4, W.listOf (intL (xo ++ xa)).toArray 0) :: (H, W.listOf (vals (popR maxBf ys y)).toArray (hc + 1)) :: (DF, oV2) :: (L' + 1 + 1 + 1, oM2) :: (L' + 1 + 1, oC) :: (L' + 1, oP1) :: (a, W.listOf (intL xa).toArray ca) :: pool) := News.part N80 (fa (by k_mem) (fa (by k_mem) (fa (by k_mem) (fa (by k_mem) (fa (by k_mem) (fa (by k_mem) (fa (by k_mem) (fa (by k_mem) (fun q hq => by first | exact dr 6 hq | exact dr 7 hq | exact dr 8 hq | exact dr 9 hq | exact dr 10 hq)))))))))
        have m4 : ∀ q, q ∈ (H, W.listOf (vals (popR maxBf ys y)).toArray (hc + 1)) :: (DF, oV2) :: (D, oW) :: (L' + 1 + 1 + 1, oM2) :: (L' + 1 + 1, oC) :: (L' + 1, oP1) :: (a, W.listOf (intL xa).toArray ca) :: pool → @Ne Nat D4 q.1 := fun q hq => Nat.ne_of_gt (l71 q hq)
        obtain ⟨g1, g2, g3, g4, g5⟩ := lHa
        k_dflt refine dset (kvs := kvG ov (List.range 7) wi) F80 N81 ?hD kW (strKind_is _ _) (by rw [sizeLine_eq]; simp [kvG]) ?_
        case hD =>
          exact fa (m4 (D, oW) (by k_mem)) (fa (Nat.ne_of_gt (Nat.lt_trans lDF lFH)) (fa (Nat.ne_of_gt lDF) (fa (Ne.symm n3) (fa (Ne.symm n2) (fa (Ne.symm n1) (fa g3 a2))))))
        intro h9 oW2 F82 N82 kW2
        rw [kvG_set r7 (over_le ov hj6) o7] at kW2
        k_steps
        refine Halt.go ?_
        rename Fr _ _ _ _ => F90
        rename News _ _ _ _ => N90
        refine ksw_end ⟨popR maxBf ys y, hc + 1, oP1, oM2, oW2, oV2, fun i => if i = over ov j then .ref D4 else wi i, fun i => if i = j then .ref a else fi i, dn ++ [j], rm.erase j, upF wn F cw j, upC ov wn F cw j, (D4, W.listOf (intL (xo ++ xa)).toArray 0) :: (a, W.listOf (intL xa).toArray ca) :: pool⟩ F90 N90 (fun p hp => ?_) trivial (fun _ h => nomatch h) (fun _ _ _ => rfl) ⟨kW2, kV2, ?_, ?_, fun p hp => .tail _ (.tail _ (ksub p hp)), ?_, ?_, ?_, ?_, ?_, ⟨_, dP1⟩, ⟨_, dM2⟩, U2, ?_⟩ ?_
        · exact (by dsimp only [US.led]; exact (fa (by k_mem) (fa (by k_mem) (fa (by k_mem) (fa (by k_mem) (fa (by k_mem) (fa (by k_mem) (fa (by k_mem) (fa (by k_mem) (fun q hq => by first | exact dr 6 hq | exact dr 7 hq | exact dr 8 hq | exact dr 9 hq | exact dr 10 hq))))))))) : ∀ p ∈ US.led _ _ _ _ _ _, p ∈ _) p hp
        · intro i hi
          by_cases e : i = over ov j
          · refine ⟨D4, 0, xo ++ xa, if_pos e, ?_, .head _⟩
            rw [List.map_append, hxo, hxa]
            show _ = upC ov wn F cw j i
            unfold upC upF
            rw [if_pos e, if_pos rfl]
          · obtain ⟨b, c, zs, z1, z2, z3⟩ := kwi i hi
            refine ⟨b, c, zs, (if_neg e).trans z1, ?_, .tail _ (.tail _ z3)⟩
            rw [z2]
            exact (if_neg e).symm
        · intro i hi
          by_cases e : i = j
          · refine ⟨a, ca, xa, if_pos e, ?_, .tail _ (.head _)⟩
            rw [hxa]
            exact (if_pos e).symm
          · rcases List.mem_append.mp hi with hi | hi
            · obtain ⟨b, c, zs, z1, z2, z3⟩ := kfi i hi
              refine ⟨b, c, zs, (if_neg e).trans z1, ?_, .tail _ (.tail _ z3)⟩
              rw [z2]
              exact (if_neg e).symm
            · exact absurd (List.mem_singleton.mp hi) e
        · exact fa (m4 (D, oW) (by k_mem)) (fa g3 a2)
        · exact fa (m4 (DF, oV2) (by k_mem)) (fa g2 a4)
        · exact fa (m4 (H, _) (.head _)) (fa g1 a5)
        · exact fa (m4 (L' + 1, oP1) (by k_mem)) (fa g4 a1)
        · exact fa (m4 (L' + 1 + 1 + 1, oM2) (by k_mem)) (fa g5 a3)
        · intro i
          show (upC ov wn F cw j i).length ≤ 3 * (dn ++ [j]).length
          have h1 := hlen i
          have h2 := hlen (over ov j)
          have h3 := lfl (wn j) (fun c => (cw j).count c)
          rw [List.length_append, List.length_singleton]
          unfold upC upF
          rw [if_pos rfl]
          split
          · rw [List.length_append]; lia
          · lia
        · show (popR maxBf ys y).length < (ys ++ [y]).length
          rw [hjl, List.length_append]
          exact Nat.lt_succ_self _
end
end Mine
end

section
open PySem PySem.W PyProof.Rows PySem.Calls
set_option maxRecDepth 100000
set_option maxHeartbeats 8000000
namespace Mine
noncomputable def Nine (W : Int) : Prop := W = 33188 ∨ W = 35309 ∨ W = 33696 ∨ W = 4516 ∨ W = 6637 ∨ W = 5024 ∨ W = 49572 ∨ W = 51693 ∨ W = 50080
theorem nine (num ov : Nat → Nat) {k : Nat} (h : isd ov (k + 1) = false) : Nine (wsh num ov (k + 1)) := by
  have e : wsh num ov (k + 1) = kdF num k * 4096 + rtF num k := by simp [wsh, h]
  have a : kdF num k = 8 ∨ kdF num k = 1 ∨ kdF num k = 12 := by
    unfold kdF
    have h1 : (((num k : Int).fdiv 30).fmod 3).toNat < 3 := by
      have := Int.fmod_lt_of_pos ((num k : Int).fdiv 30) (by decide : (0 : Int) < 3)
      lia
    generalize (((num k : Int).fdiv 30).fmod 3).toNat = j at h1
    match j, h1 with
    | 0, _ => exact .inl rfl
    | 1, _ => exact .inr (.inl rfl)
    | 2, _ => exact .inr (.inr rfl)
  have b : rtF num k = 420 ∨ rtF num k = 2541 ∨ rtF num k = 928 := by
    unfold rtF
    have h1 : (((num k : Int).fdiv 10).fmod 3).toNat < 3 := by
      have := Int.fmod_lt_of_pos ((num k : Int).fdiv 10) (by decide : (0 : Int) < 3)
      lia
    generalize (((num k : Int).fdiv 10).fmod 3).toNat = j at h1
    match j, h1 with
    | 0, _ => exact .inl rfl
    | 1, _ => exact .inr (.inl rfl)
    | 2, _ => exact .inr (.inr rfl)
  rw [e]
  unfold Nine
  lia
theorem Nine.bd {W : Int} (h : Nine W) : 0 ≤ W ∧ W < 60000 := by
  unfold Nine at h
  lia
noncomputable def kcS (W : Int) : Str := if W.fdiv 4096 = 8 then Str.ofString "-" else if W.fdiv 4096 = 1 then Str.ofString "p" else Str.ofString "s"
noncomputable def rcS (W : Int) : Str := if W.fmod 4096 = 420 then Str.ofString "rw-r--r--" else if W.fmod 4096 = 2541 then Str.ofString "rwsr-xr-x" else Str.ofString "rw-r----T"
noncomputable def KindTab (f : Int → Int) (g : Int → Str) (kvs : List (Int × Value)) : Prop := ∀ W, Nine W → ∃ t, valueAt kvs (f W) = some (.str (g W) t)
theorem kindtab (t1 t2 t3 t4 t5 t6 : Tok) : KindTab (fun W => W.fdiv 4096) kcS (intKeyPairs [(.int 8 t1, .str (Str.ofString "-") t2), (.int 1 t3, .str (Str.ofString "p") t4), (.int 12 t5, .str (Str.ofString "s") t6)]) := by
  intro W h
  rcases h with rfl | rfl | rfl | rfl | rfl | rfl | rfl | rfl | rfl <;> exact ⟨_, rfl⟩
theorem rightstab (t1 t2 t3 t4 t5 t6 : Tok) : KindTab (fun W => W.fmod 4096) rcS (intKeyPairs [(.int 420 t1, .str (Str.ofString "rw-r--r--") t2), (.int 2541 t3, .str (Str.ofString "rwsr-xr-x") t4), (.int 928 t5, .str (Str.ofString "rw-r----T") t6)]) := by
  intro W h
  rcases h with rfl | rfl | rfl | rfl | rfl | rfl | rfl | rfl | rfl <;> exact ⟨_, rfl⟩
theorem Nine.len {W : Int} (h : Nine W) : (kcS W).length ≤ 1 ∧ (rcS W).length ≤ 9 := by
  rcases h with rfl | rfl | rfl | rfl | rfl | rfl | rfl | rfl | rfl <;> decide +kernel
theorem intKind_is {prog : Program} {w : World} (k : Int) (t : Tok) : (intKind prog w).is k (.int k t) = true := by simp [intKind, Value.isInt]
theorem nine_text {W : Int} (h : Nine W) : kcS W ++ rcS W = fmF W := by
  rcases h with rfl | rfl | rfl | rfl | rfl | rfl | rfl | rfl | rfl <;> decide +kernel
section
local macro_rules | `(tactic| walk_at "ite") => `(tactic| first | with_reducible refine ite_tt ?_ | with_reducible refine ite_ff ?_)
local macro_rules | `(tactic| walk_at $k:str) => if ["call ref", "exec For Name Call cons nil", "pyIter ref", "FsEnd", "subscriptTail Name Name ref int", "subscriptTail Name Subscript ref int", "subscriptTail Tuple Name ref int", "call builtin:list.append", "getItem ref int", "subscriptTail Dict BinOp ref int", "FsPost", "compareOp NotIn int ref"].contains k.getString then `(tactic| refine Mine.halt ?_) else Lean.Macro.throwUnsupported
theorem lawlisted_c (w : World) (rest : List (Addr × Obj)) (lw lo n n2 : Nat) (ws os : List (Int × Tok)) (num ov : Nat → Nat) (hws : ws.map (·.1) = (List.range 7).map (wsh num ov)) (hos : os.map (·.1) = (List.range 6).map fun k => (ov k : Int)) :
    Ct w 2 285 [.ref lo, .ref lw] ((lw, W.listOf (intL ws).toArray n) :: (lo, W.listOf (intL os).toArray n2) :: rest) (fun v news' => ∃ l its c, v = .ref l ∧ news' = (l, W.listOf (strL its).toArray c) :: (lw, W.listOf (intL ws).toArray n) :: (lo, W.listOf (intL os).toArray n2) :: rest ∧ its.map (·.1) = ((List.range 6).filter fun k => !isd ov (k + 1)).map (fun k => fmF (wsh num ov (k + 1))) ∧ ∀ p ∈ (lw, W.listOf (intL ws).toArray n) :: (lo, W.listOf (intL os).toArray n2) :: rest, p.1 < l) := by
  unfold Ct
  k_fill
  intro loose mean mg mb dp un gd cn cs a ccd cl outer A₀ base h₀ L m s Q E B F X N T hk hdp hu hret
  refine wpAny_call ?_
  k_dflt ktr_enter
  k_steps
  refine Halt.go ?_
  rename_i l' ha l1 hb F5 N5
  k_dflt refine For_invVF F5 (by exact rfl) (by exact rfl) ?_ (by intro _; rfl) (by passes_own)
  k_steps
  refine Halt.go ?_
  rename IsRange _ _ _ _ _ _ _ _ => hR
  rename Fr _ _ _ _ => F6
  rename News _ _ _ _ => N6
  k_dflt refine range_st (σ := List (Str × Tok) × Nat) (n := 6) (fun c => (l', W.listOf (strL c.1).toArray c.2) :: (lw, W.listOf (intL ws).toArray n) :: (lo, W.listOf (intL os).toArray n2) :: rest) (fun _ => []) [Str.ofString "kind"] (fun i c => c.1.map (·.1) = ((List.range i).filter fun k => !isd ov (k + 1)).map (fun k => fmF (wsh num ov (k + 1)))) ([], 0) rfl hR (by decide) (by decide) F6 N6 (fun _ h => nomatch h) rfl ?_ ?_
  · intro I i t d u h tk own hi hJ ho1 ho2 ho3 F₁ N₁
    obtain ⟨its, c⟩ := d
    dsimp only [kstB] at F₁ N₁ hJ
    rw [show (1 : Int) + (i : Int) * 1 = ((i + 1 : Nat) : Int) by lia] at F₁
    clear F6 N6
    simp only [List.cons_append, List.nil_append] at N₁
    have hlen : its.length ≤ i := by
      have := congrArg List.length hJ
      rw [List.length_map, List.length_map] at this
      rw [this]
      exact Nat.le_trans (List.length_filter_le _ _) (by simp)
    k_steps
    refine Halt.go ?_
    rename News _ _ _ _ => N7
    k_dflt refine notin_list_ints (vs := intL os) (ns := os.map (·.1)) ⟨_, (N7 (lo, W.listOf (intL os).toArray n2) (by k_mem)).1, rfl, _, rfl⟩ (ints_intL os) ?_
    rw [any_isd hos]
    cases hd9 : isd ov (i + 1) with
    | true =>

      k_steps
      refine Halt.go ?_
      rename Fr _ _ _ _ => F7
      rename News _ _ _ _ => N7
      refine fs_end (its, c) F7 N7 (fun p hp => ?_) (fun p hp => .tail _ (.tail _ (.tail _ (List.mem_append.mpr (.inr hp))))) (fun p hp hm => ?_) (fun _ h => nomatch h) (fun z hz _ h3 => by simp only [hz, h3, if_false, Bool.false_eq_true]) ?_
      · rcases List.mem_cons.mp hp with rfl | hp
        · exact .head _
        · rcases List.mem_cons.mp hp with rfl | hp
          · exact .tail _ (.head _)
          · rcases List.mem_cons.mp hp with rfl | hp
            · exact .tail _ (.tail _ (.head _))
            · exact .tail _ (.tail _ (.tail _ (List.mem_append.mpr (.inl hp))))
      · have e := List.mem_singleton.mp hm
        rcases List.mem_cons.mp hp with rfl | hp
        · exact ho3 _ (.head _) e
        · exact ho3 _ (.tail _ hp) e
      · show its.map _ = _
        rw [hJ, List.range_succ, List.filter_append]
        simp [hd9]
    | false =>
      obtain ⟨tw, htw⟩ : ∃ t, ws[i + 1]? = some (wsh num ov (i + 1), t) := get_of_map hws (by lia)
      rw [Bool.not_false]
      k_steps
      refine Halt.go ?_
      have hw9 := nine num ov hd9
      generalize hww : wsh num ov (i + 1) = wv at htw hw9
      obtain ⟨hw0, hw1⟩ := hw9.bd
      obtain ⟨hl0, hl1⟩ := hw9.len
      rename Obj.IsDictOf _ _ _ => hdk
      obtain ⟨kvs, hkd, hkt⟩ : ∃ kvs, Obj.IsDictOf _ _ kvs ∧ KindTab (fun W => W.fdiv 4096) kcS kvs := ⟨_, hdk, kindtab _ _ _ _ _ _⟩
      clear hdk
      dsimp only
      k_dflt refine item_getV (vs := intL ws) (i + 1) (.int wv tw) (by k_asm) (by k_mem) rfl (by lia) (by simp [intL, htw]) ?_
      k_steps
      refine Halt.go ?_
      dsimp only
      obtain ⟨tk9, hv9⟩ := hkt wv hw9
      k_dflt refine kdt_getItem (k := wv.fdiv 4096) (by k_asm) (.head _) hkd (by exact intKind_is _ _) hv9 ?_
      k_steps
      refine Halt.go ?_
      rename Obj.IsDictOf _ _ _ => hdk
      obtain ⟨kvs2, hkd2, hkt2⟩ : ∃ kvs, Obj.IsDictOf _ _ kvs ∧ KindTab (fun W => W.fmod 4096) rcS kvs := ⟨_, hdk, rightstab _ _ _ _ _ _⟩
      clear hdk
      dsimp only
      k_dflt refine item_getV (vs := intL ws) (i + 1) (.int wv tw) (by k_asm) (by k_mem) rfl (by lia) (by simp [intL, htw]) ?_
      k_steps
      refine Halt.go ?_
      dsimp only
      obtain ⟨tk8, hv8⟩ := hkt2 wv hw9
      k_dflt refine kdt_getItem (k := wv.fmod 4096) (by k_asm) (.head _) hkd2 (by exact intKind_is _ _) hv8 ?_
      k_steps
      refine Halt.go ?_
      rename Fr _ _ _ _ => F7
      rename News _ _ _ _ => N7
      have N8 : News _ _ _ ((l', W.listOf (strL its).toArray c) :: (lw, W.listOf (intL ws).toArray n) :: (lo, W.listOf (intL os).toArray n2) :: (rest ++ own)) := fun p hp => N7 p (.tail _ (.tail _ hp))
      obtain ⟨h1a, h1b, h1c⟩ := l1
      k_dflt refine append_ledS F7 N8 ?hoff (by lia) ?_
      case hoff =>
        intro p hp
        rcases List.mem_cons.mp hp with rfl | hp
        · exact Nat.ne_of_lt (ltN h1a)
        · rcases List.mem_cons.mp hp with rfl | hp
          · exact Nat.ne_of_lt (ltN h1b)
          · rcases List.mem_append.mp hp with hp | hp
            · exact Nat.ne_of_lt (kst_ltOf h1c p hp)
            · rw [ho1 p hp]; exact Ne.symm (ho3 _ (.head _))
      intro h3 z3 hz3 F9 N9
      k_steps
      refine Halt.go ?_
      rename Fr _ _ _ _ => F10
      rename News _ _ _ _ => N10
      refine fs_end (z3, c + 1) F10 N10 (fun p hp => ?_) (fun p hp => .tail _ (.tail _ (.tail _ (List.mem_append.mpr (.inr hp))))) (fun p hp hm => ?_) (fun _ h => nomatch h) (fun z hz _ h3 => ?_) ?_
      · rcases List.mem_cons.mp hp with rfl | hp
        · exact .head _
        · rcases List.mem_cons.mp hp with rfl | hp
          · exact .tail _ (.head _)
          · rcases List.mem_cons.mp hp with rfl | hp
            · exact .tail _ (.tail _ (.head _))
            · exact .tail _ (.tail _ (.tail _ (List.mem_append.mpr (.inl hp))))
      · have e := List.mem_singleton.mp hm
        rcases List.mem_cons.mp hp with rfl | hp
        · exact ho3 _ (.head _) e
        · exact ho3 _ (.tail _ hp) e
      · have g4 : z ≠ Str.ofString "kind" := by simpa using h3
        simp only [hz, g4, h3, if_false, Bool.false_eq_true]
      · show z3.map _ = _
        rw [hz3, hJ, List.range_succ, List.filter_append, List.map_append]
        simp [hd9, hww, nine_text hw9]
  · intro d u h tk hJ F₁ N₁
    obtain ⟨its, c⟩ := d
    dsimp only [kstB] at F₁ N₁ hJ
    obtain ⟨h1a, h1b, h1c⟩ := l1
    k_steps
    refine hret _ _ _ _ ⟨l', its, c, rfl, rfl, hJ, ?_⟩ (by k_asm) (by k_asm)
    intro p hp
    rcases List.mem_cons.mp hp with rfl | hp
    · exact ltN h1a
    · rcases List.mem_cons.mp hp with rfl | hp
      · exact ltN h1b
      · exact kst_ltOf h1c p hp
end
end Mine
end

section
open PySem PySem.W PyProof.Rows
set_option maxRecDepth 100000
set_option maxHeartbeats 2000000
namespace Mine
/-- the right that a place has in the end -/
noncomputable def finF (ov : Nat → Nat) (F : Nat → List Int) : Nat → Int
  | 0 => (F 0).headD 0
  | k + 1 => if finF ov F (prn ov k) ∈ F (k + 1) then finF ov F (prn ov k) else (F (k + 1)).headD 0
termination_by j => j
decreasing_by all_goals exact Nat.lt_succ_of_le (prn_le ov k)
theorem finF_zero (ov : Nat → Nat) (F : Nat → List Int) : finF ov F 0 = (F 0).headD 0 := by rw [finF]
theorem finF_succ (ov : Nat → Nat) (F : Nat → List Int) (k : Nat) : finF ov F (k + 1) = if finF ov F (prn ov k) ∈ F (k + 1) then finF ov F (prn ov k) else (F (k + 1)).headD 0 := by rw [finF]
noncomputable def callsF (ov : Nat → Nat) (F : Nat → List Int) : Nat := ((List.range 6).filter fun k => decide (finF ov F (prn ov k) ∉ F (k + 1))).length
/-- what the up loop gives -/
noncomputable def Serve (num ov : Nat → Nat) (F : Nat → List Int) : Prop := ∀ j, j ≤ 6 → F j = servF (wsh num ov j) (kids ov F (List.range 7) j)
theorem nine_and {W : Int} (h : Nine W) : dirW W = false ∧ Builtin.bitAnd W 4095 ∈ R3 ∧ Builtin.bitAnd W 4095 = W.fmod 4096 := by
  rcases h with rfl | rfl | rfl | rfl | rfl | rfl | rfl | rfl | rfl <;> decide +kernel
theorem dir_dir : dirW 16384 = true := by decide +kernel
theorem wsh_dir {num ov : Nat → Nat} {j : Nat} (h : isd ov j = true) : wsh num ov j = 16384 := by
  cases j with
  | zero => rfl
  | succ k => simp [wsh, h]
section
variable {num ov : Nat → Nat} {F : Nat → List Int}
theorem Serve.file (S : Serve num ov F) {k : Nat} (hk : k < 6) (h : isd ov (k + 1) = false) : F (k + 1) = [Builtin.bitAnd (wsh num ov (k + 1)) 4095] := by
  rw [S (k + 1) (by lia)]
  unfold servF
  rw [(nine_and (nine num ov h)).1]
  rfl
theorem Serve.dir (S : Serve num ov F) {j : Nat} (hj : j ≤ 6) (h : isd ov j = true) : F j = R3.filter (fun c => decide (kids ov F (List.range 7) j c = max3 (kids ov F (List.range 7) j))) := by
  rw [S j hj]
  unfold servF
  rw [wsh_dir h, dir_dir]
  rfl
theorem isd_zero (hov : ∀ k, k < 6 → ov k ≤ k) : isd ov 0 = true := by
  unfold isd
  rw [List.any_eq_true]
  exact ⟨0, by simp, by have := hov 0 (by lia); simp; lia⟩
theorem Serve.rights (S : Serve num ov F) (hov : ∀ k, k < 6 → ov k ≤ k) {j : Nat} (hj : j ≤ 6) : (∀ c ∈ F j, c ∈ R3) ∧ F j ≠ [] := by
  cases h : isd ov j with
  | true =>
    rw [S.dir hj h]
    refine ⟨fun c hc => (List.mem_filter.mp hc).1, fun e => ?_⟩
    generalize kids ov F (List.range 7) j = f at e
    rw [List.filter_eq_nil_iff] at e
    have e1 := e 420 (by simp [R3])
    have e2 := e 2541 (by simp [R3])
    have e3 := e 928 (by simp [R3])
    simp only [decide_eq_true_eq] at e1 e2 e3
    unfold max3 at e1 e2 e3
    lia
  | false =>
    obtain ⟨k, rfl⟩ : ∃ k, j = k + 1 := by
      cases j with
      | zero => rw [isd_zero hov] at h; cases h
      | succ k => exact ⟨k, rfl⟩
    rw [S.file (by lia) h]
    exact ⟨fun c hc => by rw [List.mem_singleton.mp hc]; exact (nine_and (nine num ov h)).2.1, by simp⟩
theorem headD_mem {l : List Int} (h : l ≠ []) : l.headD 0 ∈ l := by
  cases l with
  | nil => exact absurd rfl h
  | cons a t => exact .head _
theorem Serve.fin_mem (S : Serve num ov F) (hov : ∀ k, k < 6 → ov k ≤ k) {j : Nat} (hj : j ≤ 6) : finF ov F j ∈ F j := by
  cases j with
  | zero => rw [finF_zero]; exact headD_mem (S.rights hov hj).2
  | succ k =>
    rw [finF_succ]
    split
    · assumption
    · exact headD_mem (S.rights hov hj).2
/-- how many of j's, from place 6 - i on, are served by c -/
noncomputable def kd (ov : Nat → Nat) (F : Nat → List Int) (i j : Nat) (c : Int) : Nat := ((List.range 6).filter fun k => decide (6 - i ≤ k) && decide (ov k = j) && decide (c ∈ F (k + 1))).length
theorem kd_zero (j : Nat) (c : Int) : kd ov F 0 j c = 0 := by
  unfold kd
  rw [List.length_eq_zero_iff, List.filter_eq_nil_iff]
  intro k hk
  have := List.mem_range.mp hk
  simp; lia
theorem kd_step {i j : Nat} (hi : i < 6) (c : Int) : kd ov F (i + 1) j c = kd ov F i j c + (if ov (5 - i) = j ∧ c ∈ F (6 - i) then 1 else 0) := by
  unfold kd
  rw [filter_one (l := List.range 6) (q := fun k => decide (6 - (i + 1) ≤ k) && decide (ov k = j) && decide (c ∈ F (k + 1))) (p := fun k => decide (6 - i ≤ k) && decide (ov k = j) && decide (c ∈ F (k + 1))) (a := 5 - i) List.nodup_range (List.mem_range.mpr (by lia)) (by simp; lia)]
  · congr 1
    have e1 : 6 - (i + 1) ≤ 5 - i := by lia
    have e2 : 5 - i + 1 = 6 - i := by lia
    simp [e2, e1]
  · intro k hk hne
    have : (6 - (i + 1) ≤ k) = (6 - i ≤ k) := propext (by lia)
    simp only [this]
theorem prn_ov (hov : ∀ k, k < 6 → ov k ≤ k) {k : Nat} (hk : k < 6) : prn ov k = ov k := Nat.min_eq_left (hov k hk)
theorem kd_kids (hov : ∀ k, k < 6 → ov k ≤ k) {i p : Nat} (hp : 6 - i ≤ p) (c : Int) : kd ov F i p c = kids ov F (List.range 7) p c := by
  unfold kd kids
  congr 1
  refine List.filter_congr fun k hk => ?_
  have hk := List.mem_range.mp hk
  have h1 := prn_ov hov hk
  have h2 := hov k hk
  rw [h1]
  by_cases e : ov k = p
  · have e1 : 6 - i ≤ k := by lia
    have e2 : k + 1 < 7 := by lia
    simp [e, e1, e2]
  · simp [e]
noncomputable def HartAt (F : Nat → List Int) (C : Nat → Int) (p : Nat) : Prop := ∀ c, c < 4 → (clr c ∈ F p → C c = mn4 C) ∧ (clr c ∉ F p → mn4 C + 1 ≤ C c)
theorem Serve.not0 (S : Serve num ov F) (hov : ∀ k, k < 6 → ov k ≤ k) {j : Nat} (hj : j ≤ 6) : (0 : Int) ∉ F j := fun h => by
  have := (S.rights hov hj).1 0 h
  revert this; decide
theorem hart_num {C : Nat → Int} {K : Int} {f : Int → Nat} (h0 : f 0 = 0) (hC : ∀ c, c < 4 → C c = K - f (clr c)) : ∀ c, c < 4 → (f (clr c) = max3 f → C c = mn4 C) ∧ (f (clr c) ≠ max3 f → mn4 C + 1 ≤ C c) := by
  obtain ⟨g1, g2, g3⟩ := max3_ge f
  have e : ∀ c, c < 4 → f (clr c) ≤ max3 f := fun c hc => match c, hc with
    | 0, _ => Nat.le_trans (Nat.le_of_eq h0) (Nat.zero_le _)
    | 1, _ => g1
    | 2, _ => g2
    | 3, _ => g3
  obtain ⟨_, k1, k2, k3⟩ := mn4_le C
  have hmn : mn4 C = K - (max3 f : Nat) := by
    refine Int.le_antisymm ?_ (le_mn4 fun c hc => by rw [hC c hc]; exact Int.sub_le_sub_left (Int.ofNat_le.mpr (e c hc)) K)
    rcases max3_or f with h | h | h <;> rw [h]
    · exact hC 1 (by decide) ▸ k1
    · exact hC 2 (by decide) ▸ k2
    · exact hC 3 (by decide) ▸ k3
  intro c hc
  have ec := e c hc
  rw [hmn, hC c hc]
  generalize f (clr c) = a at ec ⊢
  generalize max3 f = b at ec ⊢
  exact ⟨fun h => by rw [h], fun h => by lia⟩
theorem clr_R3 {c : Nat} (hc : c < 4) (h : c ≠ 0) : clr c ∈ R3 := match c, hc, h with
  | 1, _, _ => by decide
  | 2, _, _ => by decide
  | 3, _, _ => by decide
theorem hart_dir (S : Serve num ov F) (hov : ∀ k, k < 6 → ov k ≤ k) {i p : Nat} (hp : p ≤ 6) (hi : 6 - i ≤ p) (hd : isd ov p = true) {C : Nat → Int} {K : Int} (hC : ∀ c, c < 4 → C c = K - kd ov F i p (clr c)) : HartAt F C p := by
  have h0 : kids ov F (List.range 7) p 0 = 0 := by
    unfold kids
    rw [List.length_eq_zero_iff, List.filter_eq_nil_iff]
    intro k hk
    have hk := List.mem_range.mp hk
    simp [S.not0 hov (j := k + 1) (by lia)]
  have h1 : 1 ≤ max3 (kids ov F (List.range 7) p) := by
    unfold isd at hd
    obtain ⟨k, hk, e⟩ := List.any_eq_true.mp hd
    have hk := List.mem_range.mp hk
    have e : ov k = p := by simpa using e
    obtain ⟨r1, r2⟩ := S.rights hov (j := k + 1) (by lia)
    obtain ⟨c, hc⟩ := List.exists_mem_of_ne_nil _ r2
    have pos : 0 < kids ov F (List.range 7) p c := by
      unfold kids
      refine List.length_pos_of_mem (a := k) (List.mem_filter.mpr ⟨List.mem_range.mpr hk, ?_⟩)
      have e2 : k + 1 < 7 := by lia
      simp [prn_ov hov hk, e, hc, e2]
    have := r1 c hc
    unfold max3
    simp only [R3, List.mem_cons, List.not_mem_nil, or_false] at this
    rcases this with rfl | rfl | rfl <;> lia
  have hm : ∀ c, c ∈ F p ↔ c ∈ R3 ∧ kids ov F (List.range 7) p c = max3 (kids ov F (List.range 7) p) := fun c => by
    rw [S.dir hp hd, List.mem_filter, decide_eq_true_eq]
  have hC' : ∀ c, c < 4 → C c = K - kids ov F (List.range 7) p (clr c) := fun c hc => by rw [hC c hc, kd_kids hov hi]
  intro c hc
  obtain ⟨n1, n2⟩ := hart_num h0 hC' c hc
  refine ⟨fun h => n1 ((hm _).mp h).2, fun h => n2 fun e => h ((hm _).mpr ⟨clr_R3 hc fun e0 => ?_, e⟩)⟩
  rw [e0] at e
  have e : kids ov F (List.range 7) p 0 = _ := e
  rw [← e, h0] at h1
  exact absurd h1 (by decide)
theorem hart_file (S : Serve num ov F) {k : Nat} (hk : k < 6) (hd : isd ov (k + 1) = false) {C : Nat → Int} (hC : ∀ c, C c = if (wsh num ov (k + 1)).fmod 4096 = clr c then 0 else 99) : HartAt F C (k + 1) := by
  obtain ⟨_, n2, n3⟩ := nine_and (nine num ov hd)
  rw [n3] at n2
  have hF := S.file hk hd
  rw [n3] at hF
  generalize (wsh num ov (k + 1)).fmod 4096 = r at n2 hF hC
  have c0 := hC 0
  have c1 := hC 1
  have c2 := hC 2
  have c3 := hC 3
  have g0 : clr 0 = 0 := rfl
  have g1 : clr 1 = 420 := rfl
  have g2 : clr 2 = 2541 := rfl
  have g3 : clr 3 = 928 := rfl
  rw [g0] at c0
  rw [g1] at c1
  rw [g2] at c2
  rw [g3] at c3
  simp only [R3, List.mem_cons, List.not_mem_nil, or_false] at n2
  have hmn : mn4 C = 0 := by
    unfold mn4
    rcases n2 with rfl | rfl | rfl <;> simp at c0 c1 c2 c3 <;> lia
  intro c hc
  rw [hF, hmn, hC c, List.mem_singleton]
  constructor
  · intro h; rw [if_pos h.symm]
  · intro h; rw [if_neg (fun e => h e.symm)]; lia
theorem CC_form (S : Serve num ov F) (hov : ∀ k, k < 6 → ov k ≤ k) : ∀ i, i ≤ 6 → ∀ q, q ≤ 6 - i → (∃ K : Int, ∀ c, c < 4 → CC num ov i q c = K - kd ov F i q (clr c)) ∧ (isd ov q = false → ∀ c, CC num ov i q c = 0) ∧ (q = 6 - i → HartAt F (leafC num ov q (CC num ov i) q) q) := by
  intro i
  have hart : ∀ i q, i ≤ 6 → q = 6 - i → (∃ K : Int, ∀ c, c < 4 → CC num ov i q c = K - kd ov F i q (clr c)) → HartAt F (leafC num ov q (CC num ov i) q) q := by
    rintro i q hi rfl ⟨K, hK⟩
    cases hd : isd ov (6 - i) with
    | true =>
      refine hart_dir S hov (i := i) (K := K) (by lia) (Nat.le_refl _) hd fun c hc => ?_
      rw [← hK c hc]
      simp [leafC, hd]
    | false =>
      obtain ⟨k, e⟩ : ∃ k, 6 - i = k + 1 := by
        cases e : 6 - i with
        | zero => rw [e, isd_zero hov] at hd; cases hd
        | succ k => exact ⟨k, rfl⟩
      rw [e] at hd ⊢
      refine hart_file S (by lia) hd fun c => ?_
      simp [leafC, hd]
  induction i with
  | zero =>
    intro hi q hq
    have h0 : ∃ K : Int, ∀ c, c < 4 → CC num ov 0 q c = K - kd ov F 0 q (clr c) := ⟨0, fun c _ => by rw [kd_zero]; rfl⟩
    exact ⟨h0, fun _ _ => rfl, fun h => hart 0 q hi h h0⟩
  | succ i ih =>
    intro hi q hq
    have hp : 6 - i ≤ 6 - i := Nat.le_refl _
    obtain ⟨_, _, hH⟩ := ih (by lia) (6 - i) hp
    have hH := hH rfl
    obtain ⟨⟨K, hK⟩, hz, _⟩ := ih (by lia) q (by lia)
    have hqp : q ≠ 6 - i := by lia
    have hleaf : ∀ c, leafC num ov (6 - i) (CC num ov i) q c = CC num ov i q c := fun c => by
      unfold leafC
      split
      · rfl
      · simp [hqp]
    have h1 : ∃ K : Int, ∀ c, c < 4 → CC num ov (i + 1) q c = K - kd ov F (i + 1) q (clr c) := by
      have e5 : 6 - i - 1 = 5 - i := by lia
      by_cases e : q = ov (6 - i - 1)
      · refine ⟨K + mn4 (leafC num ov (6 - i) (CC num ov i) (6 - i)) + 1, fun c hc => ?_⟩
        show pushC ov (6 - i) _ q c = _
        unfold pushC
        rw [if_pos e, hleaf, hK c hc, kd_step (by lia), ← e5]
        obtain ⟨a1, a2⟩ := hH c hc
        by_cases hm : clr c ∈ F (6 - i)
        · rw [a1 hm, if_pos ⟨e.symm, hm⟩]; lia
        · have := a2 hm
          rw [if_neg (fun h => hm h.2)]; lia
      · refine ⟨K, fun c hc => ?_⟩
        show pushC ov (6 - i) _ q c = _
        unfold pushC
        rw [if_neg e, hleaf, hK c hc, kd_step (by lia), ← e5, if_neg (fun h => e h.1.symm)]; rfl
    refine ⟨h1, fun hd c => ?_, fun h => hart (i + 1) q hi h h1⟩
    show pushC ov (6 - i) _ q c = _
    have e : q ≠ ov (6 - i - 1) := fun e => by
      have : isd ov q = true := by
        unfold isd
        rw [List.any_eq_true]
        exact ⟨6 - i - 1, List.mem_range.mpr (by lia), by simp [e]⟩
      rw [this] at hd; cases hd
    unfold pushC
    rw [if_neg e, hleaf, hz hd c]
noncomputable def sm (f : Nat → Int) : Nat → Int
  | 0 => 0
  | n + 1 => sm f n + f n
theorem sm_congr {f g : Nat → Int} : ∀ {n}, (∀ q, q < n → f q = g q) → sm f n = sm g n
  | 0, _ => rfl
  | n + 1, h => by rw [sm, sm, sm_congr fun q hq => h q (by lia), h n (by lia)]
theorem sm_add {f g : Nat → Int} {a : Nat} {d : Int} : ∀ {n}, a < n → (∀ q, q < n → g q = if q = a then f q + d else f q) → sm g n = sm f n + d
  | 0, h, _ => absurd h (by lia)
  | n + 1, h, hg => by
    rw [sm, sm, hg n (by lia)]
    by_cases e : n = a
    · rw [if_pos e, sm_congr (g := f) fun q hq => by rw [hg q (by lia), if_neg (by lia)]]; lia
    · rw [if_neg e, sm_add (f := f) (a := a) (d := d) (by lia) fun q hq => hg q (by lia)]; lia
noncomputable def idx (c : Int) : Nat := if c = 420 then 1 else if c = 2541 then 2 else 3
theorem idx_clr {c : Int} (h : c ∈ R3) : idx c < 4 ∧ clr (idx c) = c := by
  simp only [R3, List.mem_cons, List.not_mem_nil, or_false] at h
  rcases h with rfl | rfl | rfl <;> decide
/-- the places from 6 - i on that have other rights than the one above them -/
noncomputable def chg (ov : Nat → Nat) (F : Nat → List Int) (i : Nat) : Nat := ((List.range 6).filter fun k => decide (6 - i ≤ k) && decide (finF ov F (prn ov k) ∉ F (k + 1))).length
theorem chg_step {i : Nat} (hi : i < 6) : chg ov F (i + 1) = chg ov F i + (if finF ov F (prn ov (5 - i)) ∉ F (6 - i) then 1 else 0) := by
  unfold chg
  rw [filter_one (l := List.range 6) (q := fun k => decide (6 - (i + 1) ≤ k) && decide (finF ov F (prn ov k) ∉ F (k + 1))) (p := fun k => decide (6 - i ≤ k) && decide (finF ov F (prn ov k) ∉ F (k + 1))) (a := 5 - i) List.nodup_range (List.mem_range.mpr (by lia)) (by simp; lia)]
  · congr 1
    have e1 : 6 - (i + 1) ≤ 5 - i := by lia
    have e2 : 5 - i + 1 = 6 - i := by lia
    simp [e2, e1]
  · intro k hk hne
    have : (6 - (i + 1) ≤ k) = (6 - i ≤ k) := propext (by lia)
    simp only [this]
theorem CC_sum (S : Serve num ov F) (hov : ∀ k, k < 6 → ov k ≤ k) : ∀ i, i ≤ 6 → sm (fun q => CC num ov i q (idx (finF ov F q))) (7 - i) = chg ov F i := by
  intro i
  induction i with
  | zero =>
    intro _
    have h0 : chg ov F 0 = 0 := by
      unfold chg
      rw [List.length_eq_zero_iff, List.filter_eq_nil_iff]
      intro k hk
      have := List.mem_range.mp hk
      simp; lia
    rw [h0]
    rfl
  | succ i ih =>
    intro hi
    have ih := ih (by lia)
    obtain ⟨_, hz, hH⟩ := CC_form S hov i (by lia) (6 - i) (Nat.le_refl _)
    have hH := hH rfl
    obtain ⟨p, hp⟩ : ∃ p, p = 6 - i := ⟨_, rfl⟩
    rw [← hp] at hz hH
    have fp := S.fin_mem hov (j := p) (by lia)
    obtain ⟨ip1, ip2⟩ := idx_clr ((S.rights hov (j := p) (by lia)).1 _ fp)
    have hM : mn4 (leafC num ov p (CC num ov i) p) = CC num ov i p (idx (finF ov F p)) := by
      rw [← (hH _ ip1).1 (by rw [ip2]; exact fp)]
      cases hd : isd ov p with
      | true => simp [leafC, hd]
      | false =>
        rw [hz hd]
        have hm := (hH _ ip1).1 (by rw [ip2]; exact fp)
        obtain ⟨k, rfl⟩ : ∃ k, p = k + 1 := ⟨p - 1, by lia⟩
        have hF := S.file (by lia) hd
        rw [hF, List.mem_singleton, (nine_and (nine num ov hd)).2.2] at fp
        rw [fp] at ip2 ⊢
        simp [leafC, hd, ip2]
    have e5 : p - 1 = 5 - i := by lia
    have hop : ov (p - 1) < p := by have := hov (p - 1) (by lia); lia
    have fo := S.fin_mem hov (j := ov (p - 1)) (by lia)
    obtain ⟨io1, io2⟩ := idx_clr ((S.rights hov (j := ov (p - 1)) (by lia)).1 _ fo)
    have e7 : 7 - i = p + 1 := by lia
    have e8 : 7 - (i + 1) = p := by lia
    rw [e7, sm] at ih
    rw [e8, chg_step (by lia), sm_add (f := fun q => CC num ov i q (idx (finF ov F q))) (a := ov (p - 1)) (d := mn4 (leafC num ov p (CC num ov i) p) + if finF ov F (prn ov (5 - i)) ∉ F (6 - i) then 1 else 0) hop]
    · rw [hM]
      have : ∀ P : Prop, [Decidable P] → ((if P then 1 else 0 : Nat) : Int) = if P then (1 : Int) else 0 := fun P _ => by split <;> rfl
      rw [Int.natCast_add, this, ← ih]
      lia
    · intro q hq
      have hleaf : ∀ c, leafC num ov p (CC num ov i) q c = CC num ov i q c := fun c => by
        unfold leafC
        split
        · rfl
        · simp; lia
      show pushC ov (6 - i) (leafC num ov (6 - i) (CC num ov i)) q _ = _
      rw [← hp]
      unfold pushC
      by_cases e : q = ov (p - 1)
      · rw [if_pos e, if_pos e, hleaf]
        subst e
        obtain ⟨a1, a2⟩ := hH _ io1
        rw [io2] at a1 a2
        rw [← e5, prn_ov hov (by lia : p - 1 < 6)]
        by_cases hm : finF ov F (ov (p - 1)) ∈ F p
        · rw [a1 hm, if_neg (fun h => h hm)]; lia
        · have := a2 hm
          rw [if_pos hm]; lia
      · rw [if_neg e, if_neg e, hleaf]
theorem few_eq (S : Serve num ov F) (hov : ∀ k, k < 6 → ov k ≤ k) : fewF num ov = (callsF ov F : Int) + 1 := by
  obtain ⟨_, _, hH⟩ := CC_form S hov 6 (Nat.le_refl _) 0 (Nat.le_refl _)
  have hH := hH rfl
  have hd := isd_zero hov
  have hl : leafC num ov 0 (CC num ov 6) 0 = CC num ov 6 0 := by simp [leafC, hd]
  rw [hl] at hH
  have hs := CC_sum S hov 6 (Nat.le_refl _)
  have f0 := S.fin_mem hov (j := 0) (by lia)
  obtain ⟨i1, i2⟩ := idx_clr ((S.rights hov (j := 0) (by lia)).1 _ f0)
  have hm := (hH _ i1).1 (by rw [i2]; exact f0)
  have h0 := (hH 0 (by lia)).2 (S.not0 hov (by lia))
  have hc : chg ov F 6 = callsF ov F := by
    unfold chg callsF
    simp
  rw [hc] at hs
  have hs : (0 : Int) + CC num ov 6 0 (idx (finF ov F 0)) = callsF ov F := hs
  unfold fewF
  lia
end
end Mine
end

section
open PySem PySem.W PyProof.Rows PyProof.V PySem.Spec
set_option maxRecDepth 100000
set_option maxHeartbeats 2000000
namespace Mine
theorem nine_ok {W : Int} (h : Nine W) : PyData.strOk (fmF W) = true := by
  rcases h with rfl | rfl | rfl | rfl | rfl | rfl | rfl | rfl | rfl <;> decide +kernel
theorem dir_isd {num ov : Nat → Nat} {k : Nat} : dirW (wsh num ov (k + 1)) = isd ov (k + 1) := by
  cases h : isd ov (k + 1) with
  | true => rw [wsh_dir h]; exact dir_dir
  | false => exact (nine_and (nine num ov h)).1
theorem nine_sum' {W : Int} (h : Nine W) : Builtin.bitAnd W 61440 + Builtin.bitAnd W 4095 = W := by
  rcases h with rfl | rfl | rfl | rfl | rfl | rfl | rfl | rfl | rfl <;> decide +kernel
theorem listed_eq {num ov : Nat → Nat} {F : Nat → List Int} (S : Serve num ov F) (hov : ∀ k, k < 6 → ov k ≤ k) : (((List.range 7).filter fun j => !dirW (wsh num ov j)).map fun j => fmF (Builtin.bitAnd (wsh num ov j) 61440 + finF ov F j)) = ((List.range 6).filter fun k => !isd ov (k + 1)).map fun k => fmF (wsh num ov (k + 1)) := by
  rw [show List.range 7 = 0 :: (List.range 6).map (· + 1) from rfl, List.filter_cons_of_neg (by rw [show wsh num ov 0 = 16384 from rfl, dir_dir]; decide), List.filter_map, List.map_map]
  have e : (List.range 6).filter ((fun j => !dirW (wsh num ov j)) ∘ fun x => x + 1) = (List.range 6).filter fun k => !isd ov (k + 1) := by
    refine List.filter_congr fun k _ => ?_
    show (!dirW (wsh num ov (k + 1))) = _
    rw [dir_isd]
  rw [e]
  refine List.map_congr_left fun k hk => ?_
  obtain ⟨h1, h2⟩ := List.mem_filter.mp hk
  have hk6 := List.mem_range.mp h1
  have hd : isd ov (k + 1) = false := by simpa using h2
  have hf := S.fin_mem hov (j := k + 1) (by lia)
  rw [S.file hk6 hd, List.mem_singleton] at hf
  show fmF (Builtin.bitAnd (wsh num ov (k + 1)) 61440 + finF ov F (k + 1)) = _
  rw [hf, nine_sum' (nine num ov hd)]
theorem listed_ok {num ov : Nat → Nat} : ∀ x ∈ ((List.range 6).filter fun k => !isd ov (k + 1)).map fun k => fmF (wsh num ov (k + 1)), PyData.strOk x = true := by
  intro x hx
  obtain ⟨k, hk, rfl⟩ := List.mem_map.mp hx
  have h2 := (List.mem_filter.mp hk).2
  exact nine_ok (nine num ov (by simpa using h2))
theorem strL_carried : ∀ xs : List (Str × Tok), CarriedAll (strL xs) ((xs.map (·.1)).map PyData.str)
  | [] => .nil
  | p :: r => .cons (.str p.1 p.2) (strL_carried r)
section
variable {prog : Program} {w : World} {A : Around} {E : Value → Shared → Prop} {s : Shared} {T r U q : Addr} {oT oR oU oQ : Obj} {xs ys : List (Str × Tok)} {n k n1 n2 : Nat} {c d : Int} {t u : Tok} {Q : Value → Shared → Prop}
theorem eq_pair (hT : s.heap.get? T = some oT) (hTc : oT.cls = .type "tuple") (hTd : oT.data = .seq #[.int c t, .ref r] n1) (hr : s.heap.IsList r (strL xs).toArray) (hU : s.heap.get? U = some oU) (hUc : oU.cls = .type "tuple") (hUd : oU.data = .seq #[.int d u, .ref q] n2) (hq : s.heap.IsList q (strL ys).toArray)
    (hcd : c = d) (hxy : xs.map (·.1) = ys.map (·.1)) (ok : ∀ x ∈ ys.map (·.1), PyData.strOk x = true) (hu : A.units + 64 < cLine) (h : Q (.bool true) s) : wpAny (model prog w) A (compareOp .Eq (.ref T) (.ref U)) Q E s := by
  have shp : ∀ (e : Int) (ns : List Str), (∀ x ∈ ns, PyData.strOk x = true) → SeqAt.shaped (.tuple [.int e, .list (ns.map PyData.str)]) = true := fun e ns hn => by
    simp [SeqAt.shaped, PyData.canLay0, PyData.canLayAll0, PyData.depth, PyData.depthAll, es_canLayAll0 ns hn, es_depthAll]
  refine eq_dataH_same (da := .tuple [.int c, .list ((xs.map (·.1)).map PyData.str)]) (db := .tuple [.int d, .list ((ys.map (·.1)).map PyData.str)]) (.tuple hT hTc hTd (.cons (.int c t) (.cons (reads_newData hr (strL_carried xs)) .nil))) (.tuple hU hUc hUd (.cons (.int d u) (.cons (reads_newData hq (strL_carried ys)) .nil))) (shp _ _ (by rw [hxy]; exact ok)) (shp _ _ ok) hu ?_ ?_
  · have hl : ∀ ns ms : List Str, SeqAt.noMixAll (ns.map PyData.str) (ms.map PyData.str) = true := by
      intro ns
      induction ns with
      | nil => intro ms; cases ms <;> simp [SeqAt.noMixAll]
      | cons a t ih => intro ms; cases ms <;> simp [SeqAt.noMixAll, SeqAt.noMix, ih]
    simp only [SeqAt.noMix, SeqAt.noMixAll, hl, Bool.and_self]
  · have : PySem.Spec.same (.tuple [.int c, .list ((xs.map (·.1)).map PyData.str)]) (.tuple [.int d, .list ((ys.map (·.1)).map PyData.str)]) = true := by
      subst hcd
      rw [hxy]
      simp only [PySem.Spec.same, PySem.Spec.sameAll, es_sameAll]
      simp
    rw [this]
    exact h
end
end Mine
end

section
open PySem PySem.W PyProof.Rows
set_option maxRecDepth 100000
set_option maxHeartbeats 2000000
namespace Mine
theorem ints_shape : ∀ {vs : List Value} {ns : List Int}, IntsAre vs ns → ∃ xs : List (Int × Tok), vs = intL xs ∧ xs.map (·.1) = ns := by
  intro vs ns h
  induction h with
  | nil => exact ⟨[], rfl, rfl⟩
  | cons k t _ ih =>
    obtain ⟨xs, rfl, hx⟩ := ih
    exact ⟨(k, t) :: xs, rfl, by rw [List.map_cons, hx]⟩
theorem pick_take {vs : List Value} {i : Nat} : (slicePick vs.toArray none (some (i : Int)) none).toList = vs.take i := by
  have e : sliceBounds none (some (i : Int)) none vs.toArray.size = (((0 : Nat) : Int), ((min i vs.length : Nat) : Int), 1) := by
    simp only [sliceBounds, Option.getD_none, show (1 : Int) > 0 by decide, if_true, if_neg (show ¬ ((i : Int) < 0) by lia), List.size_toArray]
    congr 1
    congr 1
    lia
  rw [kmk_pick_nat _ e]
  simp
theorem pick_drop {vs : List Value} {i : Nat} : (slicePick vs.toArray (some (i : Int)) none none).toList = vs.drop i := by
  have e : sliceBounds (some (i : Int)) none none vs.toArray.size = (((min i vs.length : Nat) : Int), ((vs.length : Nat) : Int), 1) := by
    simp only [sliceBounds, Option.getD_none, show (1 : Int) > 0 by decide, if_true, if_neg (show ¬ ((i : Int) < 0) by lia), List.size_toArray]
    congr 1
    lia
  rw [kmk_pick_nat _ e]
  simp only [kmk_drop_min]
  exact List.take_of_length_le (by simp; lia)
/-- the six numbers, the first place's first -/
noncomputable def numL (xs : List Int) : List Int := ((xs.take 6).map (fun x : Int => x.fmod 1000000) ++ [85, 42, 20, 2, 0, 0].drop ((xs.take 6).map (fun x : Int => x.fmod 1000000)).length).reverse
noncomputable def numF (xs : List Int) (k : Nat) : Nat := ((numL xs).getD k 0).toNat
theorem numL_len (xs : List Int) : (numL xs).length = 6 := by
  unfold numL
  simp only [List.length_reverse, List.length_append, List.length_drop, List.length_map, List.length_take, List.length_cons, List.length_nil]
  lia
theorem numL_rng (xs : List Int) : ∀ x ∈ numL xs, 0 ≤ x ∧ x < 1000000 := by
  intro x hx
  unfold numL at hx
  rw [List.mem_reverse, List.mem_append] at hx
  rcases hx with hx | hx
  · obtain ⟨y, _, rfl⟩ := List.mem_map.mp hx
    exact ⟨Int.fmod_nonneg_of_pos _ (by decide), Int.fmod_lt_of_pos _ (by decide)⟩
  · have := List.mem_of_mem_drop hx
    simp only [List.mem_cons, List.not_mem_nil, or_false] at this
    lia
theorem numL_eq (xs : List Int) : numL xs = (List.range 6).map fun k => (numF xs k : Int) := by
  apply List.ext_getElem
  · simp [numL_len]
  · intro i h1 h2
    have := numL_rng xs _ (List.getElem_mem h1)
    simp only [List.getElem_map, List.getElem_range]
    unfold numF
    rw [List.getD_eq_getElem?_getD, List.getElem?_eq_getElem h1]
    show _ = (((numL xs)[i].toNat : Nat) : Int)
    lia
theorem numF_lt (xs : List Int) (k : Nat) : numF xs k < 1000000 := by
  unfold numF
  by_cases h : k < (numL xs).length
  · have := numL_rng xs _ (List.getElem_mem h)
    rw [List.getD_eq_getElem?_getD, List.getElem?_eq_getElem h]
    show (numL xs)[k].toNat < _
    lia
  · rw [List.getD_eq_getElem?_getD, List.getElem?_eq_none (by lia)]
    decide
noncomputable def ovF (xs : List Int) (k : Nat) : Nat := numF xs k % (k + 1)
theorem ovF_le (xs : List Int) (k : Nat) : ovF xs k ≤ k := Nat.le_of_lt_succ (Nat.mod_lt _ (Nat.succ_pos k))
end Mine
end

section
open PySem PySem.W PyProof.Rows
set_option maxRecDepth 100000
set_option maxHeartbeats 2000000
namespace Mine
/-- a place where a call is made -/
noncomputable def chgd (ov : Nat → Nat) (F : Nat → List Int) (j : Nat) : Bool := match j with | 0 => true | k + 1 => decide (finF ov F (prn ov k) ∉ F (k + 1))
structure DnI (ov : Nat → Nat) (F : Nat → List Int) (xs : List Item) (dn rm : List Nat) (col : Nat → Int) (n : Nat) : Prop where
  heap : HeapFrom minBf xs 0
  items : (xs.map (·.1)).Perm (rm.map (pth ov))
  all : (dn ++ rm).Perm (List.range 7)
  down : ∀ k, k < 6 → k + 1 ∈ dn → prn ov k ∈ dn
  fin : ∀ j ∈ dn, col j = finF ov F j
  root : 0 ∈ rm → col 0 = 0
  par : ∀ k, k < 6 → k + 1 ∈ rm → col (k + 1) = col (prn ov k)
  cnt : n = (dn.filter (chgd ov F)).length
section
variable {ov : Nat → Nat} {F : Nat → List Int} {xs : List Item} {y : Item} {dn rm : List Nat} {col : Nat → Int} {n : Nat}
theorem DnI.rng (U : DnI ov F xs dn rm col n) {j : Nat} (h : j ∈ rm) : j ≤ 6 := by
  have := List.mem_range.mp (U.all.subset (List.mem_append_right _ h)); lia
theorem DnI.nodup (U : DnI ov F xs dn rm col n) : (dn ++ rm).Nodup := U.all.nodup_iff.mpr List.nodup_range
theorem DnI.start {xs0 : List Item} (h : xs0.map (·.1) = (List.range 7).map (pth ov)) : DnI ov F (hpF minBf xs0 3) [] (List.range 7) (fun _ => 0) 0 := by
  have hl : xs0.length = 7 := by have := congrArg List.length h; simpa using this
  obtain ⟨h1, h2⟩ := hp_heap ord_min hl
  have hp : (hpF minBf xs0 3).Perm xs0 := List.perm_iff_count.mpr h2
  exact ⟨h1, h ▸ hp.map (·.1), by simp, (fun k _ h => nomatch h), (fun j h => nomatch h), fun _ => rfl, fun _ _ _ => rfl, rfl⟩
theorem DnI.off (U : DnI ov F xs dn rm col n) {j : Nat} (hj6 : j ≤ 6) (hj : j ∉ dn) : ∀ m i, i ≤ m → i ≤ 6 → i ∈ dn → anc ov j i = false := by
  intro m
  induction m with
  | zero =>
    intro i him hi hd
    obtain rfl : i = 0 := by lia
    cases e : anc ov j 0 with
    | false => rfl
    | true => exact absurd ((anc_zero ov hj6).mp e ▸ hd) hj
  | succ m ih =>
    intro i him hi hd
    cases e : anc ov j i with
    | false => rfl
    | true =>
      cases i with
      | zero => exact absurd ((anc_zero ov hj6).mp e ▸ hd) hj
      | succ k =>
        rcases (anc_succ ov hj6 (by lia)).mp e with h | h
        · exact absurd (h ▸ hd) hj
        · have hp := prn_le ov k
          rw [ih (prn ov k) (by lia) (by lia) (U.down k (by lia) hd)] at h
          cases h
/-- the colours after a turn -/
noncomputable def colN (ov : Nat → Nat) (F : Nat → List Int) (col : Nat → Int) (j : Nat) : Nat → Int := fun i => if anc ov j i = true then (F j).headD 0 else col i
theorem DnI.step (U : DnI ov F (xs ++ [y]) dn rm col n) (h0 : (0 : Int) ∉ F 0) :
    ∃ j ∈ rm, (popV xs y).1 = pth ov j ∧ j ≤ 6 ∧ j ∉ dn ∧ (popR minBf xs y).length = xs.length ∧
      (col j ∈ F j → DnI ov F (popR minBf xs y) (dn ++ [j]) (rm.erase j) col n) ∧ (col j ∉ F j → DnI ov F (popR minBf xs y) (dn ++ [j]) (rm.erase j) (colN ov F col j) (n + 1)) := by
  obtain ⟨j, hj, e, h1, h2, h3, h4⟩ := pop_place ord_min ov U.heap U.items
  have nd := U.nodup
  have nrm : rm.Nodup := (List.nodup_append.mp nd).2.1
  have dj : ∀ i ∈ dn, i ∉ rm := fun i hi hr => (List.nodup_append.mp nd).2.2 i hi i hr rfl
  have hjd : j ∉ dn := fun h => dj j h hj
  have hj6 := U.rng hj
  have hup : ∀ k, j = k + 1 → prn ov k ∈ dn := fun k hk => by
    have hk6 : k < 6 := by lia
    have hm : prn ov k ∈ dn ++ rm := U.all.symm.subset (List.mem_range.mpr (by have := prn_le ov k; lia))
    rcases List.mem_append.mp hm with h | h
    · exact h
    · obtain ⟨t, ht⟩ := h3 _ h
      have ht := of_decide_eq_false ht
      rw [e, hk] at ht
      exact absurd (pth_lt ov hk6) ht
  have hcol : ∀ k, j = k + 1 → col j = finF ov F (prn ov k) := fun k hk => by
    rw [← U.fin _ (hup k hk)]
    subst hk
    exact U.par k (by lia) hj
  have hall : (dn ++ [j] ++ rm.erase j).Perm (List.range 7) := by
    rw [List.append_assoc]
    exact ((List.perm_cons_erase hj).symm.append_left dn).trans U.all
  have hdown : ∀ k, k < 6 → k + 1 ∈ dn ++ [j] → prn ov k ∈ dn ++ [j] := fun k hk hm => by
    rcases List.mem_append.mp hm with h | h
    · exact List.mem_append_left _ (U.down k hk h)
    · exact List.mem_append_left _ (hup k (List.mem_singleton.mp h).symm)
  refine ⟨j, hj, e, hj6, hjd, h4, fun hc => ?_, fun hc => ?_⟩
  · have hj0 : ∃ k, j = k + 1 := by
      cases j with
      | zero => rw [U.root hj] at hc; exact absurd hc h0
      | succ k => exact ⟨k, rfl⟩
    obtain ⟨k, hk⟩ := hj0
    have hck := hcol k hk
    refine ⟨h1, h2, hall, hdown, fun i hi => ?_, fun h => U.root (List.mem_of_mem_erase h), fun k hk h => U.par k hk (List.mem_of_mem_erase h), ?_⟩
    · rcases List.mem_append.mp hi with hi | hi
      · exact U.fin i hi
      · obtain rfl := List.mem_singleton.mp hi
        subst hk
        rw [finF_succ, ← hck, if_pos hc]
    · rw [U.cnt, List.filter_append, List.length_append]
      have : chgd ov F j = false := by
        subst hk
        show decide (finF ov F (prn ov k) ∉ F (k + 1)) = false
        rw [← hck]
        simpa using hc
      simp [this]
  · have hanc : ∀ i ∈ dn, colN ov F col j i = col i := fun i hi => by
      unfold colN
      rw [U.off hj6 hjd i i (Nat.le_refl _) (by have := List.mem_range.mp (U.all.subset (List.mem_append_left _ hi)); lia) hi]
      rfl
    refine ⟨h1, h2, hall, hdown, fun i hi => ?_, fun h => ?_, fun k hk h => ?_, ?_⟩
    · rcases List.mem_append.mp hi with hi | hi
      · rw [hanc i hi]; exact U.fin i hi
      · obtain rfl := List.mem_singleton.mp hi
        unfold colN
        rw [if_pos (anc_self ov i)]
        cases i with
        | zero => rw [finF_zero]
        | succ k => rw [finF_succ, ← hcol k rfl, if_neg hc]
    · have hne : j ≠ 0 := fun e => by rw [e] at h; exact List.Nodup.not_mem_erase nrm h
      unfold colN
      rw [if_neg (fun h => hne ((anc_zero ov hj6).mp h))]
      exact U.root (List.mem_of_mem_erase h)
    · have hne : j ≠ k + 1 := fun e => by rw [e] at h; exact List.Nodup.not_mem_erase nrm h
      have := anc_succ ov hj6 hk
      unfold colN
      by_cases ha : anc ov j (prn ov k) = true
      · rw [if_pos ha, if_pos (this.mpr (.inr ha))]
      · rw [if_neg ha, if_neg (fun h => (this.mp h).elim hne ha)]
        exact U.par k hk (List.mem_of_mem_erase h)
    · rw [U.cnt, List.filter_append, List.length_append]
      have : chgd ov F j = true := by
        cases j with
        | zero => rfl
        | succ k =>
          show decide (finF ov F (prn ov k) ∉ F (k + 1)) = true
          rw [← hcol k rfl]
          simpa using hc
      simp [this]
theorem DnI.done (U : DnI ov F [] dn rm col n) : n = callsF ov F + 1 ∧ ∀ j, j ≤ 6 → col j = finF ov F j := by
  have hr : rm = [] := by
    have := U.items.length_eq
    simp at this
    exact List.eq_nil_of_length_eq_zero this.symm
  have ha := U.all
  rw [hr, List.append_nil] at ha
  refine ⟨?_, fun j hj => U.fin j (ha.symm.subset (List.mem_range.mpr (by lia)))⟩
  rw [U.cnt, (ha.filter (chgd ov F)).length_eq]
  unfold callsF
  show (List.filter (chgd ov F) [0, 1, 2, 3, 4, 5, 6]).length = (List.filter _ [0, 1, 2, 3, 4, 5]).length + 1
  rw [List.filter_cons_of_pos (by rfl), List.length_cons]
  congr 1
  rw [show [1, 2, 3, 4, 5, 6] = [0, 1, 2, 3, 4, 5].map (· + 1) from rfl, List.filter_map, List.length_map]
  rfl
end
/-- the kinds and rights of a place -/
noncomputable def Mode (W : Int) : Prop := W = 16384 ∨ Nine W
theorem wsh_mode (num ov : Nat → Nat) (j : Nat) : Mode (wsh num ov j) := by
  cases j with
  | zero => exact .inl rfl
  | succ k =>
    cases h : isd ov (k + 1) with
    | true => exact .inl (by simp [wsh, h])
    | false => exact .inr (nine num ov h)
theorem mode_bits {W c : Int} (h : Mode W) (hc : c = 0 ∨ c ∈ R3) : Builtin.bitAnd (Builtin.bitAnd W 61440 + c) 4095 = c ∧ Builtin.bitAnd (Builtin.bitAnd W 61440 + c) 61440 = Builtin.bitAnd W 61440 := by
  simp only [R3, List.mem_cons, List.not_mem_nil, or_false] at hc
  unfold Mode Nine at h
  rcases h with rfl | rfl | rfl | rfl | rfl | rfl | rfl | rfl | rfl | rfl <;> rcases hc with rfl | rfl | rfl | rfl <;> decide +kernel
end Mine
end

section
open PySem PySem.W PyProof.Rows PyProof.Rows.LCg PyProof.Rows.LCt PySem.Calls
set_option maxRecDepth 100000
set_option maxHeartbeats 8000000
namespace Mine
structure CS where
  xs : List Item
  hc : Nat
  oP : Obj
  oW : Obj
  wi : Nat → Value
  col : Nat → Int
  dn : List Nat
  rm : List Nat
  n : Nat
  t : Tok
noncomputable def CS.led (L' D H : Addr) (oC oQ : Obj) (news : List (Addr × Obj)) (c : CS) : List (Addr × Obj) := (H, W.listOf (vals c.xs).toArray c.hc) :: (D, c.oW) :: (L' + 1 + 1 + 1, oC) :: (L' + 1 + 1, c.oP) :: (L' + 1, oQ) :: news
noncomputable def CS.ps (c : CS) : List (Str × Value) := [(Str.ofString "calls", .int c.n c.t)]
structure CS.Ok (w : World) (ov : Nat → Nat) (wn : Nat → Int) (F : Nat → List Int) (c : CS) : Prop where
  dW : c.oW.IsDictOf (strKind PR w) (kvG ov (List.range 7) c.wi)
  vals : ∀ j, j ≤ 6 → ∃ t, c.wi j = .int (Builtin.bitAnd (wn j) 61440 + c.col j) t
  colr : ∀ j, j ≤ 6 → c.col j = 0 ∨ c.col j ∈ R3
  cP : ∃ x, c.oP.data = Data.cell x
  dn : DnI ov F c.xs c.dn c.rm c.col c.n
section
local macro_rules | `(tactic| walk_at $k:str) => if ["exec For Name Name cons nil", "pyIter ref", "call ref", "eval DictComp", "exec Assign cons ListComp", "eval ListComp", "call type:list", "exec While Compare cons nil", "compareOp NotEq ref ref", "compareOp NotIn int ref", "compareOp Eq str str", "subscriptTail Name Name ref str", "subscriptTail Subscript Constant ref int", "setItem ref str int", "dictSet ref str int", "CompEnd", "CompEndG", "UseEnd", "KswEnd", "FsEnd"].contains k.getString then `(tactic| refine Mine.halt ?_) else Lean.Macro.throwUnsupported
local macro_rules | `(tactic| k_all) => `(tactic| first | assumption | exact tbn_neAll (by assumption) | exact ne_out (by assumption) (by lia) (by lia))
theorem lawcalled_c (w : World) (news : List (Addr × Obj)) (dw df : Nat) (ow od : Obj) (wv fi : Nat → Value) (wn : Nat → Int) (ov : Nat → Nat) (fl : List Nat) (F : Nat → List Int) (hm : (dw, ow) ∈ news) (lo : (dw == sysModules) = false) (hwv : ∀ j, j ≤ 6 → ∃ t, wv j = .int (wn j) t) (hkd : ow.IsDictOf (strKind PR w) (kvG ov (List.range 7) wv))
    (hm2 : (df, od) ∈ news) (hkf : od.IsDictOf (strKind PR w) (kvG ov fl fi)) (hfl : fl.Perm (List.range 7)) (hF : HasI news fi F fl) (hmode : ∀ j, j ≤ 6 → Mode (wn j)) (hR : ∀ j, j ≤ 6 → (∀ c ∈ F j, c ∈ R3) ∧ F j ≠ []) :
    Ct w 12 273 [.ref dw, .ref df] news (fun v news' => ∃ T r its c t, v = .ref T ∧ (T, ({ cls := .type "tuple", data := .seq #[.int ((callsF ov F : Int) + 1) t, .ref r] } : Obj)) ∈ news' ∧ (r, W.listOf (strL its).toArray c) ∈ news' ∧ (∀ p ∈ news, p ∈ news') ∧ its.map (·.1) = ((List.range 7).filter fun j => !dirW (wn j)).map fun j => fmF (Builtin.bitAnd (wn j) 61440 + finF ov F j)) := by
  unfold Ct
  k_fill
  intro loose mean mg mb dp un gd cn cs a ccd cl outer A₀ base h₀ L m s Q E B _ X N T hk hdp hu hret
  refine wpAny_call ?_
  k_dflt (refine' code_defC ?k1 ?k2 ?k3 ?k4 ?k5 ?kA ?kF ?kK ?k6 ?k7 ?k8 ?k9 ?kB ?kD ?_ ?c2 ?c3 ?c4; (case kA => exact rfl); (case kF => exact rfl); (case kK => assumption); (case k1 => k_asm); (case k2 => k_asm); (case k3 => k_asm); (case k4 => k_asm); (case k5 => k_asm); (case k6 => k_is); (case k7 => k_is); (case k8 => ktr_room); (case k9 => exact BindsTo.of_eq rfl); (case kB => exact rfl); (case kD => decide +kernel); (case c2 => exact rfl); (case c3 => exact rfl); (case c4 => exact rfl); k_whole; intro g' L' h' tk' cells' FG' F' N' Y' B' X' T' l1; (try k_lt l1); k_cells Y'; (try simp only [List.cons_append, List.nil_append] at N'); (try dsimp only); (try k_fold))
  k_steps
  refine Halt.go ?_
  rename_i q1 q2 q3 z1 z2 z3 
  have zw : q3.data = Data.cell (some (.ref dw)) := z3
  have z1' : ∃ x, q1.data = Data.cell x := ⟨_, z1⟩
  have z2' : ∃ x, q2.data = Data.cell x := ⟨_, z2⟩
  clear z1 z2 z3
  have hao : AllOut L' (L' + 3) news := fun p hp => .inl (ltN (l1 p hp))
  refine' DictComp_W F' ?d1 ?d2 ?d3 ?d4 ?d5 ?_
  case d1 => exact rfl
  case d2 => decide +kernel
  case d3 => exact rfl
  case d4 => decide +kernel
  case d5 => exact rfl
  k_steps
  have r7 : ∀ i ∈ List.range 7, i ≤ 6 := fun i hi => by have := List.mem_range.mp hi; lia
  refine SrcW.dict (knd := strKind PR w) (kvs := kvG ov (List.range 7) wv) rfl (by k_asm) (by k_asm) (.tail _ (.tail _ (.tail _ hm))) hkd lo (by rw [sizeLine_eq]; simp [kvG]) ?_
  intro g2
  refine CompRestG.inv emD_mono (fun i oD nw => nw = (L' + 1 + 1 + 1, q1) :: (L' + 1 + 1, q2) :: (L' + 1, q3) :: news ∧ ∃ wi, oD.IsDictOf (strKind PR w) (kvG ov (List.range i) wi) ∧ ∀ j ∈ List.range i, ∃ t, wi j = .int (Builtin.bitAnd (wn j) 61440) t) ⟨rfl, fun _ => .none, isdict_nil, fun j hj => absurd hj (by simp)⟩ ?_ ?_
  · rintro i oD nw v I oI C oC Da m₂ h tk E' hi ⟨rfl, wi, hdi, hw⟩ ⟨k, x, hkx, hkv⟩ hC hx F2 N2 off ne
    obtain ⟨tv, rfl⟩ := Value.isStrOf_shape hkv
    have hi7 : i < 7 := by simpa [kvG] using hi
    obtain rfl : k = pth ov i := by
      simp [kvG, hi7] at hkx
      exact hkx.1.symm
    refine emD_go ?_
    k_steps
    refine Halt.go ?_
    obtain ⟨tj, hwvj⟩ := hwv i (by lia)
    k_dflt refine kda_item (k := pth ov i) (by k_asm) (by repeat (first | exact hm | apply List.mem_cons_of_mem)) hkd (strKind_is _ _) (kvG_at r7 List.nodup_range (List.mem_range.mpr hi7)) ?_
    rw [hwvj]
    k_steps
    refine Halt.go ?_
    k_dflt refine ifmt_c w _ (wn i) _ _ _ _ _ _ _ _ _ _ _ _ _ _ _ _ _ _ _ _ _ _ (by k_asm) (by k_asm) (by k_asm) (by k_asm) (by k_asm) rfl (by ktr_room) (by ktr_units) ?_
    intro v news' h4 tk4 hpost F4 N4
    obtain ⟨⟨t4, rfl⟩, rfl⟩ := hpost
    k_steps
    k_dflt refine compG_set (knd := strKind PR w) (kvs := kvG ov (List.range i) wi) (k := pth ov i) (strKind_is _ _) hdi (by rw [sizeLine_eq]; simp [kvG]; lia) F4 (by exact N4) off ne (.tail _ (.tail _ (.tail _ hm))) ?_
    intro oD' hd'
    rw [kvG_new (fun j hj => by have := List.mem_range.mp hj; lia) (by lia) (by simp), ← List.range_succ] at hd'
    refine ⟨rfl, _, hd', fun j hj => ?_⟩
    by_cases e : j = i
    · exact ⟨t4, by rw [if_pos e, e]⟩
    · obtain ⟨t, ht⟩ := hw j (List.mem_range.mpr (by have := List.mem_range.mp hj; lia))
      exact ⟨t, (if_neg e).trans ht⟩
  · rintro oD nw ⟨rfl, wi, hdi, hw⟩ D h tk hlD F2 N2 off
    have hD : (D == sysModules) = false := lo_of T' F2 hlD
    obtain ⟨e1, e2, e3, e4⟩ := off
    have e4' := off1_mem e4
    obtain ⟨x1, z1⟩ := z1'
    obtain ⟨x2, z2⟩ := z2'
    k_steps
    refine Halt.go ?_
    rename_i hx9 oC F3 N3 dC
    k_dflt refine list_dict_led (w := w) rfl F3 N3 (by repeat (first | exact hm | apply List.mem_cons_of_mem)) hkd lo (by rw [sizeLine_eq]; simp [kvG]) ?_
    intro H cH h4 tk4 xs0 F4 N4 l4 hxs0
    rw [kvG_keys] at hxs0
    k_steps
    refine Halt.go ?_
    rename_i lT x4 F5 N5
    have N6 : News g' L' x4 ((H, W.listOf (vals xs0).toArray cH) :: (D, oD) :: (L' + 1 + 1 + 1, oC) :: (L' + 1 + 1, q2) :: (L' + 1, q3) :: news) := fun p hp => N5 p (.tail _ hp)
    clear N5
    k_dflt refine heapify_c w _ H xs0 cH (fun p hp => Nat.ne_of_lt (l4 p hp)) (by have := congrArg List.length hxs0; simpa using this) _ _ _ _ _ _ _ _ _ _ _ _ _ _ _ _ _ _ _ _ _ (by k_asm) (by exact F5) (by k_asm) (by exact N6) (by k_asm) rfl (by ktr_room) (by ktr_units) ?_
    intro v news' h2 tk2 hpost F7 N7
    obtain ⟨rfl, rfl⟩ := hpost
    clear N6 F5
    k_steps
    refine Halt.go ?_
    have lDH : @LT.lt Nat _ D H := ltN (l4 (D, oD) (by simp))
    have lCH : @LT.lt Nat _ (L' + 3) H := ltN (l4 (L' + 1 + 1 + 1, oC) (by simp))
    have a5 : ∀ p ∈ news, p.1 ≠ H := fun p hp => Nat.ne_of_lt (l4 p (by simp [hp]))
    have n1 : @Ne Nat D (L' + 1) := fun e => e3 e.symm
    have n2 : @Ne Nat D (L' + 2) := fun e => e2 e.symm
    have n3 : @Ne Nat D (L' + 3) := fun e => e1 e.symm
    k_dflt refine ksw_while (σ := CS) (CS.led L' D H oC q3 news) CS.ps (fun _ => True) [Str.ofString "inside", Str.ofString "spot"] (CS.Ok w ov wn F) (fun c => c.xs.length)
      ⟨hpF minBf xs0 3, cH, q2, oD, wi, fun _ => 0, [], List.range 7, 0, tk4⟩ F7 (by exact N7) trivial ?kk ?ok ?turn
    case kk =>
      intro p hp
      rw [List.mem_singleton.mp hp]
      rfl
    case ok =>
      exact ⟨hdi, fun j hj => by obtain ⟨t, ht⟩ := hw j (List.mem_range.mpr (by simp [kvG]; lia)); exact ⟨t, ht.trans (by simp)⟩, fun _ _ => .inl rfl, ⟨_, z2⟩, DnI.start hxs0⟩
    intro c u hh tk hF1 hok F1 N1
    obtain ⟨xs, hc, oP, oW, wj, col, dn, rm, nc, tc⟩ := c
    obtain ⟨kW, kv, kc, cP, U⟩ := hok
    dsimp only at kW kv kc cP U
    dsimp only [CS.led] at N1
    dsimp only [CS.ps, kstB] at F1
    obtain ⟨xP, dP⟩ := cP
    clear hw hdi lT z1
    k_steps
    refine Halt.go ?_
    rename_i lE x7 F7 N7 l7
    have ok7 : ∀ x ∈ xs.map (·.1), PyData.strOk x = true := fun x hx => by
      obtain ⟨j, hj, rfl⟩ := List.mem_map.mp (U.items.subset hx)
      exact pth_ok ov (U.rng hj)
    k_dflt refine ne_strs (xs := xs) (ys := []) ⟨_, (N7 _ (.tail _ (.head _))).1, rfl, _, rfl⟩ ⟨_, (N7 _ (.head _)).1, rfl, _, rfl⟩ ok7 (fun _ h => nomatch h) (by ktr_units) ?_
    k_steps
    · refine Halt.go ?_
      rename List.map _ _ = List.map _ _ => ht
      obtain rfl : xs = [] := by simpa using ht
      obtain ⟨hn, hcol⟩ := U.done
      rename Fr _ _ _ _ => F20
      k_dflt refine ListComp_WT F20 (by with_unfolding_all rfl) (by decide) (by rfl) (by decide) (by rfl) ?_
      k_steps
      rename Fr _ _ _ _ => F21
      rename News _ _ _ _ => N21
      k_dflt refine SrcW.dict (knd := strKind PR w) (kvs := kvG ov (List.range 7) wv) rfl F21 N21 (by repeat (first | exact hm | apply List.mem_cons_of_mem)) hkd lo (by rw [sizeLine_eq]; simp [kvG]) ?_
      intro g7
      refine CompRestT.invX (fun i zs => ∃ its : List (Str × Tok), zs = strL its ∧ its.map (·.1) = ((List.range i).filter fun j => !dirW (wn j)).map fun j => fmF (Builtin.bitAnd (wn j) 61440 + finF ov F j)) ⟨[], rfl, rfl⟩ ?_ ?_
      · intro i zs v Ia oIa Ca oCa Da ma hb tkb Eb hi7 hJb hP hCa hxa Fa Na offa nea
        obtain ⟨its, rfl, hits⟩ := hJb
        obtain ⟨k, x, hkx, hkv⟩ := hP
        obtain ⟨tv, rfl⟩ := Value.isStrOf_shape hkv
        have hi7 : i < 7 := by simpa [kvG] using hi7
        obtain rfl : k = pth ov i := by
          simp [kvG, hi7] at hkx
          exact hkx.1.symm
        have m7 : i ∈ List.range 7 := List.mem_range.mpr hi7
        obtain ⟨ti, hwvi⟩ := hwv i (by lia)
        obtain ⟨tw, hwji⟩ := kv i (by lia)
        k_steps
        refine Halt.go ?_
        k_dflt refine kda_item (k := pth ov i) (by k_asm) (by repeat (first | exact hm | apply List.mem_cons_of_mem)) hkd (strKind_is _ _) (kvG_at r7 List.nodup_range m7) ?_
        rw [hwvi]
        k_steps
        refine Halt.go ?_
        k_dflt refine isdir_c w _ (wn i) _ _ _ _ _ _ _ _ _ _ _ _ _ _ _ _ _ _ _ _ _ _ (by k_asm) (by k_asm) (by k_asm) (by k_asm) (by k_asm) rfl (by ktr_room) (by ktr_units) ?_
        intro v news' h3 tk3 hpost F3 N3
        obtain ⟨rfl, rfl⟩ := hpost
        cases hd9 : decide (Builtin.bitAnd (wn i) 61440 = 16384) with
        | true =>
          k_steps
          refine Halt.go ?_
          rename Fr _ _ _ _ => F36
          rename News _ _ _ _ => N36
          refine comp_same F36 N36 offa (by repeat (first | exact hm | apply List.mem_cons_of_mem)) ⟨rfl, _, rfl, ?_⟩
          rw [hits, List.range_succ, List.filter_append, show List.filter (fun j => !dirW (wn j)) [i] = [] from List.filter_cons_of_neg (by rw [show dirW (wn i) = true from hd9]; decide), List.append_nil]
        | false =>
          k_steps
          refine Halt.go ?_
          k_dflt refine kda_item (k := pth ov i) (by k_asm) (by k_mem) kW (strKind_is _ _) (kvG_at r7 List.nodup_range m7) ?_
          rw [hwji, hcol i (by lia)]
          k_steps
          refine Halt.go ?_
          k_dflt refine filemode_c w _ (Builtin.bitAnd (wn i) 61440 + finF ov F i) _ _ _ _ _ _ _ _ _ _ _ _ _ _ _ _ _ _ _ _ _ _ (by k_asm) (by k_asm) (by k_asm) (by k_asm) (by k_asm) rfl (by ktr_room) (by ktr_units) ?_
          intro v news' h5 tk5 hpost F5 N5
          obtain ⟨⟨t5, rfl⟩, rfl⟩ := hpost
          k_steps
          refine Halt.go ?_
          rename Fr _ _ _ _ => F36
          rename News _ _ _ _ => N36
          refine comp_same F36 N36 offa (by repeat (first | exact hm | apply List.mem_cons_of_mem)) ⟨rfl, its ++ [(fmF (Builtin.bitAnd (wn i) 61440 + finF ov F i), t5)], by simp [strL], ?_⟩
          rw [List.map_append, hits, List.range_succ, List.filter_append, show List.filter (fun j => !dirW (wn j)) [i] = [i] from List.filter_cons_of_pos (by rw [show dirW (wn i) = false from hd9]; rfl), List.map_append]
          rfl
      · intro zs hJb
        obtain ⟨its, rfl, hits⟩ := hJb
        intro D3 hb tkb Fb Nb o1b
        k_steps
        rename News h₀ _ _ _ => N50
        refine hret _ _ _ _ ⟨_, D3, its, (strL its).length, tc, rfl, ?_, .tail _ (.head _), fun p hp => ?_, hits⟩ (by k_asm) N50
        · rw [show ((callsF ov F : Int) + 1) = (nc : Int) by rw [hn]; rfl]
          exact .head _
        · repeat (first | exact hp | apply List.mem_cons_of_mem)
    · refine Halt.go ?_
      rename ¬ List.map _ _ = List.map _ _ => ht
      obtain ⟨ys, y, rfl⟩ : ∃ ys y, xs = ys ++ [y] := by
        rcases List.eq_nil_or_concat xs with h | ⟨ys, y, h⟩
        · rw [h] at ht; exact absurd rfl ht
        · exact ⟨ys, y, by simpa using h⟩
      have h00 : (0 : Int) ∉ F 0 := fun h => by
        have := (hR 0 (by lia)).1 0 h
        revert this; decide
      obtain ⟨j, hjr, hjv, hj6, hjd, hjl, U2, U3⟩ := U.step h00
      have hl : ys.length + 1 ≤ 7 := by
        have h1 := U.items.length_eq
        have h2 := U.all.length_eq
        simp only [List.length_map, List.length_append, List.length_singleton, List.length_range] at h1 h2
        lia
      have N8 : News g' L' _ ((H, W.listOf (vals (ys ++ [y])).toArray hc) :: (D, oW) :: (L' + 1 + 1 + 1, oC) :: (L' + 1 + 1, oP) :: (L' + 1, q3) :: news) := fun p hp => N7 p (.tail _ hp)
      clear N7
      k_dflt refine heappop_c w _ H ys y hc ?hoff (by lia) _ _ _ _ _ _ _ _ _ _ _ _ _ _ _ _ _ _ _ _ _ (by k_asm) (by exact F7) (by k_asm) (by exact N8) (by k_asm) rfl (by ktr_room) (by ktr_units) ?_
      case hoff =>
        intro p hp
        simp only [List.mem_cons] at hp
        rcases hp with rfl | rfl | rfl | rfl | hp
        · exact Nat.ne_of_lt lDH
        · exact Nat.ne_of_lt lCH
        · exact Nat.ne_of_lt (show @LT.lt Nat _ (L' + 1 + 1) H by lia)
        · exact Nat.ne_of_lt (show @LT.lt Nat _ (L' + 1) H by lia)
        · exact a5 p hp
      intro v news' h9 tk9 hpost F9 N9
      obtain ⟨rfl, rfl⟩ := hpost
      obtain ⟨pv, hpv⟩ : ∃ p, popV ys y = p := ⟨_, rfl⟩
      rw [hpv] at hjv
      obtain ⟨pv, tp⟩ := pv
      obtain rfl : pv = pth ov j := hjv
      rw [show Item.val (popV ys y) = Value.str (pth ov j) tp from by rw [hpv]]
      clear F7 N8 hpv
      k_steps
      refine Halt.go ?_
      rename_i hx1 oP1 F1 N1 dP1
      have m7 : j ∈ List.range 7 := List.mem_range.mpr (by lia)
      obtain ⟨tj, hwj⟩ := kv j hj6
      k_dflt refine kda_item (k := pth ov j) (by k_asm) (by k_mem) kW (strKind_is _ _) (kvG_at r7 List.nodup_range m7) ?_
      rw [hwj]
      k_steps
      refine Halt.go ?_
      k_dflt refine imode_c w _ (Builtin.bitAnd (wn j) 61440 + col j) _ _ _ _ _ _ _ _ _ _ _ _ _ _ _ _ _ _ _ _ _ _ (by k_asm) (by k_asm) (by k_asm) (by k_asm) (by k_asm) rfl (by ktr_room) (by ktr_units) ?_
      intro v news' h4 tk4' hpost F4 N4
      obtain ⟨⟨t4, rfl⟩, rfl⟩ := hpost
      rw [(mode_bits (hmode j hj6) (kc j hj6)).1]
      k_steps
      refine Halt.go ?_
      have f7 : ∀ i ∈ fl, i ≤ 6 := fun i hi => r7 i (hfl.subset hi)
      have nfl : fl.Nodup := hfl.nodup_iff.mpr List.nodup_range
      have mfl : j ∈ fl := hfl.symm.subset m7
      obtain ⟨aj, cj, xj, hfj, hxj, hpj⟩ := hF j mfl
      k_dflt refine kda_item (k := pth ov j) (by k_asm) (by repeat (first | exact hm2 | apply List.mem_cons_of_mem)) hkf (strKind_is _ _) (kvG_at f7 nfl mfl) ?_
      rw [hfj]
      k_steps
      refine Halt.go ?_
      rename News _ _ _ _ => N5
      k_dflt refine notin_list_ints (vs := intL xj) (ns := xj.map (·.1)) ⟨_, (N5 (aj, W.listOf (intL xj).toArray cj) (by repeat (first | exact hpj | apply List.mem_cons_of_mem))).1, rfl, _, rfl⟩ (ints_intL xj) ?_
      rw [hxj]
      cases hc9 : (F j).any (· == col j) with
      | true =>
        have hcj : col j ∈ F j := by obtain ⟨x, hx, e⟩ := List.any_eq_true.mp hc9; exact (beq_iff_eq.mp e) ▸ hx
        k_steps
        refine Halt.go ?_
        rename Fr _ _ _ _ => F90
        rename News _ _ _ _ => N90
        refine ksw_end ⟨popR minBf ys y, hc + 1, oP1, oW, wj, col, dn ++ [j], rm.erase j, nc, tc⟩ F90 N90 (fun p hp => hp) trivial (fun p hp => ?_) (fun z h1 h2 => ?_) ⟨kW, kv, kc, ⟨_, dP1⟩, U2 hcj⟩ ?_
        · rw [List.mem_singleton.mp hp]
          rfl
        · have h1 := h1 (Str.ofString "calls", .int nc tc) (.head _)
          simp only [h1, h2, if_false, Bool.false_eq_true]
        · show (popR minBf ys y).length < (ys ++ [y]).length
          rw [hjl, List.length_append]
          exact Nat.lt_succ_self _
      | false =>
        have hcj : col j ∉ F j := fun h => by rw [List.any_eq_false] at hc9; exact hc9 _ h (beq_self_eq_true _)
        obtain ⟨c0, t0, xr, rfl⟩ : ∃ c0 t0 xr, xj = (c0, t0) :: xr := by
          cases xj with
          | nil => exact absurd hxj.symm (hR j hj6).2
          | cons p r => exact ⟨p.1, p.2, r, rfl⟩
        have hc0 : (F j).headD 0 = c0 := by rw [← hxj]; rfl
        have hc1 : c0 ∈ R3 := (hR j hj6).1 c0 (by rw [← hxj]; exact .head _)
        have hlj := pth_facts ov hj6
        k_steps
        refine Halt.go ?_
        rename Fr _ _ _ _ => F20
        refine' Assign_ListComp_T' F20 rfl ?d0 ?d1 ?d2 ?d3 ?d4 ?d5 ?_
        case d0 => with_unfolding_all rfl
        case d1 => with_unfolding_all rfl
        case d2 => decide
        case d3 => rfl
        case d4 => decide
        case d5 => rfl
        k_steps
        rename Fr _ _ _ _ => F21
        rename News _ _ _ _ => N21
        k_dflt refine SrcW.dict (knd := strKind PR w) (kvs := kvG ov (List.range 7) wj) rfl F21 N21 (.tail _ (.head _)) kW hD (by rw [sizeLine_eq]; simp [kvG]) ?_
        intro g7
        refine CompRestT.invX (fun i zs => ∃ its : List (Str × Tok), zs = strL its ∧ its.map (·.1) = ((List.range i).filter (anc ov j)).map (pth ov)) ⟨[], rfl, rfl⟩ ?_ ?_
        · intro i zs v Ia oIa Ca oCa Da ma hb tkb Eb hi7 hJb hP hCa hxa Fa Na offa nea
          obtain ⟨its, rfl, hits⟩ := hJb
          obtain ⟨k, x, hkx, hkv⟩ := hP
          obtain ⟨tv, rfl⟩ := Value.isStrOf_shape hkv
          have hi7 : i < 7 := by simpa [kvG] using hi7
          obtain rfl : k = pth ov i := by
            simp [kvG, hi7] at hkx
            exact hkx.1.symm
          have hli := pth_facts ov (j := i) (by lia)
          k_steps
          refine Halt.go ?_
          rename_i l9 x9 F9 N9 l19
          have l29 : AllLt l9 ((Ia, oIa) :: (Ca, oCa) :: (Da, lst (strL its)) :: (H, W.listOf (vals (popR minBf ys y)).toArray (hc + 1)) :: (D, oW) :: (L' + 1 + 1 + 1, oC) :: (L' + 1 + 1, oP1) :: (L' + 1, q3) :: news) := l19
          k_dflt refine commonpath_c w _ l9 _ (pth ov j) (pth ov i) _ _ (by lia) (by lia) (by lia) (by lia) (fun p hp => Nat.ne_of_lt (kst_ltOf l29 p hp)) hlj.2.2.2 hli.2.2.2 _ _ _ _ _ _ _ _ _ _ _ _ _ _ _ _ _ _ _ _ _ (by k_asm) (by exact F9) (by k_asm) (by exact N9) (by k_asm) rfl (by ktr_room) (by ktr_units) ?_
          intro v news' h5 tk5 hpost F5 N5
          obtain ⟨⟨t5, rfl⟩, rfl⟩ := hpost
          clear F9 N9
          k_steps
          refine Halt.go ?_
          refine PyProof.Rows.eq_str ?_
          rw [show (cpF (pth ov j) (pth ov i) == pth ov j) = anc ov j i from (by rw [← cp_anc ov hj6 (by lia), Bool.eq_iff_iff, beq_iff_eq, decide_eq_true_iff])]
          cases ha : anc ov j i with
          | true =>
            k_steps
            refine Halt.go ?_
            rename Fr _ _ _ _ => F36
            rename News _ _ _ _ => N36
            refine comp_same F36 N36 offa (.tail _ (.head _)) ⟨rfl, its ++ [(pth ov i, tv)], by simp [strL], ?_⟩
            rw [List.map_append, hits, List.range_succ, List.filter_append, show List.filter (anc ov j) [i] = [i] from List.filter_cons_of_pos ha, List.map_append]
            rfl
          | false =>
            k_steps
            refine Halt.go ?_
            rename Fr _ _ _ _ => F36
            rename News _ _ _ _ => N36
            refine comp_same F36 N36 offa (.tail _ (.head _)) ⟨rfl, _, rfl, ?_⟩
            rw [hits, List.range_succ, List.filter_append, show List.filter (anc ov j) [i] = [] from List.filter_cons_of_neg (by rw [ha]; decide), List.append_nil]
        · intro zs hJb
          obtain ⟨its, rfl, hits⟩ := hJb
          intro DI Ci oCi mCi hb tkb Eb hCi Fb Nb o1b neb offb
          k_steps
          refine Halt.go ?_
          rename Fr _ _ _ _ => F30
          rename News _ _ _ _ => N30
          refine use_end ((DI, lst (strL its)) :: (H, W.listOf (vals (popR minBf ys y)).toArray (hc + 1)) :: (D, oW) :: (L' + 1 + 1 + 1, oC) :: (L' + 1 + 1, oP1) :: (L' + 1, q3) :: news) F30 N30 (fun p hp => ?_) ?_
          · rcases List.mem_cons.mp hp with rfl | hp
            · exact Ne.symm neb
            · exact offb p hp
          intro h31 tk31 F31 N31
          k_steps
          refine Halt.go ?_
          k_dflt refine For_invVF F31 (by exact rfl) (by exact rfl) ?_ (by intro _; rfl) (by passes_own)
          k_steps
          refine Halt.go ?_
          rename Fr _ _ _ _ => F32
          rename News _ _ _ _ => N32
          obtain ⟨S, hS⟩ : ∃ S, S = (List.range 7).filter (anc ov j) := ⟨_, rfl⟩
          have hits : its.map (·.1) = S.map (pth ov) := by rw [hS]; exact hits
          have hS6 : ∀ q ∈ S, q ≤ 6 := fun q hq => by rw [hS] at hq; exact r7 q (List.mem_filter.mp hq).1
          obtain ⟨d1, d2, d3, d4, d5, d6⟩ := o1b
          have zI := N32 (DI, lst (strL its)) (.head _)
          have N33 : News g' L' _ ((H, W.listOf (vals (popR minBf ys y)).toArray (hc + 1)) :: (D, oW) :: (L' + 1 + 1 + 1, oC) :: (L' + 1 + 1, oP1) :: (L' + 1, q3) :: news) := fun p hp => N32 p (.tail _ hp)
          k_dflt refine lst_st (σ := Obj × (Nat → Value)) (ax := DI) (vs := strL its) (fun c => (H, W.listOf (vals (popR minBf ys y)).toArray (hc + 1)) :: (D, c.1) :: (L' + 1 + 1 + 1, oC) :: (L' + 1 + 1, oP1) :: (L' + 1, q3) :: news) (fun _ => []) []
            (fun i c => c.1.IsDictOf (strKind PR w) (kvG ov (List.range 7) c.2) ∧ ∀ q, q ≤ 6 → ∃ t, c.2 q = .int (Builtin.bitAnd (wn q) 61440 + (if q ∈ S.take i then c0 else col q)) t)
            (oW, wj) rfl ⟨_, zI.1, rfl, _, rfl⟩ zI.2.1 F32 N33 (fun _ h => nomatch h) ⟨kW, fun q hq => ?hj0⟩ ?_ ?_
          case hj0 => simpa using kv q hq
          · intro I i v d u h tk own hv hJ ho1 ho2 ho3 hax F₁ N₁
            obtain ⟨oV, wk⟩ := d
            obtain ⟨kV, kk⟩ := hJ
            dsimp only at kV kk N₁ ho3
            dsimp only [kstB] at F₁
            simp only [List.cons_append] at N₁
            obtain ⟨q, tq, hq, rfl⟩ : ∃ q tq, S[i]? = some q ∧ v = .str (pth ov q) tq := by
              simp only [strL, List.getElem?_map, Option.map_eq_some_iff] at hv
              obtain ⟨⟨k, t⟩, h1, rfl⟩ := hv
              have h2 : (its.map (·.1))[i]? = some k := by rw [List.getElem?_map, h1]; rfl
              rw [hits, List.getElem?_map, Option.map_eq_some_iff] at h2
              obtain ⟨q, h3, rfl⟩ := h2
              exact ⟨q, t, h3, rfl⟩
            have hq6 : q ≤ 6 := hS6 q (List.mem_of_getElem? hq)
            have q7 : q ∈ List.range 7 := List.mem_range.mpr (by lia)
            obtain ⟨tkq, hwk⟩ := kk q hq6
            k_steps
            refine Halt.go ?_
            k_dflt refine kda_item (k := pth ov q) (by k_asm) (by k_mem) kV (strKind_is _ _) (kvG_at r7 List.nodup_range q7) ?_
            rw [hwk]
            k_steps
            refine Halt.go ?_
            k_dflt refine ifmt_c w _ (Builtin.bitAnd (wn q) 61440 + (if q ∈ S.take i then c0 else col q)) _ _ _ _ _ _ _ _ _ _ _ _ _ _ _ _ _ _ _ _ _ _ (by k_asm) (by k_asm) (by k_asm) (by k_asm) (by k_asm) rfl (by ktr_room) (by ktr_units) ?_
            intro v news' h5 tk5 hpost F5 N5
            obtain ⟨⟨t5, rfl⟩, rfl⟩ := hpost
            rw [(mode_bits (hmode q hq6) (c := if q ∈ S.take i then c0 else col q) (by split; exact .inr hc1; exact kc q hq6)).2]
            k_steps
            refine Halt.go ?_
            k_dflt refine kda_item (k := pth ov j) (by k_asm) (by repeat (first | exact List.mem_append_left _ hm2 | apply List.mem_cons_of_mem)) hkf (strKind_is _ _) (kvG_at f7 nfl mfl) ?_
            rw [hfj]
            k_steps
            refine Halt.go ?_
            rename News _ _ _ _ => N40
            k_dflt refine item_getV (vs := intL ((c0, t0) :: xr)) (n := cj) 0 (.int c0 t0) N40 (by repeat (first | exact List.mem_append_left _ hpj | apply List.mem_cons_of_mem)) rfl (by lia) rfl ?_
            k_steps
            refine Halt.go ?_
            rename Fr _ _ _ _ => F45
            rename News _ _ _ _ => N45
            have N46 : News g' L' _ ((D, oV) :: (H, W.listOf (vals (popR minBf ys y)).toArray (hc + 1)) :: (L' + 1 + 1 + 1, oC) :: (L' + 1 + 1, oP1) :: (L' + 1, q3) :: (news ++ own)) := fun p hp => N45 p (by
              simp only [List.mem_cons] at hp ⊢
              rcases hp with h | h | h | h | h | h <;> simp [h])
            k_dflt refine dset (kvs := kvG ov (List.range 7) wk) F45 N46 ?hoffD kV (strKind_is _ _) (by rw [sizeLine_eq]; simp [kvG]) ?_
            case hoffD =>
              intro p hp
              simp only [List.mem_cons] at hp
              rcases hp with rfl | rfl | rfl | rfl | hp
              · exact Nat.ne_of_gt lDH
              · exact Ne.symm n3
              · exact Ne.symm n2
              · exact Ne.symm n1
              · rcases List.mem_append.mp hp with hp | hp
                · exact e4' p hp
                · rcases ho1 p hp with h | h
                  · rw [h]; exact Ne.symm (ho3 (D, oV) (.tail _ (.head _)))
                  · rw [h]; exact Ne.symm d2
            intro h46 oV2 F46 N47 kV2
            rw [kvG_set r7 hq6 q7] at kV2
            obtain ⟨wk2, ⟨t2, e2⟩, e3', kV2⟩ : ∃ wk2 : Nat → Value, (∃ t, wk2 q = .int (Builtin.bitAnd (wn q) 61440 + c0) t) ∧ (∀ r, r ≠ q → wk2 r = wk r) ∧ oV2.IsDictOf (strKind PR w) (kvG ov (List.range 7) wk2) := ⟨_, ⟨_, if_pos rfl⟩, fun r hr => if_neg hr, kV2⟩
            k_steps
            refine Halt.go ?_
            rename Fr _ _ _ _ => F48
            rename News _ _ _ _ => N48
            refine fs_end (oV2, wk2) F48 N48 (fun p hp => ?_) (fun p hp => ?_) (fun p hp hm => ?_) (fun _ h => nomatch h) (fun z hz _ _ => by simp [hz]) ⟨kV2, fun r hr => ?_⟩
            · simp only [List.mem_cons, List.mem_append] at hp ⊢
              rcases hp with h | h | h | h | h | h <;> simp [h]
            · simp [hp]
            · have e := List.mem_singleton.mp hm
              simp only [List.mem_cons] at hp
              rcases hp with rfl | rfl | rfl | rfl | rfl | hp
              · exact ho3 _ (.head _) e
              · exact ho3 (D, oV) (.tail _ (.head _)) e
              · exact ho3 _ (.tail _ (.tail _ (.head _))) e
              · exact ho3 _ (.tail _ (.tail _ (.tail _ (.head _)))) e
              · exact ho3 _ (.tail _ (.tail _ (.tail _ (.tail _ (.head _))))) e
              · exact ho3 _ (.tail _ (.tail _ (.tail _ (.tail _ (.tail _ hp))))) e
            · by_cases e : r = q
              · refine ⟨t2, ?_⟩
                rw [e, if_pos (by rw [List.take_succ, hq]; simp)]
                exact e2
              · obtain ⟨t, ht⟩ := kk r hr
                refine ⟨t, (e3' r e).trans (ht.trans ?_)⟩
                have : r ∈ S.take (i + 1) ↔ r ∈ S.take i := by rw [List.take_succ, hq]; simp [e]
                simp only [this]
          · intro d u h tk hJ F₁ N₁
            obtain ⟨oV, wk⟩ := d
            obtain ⟨kV, kk⟩ := hJ
            dsimp only at kV kk N₁
            dsimp only [kstB] at F₁
            have hlS : (strL its).length = S.length := by
              have := congrArg List.length hits
              simpa [strL] using this
            rw [hlS, List.take_length] at kk
            have hmS : ∀ q, q ≤ 6 → (q ∈ S ↔ anc ov j q = true) := fun q hq => by
              rw [hS, List.mem_filter]
              exact ⟨fun h => h.2, fun h => ⟨List.mem_range.mpr (by lia), h⟩⟩
            have hcN : ∀ q, q ≤ 6 → (if q ∈ S then c0 else col q) = colN ov F col j q := fun q hq => by
              unfold colN
              rw [hc0]
              simp only [hmS q hq]
            k_steps
            refine Halt.go ?_
            rename Fr _ _ _ _ => F95
            rename News _ _ _ _ => N95
            refine ksw_end ⟨popR minBf ys y, hc + 1, oP1, oV, wk, colN ov F col j, dn ++ [j], rm.erase j, nc + 1, ?tq9⟩ F95 N95 (fun p hp => hp) trivial (fun p hp => ?_) (fun z h1 h2 => ?_) ⟨kV, fun q hq => ?_, fun q hq => ?_, ⟨_, dP1⟩, U3 hcj⟩ ?_
            rotate_left
            · rw [List.mem_singleton.mp hp]
              rfl
            · have h1 := h1 (Str.ofString "calls", .int (nc + 1 : Nat) _) (.head _)
              obtain ⟨g4, g5⟩ := ne_of_not2 h2
              simp only [h1, g4, g5, h2, List.contains_nil, if_false, Bool.false_eq_true]
            · obtain ⟨t, ht⟩ := kk q hq
              rw [hcN q hq] at ht
              exact ⟨t, ht⟩
            · show colN ov F col j q = 0 ∨ colN ov F col j q ∈ R3
              rw [← hcN q hq]
              split
              · exact .inr hc1
              · exact kc q hq
            · show (popR minBf ys y).length < (ys ++ [y]).length
              rw [hjl, List.length_append]
              exact Nat.lt_succ_self _
end
end Mine
end

section
open PySem PySem.W PyProof.Rows PyProof.Rows.LCg PyProof.Rows.LCt PySem.Calls
set_option maxRecDepth 100000
set_option maxHeartbeats 8000000
namespace Mine
theorem ov_mod (x : List Int) (i : Nat) : ((numF x i : Nat) : Int).fmod ((i : Int) + 1) = (ovF x i : Nat) := by
  rw [Int.fmod_eq_emod_of_nonneg _ (by lia)]
  rfl
/-- a mark: the walk may enter _law_numbers -/
noncomputable def Into : Prop := True
section
local macro_rules | `(tactic| k_qdec) => `(tactic| decide +kernel)
local macro_rules | `(tactic| walk_at "call ref") => `(tactic| ((fail_if_success (with_reducible show wpAny _ _ (PySem.call (PySem.Value.ref 249) _) _ _ _)); refine halt ?_))
local macro_rules | `(tactic| walk_at $k:str) => if ["eval ListComp", "exec Assign cons ListComp", "subscriptTail Name Slice ref ref", "subscriptTail List", "subscriptTail BinOp", "binaryOp Add ref ref", "call builtin:len", "CompEnd", "subscriptTail Name Name ref int", "eval DictComp", "exec Assign cons DictComp", "compareOp Eq ref ref", "UseEnd"].contains k.getString then `(tactic| refine Mine.halt ?_) else Lean.Macro.throwUnsupported
local macro_rules | `(tactic| walk_at "call ref") => `(tactic| ((fail_if_success (rename Into => hInto)); refine halt ?_))
theorem law_holds : PySem.Challenge.rw_pd0157_01.Holds := by
  w_on
  refine holds_law law_said fun said => ?_
  refine holds_open (q := vw) (loose := lsn) (Xt := fun s => xlAt vw lv s && recOk (RowW.records Challenge.rw_pd0157_01.row.toRowW) s) (XP := XL vw lv) (Yf := Hook.obs (kHook frg frA frA_eq)) (Ya := Hook.val (kHook frg frA frA_eq)) (YP := Hook.says (kHook frg frA frA_eq)) (N := 3758) top_left (Hook.of (kHook frg frA frA_eq)) (Hook.keeps (kHook frg frA frA_eq)) (fun s e => xl_of s (Bool.and_eq_true_iff.mp e).1) XL.keeps (by rfl) (by rfl) (by rfl) (fun s e => recFacts_of (Bool.and_eq_true_iff.mp e).2) (by rfl) (by first | assumption | decide +kernel) (by decide +kernel) ⟨rfl, rfl, rfl, rfl, rfl, by decide +kernel⟩ ?hw ?hc
  case hw => w_witness2
  clear said
  k_go0
  (all_goals try k_fold)
  k_steps
  rename World => w
  rename Shared => s1
  rename IntsAre _ _ => hI
  rename Heap.IsList _ _ _ => hL
  rename Fr _ _ _ _ => F0
  rename News _ _ _ _ => N0
  rename Top _ _ _ _ _ _ => T0
  rename Below _ _ _ _ => K0
  rename Frag.In _ _ => X0
  rename ¬ _ < _ => hlen
  rename_i qa qb qc za zb zc X9
  refine Halt.go ?_
  obtain ⟨xs, rfl, hxs⟩ := ints_shape hI
  have hInto : Into := trivial
  k_steps
  refine Halt.go ?_
  rename Fr _ _ _ _ => F1
  rename News _ _ _ _ => N1
  rename Heap.IsList _ _ _ => hL1
  k_dflt refine Assign_ListComp_W F1 (by rfl) (by with_unfolding_all rfl) (by with_unfolding_all rfl) (by decide) (by rfl) (by decide) (by rfl) (by rfl) (by rfl) ?_
  k_steps
  refine Halt.go ?_
  have hL2 := hL1.at fun o e => F1.keep _ o e
  k_dflt refine kmk_slice_lit (its := (intL xs).toArray) (zs := intL (xs.take 6)) F1 N1 hL2 .none (.int 6 _) ?e1 ?_ (by with_unfolding_all rfl) (by intro _; with_unfolding_all rfl) ?sz
  case e1 => rw [show (6 : Int) = ((6 : Nat) : Int) from rfl, pick_take]; simp [intL]
  case sz =>
    have : xs.length ≤ 63 := by
      have := congrArg List.length hxs
      rw [List.length_map] at this
      lia
    rw [sizeLine_eq]; simp [intL]; lia
  intro DS hS F2 N2 lS
  k_steps
  rename Fr _ _ _ _ => F3
  rename News _ _ _ _ => N3
  have hl63 : xs.length ≤ 63 := by
    have := congrArg List.length hxs
    rw [List.length_map] at this
    lia
  k_dflt refine SrcW.list rfl F3 N3 (.inr ⟨_, .head _, rfl, _, rfl⟩) (by rw [sizeLine_eq]; simp [intL]; lia) ?_
  intro g2
  refine CompRest.invF (fun i zs => ∃ its : List (Int × Tok), zs = intL its ∧ its.map (·.1) = ((xs.map (·.1)).take i).map fun x : Int => x.fmod 1000000) ⟨[], rfl, rfl⟩ ?_ ?_
  · intro i zs v Ia oIa Ca oCa Da ma hb tkb Eb hi7 hJb hP hCa hxa Fa Na offa nea
    obtain ⟨its, rfl, hits⟩ := hJb
    obtain ⟨x, tx, hx, rfl⟩ : ∃ x tx, xs[i]? = some (x, tx) ∧ v = .int x tx := by
      have h6 : i < 6 := by
        have : i < (intL (xs.take 6)).length := by simpa using hi7
        simp [intL] at this
        lia
      have hP : (intL (xs.take 6))[i]? = some v := by simpa using hP
      rw [intL, List.getElem?_map, List.getElem?_take_of_lt h6, Option.map_eq_some_iff] at hP
      obtain ⟨⟨x, tx⟩, h1, rfl⟩ := hP
      exact ⟨x, tx, h1, rfl⟩
    k_steps
    refine Halt.go ?_
    rename Fr _ _ _ _ => F36
    rename News _ _ _ _ => N36
    refine comp_same F36 N36 offa (.inr ⟨_, .head _, rfl, _, rfl⟩) ⟨rfl, _, intL_snoc _ _ _, ?_⟩
    rw [List.map_append, hits, List.take_succ, List.getElem?_map, hx]
    simp
  · intro zs hJb
    obtain ⟨its, rfl, hits⟩ := hJb
    intro D3 hb tkb Fb Nb o1b
    k_steps
    refine Halt.go ?_
    rename News _ _ _ _ => N40
    have hits : its.map (·.1) = ((xs.map (·.1)).take 6).map fun x : Int => x.fmod 1000000 := by
      rw [hits]
      congr 1
      simp [intL]
    have hl6 : its.length ≤ 6 := by
      have := congrArg List.length hits
      rw [List.length_map] at this
      rw [this]
      simp; lia
    k_dflt refine len_list (items := (intL its).toArray) ⟨_, (N40 (D3, lst (intL its)) (by k_mem)).1, rfl, _, rfl⟩ (by simp [intL]; lia) ?_
    k_steps
    refine Halt.go ?_
    refine kba_turn (value' := PySem.Expr.Name (PySem.Str.ofString "_") ⟨0, 0, 0, 0⟩) (fun _ => rfl) ?_
    rename Fr _ _ _ _ => F41
    rename News _ _ _ _ => N41
    obtain ⟨dl, hdl⟩ : ∃ dl : List (Int × Tok), dl = [(85, tkb), (42, tkb + 1), (20, tkb + 1 + 1), (2, tkb + 1 + 1 + 1), (0, tkb + 1 + 1 + 1 + 1), (0, tkb + 1 + 1 + 1 + 1 + 1)] := ⟨_, rfl⟩
    have zdl := (N41 _ (.head _)).1
    k_dflt refine kmk_slice_lit (its := (intL dl).toArray) (zs := intL (dl.drop its.length)) F41 N41 ⟨_, zdl, rfl, _, by rw [hdl]; rfl⟩ (.int _ _) .none ?e1 ?_ (by with_unfolding_all rfl) (by intro _; with_unfolding_all rfl) (by rw [hdl, sizeLine_eq]; simp [intL])
    case e1 => exact pick_drop.trans (by simp [intL])
    intro DL h42 F42 N42 l42
    k_steps
    refine Halt.go ?_
    rename Fr _ _ _ _ => F43
    rename News _ _ _ _ => N43
    k_dflt refine kmk_add_lit (its := (intL its).toArray) (its2 := (intL (dl.drop its.length)).toArray) (zs := intL (its ++ dl.drop its.length)) F43 N43 ⟨_, (N43 (D3, lst (intL its)) (by k_mem)).1, rfl, _, rfl⟩ ⟨_, (N43 (DL, _) (by k_mem)).1, rfl, _, rfl⟩ (by simp [intL]) ?_ (by rw [hdl, sizeLine_eq]; simp [intL]; lia)
    intro DA h44 F44 N44 l44
    k_steps
    refine Halt.go ?_
    refine kba_turn (value' := PySem.Expr.Name (PySem.Str.ofString "_") ⟨0, 0, 0, 0⟩) (fun _ => rfl) ?_
    rename Fr _ _ _ _ => F45
    rename News _ _ _ _ => N45
    k_dflt refine krv_lit (its := (intL (its ++ dl.drop its.length)).toArray) (zs := intL (its ++ dl.drop its.length).reverse) F45 N45 ⟨_, (N45 (DA, _) (by k_mem)).1, rfl, _, rfl⟩ (.int (-1) _) (by simp [intL]) ?_ (by with_unfolding_all rfl) (by intro _; with_unfolding_all rfl) (by rw [hdl, sizeLine_eq]; simp [intL]; lia)
    intro DN h46 F46 N46 l46
    obtain ⟨ns, hns⟩ : ∃ ns, ns = (its ++ dl.drop its.length).reverse := ⟨_, rfl⟩
    rw [← hns] at N46
    have hnum : ns.map (·.1) = (List.range 6).map fun k => (numF (xs.map (·.1)) k : Int) := by
      rw [← numL_eq, hns]
      unfold numL
      rw [List.map_reverse, List.map_append, hits, List.map_drop, hdl]
      congr 3
      have := congrArg List.length hits
      simpa using this
    k_steps
    rename News (Top.heap _) _ _ _ => N50
    rename Fr (Top.heap _) _ _ _ => F50
    have N51 : News (Top.heap T0) _ _ [(DN, W.listOf (intL ns).toArray 0), (s1.heap.objs.size + 1 + 1 + 1, qa), (s1.heap.objs.size + 1 + 1, qb), (s1.heap.objs.size + 1, qc)] := fun p hp => N50 p (by
      simp only [List.mem_cons, List.not_mem_nil, or_false] at hp ⊢
      rcases hp with h | h | h | h <;> simp [h])
    have e1 := Nat.ne_of_gt (ltN (l46 (s1.heap.objs.size + 1 + 1 + 1, qa) (by simp)))
    have e2 := Nat.ne_of_gt (ltN (l46 (s1.heap.objs.size + 1 + 1, qb) (by simp)))
    have e3 := Nat.ne_of_gt (ltN (l46 (s1.heap.objs.size + 1, qc) (by simp)))
    have lDN := ltN (l46 (s1.heap.objs.size + 1 + 1 + 1, qa) (by simp))
    dsimp only at e1 e2 e3 lDN
    clear N50 l46 N46 F46 N45 F45 l44 N43 F43 l42
    k_steps
    refine Halt.go ?_
    rename_i h52 oN F52 N52 dN
    obtain ⟨x, hx⟩ : ∃ x, x = xs.map (·.1) := ⟨_, rfl⟩
    rw [← hx] at hnum
    k_dflt refine Assign_ListComp_W F52 (by rfl) (by with_unfolding_all rfl) (by with_unfolding_all rfl) (by decide) (by rfl) (by decide) (by rfl) (by rfl) (by rfl) ?_
    k_steps
    rename IsRange _ _ _ _ _ _ _ _ => hR
    rename Fr (Top.heap _) _ _ _ => F53
    rename News (Top.heap _) _ _ _ => N53
    k_dflt refine SrcW.range (n := 6) rfl F53 N53 hR (by decide) (by decide) (by decide) ?_
    intro g3
    refine CompRest.invF (fun i zs => ∃ its : List (Int × Tok), zs = intL its ∧ its.map (·.1) = (List.range i).map fun k => (ovF x k : Int)) ⟨[], rfl, rfl⟩ ?_ ?_
    · intro i zs v Ia oIa Ca oCa Da ma hb tkb Eb hi6 hJb hP hCa hxa Fa Na offa nea
      obtain ⟨its, rfl, hits⟩ := hJb
      obtain ⟨tv, rfl⟩ := hP
      rw [show (0 : Int) + (i : Int) * 1 = (i : Int) by lia] at hxa
      obtain ⟨tn, htn⟩ := get_of_map hnum hi6
      k_steps
      refine Halt.go ?_
      k_dflt refine item_getV (vs := intL ns) i (.int (numF x i) tn) (by k_asm) (by k_mem) rfl (by lia) (by simp [intL, htn]) ?_
      k_steps
      refine Halt.go ?_
      rename Fr (Top.heap _) _ _ _ => F36
      rename News (Top.heap _) _ _ _ => N36
      refine comp_same F36 N36 offa trivial ⟨rfl, _, intL_snoc _ _ _, ?_⟩
      rw [List.map_append, hits, List.range_succ, List.map_append]
      simp only [List.map_cons, List.map_nil, ov_mod]
    · intro zs hJb
      obtain ⟨its, rfl, hits⟩ := hJb
      intro DO hb tkb Fb Nb o1b
      have hos : its.map (·.1) = (List.range 6).map fun k => (ovF x k : Int) := hits
      obtain ⟨os, rfl⟩ : ∃ os, os = its := ⟨_, rfl⟩
      k_steps
      refine Halt.go ?_
      rename Fr (Top.heap _) _ _ _ => F54
      rename News (Top.heap _) _ _ _ => N54
      obtain ⟨o1, o2, o3, o4, _⟩ := o1b
      k_dflt refine lawwishes_c w [(s1.heap.objs.size + 1 + 1 + 1, qa), (s1.heap.objs.size + 1 + 1, qb), (s1.heap.objs.size + 1, oN)] DN DO _ 0 ns os (numF x) (ovF x) hnum hos (numF_lt x) _ _ _ _ _ _ _ _ _ _ _ _ _ _ _ _ _ _ _ _ _ (by k_asm) (by exact F54) (by k_asm) (by exact N54) (by k_asm) rfl (by ktr_room) (by ktr_units) ?_
      intro v news' h5 tk5 hpost F5 N5
      obtain ⟨lw, ws, cw, rfl, rfl, hws, l5⟩ := hpost
      have g1 := ltN (l5 (s1.heap.objs.size + 1 + 1 + 1, qa) (by simp))
      have g2 := ltN (l5 (DO, W.listOf (intL os).toArray (intL os).length) (by simp))
      have g3' := ltN (l5 (DN, W.listOf (intL ns).toArray 0) (by simp))
      dsimp only at g1 g2 g3'
      clear F54 N54
      k_steps
      refine Halt.go ?_
      rename_i h55 oWi F55 N55 dWi
      have hov : ∀ k, k < 6 → ovF x k ≤ k := fun k _ => ovF_le x k
      have N56 : News (Top.heap T0) _ _ ((DO, W.listOf (intL os).toArray (intL os).length) :: [(lw, W.listOf (intL ws).toArray cw), (DN, W.listOf (intL ns).toArray 0), (s1.heap.objs.size + 1 + 1 + 1, qa), (s1.heap.objs.size + 1 + 1, oWi), (s1.heap.objs.size + 1, oN)]) := fun p hp => N55 p (by
        simp only [List.mem_cons, List.not_mem_nil, or_false] at hp ⊢
        rcases hp with h | h | h | h | h | h <;> simp [h])
      k_dflt refine lawpaths_c w _ DO _ os (ovF x) (fun k hk => get_of_map hos hk) hov _ _ _ _ _ _ _ _ _ _ _ _ _ _ _ _ _ _ _ _ _ (by k_asm) (by exact F55) (by k_asm) (by exact N56) (by k_asm) rfl (by ktr_room) (by ktr_units) ?_
      intro v news' h6 tk6 hpost F6 N6
      obtain ⟨lp, ps, cp, rfl, rfl, hps, l6⟩ := hpost
      have i1 := ltN (l6 (s1.heap.objs.size + 1 + 1 + 1, qa) (by simp))
      have i2 := ltN (l6 (DO, W.listOf (intL os).toArray (intL os).length) (by simp))
      have i3 := ltN (l6 (DN, W.listOf (intL ns).toArray 0) (by simp))
      have i4 := ltN (l6 (lw, W.listOf (intL ws).toArray cw) (by simp))
      dsimp only at i1 i2 i3 i4
      clear F55 N55 N56
      k_steps
      refine Halt.go ?_
      rename_i h57 oPa F57 N57 dPa
      refine' Assign_DictComp_U' F57 rfl ?d0 ?d1 ?d2 ?d3 ?d4 ?d5 ?_
      case d0 => with_unfolding_all rfl
      case d1 => with_unfolding_all rfl
      case d2 => decide
      case d3 => rfl
      case d4 => decide
      case d5 => rfl
      clear hR
      k_steps
      rename IsRange _ _ _ _ _ _ _ _ => hR
      rename Fr (Top.heap _) _ _ _ => F58
      rename News (Top.heap _) _ _ _ => N58
      k_dflt refine SrcW.range (n := 7) rfl F58 N58 hR (by decide) (by decide) (by decide) ?_
      intro g4
      refine CompRestG.inv emD_mono (fun i oD nw => nw = [(lp, W.listOf (strL ps).toArray cp), (DO, W.listOf (intL os).toArray (intL os).length), (lw, W.listOf (intL ws).toArray cw), (DN, W.listOf (intL ns).toArray 0), (s1.heap.objs.size + 1 + 1 + 1, oPa), (s1.heap.objs.size + 1 + 1, oWi), (s1.heap.objs.size + 1, oN)] ∧ ∃ wi, oD.IsDictOf (strKind PR w) (kvG (ovF x) (List.range i) wi) ∧ ∀ j ∈ List.range i, ∃ t, wi j = .int (wsh (numF x) (ovF x) j) t) ⟨rfl, fun _ => .none, isdict_nil, fun j hj => absurd hj (by simp)⟩ ?_ ?_
      · rintro i oD nw v I oI C oC Da m₂ h tk E' hi7 ⟨rfl, wi, hdi, hw⟩ ⟨tv, rfl⟩ hC hx2 F2 N2 off ne
        rw [show (0 : Int) + (i : Int) * 1 = (i : Int) by lia] at hx2
        obtain ⟨tw, htw⟩ := get_of_map hws hi7
        obtain ⟨⟨pv, tp⟩, hp⟩ : ∃ p, ps[i]? = some p := ⟨_, List.getElem?_eq_getElem (by have := congrArg List.length hps; simp at this; lia)⟩
        obtain rfl : pv = pth (ovF x) i := by
          have e1 : (ps.map (·.1))[i]? = some pv := by rw [List.getElem?_map, hp]; rfl
          rw [hps, List.getElem?_map, List.getElem?_range hi7] at e1
          exact (Option.some.inj e1).symm
        refine emD_go ?_
        k_steps
        refine Halt.go ?_
        k_dflt refine item_getV (vs := strL ps) i (.str (pth (ovF x) i) tp) (by k_asm) (by k_mem) rfl (by lia) (by simp [strL, hp]) ?_
        k_steps
        refine Halt.go ?_
        k_dflt refine item_getV (vs := intL ws) i (.int (wsh (numF x) (ovF x) i) tw) (by k_asm) (by k_mem) rfl (by lia) (by simp [intL, htw]) ?_
        k_steps
        rename Fr (Top.heap _) _ _ _ => F60
        rename News (Top.heap _) _ _ _ => N60
        k_dflt refine compG_set (knd := strKind PR w) (kvs := kvG (ovF x) (List.range i) wi) (k := pth (ovF x) i) (strKind_is _ _) hdi (by rw [sizeLine_eq]; simp [kvG]; lia) F60 (by exact N60) off ne trivial ?_
        intro oD' hd'
        rw [kvG_new (fun j hj => by have := List.mem_range.mp hj; lia) (by lia) (by simp), ← List.range_succ] at hd'
        refine ⟨rfl, _, hd', fun j hj => ?_⟩
        by_cases e : j = i
        · exact ⟨tw, by rw [if_pos e, e]⟩
        · obtain ⟨t, ht⟩ := hw j (List.mem_range.mpr (by have := List.mem_range.mp hj; lia))
          exact ⟨t, (if_neg e).trans ht⟩
      · rintro oD nw ⟨rfl, wi, hdi, hw⟩ D hlD C oC mC h tk E' hnC F2 N2 off neC offC
        have hD : (D == sysModules) = false := lo_of T0 F2 hlD
        k_steps
        refine Halt.go ?_
        rename Fr (Top.heap _) _ _ _ => F70
        rename News (Top.heap _) _ _ _ => N70
        refine use_end ((D, oD) :: [(lp, W.listOf (strL ps).toArray cp), (DO, W.listOf (intL os).toArray (intL os).length), (lw, W.listOf (intL ws).toArray cw), (DN, W.listOf (intL ns).toArray 0), (s1.heap.objs.size + 1 + 1 + 1, oPa), (s1.heap.objs.size + 1 + 1, oWi), (s1.heap.objs.size + 1, oN)]) F70 N70 (fun p hp => ?_) ?_
        · rcases List.mem_cons.mp hp with rfl | hp
          · exact Ne.symm neC
          · exact offC p hp
        intro h71 tk71 F71 N71
        have hwv : ∀ j, j ≤ 6 → ∃ t, wi j = .int (wsh (numF x) (ovF x) j) t := fun j hj => hw j (List.mem_range.mpr (by lia))
        clear F70 N70 hR
        k_steps
        refine Halt.go ?_
        k_dflt refine lawfitting_c w _ D oD wi (wsh (numF x) (ovF x)) (ovF x) (.head _) hD hwv hdi _ _ _ _ _ _ _ _ _ _ _ _ _ _ _ _ _ _ _ _ _ (by k_asm) (by exact F71) (by k_asm) (by exact N71) (by k_asm) rfl (by ktr_room) (by ktr_units) ?_
        intro v news1 h8 tk8 hpost F8 N8
        obtain ⟨df, od, fl, fi, F, rfl, hmd, lof, hsub, hkf, hfl, hHI, hserve⟩ := hpost
        have S : Serve (numF x) (ovF x) F := hserve
        have hwm := hsub (D, oD) (.head _)
        have hlw := hsub (lw, W.listOf (intL ws).toArray cw) (by simp)
        have hlo := hsub (DO, W.listOf (intL os).toArray (intL os).length) (by simp)
        have hwi := hsub (s1.heap.objs.size + 1 + 1, oWi) (by simp)
        clear F71 N71 hsub hserve
        k_steps
        refine Halt.go ?_
        k_dflt refine lawcalled_c w news1 D df oD od wi fi (wsh (numF x) (ovF x)) (ovF x) fl F hwm hD hwv hdi hmd hkf hfl hHI (fun j _ => wsh_mode _ _ j) (fun j hj => S.rights hov hj) _ _ _ _ _ _ _ _ _ _ _ _ _ _ _ _ _ _ _ _ _ (by k_asm) (by exact F8) (by k_asm) (by exact N8) (by k_asm) rfl (by ktr_room) (by ktr_units) ?_
        intro v news2 h9 tk9 hpost F9 N9
        obtain ⟨T9, r9, its9, c9, t9, rfl, hT9, hr9, hsub2, hits9⟩ := hpost
        rw [listed_eq S hov] at hits9
        rw [← few_eq S hov] at hT9
        have N91 : News (Top.heap T0) _ _ ((lw, W.listOf (intL ws).toArray cw) :: (DO, W.listOf (intL os).toArray (intL os).length) :: (s1.heap.objs.size + 1 + 1, oWi) :: news2) := fun p hp => N9 p (by
          simp only [List.mem_cons] at hp
          rcases hp with rfl | rfl | rfl | hp
          · exact hsub2 _ hlw
          · exact hsub2 _ hlo
          · exact hsub2 _ hwi
          · exact hp)
        clear F8 N8 N9
        k_steps
        refine Halt.go ?_
        k_dflt refine lawfewest_c w ((s1.heap.objs.size + 1 + 1, oWi) :: news2) lw DO _ _ ws os (numF x) (ovF x) hws hos hov _ _ _ _ _ _ _ _ _ _ _ _ _ _ _ _ _ _ _ _ _ (by k_asm) (by exact F9) (by k_asm) (by exact N91) (by k_asm) rfl (by ktr_room) (by ktr_units) ?_
        intro v news' h10 tk10 hpost F10 N10
        obtain ⟨⟨t10, rfl⟩, rfl⟩ := hpost
        clear F9 N91
        k_steps
        refine Halt.go ?_
        k_dflt refine lawlisted_c w ((s1.heap.objs.size + 1 + 1, oWi) :: news2) lw DO _ _ ws os (numF x) (ovF x) hws hos _ _ _ _ _ _ _ _ _ _ _ _ _ _ _ _ _ _ _ _ _ (by k_asm) (by exact F10) (by k_asm) (by exact N10) (by k_asm) rfl (by ktr_room) (by ktr_units) ?_
        intro v news' h11 tk11 hpost F11 N11
        obtain ⟨l11, its11, c11, rfl, rfl, hits11, l11'⟩ := hpost
        clear F10 N10
        k_steps
        refine Halt.go ?_
        rename Fr (Top.heap _) _ _ _ => F95
        rename News (Top.heap _) _ _ _ => N95
        have zT := (N95 _ (.tail _ (.tail _ (.tail _ (.tail _ (.tail _ hT9)))))).1
        have zr := (N95 _ (.tail _ (.tail _ (.tail _ (.tail _ (.tail _ hr9)))))).1
        have zU := (N95 _ (.head _)).1
        have zl := (N95 _ (.tail _ (.head _))).1
        k_dflt refine eq_pair zT rfl rfl ⟨_, zr, rfl, _, rfl⟩ zU rfl rfl ⟨_, zl, rfl, _, rfl⟩ rfl (hits9.trans hits11.symm) (by rw [hits11]; exact listed_ok) (by ktr_units) ?_
        k_steps
end
end Mine
end

end
theorem PySem.Challenge.cw_pd0157_01_holds : PySem.Challenge.rw_pd0157_01.Holds :=
  Mine.law_holds

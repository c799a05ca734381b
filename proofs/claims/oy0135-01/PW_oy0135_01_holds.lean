import PyProof.Rows.All
import Wide.All
import OpenK.AllK
import Wide.FinOn
import PySem.Challenge.RW_oy0135_01
open PySem PySem.W PyProof.Rows PySem.Calls
set_option Elab.async false
set_option maxRecDepth 100000
set_option maxHeartbeats 8000000
set_option linter.unusedVariables false
set_option linter.unusedSimpArgs false
set_option compiler.extract_closed false
namespace Mine
noncomputable def PB : List Stmt := PySem.Challenge.pw_oy0135_01.main.body
/-- a function's object, its def read from the program -/
noncomputable def fnO (i : Nat) (pm : Value) (c : Addr) (d : Value) : Obj := match PB.getD i default with
  | .FunctionDef n args body _ _ _ scope _ _ _ => { cls := .type "function", data := .func { name := n, qualname := n, params := args, body := .stmts body, scope := scope, globals := 3, closure := [], defaults := d, kwdefaults := .none, pyModule := pm, code := .ref c } }
  | _ => default
/-- what stands behind the top -/
noncomputable def KH (P : Params) : Frag := [
(2, { cls := .none, data := .dict #[] }),
  (3, { cls := .type "dict", data := .dict #[{ hash := PyData.keyHash P (Str.ofString "__name__"), key := .str (Str.ofString "__name__") 165, val := .str (Str.ofString "law_oy0135_01") 338 }, { hash := PyData.keyHash P (Str.ofString "__doc__"), key := .str (Str.ofString "__doc__") 166, val := .none }, { hash := PyData.keyHash P (Str.ofString "__package__"), key := .str (Str.ofString "__package__") 167, val := .none }, { hash := PyData.keyHash P (Str.ofString "__loader__"), key := .str (Str.ofString "__loader__") 168, val := .builtin "__main__.__loader__#opaque" }, { hash := PyData.keyHash P (Str.ofString "__spec__"), key := .str (Str.ofString "__spec__") 169, val := .none }, { hash := PyData.keyHash P (Str.ofString "__annotations__"), key := .str (Str.ofString "__annotations__") 170, val := .ref 6 }, { hash := PyData.keyHash P (Str.ofString "__builtins__"), key := .str (Str.ofString "__builtins__") 171, val := .ref 4 }, { hash := PyData.keyHash P (Str.ofString "__file__"), key := .str (Str.ofString "__file__") 173, val := .str (Str.ofString "/claim/cut.py") 172 }, { hash := PyData.keyHash P (Str.ofString "__cached__"), key := .str (Str.ofString "__cached__") 174, val := .none }, { hash := PyData.keyHash P (Str.ofString "TOMLDecodeError"), key := .str (Str.ofString "TOMLDecodeError") 206, val := .ref 24 }, { hash := PyData.keyHash P (Str.ofString "skip_until"), key := .str (Str.ofString "skip_until") 218, val := .ref 34 }, { hash := PyData.keyHash P (Str.ofString "suffixed_err"), key := .str (Str.ofString "suffixed_err") 228, val := .ref 41 }, { hash := PyData.keyHash P (Str.ofString "cmp_to_key"), key := .str (Str.ofString "cmp_to_key") 239, val := .ref 48 }, { hash := PyData.keyHash P (Str.ofString "_initial_missing"), key := .str (Str.ofString "_initial_missing") 240, val := .ref 49 }, { hash := PyData.keyHash P (Str.ofString "reduce"), key := .str (Str.ofString "reduce") 252, val := .ref 57 }, { hash := PyData.keyHash P (Str.ofString "S_IFMT"), key := .str (Str.ofString "S_IFMT") 261, val := .ref 64 }, { hash := PyData.keyHash P (Str.ofString "S_IFDIR"), key := .str (Str.ofString "S_IFDIR") 263, val := .int 16384 262 }, { hash := PyData.keyHash P (Str.ofString "S_IFCHR"), key := .str (Str.ofString "S_IFCHR") 265, val := .int 8192 264 }, { hash := PyData.keyHash P (Str.ofString "S_IFBLK"), key := .str (Str.ofString "S_IFBLK") 267, val := .int 24576 266 }, { hash := PyData.keyHash P (Str.ofString "S_IFREG"), key := .str (Str.ofString "S_IFREG") 269, val := .int 32768 268 }, { hash := PyData.keyHash P (Str.ofString "S_IFIFO"), key := .str (Str.ofString "S_IFIFO") 271, val := .int 4096 270 }, { hash := PyData.keyHash P (Str.ofString "S_IFLNK"), key := .str (Str.ofString "S_IFLNK") 273, val := .int 40960 272 }, { hash := PyData.keyHash P (Str.ofString "S_IFSOCK"), key := .str (Str.ofString "S_IFSOCK") 275, val := .int 49152 274 }, { hash := PyData.keyHash P (Str.ofString "S_ISUID"), key := .str (Str.ofString "S_ISUID") 277, val := .int 2048 276 }, { hash := PyData.keyHash P (Str.ofString "S_ISGID"), key := .str (Str.ofString "S_ISGID") 279, val := .int 1024 278 }, { hash := PyData.keyHash P (Str.ofString "S_ISVTX"), key := .str (Str.ofString "S_ISVTX") 281, val := .int 512 280 }, { hash := PyData.keyHash P (Str.ofString "S_IRUSR"), key := .str (Str.ofString "S_IRUSR") 283, val := .int 256 282 }, { hash := PyData.keyHash P (Str.ofString "S_IWUSR"), key := .str (Str.ofString "S_IWUSR") 285, val := .int 128 284 }, { hash := PyData.keyHash P (Str.ofString "S_IXUSR"), key := .str (Str.ofString "S_IXUSR") 287, val := .int 64 286 }, { hash := PyData.keyHash P (Str.ofString "S_IRGRP"), key := .str (Str.ofString "S_IRGRP") 289, val := .int 32 288 }, { hash := PyData.keyHash P (Str.ofString "S_IWGRP"), key := .str (Str.ofString "S_IWGRP") 291, val := .int 16 290 }, { hash := PyData.keyHash P (Str.ofString "S_IXGRP"), key := .str (Str.ofString "S_IXGRP") 293, val := .int 8 292 }, { hash := PyData.keyHash P (Str.ofString "S_IROTH"), key := .str (Str.ofString "S_IROTH") 295, val := .int 4 294 }, { hash := PyData.keyHash P (Str.ofString "S_IWOTH"), key := .str (Str.ofString "S_IWOTH") 297, val := .int 2 296 }, { hash := PyData.keyHash P (Str.ofString "S_IXOTH"), key := .str (Str.ofString "S_IXOTH") 299, val := .int 1 298 }, { hash := PyData.keyHash P (Str.ofString "_filemode_table"), key := .str (Str.ofString "_filemode_table") 325, val := .ref 97 }, { hash := PyData.keyHash P (Str.ofString "filemode"), key := .str (Str.ofString "filemode") 337, val := .ref 104 }, { hash := PyData.keyHash P (Str.ofString "_law_two"), key := .str (Str.ofString "_law_two") 352, val := .ref 111 }, { hash := PyData.keyHash P (Str.ofString "_law_ranks"), key := .str (Str.ofString "_law_ranks") 363, val := .ref 118 }, { hash := PyData.keyHash P (Str.ofString "_law_text"), key := .str (Str.ofString "_law_text") 369, val := .ref 123 }, { hash := PyData.keyHash P (Str.ofString "_law_due"), key := .str (Str.ofString "_law_due") 375, val := .ref 128 }, { hash := PyData.keyHash P (Str.ofString "law"), key := .str (Str.ofString "law") 381, val := .ref 133 }] 42 }),
  (6, { cls := .type "dict", data := .dict #[] }),
  (15, { cls := .type "tuple", data := .seq #[.type "ValueError"] }),
  (22, { cls := .type "tuple", data := .seq #[] }),
  (23, { cls := .type "dict", data := .dict #[{ hash := PyData.keyHash P (Str.ofString "__module__"), key := .str (Str.ofString "__module__") 196, val := .str (Str.ofString "cpy313.tomllib._parser") 187 }, { hash := PyData.keyHash P (Str.ofString "__firstlineno__"), key := .str (Str.ofString "__firstlineno__") 200, val := .int 2 199 }, { hash := PyData.keyHash P (Str.ofString "__static_attributes__"), key := .str (Str.ofString "__static_attributes__") 201, val := .ref 22 }, { hash := PyData.keyHash P (Str.ofString "__weakref__"), key := .str (Str.ofString "__weakref__") 203, val := .ref 25 }, { hash := PyData.keyHash P (Str.ofString "__doc__"), key := .str (Str.ofString "__doc__") 204, val := .none }] 3 }),
  (24, { cls := .type "type", data := .cls { name := Str.ofString "TOMLDecodeError", bases := [.type "ValueError"], mro := [.ref 24, .type "ValueError", .type "Exception", .type "BaseException", .type "object"], ns := 23, qualname := Str.ofString "TOMLDecodeError" }, slots := #[some (.ref 15), none, some (.str (Str.ofString "TOMLDecodeError") 189), some (.str (Str.ofString "TOMLDecodeError") 197), some (.builtin "ValueError.__new__"), some (.bool true)] }),
  (25, { cls := .type "getset_descriptor", data := .fields #[.str (Str.ofString "__weakref__") 202, .ref 24, .builtin "ExceptionGroup.__weakref__", .none] }),
  (28, { cls := .type "tuple", data := .seq #[] }),
  (30, { cls := .type "tuple", data := .seq #[.str (Str.ofString "src") 210, .str (Str.ofString "pos") 211, .str (Str.ofString "expect") 212, .str (Str.ofString "error_on") 213, .str (Str.ofString "error_on_eof") 214, .str (Str.ofString "new_pos") 215] }),
  (31, { cls := .type "tuple", data := .seq #[] }),
  (33, { cls := .type "code", data := .fields #[.str (Str.ofString "skip_until") 207, .str (Str.ofString "skip_until") 208, .str (Str.ofString "/claim/cut.py") 209, .int 4 0, .int 3 0, .int 0 0, .int 2 0, .int 3 0, .ref 28, .bool true, .int 181 0, .ref 29, .none, .ref 30, .ref 31, .ref 32, .int 216 0, .int 4 0, .str (Str.ofString "/claim/cut.py") 217] }),
  (34, fnO 2 (.str (Str.ofString "cpy313.tomllib._parser") 187) 33 (.none)),
  (35, { cls := .type "tuple", data := .seq #[] }),
  (37, { cls := .type "tuple", data := .seq #[.str (Str.ofString "src") 222, .str (Str.ofString "pos") 223, .str (Str.ofString "msg") 224, .str (Str.ofString "coord_repr") 225] }),
  (38, { cls := .type "tuple", data := .seq #[] }),
  (40, { cls := .type "code", data := .fields #[.str (Str.ofString "suffixed_err") 219, .str (Str.ofString "suffixed_err") 220, .str (Str.ofString "/claim/cut.py") 221, .int 16 0, .int 3 0, .int 0 0, .int 0 0, .int 3 0, .ref 35, .bool true, .int 181 0, .ref 36, .none, .ref 37, .ref 38, .ref 39, .int 226 0, .int 16 0, .str (Str.ofString "/claim/cut.py") 227] }),
  (41, fnO 3 (.str (Str.ofString "cpy313.tomllib._parser") 187) 40 (.none)),
  (42, { cls := .type "tuple", data := .seq #[] }),
  (44, { cls := .type "tuple", data := .seq #[.str (Str.ofString "mycmp") 234, .str (Str.ofString "K") 235] }),
  (45, { cls := .type "tuple", data := .seq #[.str (Str.ofString "mycmp") 236] }),
  (47, { cls := .type "code", data := .fields #[.str (Str.ofString "cmp_to_key") 231, .str (Str.ofString "cmp_to_key") 232, .str (Str.ofString "/claim/cut.py") 233, .int 29 0, .int 1 0, .int 0 0, .int 0 0, .int 3 0, .ref 42, .bool true, .int 181 0, .ref 43, .none, .ref 44, .ref 45, .ref 46, .int 237 0, .int 29 0, .str (Str.ofString "/claim/cut.py") 238] }),
  (48, fnO 5 (.str (Str.ofString "cpy313.functools") 229) 47 (.none)),
  (49, { cls := .type "object" }),
  (50, { cls := .type "tuple", data := .seq #[.ref 49] }),
  (51, { cls := .type "tuple", data := .seq #[] }),
  (53, { cls := .type "tuple", data := .seq #[.str (Str.ofString "function") 244, .str (Str.ofString "sequence") 245, .str (Str.ofString "initial") 246, .str (Str.ofString "it") 247, .str (Str.ofString "value") 248, .str (Str.ofString "element") 249] }),
  (54, { cls := .type "tuple", data := .seq #[] }),
  (56, { cls := .type "code", data := .fields #[.str (Str.ofString "reduce") 241, .str (Str.ofString "reduce") 242, .str (Str.ofString "/claim/cut.py") 243, .int 55 0, .int 3 0, .int 0 0, .int 0 0, .int 3 0, .ref 51, .bool true, .int 181 0, .ref 52, .none, .ref 53, .ref 54, .ref 55, .int 250 0, .int 55 0, .str (Str.ofString "/claim/cut.py") 251] }),
  (57, fnO 7 (.str (Str.ofString "cpy313.functools") 229) 56 (.ref 50)),
  (58, { cls := .type "tuple", data := .seq #[] }),
  (60, { cls := .type "tuple", data := .seq #[.str (Str.ofString "mode") 258] }),
  (61, { cls := .type "tuple", data := .seq #[] }),
  (63, { cls := .type "code", data := .fields #[.str (Str.ofString "S_IFMT") 255, .str (Str.ofString "S_IFMT") 256, .str (Str.ofString "/claim/cut.py") 257, .int 68 0, .int 1 0, .int 0 0, .int 0 0, .int 3 0, .ref 58, .bool true, .int 181 0, .ref 59, .none, .ref 60, .ref 61, .ref 62, .int 259 0, .int 68 0, .str (Str.ofString "/claim/cut.py") 260] }),
  (64, fnO 9 (.str (Str.ofString "cpy313.stat") 253) 63 (.none)),
  (65, { cls := .type "tuple", data := .seq #[.int 40960 272, .str (Str.ofString "l") 300] }),
  (66, { cls := .type "tuple", data := .seq #[.int 49152 274, .str (Str.ofString "s") 301] }),
  (67, { cls := .type "tuple", data := .seq #[.int 32768 268, .str (Str.ofString "-") 302] }),
  (68, { cls := .type "tuple", data := .seq #[.int 24576 266, .str (Str.ofString "b") 303] }),
  (69, { cls := .type "tuple", data := .seq #[.int 16384 262, .str (Str.ofString "d") 304] }),
  (70, { cls := .type "tuple", data := .seq #[.int 8192 264, .str (Str.ofString "c") 305] }),
  (71, { cls := .type "tuple", data := .seq #[.int 4096 270, .str (Str.ofString "p") 306] }),
  (72, { cls := .type "tuple", data := .seq #[.ref 65, .ref 66, .ref 67, .ref 68, .ref 69, .ref 70, .ref 71] }),
  (73, { cls := .type "tuple", data := .seq #[.int 256 282, .str (Str.ofString "r") 307] }),
  (74, { cls := .type "tuple", data := .seq #[.ref 73] }),
  (75, { cls := .type "tuple", data := .seq #[.int 128 284, .str (Str.ofString "w") 308] }),
  (76, { cls := .type "tuple", data := .seq #[.ref 75] }),
  (77, { cls := .type "tuple", data := .seq #[.int 2112 309, .str (Str.ofString "s") 310] }),
  (78, { cls := .type "tuple", data := .seq #[.int 2048 276, .str (Str.ofString "S") 311] }),
  (79, { cls := .type "tuple", data := .seq #[.int 64 286, .str (Str.ofString "x") 312] }),
  (80, { cls := .type "tuple", data := .seq #[.ref 77, .ref 78, .ref 79] }),
  (81, { cls := .type "tuple", data := .seq #[.int 32 288, .str (Str.ofString "r") 313] }),
  (82, { cls := .type "tuple", data := .seq #[.ref 81] }),
  (83, { cls := .type "tuple", data := .seq #[.int 16 290, .str (Str.ofString "w") 314] }),
  (84, { cls := .type "tuple", data := .seq #[.ref 83] }),
  (85, { cls := .type "tuple", data := .seq #[.int 1032 315, .str (Str.ofString "s") 316] }),
  (86, { cls := .type "tuple", data := .seq #[.int 1024 278, .str (Str.ofString "S") 317] }),
  (87, { cls := .type "tuple", data := .seq #[.int 8 292, .str (Str.ofString "x") 318] }),
  (88, { cls := .type "tuple", data := .seq #[.ref 85, .ref 86, .ref 87] }),
  (89, { cls := .type "tuple", data := .seq #[.int 4 294, .str (Str.ofString "r") 319] }),
  (90, { cls := .type "tuple", data := .seq #[.ref 89] }),
  (91, { cls := .type "tuple", data := .seq #[.int 2 296, .str (Str.ofString "w") 320] }),
  (92, { cls := .type "tuple", data := .seq #[.ref 91] }),
  (93, { cls := .type "tuple", data := .seq #[.int 513 321, .str (Str.ofString "t") 322] }),
  (94, { cls := .type "tuple", data := .seq #[.int 512 280, .str (Str.ofString "T") 323] }),
  (95, { cls := .type "tuple", data := .seq #[.int 1 298, .str (Str.ofString "x") 324] }),
  (96, { cls := .type "tuple", data := .seq #[.ref 93, .ref 94, .ref 95] }),
  (97, { cls := .type "tuple", data := .seq #[.ref 72, .ref 74, .ref 76, .ref 80, .ref 82, .ref 84, .ref 88, .ref 90, .ref 92, .ref 96] }),
  (98, { cls := .type "tuple", data := .seq #[] }),
  (100, { cls := .type "tuple", data := .seq #[.str (Str.ofString "mode") 329, .str (Str.ofString "perm") 330, .str (Str.ofString "index") 331, .str (Str.ofString "table") 332, .str (Str.ofString "bit") 333, .str (Str.ofString "char") 334] }),
  (101, { cls := .type "tuple", data := .seq #[] }),
  (103, { cls := .type "code", data := .fields #[.str (Str.ofString "filemode") 326, .str (Str.ofString "filemode") 327, .str (Str.ofString "/claim/cut.py") 328, .int 90 0, .int 1 0, .int 0 0, .int 0 0, .int 3 0, .ref 98, .bool true, .int 181 0, .ref 99, .none, .ref 100, .ref 101, .ref 102, .int 335 0, .int 90 0, .str (Str.ofString "/claim/cut.py") 336] }),
  (104, fnO 30 (.str (Str.ofString "cpy313.stat") 253) 103 (.none)),
  (105, { cls := .type "tuple", data := .seq #[] }),
  (107, { cls := .type "tuple", data := .seq #[.str (Str.ofString "text") 343, .str (Str.ofString "sought") 344, .str (Str.ofString "rows") 345, .str (Str.ofString "place") 346, .str (Str.ofString "turn") 347, .str (Str.ofString "found") 348, .str (Str.ofString "fault") 349] }),
  (108, { cls := .type "tuple", data := .seq #[] }),
  (110, { cls := .type "code", data := .fields #[.str (Str.ofString "_law_two") 340, .str (Str.ofString "_law_two") 341, .str (Str.ofString "/claim/cut.py") 342, .int 108 0, .int 2 0, .int 0 0, .int 0 0, .int 3 0, .ref 105, .bool true, .int 181 0, .ref 106, .none, .ref 107, .ref 108, .ref 109, .int 350 0, .int 108 0, .str (Str.ofString "/claim/cut.py") 351] }),
  (111, fnO 32 (.str (Str.ofString "law_oy0135_01") 338) 110 (.none)),
  (112, { cls := .type "tuple", data := .seq #[] }),
  (114, { cls := .type "tuple", data := .seq #[.str (Str.ofString "v") 356, .str (Str.ofString "ranks") 357, .str (Str.ofString "c") 358, .str (Str.ofString "figure") 359, .str (Str.ofString "odd") 360] }),
  (115, { cls := .type "tuple", data := .seq #[] }),
  (117, { cls := .type "code", data := .fields #[.str (Str.ofString "_law_ranks") 353, .str (Str.ofString "_law_ranks") 354, .str (Str.ofString "/claim/cut.py") 355, .int 119 0, .int 1 0, .int 0 0, .int 0 0, .int 3 0, .ref 112, .bool true, .int 181 0, .ref 113, .none, .ref 114, .ref 115, .ref 116, .int 361 0, .int 119 0, .str (Str.ofString "/claim/cut.py") 362] }),
  (118, fnO 33 (.str (Str.ofString "law_oy0135_01") 338) 117 (.none)),
  (119, { cls := .type "tuple", data := .seq #[] }),
  (122, { cls := .type "code", data := .fields #[.str (Str.ofString "_law_text") 364, .str (Str.ofString "_law_text") 365, .str (Str.ofString "/claim/cut.py") 366, .int 126 0, .int 1 0, .int 0 0, .int 0 0, .int 3 0, .ref 119, .bool true, .int 181 0, .ref 120, .none, .none, .none, .ref 121, .int 367 0, .int 126 0, .str (Str.ofString "/claim/cut.py") 368] }),
  (123, fnO 34 (.str (Str.ofString "law_oy0135_01") 338) 122 (.none)),
  (124, { cls := .type "tuple", data := .seq #[] }),
  (127, { cls := .type "code", data := .fields #[.str (Str.ofString "_law_due") 370, .str (Str.ofString "_law_due") 371, .str (Str.ofString "/claim/cut.py") 372, .int 129 0, .int 2 0, .int 0 0, .int 0 0, .int 3 0, .ref 124, .bool true, .int 181 0, .ref 125, .none, .none, .none, .ref 126, .int 373 0, .int 129 0, .str (Str.ofString "/claim/cut.py") 374] }),
  (128, fnO 35 (.str (Str.ofString "law_oy0135_01") 338) 127 (.none)),
  (129, { cls := .type "tuple", data := .seq #[] }),
  (132, { cls := .type "code", data := .fields #[.str (Str.ofString "law") 376, .str (Str.ofString "law") 377, .str (Str.ofString "/claim/cut.py") 378, .int 141 0, .int 1 0, .int 0 0, .int 0 0, .int 3 0, .ref 129, .bool true, .int 181 0, .ref 130, .none, .none, .none, .ref 131, .int 379 0, .int 141 0, .str (Str.ofString "/claim/cut.py") 380] }),
  (133, fnO 36 (.str (Str.ofString "law_oy0135_01") 338) 132 (.none))
]
end Mine
namespace Mine
section
variable {α : Type} {M : Model} {A : Around} {Q : α → Shared → Prop} {E : Value → Shared → Prop} {s : Shared}
theorem r_pure {a : α} (h : Q a s) : wpAny M A (Sem.pure a) Q E s := fun _ _ _ => h
theorem r_raise {e : Value} (h : E e s) : wpAny M A (Sem.raise e : Sem α) Q E s := fun _ _ _ => h
theorem r_rule {t : String} {k : Unit → Sem α} (h : wpAny M A (k ()) Q E s) : wpAny M A (Sem.rule t k) Q E s := fun Γ p hΓ => h Γ p hΓ
theorem r_at {q : Pos} {k : Unit → Sem α} (h : wpAny M A (k ()) Q E s) : wpAny M A (Sem.at q k) Q E s := fun Γ _ hΓ => h Γ q hΓ
theorem r_point {l : List Value} {k : Unit → Sem α} (h : wpAny M A (k ()) Q E s) : wpAny M A (Sem.point l k) Q E s := fun Γ p hΓ => h Γ p hΓ
theorem r_ask {k : Setting → Sem α} (h : wpAny M A (k ⟨M.prog, M.w.params⟩) Q E s) : wpAny M A (Sem.ask k) Q E s := fun Γ p hΓ => h Γ p hΓ
theorem r_fresh {k : Tok → Sem α} (h : wpAny M A (k s.toks) Q E { s with toks := s.toks + 1 }) : wpAny M A (Sem.fresh k) Q E s := fun Γ p hΓ => h Γ p hΓ
theorem r_load {a : Addr} {p : Option Value} {o : Obj} {k : Obj → Sem α} (ho : s.heap.get? a = some o) (h : wpAny M A (k o) Q E s) : wpAny M A (Sem.load a p k) Q E s :=
  fun Γ q hΓ => ⟨o, ho, h Γ q hΓ⟩
theorem r_loadIfAlive {a : Addr} {o : Obj} {k : Option Obj → Sem α} (ho : s.heap.get? a = some o) (h : wpAny M A (k (some o)) Q E s) : wpAny M A (Sem.loadIfAlive a k) Q E s :=
  fun Γ q hΓ => by show Sem.wp M Γ (k (s.heap.get? a)) _ _ q s; rw [ho]; exact h Γ q hΓ
theorem r_handled {k : Option Value → Sem α} (h : wpAny M A (k A.handled) Q E s) : wpAny M A (Sem.handled false k) Q E s :=
  fun Γ q hΓ => by show Sem.wp M Γ (k Γ.handled) _ _ q s; rw [hΓ.1]; exact h Γ q hΓ
theorem r_call {c : Code} {hd : Option Value} {g : Bool} {l : List Value} {k : Result → Sem α}
    (hc : codeAny M (A.mark hd) c (fun r s' => wpAny M A (k r) Q E s') s) (hnb : hd ≠ some byPass) : wpAny M A (Sem.call c hd g l k) Q E s :=
  fun Γ p hΓ => wpCode_mono (fun _ _ h => h Γ p hΓ) (hc _ p rfl (hΓ.enter c hd p hnb))
theorem r_stack {k : List (Code × Pos) → Sem α}
    (h : ∀ st : List (Code × Pos), (st.map (·.1.cUnits)).sum ≤ A.units → (∀ l, A.frames = some l → envsOf st = l) → frameCount st ≤ A.depth → wpAny M A (k st) Q E s) : wpAny M A (Sem.stack k) Q E s := fun Γ p hΓ => by
  refine h ((Γ.code, p) :: Γ.below) hΓ.2.2.2.2 (fun l hl => by rw [envsOf_cons]; exact hΓ.2.2.1 l hl) (by rw [frameCount_cons]; have := hΓ.2.1; omega) Γ p hΓ
end
/-- the ledger of a raw walk: own objects, all else kept -/
structure Own (b : Heap) (T : List (Addr × Obj)) (h : Heap) : Prop where
  nodup : (T.map (·.1)).Nodup
  get : ∀ p ∈ T, h.get? p.1 = some p.2
  keep : ∀ a o, b.get? a = some o → h.get? a = some o
  new : ∀ p ∈ T, b.get? p.1 = none
theorem Own.start (b : Heap) : Own b [] b := ⟨List.nodup_nil, (fun _ h => by cases h), (fun _ _ e => e), (fun _ h => by cases h)⟩
theorem Own.push {b h : Heap} {T : List (Addr × Obj)} (R : Own b T h) (o : Obj) (hf : o.isFreed = false) : Own b ((h.objs.size, o) :: T) (h.push o) := by
  have hn : ∀ a o', h.get? a = some o' → a ≠ h.objs.size := fun a o' e => Nat.ne_of_lt (Heap.lt_size e)
  refine ⟨List.nodup_cons.mpr ⟨fun hm => ?_, R.nodup⟩, fun p hp => ?_, fun a o' e => Heap.get?_push_of_some _ (R.keep a o' e), fun p hp => ?_⟩
  · obtain ⟨p, hp, e⟩ := List.mem_map.mp hm
    exact hn _ _ (R.get p hp) e
  · rcases List.mem_cons.mp hp with rfl | hp
    · exact Heap.get?_push_size _ hf
    · exact Heap.get?_push_of_some _ (R.get p hp)
  · rcases List.mem_cons.mp hp with rfl | hp
    · cases e : b.get? h.objs.size with
      | none => rfl
      | some o' => exact absurd rfl (hn _ _ (R.keep _ _ e))
    · exact R.new p hp
/-- the entry under a, changed -/
noncomputable def put (a : Addr) (o' : Obj) : List (Addr × Obj) → List (Addr × Obj)
  | [] => []
  | (b, o) :: T => if b = a then (b, o') :: T else (b, o) :: put a o' T
/-- X at place a is changed into o' : T to T' -/
inductive Put (a : Addr) (o o' : Obj) : List (Addr × Obj) → List (Addr × Obj) → Prop
  | head {T} : Put a o o' ((a, o) :: T) ((a, o') :: T)
  | tail {p T T'} (h : Put a o o' T T') : Put a o o' (p :: T) (p :: T')
theorem Put.keys {a : Addr} {o o' : Obj} {T T' : List (Addr × Obj)} (h : Put a o o' T T') : T'.map (·.1) = T.map (·.1) := by
  induction h with
  | head => rfl
  | tail _ ih => simp [ih]
theorem Put.old {a : Addr} {o o' : Obj} {T T' : List (Addr × Obj)} (h : Put a o o' T T') : (a, o) ∈ T := by
  induction h with
  | head => exact List.mem_cons_self ..
  | tail _ ih => exact List.mem_cons_of_mem _ ih
theorem Put.mem {a : Addr} {o o' : Obj} {T T' : List (Addr × Obj)} (h : Put a o o' T T') : (T.map (·.1)).Nodup → ∀ p ∈ T', p = (a, o') ∨ (p ∈ T ∧ p.1 ≠ a) := by
  induction h with
  | @head T =>
    intro hn p hp
    rcases List.mem_cons.mp hp with rfl | hp
    · exact .inl rfl
    · refine .inr ⟨List.mem_cons_of_mem _ hp, fun e => ?_⟩
      have := (List.nodup_cons.mp hn).1
      exact this (List.mem_map.mpr ⟨p, hp, e⟩)
  | @tail q T T' h ih =>
    intro hn p hp
    have hn' := List.nodup_cons.mp hn
    rcases List.mem_cons.mp hp with rfl | hp
    · refine .inr ⟨List.mem_cons_self .., fun e => hn'.1 ?_⟩
      show p.1 ∈ _
      rw [e]; exact List.mem_map.mpr ⟨_, h.old, rfl⟩
    · rcases ih hn'.2 p hp with e | ⟨e, ne⟩
      · exact .inl e
      · exact .inr ⟨List.mem_cons_of_mem _ e, ne⟩
theorem Own.update {b h : Heap} {T T' : List (Addr × Obj)} {a : Addr} {o : Obj} {f : Obj → Obj} (R : Own b T h) (hp : Put a o (f o) T T') (hf : (f o).isFreed = false) : Own b T' (h.update a f) := by
  have hs : Heap.SameBut a h (h.update a f) := Heap.SameBut.update ..
  refine ⟨by rw [hp.keys]; exact R.nodup, fun p hm => ?_, fun x o' e => ?_, fun p hm => ?_⟩
  · rcases hp.mem R.nodup p hm with rfl | ⟨hm, ne⟩
    · exact Heap.get?_update_self f (R.get _ hp.old) hf
    · exact (hs.2 _ ne).trans (R.get p hm)
  · refine (hs.2 x fun e' => ?_).trans (R.keep x o' e)
    subst e'
    rw [R.new _ hp.old] at e; cases e
  · have : p.1 ∈ T.map (·.1) := by rw [← hp.keys]; exact List.mem_map.mpr ⟨p, hm, rfl⟩
    obtain ⟨q, hq, e⟩ := List.mem_map.mp this
    rw [← e]; exact R.new q hq
section
variable {α : Type} {M : Model} {A : Around} {Q : α → Shared → Prop} {E : Value → Shared → Prop} {b h : Heap} {g : Array GenState} {d : Drawn} {t : Nat} {os : OsState} {T T' : List (Addr × Obj)}
theorem o_load {a : Addr} {p : Option Value} {o : Obj} {k : Obj → Sem α} (R : Own b T h) (hm : (a, o) ∈ T) (q : wpAny M A (k o) Q E ⟨h, g, d, t, os⟩) : wpAny M A (Sem.load a p k) Q E ⟨h, g, d, t, os⟩ := r_load (R.get _ hm) q
theorem o_loadOld {a : Addr} {p : Option Value} {o : Obj} {k : Obj → Sem α} (R : Own b T h) (hm : b.get? a = some o) (q : wpAny M A (k o) Q E ⟨h, g, d, t, os⟩) : wpAny M A (Sem.load a p k) Q E ⟨h, g, d, t, os⟩ := r_load (R.keep _ _ hm) q
theorem o_fresh {k : Tok → Sem α} (q : ∀ t', wpAny M A (k t) Q E ⟨h, g, d, t', os⟩) : wpAny M A (Sem.fresh k) Q E ⟨h, g, d, t, os⟩ := r_fresh (q (t + 1))
theorem o_alloc {o : Obj} {k : Addr → Sem α} (R : Own b T h) (q : ∀ a h', Own b ((a, o) :: T) h' → wpAny M A (k a) Q E ⟨h', g, d, t, os⟩) (hf : o.isFreed = false := by rfl) : wpAny M A (Sem.alloc o k) Q E ⟨h, g, d, t, os⟩ :=
  fun Γ p hΓ => q _ _ (R.push o hf) Γ p hΓ
theorem o_update {a : Addr} {p : Option Value} {f : Obj → Obj} {o : Obj} {k : Unit → Sem α} (R : Own b T h) (hp : Put a o (f o) T T') (q : ∀ h', Own b T' h' → wpAny M A (k ()) Q E ⟨h', g, d, t, os⟩) (hf : (f o).isFreed = false := by rfl) : wpAny M A (Sem.update a p f k) Q E ⟨h, g, d, t, os⟩ :=
  fun Γ p' hΓ => ⟨by rw [show (⟨h, g, d, t, os⟩ : Shared).heap.get? a = some o from R.get _ hp.old]; rfl, q _ (R.update hp hf) Γ p' hΓ⟩
end
end Mine
namespace Mine
theorem pb {α β : Type} (a : α) (f : α → Sem β) : (Sem.pure a).bind f = f a := rfl
theorem nsLook_of {o : Obj} {es : Array DictEntry} {ep : Nat} {m : Str → Option Value} (hd : o.data = .dict es ep) (hk : StrKeys es) (hm : ∀ n, nsFind es n = m n) (x : Str) : nsLook x o = pure (m x) := by
  rw [← hm x]
  simp only [nsLook_eq, nsLookByArray, hd, nsFind, findBy]
  cases hf : es.find? (·.key.isStr x) with
  | some e => simp only [Option.map_some]
  | none =>
    have : es.any (·.refKey) = false := by
      rw [Array.any_eq_false']; intro e he; obtain ⟨n, t, h⟩ := hk e he; simp [DictEntry.refKey, h]
    simp only [this, Bool.false_eq_true, if_false, Option.map_none]
/-- the builtins' table stands -/
noncomputable def BI (b : Heap) : Prop := ∃ o, b.get? 0 = some o ∧ ∀ x : Str, x ≠ Str.ofString "__name__" → nsLook x o = Sem.pure (bootBuiltins x)
theorem BI.of_top {p : Program} {loose : List Str} {mean : ExcName → Option Value} {mg mb : Str → Option Value} {h : Heap} (T : Top p loose mean mg mb h) : BI h := by
  obtain ⟨o, es, ep, ho, hd, hk, hm⟩ := T.b
  exact ⟨o, ho, fun x hx => (nsLook_of hd hk hm x).trans (by rw [T.builtins x hx]; rfl)⟩
section
variable {α : Type} {M : Model} {A : Around} {Q : α → Shared → Prop} {E : Value → Shared → Prop} {b h : Heap} {g : Array GenState} {d : Drawn} {t : Nat} {os : OsState} {T T' : List (Addr × Obj)}
theorem o_load0 {x : Str} {v : Option Value} {u : Tok} {k : Obj → Sem α} (R : Own b T h) (hB : BI b) (hv : bootBuiltins x = v) (hx : x ≠ Str.ofString "__name__") (q : ∀ o, nsLook x o = Sem.pure v → wpAny M A (k o) Q E ⟨h, g, d, t, os⟩) : wpAny M A (Sem.load 0 (some (.str x u)) k) Q E ⟨h, g, d, t, os⟩ := by
  obtain ⟨o, ho, hl⟩ := hB
  exact r_load (R.keep _ _ ho) (q o (by rw [hl x hx, hv]))
end
theorem bb_build : bootBuiltins (Str.ofString "__build_class__") = some (.builtin "__build_class__") := by kernel_rfl
theorem bb_object : bootBuiltins (Str.ofString "object") = some (.type "object") := by kernel_rfl
end Mine
namespace Mine
noncomputable abbrev PG : Program := PySem.Challenge.rw_oy0135_01.row.prog
noncomputable abbrev KF (w : World) : Frag := KH w.params
/-- the ground: the top's objects, the globals, the built-in names -/
structure Gr (w : World) (b : Heap) : Prop where
  k : (KF w).In b
  gl : ∃ mg, b.Ns mainGlobals mg
  bm : ∃ mg bm ob, b.Ns mainGlobals mg ∧ mg "__builtins__" = some (.ref bm) ∧ bm ≠ builtinsNs ∧ b.get? bm = some ob ∧ ob.cls = .type "module" ∧ ob.dict = some builtinsNs ∧ ob.data = .plain
  bi : ∃ mb, b.Ns builtinsNs mb ∧ ∀ x : Str, x ≠ Str.ofString "__name__" → mb x = bootBuiltins x
noncomputable def Kp (h h' : Heap) : Prop := ∀ a o, h.get? a = some o → h'.get? a = some o
theorem Kp.refl (h : Heap) : Kp h h := fun _ _ e => e
theorem Kp.trans {a b c : Heap} (x : Kp a b) (y : Kp b c) : Kp a c := fun p o e => y p o (x p o e)
theorem Gr.keeps {w : World} {b h : Heap} (G : Gr w b) (k : Kp b h) : Gr w h :=
  ⟨fun a o e => k _ _ (G.k a o e), (let ⟨mg, n⟩ := G.gl; ⟨mg, n.keeps k⟩), (let ⟨mg, bm, ob, n, a1, a2, a3, a4⟩ := G.bm; ⟨mg, bm, ob, n.keeps k, a1, a2, k _ _ a3, a4⟩), (let ⟨mb, n, e⟩ := G.bi; ⟨mb, n.keeps k, e⟩)⟩
theorem Gr.of_top {w : World} {p : Program} {loose : List Str} {mean : ExcName → Option Value} {mg mb : Str → Option Value} {h : Heap} (X : (KF w).In h) (T : Top p loose mean mg mb h) : Gr w h :=
  ⟨X, ⟨mg, T.g⟩, (let ⟨bm, ob, r⟩ := T.bmain; ⟨mg, bm, ob, T.g, r⟩), mb, T.b, T.builtins⟩
theorem Gr.get {w : World} {b : Heap} (G : Gr w b) {a : Addr} {o : Obj} (e : (KF w).lookup a = some o) : b.get? a = some o := G.k a o e
theorem Gr.noLimit {w : World} {b : Heap} (G : Gr w b) : b.NoLimit :=
  ⟨fun _ => none, ⟨_, _, _, G.get (a := 2) rfl, rfl, (by intro e he; simp at he), (by intro x; rfl)⟩, rfl⟩
/-- what a global name gives -/
noncomputable def GlobIs (P : Params) (x : Str) (v : Value) : Prop := nsIn (KH P) mainGlobals x = some (some v) ∨ (nsIn (KH P) mainGlobals x = some none ∧ bootBuiltins x = some v ∧ x ≠ Str.ofString "__name__")
/-- a frame (its names m; none where L is 0) and a ledger (T): all else as in b -/
structure St (b : Heap) (L : Addr) (m : Str → Option Value) (T : List (Addr × Obj)) (h : Heap) : Prop where
  own : Own b T h
  fr : L = 0 ∨ (h.Ns L m ∧ b.get? L = none ∧ L ∉ T.map (·.1))
theorem St.bare {b : Heap} : St b 0 (fun _ => none) [] b := ⟨Own.start b, .inl rfl⟩
theorem St.keep {b h : Heap} {L : Addr} {m : Str → Option Value} {T : List (Addr × Obj)} (S : St b L m T h) : Kp b h := S.own.keep
theorem St.get {b h : Heap} {L : Addr} {m : Str → Option Value} {T : List (Addr × Obj)} (S : St b L m T h) {a : Addr} {o : Obj} (hm : (a, o) ∈ T) : h.get? a = some o := S.own.get _ hm
theorem St.push {b h : Heap} {L : Addr} {m : Str → Option Value} {T : List (Addr × Obj)} (S : St b L m T h) (o : Obj) (hf : o.isFreed = false) : St b L m ((h.objs.size, o) :: T) (h.push o) := by
  refine ⟨S.own.push o hf, S.fr.imp id fun ⟨n, nl, off⟩ => ⟨n.push o, nl, fun hm => ?_⟩⟩
  rcases List.mem_cons.mp hm with e | hm
  · exact absurd n.lt (by rw [e]; exact Nat.lt_irrefl _)
  · exact off hm
theorem St.update {b h : Heap} {L : Addr} {m : Str → Option Value} {T T' : List (Addr × Obj)} {a : Addr} {o : Obj} {f : Obj → Obj} (S : St b L m T h) (hp : Put a o (f o) T T') (hf : (f o).isFreed = false) : St b L m T' (h.update a f) := by
  have hs : Heap.SameBut a h (h.update a f) := Heap.SameBut.update ..
  refine ⟨S.own.update hp hf, S.fr.imp id fun ⟨n, nl, off⟩ => ⟨n.sameBut hs fun e => off ?_, nl, by rw [hp.keys]; exact off⟩⟩
  rw [e]; exact List.mem_map.mpr ⟨_, hp.old, rfl⟩
theorem St.names {b h h' : Heap} {L : Addr} {m m' : Str → Option Value} {T : List (Addr × Obj)} (S : St b L m T h) (h0 : L ≠ 0) (hn : h'.Ns L m') (hs : Heap.SameBut L h h') : St b L m' T h' := by
  obtain ⟨n, nl, off⟩ := S.fr.resolve_left h0
  refine ⟨⟨S.own.nodup, fun p hp => ?_, fun a o e => ?_, S.own.new⟩, .inr ⟨hn, nl, off⟩⟩
  · refine (hs.2 _ fun e => off ?_).trans (S.own.get p hp)
    rw [← e]; exact List.mem_map.mpr ⟨p, hp, rfl⟩
  · refine (hs.2 _ fun e' => ?_).trans (S.own.keep a o e)
    rw [e', nl] at e; cases e
/-- a heap that keeps all -/
theorem St.grown {b h h' : Heap} {L : Addr} {m : Str → Option Value} {T : List (Addr × Obj)} (S : St b L m T h) (k : Kp h h') : St b L m T h' :=
  ⟨⟨S.own.nodup, fun p hp => k _ _ (S.own.get p hp), fun a o e => k _ _ (S.own.keep a o e), S.own.new⟩, S.fr.imp id fun ⟨n, nl, off⟩ => ⟨n.keeps k, nl, off⟩⟩
theorem St.sub {b h : Heap} {L : Addr} {m : Str → Option Value} {T T' : List (Addr × Obj)} (S : St b L m T h) (hs : T'.Sublist T) : St b L m T' h :=
  ⟨⟨(hs.map _).nodup S.own.nodup, fun p hp => S.own.get p (hs.subset hp), S.own.keep, fun p hp => S.own.new p (hs.subset hp)⟩, S.fr.imp id fun ⟨n, nl, off⟩ => ⟨n, nl, fun hm => off ((hs.map _).subset hm)⟩⟩
theorem Own.sub {b h : Heap} {T T' : List (Addr × Obj)} (S : Own b T h) (hs : T'.Sublist T) : Own b T' h :=
  ⟨(hs.map _).nodup S.nodup, fun p hp => S.get p (hs.subset hp), S.keep, fun p hp => S.new p (hs.subset hp)⟩

section
variable {α : Type} {M : Model} {A : Around} {Q : α → Shared → Prop} {E : Value → Shared → Prop} {b h : Heap} {g : Array GenState} {d : Drawn} {t : Nat} {os : OsState} {L : Addr} {m : Str → Option Value} {T T' : List (Addr × Obj)}
theorem s_load {a : Addr} {p : Option Value} {o : Obj} {k : Obj → Sem α} (S : St b L m T h) (hm : (a, o) ∈ T) (q : wpAny M A (k o) Q E ⟨h, g, d, t, os⟩) : wpAny M A (Sem.load a p k) Q E ⟨h, g, d, t, os⟩ := r_load (S.get hm) q
theorem s_loadOld {a : Addr} {p : Option Value} {o : Obj} {k : Obj → Sem α} (S : St b L m T h) (hm : b.get? a = some o) (q : wpAny M A (k o) Q E ⟨h, g, d, t, os⟩) : wpAny M A (Sem.load a p k) Q E ⟨h, g, d, t, os⟩ := r_load (S.keep _ _ hm) q
theorem s_loadGr {w : World} {a : Addr} {p : Option Value} {o : Obj} {k : Obj → Sem α} (G : Gr w b) (S : St b L m T h) (hm : (KF w).lookup a = some o) (q : wpAny M A (k o) Q E ⟨h, g, d, t, os⟩) : wpAny M A (Sem.load a p k) Q E ⟨h, g, d, t, os⟩ := r_load (S.keep _ _ (G.get hm)) q
theorem s_alloc {o : Obj} {k : Addr → Sem α} (S : St b L m T h) (q : ∀ a h', St b L m ((a, o) :: T) h' → wpAny M A (k a) Q E ⟨h', g, d, t, os⟩) (hf : o.isFreed = false := by rfl) : wpAny M A (Sem.alloc o k) Q E ⟨h, g, d, t, os⟩ :=
  fun Γ p hΓ => q _ _ (S.push o hf) Γ p hΓ
theorem s_update {a : Addr} {p : Option Value} {f : Obj → Obj} {o : Obj} {k : Unit → Sem α} (S : St b L m T h) (hp : Put a o (f o) T T') (q : ∀ h', St b L m T' h' → wpAny M A (k ()) Q E ⟨h', g, d, t, os⟩) (hf : (f o).isFreed = false := by rfl) : wpAny M A (Sem.update a p f k) Q E ⟨h, g, d, t, os⟩ :=
  fun Γ p' hΓ => ⟨by rw [show (⟨h, g, d, t, os⟩ : Shared).heap.get? a = some o from S.get hp.old]; rfl, q _ (S.update hp hf) Γ p' hΓ⟩
end
section
variable {M : Model} {A : Around} {E : Value → Shared → Prop} {b h : Heap} {g : Array GenState} {d : Drawn} {t : Nat} {os : OsState} {L : Addr} {m : Str → Option Value} {T T' : List (Addr × Obj)} {env : Env}
theorem n_local {x : Str} {v : Value} {Q : Value → Shared → Prop} (S : St b L m T h) (h0 : L ≠ 0) (hL : env.locals = L) (hk : env.scope.kind = .function) (hl : env.kindOf x = some .local) (hv : m x = some v) (q : Q v ⟨h, g, d, t, os⟩) : wpAny M A (loadName env x) Q E ⟨h, g, d, t, os⟩ :=
  wpAny_loadName_local hk hl (hL ▸ (S.fr.resolve_left h0).1) hv q
theorem n_store {x : Str} {v : Value} {Q : Unit → Shared → Prop} (S : St b L m T h) (h0 : L ≠ 0) (hL : env.locals = L) (hk : env.scope.kind = .function) (hl : env.kindOf x = some .local) (q : ∀ h' t', St b L (fun y => if y = x then some v else m y) T h' → Q () ⟨h', g, d, t', os⟩) : wpAny M A (storeName env x v) Q E ⟨h, g, d, t, os⟩ := by
  subst hL
  exact wpAny_storeName_local hl (S.fr.resolve_left h0).1 (fun h' hn hs => q h' _ (S.names h0 hn hs)) (by rw [hk]; rfl)
theorem n_old {x : Str} {v : Value} {mC : Str → Option Value} {Q : Value → Shared → Prop} (S : St b L m T h) (hn : b.Ns env.locals mC) (hk : env.scope.kind = .function) (hl : env.kindOf x = some .local) (hv : mC x = some v) (q : Q v ⟨h, g, d, t, os⟩) : wpAny M A (loadName env x) Q E ⟨h, g, d, t, os⟩ :=
  wpAny_loadName_local hk hl (hn.keeps S.keep) hv q
noncomputable abbrev cellO (v : Option Value) : Obj := { cls := .type "cell", data := .cell v }
theorem n_cell {x : Str} {c : Addr} {v : Value} {Q : Value → Shared → Prop} (hc : env.cells.lookup x = some c) (hg : h.get? c = some (cellO (some v))) (hk : env.scope.kind = .function) (hl : env.kindOf x = some .cell) (q : Q v ⟨h, g, d, t, os⟩) : wpAny M A (loadName env x) Q E ⟨h, g, d, t, os⟩ :=
  wpAny_loadName_cell hk hl hc ⟨_, hg, rfl⟩ q
theorem n_free {x : Str} {c : Addr} {v : Value} {Q : Value → Shared → Prop} (hc : env.cells.lookup x = some c) (hg : h.get? c = some (cellO (some v))) (hk : env.scope.kind = .function) (hl : env.kindOf x = some .free) (hn : (x == ("__classdict__" : Str)) = false) (q : Q v ⟨h, g, d, t, os⟩) : wpAny M A (loadName env x) Q E ⟨h, g, d, t, os⟩ :=
  wpAny_loadName_free hk hl hc ⟨_, hg, rfl⟩ q hn
theorem n_global {w : World} {x : Str} {v : Value} {Q : Value → Shared → Prop} (G : Gr w b) (k : Kp b h) (hk : env.scope.kind = .function) (hl : env.kindOf x = some .globalImplicit) (hg : env.globals = mainGlobals) (hb : env.builtins = builtinsNs) (hv : GlobIs w.params x v)
    (q : Q v ⟨h, g, d, t, os⟩) : wpAny M A (loadName env x) Q E ⟨h, g, d, t, os⟩ := by
  unfold loadName
  simp only [Env.blockKind, hk, hl, ScopeKind.isAnnotationScope, Bool.false_and, Bool.false_eq_true, if_false]
  obtain ⟨mg, ng⟩ := G.gl
  obtain ⟨mb, nb, eb⟩ := G.bi
  rcases hv with e | ⟨e, e2, hx⟩
  · exact loadGlobal_global (mg := mg) (by rw [hg]; exact ng.keeps k) (mg_of G.k ng e) q
  · exact loadGlobal_builtin (mg := mg) (mb := mb) (by rw [hg]; exact ng.keeps k) (mg_none_of G.k ng e) (by rw [hb]; exact nb.keeps k) ((eb x hx).trans e2) q
end
end Mine
namespace Mine
section
variable {prog : Program} {w : World} {A : Around} {E : Value → Shared → Prop} {s : Shared}
theorem for_turn {R : Result → Shared → Prop} {target it body orelse env}
    (turn : wpAny (model prog w) A (pyNext it) (fun r s₁ => match r with
      | none => wpAny (model prog w) A (execs orelse env) (fun f s₃ => R (.ok f) s₃) (notedBy (model prog w) A env fun e s' => R (.error e) s') s₁
      | some v => wpAny (model prog w) A (letOwnedTupleGo target it v) (fun _ s₁' =>
          wpAny (model prog w) A (assign target env v) (fun _ s₂ => wpAny (model prog w) A (execs body env) (fun f s₃ => match f with
            | .next | .cont => codeAny (model prog w) A (.forLoop target it body orelse env) R s₃
            | .brk => R (.ok .next) s₃
            | .ret v => R (.ok (.ret v)) s₃) (notedBy (model prog w) A env fun e s' => R (.error e) s') s₂) (notedBy (model prog w) A env fun e s' => R (.error e) s') s₁') (notedBy (model prog w) A env fun e s' => R (.error e) s') s₁)
        (notedBy (model prog w) A env fun e s' => R (.error e) s') s) :
    codeAny (model prog w) A (.forLoop target it body orelse env) R s := by
  refine codeAny_of_tree ?_
  show wpAny _ A ((forTurn target it body orelse env).onRaise (fun x => do noteFrame x env; theTreesLotGoes x)) _ _ s
  refine wpAny_noted ?_
  simp only [forTurn]
  refine wpAny_bind (wpAny_standAt (wpAny_bind (wpAny_onRaise (wpAny_mono turn (fun r s₁ h₁ => ?_) fun _ _ h' => wpAny_standAt h'))))
  cases r with
  | none => exact wpAny_pure ⟨rfl, codeAny_block h₁⟩
  | some v =>
    refine wpAny_bind (wpAny_mono h₁ (fun _ s₁' h₁' => ?_) fun _ _ h' => h')
    refine wpAny_bind (wpAny_mono h₁' (fun _ s₂ h₂ => wpAny_bind (wpAny_mono h₂ (fun f s₃ h₃ => ?_) fun _ _ h' => h')) fun _ _ h' => h')
    cases f with
    | next => exact wpAny_pure ⟨rfl, h₃⟩
    | cont => exact wpAny_pure ⟨rfl, h₃⟩
    | brk => exact wpAny_pure h₃
    | ret v => exact wpAny_pure h₃
end
section
variable {w : World} {A : Around} {g : Array GenState} {d : Drawn} {t : Nat} {os : OsState} {h : Heap}
/-- a def of the top is entered -/
theorem enter {R : Result → Shared → Prop} {f : Addr} {o : Obj} {fd : FuncData} {body : List Stmt} {args : Args} {binds : List (Str × Value)}
    (G : Gr w h) (ho : (KF w).lookup f = some o) (hd : o.data = .func fd) (hcd : codeIn (KF w) fd.code fd.qualname = true) (hb : fd.body = .stmts body)
    (hroom : A.depth < recursionLimit) (hbind : BindsTo ⟨h, g, d, t, os⟩ fd args binds)
    (hcell : ∀ x ∈ fd.scope.names, x.2 ≠ .cell) (hloc : ∀ x ∈ binds, fd.scope.names.lookup x.1 = some .local)
    (q : ∀ L h' t', L ≠ 0 → St h L (fun x => binds.reverse.lookup x) [] h' →
      wpAny (model PG w) (A.deeper (callEnv fd L f)) (execs body (callEnv fd L f)) (fun fl s' => R (.ok (.ret (match fl with | .ret v => v | _ => .none))) s')
        (fun e s' => wpAny (model PG w) (A.deeper (callEnv fd L f)) (leaving (callEnv fd L f) e) (fun _ s'' => R (.error e) s'') (fun e' s'' => R (.error e') s'') s')
        ⟨h', g, d, t', os⟩)
    (hco : fd.scope.isCoroutine = false) (hgen : fd.scope.isGenerator = false) (hk : fd.scope.kind = .function) :
    codeAny (model PG w) A (.call (.ref f) args) R ⟨h, g, d, t, os⟩ := by
  refine codeAny_call_def (binds := binds) hroom (G.get ho) hd G.noLimit (codeRec_of G.k hcd) hb hbind hcell hloc (fun h₁ hns hk₁ => ?_) hco hgen hk
  refine q _ h₁ _ (Nat.ne_of_gt (Nat.lt_of_le_of_lt (Nat.zero_le 2) (Heap.lt_size (G.get (a := 2) rfl)))) ⟨⟨List.nodup_nil, (fun _ hp => by cases hp), hk₁, (fun _ hp => by cases hp)⟩, .inr ⟨hns, ?_, (by simp)⟩⟩
  cases e : h.get? h.objs.size with
  | none => rfl
  | some o' => exact absurd (Heap.lt_size e) (Nat.lt_irrefl _)
end
section
variable {M : Model} {A : Around} {E : Value → Shared → Prop} {s : Shared} {env : Env} {pos p2 : Pos}
theorem ea_nil {f : Value} {Q : Args → Shared → Prop} (q : Q ⟨[], []⟩ s) : wpAny M A (evalArgs f true (backTo pos (starEach [] env)) []) Q E s := PySem.evalArgs_none q
theorem ea_cons {f : Value} {e : Expr} {rest : List Expr} {Q : Args → Shared → Prop} (q : wpAny M A (spliced (backTo pos (starEach (e :: rest) env))) (fun vs s' => Q ⟨vs, []⟩ s') E s)
    (he : starEach (e :: rest) env = (false, eval e env) :: starEach rest env) : wpAny M A (evalArgs f true (backTo pos (starEach (e :: rest) env)) []) Q E s := by
  rw [he] at q ⊢
  exact evalArgs_plain q
theorem call_name {x : Str} {np : Pos} {args : List Expr} {Q : Value → Shared → Prop}
    (q : wpAny M A (eval (.Name x np) env) (fun f s₁ => wpAny M A (callWith pos f [] (backTo pos (starEach args env)) []) Q E s₁) E s) :
    wpAny M A (eval (.Call (.Name x np) args [] pos) env) Q E s := wpAny_Call_ofName q
theorem call_meth {o : Expr} {name : Str} {apos : Pos} {args : List Expr} {pl : Sem Bool} {Q : Value → Shared → Prop}
    (q : wpAny M A (eval o env) (fun ov s₁ => wpAny M A (getMethod ov name pl) (fun fx s₂ => match fx with | (f, first) => wpAny M A (callWith pos f first (backTo pos (starEach args env)) []) Q E s₂) E s₁) E s)
    (he : eval ((o.Attribute name apos).Call args [] pos) env = do
          let ov ← eval o env
          standAt apos.atName
          let __x ← holding [ov] (getMethod ov name pl)
          match __x with
            | (f, first) => callWith pos f first (backTo pos (starEach args env)) []) :
    wpAny M A (eval ((o.Attribute name apos).Call args [] pos) env) Q E s := MethodCall_ (wpAny_mono q (fun _ _ h => wpAny_mono h (fun _ _ h' => h') fun _ _ e => e) fun _ _ e => e) he
theorem cw_builtin {id : String} {first : List Value} {es : List Expr} {Q : Value → Shared → Prop} (hp : (backTo p2 (starEach es env)).any (·.1) = false)
    (q : wpAny M A (evalArgs (.builtin id) true (backTo p2 (starEach es env)) []) (fun a s₁ => wpAny M A (call (.builtin id) (first ++ a.pos) a.kw) Q E s₁) E s) :
    wpAny M A (callWith pos (.builtin id) first (backTo p2 (starEach es env)) []) Q E s := Calls.callWith_builtin hp q
theorem cw_type {T : String} {first : List Value} {es : List Expr} {Q : Value → Shared → Prop} (hp : (backTo p2 (starEach es env)).any (·.1) = false)
    (q : wpAny M A (evalArgs (.type T) true (backTo p2 (starEach es env)) []) (fun a s₁ => wpAny M A (call (.type T) (first ++ a.pos) a.kw) Q E s₁) E s) :
    wpAny M A (callWith pos (.type T) first (backTo p2 (starEach es env)) []) Q E s := PyProof.Rows.callWith_type hp q
theorem cw_ref {a : Addr} {o : Obj} {fd : FuncData} {first : List Value} {es : List Expr} {Q : Value → Shared → Prop}
    (q : wpAny M A (evalArgs (.ref a) true (backTo p2 (starEach es env)) []) (fun x s₁ => (s₁.heap.get? a = some o ∧ o.data = .func fd) ∧ wpAny M A (call (.ref a) (first ++ x.pos) x.kw) Q E s₁) E s) :
    wpAny M A (callWith pos (.ref a) first (backTo p2 (starEach es env)) []) Q E s := callWith_function_kw q
theorem cw_gr {w : World} {a : Addr} {o : Obj} {fd : FuncData} {first : List Value} {es : List Expr} {Q : Value → Shared → Prop} (_ho : (KF w).lookup a = some o) (hd : o.data = .func fd)
    (q : wpAny (model PG w) A (evalArgs (.ref a) true (backTo p2 (starEach es env)) []) (fun x s₁ => s₁.heap.get? a = some o ∧ wpAny (model PG w) A (call (.ref a) (first ++ x.pos) x.kw) Q E s₁) E s) :
    wpAny (model PG w) A (callWith pos (.ref a) first (backTo p2 (starEach es env)) []) Q E s := callWith_function_kw (wpAny_mono q (fun _ _ h => ⟨⟨h.1, hd⟩, h.2⟩) fun _ _ e => e)
theorem cw_grKw {w : World} {a : Addr} {o : Obj} {fd : FuncData} {first : List Value} {es : List Expr} {ks : List Keyword} {Q : Value → Shared → Prop} (_ho : (KF w).lookup a = some o) (hd : o.data = .func fd)
    (q : wpAny (model PG w) A (evalArgs (.ref a) true (backTo p2 (starEach es env)) (backToKw p2 (keywordEach ks env))) (fun x s₁ => s₁.heap.get? a = some o ∧ wpAny (model PG w) A (call (.ref a) (first ++ x.pos) x.kw) Q E s₁) E s) :
    wpAny (model PG w) A (callWith pos (.ref a) first (backTo p2 (starEach es env)) (backToKw p2 (keywordEach ks env))) Q E s := callWith_function_kw (wpAny_mono q (fun _ _ h => ⟨⟨h.1, hd⟩, h.2⟩) fun _ _ e => e)
end
end Mine
namespace Mine
theorem c_tree {prog : Program} {w : World} {A : Around} {s : Shared} {c : Code} {R : Result → Shared → Prop}
    (h : wpAny (model prog w) (A.under c) (denote table c) (fun fin s' => match fin with | .done f => R (.ok f) s' | .again c' => c'.quiet = true ∧ codeAny (model prog w) A c' R s')
      (fun e s' => R (.error e) s') s) : codeAny (model prog w) A c R s := codeAny_of_tree h
theorem c_builtin {prog : Program} {w : World} {A : Around} {s : Shared} {id : String} {args : Args} {bi : Builtin} {R : Result → Shared → Prop} (hb : entryFor table id = some bi)
    (h : wpAny (model prog w) (A.under (.builtin id args)) (bi args) (fun fin s' => match fin with | .done f => R (.ok f) s' | .again c' => c'.quiet = true ∧ codeAny (model prog w) A c' R s')
      (fun e s' => R (.error e) s') s) : codeAny (model prog w) A (.builtin id args) R s := by
  refine codeAny_of_tree ?_
  show wpAny _ _ (match entryFor table id with | some b => b args | none => unsupported ((withoutEnding? id "#data").getD id)) _ _ s
  rw [hb]; exact h
theorem q_builtin {id : String} {args : Args} (h : id.startsWith "lifetime." = false) : (Code.builtin id args).quiet = true := Code.quiet_builtin args h
end Mine
namespace Mine
theorem St.same {b h h' : Heap} {L : Addr} {m : Str → Option Value} {T T' : List (Addr × Obj)} {a : Addr} {o o' : Obj} (S : St b L m T h) (hp : Put a o o' T T') (hs : Heap.SameBut a h h') (hg : h'.get? a = some o') : St b L m T' h' := by
  have ne : ∀ x o'', b.get? x = some o'' → x ≠ a := fun x o'' e e' => by
    subst e'; rw [S.own.new _ hp.old] at e; cases e
  refine ⟨⟨by rw [hp.keys]; exact S.own.nodup, fun p hm => ?_, fun x o'' e => (hs.2 x (ne x o'' e)).trans (S.own.keep x o'' e), fun p hm => ?_⟩, S.fr.imp id fun ⟨n, nl, off⟩ => ⟨n.sameBut hs fun e => off ?_, nl, by rw [hp.keys]; exact off⟩⟩
  · rcases hp.mem S.own.nodup p hm with rfl | ⟨hm, ne⟩
    · exact hg
    · exact (hs.2 _ ne).trans (S.own.get p hm)
  · have : p.1 ∈ T.map (·.1) := by rw [← hp.keys]; exact List.mem_map.mpr ⟨p, hm, rfl⟩
    obtain ⟨q, hq, e⟩ := List.mem_map.mp this
    rw [← e]; exact S.own.new q hq
  · rw [e]; exact List.mem_map.mpr ⟨_, hp.old, rfl⟩
/-- the first entry is let go; all else stays -/
theorem St.loose {b h h' : Heap} {L : Addr} {m : Str → Option Value} {T : List (Addr × Obj)} {a : Addr} {o : Obj} (S : St b L m ((a, o) :: T) h) (hs : Heap.ExtBut a h h') : St b L m T h' := by
  have hn := List.nodup_cons.mp S.own.nodup
  refine ⟨⟨hn.2, fun p hm => ?_, fun x o'' e => ?_, fun p hm => S.own.new p (List.mem_cons_of_mem _ hm)⟩, S.fr.imp id fun ⟨n, nl, off⟩ => ⟨n.extBut hs fun e => off ?_, nl, fun hm => off (List.mem_cons_of_mem _ hm)⟩⟩
  · refine hs _ _ (fun e => hn.1 ?_) (S.own.get p (List.mem_cons_of_mem _ hm))
    show a ∈ _
    rw [← e]; exact List.mem_map.mpr ⟨p, hm, rfl⟩
  · refine hs _ _ (fun e' => ?_) (S.own.keep x o'' e)
    rw [e', S.own.new (a, o) (List.mem_cons_self ..)] at e; cases e
  · rw [e]; exact List.mem_cons_self ..
theorem St.ext {b h h' : Heap} {L : Addr} {m : Str → Option Value} {T : List (Addr × Obj)} (S : St b L m T h) (hs : Heap.ExtBut h.objs.size h h') : St b L m T h' :=
  S.grown fun a o e => hs a o (Nat.ne_of_lt (Heap.lt_size e)) e
inductive SubL (T : List (Addr × Obj)) : List (Addr × Obj) → Prop
  | nil : SubL T []
  | cons {p T'} (hm : p ∈ T) (r : SubL T T') : SubL T (p :: T')
theorem SubL.mem {T T' : List (Addr × Obj)} (s : SubL T T') : ∀ p ∈ T', p ∈ T := by
  induction s with
  | nil => intro p hp; cases hp
  | cons hm r ih =>
    intro p hp
    rcases List.mem_cons.mp hp with rfl | hp
    · exact hm
    · exact ih p hp
theorem St.pick {b h : Heap} {L : Addr} {m : Str → Option Value} {T T' : List (Addr × Obj)} (S : St b L m T h) (hs : SubL T T') (hn : (T.map (·.1)).Nodup → (T'.map (·.1)).Nodup) : St b L m T' h :=
  ⟨⟨hn S.own.nodup, fun p hp => S.own.get p (hs.mem p hp), S.own.keep, fun p hp => S.own.new p (hs.mem p hp)⟩, S.fr.imp id fun ⟨n, nl, off⟩ => ⟨n, nl, fun hm => off (by
    obtain ⟨p, hp, e⟩ := List.mem_map.mp hm
    exact List.mem_map.mpr ⟨p, hs.mem p hp, e⟩)⟩⟩
section
variable {w : World} {A : Around} {E : Value → Shared → Prop} {b h : Heap} {g : Array GenState} {d : Drawn} {t : Nat} {os : OsState} {L : Addr} {m : Str → Option Value} {T T' : List (Addr × Obj)} {env : Env}
theorem t_iter {tp : Addr} {items : Array Value} {Q : Value → Shared → Prop} (S : St b L m T h) (ht : h.IsTuple tp items)
    (q : ∀ it h', St b L m ((it, { cls := .type "tuple_iterator", data := .fields #[.ref tp, .int 0 0] }) :: T) h' → Q (.ref it) ⟨h', g, d, t, os⟩) : wpAny (model PG w) A (pyIter (.ref tp)) Q E ⟨h, g, d, t, os⟩ :=
  wpAny_pyIter_tuple ht (q _ _ (S.push _ rfl))
theorem t_next {it tp : Addr} {oi : Obj} {i : Nat} {items : Array Value} {x : Value} {Q : Option Value → Shared → Prop} (S : St b L m ((it, oi) :: T) h) (hc : oi.cls = .type "tuple_iterator") (hd : oi.data = .fields #[.ref tp, .int i 0])
    (ht : h.IsTuple tp items) (hx : items[i]? = some x)
    (q : ∀ h' oi', oi'.cls = .type "tuple_iterator" → oi'.data = .fields #[.ref tp, .int (i + 1 : Nat) 0] → St b L m ((it, oi') :: T) h' → Q (some x) ⟨h', g, d, t, os⟩) : wpAny (model PG w) A (pyNext (.ref it)) Q E ⟨h, g, d, t, os⟩ := by
  refine wpAny_pyNext_tuple_item ⟨oi, S.get (List.mem_cons_self ..), hc, hd⟩ ht hx fun h' hi hs => ?_
  obtain ⟨oi', hg, hc', hd'⟩ := hi
  exact q h' oi' hc' hd' (S.same Put.head hs hg)
theorem t_end {it tp : Addr} {oi : Obj} {i : Nat} {items : Array Value} {Q : Option Value → Shared → Prop} (hh : A.handled = none) (S : St b L m ((it, oi) :: T) h) (hc : oi.cls = .type "tuple_iterator") (hd : oi.data = .fields #[.ref tp, .int i 0])
    (ht : h.IsTuple tp items) (hx : items[i]? = none)
    (q : ∀ h', St b L m T h' → Q none ⟨h', g, d, t, os⟩) : wpAny (model PG w) A (pyNext (.ref it)) Q E ⟨h, g, d, t, os⟩ := by
  refine wpAny_pyNext_tuple_end hh ⟨oi, S.get (List.mem_cons_self ..), hc, hd⟩ ht hx fun h' hs => ?_
  exact q h' (S.loose hs)
/-- two names out of a pair -/
theorem a_pair {tp : Addr} {x y : Str} {px py pt : Pos} {k : Nat} {v0 v1 : Value} {Q : Unit → Shared → Prop} (hh : A.handled = none) (S : St b L m T h) (ht : h.IsTuple tp #[v0, v1]) (h0 : L ≠ 0) (hL : env.locals = L) (hk : env.scope.kind = .function)
    (hx : env.kindOf x = some .local) (hy : env.kindOf y = some .local)
    (q : ∀ h' t', St b L (fun z => if z = y then some v1 else if z = x then some v0 else m z) T h' → Q () ⟨h', g, d, t', os⟩) : wpAny (model PG w) A (assign (.Tuple [.Name x px, .Name y py] k pt) env (.ref tp)) Q E ⟨h, g, d, t, os⟩ := by
  refine wpAny_assign_Tuple hh ht rfl rfl fun h₁ hx₁ => ?_
  have S₁ := S.ext hx₁
  show wpAny _ A (do holding [v1] (assign (.Name x px) env v0); do holding [] (assign (.Name y py) env v1); pure ()) _ _ _
  refine wpAny_bind (wpAny_holding (wpAny_assign_Name (n_store S₁ h0 hL hk hx fun h₂ t₂ S₂ => ?_)))
  exact wpAny_bind (wpAny_holding (wpAny_assign_Name (n_store S₂ h0 hL hk hy fun h₃ t₃ S₃ => wpAny_pure (q _ _ S₃))))
/-- nothing is let go at a tuple's iterator -/
theorem lot_tup {e : List Expr} {k : Nat} {p : Pos} {it a : Addr} {oi : Obj} {Q : Unit → Shared → Prop} (S : St b L m ((it, oi) :: T) h) (hc : oi.cls = .type "tuple_iterator") {vs : Array Value} (hd : oi.data = .fields vs) (q : Q () ⟨h, g, d, t, os⟩) :
    wpAny (model PG w) A (letOwnedTupleGo (.Tuple e k p) (.ref it) (.ref a)) Q E ⟨h, g, d, t, os⟩ := by
  unfold letOwnedTupleGo
  refine wpAny_bind (wpAny_load (S.get (List.mem_cons_self ..)) ?_)
  simp only [hc, hd]
  rw [if_neg (by simp)]
  exact wpAny_pure q
end
end Mine
namespace Mine
noncomputable abbrev lst (vs : Array Value) (n : Nat) : Obj := { cls := .type "list", data := .seq vs n }
section
variable {w : World} {A : Around} {E : Value → Shared → Prop} {b h : Heap} {g : Array GenState} {d : Drawn} {t : Nat} {os : OsState} {L : Addr} {m : Str → Option Value} {T T' : List (Addr × Obj)} {env : Env}
theorem l_getAppend {p : Addr} {vs : Array Value} {n : Nat} {pl : Sem Bool} {Q : Value × List Value → Shared → Prop} (S : St b L m T h) (hm : (p, lst vs n) ∈ T) (q : Q (.builtin "list.append", [.ref p]) ⟨h, g, d, t, os⟩) :
    wpAny (model PG w) A (getMethod (.ref p) (Str.ofString "append") pl) Q E ⟨h, g, d, t, os⟩ := Calls.getMethod_list_append (s := ⟨h, g, d, t, os⟩) (S.get hm) rfl rfl q
theorem l_new {vs : List Value} {Q : Value → Shared → Prop} (S : St b L m T h) (hz : vs.length ≤ sizeLine) (q : ∀ a h', St b L m ((a, lst vs.toArray 0) :: T) h' → Q (.ref a) ⟨h', g, d, t, os⟩) :
    wpAny (model PG w) A (newList vs) Q E ⟨h, g, d, t, os⟩ := wpAny_newObj_type (s := ⟨h, g, d, t, os⟩) (q _ _ (S.push _ rfl)) (by show vs.toArray.size ≤ sizeLine; rw [List.size_toArray]; exact hz)
theorem l_append {p : Addr} {vs : Array Value} {n : Nat} {x : Value} {Q : Value → Shared → Prop} (S : St b L m T h) (hp : Put p (lst vs n) (lst (vs.push x) (n + 1)) T T') (hz : vs.size ≤ sizeLine)
    (q : ∀ h', St b L m T' h' → Q .none ⟨h', g, d, t, os⟩) : wpAny (model PG w) A (call (.builtin "list.append") [.ref p, x]) Q E ⟨h, g, d, t, os⟩ :=
  append_at (s := ⟨h, g, d, t, os⟩) (S.get hp.old) (fun h' hs hg => q h' (S.same hp hs hg)) hz
end
/-- the program's pieces -/
noncomputable def defBody : Stmt → List Stmt
  | .FunctionDef _ _ b _ _ _ _ _ _ _ => b
  | _ => []
noncomputable def forTgt : Stmt → Expr
  | .For t _ _ _ _ => t
  | _ => default
noncomputable def forBody : Stmt → List Stmt
  | .For _ _ b _ _ => b
  | _ => []
noncomputable def forElse : Stmt → List Stmt
  | .For _ _ _ e _ => e
  | _ => []
noncomputable def defScope : Stmt → Scope
  | .FunctionDef _ _ _ _ _ _ sc _ _ _ => sc
  | _ => default
section
variable {w : World} {A : Around} {g : Array GenState} {d : Drawn} {t : Nat} {os : OsState} {h : Heap}
/-- a def of the top is entered, its frame's surroundings named -/
theorem enterE {R : Result → Shared → Prop} {f : Addr} {o : Obj} {fd : FuncData} {body : List Stmt} {args : Args} (ev : Addr → Env) (binds : List (Str × Value))
    (G : Gr w h) (ho : (KF w).lookup f = some o) (hd : o.data = .func fd) (hcd : codeIn (KF w) fd.code fd.qualname = true) (hb : fd.body = .stmts body) (hev : ∀ L, callEnv fd L f = ev L)
    (hroom : A.depth < recursionLimit) (hbind : bindArgs fd args = pure binds)
    (hcell : ∀ x ∈ fd.scope.names, x.2 ≠ .cell) (hloc : ∀ x ∈ binds, fd.scope.names.lookup x.1 = some .local)
    (q : ∀ L h' t', L ≠ 0 → St h L (fun x => binds.reverse.lookup x) [] h' →
      wpAny (model PG w) (A.deeper (ev L)) (execs body (ev L)) (fun fl s' => R (.ok (.ret (match fl with | .ret v => v | _ => .none))) s')
        (fun e s' => wpAny (model PG w) (A.deeper (ev L)) (leaving (ev L) e) (fun _ s'' => R (.error e) s'') (fun e' s'' => R (.error e') s'') s')
        ⟨h', g, d, t', os⟩)
    (hco : fd.scope.isCoroutine = false) (hgen : fd.scope.isGenerator = false) (hk : fd.scope.kind = .function) :
    codeAny (model PG w) A (.call (.ref f) args) R ⟨h, g, d, t, os⟩ :=
  enter (binds := binds) G ho hd hcd hb hroom (BindsTo.of_eq hbind) hcell hloc (fun L h' t' h0 S => by rw [hev L]; exact q L h' t' h0 S) hco hgen hk
end
end Mine
namespace Mine
section
variable {w : World} {A : Around} {E : Value → Shared → Prop} {h : Heap} {g : Array GenState} {d : Drawn} {t : Nat} {os : OsState} {env : Env} {Q : Value → Shared → Prop} {a b : Int} {ta tb : Tok}
theorem v_int {i : Int} {k : Nat} {pos : Pos} (q : ∀ t', Q (.int i t) ⟨h, g, d, t', os⟩) : wpAny (model PG w) A (eval (.Constant (.int i) k pos) env) Q E ⟨h, g, d, t, os⟩ := wpAny_Constant_int (s := ⟨h, g, d, t, os⟩) (q _)
theorem v_str {i : Str} {k : Nat} {pos : Pos} (q : ∀ t', Q (.str i t) ⟨h, g, d, t', os⟩) : wpAny (model PG w) A (eval (.Constant (.str i) k pos) env) Q E ⟨h, g, d, t, os⟩ := wpAny_Constant_str (s := ⟨h, g, d, t, os⟩) (q _)
theorem i_add (q : ∀ t', Q (.int (a + b) t) ⟨h, g, d, t', os⟩) : wpAny (model PG w) A (binaryOp .Add (.int a ta) (.int b tb)) Q E ⟨h, g, d, t, os⟩ := add_int (s := ⟨h, g, d, t, os⟩) (q _)
theorem i_sub (q : ∀ t', Q (.int (a - b) t) ⟨h, g, d, t', os⟩) : wpAny (model PG w) A (binaryOp .Sub (.int a ta) (.int b tb)) Q E ⟨h, g, d, t, os⟩ := sub_int (s := ⟨h, g, d, t, os⟩) (q _)
theorem i_and (q : ∀ t', Q (.int (Builtin.bitAnd a b) t) ⟨h, g, d, t', os⟩) : wpAny (model PG w) A (binaryOp .BitAnd (.int a ta) (.int b tb)) Q E ⟨h, g, d, t, os⟩ := and_int (s := ⟨h, g, d, t, os⟩) (q _)
theorem i_mod (hb : b ≠ 0) (q : ∀ t', Q (.int (a.fmod b) t) ⟨h, g, d, t', os⟩) : wpAny (model PG w) A (binaryOp .Mod (.int a ta) (.int b tb)) Q E ⟨h, g, d, t, os⟩ := mod_int' (s := ⟨h, g, d, t, os⟩) hb (q _)
theorem i_mul (hm : IntMulOk a b) (q : ∀ t', Q (.int (a * b) t) ⟨h, g, d, t', os⟩) : wpAny (model PG w) A (binaryOp .Mult (.int a ta) (.int b tb)) Q E ⟨h, g, d, t, os⟩ := mul_int (s := ⟨h, g, d, t, os⟩) (q _) hm
theorem i_div (hb : b ≠ 0) (hp : Builtin.divisionGoesByPylong a b = false) (q : ∀ t', Q (.int (a.fdiv b) t) ⟨h, g, d, t', os⟩) : wpAny (model PG w) A (binaryOp .FloorDiv (.int a ta) (.int b tb)) Q E ⟨h, g, d, t, os⟩ := floordiv_int (s := ⟨h, g, d, t, os⟩) hb (q _) (.inl hp)
theorem i_pow (hn : 0 ≤ b) (hz : (Builtin.Int.intBits a : Int) * b ≤ 2 ^ 27) (q : ∀ t', Q (.int (a ^ b.toNat) t) ⟨h, g, d, t', os⟩) : wpAny (model PG w) A (binaryOp .Pow (.int a ta) (.int b tb)) Q E ⟨h, g, d, t, os⟩ := pow_int (s := ⟨h, g, d, t, os⟩) hn hz (q _)
theorem c_fn {b : Heap} {L : Addr} {m : Str → Option Value} {T : List (Addr × Obj)} {f : Addr} {o : Obj} {P : Prop} (G : Gr w b) (S : St b L m T h) (ho : (KF w).lookup f = some o) (q : P) : h.get? f = some o ∧ P := ⟨S.keep _ _ (G.get ho), q⟩
end
end Mine
namespace Mine
theorem en_fz_new : entryFor table "frozenset.__new__" = some Builtin.«frozenset.__new__» := entryFor_of_tree (by kernel_rfl)
theorem en_fz_disj : entryFor table "frozenset.isdisjoint" = some Builtin.«frozenset.isdisjoint» := entryFor_of_tree (by kernel_rfl)
theorem en_fz_loop : entryFor table "frozenset.isdisjoint.loop" = some Builtin.«frozenset.isdisjoint.loop» := entryFor_of_tree (by kernel_rfl)
theorem en_ty_new : entryFor table "type.__new__" = some Builtin.«type.__new__» := entryFor_of_tree (by kernel_rfl)
theorem en_ty_init : entryFor table "type.__init__" = some Builtin.«type.__init__» := entryFor_of_tree (by kernel_rfl)
theorem en_ty_prep : entryFor table "type.__prepare__" = some Builtin.«type.__prepare__» := entryFor_of_tree (by kernel_rfl)
theorem en_build : entryFor table "__build_class__" = some Builtin.«__build_class__» := entryFor_of_tree (by kernel_rfl)
theorem en_subc : entryFor table "object.__init_subclass__" = some Builtin.«object.__init_subclass__» := entryFor_of_tree (by kernel_rfl)
theorem en_unchain : entryFor table "proto.unchain" = some Builtin.«proto.unchain» := entryFor_of_tree (by kernel_rfl)
theorem en_ty_ga : entryFor table "type.__getattribute__" = some Builtin.«type.__getattribute__» := entryFor_of_tree (by kernel_rfl)
end Mine
namespace Mine
theorem r_nb : (none : Option Value) ≠ some byPass := by intro x; cases x
theorem gl_table (P : Params) : GlobIs P (Str.ofString "_filemode_table") (.ref 97) := .inl (by kernel_rfl)
theorem gl_enumerate (P : Params) : GlobIs P (Str.ofString "enumerate") (.type "enumerate") := .inr ⟨by kernel_rfl, by kernel_rfl, by decide +kernel⟩
theorem gl_SIFMT (P : Params) : GlobIs P (Str.ofString "S_IFMT") (.ref 64) := .inl (by kernel_rfl)
theorem gl_len (P : Params) : GlobIs P (Str.ofString "len") (.builtin "len") := .inr ⟨by kernel_rfl, by kernel_rfl, by decide +kernel⟩
theorem gl_range (P : Params) : GlobIs P (Str.ofString "range") (.type "range") := .inr ⟨by kernel_rfl, by kernel_rfl, by decide +kernel⟩
theorem gl_suffixed (P : Params) : GlobIs P (Str.ofString "suffixed_err") (.ref 41) := .inl (by kernel_rfl)
theorem gl_toml (P : Params) : GlobIs P (Str.ofString "TOMLDecodeError") (.ref 24) := .inl (by kernel_rfl)
theorem gl_ValueError (P : Params) : GlobIs P (Str.ofString "ValueError") (.type "ValueError") := .inr ⟨by kernel_rfl, by kernel_rfl, by decide +kernel⟩
theorem gl_skip (P : Params) : GlobIs P (Str.ofString "skip_until") (.ref 34) := .inl (by kernel_rfl)
theorem gl_frozenset (P : Params) : GlobIs P (Str.ofString "frozenset") (.type "frozenset") := .inr ⟨by kernel_rfl, by kernel_rfl, by decide +kernel⟩
theorem gl_str (P : Params) : GlobIs P (Str.ofString "str") (.type "str") := .inr ⟨by kernel_rfl, by kernel_rfl, by decide +kernel⟩
theorem gl_min (P : Params) : GlobIs P (Str.ofString "min") (.builtin "min") := .inr ⟨by kernel_rfl, by kernel_rfl, by decide +kernel⟩
theorem gl_iter (P : Params) : GlobIs P (Str.ofString "iter") (.builtin "iter") := .inr ⟨by kernel_rfl, by kernel_rfl, by decide +kernel⟩
theorem gl_next (P : Params) : GlobIs P (Str.ofString "next") (.builtin "next") := .inr ⟨by kernel_rfl, by kernel_rfl, by decide +kernel⟩
theorem gl_missing (P : Params) : GlobIs P (Str.ofString "_initial_missing") (.ref 49) := .inl (by kernel_rfl)
theorem gl_StopIteration (P : Params) : GlobIs P (Str.ofString "StopIteration") (.type "StopIteration") := .inr ⟨by kernel_rfl, by kernel_rfl, by decide +kernel⟩
theorem gl_TypeError (P : Params) : GlobIs P (Str.ofString "TypeError") (.type "TypeError") := .inr ⟨by kernel_rfl, by kernel_rfl, by decide +kernel⟩
theorem gl_sum (P : Params) : GlobIs P (Str.ofString "sum") (.builtin "sum") := .inr ⟨by kernel_rfl, by kernel_rfl, by decide +kernel⟩
theorem gl_filemode (P : Params) : GlobIs P (Str.ofString "filemode") (.ref 104) := .inl (by kernel_rfl)
theorem gl_ranks (P : Params) : GlobIs P (Str.ofString "_law_ranks") (.ref 118) := .inl (by kernel_rfl)
theorem gl_text (P : Params) : GlobIs P (Str.ofString "_law_text") (.ref 123) := .inl (by kernel_rfl)
theorem gl_two (P : Params) : GlobIs P (Str.ofString "_law_two") (.ref 111) := .inl (by kernel_rfl)
theorem gl_due (P : Params) : GlobIs P (Str.ofString "_law_due") (.ref 128) := .inl (by kernel_rfl)
theorem gl_sorted (P : Params) : GlobIs P (Str.ofString "sorted") (.builtin "sorted") := .inr ⟨by kernel_rfl, by kernel_rfl, by decide +kernel⟩
theorem gl_cmp (P : Params) : GlobIs P (Str.ofString "cmp_to_key") (.ref 48) := .inl (by kernel_rfl)
theorem gl_reduce (P : Params) : GlobIs P (Str.ofString "reduce") (.ref 57) := .inl (by kernel_rfl)
theorem gl_object (P : Params) : GlobIs P (Str.ofString "object") (.type "object") := .inr ⟨by kernel_rfl, by kernel_rfl, by decide +kernel⟩
end Mine
namespace Mine
section
variable {w : World} {A : Around} {E : Value → Shared → Prop} {b h : Heap} {g : Array GenState} {d : Drawn} {t : Nat} {os : OsState} {L : Addr} {m : Str → Option Value} {T T' : List (Addr × Obj)} {env : Env} {Q : Value → Shared → Prop}
theorem n_cellS {x : Str} {c : Addr} {v : Value} (hk : env.scope.kind = .function) (hl : env.kindOf x = some .cell) (hc : env.cells.lookup x = some c) (S : St b L m T h) (hm : (c, cellO (some v)) ∈ T) (q : Q v ⟨h, g, d, t, os⟩) : wpAny (model PG w) A (loadName env x) Q E ⟨h, g, d, t, os⟩ :=
  n_cell hc (S.get hm) hk hl q
theorem n_freeS {x : Str} {c : Addr} {v : Value} (hk : env.scope.kind = .function) (hl : env.kindOf x = some .free) (hc : env.cells.lookup x = some c) (S : St b L m T h) (hm : (c, cellO (some v)) ∈ T) (hn : (x == ("__classdict__" : Str)) = false) (q : Q v ⟨h, g, d, t, os⟩) : wpAny (model PG w) A (loadName env x) Q E ⟨h, g, d, t, os⟩ :=
  n_free hc (S.get hm) hk hl hn q
end
end Mine
namespace Mine
noncomputable abbrev rangeO (a b c : Int) (ta tb tc : Tok) : Obj := { cls := .type "range", dict := none, data := .fields #[.int a ta, .int b tb, .int c tc], slots := #[] }
noncomputable abbrev rngIt (x left step : Int) : Obj := { cls := .type "range_iterator", dict := none, data := .fields #[rawInt x, rawInt left, rawInt step], slots := #[] }
theorem ints_item : ∀ {vs : List Value} {ns : List Int}, IntsAre vs ns → ∀ i : Nat, i < ns.length → ∃ tk, vs[i]? = some (.int (ns.getD i 0) tk)
  | _, _, .nil, i, h => by simp at h
  | _, _, .cons n t r, i, h => by
    cases i with
    | zero => exact ⟨t, rfl⟩
    | succ i =>
      obtain ⟨tk, e⟩ := ints_item r i (by simpa using h)
      exact ⟨tk, by simpa using e⟩
section
variable {w : World} {A : Around} {E : Value → Shared → Prop} {b h : Heap} {g : Array GenState} {d : Drawn} {t : Nat} {os : OsState} {L : Addr} {m : Str → Option Value} {T T' : List (Addr × Obj)} {env : Env} {Q : Value → Shared → Prop}
theorem r_range1 {n : Int} {tn : Tok} (S : St b L m T h) (q : ∀ r h' t' ta tc, St b L m ((r, rangeO 0 n 1 ta tn tc) :: T) h' → Q (.ref r) ⟨h', g, d, t', os⟩) :
    wpAny (model PG w) A (call (.type "range") [.int n tn]) Q E ⟨h, g, d, t, os⟩ := call_range_1 (s := ⟨h, g, d, t, os⟩) (q _ _ _ _ _ (S.push _ rfl))
theorem r_range2 {a n : Int} {ta tn : Tok} (S : St b L m T h) (q : ∀ r h' t' tc, St b L m ((r, rangeO a n 1 ta tn tc) :: T) h' → Q (.ref r) ⟨h', g, d, t', os⟩) :
    wpAny (model PG w) A (call (.type "range") [.int a ta, .int n tn]) Q E ⟨h, g, d, t, os⟩ := call_range_2 (s := ⟨h, g, d, t, os⟩) (q _ _ _ _ (S.push _ rfl))
theorem r_iter {r : Addr} {a n : Int} {ta tb tc : Tok} (S : St b L m T h) (hm : (r, rangeO a n 1 ta tb tc) ∈ T) (ha : -1000000 ≤ a ∧ a ≤ 1000000) (hn : -1000000 ≤ n ∧ n ≤ 1000000)
    (q : ∀ it h', St b L m ((it, rngIt a ((n - a).toNat : Nat) 1) :: T) h' → Q (.ref it) ⟨h', g, d, t, os⟩) : wpAny (model PG w) A (pyIter (.ref r)) Q E ⟨h, g, d, t, os⟩ := by
  refine wpAny_pyIter_range (s := ⟨h, g, d, t, os⟩) (S.get hm) (small_one (by omega) (by omega) (by omega) (by omega)) ?_
  rw [rangeSize_nat]
  exact q _ _ (S.push _ rfl)
theorem r_next {it : Addr} {x left : Int} {Qn : Option Value → Shared → Prop} (S : St b L m ((it, rngIt x left 1) :: T) h) (hl : 0 < left)
    (q : ∀ h' t' tk, St b L m ((it, rngIt (x + 1) (left - 1) 1) :: T) h' → Qn (some (.int x tk)) ⟨h', g, d, t', os⟩) : wpAny (model PG w) A (pyNext (.ref it)) Qn E ⟨h, g, d, t, os⟩ :=
  wpAny_pyNext_range_item (s := ⟨h, g, d, t, os⟩) (S.get (List.mem_cons_self ..)) hl fun h' hi hs => q _ _ _ (S.same Put.head hs hi)
theorem r_end {it : Addr} {x left : Int} {Qn : Option Value → Shared → Prop} (hh : A.handled = none) (S : St b L m ((it, rngIt x left 1) :: T) h) (hl : left ≤ 0)
    (q : ∀ h', St b L m T h' → Qn none ⟨h', g, d, t, os⟩) : wpAny (model PG w) A (pyNext (.ref it)) Qn E ⟨h, g, d, t, os⟩ :=
  wpAny_pyNext_range_end (s := ⟨h, g, d, t, os⟩) hh (S.get (List.mem_cons_self ..)) hl fun h' hs => q _ (S.loose hs)
theorem lot_name {x : Str} {px : Pos} {it v : Value} {Qn : Unit → Shared → Prop} {s : Shared} (q : Qn () s) : wpAny (model PG w) A (letOwnedTupleGo (.Name x px) it v) Qn E s := wpAny_pure q
theorem a_name {x : Str} {px : Pos} {v : Value} {Qn : Unit → Shared → Prop} (S : St b L m T h) (h0 : L ≠ 0) (hL : env.locals = L) (hk : env.scope.kind = .function) (hx : env.kindOf x = some .local)
    (q : ∀ h' t', St b L (fun z => if z = x then some v else m z) T h' → Qn () ⟨h', g, d, t', os⟩) : wpAny (model PG w) A (assign (.Name x px) env v) Qn E ⟨h, g, d, t, os⟩ :=
  wpAny_assign_Name (n_store S h0 hL hk hx q)
theorem l_item {value slice : Expr} {l : Addr} {vs : Array Value} {n : Nat} {k : Int} {u : Tok} {x : Value} (hg : h.get? l = some (lst vs n)) (h0 : 0 ≤ k) (hf : k < 2 ^ 63) (hx : vs[k.toNat]? = some x) (q : Q x ⟨h, g, d, t, os⟩)
    (hs : subscripted slice false (.ref l) (.int k u) = operate [.ref l, .int k u] (getItem (.ref l) (.int k u)) := by with_unfolding_all rfl) :
    wpAny (model PG w) A (subscriptTail value slice (.ref l) (.int k u)) Q E ⟨h, g, d, t, os⟩ := by
  have hl : Heap.IsList h l vs := ⟨_, hg, rfl, _, rfl⟩
  exact tail_any (s := ⟨h, g, d, t, os⟩) (Heap.IsList.typeIs hl) slot_list_getitem.lookup (wpAny_getItem_list (s := ⟨h, g, d, t, os⟩) hl h0 hf hx q) hs
theorem l_itemI {value slice : Expr} {l : Addr} {vs : List Value} {ns : List Int} {n : Nat} {k : Int} {u : Tok} (S : St b L m T h) (hm : (l, lst vs.toArray n) ∈ T) (hI : IntsAre vs ns) (h0 : 0 ≤ k) (hk : k < ns.length) (hf : ns.length ≤ 100000)
    (q : ∀ tk, Q (.int (ns.getD k.toNat 0) tk) ⟨h, g, d, t, os⟩)
    (hs : subscripted slice false (.ref l) (.int k u) = operate [.ref l, .int k u] (getItem (.ref l) (.int k u)) := by with_unfolding_all rfl) :
    wpAny (model PG w) A (subscriptTail value slice (.ref l) (.int k u)) Q E ⟨h, g, d, t, os⟩ := by
  obtain ⟨tk, e⟩ := ints_item hI k.toNat (by omega)
  exact l_item (S.get hm) h0 (by omega) (by simpa using e) (q tk) hs
theorem s_item {value slice : Expr} {x : Str} {tx : Tok} {k : Int} {u : Tok} {c : Nat} (h0 : 0 ≤ k) (hf : k < 2 ^ 63) (hx : x.cps[k.toNat]? = some c) (q : ∀ t' , Q (.str ⟨#[c]⟩ t) ⟨h, g, d, t', os⟩)
    (hs : subscripted slice false (.str x tx) (.int k u) = operate [.str x tx, .int k u] (getItem (.str x tx) (.int k u)) := by with_unfolding_all rfl) :
    wpAny (model PG w) A (subscriptTail value slice (.str x tx) (.int k u)) Q E ⟨h, g, d, t, os⟩ := by
  have hlt : k.toNat < x.length := by
    by_cases hl : k.toNat < x.cps.size
    · exact hl
    · rw [Array.getElem?_eq_none (by omega)] at hx; cases hx
  refine tail_any (s := ⟨h, g, d, t, os⟩) (typeIs_str _ x tx) slot_str_getitem.lookup (P.getItem_str (s := ⟨h, g, d, t, os⟩) ?_ ?_ (q _)) hs
  · simp only [Bool.or_eq_false_iff, decide_eq_false_iff_not]; omega
  · have : seqIndex? k x.length = some k.toNat := by
      unfold seqIndex?
      simp only [show ¬ k < 0 from by omega, if_false]
      rw [if_pos (by simp; omega)]
    rw [this]; exact hx
theorem l_add {l r : Addr} {vs ws : Array Value} {n n2 : Nat} (S : St b L m T h) (hl : h.get? l = some (lst vs n)) (hr : h.get? r = some (lst ws n2)) (hz : vs.size + ws.size ≤ sizeLine)
    (q : ∀ a h', St b L m ((a, lst (vs ++ ws) 0) :: T) h' → Q (.ref a) ⟨h', g, d, t, os⟩) : wpAny (model PG w) A (binaryOp .Add (.ref l) (.ref r)) Q E ⟨h, g, d, t, os⟩ :=
  P.add_list (s := ⟨h, g, d, t, os⟩) hl hr (q _ _ (S.push _ rfl)) hz
theorem l_addL {l r : Addr} {vs ws : List Value} {n n2 : Nat} (S : St b L m T h) (hl : h.get? l = some (lst vs.toArray n)) (hr : h.get? r = some (lst ws.toArray n2)) (hz : vs.length + ws.length ≤ 100000)
    (q : ∀ a h', St b L m ((a, lst (vs ++ ws).toArray 0) :: T) h' → Q (.ref a) ⟨h', g, d, t, os⟩) : wpAny (model PG w) A (binaryOp .Add (.ref l) (.ref r)) Q E ⟨h, g, d, t, os⟩ := by
  have hsz : sizeLine = 16777216 := by decide
  refine l_add S hl hr (by rw [List.size_toArray, List.size_toArray]; omega) fun a h' S' => q a h' ?_
  rw [List.append_toArray] at S'
  exact S'
theorem l_len {l : Addr} {vs : Array Value} {n : Nat} (hl : h.get? l = some (lst vs n)) (hz : vs.size ≤ 100000) (q : ∀ t' tk, Q (.int vs.size tk) ⟨h, g, d, t', os⟩) : wpAny (model PG w) A (call (.builtin "len") [.ref l]) Q E ⟨h, g, d, t, os⟩ :=
  Calls.call_len_list (s := ⟨h, g, d, t, os⟩) ⟨_, hl, rfl, _, rfl⟩ (by omega) (q _ _)
theorem s_len {x : Str} {tx : Tok} (hz : x.length ≤ 100000) (q : ∀ t' tk, Q (.int x.length tk) ⟨h, g, d, t', os⟩) : wpAny (model PG w) A (call (.builtin "len") [.str x tx]) Q E ⟨h, g, d, t, os⟩ :=
  P.len_str (s := ⟨h, g, d, t, os⟩) (by omega) (q _ _)
end
section
variable {w : World} {A : Around} {E : Value → Shared → Prop} {b h : Heap} {g : Array GenState} {d : Drawn} {t : Nat} {os : OsState} {L : Addr} {m : Str → Option Value} {T T' : List (Addr × Obj)} {env : Env} {Q : Value → Shared → Prop}
/-- a written name of the frame's own cells is stored -/
theorem n_cellSet {x : Str} {c : Addr} {v : Value} {v0 : Option Value} {Q : Unit → Shared → Prop} (S : St b L m T h) (hc : env.cells.lookup x = some c) (hp : Put c (cellO v0) (cellO (some v)) T T') (hk : env.scope.kind = .function) (hl : env.kindOf x = some .cell)
    (q : ∀ h', St b L m T' h' → Q () ⟨h', g, d, t, os⟩) : wpAny (model PG w) A (storeName env x v) Q E ⟨h, g, d, t, os⟩ := by
  unfold storeName
  simp only [hl, hk]
  refine wpAny_bind (wpAny_cellOf hc ?_)
  unfold cellSet
  refine wpAny_bind (wpAny_load (S.get hp.old) ?_)
  exact wpAny_update (s := ⟨h, g, d, t, os⟩) (S.get hp.old) (q _ (S.update (f := fun o => { o with data := .cell (some v) }) hp rfl))
end
theorem foldl_rep (items : List Value) : ∀ (k : Nat) (acc : List Value), List.foldl (fun x1 x2 => x1 ++ x2) acc.toArray (List.replicate k items.toArray) = (acc ++ (List.replicate k items).flatten).toArray
  | 0, acc => by simp
  | k + 1, acc => by
    rw [List.replicate_succ, List.foldl_cons, List.append_toArray, foldl_rep items k, List.replicate_succ, List.flatten_cons, List.append_assoc]
theorem rep_items (vs : List Value) (k : Nat) : List.foldl (fun x1 x2 => x1 ++ x2) #[] (List.replicate (if vs.toArray.isEmpty = true then 0 else k) vs.toArray) = ((List.replicate k vs).flatten).toArray := by
  cases vs with
  | nil => simp [List.flatten_replicate_nil]
  | cons v r =>
    rw [if_neg (by simp)]
    have := foldl_rep (v :: r) k []
    simpa using this
section
variable {w : World} {A : Around} {E : Value → Shared → Prop} {b h : Heap} {g : Array GenState} {d : Drawn} {t : Nat} {os : OsState} {L : Addr} {m : Str → Option Value} {T T' : List (Addr × Obj)} {env : Env} {Q : Value → Shared → Prop}
theorem l_mul {l : Addr} {vs : List Value} {k : Nat} {x : Int} {u : Tok} (S : St b L m T h) (hl : h.get? l = some (lst vs.toArray k)) (hx : 0 ≤ x ∧ x ≤ 1000) (hz : vs.length ≤ 1000)
    (q : ∀ a h', St b L m ((a, lst ((List.replicate x.toNat vs).flatten).toArray 0) :: T) h' → Q (.ref a) ⟨h', g, d, t, os⟩) : wpAny (model PG w) A (binaryOp .Mult (.ref l) (.int x u)) Q E ⟨h, g, d, t, os⟩ := by
  have hs : vs.length * x.toNat ≤ 1000 * 1000 := Nat.mul_le_mul hz (by omega)
  refine wpAny_binaryOp_repeat_ref (s := ⟨h, g, d, t, os⟩) (T := "list") (U := "int") (by decide) ⟨_, hl, rfl⟩ (fun s' => typeIs_int s' x u) noFill_list_mul F.fills_int_mul F.slot_int_rmul repeat_list F.slot_int_index.lookup
    (call_meets F.slot_int_rmul (typeIs_int _ x u) F.entry_int_rmul (F.args_int_rmul_2 _ _) (int___rmul___int_list x u l vs.toArray k)
      ⟨hl, rfl, ⟨_, hl, rfl⟩, call_meets F.slot_list_mul ⟨_, hl, rfl⟩ F.entry_list_mul (F.args_list_mul_2 _ _)
        (AutoListH.list___mul___list_int_3 l vs.toArray k x u (by simp [Builtin.List.listFitsIndex]; omega) (by rw [List.size_toArray]; omega) (by simp [Builtin.List.listTooLong, sizeLine]; omega))
        ⟨hl, ?_⟩⟩)
  have := q _ _ (S.push (lst ((List.replicate x.toNat vs).flatten).toArray 0) rfl)
  rw [← rep_items vs x.toNat] at this
  exact this
end
end Mine
namespace Mine
section
variable {w : World} {A : Around} {E : Value → Shared → Prop} {b h : Heap} {g : Array GenState} {d : Drawn} {t : Nat} {os : OsState} {L : Addr} {m : Str → Option Value} {T T' : List (Addr × Obj)} {env : Env} {Q : Value → Shared → Prop}
/-- one turn of a block that fills a list -/
theorem comp_turn {R : Result → Shared → Prop} {s : Shared} {elt iter : Expr} {x : Str} {px : Pos} {ifs : List Expr} {scope : Scope} {pos : Pos} {it acc : Value} {ev : Env}
    (turn : wpAny (model PG w) A (pyNext it) (fun r s₁ => match r with
      | none => R (.ok .next) s₁
      | some v => wpAny (model PG w) A (assign (.Name x px) ev v) (fun _ s₂ =>
          wpAny (model PG w) A (forIn ifs true fun c r => if r = true then do let ok ← isTrue c ev (eval c ev); pure (ForInStep.yield ok) else pure (ForInStep.yield r)) (fun ok s₃ =>
            if ok = true then wpAny (model PG w) A (eval elt ev) (fun y s₄ =>
              wpAny (model PG w) A (call (.builtin "list.append") [acc, y]) (fun _ s₅ => codeAny (model PG w) A (.compLoop (.ListComp elt [⟨.Name x px, iter, ifs, 0⟩] scope pos) 0 it acc ev) R s₅) (notedBy (model PG w) A ev fun e s' => R (.error e) s') s₄) (notedBy (model PG w) A ev fun e s' => R (.error e) s') s₃
            else codeAny (model PG w) A (.compLoop (.ListComp elt [⟨.Name x px, iter, ifs, 0⟩] scope pos) 0 it acc ev) R s₃) (notedBy (model PG w) A ev fun e s' => R (.error e) s') s₂) (notedBy (model PG w) A ev fun e s' => R (.error e) s') s₁) (notedBy (model PG w) A ev fun e s' => R (.error e) s') s) :
    codeAny (model PG w) A (.compLoop (.ListComp elt [⟨.Name x px, iter, ifs, 0⟩] scope pos) 0 it acc ev) R s := by
  refine codeAny_of_tree ?_
  show wpAny _ A ((compTurn (.ListComp elt [⟨.Name x px, iter, ifs, 0⟩] scope pos) 0 it acc ev).onRaise (fun x => do noteFrame x ev; theTreesLotGoes x)) _ _ s
  refine wpAny_noted ?_
  rw [compTurn_list]
  refine wpAny_bind (wpAny_standAt (wpAny_bind (wpAny_mono turn (fun r s₁ h₁ => ?_) fun _ _ h' => h')))
  cases r with
  | none => exact wpAny_pure h₁
  | some v =>
    refine wpAny_bind (wpAny_of_eq (rfl : letOwnedTupleGo (.Name x px) it v = pure ()) ?_)
    refine wpAny_bind (wpAny_mono h₁ (fun _ s₂ h₂ => wpAny_bind (wpAny_mono h₂ (fun ok s₃ h₃ => ?_) fun _ _ h' => h')) fun _ _ h' => h')
    cases ok with
    | false => exact wpAny_pure ⟨rfl, h₃⟩
    | true =>
      exact wpAny_bind (wpAny_bind (wpAny_mono h₃ (fun x s₄ h₄ => wpAny_bind (wpAny_mono h₄ (fun _ s₅ h₅ => wpAny_pure (wpAny_pure ⟨rfl, h₅⟩)) fun _ _ h' => h')) fun _ _ h' => h'))
/-- what stands for a frame's names in a ledger -/
noncomputable def NsO (o : Obj) (m : Str → Option Value) : Prop := ∃ es ep, o.data = .dict es ep ∧ StrKeys es ∧ ∀ n, nsFind es n = m n
/-- a block's end: its frame goes, the def's frame is the frame again -/
theorem St.back {C : Addr} {mC : Str → Option Value} {h' : Heap} {oL : Obj} (S : St b C mC ((L, oL) :: T) h) (hC : C ≠ 0) (ho : NsO oL m) (hs : Heap.SameBut C h h') : St b L m T h' := by
  obtain ⟨nC, nl, off⟩ := S.fr.resolve_left hC
  have hn := List.nodup_cons.mp S.own.nodup
  have ne : ∀ p ∈ ((L, oL) :: T), p.1 ≠ C := fun p hp e => off (by rw [← e]; exact List.mem_map.mpr ⟨p, hp, rfl⟩)
  obtain ⟨es, ep, h1, h2, h3⟩ := ho
  refine ⟨⟨hn.2, fun p hp => (hs.2 _ (ne p (List.mem_cons_of_mem _ hp))).trans (S.own.get p (List.mem_cons_of_mem _ hp)), fun a o e => (hs.2 _ fun q => ?_).trans (S.own.keep a o e), fun p hp => S.own.new p (List.mem_cons_of_mem _ hp)⟩,
    .inr ⟨⟨oL, es, ep, (hs.2 _ (ne _ (List.mem_cons_self ..))).trans (S.own.get _ (List.mem_cons_self ..)), h1, h2, h3⟩, S.own.new _ (List.mem_cons_self ..), hn.1⟩⟩
  rw [q, nl] at e; cases e
theorem lc_fin {C D : Addr} {mC : Str → Option Value} {oL : Obj} {vs : Array Value} {n : Nat} (S : St b C mC ((L, oL) :: T) h) (hC : C ≠ 0) (ho : NsO oL m) (q : ∀ h', St b L m T h' → Q (.ref D) ⟨h', g, d, t, os⟩) :
    compPost (model PG w) A E none Q (.ref D) C (.ok .next) ⟨h, g, d, t, os⟩ := ⟨mC, (S.fr.resolve_left hC).1, fun h' hs => q h' (S.back hC ho hs)⟩
/-- a block is opened: its list D, its frame C -/
theorem lc_open {s : Shared} {elt iter : Expr} {x : Str} {px : Pos} {ifs : List Expr} {scope : Scope} {cl : List (Str × Addr)} {pos : Pos}
    (hclos : closureFor scope env = pure cl) (hcell : ∀ y ∈ scope.names, y.2 ≠ .cell) (hkind : scope.kind = .function)
    (hnames : ∀ y ∈ scope.names, y.2 = .local → scope.names.lookup y.1 = some .local) (hs : ∀ x, foldedSetIterable iter env x = pure x)
    (q : wpAny (model PG w) A (eval iter env) (fun xv s₁ => wpAny (model PG w) A (pyIter xv) (fun it s₂ =>
      ∃ b L m T I h₂ g d t os, s₂ = ⟨h₂, g, d, t, os⟩ ∧ it = .ref I ∧ L ≠ 0 ∧ St b L m T h₂ ∧
        ∀ D C oL h₃, C ≠ 0 → NsO oL m → St b C (fun _ => none) ((D, lst #[] 0) :: (L, oL) :: T) h₃ →
          wpAny (model PG w) A (pyIter (.ref I)) (fun it' s' => it' = .ref I ∧ s' = ⟨h₃, g, d, t, os⟩) (fun _ _ => False) ⟨h₃, g, d, t, os⟩ ∧
          codeAny (model PG w) A (.compLoop (.ListComp elt [⟨.Name x px, iter, ifs, 0⟩] scope pos) 0 (.ref I) (.ref D) (compEnvC scope cl C env)) (compPost (model PG w) A E none Q (.ref D) C) ⟨h₃, g, d, t, os⟩) E s₁) E s) :
    wpAny (model PG w) A (eval (.ListComp elt [⟨.Name x px, iter, ifs, 0⟩] scope pos) env) Q E s := by
  rw [eval_ListComp]
  refine wpAny_comprehension_free (use := none) rfl hs hclos hkind hnames (wpAny_mono q (fun xv s₁ h₁ => wpAny_mono h₁ (fun it s₂ h₂ => ?_) fun _ _ e => e) fun _ _ e => e)
  obtain ⟨b, L, m, T, I, h₂, g, d, t, os, rfl, rfl, hL, S, H⟩ := h₂
  refine wpAny_newObj_type ?_
  have S₁ := S.push (lst #[] 0) rfl
  refine wpAny_newFunctionEnv hcell (by intro y hy; simp at hy) (fun h₃ hns hsb => ?_) hkind
  obtain ⟨⟨oL, es, ep, ho, hd, hk, hf⟩, nl, off⟩ := S₁.fr.resolve_left hL
  have S₂ := S₁.push { cls := .type "dict", data := .dict #[] } rfl
  have hLlt := Heap.lt_size ho
  have hzero : (h₂.push (lst #[] 0)).objs.size ≠ 0 := by rw [Heap.size_push]; exact Nat.succ_ne_zero _
  have get3 : ∀ a o, (h₂.push (lst #[] 0)).get? a = some o → h₃.get? a = some o := fun a o e => (hsb.2 a (Nat.ne_of_lt (Heap.lt_size e))).trans (Heap.get?_push_of_some _ e)
  have hno : b.get? (h₂.push (lst #[] 0)).objs.size = none := S₂.own.new _ (List.mem_cons_self ..)
  have S₃ : St b (h₂.push (lst #[] 0)).objs.size (fun _ => none) ((h₂.objs.size, lst #[] 0) :: (L, oL) :: T) h₃ := by
    have nd := List.nodup_cons.mp S₁.own.nodup
    refine ⟨⟨List.nodup_cons.mpr ⟨fun hm => ?_, List.nodup_cons.mpr ⟨fun hm => off (List.mem_cons_of_mem _ hm), nd.2⟩⟩, fun p hp => ?_, fun a o e => get3 _ _ (S₁.own.keep a o e), fun p hp => ?_⟩, .inr ⟨hns, hno, fun hm => ?_⟩⟩
    · rcases List.mem_cons.mp hm with e | hm
      · have e' : h₂.objs.size = L := e
        exact off (by rw [← e']; exact List.mem_cons_self ..)
      · exact nd.1 hm
    · rcases List.mem_cons.mp hp with rfl | hp
      · exact get3 _ _ (S₁.own.get _ (List.mem_cons_self ..))
      · rcases List.mem_cons.mp hp with rfl | hp
        · exact get3 _ _ ho
        · exact get3 _ _ (S₁.own.get p (List.mem_cons_of_mem _ hp))
    · rcases List.mem_cons.mp hp with rfl | hp
      · exact S₁.own.new _ (List.mem_cons_self ..)
      · rcases List.mem_cons.mp hp with rfl | hp
        · exact nl
        · exact S₁.own.new p (List.mem_cons_of_mem _ hp)
    · have lt : ∀ a o, (h₂.push (lst #[] 0)).get? a = some o → a ≠ (h₂.push (lst #[] 0)).objs.size := fun a o e => Nat.ne_of_lt (Heap.lt_size e)
      rcases List.mem_cons.mp hm with e | hm
      · exact lt _ _ (S₁.own.get _ (List.mem_cons_self ..)) e.symm
      · rcases List.mem_cons.mp hm with e | hm
        · exact lt _ _ ho e.symm
        · obtain ⟨p, hp, e⟩ := List.mem_map.mp hm
          exact lt _ _ (S₁.own.get p (List.mem_cons_of_mem _ hp)) e
  obtain ⟨hi, hl⟩ := H _ _ oL h₃ hzero ⟨es, ep, hd, hk, hf⟩ S₃
  exact codeAny_compStart_list hl (wpAny_mono hi (fun it' s' e => by obtain ⟨rfl, rfl⟩ := e; exact hl) fun _ _ f => f.elim)
end
end Mine
namespace Mine
section
variable {w : World} {A : Around} {E : Value → Shared → Prop} {b : Heap} {g : Array GenState} {d : Drawn} {os : OsState} {L C D it : Addr} {T0 : List (Addr × Obj)} {ev : Env} {R : Result → Shared → Prop}
  {elt iter : Expr} {x : Str} {px : Pos} {scope : Scope} {pos : Pos}
/-- a block over a range from a, n places, no test -/
theorem lc_range {a : Int} {n : Nat} (Inv : Nat → List Value → List (Addr × Obj) → Prop) (hh : A.handled = none) (hC : C ≠ 0) (hl : ev.locals = C) (hk : ev.scope.kind = .function) (hx : ev.kindOf x = some .local) (hn : n ≤ 100000)
    (helt : ∀ i vs X nn mC tk h t, i < n → vs.length = i → Inv i vs X → mC x = some (.int (a + i) tk) → St b C mC ((it, rngIt (a + i + 1) (n - i - 1) 1) :: (D, lst vs.toArray nn) :: (X ++ T0)) h →
      wpAny (model PG w) A (eval elt ev) (fun y s' => ∃ X' h' t', s' = ⟨h', g, d, t', os⟩ ∧ Inv (i + 1) (vs ++ [y]) X' ∧ St b C mC ((it, rngIt (a + i + 1) (n - i - 1) 1) :: (D, lst vs.toArray nn) :: (X' ++ T0)) h')
        (notedBy (model PG w) A ev fun e s' => R (.error e) s') ⟨h, g, d, t, os⟩)
    (hend : ∀ vs X nn mC h t, vs.length = n → Inv n vs X → St b C mC ((D, lst vs.toArray nn) :: (X ++ T0)) h → R (.ok .next) ⟨h, g, d, t, os⟩) :
    ∀ (k i : Nat), i + k = n → ∀ vs X nn mC h t, vs.length = i → Inv i vs X → St b C mC ((it, rngIt (a + i) (n - i) 1) :: (D, lst vs.toArray nn) :: (X ++ T0)) h →
      codeAny (model PG w) A (.compLoop (.ListComp elt [⟨.Name x px, iter, [], 0⟩] scope pos) 0 (.ref it) (.ref D) ev) R ⟨h, g, d, t, os⟩ := by
  have hsz : sizeLine = 16777216 := by decide
  intro k
  induction k with
  | zero =>
    intro i hi vs X nn mC h t hv hI S
    refine comp_turn (r_end hh S (by omega) fun h₁ S₁ => ?_)
    have e : i = n := by omega
    subst e
    exact hend _ _ _ _ _ _ hv hI S₁
  | succ k ih =>
    intro i hi vs X nn mC h t hv hI S
    refine comp_turn (r_next S (by omega) fun h₁ t₁ tk S₁ => ?_)
    refine a_name S₁ hC hl hk hx fun h₂ t₂ S₂ => ?_
    refine wpAny_tests_nil ?_
    rw [if_pos rfl]
    refine wpAny_mono (helt i vs X nn _ tk h₂ t₂ (by omega) hv hI (if_pos rfl) S₂) (fun y s' H => ?_) fun _ _ e => e
    obtain ⟨X', h₃, t₃, rfl, hI', S₃⟩ := H
    refine l_append S₃ (Put.tail Put.head) (by rw [List.size_toArray]; omega) fun h₄ S₄ => ?_
    have e1 : vs.toArray.push y = (vs ++ [y]).toArray := by simp
    rw [e1] at S₄
    have e2 : a + i + 1 = a + ((i + 1 : Nat) : Int) := by omega
    have e3 : (n : Int) - i - 1 = n - ((i + 1 : Nat) : Int) := by omega
    rw [e2, e3] at S₄
    exact ih (i + 1) (by omega) _ _ _ _ _ _ (by simp [hv]) hI' S₄
/-- a block over a list, no test -/
theorem lc_list {l : Addr} {src : List Value} (Inv : Nat → List Value → List (Addr × Obj) → Prop) (hh : A.handled = none) (hC : C ≠ 0) (hl : ev.locals = C) (hk : ev.scope.kind = .function) (hx : ev.kindOf x = some .local) (hn : src.length ≤ 100000)
    (hsrc : ∀ mC X h, St b C mC (X ++ T0) h → h.IsList l src.toArray)
    (helt : ∀ i v vs X nn mC oi h t, src[i]? = some v → vs.length = i → Inv i vs X → mC x = some v → St b C mC ((it, oi) :: (D, lst vs.toArray nn) :: (X ++ T0)) h →
      wpAny (model PG w) A (eval elt ev) (fun y s' => ∃ X' h' t', s' = ⟨h', g, d, t', os⟩ ∧ Inv (i + 1) (vs ++ [y]) X' ∧ St b C mC ((it, oi) :: (D, lst vs.toArray nn) :: (X' ++ T0)) h')
        (notedBy (model PG w) A ev fun e s' => R (.error e) s') ⟨h, g, d, t, os⟩)
    (hend : ∀ vs X nn mC h t, vs.length = src.length → Inv src.length vs X → St b C mC ((D, lst vs.toArray nn) :: (X ++ T0)) h → R (.ok .next) ⟨h, g, d, t, os⟩) :
    ∀ (k i : Nat), i + k = src.length → ∀ vs X nn mC oi h t, vs.length = i → Inv i vs X → oi.cls = .type "list_iterator" → oi.data = .fields #[.ref l, .int i 0] → St b C mC ((it, oi) :: (D, lst vs.toArray nn) :: (X ++ T0)) h →
      codeAny (model PG w) A (.compLoop (.ListComp elt [⟨.Name x px, iter, [], 0⟩] scope pos) 0 (.ref it) (.ref D) ev) R ⟨h, g, d, t, os⟩ := by
  have hsz : sizeLine = 16777216 := by decide
  have hlist : ∀ mC oi vs nn X h, St b C mC ((it, oi) :: (D, lst vs nn) :: (X ++ T0)) h → h.IsList l src.toArray := fun mC oi vs nn X h S =>
    hsrc mC ((it, oi) :: (D, lst vs nn) :: X) h S
  intro k
  induction k with
  | zero =>
    intro i hi vs X nn mC oi h t hv hI hc hd S
    have e : i = src.length := by omega
    subst e
    refine comp_turn (wpAny_pyNext_list_end (s := ⟨h, g, d, t, os⟩) hh ⟨oi, S.get (List.mem_cons_self ..), hc, hd⟩ (hlist _ _ _ _ _ _ S) (by simp) fun h₁ hs => ?_)
    exact hend _ _ _ _ _ _ hv hI (S.loose hs)
  | succ k ih =>
    intro i hi vs X nn mC oi h t hv hI hc hd S
    have hlt : i < src.length := by omega
    refine comp_turn (wpAny_pyNext_list_item (s := ⟨h, g, d, t, os⟩) (x := src[i]) ⟨oi, S.get (List.mem_cons_self ..), hc, hd⟩ (hlist _ _ _ _ _ _ S) (by simp [hlt]) fun h₁ hit hs => ?_)
    obtain ⟨oi', hg', hc', hd'⟩ := hit
    have S₁ := S.same Put.head hs hg'
    refine a_name S₁ hC hl hk hx fun h₂ t₂ S₂ => ?_
    refine wpAny_tests_nil ?_
    rw [if_pos rfl]
    refine wpAny_mono (helt i src[i] vs X nn _ oi' h₂ t₂ (by simp [hlt]) hv hI (if_pos rfl) S₂) (fun y s' H => ?_) fun _ _ e => e
    obtain ⟨X', h₃, t₃, rfl, hI', S₃⟩ := H
    refine l_append S₃ (Put.tail Put.head) (by rw [List.size_toArray]; omega) fun h₄ S₄ => ?_
    have e1 : vs.toArray.push y = (vs ++ [y]).toArray := by simp
    rw [e1] at S₄
    exact ih (i + 1) (by omega) _ _ _ _ _ _ _ (by simp [hv]) hI' hc' hd' S₄
theorem ri_self {m : Str → Option Value} {T : List (Addr × Obj)} {h : Heap} {t : Nat} {y left : Int} (S : St b C m T h) (hm : (it, rngIt y left 1) ∈ T) :
    wpAny (model PG w) A (pyIter (.ref it)) (fun it' s' => it' = .ref it ∧ s' = ⟨h, g, d, t, os⟩) E ⟨h, g, d, t, os⟩ := wpAny_pyIter_rangeiter (s := ⟨h, g, d, t, os⟩) (S.get hm) ⟨rfl, rfl⟩
theorem li_self {m : Str → Option Value} {T : List (Addr × Obj)} {h : Heap} {t : Nat} {l : Addr} {i : Nat} {oi : Obj} (S : St b C m T h) (hm : (it, oi) ∈ T) (hc : oi.cls = .type "list_iterator") (hd : oi.data = .fields #[.ref l, .int i 0]) :
    wpAny (model PG w) A (pyIter (.ref it)) (fun it' s' => it' = .ref it ∧ s' = ⟨h, g, d, t, os⟩) E ⟨h, g, d, t, os⟩ := wpAny_pyIter_listiter (s := ⟨h, g, d, t, os⟩) (i := i) ⟨oi, S.get hm, hc, hd⟩ ⟨rfl, rfl⟩
end
end Mine
namespace Mine
noncomputable def sc123P : { s : Scope // s = defScope (PB.getD 34 default) } := by
  refine ⟨?s, ?h⟩
  case h => (conv => rhs; whnf)
noncomputable def sc123 : Scope := sc123P.1
noncomputable def ev123 (L c1 c2 : Addr) : Env := { scope := sc123, locals := L, globals := mainGlobals, cells := [(Str.ofString "rows", c2), (Str.ofString "ranks", c1)], qual := Str.ofString "_law_text" ++ ".<locals>.", func := some 123, code := .ref 122, frame := some L, builtins := builtinsNs }
/-- a frame whose names are written out -/
theorem St.ofOwn {b h : Heap} {L : Addr} {c : Value} {T : List (Addr × Obj)} (R : Own b ((L, { cls := c, data := .dict #[] }) :: T) h) : St b L (fun _ => none) T h := by
  have hn := List.nodup_cons.mp R.nodup
  exact ⟨⟨hn.2, fun p hp => R.get p (List.mem_cons_of_mem _ hp), R.keep, fun p hp => R.new p (List.mem_cons_of_mem _ hp)⟩,
    .inr ⟨⟨_, #[], 0, R.get _ (List.mem_cons_self ..), rfl, (fun _ he => by simp at he), fun _ => rfl⟩, R.new _ (List.mem_cons_self ..), hn.1⟩⟩
theorem Own.pick {b h : Heap} {T T' : List (Addr × Obj)} (S : Own b T h) (hs : SubL T T') (hn : (T.map (·.1)).Nodup → (T'.map (·.1)).Nodup) : Own b T' h :=
  ⟨hn S.nodup, fun p hp => S.get p (hs.mem p hp), S.keep, fun p hp => S.new p (hs.mem p hp)⟩
theorem Gr.ne0 {w : World} {h : Heap} {L : Addr} (G : Gr w h) (hn : h.get? L = none) : L ≠ 0 := fun e => by
  obtain ⟨mb, ⟨o, _, _, ho, _⟩, _⟩ := G.bi
  rw [e] at hn
  rw [show h.get? builtinsNs = none from hn] at ho; cases ho
end Mine
namespace Mine
/-- the entry under a is changed, all else kept -/
theorem St.upd {b h h' : Heap} {L : Addr} {m : Str → Option Value} {T T' : List (Addr × Obj)} {a : Addr} {o o' : Obj} (S : St b L m T h) (hp : Put a o o' T T') (hs : Heap.ExtBut a h h') (hg : h'.get? a = some o') : St b L m T' h' := by
  have ne : ∀ x o'', b.get? x = some o'' → x ≠ a := fun x o'' e e' => by
    subst e'; rw [S.own.new _ hp.old] at e; cases e
  refine ⟨⟨by rw [hp.keys]; exact S.own.nodup, fun p hm => ?_, fun x o'' e => hs x _ (ne x o'' e) (S.own.keep x o'' e), fun p hm => ?_⟩, S.fr.imp id fun ⟨n, nl, off⟩ => ⟨n.extBut hs fun e => off ?_, nl, by rw [hp.keys]; exact off⟩⟩
  · rcases hp.mem S.own.nodup p hm with rfl | ⟨hm, ne⟩
    · exact hg
    · exact hs _ _ ne (S.own.get p hm)
  · have : p.1 ∈ T.map (·.1) := by rw [← hp.keys]; exact List.mem_map.mpr ⟨p, hm, rfl⟩
    obtain ⟨q, hq, e⟩ := List.mem_map.mp this
    rw [← e]; exact S.own.new q hq
  · rw [e]; exact List.mem_map.mpr ⟨_, hp.old, rfl⟩
/-- what was made since is taken into the ledger -/
theorem St.adopt {b h h' : Heap} {L : Addr} {m m' : Str → Option Value} {T T' : List (Addr × Obj)} {e : Addr} {o : Obj} (S : St b L m T h) (S' : St b L m' T' h') (hk : T'.map (·.1) = T.map (·.1)) (hn : h.get? e = none) (hg : h'.get? e = some o) : St b L m' ((e, o) :: T') h' := by
  have hb : b.get? e = none := by
    cases q : b.get? e with
    | none => rfl
    | some o' => rw [S.keep _ _ q] at hn; cases hn
  have off : e ∉ T'.map (·.1) := fun hm => by
    rw [hk] at hm
    obtain ⟨p, hp, rfl⟩ := List.mem_map.mp hm
    rw [S.own.get p hp] at hn; cases hn
  refine ⟨⟨List.nodup_cons.mpr ⟨off, S'.own.nodup⟩, fun p hp => ?_, S'.own.keep, fun p hp => ?_⟩, ?_⟩
  · rcases List.mem_cons.mp hp with rfl | hp
    · exact hg
    · exact S'.own.get p hp
  · rcases List.mem_cons.mp hp with rfl | hp
    · exact hb
    · exact S'.own.new p hp
  · rcases S'.fr with e0 | ⟨n, nl, of⟩
    · exact .inl e0
    · refine (Decidable.em (L = 0)).imp id fun h0 => ⟨n, nl, fun hm => ?_⟩
      rcases List.mem_cons.mp hm with e1 | hm
      · obtain ⟨⟨o1, _, _, ho, _⟩, _, _⟩ := S.fr.resolve_left h0
        have e1' : L = e := e1
        rw [e1', hn] at ho; cases ho
      · exact of hm
theorem St.hide {w : World} {b h : Heap} {L : Addr} {m : Str → Option Value} {T : List (Addr × Obj)} {P : Addr} {o : Obj} (G : Gr w b) (S : St b L m T h) (hm : (P, o) ∈ T) : Gr w (hideAll h [P]) :=
  G.keeps fun a o' e => hideAll_get _ (S.keep _ _ e) fun q => by
    have q' : a = P := by simpa using q
    rw [q', S.own.new _ hm] at e; cases e
theorem Own.hidden {h : Heap} {P : Addr} {o : Obj} (hT : h.get? P = some o) : Own (hideAll h [P]) [(P, o)] h :=
  ⟨by simp, (fun p hp => by rw [List.mem_singleton.mp hp]; exact hT), (fun a o' e => of_hideAll _ e), (fun p hp => by rw [List.mem_singleton.mp hp]; exact hideAll_none _ (List.mem_singleton.mpr rfl))⟩
theorem ExtBut.ofHide {h h' : Heap} {P : Addr} (k : Kp (hideAll h [P]) h') : Heap.ExtBut P h h' := fun a o ne e => k _ _ (hideAll_get _ e (by simpa using ne))
theorem Gr.ns {w : World} {b h : Heap} {P : Addr} {ps : Array Value} (G : Gr w b) (k : Kp b h) (hP : h.get? P = some (tabObj ps)) : ∃ mg, h.Ns mainGlobals mg ∧ mainGlobals ≠ P ∧ h.BuiltinsAt mg P := by
  obtain ⟨mg, bm, ob, n, b1, b2, b3, b4, b5, b6⟩ := G.bm
  refine ⟨mg, n.keeps k, fun q => ?_, bm, ob, b1, b2, fun q => ?_, fun q => ?_, k _ _ b3, b4, b5, b6⟩
  · obtain ⟨o, es, ep, e, hd, _⟩ := n
    have e' := k _ _ e
    rw [q, hP] at e'; cases e'; cases hd
  · obtain ⟨o, es, ep, e, hd, _⟩ := n
    rw [q, e] at b3; cases b3; rw [hd] at b6; cases b6
  · have e := k _ _ b3
    rw [q, hP] at e; cases e; cases b4
section
variable {w : World} {A : Around} {E : Value → Shared → Prop} {b h : Heap} {g : Array GenState} {d : Drawn} {t : Nat} {os : OsState} {L c P : Addr} {m : Str → Option Value} {T : List (Addr × Obj)} {env : Env} {Q : Value → Shared → Prop}
  {name qual : Str} {params : Arguments} {body : List Stmt} {scope : Scope} {ps : Array Value} {pos : Pos} {firstLine : Nat} {clos : List (Str × Addr)}
theorem mk_miss {F : Obj → List (Addr × Obj)} (G : Gr w b) (S : St b L m T h) (hcl : closureFor scope env = pure clos) (hge : env.globals = mainGlobals) (hcode : env.code = .ref c) (C : CodeHd b c P) (hp : ∀ o', Put P (tabObj ps) o' T (F o')) (ht : TriplesOk ps.toList) (hnf : codeAmong pos ps.toList = none)
    (q : ∀ f c' oc vs tq ctv doc pm h' t', St b L m ((f, fnMade name qual params body scope clos doc pm c' ctv) :: (c', oc) :: F (tabObj (ps ++ #[rawInt pos.line, rawInt pos.col, .ref c']))) h' → oc.data = .fields vs → vs[1]? = some (.str qual tq) → Q (.ref f) ⟨h', g, d, t', os⟩) :
    wpAny (model PG w) A (makeFunction name qual params (.stmts body) scope env [] [] [] pos firstLine) Q E ⟨h, g, d, t, os⟩ := by
  have hP := S.get (hp default).old
  obtain ⟨mg, n, n1, n2⟩ := G.ns S.keep hP
  refine makeFunction_K (s := ⟨h, g, d, t, os⟩) (mg := mg) hcl hge n hcode (C.keeps S.keep) hP ht hnf n1 n2 fun c' ctv doc h' tk hx hge hlt hrec htb => ?_
  obtain ⟨c₂, oc, vs, tq, e2, hoc, hd, hv⟩ := hrec
  cases e2
  have S₁ := S.upd (hp _) hx htb
  have S₂ := S.adopt S₁ ((hp _).keys) (Heap.get?_none_of_le hge) hoc
  exact q _ c' oc vs tq ctv doc _ _ _ (S₂.push _ rfl) hd hv
theorem mk_hit {cv : Addr} (G : Gr w b) (S : St b L m T h) (hcl : closureFor scope env = pure clos) (hge : env.globals = mainGlobals) (hcode : env.code = .ref c) (C : CodeHd b c P) (hp : (P, tabObj ps) ∈ T) (ht : TriplesOk ps.toList) (hf : codeAmong pos ps.toList = some (.ref cv))
    (q : ∀ f ctv doc pm h' t', St b L m ((f, fnMade name qual params body scope clos doc pm cv ctv) :: T) h' → Q (.ref f) ⟨h', g, d, t', os⟩) :
    wpAny (model PG w) A (makeFunction name qual params (.stmts body) scope env [] [] [] pos firstLine) Q E ⟨h, g, d, t, os⟩ := by
  have hP := S.get hp
  obtain ⟨mg, n, n1, n2⟩ := G.ns S.keep hP
  refine makeFunction_hit (s := ⟨h, g, d, t, os⟩) (mg := mg) hcl hge n hcode (C.keeps S.keep) hP ht hf n2 fun ctv doc h' tk hk _ => ?_
  exact q _ ctv doc _ _ _ ((S.grown hk).push _ rfl)
end
section
variable {w : World} {A : Around} {g : Array GenState} {d : Drawn} {t : Nat} {os : OsState} {b h : Heap}
/-- a def made in a call is entered: no cells -/
theorem enterN {R : Result → Shared → Prop} {f c' : Addr} {oc : Obj} {vs : Array Value} {tq : Tok} {name qual : Str} {params : Arguments} {body : List Stmt} {scope : Scope} {clos : List (Str × Addr)} {doc pm ctv : Value} {args : Args} (binds : List (Str × Value))
    (G : Gr w h) (hf : h.get? f = some (fnMade name qual params body scope clos doc pm c' ctv)) (hoc : h.get? c' = some oc) (hd : oc.data = .fields vs) (hv : vs[1]? = some (.str qual tq))
    (hroom : A.depth < recursionLimit) (hbind : bindArgs (fnX name qual params body scope clos .none .none doc pm none (.ref c') ctv) args = pure binds)
    (hcell : ∀ x ∈ scope.names, x.2 ≠ .cell) (hloc : ∀ x ∈ binds, scope.names.lookup x.1 = some .local)
    (q : ∀ L h' t', L ≠ 0 → St h L (fun x => binds.reverse.lookup x) [] h' →
      wpAny (model PG w) (A.deeper (callEnv (fnX name qual params body scope clos .none .none doc pm none (.ref c') ctv) L f)) (execs body (callEnv (fnX name qual params body scope clos .none .none doc pm none (.ref c') ctv) L f)) (fun fl s' => R (.ok (.ret (match fl with | .ret v => v | _ => .none))) s')
        (fun e s' => wpAny (model PG w) (A.deeper (callEnv (fnX name qual params body scope clos .none .none doc pm none (.ref c') ctv) L f)) (leaving (callEnv (fnX name qual params body scope clos .none .none doc pm none (.ref c') ctv) L f) e) (fun _ s'' => R (.error e) s'') (fun e' s'' => R (.error e') s'') s')
        ⟨h', g, d, t', os⟩)
    (hco : scope.isCoroutine = false) (hgen : scope.isGenerator = false) (hk : scope.kind = .function) :
    codeAny (model PG w) A (.call (.ref f) args) R ⟨h, g, d, t, os⟩ := by
  refine codeAny_call_def (binds := binds) hroom hf rfl G.noLimit ⟨_, _, _, _, rfl, hoc, hd, hv⟩ rfl (BindsTo.of_eq hbind) hcell hloc (fun h₁ hns hk₁ => ?_) hco hgen hk
  refine q _ h₁ _ (Nat.ne_of_gt (Nat.lt_of_le_of_lt (Nat.zero_le 2) (Heap.lt_size (G.get (a := 2) rfl)))) ⟨⟨List.nodup_nil, (fun _ hp => by cases hp), hk₁, (fun _ hp => by cases hp)⟩, .inr ⟨hns, ?_, (by simp)⟩⟩
  cases e : h.get? h.objs.size with
  | none => rfl
  | some o' => exact absurd (Heap.lt_size e) (Nat.lt_irrefl _)
end
theorem code36 {w : World} {b : Heap} (G : Gr w b) : CodeHd b 40 36 := ⟨_, _, _, _, _, _, _, _, _, G.get (a := 40) rfl, rfl, rfl, rfl, rfl, rfl, rfl, rfl, rfl, by decide⟩
theorem code43 {w : World} {b : Heap} (G : Gr w b) : CodeHd b 47 43 := ⟨_, _, _, _, _, _, _, _, _, G.get (a := 47) rfl, rfl, rfl, rfl, rfl, rfl, rfl, rfl, rfl, by decide⟩
theorem code130 {w : World} {b : Heap} (G : Gr w b) : CodeHd b 132 130 := ⟨_, _, _, _, _, _, _, _, _, G.get (a := 132) rfl, rfl, rfl, rfl, rfl, rfl, rfl, rfl, rfl, by decide⟩
end Mine
namespace Mine
noncomputable abbrev sliceO (l u : Value) : Obj := { cls := .type "slice", data := .fields #[l, u, .none] }
section
variable {w : World} {A : Around} {E : Value → Shared → Prop} {b h : Heap} {g : Array GenState} {d : Drawn} {t : Nat} {os : OsState} {L : Addr} {m : Str → Option Value} {T : List (Addr × Obj)} {env : Env} {Q : Value → Shared → Prop} {s : Shared}
theorem sl_ss {lo hi : Expr} {p : Pos} (q : wpAny (model PG w) A (eval lo env) (fun l s₁ => wpAny (model PG w) A (eval hi env) (fun u s₂ => wpAny (model PG w) A (newFields "slice" [l, u, .none]) Q E s₂) E s₁) E s) :
    wpAny (model PG w) A (eval (.Slice (some lo) (some hi) none p) env) Q E s := by
  rw [arm_eval_Slice]
  exact wpAny_bind (wpAny_mono q (fun l s₁ h₁ => wpAny_bind (wpAny_holding (wpAny_mono h₁ (fun u s₂ h₂ => wpAny_bind (wpAny_holding (wpAny_pure h₂))) fun _ _ x => x))) fun _ _ x => x)
theorem sl_sn {lo : Expr} {p : Pos} (q : wpAny (model PG w) A (eval lo env) (fun l s₁ => wpAny (model PG w) A (newFields "slice" [l, .none, .none]) Q E s₁) E s) :
    wpAny (model PG w) A (eval (.Slice (some lo) none none p) env) Q E s := by
  rw [arm_eval_Slice]
  exact wpAny_bind (wpAny_mono q (fun l s₁ h₁ => wpAny_bind (wpAny_holding (wpAny_pure (wpAny_bind (wpAny_holding (wpAny_pure h₁)))))) fun _ _ x => x)
theorem sl_ns {hi : Expr} {p : Pos} (q : wpAny (model PG w) A (eval hi env) (fun u s₁ => wpAny (model PG w) A (newFields "slice" [.none, u, .none]) Q E s₁) E s) :
    wpAny (model PG w) A (eval (.Slice none (some hi) none p) env) Q E s := by
  rw [arm_eval_Slice]
  exact wpAny_bind (wpAny_pure (wpAny_bind (wpAny_holding (wpAny_mono q (fun u s₂ h₂ => wpAny_bind (wpAny_holding (wpAny_pure h₂))) fun _ _ x => x))))
theorem sl_new {l u : Value} (S : St b L m T h) (q : ∀ a h', St b L m ((a, sliceO l u) :: T) h' → Q (.ref a) ⟨h', g, d, t, os⟩) : wpAny (model PG w) A (newFields "slice" [l, u, .none]) Q E ⟨h, g, d, t, os⟩ :=
  wpAny_newObj_type (s := ⟨h, g, d, t, os⟩) (q _ _ (S.push (sliceO l u) rfl)) (by size_fits)
theorem st_slice {value slice : Expr} {x : Str} {tx : Tok} {a : Addr} {l u : Option (Int × Tok)} (S : St b L m T h) (hm : (a, sliceO (partValue l) (partValue u)) ∈ T) (hz : x.length ≤ 100000) (q : ∀ tk t', Q (.str (Txt.slice x (l.map (·.1)) (u.map (·.1))) tk) ⟨h, g, d, t', os⟩)
    (hs : subscripted slice false (.str x tx) (.ref a) = operate [.ref a, .str x tx] (getItem (.str x tx) (.ref a)) := by with_unfolding_all rfl) :
    wpAny (model PG w) A (subscriptTail value slice (.str x tx) (.ref a)) Q E ⟨h, g, d, t, os⟩ := by
  have hsz : sizeLine = 16777216 := by decide
  refine tail_any (s := ⟨h, g, d, t, os⟩) (typeIs_str _ x tx) F.slot_str_getitem.lookup (wpAny_getItem_str_slice (s := ⟨h, g, d, t, os⟩) (l := l) (u := u) (st := none) ⟨_, S.get hm, rfl, rfl⟩ rfl ?_) hs
  exact post_val_or_str ⟨Nat.le_trans (Txt.slice_le x _ _) (by omega), fun t' k => q t' k⟩
theorem l_slice {value slice : Expr} {lp : Addr} {vs : Array Value} {n : Nat} {a : Addr} {vl vu : Value} {l u : Option Int} (S : St b L m T h) (hl : h.get? lp = some (lst vs n)) (hm : (a, sliceO vl vu) ∈ T) (pl : IsPart vl l) (pu : IsPart vu u) (hz : vs.size ≤ 100000)
    (q : ∀ r h', St b L m ((r, lst (slicePick vs l u none) 0) :: T) h' → Q (.ref r) ⟨h', g, d, t, os⟩)
    (hs : subscripted slice false (.ref lp) (.ref a) = operate [.ref a, .ref lp] (getItem (.ref lp) (.ref a)) := by with_unfolding_all rfl) :
    wpAny (model PG w) A (subscriptTail value slice (.ref lp) (.ref a)) Q E ⟨h, g, d, t, os⟩ := by
  have hsz : sizeLine = 16777216 := by decide
  have hl' : Heap.IsList h lp vs := ⟨_, hl, rfl, _, rfl⟩
  exact tail_any (s := ⟨h, g, d, t, os⟩) (Heap.IsList.typeIs hl') slot_list_getitem.lookup (wpAny_getItem_list_slice (s := ⟨h, g, d, t, os⟩) hl' ⟨_, S.get hm, rfl, rfl⟩ pl pu .none (by simp) (q _ _ (S.push _ rfl)) (by omega)) hs
end
end Mine
namespace Mine
theorem en_cmd_get : entryFor table "classmethod_descriptor.__get__" = some Builtin.«classmethod_descriptor.__get__» := entryFor_of_tree (by kernel_rfl)
theorem en_sup_init : entryFor table "super.__init__" = some Builtin.«super.__init__» := entryFor_of_tree (by kernel_rfl)
theorem en_sup_new : entryFor table "super.__new__" = some Builtin.«super.__new__» := entryFor_of_tree (by kernel_rfl)
theorem en_sup_ga : entryFor table "super.__getattribute__" = some Builtin.«super.__getattribute__» := entryFor_of_tree (by kernel_rfl)
theorem en_ty_call : entryFor table "type.__call__" = some Builtin.«type.__call__» := entryFor_of_tree (by kernel_rfl)
theorem en_ob_new : entryFor table "object.__new__" = some Builtin.«object.__new__» := entryFor_of_tree (by kernel_rfl)
theorem en_md_get : entryFor table "member_descriptor.__get__" = some Builtin.«member_descriptor.__get__» := entryFor_of_tree (by kernel_rfl)
theorem en_md_set : entryFor table "member_descriptor.__set__" = some Builtin.«member_descriptor.__set__» := entryFor_of_tree (by kernel_rfl)
theorem en_fn_get : entryFor table "function.__get__" = some Builtin.«function.__get__» := entryFor_of_tree (by kernel_rfl)
theorem en_ob_ga : entryFor table "object.__getattribute__" = some Builtin.«object.__getattribute__» := entryFor_of_tree (by kernel_rfl)
theorem en_ob_sa : entryFor table "object.__setattr__" = some Builtin.«object.__setattr__» := entryFor_of_tree (by kernel_rfl)
theorem en_ob_init : entryFor table "object.__init__" = some Builtin.«object.__init__» := entryFor_of_tree (by kernel_rfl)
theorem c_call {prog : Program} {w : World} {A : Around} {s : Shared} {f : Value} {args : Args} {R : Result → Shared → Prop}
    (h : wpAny (model prog w) (A.under (.call f args)) (denote table (.call f args)) (fun fin s' => match fin with | .done f => R (.ok f) s' | .again c' => c'.quiet = true ∧ codeAny (model prog w) A c' R s')
      (fun e s' => R (.error e) s') s) : codeAny (model prog w) A (.call f args) R s := codeAny_of_tree h
theorem c_again {prog : Program} {w : World} {A : Around} {s : Shared} {id : String} {args : Args} {R : Result → Shared → Prop} (hq : id.startsWith "lifetime." = false) (h : codeAny (model prog w) A (.builtin id args) R s) :
    (Code.builtin id args).quiet = true ∧ codeAny (model prog w) A (.builtin id args) R s := ⟨q_builtin hq, h⟩
theorem c_builtinE {prog : Program} {w : World} {A : Around} {s : Shared} {id : String} (id' : String) {args : Args} {bi : Builtin} {R : Result → Shared → Prop} (hb : entryFor table id' = some bi) (e : id = id')
    (h : wpAny (model prog w) (A.under (.builtin id' args)) (bi args) (fun fin s' => match fin with | .done f => R (.ok f) s' | .again c' => c'.quiet = true ∧ codeAny (model prog w) A c' R s')
      (fun e s' => R (.error e) s') s) : codeAny (model prog w) A (.builtin id args) R s := by subst e; exact c_builtin hb h
theorem codeAny_eq {M : Model} {A : Around} {c : Code} (c' : Code) {R : Result → Shared → Prop} {s : Shared} (e : c = c') (h : codeAny M A c' R s) : codeAny M A c R s := by rw [e]; exact h
theorem BI.of_gr {w : World} {b : Heap} (G : Gr w b) : BI b := by
  obtain ⟨mb, ⟨o, es, ep, ho, hd, hk, hm⟩, e⟩ := G.bi
  exact ⟨o, ho, fun x hx => (nsLook_of hd hk hm x).trans (by rw [e x hx]; rfl)⟩
theorem SubL.of_mem {T : List (Addr × Obj)} : ∀ {T' : List (Addr × Obj)}, (∀ p ∈ T', p ∈ T) → SubL T T'
  | [], _ => .nil
  | _ :: _, h => .cons (h _ (List.mem_cons_self ..)) (SubL.of_mem fun p hp => h p (List.mem_cons_of_mem _ hp))
theorem SubL.here {T : List (Addr × Obj)} : SubL T T := SubL.of_mem fun _ h => h
theorem SubL.skip {p : Addr × Obj} {T T' : List (Addr × Obj)} (h : SubL T T') : SubL (p :: T) T' := SubL.of_mem fun q hq => List.mem_cons_of_mem _ (h.mem q hq)
section
variable {α : Type} {M : Model} {A : Around} {Q : α → Shared → Prop} {E : Value → Shared → Prop} {s : Shared}
theorem w_ifT {b : Bool} {x y : Sem α} (hb : b = true) (h : wpAny M A x Q E s) : wpAny M A (if b = true then x else y) Q E s := by rw [if_pos hb]; exact h
theorem w_ifF {b : Bool} {x y : Sem α} (hb : b = false) (h : wpAny M A y Q E s) : wpAny M A (if b = true then x else y) Q E s := by rw [if_neg (by rw [hb]; decide)]; exact h
theorem w_ifPT {c : Prop} [Decidable c] {x y : Sem α} (hc : c) (h : wpAny M A x Q E s) : wpAny M A (if c then x else y) Q E s := by rw [if_pos hc]; exact h
theorem w_ifPF {c : Prop} [Decidable c] {x y : Sem α} (hc : ¬ c) (h : wpAny M A y Q E s) : wpAny M A (if c then x else y) Q E s := by rw [if_neg hc]; exact h
theorem w_for_nil {β γ : Type} {b : β} {f : γ → β → Sem (ForInStep β)} {Q : β → Shared → Prop} (h : Q b s) : wpAny M A (forIn ([] : List γ) b f) Q E s := by rw [List.forIn_nil]; exact wpAny_pure h
theorem w_for_cons {β γ : Type} {x : γ} {l : List γ} {b : β} {f : γ → β → Sem (ForInStep β)} {Q : β → Shared → Prop}
    (h : wpAny M A (f x b) (fun r s' => match r with | .done b' => Q b' s' | .yield b' => wpAny M A (forIn l b' f) Q E s') E s) : wpAny M A (forIn (x :: l) b f) Q E s := by
  rw [List.forIn_cons]
  refine wpAny_bind (wpAny_mono h (fun r s' h' => ?_) fun _ _ e => e)
  cases r with
  | done b' => exact wpAny_pure h'
  | yield b' => exact h'
theorem w_for_arr {β γ : Type} {l : List γ} {b : β} {f : γ → β → Sem (ForInStep β)} {Q : β → Shared → Prop} (h : wpAny M A (forIn l b f) Q E s) : wpAny M A (forIn l.toArray b f) Q E s := by
  rw [List.forIn_toArray]; exact h
end
theorem isId_obj : Builtin.Slots.isIdentifier (Str.ofString "obj") = some true := by decide +kernel
theorem w_bind {α β : Type} {M : Model} {A : Around} {E : Value → Shared → Prop} {s : Shared} {m : Sem α} {f : α → Sem β} {Q : β → Shared → Prop} (h : wpAny M A m (fun a s' => wpAny M A (f a) Q E s') E s) : wpAny M A (m.bind f) Q E s := wpAny_bind h
theorem flt_self (a : Addr) : List.filter (fun x => x != Value.ref a) (Value.ref a :: [Value.type "object"]) = [Value.type "object"] := by
  rw [List.filter_cons_of_neg (by simp), List.filter_cons_of_pos (by rfl)]; rfl
theorem mro_type : mroOf (.type "type") = pure [.type "type", .type "object"] := by rw [mroOf_type]; kernel_rfl
theorem mro_object : mroOf (.type "object") = pure [.type "object"] := by rw [mroOf_type]; kernel_rfl
theorem mb_type : Bind.madeBy (.type "type") = pure (some "type.__new__") := madeBy_type mro_type (by rw [typeLookup_type, builtinLookup_eq_fast]; kernel_rfl) (by decide +kernel)
theorem mb_object : Bind.madeBy (.type "object") = pure (some "object.__new__") := madeBy_type mro_object (by rw [typeLookup_type, builtinLookup_eq_fast]; kernel_rfl) (by decide +kernel)
end Mine
namespace Mine
local macro_rules | `(tactic| walk_at "gl") => `(tactic| with_reducible first | exact gl_table _ | exact gl_enumerate _ | exact gl_SIFMT _ | exact gl_len _ | exact gl_range _ | exact gl_suffixed _ | exact gl_toml _ | exact gl_ValueError _ | exact gl_skip _ | exact gl_frozenset _ | exact gl_str _ | exact gl_min _ | exact gl_iter _ | exact gl_next _ | exact gl_missing _ | exact gl_StopIteration _ | exact gl_TypeError _ | exact gl_sum _ | exact gl_filemode _ | exact gl_ranks _ | exact gl_text _ | exact gl_two _ | exact gl_due _ | exact gl_sorted _ | exact gl_cmp _ | exact gl_reduce _ | exact gl_object _)
local macro_rules | `(tactic| walk_at "mem") => `(tactic| first | exact List.Mem.head _ | (refine List.Mem.tail _ ?_; walk_at "mem") | ((fail_if_success (refine List.Mem.tail _ ?_)); assumption))
local macro_rules | `(tactic| walk_at "put") => `(tactic| first | exact Put.head | (refine' Put.tail ?t; (case t => walk_at "put")))
local macro_rules | `(tactic| walk_at "subt") => `(tactic| first | exact SubL.here | (refine SubL.skip ?_; walk_at "subt"))
local macro_rules | `(tactic| walk_at "sub") => `(tactic| first | exact SubL.nil | (refine SubL.cons ?m ?r; (case m => walk_at "mem"); (case r => walk_at "sub")) | walk_at "subt")
local macro_rules | `(tactic| walk_at "nodup") => `(tactic| (intro hn; (simp only [List.map_cons, List.map_nil, List.nodup_cons, List.mem_cons, List.not_mem_nil, not_or, or_false, not_false_eq_true, List.nodup_nil, and_true] at hn ⊢); grind))
local macro_rules | `(tactic| walk_at "look") => `(tactic| first | assumption | exact rfl)
local macro_rules | `(tactic| walk_at "ast") => `(tactic| first
  | (with_reducible first | refine wpAny_execs_nil ?_ | refine wpAny_execs_cons ?_ | refine wpAny_Assign_Name ?_ (by with_unfolding_all rfl) | refine wpAny_If ?_ | refine wpAny_Return_some ?_ | refine wpAny_For ?_ (by intro _; with_unfolding_all rfl) | refine wpAny_Break ?_ | refine wpAny_Expr ?_ (by with_unfolding_all rfl) (by with_unfolding_all rfl) | refine wpAny_BinOp ?_ | refine wpAny_Compare1 ?_ (by with_unfolding_all rfl) | refine wpAny_isTrue_Compare1 ?_ (by with_unfolding_all rfl))
  | ((with_reducible refine v_int ?_); intro t')
  | ((with_reducible refine v_str ?_); intro t')
  | (with_reducible first | refine wpAny_truthy_bool ?_ | refine PyProof.Rows.List_ ?_ | refine call_name ?_ | refine call_meth ?_ (by with_unfolding_all rfl) | refine cw_builtin (by with_unfolding_all rfl) ?_ | refine cw_type (by with_unfolding_all rfl) ?_)
  | ((with_reducible refine' cw_gr ?o ?d ?_); (case o => exact rfl); (case d => exact rfl))
  | (with_reducible first | refine ea_nil ?_ | refine ea_cons ?_ (by with_unfolding_all rfl) | refine PyProof.Rows.args_nil ?_ | refine PyProof.Rows.args_cons ?_ (by with_unfolding_all rfl) | refine wpAny_Name ?_ (by decide +kernel))
  | ((with_reducible refine i_add ?_); intro t')
  | ((with_reducible refine i_sub ?_); intro t')
  | ((with_reducible refine i_and ?_); intro t')
  | ((with_reducible refine i_mod (by decide) ?_); intro t')
  | ((with_reducible refine i_div (by decide) (PyProof.noPylong_small (by decide)) ?_); intro t')
  | (with_reducible first | refine PyProof.Rows.Subscript_ ?_ | refine eq_int ?_ | refine PySem.GM.index ?_ | refine PySem.GM.join ?_ | refine lt_int ?_ | refine gt_int ?_ | refine isTrue_not ?_ | refine isTrue_or ?_ | refine isTrue_or_nil ?_ | refine isTrue_and ?_ | refine isTrue_and_nil ?_ | refine isTrue_plain ?_ (by with_unfolding_all rfl) | refine sl_ss ?_ | refine sl_sn ?_ | refine sl_ns ?_)
  | ((with_reducible refine' sl_new (by assumption) ?_); intro a' h' S')
  | with_reducible refine PyProof.Rows.ge_int ?_
  | ((with_reducible refine' n_local (by assumption) (by assumption) ?L ?k ?l ?v ?_); (case L => rfl); (case k => rfl); (case l => rfl); (case v => walk_at "look"))
  | ((with_reducible refine' n_old (by assumption) (by assumption) ?k ?l ?v ?_); (case k => rfl); (case l => rfl); (case v => walk_at "look"))
  | ((with_reducible refine' n_global (by assumption) (St.keep (by assumption)) ?k ?l ?g ?b ?v ?_); (case k => rfl); (case l => rfl); (case g => rfl); (case b => rfl); (case v => walk_at "gl"))
  | ((with_reducible refine' n_store (by assumption) (by assumption) ?L ?k ?l ?_); (case L => rfl); (case k => rfl); (case l => rfl); intro h' t' S')
  | ((with_reducible refine' n_freeS ?k ?l ?c (by assumption) ?m ?n ?_); (case k => rfl); (case l => rfl); (case c => rfl); (case m => walk_at "mem"); (case n => decide +kernel))
  | ((with_reducible refine' n_cellS ?k ?l ?c (by assumption) ?m ?_); (case k => rfl); (case l => rfl); (case c => rfl); (case m => walk_at "mem"))
  | ((with_reducible refine' l_new (by assumption) ?z ?_); (case z => exact Nat.le_of_ble_eq_true rfl); intro a' h' S')
  | ((with_reducible refine' l_getAppend (by assumption) ?m ?_); (case m => walk_at "mem"))
  | ((with_reducible refine' c_fn (by assumption) (by assumption) ?o ?_); (case o => exact rfl))
  )
local macro_rules | `(tactic| walk_at "rs") => `(tactic| first
  | (with_reducible first | refine r_pure ?_ | refine r_rule ?_ | refine r_at ?_ | refine r_point ?_ | refine r_ask ?_)
  | ((with_reducible refine o_fresh ?_); intro t')
  | ((with_reducible refine s_alloc (by assumption) ?_ (by with_unfolding_all rfl)); intro a' h' S')
  | ((with_reducible refine' s_load (by assumption) ?m ?_); (case m => walk_at "mem"))
  | ((with_reducible refine' s_loadOld (by assumption) ?m ?_); (case m => with_reducible assumption))
  | ((with_reducible refine' s_loadGr (by assumption) (by assumption) ?m ?_); (case m => exact rfl))
  | ((with_reducible refine' s_update (by assumption) ?m ?_ ?f); (case m => walk_at "put"); (case f => with_unfolding_all rfl); intro h' S')
  | (with_reducible first | refine r_handled ?_ | refine r_raise ?_ | refine r_call ?_ r_nb)
  )
local macro_rules | `(tactic| walk_at "rw") => `(tactic| ((conv => arg 3; whnf); (try conv => arg 3; arg 1; whnf); walk_at "rs"))
local macro_rules | `(tactic| walk_at "st") => `(tactic| first | walk_at "ast" | walk_at "rw")
local macro_rules | `(tactic| walk_at "ro") => `(tactic| ((conv => arg 3; whnf); (try conv => arg 3; arg 1; whnf); (first
  | (with_reducible first | refine r_pure ?_ | refine r_rule ?_ | refine r_at ?_ | refine r_point ?_ | refine r_ask ?_)
  | ((with_reducible refine o_fresh ?_); intro t')
  | ((with_reducible refine o_alloc (by assumption) ?_ (by with_unfolding_all rfl)); intro a' h' R')
  | ((with_reducible refine' o_load (by assumption) ?m ?_); (case m => walk_at "mem"))
  | ((with_reducible refine' o_loadOld (by assumption) (Gr.get (by assumption) ?m) ?_); (case m => exact rfl))
  | ((with_reducible refine' o_update (by assumption) ?m ?_ ?f); (case m => walk_at "put"); (case f => with_unfolding_all rfl); intro h' R'))))
local macro_rules | `(tactic| walk_at "rb") => `(tactic| with_reducible first
  | refine c_builtinE "type.__getattribute__" en_ty_ga (by decide +kernel) ?_
  | refine c_builtinE "type.__new__" en_ty_new (by decide +kernel) ?_
  | refine c_builtinE "type.__init__" en_ty_init (by decide +kernel) ?_
  | refine c_builtinE "type.__prepare__" en_ty_prep (by decide +kernel) ?_
  | refine c_builtinE "__build_class__" en_build (by decide +kernel) ?_
  | refine c_builtinE "object.__init_subclass__" en_subc (by decide +kernel) ?_
  | refine c_builtinE "classmethod_descriptor.__get__" en_cmd_get (by decide +kernel) ?_
  | refine c_builtinE "super.__init__" en_sup_init (by decide +kernel) ?_
  | refine c_builtinE "super.__new__" en_sup_new (by decide +kernel) ?_
  | refine c_builtinE "super.__getattribute__" en_sup_ga (by decide +kernel) ?_
  | refine c_builtinE "type.__call__" en_ty_call (by decide +kernel) ?_
  | refine c_builtinE "object.__new__" en_ob_new (by decide +kernel) ?_
  | refine c_builtinE "member_descriptor.__get__" en_md_get (by decide +kernel) ?_
  | refine c_builtinE "member_descriptor.__set__" en_md_set (by decide +kernel) ?_
  | refine c_builtinE "function.__get__" en_fn_get (by decide +kernel) ?_
  | refine c_builtinE "object.__getattribute__" en_ob_ga (by decide +kernel) ?_
  | refine c_builtinE "object.__setattr__" en_ob_sa (by decide +kernel) ?_
  | refine c_builtinE "object.__init__" en_ob_init (by decide +kernel) ?_)
local macro_rules | `(tactic| walk_at "ry") => `(tactic| first
  | (walk_at "ro")
  | ((conv => arg 3; whnf); (try conv => arg 3; arg 1; whnf); ((with_reducible refine' o_load0 (by assumption) (by assumption) ?m ?n ?_); (case m => first | exact bb_build | exact bb_object); (case n => decide +kernel); intro o' hl'; (simp only [pb, hl'])))
  | ((conv => arg 3; whnf); (try conv => arg 3; arg 1; whnf); (first | with_reducible refine r_call ?_ r_nb | with_reducible refine r_handled ?_ | with_reducible refine r_raise ?_))
  )
local macro_rules | `(tactic| walk_at "r0") => `(tactic| first
  | (with_reducible first | refine wpAny_bind ?_ | refine w_bind ?_ | refine wpAny_pure ?_ | refine wpAny_holding ?_)
  )
local macro_rules | `(tactic| walk_at "rk") => `(tactic| first
  | walk_at "r0"
  | (with_reducible first | refine w_for_nil ?_ | refine w_for_cons ?_ | refine w_for_arr ?_)
  | ((with_reducible conv => arg 3; whnf); rw [isId_obj])
  | rw [flt_self]
  | (with_reducible first | refine wpAny_of_eq mb_object ?_ | refine wpAny_of_eq mb_type ?_)
  | ((with_reducible show wpAny _ _ (forIn _ _ _) _ _ _); (conv => arg 3; arg 1; whnf); (first | with_reducible refine w_for_nil ?_ | with_reducible refine w_for_cons ?_))
  | (with_reducible first | refine w_ifF (by with_reducible assumption) ?_ | refine w_ifT (by with_unfolding_all rfl) ?_ | refine w_ifF (by with_unfolding_all rfl) ?_ | refine w_ifPF (of_decide_eq_false (by with_unfolding_all rfl)) ?_ | refine w_ifPT (of_decide_eq_true (by with_unfolding_all rfl)) ?_)
  )
local macro_rules | `(tactic| walk_at "rz") => `(tactic| first
  | walk_at "ry"
  | (with_reducible refine c_call ?_)
  | (with_reducible refine c_again (by decide +kernel) ?_)
  | walk_at "rb"
  | ((fail_if_success (with_reducible show wpAny _ _ _ _ _)); (fail_if_success (with_reducible show codeAny _ _ _ _ _)); dsimp only)
  )
section
noncomputable def sc128P : { s : Scope // s = defScope (PB.getD 35 default) } := by
  refine ⟨?s, ?h⟩
  case h => (conv => rhs; whnf)
noncomputable def sc128 : Scope := sc128P.1
noncomputable def ev128 (L c1 : Addr) : Env := { scope := sc128, locals := L, globals := mainGlobals, cells := [(Str.ofString "ring", c1)], qual := Str.ofString "_law_due" ++ ".<locals>.", func := some 128, code := .ref 127, frame := some L, builtins := builtinsNs }
theorem St.ofOwn2 {b h : Heap} {L : Addr} {o : Obj} {m : Str → Option Value} {T : List (Addr × Obj)} (R : Own b ((L, o) :: T) h) (ho : NsO o m) : St b L m T h := by
  have hn := List.nodup_cons.mp R.nodup
  obtain ⟨es, ep, h1, h2, h3⟩ := ho
  exact ⟨⟨hn.2, fun p hp => R.get p (List.mem_cons_of_mem _ hp), R.keep, fun p hp => R.new p (List.mem_cons_of_mem _ hp)⟩,
    .inr ⟨⟨o, es, ep, R.get _ (List.mem_cons_self ..), h1, h2, h3⟩, R.new _ (List.mem_cons_self ..), hn.1⟩⟩
theorem c_due_in {w : World} {A : Around} {h : Heap} {g : Array GenState} {d : Drawn} {t : Nat} {os : OsState} {l : Addr} {whole : Str} {tw : Tok} {R : Result → Shared → Prop} (G : Gr w h) (hA : A.depth + 20 < recursionLimit)
    (q : ∀ L c1 h' t', L ≠ 0 → St h L (fun x => if x = Str.ofString "whole" then some (.str whole tw) else none) [(c1, cellO (some (.ref l)))] h' →
      wpAny (model PG w) (A.deeper (ev128 L c1)) (execs (defBody (PB.getD 35 default)) (ev128 L c1)) (fun fl s' => R (.ok (.ret (match fl with | .ret v => v | _ => .none))) s')
        (fun e s' => wpAny (model PG w) (A.deeper (ev128 L c1)) (leaving (ev128 L c1) e) (fun _ s'' => R (.error e) s'') (fun e' s'' => R (.error e') s'') s') ⟨h', g, d, t', os⟩) :
    codeAny (model PG w) A (.call (.ref 128) ⟨[.ref l, .str whole tw], []⟩) R ⟨h, g, d, t, os⟩ := by
  have R0 := Own.start h
  refine' codeAny_call_function (by omega) (G.get ?m) ?m1 ?m2 ?m3 ?m4 ?cr ?_
  case m => exact rfl
  case m1 => exact rfl
  case m2 => exact rfl
  case m3 => exact rfl
  case m4 => exact rfl
  case cr => exact codeRec_of G.k rfl
  repeat (walk_at "ro")
  rename_i L h1 R1 c1 h2 R2 h3 R3 t4 h4 R4
  have R5 := R4.pick (T' := [(L, _), (c1, cellO (some (.ref l)))]) (by walk_at "sub") (by walk_at "nodup")
  refine ⟨(G.keeps R4.keep).noLimit, codeAny_func ?_⟩
  refine q L c1 h4 _ (G.ne0 (R5.new _ (List.mem_cons_self ..))) (St.ofOwn2 R5 ⟨#[⟨_, .str (Str.ofString "whole") t, .str whole tw⟩], _, rfl, ?_, ?_⟩)
  · intro e he
    obtain rfl : e = _ := by simpa using he
    exact ⟨_, _, rfl⟩
  · intro n
    unfold nsFind findBy
    simp only [Value.isStr, List.find?_toArray, List.find?_cons, List.find?_nil]
    by_cases e : n = Str.ofString "whole"
    · subst e; simp
    · have : (Str.ofString "whole" == n) = false := by rw [beq_eq_false_iff_ne]; exact fun q => e q.symm
      simp [this, e]
end
section
noncomputable abbrev boundO (id : String) (self : Value) : Obj := { cls := .type "builtin_function_or_method", data := .fields #[.builtin id, self] }
theorem ty_prep {w : World} {A : Around} {b h : Heap} {T : List (Addr × Obj)} {g : Array GenState} {d : Drawn} {t : Nat} {os : OsState} {tk : Tok} {R : Result → Shared → Prop} (G : Gr w b) (O : Own b T h)
  (q : ∀ a h', Own b ((a, boundO "type.__prepare__" (.type "type")) :: T) h' → R (.ok (.ret (.ref a))) ⟨h', g, d, t, os⟩) :
  codeAny (model PG w) A (.builtin "type.__getattribute__" ⟨[.type "type", .str (Str.ofString "__prepare__") tk], []⟩) R ⟨h, g, d, t, os⟩ := by
  have hB := BI.of_gr G
  repeat (walk_at "rz")
  have e : (toString "type" ++ toString "." ++ toString (Str.ofString "__prepare__").toString) = "type.__prepare__" := by decide +kernel
  exact q _ _ (e ▸ by assumption)
end
section
noncomputable def sc48P : { s : Scope // s = defScope (PB.getD 5 default) } := by
  refine ⟨?s, ?h⟩
  case h => (conv => rhs; whnf)
noncomputable def sc48 : Scope := sc48P.1
noncomputable def ev48 (L c : Addr) : Env := { scope := sc48, locals := L, globals := mainGlobals, cells := [(Str.ofString "mycmp", c)], qual := Str.ofString "cmp_to_key" ++ ".<locals>.", func := some 48, code := .ref 47, frame := some L, builtins := builtinsNs }
noncomputable abbrev frm : Obj := { cls := .type "frame", data := .dict #[] }
theorem c_cmp_in {w : World} {A : Around} {b h : Heap} {g : Array GenState} {d : Drawn} {t : Nat} {os : OsState} {f : Addr} {R : Result → Shared → Prop} {T : List (Addr × Obj)} (G : Gr w b) (O : Own b T h) (hA : A.depth + 20 < recursionLimit)
    (q : ∀ L c h' t', Own b ((L, frm) :: (c, cellO (some (.ref f))) :: T) h' →
      wpAny (model PG w) (A.deeper (ev48 L c)) (execs (defBody (PB.getD 5 default)) (ev48 L c)) (fun fl s' => R (.ok (.ret (match fl with | .ret v => v | _ => .none))) s')
        (fun e s' => wpAny (model PG w) (A.deeper (ev48 L c)) (leaving (ev48 L c) e) (fun _ s'' => R (.error e) s'') (fun e' s'' => R (.error e') s'') s') ⟨h', g, d, t', os⟩) :
  codeAny (model PG w) A (.call (.ref 48) ⟨[.ref f], []⟩) R ⟨h, g, d, t, os⟩ := by
  have hB := BI.of_gr G
  refine' codeAny_call_function (by omega) (O.keep _ _ (G.get ?m)) ?m1 ?m2 ?m3 ?m4 ?cr ?_
  case m => exact rfl
  case m1 => exact rfl
  case m2 => exact rfl
  case m3 => exact rfl
  case m4 => exact rfl
  case cr => exact codeRec_of (G.keeps O.keep).k rfl
  repeat (walk_at "ro")
  rename_i L h1 R1 c h2 R2 h3 R3
  refine ⟨(G.keeps R3.keep).noLimit, codeAny_func ?_⟩
  refine q L c h3 _ ?_
  have nd := R3.nodup
  refine ⟨?_, fun p hp => ?_, R3.keep, fun p hp => ?_⟩
  · simp only [List.map_cons, List.nodup_cons, List.mem_cons, not_or] at nd ⊢
    grind
  · rcases List.mem_cons.mp hp with rfl | hp
    · exact R3.get _ (by walk_at "mem")
    rcases List.mem_cons.mp hp with rfl | hp
    · exact R3.get _ (by walk_at "mem")
    · exact R3.get p (List.mem_cons_of_mem _ (List.mem_cons_of_mem _ hp))
  · rcases List.mem_cons.mp hp with rfl | hp
    · exact R3.new _ (by walk_at "mem")
    rcases List.mem_cons.mp hp with rfl | hp
    · exact R3.new _ (by walk_at "mem")
    · exact R3.new p (List.mem_cons_of_mem _ (List.mem_cons_of_mem _ hp))
noncomputable def cEnv (scope : Scope) (nsA : Addr) (env : Env) (qual : Str) (code : Value) (frame : Addr) (builtins : Addr) (cl : List (Str × Addr)) : Env :=
  { scope := scope, locals := nsA, globals := env.globals, cells := cl, qual := qual ++ ".", code := code, frame := some frame, builtins := builtins }
theorem bc_rule {w : World} {A : Around} {s : Shared} {Q : Value → Shared → Prop} {E : Value → Shared → Prop} {name qual : Str} {body : List Stmt} {scope : Scope} {statics : List Str} {fl : Nat} {env : Env} {pos : Pos}
    (h1 : (List.lookup (Str.ofString "__class__") scope.names == some NameKind.cell) = false) (h2 : (List.lookup (Str.ofString "__classdict__") scope.names == some NameKind.cell) = false)
    (H : wpAny (model PG w) A (newTuple [Value.type "object"]) (fun gT s => wpAny (model PG w) A (mkText name) (fun nv s => wpAny (model PG w) A (getAttr? (.type "type") (Str.ofString "__prepare__")) (fun p s =>
      ∃ prep, p = some prep ∧ wpAny (model PG w) A (call prep [nv, gT] []) (fun ns s => ∃ a, ns = .ref a ∧ a ≠ sysModules ∧ wpAny (model PG w) A (specialOf (.ref a) (Str.ofString "__getitem__")) (fun gi s => gi.isNone = false ∧
        wpAny (model PG w) A (classCode env pos fl name qual scope) (fun code s => wpAny (model PG w) A (builtinsFor env.globals env.builtins) (fun bu s => wpAny (model PG w) A (newBodyFrame code env.globals a bu) (fun fr s => wpAny (model PG w) A (closureFor scope env) (fun cl s =>
          wpAny (model PG w) A enterFrame (fun _ s => 
            wpAny (model PG w) A (do
                let x ← loadName (cEnv scope a env qual code fr bu cl) (Str.ofString "__name__")
                storeName (cEnv scope a env qual code fr bu cl) (Str.ofString "__module__") x
                let x ← mkText qual
                storeName (cEnv scope a env qual code fr bu cl) (Str.ofString "__qualname__") x
                let x ← mkInt (fl : Int)
                storeName (cEnv scope a env qual code fr bu cl) (Str.ofString "__firstlineno__") x
                pure ()) (fun _ s =>
              wpAny (model PG w) A (run (.body body (cEnv scope a env qual code fr bu cl))) (fun _ s =>
                wpAny (model PG w) A (do
                  let x ← List.mapM mkText statics
                  let x ← newTextTuple x
                  storeName (cEnv scope a env qual code fr bu cl) (Str.ofString "__static_attributes__") x
                  pure ()) (fun _ s =>
                  wpAny (model PG w) A (call (.type "type") [nv, gT, .ref a] []) Q E s) (fun _ _ => False) s) (fun _ _ => False) s) (fun _ _ => False) s) E s) E s) E s) E s) E s) E s) E s) E s) E s) E s) :
    wpAny (model PG w) A (buildClass name qual [.type "object"] [] body scope statics fl env pos none) Q E s := by
  unfold buildClass
  refine wpAny_bind (wpAny_mono H (fun gT s H => ?_) fun _ _ e => e)
  refine wpAny_bind (wpAny_pure (a := ([Value.type "object"], false)) ?_)
  refine wpAny_bind (wpAny_pure (a := Value.type "type") ?_)
  refine wpAny_bind (wpAny_pure (a := true) ?_)
  refine wpAny_bind (wpAny_pure (a := Value.type "type") ?_)
  refine wpAny_bind (wpAny_mono H (fun nv s H => ?_) fun _ _ e => e)
  refine wpAny_bind (wpAny_pure (a := gT) ?_)
  refine wpAny_holding (wpAny_bind (wpAny_mono H (fun p s H => ?_) fun _ _ e => e))
  obtain ⟨prep, rfl, H⟩ := H
  refine wpAny_bind (wpAny_mono H (fun ns s H => ?_) fun _ _ e => e)
  obtain ⟨a, rfl, hne, H⟩ := H
  refine wpAny_bind ?x
  case x =>
    unfold notTheModulesDict
    rw [if_neg (by simpa using hne)]
    refine wpAny_pure ?_
    refine wpAny_bind (wpAny_mono H (fun gi s H => ?_) fun _ _ e => e)
    obtain ⟨hgi, H⟩ := H
    rw [hgi, if_neg (by decide)]
    refine wpAny_holding ?_
    rw [h1, h2, if_neg (by decide)]
    refine wpAny_bind (wpAny_pure ?_)
    refine wpAny_bind (wpAny_pure ?_)
    refine wpAny_bind (wpAny_mono H (fun code s H => ?_) fun _ _ e => e)
    refine wpAny_bind (wpAny_mono H (fun bu s H => ?_) fun _ _ e => e)
    refine wpAny_bind (wpAny_mono H (fun fr s H => ?_) fun _ _ e => e)
    refine wpAny_bind (wpAny_mono H (fun cl s H => ?_) fun _ _ e => e)
    refine wpAny_holding ?_
    refine wpAny_bind (wpAny_mono H (fun _ s H => ?_) fun _ _ e => e)
    refine wpAny_bind (wpAny_onRaise (wpAny_mono H (fun _ s H => ?_) fun _ _ e => e.elim))
    refine wpAny_bind (wpAny_mono H (fun _ s H => ?_) fun _ _ e => e.elim)
    refine wpAny_bind (wpAny_onRaise (wpAny_mono H (fun _ s H => ?_) fun _ _ e => e.elim))
    exact wpAny_bind (wpAny_mono H (fun c s H => wpAny_pure H) fun _ _ e => e)
end
section
section
variable {w : World} {A : Around} {b h : Heap} {T : List (Addr × Obj)} {g : Array GenState} {d : Drawn} {t : Nat} {os : OsState} {L c : Addr} {E : Value → Shared → Prop}
theorem lf_guard {Q : Unit → Shared → Prop} (G : Gr w b) (O : Own b T h) (q : Q () ⟨h, g, d, t, os⟩) : wpAny (model PG w) A (buildClassGuard (ev48 L c)) Q E ⟨h, g, d, t, os⟩ := by
  have hB := BI.of_gr G
  repeat (walk_at "rz")
  exact q
theorem lf_objName {Q : Value → Shared → Prop} {p : Pos} (G : Gr w b) (O : Own b T h) (q : Q (.type "object") ⟨h, g, d, t, os⟩) : wpAny (model PG w) A (eval (.Name (Str.ofString "object") p) (ev48 L c)) Q E ⟨h, g, d, t, os⟩ := by
  refine wpAny_Name ?_ (by decide +kernel)
  refine' n_global G (fun a o e => O.keep a o e) ?k ?l ?g ?b ?v q
  case k => exact rfl
  case l => exact rfl
  case g => exact rfl
  case b => exact rfl
  case v => exact gl_object _
theorem lf_prep {Q : Option Value → Shared → Prop} (G : Gr w b) (O : Own b T h) (q : ∀ a h' t', Own b ((a, boundO "type.__prepare__" (.type "type")) :: T) h' → Q (some (.ref a)) ⟨h', g, d, t', os⟩) : wpAny (model PG w) A (getAttr? (.type "type") (Str.ofString "__prepare__")) Q E ⟨h, g, d, t, os⟩ := by
  repeat (walk_at "ry")
  refine codeAny_eq (.call (.builtin "type.__getattribute__") ⟨[.type "type", .str (Str.ofString "__prepare__") t], []⟩) (by kernel_rfl) (c_call ?_)
  repeat (walk_at "ry")
  refine c_again (by decide +kernel) (ty_prep G O fun a h' O' => ?_)
  dsimp only
  repeat (walk_at "ry")
  exact q _ _ _ O'
theorem o_allocG {α : Type} {o : Obj} {k : Addr → Sem α} {Q : α → Shared → Prop} (G : Gr w b) (R : Own b T h) (q : ∀ a h', 1 < a → Own b ((a, o) :: T) h' → wpAny (model PG w) A (k a) Q E ⟨h', g, d, t, os⟩) (hf : o.isFreed = false) : wpAny (model PG w) A (Sem.alloc o k) Q E ⟨h, g, d, t, os⟩ :=
  fun Γ p hΓ => q _ _ (Nat.lt_trans (by decide : 1 < 2) (Heap.lt_size (R.keep _ _ (G.get (a := 2) rfl)))) (R.push o hf) Γ p hΓ
theorem lf_callPrep {Q : Value → Shared → Prop} {m : Addr} {nv gT : Value} (G : Gr w b) (O : Own b T h) (hm : (m, boundO "type.__prepare__" (.type "type")) ∈ T) (q : ∀ a h' t', 1 < a → Own b ((a, { cls := .type "dict", data := .dict #[] }) :: T) h' → Q (.ref a) ⟨h', g, d, t', os⟩) : wpAny (model PG w) A (call (.ref m) [nv, gT] []) Q E ⟨h, g, d, t, os⟩ := by
  refine wpAny_call (c_call ?_)
  repeat (first | ((conv => arg 3; whnf); (try conv => arg 3; arg 1; whnf); (with_reducible refine' o_allocG G (by assumption) ?q ?f); (case f => with_unfolding_all rfl); intro a' h' ga' R') | walk_at "rz")
  exact q _ _ _ (by assumption) (by assumption)
theorem lf_gi {Q : Option Value → Shared → Prop} {m : Addr} {es : Array DictEntry} {ep : Nat} (G : Gr w b) (O : Own b T h) (hm : (m, { cls := .type "dict", data := .dict es ep }) ∈ T) (q : ∀ v, v.isNone = false → Q v ⟨h, g, d, t, os⟩) : wpAny (model PG w) A (specialOf (.ref m) (Str.ofString "__getitem__")) Q E ⟨h, g, d, t, os⟩ := by
  repeat (walk_at "rz")
  exact q _ rfl
theorem lf_bf {Q : Addr → Shared → Prop} (G : Gr w b) (O : Own b T h) (q : Q builtinsNs ⟨h, g, d, t, os⟩) : wpAny (model PG w) A (builtinsFor (ev48 L c).globals (ev48 L c).builtins) Q E ⟨h, g, d, t, os⟩ := by
  obtain ⟨mg, bm, ob, n, b1, b2, b3, b4, b5, b6⟩ := G.bm
  exact wpAny_builtinsFor (s := ⟨h, g, d, t, os⟩) (n.keeps (fun a o e => O.keep a o e)) b1 b2 (O.keep _ _ b3) b4 b5 b6 q
end
noncomputable def clsOf : Stmt → Str × List Stmt × Scope × List Str
  | .ClassDef n _ _ b _ _ sc _ _ st _ => (n, b, sc, st)
  | _ => default
noncomputable def scKP : { s : Scope // s = (clsOf ((defBody (PB.getD 5 default)).getD 0 default)).2.2.1 } := by
  refine ⟨?s, ?h⟩
  case h => (conv => rhs; whnf)
noncomputable def scK : Scope := scKP.1
noncomputable abbrev posK : Pos := { line := 31, col := 4, endLine := 52, endCol := 23 }
noncomputable abbrev K0 : Str := Str.ofString "K"
noncomputable abbrev frK (code : Value) (a : Addr) (vn : Value) : Obj := { cls := .type "frame", slots := #[some code, some (.ref mainGlobals), some (.ref a), none, some vn, none, some (.ref builtinsNs)] }
section
variable {w : World} {A : Around} {b h : Heap} {T : List (Addr × Obj)} {g : Array GenState} {d : Drawn} {t : Nat} {os : OsState} {L c : Addr} {E : Value → Shared → Prop}
theorem lf_fr {Q : Addr → Shared → Prop} {code : Value} {a : Addr} (G : Gr w b) (O : Own b T h) (q : ∀ fr h' tk, Own b ((fr, frK code a (.str (Str.ofString "law_oy0135_01") tk)) :: T) h' → Q fr ⟨h', g, d, t, os⟩) : wpAny (model PG w) A (newBodyFrame code (ev48 L c).globals a builtinsNs) Q E ⟨h, g, d, t, os⟩ := by
  have hB := BI.of_gr G
  repeat (walk_at "rz")
  exact q _ _ _ (by assumption)
/-- a code object with its table -/
noncomputable def CodeOk (o : Obj) (c P : Addr) : Prop :=
  ∃ vs file tf flags tg inF text tt, o.cls = .type "code" ∧ o.data = .fields vs ∧ vs[11]? = some (.ref P) ∧ vs.getD 11 .none = .ref P ∧ vs.getD 18 .none = .str file tf ∧
    vs.getD 7 .none = .int flags tg ∧ vs.getD 9 .none = .bool inF ∧ vs.getD 10 .none = .int text tt ∧ c ≠ P
theorem CodeOk.hd {o : Obj} {c P : Addr} {h : Heap} (x : CodeOk o c P) (e : h.get? c = some o) : CodeHd h c P := by
  obtain ⟨vs, file, tf, flags, tg, inF, text, tt, r⟩ := x
  exact ⟨o, vs, file, tf, flags, tg, inF, text, tt, e, r⟩
theorem fnK : scK.freeNames = [Str.ofString "mycmp"] := by decide +kernel
theorem lf_code {Q : Value → Shared → Prop} {T0 : List (Addr × Obj)} (G : Gr w b) (O : Own b ((43, tabObj #[]) :: T0) h)
    (q : ∀ C P oc h' t', CodeOk oc C P → (∃ vs tq, oc.data = .fields vs ∧ vs[1]? = some (.str (Str.ofString "cmp_to_key.<locals>.K") tq)) → Own b ((C, oc) :: (P, tabObj #[]) :: (43, tabObj #[rawInt 31, rawInt 4, .ref C]) :: T0) h' → Q (.ref C) ⟨h', g, d, t', os⟩) :
    wpAny (model PG w) A (classCode (ev48 L c) posK 31 K0 (Str.ofString "cmp_to_key.<locals>.K") scK) Q E ⟨h, g, d, t, os⟩ := by
  have hB := BI.of_gr G
  unfold classCode
  rw [fnK]
  repeat (walk_at "rz")
  rename_i P' h1 R1 t1 t2 C' h2 R2 h3 R3
  refine q C' P' _ h3 _ ?_ ⟨_, _, rfl, rfl⟩ (Own.sub R3 (.cons_cons _ (.cons_cons _ (.cons _ (.refl _)))))
  refine ⟨_, _, _, _, _, _, _, _, rfl, rfl, rfl, rfl, rfl, rfl, rfl, rfl, fun e => ?_⟩
  have := (List.nodup_cons.mp R3.nodup).1
  exact this (by simp [e])
end
end
section
noncomputable def sc64P : { s : Scope // s = defScope (PB.getD 9 default) } := by
  refine ⟨?s, ?h⟩
  case h => (conv => rhs; whnf)
noncomputable def sc64 : Scope := sc64P.1
noncomputable def ev64 (L : Addr) : Env := envOf (Str.ofString "S_IFMT") sc64 L 64 (.ref 63)
theorem c_SIFMT {w : World} {A : Around} {h : Heap} {g : Array GenState} {d : Drawn} {t : Nat} {os : OsState} {v : Int} {tv : Tok} {R : Result → Shared → Prop} (G : Gr w h) (hA : A.depth < recursionLimit)
    (q : ∀ h' t' tk, Kp h h' → R (.ok (.ret (.int (Builtin.bitAnd v 61440) tk))) ⟨h', g, d, t', os⟩) : codeAny (model PG w) A (.call (.ref 64) ⟨[.int v tv], []⟩) R ⟨h, g, d, t, os⟩ := by
  refine' enterE ev64 [(Str.ofString "mode", .int v tv)] G ?ho ?hd ?hcd ?hb ?hev hA ?bind ?hcell ?hloc ?_ ?c1 ?c2 ?c3
  case ho => exact rfl
  case hd => exact rfl
  case hcd => exact rfl
  case hb => exact rfl
  case hev => intro L; rfl
  case bind => exact rfl
  case hcell => decide
  case hloc => exact locs rfl
  case c1 => exact rfl
  case c2 => exact rfl
  case c3 => exact rfl
  intro L h' t' hL0 S
  repeat (walk_at "ast")
  exact q _ _ _ S.keep
noncomputable def sc104P : { s : Scope // s = defScope (PB.getD 30 default) } := by
  refine ⟨?s, ?h⟩
  case h => (conv => rhs; whnf)
noncomputable def sc104 : Scope := sc104P.1
noncomputable def ev104 (L : Addr) : Env := envOf (Str.ofString "filemode") sc104 L 104 (.ref 103)
noncomputable def fmOuter : Stmt := (defBody (PB.getD 30 default)).getD 1 default
noncomputable def fmInner : Stmt := (forBody fmOuter).getD 0 default
/-- the sign of a column: the first that fits -/
noncomputable def pick (idx v : Int) : List (Int × Str) → Str
  | [] => if idx = 0 then Str.ofString "?" else Str.ofString "-"
  | (bit, ch) :: r => if (if idx = 0 then Builtin.bitAnd v 61440 = bit else Builtin.bitAnd v bit = bit) then ch else pick idx v r
noncomputable def Rows (b : Heap) (items : Array Value) (tab : List (Int × Str)) : Prop :=
  items.size = tab.length ∧ ∀ (j : Nat) (bit : Int) (ch : Str), tab[j]? = some (bit, ch) → ∃ (a : Addr) (tb tc : Tok), items[j]? = some (Value.ref a) ∧ b.IsTuple a #[Value.int bit tb, Value.str ch tc]
noncomputable def FMm (v idx : Int) (tv ti : Tok) (p : Addr) (m : Str → Option Value) : Prop :=
  m (Str.ofString "mode") = some (.int v tv) ∧ m (Str.ofString "perm") = some (.ref p) ∧ m (Str.ofString "index") = some (.int idx ti)
theorem fm_inner (w : World) (A : Around) (b : Heap) (g d os) (v idx : Int) (tv ti : Tok) (p it ax L : Addr) (items : Array Value) (tab : List (Int × Str)) (R0 : Result → Shared → Prop) (cs : Array Value) (n : Nat) (T : List (Addr × Obj))
    (G : Gr w b) (hL0 : L ≠ 0) (hh : A.handled = none) (hA : A.depth + 10 < recursionLimit) (hax : b.IsTuple ax items) (hr : Rows b items tab) (hcs : cs.size ≤ 100)
    (hR : ∀ h' t' m' tk, FMm v idx tv ti p m' → St b L m' ((p, lst (cs.push (.str (pick idx v tab) tk)) (n + 1)) :: T) h' → R0 (.ok .next) ⟨h', g, d, t', os⟩) :
    ∀ (h : Heap) (t : Nat) (m : Str → Option Value) (oi : Obj), FMm v idx tv ti p m → oi.cls = .type "tuple_iterator" → oi.data = .fields #[.ref ax, .int (0 : Nat) 0] → St b L m ((it, oi) :: (p, lst cs n) :: T) h →
    codeAny (model PG w) A (.forLoop (forTgt fmInner) (.ref it) (forBody fmInner) (forElse fmInner) (ev104 L)) R0 ⟨h, g, d, t, os⟩ := by
  have hz : cs.size ≤ sizeLine := Nat.le_trans hcs (by decide)
  have hA' : A.depth < recursionLimit := by omega
  suffices H : ∀ (r : List (Int × Str)) (j : Nat), tab.drop j = r → pick idx v r = pick idx v tab → ∀ (h : Heap) (t : Nat) (m : Str → Option Value) (oi : Obj), FMm v idx tv ti p m → oi.cls = .type "tuple_iterator" → oi.data = .fields #[.ref ax, .int j 0] → St b L m ((it, oi) :: (p, lst cs n) :: T) h →
    codeAny (model PG w) A (.forLoop (forTgt fmInner) (.ref it) (forBody fmInner) (forElse fmInner) (ev104 L)) R0 ⟨h, g, d, t, os⟩ from H tab 0 rfl rfl
  intro r
  induction r with
  | nil =>
    intro j hj hp h t m oi hm hc hd S
    have hx : items[j]? = none := by
      have h1 := congrArg List.length hj
      rw [List.length_drop, List.length_nil] at h1
      have h2 := hr.1
      rw [Array.getElem?_eq_none_iff]; omega
    refine for_turn (t_end hh S hc hd (hax.at fun o e => S.keep _ _ e) hx fun h₁ S₁ => ?_)
    dsimp only
    obtain ⟨hm1, hm2, hm3⟩ := id hm
    conv => arg 3; arg 1; whnf
    repeat (walk_at "ast")
    by_cases hi : idx = 0
    · rw [if_pos (by rw [hi]; rfl)]
      repeat (walk_at "ast")
      refine l_append S₁ Put.head hz fun h₂ S₂ => ?_
      repeat (walk_at "ast")
      refine' hR _ _ _ _ hm ?fin
      case fin => rw [← hp, pick, if_pos hi]; exact S₂
    · rw [if_neg (by simpa using hi)]
      repeat (walk_at "ast")
      refine l_append S₁ Put.head hz fun h₂ S₂ => ?_
      repeat (walk_at "ast")
      refine' hR _ _ _ _ hm ?fin
      case fin => rw [← hp, pick, if_neg hi]; exact S₂
  | cons x r ih =>
    intro j hj hp h t m oi hm hc hd S
    obtain ⟨bit, ch⟩ := x
    have hx : tab[j]? = some (bit, ch) := by rw [← List.head?_drop, hj]; rfl
    have hj' : tab.drop (j + 1) = r := by rw [← List.tail_drop, hj]; rfl
    obtain ⟨a, tb, tc, hi, ha⟩ := hr.2 j bit ch hx
    refine for_turn (t_next S hc hd (hax.at fun o e => S.keep _ _ e) hi fun h₁ oi₁ hc₁ hd₁ S₁ => ?_)
    refine lot_tup S₁ hc₁ hd₁ ?_
    refine a_pair hh S₁ (ha.at fun o e => S₁.keep _ _ e) hL0 rfl rfl rfl rfl fun h₂ t₂ S₂ => ?_
    obtain ⟨hm1, hm2, hm3⟩ := id hm
    have hm' : FMm v idx tv ti p (fun z => if z = Str.ofString "char" then some (Value.str ch tc) else if z = Str.ofString "bit" then some (Value.int bit tb) else m z) := ⟨hm1, hm2, hm3⟩
    conv => arg 3; arg 1; whnf
    repeat (walk_at "ast")
    by_cases hi : idx = 0
    · rw [if_pos (by rw [hi]; rfl)]
      repeat (walk_at "ast")
      refine wpAny_call (c_SIFMT (G.keeps S₂.keep) hA' fun h₃ t₃ tk hk => ?_)
      have S₃ := S₂.grown hk
      repeat (walk_at "ast")
      by_cases hb : Builtin.bitAnd v 61440 = bit
      · rw [if_pos (by rw [hb]; exact beq_self_eq_true _)]
        repeat (walk_at "ast")
        refine l_append S₃ (Put.tail Put.head) hz fun h₄ S₄ => ?_
        repeat (walk_at "ast")
        refine hR _ _ _ tc hm' ?_
        rw [← hp, pick, if_pos (by rw [if_pos hi]; exact hb)]; exact S₄.sub (List.sublist_cons_self ..)
      · rw [if_neg (by simpa using hb)]
        repeat (walk_at "ast")
        refine ih (j + 1) hj' ?_ _ _ _ _ hm' hc₁ hd₁ S₃
        rw [← hp, pick, if_neg (by rw [if_pos hi]; exact hb)]
    · rw [if_neg (by simpa using hi)]
      repeat (walk_at "ast")
      by_cases hb : Builtin.bitAnd v bit = bit
      · rw [if_pos (by rw [hb]; exact beq_self_eq_true _)]
        repeat (walk_at "ast")
        refine l_append S₂ (Put.tail Put.head) hz fun h₄ S₄ => ?_
        repeat (walk_at "ast")
        refine hR _ _ _ tc hm' ?_
        rw [← hp, pick, if_pos (by rw [if_neg hi]; exact hb)]; exact S₄.sub (List.sublist_cons_self ..)
      · rw [if_neg (by simpa using hb)]
        repeat (walk_at "ast")
        refine ih (j + 1) hj' ?_ _ _ _ _ hm' hc₁ hd₁ S₂
        rw [← hp, pick, if_neg (by rw [if_neg hi]; exact hb)]
end
section
theorem meets_enum_tuple (l : Addr) (items : Array Value) (n : Nat) (dct : Option Addr) (sl : Array (Option Value)) :
    Meets (Builtin.«enumerate.__new__» ⟨[.type "enumerate", .ref l], []⟩) (fun _ R s => s.heap.get? l = some { cls := .type "tuple", dict := dct, data := .seq items n, slots := sl } ∧
      R (.ok (.ret (.ref (s.heap.push { cls := .type "tuple_iterator", data := .fields #[.ref l, .int 0 0] }).objs.size)))
        { s with heap := (s.heap.push { cls := .type "tuple_iterator", data := .fields #[.ref l, .int 0 0] }).push { cls := .type "enumerate", data := .fields #[.none, .bool false, .ref s.heap.objs.size, rawInt 0, .none, .none] } }) :=
  .of_wp fun prog w A R s h => by
    obtain ⟨hp, g, d, tk, os⟩ := s; obtain ⟨hl, h⟩ := h
    have hsub := sub_enumerate
    have hL : Heap.IsTuple (Shared.heap ⟨hp, g, d, tk, os⟩) l items := ⟨_, hl, rfl, n, rfl⟩
    wp_walk using AutoSeq1.wpAny_loadPart' hl
    refine wpAny_stack_any fun st => wpAny_pure ?_
    split
    · rename_i c _ _ _ _ _
      cases (c == Value.type "enumerate")
      · wp_walk using AutoSeq1.wpAny_loadPart' hl, wpAny_pyIter_tuple hL
        exact ⟨_, rfl, h⟩
      · wp_walk using AutoSeq1.wpAny_loadPart' hl, wpAny_pyIter_tuple hL
        exact ⟨_, rfl, h⟩
    · wp_walk using AutoSeq1.wpAny_loadPart' hl, wpAny_pyIter_tuple hL
      exact ⟨_, rfl, h⟩
section
variable {w : World} {A : Around} {E : Value → Shared → Prop} {b h : Heap} {g : Array GenState} {d : Drawn} {t : Nat} {os : OsState} {L : Addr} {m : Str → Option Value} {T T' : List (Addr × Obj)} {env : Env}
noncomputable abbrev enumO (it : Addr) (i : Int) (x0 old : Value) : Obj := { cls := .type "enumerate", dict := none, data := .fields #[x0, .bool false, .ref it, rawInt i, .none, old], slots := #[] }
theorem e_make {l : Addr} {items : Array Value} {n : Nat} {Q : Value → Shared → Prop} (S : St b L m T h) (hl : h.get? l = some { cls := .type "tuple", data := .seq items n })
    (q : ∀ e it h', St b L m ((e, enumO it 0 .none .none) :: (it, { cls := .type "tuple_iterator", data := .fields #[.ref l, .int 0 0] }) :: T) h' → Q (.ref e) ⟨h', g, d, t, os⟩) :
    wpAny (model PG w) A (call (.type "enumerate") [.ref l]) Q E ⟨h, g, d, t, os⟩ := by
  refine callType_new F.called_enumerate (by decide) (F.typeCall_enumerate_1 _) (F.newCall_enumerate_1 _) (fun obj => F.args_object_init_2 obj _) F.entry_enumerate_new
    (meets_enum_tuple l items n none #[]) ⟨hl, ?_⟩
  have S₁ := S.push { cls := .type "tuple_iterator", data := .fields #[.ref l, .int 0 0] } rfl
  have S₂ := S₁.push (enumO h.objs.size 0 .none .none) rfl
  exact ⟨⟨_, S₂.get (List.mem_cons_self ..), rfl⟩, q _ _ _ S₂⟩
theorem nextOf_tuple {s : Shared} {it t : Addr} {i : Nat} {items : Array Value} {x : Value} {Q : Value → Shared → Prop} (hit : s.heap.IsTupleIter it t i)
    (ht : s.heap.IsTuple t items) (hx : items[i]? = some x)
    (hQ : ∀ h', h'.IsTupleIter it t (i + 1) → Heap.SameBut it s.heap h' → Q x { s with heap := h' }) :
    wpAny (model PG w) A (Builtin.SmallTypes.nextOf (.ref it)) Q E s := by
  obtain ⟨o, ho, hc, hd⟩ := id hit
  obtain ⟨ol, hol, _, nl, hdl⟩ := ht
  unfold Builtin.SmallTypes.nextOf
  refine wpAny_bind (wpAny_callSpecial?_slot (name := Str.ofString "__next__") hit.typeIs F.slot_tuple_iterator_next
    (wpAny_call_entry F.slot_tuple_iterator_next hit.typeIs F.entry_tuple_iterator_next ?_ (F.args_tuple_iterator_next_1 _)))
  show wpAny _ _ (field (.ref it) 0 >>= _) _ _ s
  refine wpAny_bind (wpAny_field ho hd (x := .ref t) rfl ?_)
  show wpAny _ _ (if (Value.ref t == Value.none) = true then _ else _) _ _ s
  rw [if_neg (show ¬ ((Value.ref t == Value.none) = true) from Bool.false_ne_true)]
  show wpAny _ _ (field (.ref it) 1 >>= _) _ _ s
  refine wpAny_bind (wpAny_field ho hd (x := .int i 0) rfl ?_)
  show wpAny _ _ (seqItems? (.ref t) >>= _) _ _ s
  refine wpAny_bind (wpAny_seqItems hol hdl ?_)
  simp only [Int.toNat_natCast, hx]
  refine wpAny_bind (wpAny_setField ho hd (by simp) (wpAny_pure ⟨x, rfl, wpAny_pure (hQ _ ?_ (Heap.SameBut.update ..))⟩))
  exact ⟨_, Heap.get?_update_self _ ho (Obj.isFreed_of_fields (Obj.data_mapFields hd _)), (Obj.cls_mapFields ..).trans hc, by
    rw [Obj.data_mapFields hd]; simp [rawInt]⟩
theorem nextOf_tuple_end {s : Shared} {it t : Addr} {i : Nat} {items : Array Value} {Q : Value → Shared → Prop} (hh : A.handled = none) (hit : s.heap.IsTupleIter it t i)
    (ht : s.heap.IsTuple t items) (hx : items[i]? = none)
    (hE : ∀ h' e, Heap.ExtBut it s.heap h' → (∃ o, h'.get? e = some o ∧ o.cls = .type "StopIteration") → E (.ref e) { s with heap := h' }) :
    wpAny (model PG w) A (Builtin.SmallTypes.nextOf (.ref it)) Q E s := by
  obtain ⟨o, ho, hc, hd⟩ := id hit
  obtain ⟨ol, hol, _, nl, hdl⟩ := ht
  unfold Builtin.SmallTypes.nextOf
  refine wpAny_bind (wpAny_callSpecial?_slot (name := Str.ofString "__next__") hit.typeIs F.slot_tuple_iterator_next
    (wpAny_call_entry F.slot_tuple_iterator_next hit.typeIs F.entry_tuple_iterator_next ?_ (F.args_tuple_iterator_next_1 _)))
  show wpAny _ _ (field (.ref it) 0 >>= _) _ _ s
  refine wpAny_bind (wpAny_field ho hd (x := .ref t) rfl ?_)
  show wpAny _ _ (if (Value.ref t == Value.none) = true then _ else _) _ _ s
  rw [if_neg (show ¬ ((Value.ref t == Value.none) = true) from Bool.false_ne_true)]
  show wpAny _ _ (field (.ref it) 1 >>= _) _ _ s
  refine wpAny_bind (wpAny_field ho hd (x := .int i 0) rfl ?_)
  show wpAny _ _ (seqItems? (.ref t) >>= _) _ _ s
  refine wpAny_bind (wpAny_seqItems hol hdl ?_)
  simp only [Int.toNat_natCast, hx]
  refine wpAny_bind (wpAny_rule (wpAny_bind (wpAny_setField ho hd (by simp) ?_)))
  show wpAny _ _ (newExc (.type "StopIteration") [] >>= _) _ _ _
  refine wpAny_bind ?_
  simp only [newExc, newTuple]
  refine wpAny_bind (wpAny_newObj_type ?_ (by size_fits))
  refine wpAny_bind (m := firstArgMember _ _) (wpAny_of_eq (a := Value.none) (by first | rfl | (simp only [firstArgMember]; rfl)) ?_)
  refine wpAny_newObj_type ?_ (by size_fits)
  simp only [raiseNew]
  refine wpAny_bind (wpAny_handled ?_)
  rw [show A.in1.handled = none from hh]
  refine wpAny_bind (wpAny_pure (wpAny_throw ?_))
  exact hE _ _ (((Heap.SameBut.update ..).extBut.push _).push _) ⟨_, Heap.get?_push_size _ rfl, rfl⟩
theorem drawsTuple (hh : A.handled = none) (it l : Addr) (hne : l ≠ it) (items : Array Value) :
    Draws PG w A it [it, l] items.size (fun i v => items[i]? = some v) (fun i h => h.IsTupleIter it l i ∧ h.IsTuple l items) where
  live := fun _ _ st => let ⟨o, ho, _⟩ := st.1; ⟨o, ho⟩
  frame := fun _ _ _ st hk => ⟨st.1.at fun o e => hk it (by simp) o e, st.2.at fun o e => hk l (by simp) o e⟩
  item := fun i s Q E hi st hQ => by
    refine nextOf_tuple st.1 st.2 (x := items[i]) (by simp [hi]) fun h' hit' hs' => ?_
    exact hQ _ h' s.toks (by simp [hi]) ⟨hit', st.2.extBut hs'.extBut hne⟩ hs'
  done := fun s Q E st hE => nextOf_tuple_end hh st.1 st.2 (by simp) hE
end
end
section
theorem St.two {b h h' : Heap} {L e i : Addr} {m : Str → Option Value} {T : List (Addr × Obj)} {o1 o2 o1' o2' : Obj} (S : St b L m ((e, o1) :: (i, o2) :: T) h)
    (hk : ∀ x o, x ≠ e → x ≠ i → h.get? x = some o → h'.get? x = some o) (h1 : h'.get? e = some o1') (h2 : h'.get? i = some o2') : St b L m ((e, o1') :: (i, o2') :: T) h' := by
  have n1 := List.nodup_cons.mp S.own.nodup
  have n2 := List.nodup_cons.mp n1.2
  have me : b.get? e = none := S.own.new (e, o1) (List.mem_cons_self ..)
  have mi : b.get? i = none := S.own.new (i, o2) (List.mem_cons_of_mem _ (List.mem_cons_self ..))
  refine ⟨⟨S.own.nodup, fun p hp => ?_, fun x o ex => ?_, fun p hp => ?_⟩, S.fr.imp id fun ⟨n, nl, off⟩ => ?_⟩
  · rcases List.mem_cons.mp hp with rfl | hp
    · exact h1
    · rcases List.mem_cons.mp hp with rfl | hp
      · exact h2
      · refine hk _ _ (fun q => n1.1 ?_) (fun q => n2.1 ?_) (S.own.get p (List.mem_cons_of_mem _ (List.mem_cons_of_mem _ hp)))
        · show e ∈ _
          rw [← q]; exact List.mem_cons_of_mem _ (List.mem_map.mpr ⟨p, hp, rfl⟩)
        · show i ∈ _
          rw [← q]; exact List.mem_map.mpr ⟨p, hp, rfl⟩
  · refine hk x o (fun q => ?_) (fun q => ?_) (S.own.keep x o ex)
    · rw [q, me] at ex; cases ex
    · rw [q, mi] at ex; cases ex
  · rcases List.mem_cons.mp hp with rfl | hp
    · exact me
    · rcases List.mem_cons.mp hp with rfl | hp
      · exact mi
      · exact S.own.new p (List.mem_cons_of_mem _ (List.mem_cons_of_mem _ hp))
  · obtain ⟨o, es, ep, ho, r⟩ := n
    refine ⟨⟨o, es, ep, hk L o (fun q => off ?_) (fun q => off ?_) ho, r⟩, nl, off⟩
    · rw [q]; exact List.mem_cons_self ..
    · rw [q]; exact List.mem_cons_of_mem _ (List.mem_cons_self ..)
theorem St.add {b h h₀ : Heap} {L a : Addr} {m : Str → Option Value} {T : List (Addr × Obj)} {o : Obj} (S : St b L m T h) (S₀ : ∃ m₀ T₀, St b L m₀ T₀ h₀ ∧ T₀.map (·.1) = T.map (·.1)) (ha : h.get? a = some o) (hn : a = h₀.objs.size) : St b L m ((a, o) :: T) h := by
  obtain ⟨m₀, T₀, S₀, ek⟩ := S₀
  subst hn
  refine ⟨⟨List.nodup_cons.mpr ⟨fun hm => ?_, S.own.nodup⟩, fun p hp => ?_, S.own.keep, fun p hp => ?_⟩, ?_⟩
  · rw [← ek] at hm
    obtain ⟨p, hp, e⟩ := List.mem_map.mp hm
    have := Heap.lt_size (S₀.own.get p hp)
    exact absurd this (by rw [e]; exact Nat.lt_irrefl _)
  · rcases List.mem_cons.mp hp with rfl | hp
    · exact ha
    · exact S.own.get p hp
  · rcases List.mem_cons.mp hp with rfl | hp
    · cases e : b.get? h₀.objs.size with
      | none => rfl
      | some o' => exact absurd (Heap.lt_size (S₀.own.keep _ _ e)) (Nat.lt_irrefl _)
    · exact S.own.new p hp
  · rcases S.fr with e | ⟨n, nl, off⟩
    · exact .inl e
    · by_cases h0 : L = 0
      · exact .inl h0
      · refine .inr ⟨n, nl, fun hm => ?_⟩
        rcases List.mem_cons.mp hm with e | hm
        · exact absurd (S₀.fr.resolve_left h0).1.lt (by rw [e]; exact Nat.lt_irrefl _)
        · exact off hm
section
variable {w : World} {A : Around} {E : Value → Shared → Prop} {b h : Heap} {g : Array GenState} {d : Drawn} {t : Nat} {os : OsState} {L : Addr} {m : Str → Option Value} {T T' : List (Addr × Obj)} {env : Env}
theorem St.ne2 {o1 o2 : Obj} {e i : Addr} (S : St b L m ((e, o1) :: (i, o2) :: T) h) : e ≠ i := fun q => (List.nodup_cons.mp S.own.nodup).1 (by rw [q]; exact List.mem_cons_self ..)
theorem e_next {e it l : Addr} {oi : Obj} {i : Nat} {items : Array Value} {x old : Value} {el : List Expr} {k : Nat} {ps : Pos} {Q : Value → Shared → Prop} {Qn : Option Value → Shared → Prop}
    (hh : A.handled = none) (S : St b L m ((e, enumO it i .none old) :: (it, oi) :: T) h) (hc : oi.cls = .type "tuple_iterator") (hd : oi.data = .fields #[.ref l, .int i 0])
    (ht : b.IsTuple l items) (hx : items[i]? = some x)
    (q : ∀ a tk h' t' oi', oi'.cls = .type "tuple_iterator" → oi'.data = .fields #[.ref l, .int (i + 1 : Nat) 0] → h'.IsTuple a #[.int i tk, x] →
      St b L m ((a, { cls := .type "tuple", data := .seq #[.int i tk, x] }) :: (e, enumO it (i + 1 : Nat) .none x) :: (it, oi') :: T) h' → Q (.ref a) ⟨h', g, d, t', os⟩)
    (hQn : ∀ a s₁, wpAny (model PG w) A (letOwnedTupleGo (.Tuple el k ps) (.ref e) (.ref a)) (fun _ s₂ => Q (.ref a) s₂) E s₁ → Qn (some (.ref a)) s₁) :
    wpAny (model PG w) A (pyNext (.ref e)) Qn E ⟨h, g, d, t, os⟩ := by
  have hlt : i < items.size := by
    by_cases hl : i < items.size
    · exact hl
    · rw [Array.getElem?_eq_none (by omega)] at hx; cases hx
  have hli : l ≠ it := fun q => by
    obtain ⟨o, ho, _⟩ := ht
    rw [q, S.own.new (it, oi) (List.mem_cons_of_mem _ (List.mem_cons_self ..))] at ho; cases ho
  have hle : l ≠ e := fun q => by
    obtain ⟨o, ho, _⟩ := ht
    rw [q, S.own.new (e, _) (List.mem_cons_self ..)] at ho; cases ho
  have hei := S.ne2
  refine wpAny_pyNext_enum_itemD (drawsTuple (A := A.in1) hh it l hli items) (S.get (List.mem_cons_self ..)) ⟨⟨oi, S.get (List.mem_cons_of_mem _ (List.mem_cons_self ..)), hc, hd⟩, ht.at fun o ho => S.keep _ _ ho⟩ hlt hei
    (by simp [hei, Ne.symm hle]) fun x' h' tk hx' ho hs' hT hsz hk => ?_
  have ex : x' = x := by
    have : items[i]? = some x' := hx'
    rw [hx] at this; cases this; rfl
  subst ex
  obtain ⟨⟨oi', hg', hc', hd'⟩, ht'⟩ := hs'
  have S₁ := S.two hk ho hg'
  have S₂ := S₁.add ⟨m, _, S, rfl⟩ hT rfl
  refine hQn _ _ (wpAny_letOwnedTupleGo_enum ho fun h₂ he₂ hs₂ => ?_)
  have S₃ := S₂.same (o' := enumO it (i + 1 : Nat) .none x') (Put.tail Put.head) hs₂ (by simpa using he₂)
  exact q _ _ _ _ oi' hc' hd' ⟨_, S₃.get (List.mem_cons_self ..), rfl, _, rfl⟩ S₃
theorem e_end {e it l : Addr} {oi : Obj} {i : Nat} {items : Array Value} {old : Value} {Qn : Option Value → Shared → Prop}
    (hh : A.handled = none) (S : St b L m ((e, enumO it i .none old) :: (it, oi) :: T) h) (hc : oi.cls = .type "tuple_iterator") (hd : oi.data = .fields #[.ref l, .int i 0])
    (ht : b.IsTuple l items) (hx : i = items.size)
    (q : ∀ h', St b L m T h' → Qn none ⟨h', g, d, t, os⟩) : wpAny (model PG w) A (pyNext (.ref e)) Qn E ⟨h, g, d, t, os⟩ := by
  have hli : l ≠ it := fun q => by
    obtain ⟨o, ho, _⟩ := ht
    rw [q, S.own.new (it, oi) (List.mem_cons_of_mem _ (List.mem_cons_self ..))] at ho; cases ho
  refine wpAny_pyNext_enum_endD (drawsTuple (A := A.in1) hh it l hli items) (S.get (List.mem_cons_self ..)) ⟨⟨oi, S.get (List.mem_cons_of_mem _ (List.mem_cons_self ..)), hc, hx ▸ hd⟩, ht.at fun o ho => S.keep _ _ ho⟩ fun h' hs => ?_
  exact q h' ((S.sub (List.sublist_cons_self ..)).loose hs)
end
end
section
noncomputable def tabs : List (List (Int × Str)) := [[(40960, Str.ofString "l"), (49152, Str.ofString "s"), (32768, Str.ofString "-"), (24576, Str.ofString "b"), (16384, Str.ofString "d"), (8192, Str.ofString "c"), (4096, Str.ofString "p")],
  [(256, Str.ofString "r")], [(128, Str.ofString "w")], [(2112, Str.ofString "s"), (2048, Str.ofString "S"), (64, Str.ofString "x")],
  [(32, Str.ofString "r")], [(16, Str.ofString "w")], [(1032, Str.ofString "s"), (1024, Str.ofString "S"), (8, Str.ofString "x")],
  [(4, Str.ofString "r")], [(2, Str.ofString "w")], [(513, Str.ofString "t"), (512, Str.ofString "T"), (1, Str.ofString "x")]]
noncomputable def picksFrom (v : Int) : Nat → List (List (Int × Str)) → List Str
  | _, [] => []
  | i, tab :: r => pick i v tab :: picksFrom v (i + 1) r
theorem Rows.nil {b : Heap} : Rows b (List.toArray []) [] := ⟨rfl, fun j bit ch h => by simp at h⟩
theorem Rows.cons {b : Heap} {l : List Value} {tab : List (Int × Str)} {a : Addr} {bit : Int} {ch : Str} {tb tc : Tok} (h : b.IsTuple a #[.int bit tb, .str ch tc]) (r : Rows b l.toArray tab) : Rows b (List.toArray (.ref a :: l)) ((bit, ch) :: tab) := by
  refine ⟨by have := r.1; simp at this ⊢; exact this, fun j bit' ch' e => ?_⟩
  cases j with
  | zero => simp at e; obtain ⟨rfl, rfl⟩ := e; exact ⟨a, tb, tc, by simp, h⟩
  | succ j =>
    obtain ⟨a', tb', tc', h1, h2⟩ := r.2 j bit' ch' (by simpa using e)
    exact ⟨a', tb', tc', by simpa using h1, h2⟩
noncomputable def Tabs (b : Heap) (items : Array Value) (ts : List (List (Int × Str))) : Prop :=
  items.size = ts.length ∧ ∀ (i : Nat) (tab : List (Int × Str)), ts[i]? = some tab → ∃ (ax : Addr) (its : Array Value), items[i]? = some (Value.ref ax) ∧ b.IsTuple ax its ∧ Rows b its tab
theorem Tabs.nil {b : Heap} : Tabs b (List.toArray []) [] := ⟨rfl, fun j tab h => by simp at h⟩
theorem Tabs.cons {b : Heap} {l : List Value} {ts : List (List (Int × Str))} {tab : List (Int × Str)} {ax : Addr} {its : Array Value} (h : b.IsTuple ax its) (hr : Rows b its tab) (r : Tabs b l.toArray ts) : Tabs b (List.toArray (.ref ax :: l)) (tab :: ts) := by
  refine ⟨by have := r.1; simp at this ⊢; exact this, fun j tab' e => ?_⟩
  cases j with
  | zero => simp at e; subst e; exact ⟨ax, its, by simp, h, hr⟩
  | succ j =>
    obtain ⟨a', its', h1, h2, h3⟩ := r.2 j tab' (by simpa using e)
    exact ⟨a', its', by simpa using h1, h2, h3⟩
theorem Gr.tup {w : World} {b : Heap} (G : Gr w b) {a : Addr} {its : Array Value} (e : (KF w).lookup a = some { cls := .type "tuple", data := .seq its }) : b.IsTuple a its := ⟨_, G.get e, rfl, _, rfl⟩
theorem tabs_at {w : World} {b : Heap} (G : Gr w b) : ∃ items, b.get? 97 = some { cls := .type "tuple", data := .seq items } ∧ Tabs b items tabs := by
  refine ⟨_, G.get rfl, ?_⟩
  unfold tabs
  refine Tabs.cons (G.tup rfl) (Rows.cons (G.tup rfl) (Rows.cons (G.tup rfl) (Rows.cons (G.tup rfl) (Rows.cons (G.tup rfl) (Rows.cons (G.tup rfl) (Rows.cons (G.tup rfl) (Rows.cons (G.tup rfl) Rows.nil))))))) ?_
  refine Tabs.cons (G.tup rfl) (Rows.cons (G.tup rfl) Rows.nil) ?_
  refine Tabs.cons (G.tup rfl) (Rows.cons (G.tup rfl) Rows.nil) ?_
  refine Tabs.cons (G.tup rfl) (Rows.cons (G.tup rfl) (Rows.cons (G.tup rfl) (Rows.cons (G.tup rfl) Rows.nil))) ?_
  refine Tabs.cons (G.tup rfl) (Rows.cons (G.tup rfl) Rows.nil) ?_
  refine Tabs.cons (G.tup rfl) (Rows.cons (G.tup rfl) Rows.nil) ?_
  refine Tabs.cons (G.tup rfl) (Rows.cons (G.tup rfl) (Rows.cons (G.tup rfl) (Rows.cons (G.tup rfl) Rows.nil))) ?_
  refine Tabs.cons (G.tup rfl) (Rows.cons (G.tup rfl) Rows.nil) ?_
  refine Tabs.cons (G.tup rfl) (Rows.cons (G.tup rfl) Rows.nil) ?_
  refine Tabs.cons (G.tup rfl) (Rows.cons (G.tup rfl) (Rows.cons (G.tup rfl) (Rows.cons (G.tup rfl) Rows.nil))) ?_
  exact Tabs.nil
theorem fm_outer (w : World) (A : Around) (b : Heap) (g d os) (v : Int) (tv : Tok) (p e it L : Addr) (items : Array Value) (ts : List (List (Int × Str))) (R0 : Result → Shared → Prop)
    (G : Gr w b) (hL0 : L ≠ 0) (hh : A.handled = none) (hA : A.depth + 10 < recursionLimit) (hax : b.IsTuple 97 items) (hr : Tabs b items ts)
    (hR : ∀ h' t' m' (l : List (Str × Tok)) n, l.map (·.1) = picksFrom v 0 ts → m' (Str.ofString "perm") = some (.ref p) → St b L m' [(p, lst (strValues l).toArray n)] h' → R0 (.ok .next) ⟨h', g, d, t', os⟩) (hts : ts.length ≤ 50) :
    ∀ (h : Heap) (t : Nat) (m : Str → Option Value) (oi : Obj) (old : Value) (n : Nat), m (Str.ofString "mode") = some (.int v tv) → m (Str.ofString "perm") = some (.ref p) → oi.cls = .type "tuple_iterator" → oi.data = .fields #[.ref 97, .int (0 : Nat) 0] →
    St b L m [(e, enumO it (0 : Nat) .none old), (it, oi), (p, lst #[] n)] h →
    codeAny (model PG w) A (.forLoop (forTgt fmOuter) (.ref e) (forBody fmOuter) (forElse fmOuter) (ev104 L)) R0 ⟨h, g, d, t, os⟩ := by
  suffices H : ∀ (r : List (List (Int × Str))) (i : Nat), ts.drop i = r → ∀ (h : Heap) (t : Nat) (m : Str → Option Value) (oi : Obj) (old : Value) (l : List (Str × Tok)) (n : Nat), l.length = i → i ≤ ts.length → l.map (·.1) ++ picksFrom v i r = picksFrom v 0 ts →
    m (Str.ofString "mode") = some (.int v tv) → m (Str.ofString "perm") = some (.ref p) → oi.cls = .type "tuple_iterator" → oi.data = .fields #[.ref 97, .int (i : Nat) 0] →
    St b L m [(e, enumO it (i : Nat) .none old), (it, oi), (p, lst (strValues l).toArray n)] h →
    codeAny (model PG w) A (.forLoop (forTgt fmOuter) (.ref e) (forBody fmOuter) (forElse fmOuter) (ev104 L)) R0 ⟨h, g, d, t, os⟩ by
    intro h t m oi old n h1 h2 h3 h4 S
    exact H ts 0 rfl h t m oi old [] n rfl (Nat.zero_le _) rfl h1 h2 h3 h4 S
  intro r
  induction r with
  | nil =>
    intro i hi h t m oi old l n hl hle hp hm1 hm2 hc hd S
    have hx : i = items.size := by
      have h1 := congrArg List.length hi
      rw [List.length_drop, List.length_nil] at h1
      rw [hr.1]; omega
    refine for_turn (e_end hh S hc hd hax hx fun h₁ S₁ => ?_)
    dsimp only
    conv => arg 3; arg 1; whnf
    refine wpAny_execs_nil ?_
    exact hR _ _ _ _ _ (by simpa [picksFrom] using hp) hm2 S₁
  | cons tab r ih =>
    intro i hi h t m oi old l n hl hle hp hm1 hm2 hc hd S
    have hx : ts[i]? = some tab := by rw [← List.head?_drop, hi]; rfl
    have hi' : ts.drop (i + 1) = r := by rw [← List.tail_drop, hi]; rfl
    have hlt : i < ts.length := by
      by_cases q : i < ts.length
      · exact q
      · rw [List.getElem?_eq_none (by omega)] at hx; cases hx
    obtain ⟨ax, its, hx1, hx2, hx3⟩ := hr.2 i tab hx
    refine for_turn (e_next (Q := fun vv s₁' => wpAny (model PG w) A (assign (forTgt fmOuter) (ev104 L) vv) (fun _ s₂ => wpAny (model PG w) A (execs (forBody fmOuter) (ev104 L)) (fun f s₃ => match f with
            | .next | .cont => codeAny (model PG w) A (.forLoop (forTgt fmOuter) (.ref e) (forBody fmOuter) (forElse fmOuter) (ev104 L)) R0 s₃
            | .brk => R0 (.ok .next) s₃
            | .ret v => R0 (.ok (.ret v)) s₃) (notedBy (model PG w) A (ev104 L) fun e s' => R0 (.error e) s') s₂) (notedBy (model PG w) A (ev104 L) fun e s' => R0 (.error e) s') s₁') hh S hc hd hax hx1 (fun a tk h₁ t₁ oi₁ hc₁ hd₁ ha S₁ => ?_) (fun a s₁ H => H))
    refine a_pair hh S₁ ha hL0 rfl rfl rfl rfl fun h₂ t₂ S₂ => ?_
    conv => arg 3; arg 1; whnf
    repeat (walk_at "ast")
    refine t_iter S₂ (hx2.at fun o e => S₂.keep _ _ e) fun j h₃ S₃ => ?_
    have S₄ := S₃.pick (T' := [(j, { cls := .type "tuple_iterator", data := .fields #[.ref ax, .int 0 0] }), (p, lst (strValues l).toArray n), (e, enumO it (i + 1 : Nat) .none (.ref ax)), (it, oi₁)]) (by walk_at "sub") (by walk_at "nodup")
    refine fm_inner w A b g d os v i tv tk p j ax L its tab _ _ n _ G hL0 hh hA hx2 hx3 (by simp [strValues, hl]; omega) (fun h₅ t₅ m₅ tk₅ hm₅ S₅ => ?_) h₃ _ _ _ (show FMm v i tv tk p (fun z => if z = Str.ofString "table" then some (Value.ref ax) else if z = Str.ofString "index" then some (Value.int i tk) else m z) from ⟨hm1, hm2, rfl⟩) rfl rfl S₄
    dsimp only
    repeat (walk_at "ast")
    have ev : (strValues l).toArray.push (.str (pick i v tab) tk₅) = (strValues (l ++ [(pick i v tab, tk₅)])).toArray := by simp [strValues]
    rw [ev] at S₅
    have S₆ := S₅.pick (T' := [(e, enumO it (i + 1 : Nat) .none (.ref ax)), (it, oi₁), (p, lst (strValues (l ++ [(pick i v tab, tk₅)])).toArray (n + 1))]) (by walk_at "sub") (by walk_at "nodup")
    exact ih (i + 1) hi' h₅ _ m₅ oi₁ _ _ _ (by simp [hl]) hlt (by rw [List.map_append, List.append_assoc]; exact hp) hm₅.1 hm₅.2.1 hc₁ hd₁ S₆
end
section
noncomputable def fmS (v : Int) : Str := Txt.join (Str.ofString "") (picksFrom v 0 tabs)
theorem pick_len (idx v : Int) : ∀ tab : List (Int × Str), (∀ x ∈ tab, x.2.length = 1) → (pick idx v tab).length = 1
  | [], _ => by unfold pick; split <;> rfl
  | (bit, ch) :: r, h => by
    have h1 : ch.length = 1 := h _ (List.mem_cons_self ..)
    have h2 := pick_len idx v r fun x hx => h x (List.mem_cons_of_mem _ hx)
    unfold pick
    by_cases q : (if idx = 0 then Builtin.bitAnd v 61440 = bit else Builtin.bitAnd v bit = bit)
    · rw [if_pos q]; exact h1
    · rw [if_neg q]; exact h2
theorem picks_len (v : Int) : ∀ (ts : List (List (Int × Str))) (i : Nat), (∀ tab ∈ ts, ∀ x ∈ tab, x.2.length = 1) → ∀ s ∈ picksFrom v i ts, s.length = 1
  | [], _, _, s, hs => by cases hs
  | tab :: r, i, h, s, hs => by
    rcases List.mem_cons.mp hs with rfl | hs
    · exact pick_len _ _ _ (h tab (List.mem_cons_self ..))
    · exact picks_len v r (i + 1) (fun t ht => h t (List.mem_cons_of_mem _ ht)) s hs
theorem picks_count (v : Int) : ∀ (ts : List (List (Int × Str))) (i : Nat), (picksFrom v i ts).length = ts.length
  | [], _ => rfl
  | _ :: r, i => by rw [picksFrom, List.length_cons, List.length_cons, picks_count v r (i + 1)]
theorem tabs_signs : ∀ tab ∈ tabs, ∀ x ∈ tab, x.2.length = 1 := by decide +kernel
theorem foldl_len (ss : List Str) (k : Nat) (n : Nat) (h : ∀ s ∈ ss, s.length = k) : ss.foldl (fun a s => a + s.length + (Str.ofString "").length) n = n + k * ss.length := by
  induction ss generalizing n with
  | nil => simp
  | cons s r ih =>
    rw [List.foldl_cons, ih _ fun x hx => h x (List.mem_cons_of_mem _ hx), h s (List.mem_cons_self ..), List.length_cons]
    have : (Str.ofString "").length = 0 := by decide +kernel
    rw [this, Nat.mul_succ]; omega
theorem join_ok {ss : List Str} {k : Nat} (h : ∀ s ∈ ss, s.length = k) (hk : k * ss.length ≤ 100000) : JoinOk (Str.ofString "") ss = true := by
  unfold JoinOk
  rw [Bool.not_eq_true', List.foldl_toArray, foldl_len ss k 0 h]
  unfold Builtin.Str.tooLong
  have : sizeLine = 16777216 := by decide
  rw [this]
  exact decide_eq_false (by omega)
theorem c_filemode {w : World} {A : Around} {h : Heap} {g : Array GenState} {d : Drawn} {t : Nat} {os : OsState} {v : Int} {tv : Tok} {R : Result → Shared → Prop} (G : Gr w h) (hh : A.handled = none) (hA : A.depth + 20 < recursionLimit)
    (q : ∀ h' t' tk, Kp h h' → R (.ok (.ret (.str (fmS v) tk))) ⟨h', g, d, t', os⟩) : codeAny (model PG w) A (.call (.ref 104) ⟨[.int v tv], []⟩) R ⟨h, g, d, t, os⟩ := by
  refine' enterE ev104 [(Str.ofString "mode", .int v tv)] G ?ho ?hd ?hcd ?hb ?hev (by omega) ?bind ?hcell ?hloc ?_ ?c1 ?c2 ?c3
  case ho => exact rfl
  case hd => exact rfl
  case hcd => exact rfl
  case hb => exact rfl
  case hev => intro L; rfl
  case bind => exact rfl
  case hcell => decide
  case hloc => exact locs rfl
  case c1 => exact rfl
  case c2 => exact rfl
  case c3 => exact rfl
  intro L h' t' hL0 S
  repeat (walk_at "ast")
  rename_i p h₁ S₁ h₂ t₂ S₂
  obtain ⟨items, hg, hT⟩ := tabs_at G
  refine e_make (n := 0) S₂ (S₂.keep _ _ hg) fun e it h₃ S₃ => ?_
  refine wpAny_pyIter_enum (S₃.get (List.mem_cons_self ..)) ?_
  refine fm_outer w (A.deeper (ev104 L)) h g d os v tv p e it L items tabs _ G hL0 hh (by show A.depth + 1 + 10 < _; omega) ⟨_, hg, rfl, _, rfl⟩ hT (fun h₄ t₄ m₄ l n hl hm S₄ => ?_) (by decide) h₃ _ _ _ _ 0 rfl rfl rfl rfl S₃
  dsimp only
  repeat (walk_at "ast")
  refine SC.join (l := l) ⟨_, S₄.get (List.mem_cons_self ..), rfl, _, rfl⟩ hl (join_ok (picks_len v tabs 0 tabs_signs) (by rw [picks_count]; decide)) fun tk k => ?_
  exact q _ _ _ S₄.keep
end
section
theorem f_str {w : World} {A : Around} {E : Value → Shared → Prop} {h : Heap} {g : Array GenState} {d : Drawn} {t : Nat} {os : OsState} {x : Str} {tx : Tok} {Q : Value → Shared → Prop} (hx : x.length ≤ sizeLine) (q : ∀ tk t', Q (.str x tk) ⟨h, g, d, t', os⟩) :
    wpAny (model PG w) A (formatField (.str x tx) Str.empty) Q E ⟨h, g, d, t, os⟩ := wpAny_formatField_str (s := ⟨h, g, d, t, os⟩) (q _ _) (q _ _) hx
theorem St.unhide {h h' : Heap} {L P : Addr} {m : Str → Option Value} {o : Obj} (S : St h L m [] h') (hP : h.get? P = some o) : St (hideAll h [P]) L m [(P, o)] h' := by
  refine ⟨⟨by simp, (fun p hp => by rw [List.mem_singleton.mp hp]; exact S.keep _ _ hP), (fun a o' e => S.keep _ _ (of_hideAll _ e)), (fun p hp => by rw [List.mem_singleton.mp hp]; exact hideAll_none _ (List.mem_singleton.mpr rfl))⟩, S.fr.imp id fun ⟨n, nl, _⟩ => ⟨n, ?_, fun hm => ?_⟩⟩
  · cases q : (hideAll h [P]).get? L with
    | none => rfl
    | some o' => rw [of_hideAll _ q] at nl; cases nl
  · have : L = P := by simpa using hm
    rw [this, hP] at nl; cases nl
theorem str_len (a b : Str) : (a ++ b).length = a.length + b.length := Array.size_append ..
theorem str_assoc (a b c : Str) : a ++ b ++ c = a ++ (b ++ c) := by
  show (⟨a.cps ++ b.cps ++ c.cps⟩ : Str) = ⟨a.cps ++ (b.cps ++ c.cps)⟩
  rw [Array.append_assoc]
theorem str_empty (a : Str) : Str.empty ++ a = a := by
  show (⟨#[] ++ a.cps⟩ : Str) = a
  rw [Array.empty_append]
noncomputable def sc41P : { s : Scope // s = defScope (PB.getD 3 default) } := by
  refine ⟨?s, ?h⟩
  case h => (conv => rhs; whnf)
noncomputable def sc41 : Scope := sc41P.1
noncomputable def ev41 (L : Addr) : Env := { scope := sc41, locals := L, globals := mainGlobals, cells := [], qual := Str.ofString "suffixed_err" ++ ".<locals>.", func := some 41, code := .ref 40, frame := some L, builtins := builtinsNs }
/-- suffixed_err's table of codes: empty, or coord_repr's code in it -/
noncomputable def Tab36 (h : Heap) (ps : Array Value) : Prop := ps = #[] ∨ ∃ c' oc vs tq, ps = #[rawInt 18, rawInt 4, .ref c'] ∧ c' ≠ 36 ∧ h.get? c' = some oc ∧ oc.data = .fields vs ∧ vs[1]? = some (.str (Str.ofString "suffixed_err.<locals>.coord_repr") tq)
noncomputable def defParams : Stmt → Arguments
  | .FunctionDef _ a _ _ _ _ _ _ _ _ => a
  | _ => default
noncomputable def sufDef : Stmt := (defBody (PB.getD 3 default)).getD 0 default
noncomputable abbrev coordO (doc pm : Value) (c' : Addr) (ctv : Value) : Obj := fnMade (Str.ofString "coord_repr") (Str.ofString "suffixed_err.<locals>.coord_repr") (defParams sufDef) (defBody sufDef) (defScope sufDef) [] doc pm c' ctv
theorem c_coord {w : World} {A : Around} {h : Heap} {g : Array GenState} {d : Drawn} {t : Nat} {os : OsState} {src : Str} {pos : Int} {t1 t2 : Tok} {f c' : Addr} {oc : Obj} {vs : Array Value} {tq : Tok} {doc pm ctv : Value} {R : Result → Shared → Prop} (G : Gr w h) (hA : A.depth + 20 < recursionLimit)
    (hf : h.get? f = some (coordO doc pm c' ctv)) (hoc : h.get? c' = some oc) (hd : oc.data = .fields vs) (hv : vs[1]? = some (.str (Str.ofString "suffixed_err.<locals>.coord_repr") tq)) (hpos : (src.length : Int) ≤ pos) (hs : src.length ≤ 1000)
    (q : ∀ h' t' tk, Kp h h' → R (.ok (.ret (.str (Str.ofString "end of document") tk))) ⟨h', g, d, t', os⟩) :
    codeAny (model PG w) A (.call (.ref f) ⟨[.str src t1, .int pos t2], []⟩) R ⟨h, g, d, t, os⟩ := by
  refine' enterN [(Str.ofString "src", .str src t1), (Str.ofString "pos", .int pos t2)] G hf hoc hd hv (by omega) ?bind ?hcell ?hloc ?_ ?c1 ?c2 ?c3
  case bind => exact rfl
  case hcell => decide
  case hloc => exact locs rfl
  case c1 => exact rfl
  case c2 => exact rfl
  case c3 => exact rfl
  intro L h' t' hL0 S
  conv => arg 3; arg 1; whnf
  repeat (walk_at "ast")
  refine s_len (by omega) fun t₁ tk => ?_
  repeat (walk_at "ast")
  rw [if_pos (decide_eq_true hpos)]
  repeat (walk_at "ast")
  exact q _ _ _ S.keep
theorem suf_msg {w : World} {A : Around} {E : Value → Shared → Prop} {b h : Heap} {g : Array GenState} {d : Drawn} {t : Nat} {os : OsState} {L : Addr} {m : Str → Option Value} {T : List (Addr × Obj)} {Q : Value → Shared → Prop} {src ms : Str} {pos : Int} {t1 t2 t3 : Tok} {f c' : Addr} {oc : Obj} {vs : Array Value} {tq : Tok} {doc pm ctv : Value} {p1 p2 p3 p4 p5 p6 p7 p8 p9 p10 : Pos}
    (G : Gr w b) (S : St b L m T h) (hA : A.depth + 20 < recursionLimit) (hf : h.get? f = some (coordO doc pm c' ctv)) (hoc : h.get? c' = some oc) (hd : oc.data = .fields vs) (hv : vs[1]? = some (.str (Str.ofString "suffixed_err.<locals>.coord_repr") tq)) (hpos : (src.length : Int) ≤ pos) (hs : src.length ≤ 1000) (hms : ms.length ≤ 1000)
    (m1 : m (Str.ofString "src") = some (.str src t1)) (m2 : m (Str.ofString "pos") = some (.int pos t2)) (m3 : m (Str.ofString "msg") = some (.str ms t3)) (m4 : m (Str.ofString "coord_repr") = some (.ref f)) (h0 : L ≠ 0)
    (q : ∀ h' t' tk, Kp h h' → Q (.str (ms ++ Str.ofString " (at end of document)") tk) ⟨h', g, d, t', os⟩) :
    wpAny (model PG w) A (eval (.JoinedStr [.FormattedValue (.Name (Str.ofString "msg") p1) (-1) none p2, .Constant (.str (Str.ofString " (at ")) 0 p3, .FormattedValue (.Call (.Name (Str.ofString "coord_repr") p4) [.Name (Str.ofString "src") p5, .Name (Str.ofString "pos") p6] [] p7) (-1) none p8, .Constant (.str (Str.ofString ")")) 0 p9] p10) (ev41 L)) Q E ⟨h, g, d, t, os⟩ := by
  have hsz : sizeLine = 16777216 := by decide
  refine wpAny_JoinedStr ?_
  refine wpAny_FormattedValue_plain ?_
  repeat (walk_at "ast")
  refine f_str (by omega) fun tk t₁ => ⟨_, _, rfl, ?z1, ?_⟩
  case z1 => rw [str_len, hsz]; have : Str.empty.length = 0 := rfl; omega
  refine v_str fun t₂ => ⟨_, _, rfl, ?z2, ?_⟩
  case z2 => rw [str_len, str_len, hsz]; have : Str.empty.length = 0 := rfl; have : (Str.ofString " (at ").length = 5 := by decide +kernel
             omega
  refine wpAny_FormattedValue_plain ?_
  repeat (walk_at "ast")
  refine cw_ref (o := coordO doc pm c' ctv) (fd := fnX (Str.ofString "coord_repr") (Str.ofString "suffixed_err.<locals>.coord_repr") (defParams sufDef) (defBody sufDef) (defScope sufDef) [] .none .none doc pm none (.ref c') ctv) ?_
  repeat (walk_at "ast")
  refine ⟨⟨hf, rfl⟩, wpAny_call ?_⟩
  refine c_coord (G.keeps S.keep) hA hf hoc hd hv hpos hs fun h' t₃ tk' k => ?_
  dsimp only
  refine f_str (by rw [hsz]; decide +kernel) fun tk t₁ => ⟨_, _, rfl, ?z3, ?_⟩
  case z3 => rw [str_len, str_len, str_len, hsz]; have : Str.empty.length = 0 := rfl; have : (Str.ofString " (at ").length = 5 := by decide +kernel
             have : (Str.ofString "end of document").length = 15 := by decide +kernel
             omega
  have e : Str.empty ++ ms ++ Str.ofString " (at " ++ Str.ofString "end of document" ++ Str.ofString ")" = ms ++ Str.ofString " (at end of document)" := by
    rw [str_assoc, str_assoc, str_assoc, str_empty]
    congr 1
  refine v_str fun t₂ => ⟨_, _, rfl, ?z4, ?_⟩
  case z4 => rw [e, str_len, hsz]; have : (Str.ofString " (at end of document)").length = 21 := by decide +kernel
             omega
  refine ⟨?z5, ?_⟩
  case z5 => rw [e, str_len, hsz]; have : (Str.ofString " (at end of document)").length = 21 := by decide +kernel
             omega
  rw [e]
  exact q _ _ _ k
noncomputable abbrev excO (tp : Addr) : Obj := { cls := .ref 24, data := .fields #[.ref tp, .none, .none, .none, .bool false, .none] }
noncomputable abbrev msgO (x : Str) (t : Tok) : Obj := { cls := .type "tuple", data := .seq #[.str x t] }
theorem cw_toml {w : World} {A : Around} {E : Value → Shared → Prop} {s : Shared} {pos p2 : Pos} {es : List Expr} {env : Env} {Q : Value → Shared → Prop} (hp : (backTo p2 (starEach es env)).any (·.1) = false)
    (q : wpAny (model PG w) A (evalArgs (.ref 24) true (backTo p2 (starEach es env)) []) (fun a s₁ => ∃ x t, a = ⟨[.str x t], []⟩ ∧ Gr w s₁.heap ∧
      ∀ h' e tp, Kp s₁.heap h' → s₁.heap.get? e = none → s₁.heap.get? tp = none → h'.get? e = some (excO tp) → h'.get? tp = some (msgO x t) → Q (.ref e) { s₁ with heap := h' }) E s) :
    wpAny (model PG w) A (callWith pos (.ref 24) [] (backTo p2 (starEach es env)) []) Q E s := by
  unfold callWith
  refine wpAny_bind (wpAny_holding (wpAny_mono q (fun as s₁ h₁ => ?_) fun _ _ x => x))
  obtain ⟨x, t, rfl, G, H⟩ := h₁
  obtain ⟨hh, g, d, t', os⟩ := s₁
  refine wpAny_bind (wpAny_standAt ?_)
  rw [hp]
  refine wpAny_bind (wpAny_keeperOf_exc (G.get (a := 24) rfl) ?_)
  show wpAny _ _ (call (.ref 24) [.str x t] [] >>= fun r => do holding [r] point; pure r) _ _ _
  refine wpAny_bind (wpAny_call_exc_sub (hrest := by size_fits) F.excBase_ValueError (G.get (a := 24) rfl) (mN := _) ⟨_, _, _, G.get rfl, rfl, ?_, fun _ => rfl⟩ rfl fun h' e hm => ?_)
  · intro e he
    simp only [List.mem_toArray, List.mem_cons, List.not_mem_nil, or_false] at he
    rcases he with rfl | rfl | rfl | rfl | rfl <;> exact ⟨_, _, rfl⟩
  · obtain ⟨tp, h1, h2, h3⟩ := hm.there
    exact wpAny_bind (wpAny_holding (wpAny_point (wpAny_pure (H h' e tp hm.keeps hm.new h2 h1 h3))))
/-- the table of codes after a call -/
noncomputable def TabNew (h h' : Heap) (ps ps' : Array Value) : Prop := (ps' = ps ∧ ps ≠ #[]) ∨ (ps = #[] ∧ ∃ c' oc vs tq, ps' = #[rawInt 18, rawInt 4, .ref c'] ∧ c' ≠ 36 ∧ h.get? c' = none ∧ h'.get? c' = some oc ∧ oc.data = .fields vs ∧ vs[1]? = some (.str (Str.ofString "suffixed_err.<locals>.coord_repr") tq))
theorem c_suf {w : World} {A : Around} {h : Heap} {g : Array GenState} {d : Drawn} {t : Nat} {os : OsState} {src ms : Str} {pos : Int} {t1 t2 t3 : Tok} {ps : Array Value} {R : Result → Shared → Prop} (G : Gr w (hideAll h [36])) (hA : A.depth + 30 < recursionLimit)
    (hP : h.get? 36 = some (tabObj ps)) (hps : Tab36 h ps) (hpos : (src.length : Int) ≤ pos) (hs : src.length ≤ 1000) (hm : ms.length ≤ 1000)
    (q : ∀ e tp h' t' ps' tk, Heap.ExtBut 36 h h' → h'.get? 36 = some (tabObj ps') → TabNew h h' ps ps' → h.get? e = none → h.get? tp = none → e ≠ tp → h'.get? e = some { cls := .ref 24, data := .fields #[.ref tp, .none, .none, .none, .bool false, .none] } →
      h'.get? tp = some { cls := .type "tuple", data := .seq #[.str (ms ++ Str.ofString " (at end of document)") tk] } → R (.ok (.ret (.ref e))) ⟨h', g, d, t', os⟩) :
    codeAny (model PG w) A (.call (.ref 41) ⟨[.str src t1, .int pos t2, .str ms t3], []⟩) R ⟨h, g, d, t, os⟩ := by
  have Gh : Gr w h := G.keeps fun a o e => of_hideAll _ e
  refine' enterE ev41 [(Str.ofString "src", .str src t1), (Str.ofString "pos", .int pos t2), (Str.ofString "msg", .str ms t3)] Gh ?ho ?hd ?hcd ?hb ?hev (by omega) ?bind ?hcell ?hloc ?_ ?c1 ?c2 ?c3
  case ho => exact rfl
  case hd => exact rfl
  case hcd => exact rfl
  case hb => exact rfl
  case hev => intro L; rfl
  case bind => exact rfl
  case hcell => decide
  case hloc => exact locs rfl
  case c1 => exact rfl
  case c2 => exact rfl
  case c3 => exact rfl
  intro L h' t' hL0 S0
  have S := S0.unhide hP
  clear Gh S0
  refine wpAny_execs_cons (nestDef_K rfl rfl rfl ?_)
  have fin : ∀ {f c' : Addr} {oc : Obj} {vs : Array Value} {tq : Tok} {doc pm ctv : Value} {T : List (Addr × Obj)} {h1 : Heap} {t1' : Nat} {ps' : Array Value}, St (hideAll h [36]) L (fun x => List.lookup x [(Str.ofString "src", Value.str src t1), (Str.ofString "pos", Value.int pos t2), (Str.ofString "msg", Value.str ms t3)].reverse) ((f, coordO doc pm c' ctv) :: T) h1 → (36, tabObj ps') ∈ T →
      ((hideAll h [36]).get? c' = some oc ∨ (c', oc) ∈ T) → c' ≠ 36 → oc.data = .fields vs → vs[1]? = some (.str (Str.ofString "suffixed_err.<locals>.coord_repr") tq) → (∀ h4, h4.get? c' = some oc → TabNew h h4 ps ps') →
      wpAny (model PG w) (A.deeper (ev41 L)) (storeName (ev41 L) (Str.ofString "coord_repr") (.ref f)) (fun _ s' => wpAny (model PG w) (A.deeper (ev41 L)) (execs ((defBody (PB.getD 3 default)).drop 1) (ev41 L)) (fun fl s' => R (.ok (.ret (match fl with | .ret v => v | _ => .none))) s')
        (fun e s' => wpAny (model PG w) (A.deeper (ev41 L)) (leaving (ev41 L) e) (fun _ s'' => R (.error e) s'') (fun e' s'' => R (.error e') s'') s') s') 
        (fun e s' => wpAny (model PG w) (A.deeper (ev41 L)) (leaving (ev41 L) e) (fun _ s'' => R (.error e) s'') (fun e' s'' => R (.error e') s'') s') ⟨h1, g, d, t1', os⟩ := by
    intro f c' oc vs tq doc pm ctv T h1 t1' ps' S1 hT hc hne hd hv hps'
    repeat (walk_at "ast")
    rename_i h2 t2' S2
    have hoc : h2.get? c' = some oc := hc.elim (fun e => S2.keep _ _ e) fun e => S2.get (List.mem_cons_of_mem _ e)
    conv => arg 3; arg 1; whnf
    repeat (walk_at "ast")
    refine cw_toml (by with_unfolding_all rfl) ?_
    repeat (walk_at "ast")
    refine suf_msg G S2 (by show A.depth + 1 + 20 < _; omega) (S2.get (List.mem_cons_self ..)) hoc hd hv hpos hs hm rfl rfl rfl rfl hL0 fun h3 t3 tk k3 => ?_
    repeat (walk_at "ast")
    have S3 := S2.grown k3
    refine ⟨_, _, rfl, G.keeps S3.keep, fun h4 e tp k4 n1 n2 o1 o2 => ?_⟩
    have S4 := S3.grown k4
    have up : ∀ a, h3.get? a = none → h.get? a = none := fun a ha => by
      cases q : h.get? a with
      | none => rfl
      | some o =>
        by_cases e36 : a = 36
        · subst e36; rw [S3.get (List.mem_cons_of_mem _ hT)] at ha; cases ha
        · rw [S3.keep _ _ (hideAll_get _ q (by simpa using e36))] at ha; cases ha
    refine q e tp h4 _ ps' tk (ExtBut.ofHide S4.keep) (S4.get (List.mem_cons_of_mem _ hT)) (hps' h4 (k4 _ _ (k3 _ _ hoc))) (up _ n1) (up _ n2) ?_ o1 o2
    intro e'
    rw [e'] at o1; rw [o2] at o1; cases o1
  rcases hps with rfl | ⟨c', oc, vs, tq, rfl, hne, hoc, hd, hv⟩
  · refine mk_miss (F := fun o => [(36, o)]) G S rfl rfl rfl (code36 G) (fun o' => Put.head) trivial rfl fun f c' oc vs tq ctv doc pm h1 t1' S1 hd hv => ?_
    have ne : c' ≠ 36 := by
      intro e
      subst e
      have := S1.own.nodup
      simp at this
    have nw : h.get? c' = none := by
      have := S1.own.new _ (List.mem_cons_of_mem _ (List.mem_cons_self ..))
      cases q : h.get? c' with
      | none => rfl
      | some o => rw [hideAll_get _ q (by simpa using ne)] at this; cases this
    exact fin S1 (List.mem_cons_of_mem _ (List.mem_cons_self ..)) (.inr (List.mem_cons_self ..)) ne hd hv (fun h4 k => .inr ⟨rfl, c', oc, vs, tq, rfl, ne, nw, k, hd, hv⟩)
  · refine mk_hit (cv := c') G S rfl rfl rfl (code36 G) (List.mem_cons_self ..) trivial rfl fun f ctv doc pm h1 t1' S1 => ?_
    exact fin S1 (List.mem_cons_self ..) (.inl (hideAll_get _ hoc (by simpa using hne))) hne hd hv (fun h4 k => .inl ⟨rfl, by simp⟩)
end
section
noncomputable def pk : List (Addr × Obj) → Nat → List (Addr × Obj)
  | [], _ => []
  | p :: _, 0 => [p]
  | _ :: T, n + 1 => pk T n
noncomputable def sel (T : List (Addr × Obj)) : List Nat → List (Addr × Obj)
  | [] => []
  | i :: is => pk T i ++ sel T is
theorem pk_eq : ∀ (T : List (Addr × Obj)) (n : Nat), pk T n = (T[n]?).toList
  | [], n => by simp [pk]
  | p :: T, 0 => by simp [pk]
  | p :: T, n + 1 => by simp [pk, pk_eq T n]
theorem pk_sub (T : List (Addr × Obj)) (n : Nat) {p : Addr × Obj} (h : p ∈ pk T n) : T[n]? = some p := by
  rw [pk_eq] at h; simpa using h
theorem sel_sub {T : List (Addr × Obj)} {p : Addr × Obj} : ∀ {is : List Nat}, p ∈ sel T is → ∃ i ∈ is, T[i]? = some p
  | [], h => by cases h
  | i :: is, h => by
    rcases List.mem_append.mp h with h | h
    · exact ⟨i, List.mem_cons_self .., pk_sub T i h⟩
    · obtain ⟨j, hj, e⟩ := sel_sub h
      exact ⟨j, List.mem_cons_of_mem _ hj, e⟩
theorem key_inj {T : List (Addr × Obj)} (hT : (T.map (·.1)).Nodup) {i j : Nat} {p q : Addr × Obj} (hp : T[i]? = some p) (hq : T[j]? = some q) (e : p.1 = q.1) : i = j := by
  obtain ⟨hi, rfl⟩ := List.getElem?_eq_some_iff.mp hp
  obtain ⟨hj, rfl⟩ := List.getElem?_eq_some_iff.mp hq
  have hP := List.pairwise_iff_getElem.mp hT
  rcases Nat.lt_trichotomy i j with h | h | h
  · exact absurd (by rw [List.getElem_map, List.getElem_map]; exact e) (hP i j (by simpa using hi) (by simpa using hj) h)
  · exact h
  · exact absurd (by rw [List.getElem_map, List.getElem_map]; exact e.symm) (hP j i (by simpa using hj) (by simpa using hi) h)
theorem sel_mem {T : List (Addr × Obj)} {is : List Nat} {n : Nat} {p : Addr × Obj} (h : p ∈ sel T is ++ T.drop n) : p ∈ T := by
  rcases List.mem_append.mp h with h | h
  · obtain ⟨i, _, e⟩ := sel_sub h
    exact List.mem_of_getElem? e
  · exact List.mem_of_mem_drop h
theorem sel_nodup {T : List (Addr × Obj)} (hT : (T.map (·.1)).Nodup) {n : Nat} : ∀ {is : List Nat}, is.Nodup → (∀ i ∈ is, i < n) → ((sel T is ++ T.drop n).map (·.1)).Nodup
  | [], _, _ => by
    show ((T.drop n).map _).Nodup
    exact ((List.drop_sublist n T).map _).nodup hT
  | i :: is, hn, hl => by
    have ih := sel_nodup hT (is := is) (List.nodup_cons.mp hn).2 (fun j hj => hl j (List.mem_cons_of_mem _ hj))
    show (((pk T i ++ sel T is) ++ T.drop n).map _).Nodup
    rw [pk_eq]
    cases e : T[i]? with
    | none => exact ih
    | some p =>
      show (p.1 :: ((sel T is ++ T.drop n).map _)).Nodup
      refine List.nodup_cons.mpr ⟨fun hm => ?_, ih⟩
      obtain ⟨q, hq, e'⟩ := List.mem_map.mp hm
      rcases List.mem_append.mp hq with hq | hq
      · obtain ⟨j, hj, ej⟩ := sel_sub hq
        have := key_inj hT e ej e'.symm
        exact (List.nodup_cons.mp hn).1 (this ▸ hj)
      · obtain ⟨j, hj, rfl⟩ := List.mem_iff_getElem.mp hq
        rw [List.getElem_drop] at e'
        have := key_inj hT e (List.getElem?_eq_getElem (by simp at hj; omega)) e'.symm
        have := hl i (List.mem_cons_self ..)
        omega
noncomputable def selOk (n : Nat) (is : List Nat) : Bool := decide is.Nodup && is.all fun i => Nat.blt i n
/-- entries of the ledger by their places (the first n are named; what stands behind is kept) -/
theorem Own.sel {b h : Heap} {T T' : List (Addr × Obj)} (S : Own b T h) (n : Nat) (is : List Nat) (hk : selOk n is = true) (e : Mine.sel T is ++ T.drop n = T') : Own b T' h := by
  subst e
  have hk' := Bool.and_eq_true_iff.mp hk
  exact ⟨sel_nodup S.nodup (of_decide_eq_true hk'.1) (fun i hi => Nat.le_of_ble_eq_true (List.all_eq_true.mp hk'.2 i hi)), fun p hp => S.get p (sel_mem hp), S.keep, fun p hp => S.new p (sel_mem hp)⟩
theorem St.sel {b h : Heap} {L : Addr} {m : Str → Option Value} {T T' : List (Addr × Obj)} (S : St b L m T h) (n : Nat) (is : List Nat) (hk : selOk n is = true) (e : Mine.sel T is ++ T.drop n = T') : St b L m T' h := by
  refine ⟨S.own.sel n is hk e, S.fr.imp id fun ⟨x, nl, off⟩ => ⟨x, nl, fun hm => off ?_⟩⟩
  subst e
  obtain ⟨p, hp, e⟩ := List.mem_map.mp hm
  exact List.mem_map.mpr ⟨p, sel_mem hp, e⟩
theorem Own.perm {b h : Heap} {T T' : List (Addr × Obj)} (O : Own b T h) (p : T.Perm T') : Own b T' h :=
  ⟨(p.map (·.1)).nodup_iff.mp O.nodup, fun x hx => O.get x (p.mem_iff.mpr hx), O.keep, fun x hx => O.new x (p.mem_iff.mpr hx)⟩
end
section
section
variable {w : World} {A : Around} {E : Value → Shared → Prop} {b h : Heap} {g : Array GenState} {d : Drawn} {t : Nat} {os : OsState} {c P : Addr} {T : List (Addr × Obj)} {env : Env} {Q : Value → Shared → Prop}
  {name qual : Str} {params : Arguments} {body : List Stmt} {scope : Scope} {ps : Array Value} {pos : Pos} {firstLine : Nat} {clos : List (Str × Addr)}
theorem Own.st {b h : Heap} {T : List (Addr × Obj)} (O : Own b T h) : St b 0 (fun _ => none) T h := ⟨O, .inl rfl⟩
theorem mk_missO {F : Obj → List (Addr × Obj)} {l : List Value} (G : Gr w b) (O : Own b T h) (hcl : closureFor scope env = pure clos) (hge : env.globals = mainGlobals) (hcode : env.code = .ref c) (C : CodeHd h c P) (hp : ∀ o', Put P (tabObj l.toArray) o' T (F o')) (ht : TriplesOk l) (hnf : codeAmong pos l = none)
    (q : ∀ f c' oc vs tq ctv doc pm h' t', Own b ((f, fnMade name qual params body scope clos doc pm c' ctv) :: (c', oc) :: F (tabObj (l ++ [rawInt pos.line, rawInt pos.col, .ref c']).toArray)) h' → oc.data = .fields vs → vs[1]? = some (.str qual tq) → Q (.ref f) ⟨h', g, d, t', os⟩) :
    wpAny (model PG w) A (makeFunction name qual params (.stmts body) scope env [] [] [] pos firstLine) Q E ⟨h, g, d, t, os⟩ := by
  have S := O.st
  have hP := S.get (hp default).old
  obtain ⟨mg, n, n1, n2⟩ := G.ns S.keep hP
  refine makeFunction_K (s := ⟨h, g, d, t, os⟩) (mg := mg) hcl hge n hcode C hP (by simpa using ht) (by simpa using hnf) n1 n2 fun c' ctv doc h' tk hx hge hlt hrec htb => ?_
  obtain ⟨c₂, oc, vs, tq, e2, hoc, hd, hv⟩ := hrec
  cases e2
  have e : (l.toArray ++ #[rawInt pos.line, rawInt pos.col, .ref c']) = (l ++ [rawInt pos.line, rawInt pos.col, .ref c']).toArray := by simp
  rw [e] at htb
  have S₁ := S.upd (hp _) hx htb
  have S₂ := S.adopt S₁ ((hp _).keys) (Heap.get?_none_of_le hge) hoc
  exact q _ c' oc vs tq ctv doc _ _ _ (S₂.push _ rfl).own hd hv
end
noncomputable def clsBody : List Stmt := (clsOf ((defBody (PB.getD 5 default)).getD 0 default)).2.1
noncomputable abbrev envK (nsA L c : Addr) (C : Addr) (fr : Addr) : Env := cEnv scK nsA (ev48 L c) (Str.ofString "cmp_to_key.<locals>.K") (.ref C) fr builtinsNs [(Str.ofString "mycmp", c)]
noncomputable abbrev nsO (es : List DictEntry) (n : Nat) : Obj := { cls := .type "dict", data := .dict es.toArray n }
noncomputable abbrev ent (H : Int) (x : Str) (t : Tok) (v : Value) : DictEntry := ⟨H, .str x t, v⟩
theorem k_head {w : World} {A : Around} {b h : Heap} {T : List (Addr × Obj)} {g : Array GenState} {d : Drawn} {t : Nat} {os : OsState} {L c nsA C fr : Addr} {E : Value → Shared → Prop} {Q : Unit → Shared → Prop} (G : Gr w b) (O : Own b ((nsA, nsO [] 0) :: T) h)
    (q : ∀ h' t' H1 H2 H3 t1 t2 t3 u1 u2 u3, Own b ((nsA, nsO [ent H1 (Str.ofString "__module__") t1 (.str (Str.ofString "law_oy0135_01") u1), ent H2 (Str.ofString "__qualname__") t2 (.str (Str.ofString "cmp_to_key.<locals>.K") u2), ent H3 (Str.ofString "__firstlineno__") t3 (.int 31 u3)] 3) :: T) h' → Q () ⟨h', g, d, t', os⟩) :
   wpAny (model PG w) A (do
                let x ← loadName (envK nsA L c C fr) (Str.ofString "__name__")
                storeName (envK nsA L c C fr) (Str.ofString "__module__") x
                let x ← mkText (Str.ofString "cmp_to_key.<locals>.K")
                storeName (envK nsA L c C fr) (Str.ofString "__qualname__") x
                let x ← mkInt (31 : Int)
                storeName (envK nsA L c C fr) (Str.ofString "__firstlineno__") x
                pure ()) Q E ⟨h, g, d, t, os⟩ := by
  have hB := BI.of_gr G
  repeat (walk_at "rz")
  refine' q _ _ _ _ _ _ _ _ _ _ _ ?z
  case z => assumption
theorem code_body {prog : Program} {w : World} {A : Around} {s : Shared} {stmts : List Stmt} {env : Env} {R : Result → Shared → Prop} (hb : blockStart stmts env = pure ())
    (q : wpAny (model prog w) (A.under (.body stmts env)) (execs stmts env) (fun f s' => R (.ok f) s') (fun _ _ => False) s) : codeAny (model prog w) A (.body stmts env) R s := by
  refine codeAny_of_tree ?_
  show wpAny _ _ (do blockStart stmts env; return PySem.Fin.done (← (execs stmts env).onRaise (leaving env))) _ _ _
  rw [hb]
  refine wpAny_bind (wpAny_pure (wpAny_bind (wpAny_onRaise (wpAny_mono q (fun f s' h' => wpAny_pure h') fun _ _ e => e.elim))))
theorem lf_cset {w : World} {A : Around} {b h : Heap} {T : List (Addr × Obj)} {T' : Int → Tok → List (Addr × Obj)} {g : Array GenState} {d : Drawn} {t : Nat} {os : OsState} {env : Env} {nsA : Addr} {x : Str} {v : Value} {es : List DictEntry} {n : Nat} {E : Value → Shared → Prop} {Q : Unit → Shared → Prop}
    (es' : Int → Tok → List DictEntry) (n' : Nat) (O : Own b T h) (hp : ∀ H tk, Put nsA (nsO es n) (nsO (es' H tk) n') T (T' H tk)) (he : ∀ H tk, Obj.putName x H (.str x tk) v (nsO es n) = nsO (es' H tk) n') (hs : storeName env x v = localSet env x v) (hl : env.locals = nsA) (hr : aRefKeyMayBeTheName x es.toArray = false)
    (q : ∀ h' t' H tk, Own b (T' H tk) h' → Q () ⟨h', g, d, t', os⟩) : wpAny (model PG w) A (storeName env x v) Q E ⟨h, g, d, t, os⟩ := by
  have hm := (hp 0 0).old
  have hg := O.get _ hm
  rw [hs]
  subst hl
  unfold localSet
  refine wpAny_bind (wpAny_load (s := ⟨h, g, d, t, os⟩) hg ?_)
  rw [if_pos (show (Value.type "dict" == Value.type "dict") = true from by decide)]
  unfold nsSet
  refine wpAny_bind ?_
  repeat (walk_at "ry")
  refine wpAny_bind ?_
  repeat (walk_at "ry")
  show wpAny _ _ (if aRefKeyMayBeTheName x es.toArray = true then _ else _) _ _ _
  rw [hr, if_neg (by decide)]
  exact o_update (f := Obj.putName x _ (.str x _) v) O (by rw [he]; exact hp _ _) (fun h' O' => r_pure (q h' _ _ _ O')) (by rw [he]; rfl)
noncomputable def defName : Stmt → Str
  | .FunctionDef n _ _ _ _ _ _ _ _ _ => n
  | _ => default
noncomputable abbrev kDef (i : Nat) : Stmt := clsBody.getD (i + 2) default
noncomputable abbrev mth (i : Nat) (clos : List (Str × Addr)) (doc pm : Value) (c' : Addr) (ctv : Value) : Obj := fnMade (defName (kDef i)) (Str.ofString "cmp_to_key.<locals>.K." ++ defName (kDef i)) (defParams (kDef i)) (defBody (kDef i)) (defScope (kDef i)) clos doc pm c' ctv
/-- a function's code record -/
noncomputable def CodeNm (oc : Obj) (x : Str) : Prop := ∃ vs tq, oc.data = .fields vs ∧ vs[1]? = some (.str x tq)
theorem k_body {w : World} {A : Around} {b h : Heap} {T : List (Addr × Obj)} {g : Array GenState} {d : Drawn} {t : Nat} {os : OsState} {L c nsA C P fr : Addr} {oc : Obj} {E : Value → Shared → Prop} {Q : Flow → Shared → Prop} {H1 H2 H3 : Int} {t1 t2 t3 u1 u2 u3 : Tok} (G : Gr w b) (X : CodeOk oc C P)
    (O : Own b ((nsA, nsO [ent H1 (Str.ofString "__module__") t1 (.str (Str.ofString "law_oy0135_01") u1), ent H2 (Str.ofString "__qualname__") t2 (.str (Str.ofString "cmp_to_key.<locals>.K") u2), ent H3 (Str.ofString "__firstlineno__") t3 (.int 31 u3)] 3) :: (P, tabObj [].toArray) :: (C, oc) :: T) h)
    (q : ∀ h' t' H1 H2 H3 H4 H5 H6 H7 H8 H9 H10 H11 t1 t2 t3 t4 t5 t6 t7 t8 t9 t10 t11 u1 u2 u3 u4 sl f0 c0 d0 p0 v0 f1 c1 d1 p1 v1 f2 c2 d2 p2 v2 f3 c3 d3 p3 v3 f4 c4 d4 p4 v4 f5 c5 d5 p5 v5 oc0 oc1, CodeNm oc0 (Str.ofString "cmp_to_key.<locals>.K.__init__") → CodeNm oc1 (Str.ofString "cmp_to_key.<locals>.K.__lt__") →
      Own b ((nsA, nsO [ent H1 (Str.ofString "__module__") t1 (.str (Str.ofString "cpy313.functools") u1), ent H2 (Str.ofString "__qualname__") t2 (.str (Str.ofString "cmp_to_key.<locals>.K") u2), ent H3 (Str.ofString "__firstlineno__") t3 (.int 31 u3), ent H4 (Str.ofString "__slots__") t4 (.ref sl), ent H5 (Str.ofString "__init__") t5 (.ref f0), ent H6 (Str.ofString "__lt__") t6 (.ref f1), ent H7 (Str.ofString "__gt__") t7 (.ref f2), ent H8 (Str.ofString "__eq__") t8 (.ref f3), ent H9 (Str.ofString "__le__") t9 (.ref f4), ent H10 (Str.ofString "__ge__") t10 (.ref f5), ent H11 (Str.ofString "__hash__") t11 .none] 11) :: (f0, mth 0 [] d0 p0 c0 v0) :: (c0, oc0) :: (f1, mth 1 [(Str.ofString "mycmp", c)] d1 p1 c1 v1) :: (c1, oc1) :: (f2, mth 2 [(Str.ofString "mycmp", c)] d2 p2 c2 v2) :: (f3, mth 3 [(Str.ofString "mycmp", c)] d3 p3 c3 v3) :: (f4, mth 4 [(Str.ofString "mycmp", c)] d4 p4 c4 v4) :: (f5, mth 5 [(Str.ofString "mycmp", c)] d5 p5 c5 v5) :: (sl, lst #[.str (Str.ofString "obj") u4] 0) :: T) h' → Q .next ⟨h', g, d, t', os⟩) :
    wpAny (model PG w) A (run (.body clsBody (envK nsA L c C fr))) Q E ⟨h, g, d, t, os⟩ := by
  have hB := BI.of_gr G
  unfold clsBody
  repeat (walk_at "ry")
  refine code_body (by with_unfolding_all rfl) ?_
  conv => arg 3; arg 1; whnf
  refine wpAny_execs_cons ?_
  refine wpAny_Assign_Name (v_str fun t' => ?_) (by with_unfolding_all rfl)
  refine lf_cset (nsA := nsA) (fun _H _tk => [ent H1 (Str.ofString "__module__") t1 (.str (Str.ofString "cpy313.functools") t), ent H2 (Str.ofString "__qualname__") t2 (.str (Str.ofString "cmp_to_key.<locals>.K") u2), ent H3 (Str.ofString "__firstlineno__") t3 (.int 31 u3)]) 3 O (fun _H _tk => by walk_at "put") (fun _H _tk => by kernel_rfl) (by kernel_rfl) rfl (by kernel_rfl) fun h' t' _H _tk O => ?_
  try dsimp only
  refine wpAny_execs_cons ?_
  refine wpAny_Assign_Name (PyProof.Rows.List_ ?_) (by with_unfolding_all rfl)
  refine args_cons (v_str fun t' => args_nil ?_) (by with_unfolding_all rfl)
  refine l_new O.st (Nat.le_of_ble_eq_true rfl) fun sl h' S => ?_
  have O := S.own
  refine lf_cset (nsA := nsA) (fun H4 t4 => [ent H1 (Str.ofString "__module__") t1 (.str (Str.ofString "cpy313.functools") t), ent H2 (Str.ofString "__qualname__") t2 (.str (Str.ofString "cmp_to_key.<locals>.K") u2), ent H3 (Str.ofString "__firstlineno__") t3 (.int 31 u3), ent H4 (Str.ofString "__slots__") t4 (.ref sl)]) 4 O (fun H4 t4 => by walk_at "put") (fun H4 t4 => by kernel_rfl) (by kernel_rfl) rfl (by kernel_rfl) fun h' t' H4 t4 O => ?_
  try dsimp only
  refine wpAny_execs_cons (nestDef_K rfl rfl rfl ?_)
  refine mk_missO G O (by with_unfolding_all rfl) rfl rfl (X.hd (O.get (C, oc) (by walk_at "mem"))) (fun o' => by walk_at "put") ?tr (by kernel_rfl) fun f0 c0 oc0 vs0 tq0 ctv0 doc0 pm0 h' t' O e0 d0 => ?_
  case tr => trivial
  try dsimp only
  simp only [List.cons_append, List.nil_append] at O
  refine lf_cset (nsA := nsA) (fun H5 t5 => [ent H1 (Str.ofString "__module__") t1 (.str (Str.ofString "cpy313.functools") t), ent H2 (Str.ofString "__qualname__") t2 (.str (Str.ofString "cmp_to_key.<locals>.K") u2), ent H3 (Str.ofString "__firstlineno__") t3 (.int 31 u3), ent H4 (Str.ofString "__slots__") t4 (.ref sl), ent H5 (Str.ofString "__init__") t5 (.ref f0)]) 5 O (fun H5 t5 => by walk_at "put") (fun H5 t5 => by kernel_rfl) (by kernel_rfl) rfl (by kernel_rfl) fun h' t' H5 t5 O => ?_
  try dsimp only
  refine wpAny_execs_cons (nestDef_K rfl rfl rfl ?_)
  refine mk_missO G O (by with_unfolding_all rfl) rfl rfl (X.hd (O.get (C, oc) (by walk_at "mem"))) (fun o' => by walk_at "put") ?tr (by kernel_rfl) fun f1 c1 oc1 vs1 tq1 ctv1 doc1 pm1 h' t' O e1 d1 => ?_
  case tr => trivial
  try dsimp only
  simp only [List.cons_append, List.nil_append] at O
  refine lf_cset (nsA := nsA) (fun H6 t6 => [ent H1 (Str.ofString "__module__") t1 (.str (Str.ofString "cpy313.functools") t), ent H2 (Str.ofString "__qualname__") t2 (.str (Str.ofString "cmp_to_key.<locals>.K") u2), ent H3 (Str.ofString "__firstlineno__") t3 (.int 31 u3), ent H4 (Str.ofString "__slots__") t4 (.ref sl), ent H5 (Str.ofString "__init__") t5 (.ref f0), ent H6 (Str.ofString "__lt__") t6 (.ref f1)]) 6 O (fun H6 t6 => by walk_at "put") (fun H6 t6 => by kernel_rfl) (by kernel_rfl) rfl (by kernel_rfl) fun h' t' H6 t6 O => ?_
  try dsimp only
  refine wpAny_execs_cons (nestDef_K rfl rfl rfl ?_)
  refine mk_missO G O (by with_unfolding_all rfl) rfl rfl (X.hd (O.get (C, oc) (by walk_at "mem"))) (fun o' => by walk_at "put") ?tr (by kernel_rfl) fun f2 c2 oc2 vs2 tq2 ctv2 doc2 pm2 h' t' O e2 d2 => ?_
  case tr => trivial
  try dsimp only
  simp only [List.cons_append, List.nil_append] at O
  refine lf_cset (nsA := nsA) (fun H7 t7 => [ent H1 (Str.ofString "__module__") t1 (.str (Str.ofString "cpy313.functools") t), ent H2 (Str.ofString "__qualname__") t2 (.str (Str.ofString "cmp_to_key.<locals>.K") u2), ent H3 (Str.ofString "__firstlineno__") t3 (.int 31 u3), ent H4 (Str.ofString "__slots__") t4 (.ref sl), ent H5 (Str.ofString "__init__") t5 (.ref f0), ent H6 (Str.ofString "__lt__") t6 (.ref f1), ent H7 (Str.ofString "__gt__") t7 (.ref f2)]) 7 O (fun H7 t7 => by walk_at "put") (fun H7 t7 => by kernel_rfl) (by kernel_rfl) rfl (by kernel_rfl) fun h' t' H7 t7 O => ?_
  try dsimp only
  refine wpAny_execs_cons (nestDef_K rfl rfl rfl ?_)
  refine mk_missO G O (by with_unfolding_all rfl) rfl rfl (X.hd (O.get (C, oc) (by walk_at "mem"))) (fun o' => by walk_at "put") ?tr (by kernel_rfl) fun f3 c3 oc3 vs3 tq3 ctv3 doc3 pm3 h' t' O e3 d3 => ?_
  case tr => trivial
  try dsimp only
  simp only [List.cons_append, List.nil_append] at O
  refine lf_cset (nsA := nsA) (fun H8 t8 => [ent H1 (Str.ofString "__module__") t1 (.str (Str.ofString "cpy313.functools") t), ent H2 (Str.ofString "__qualname__") t2 (.str (Str.ofString "cmp_to_key.<locals>.K") u2), ent H3 (Str.ofString "__firstlineno__") t3 (.int 31 u3), ent H4 (Str.ofString "__slots__") t4 (.ref sl), ent H5 (Str.ofString "__init__") t5 (.ref f0), ent H6 (Str.ofString "__lt__") t6 (.ref f1), ent H7 (Str.ofString "__gt__") t7 (.ref f2), ent H8 (Str.ofString "__eq__") t8 (.ref f3)]) 8 O (fun H8 t8 => by walk_at "put") (fun H8 t8 => by kernel_rfl) (by kernel_rfl) rfl (by kernel_rfl) fun h' t' H8 t8 O => ?_
  try dsimp only
  refine wpAny_execs_cons (nestDef_K rfl rfl rfl ?_)
  refine mk_missO G O (by with_unfolding_all rfl) rfl rfl (X.hd (O.get (C, oc) (by walk_at "mem"))) (fun o' => by walk_at "put") ?tr (by kernel_rfl) fun f4 c4 oc4 vs4 tq4 ctv4 doc4 pm4 h' t' O e4 d4 => ?_
  case tr => trivial
  try dsimp only
  simp only [List.cons_append, List.nil_append] at O
  refine lf_cset (nsA := nsA) (fun H9 t9 => [ent H1 (Str.ofString "__module__") t1 (.str (Str.ofString "cpy313.functools") t), ent H2 (Str.ofString "__qualname__") t2 (.str (Str.ofString "cmp_to_key.<locals>.K") u2), ent H3 (Str.ofString "__firstlineno__") t3 (.int 31 u3), ent H4 (Str.ofString "__slots__") t4 (.ref sl), ent H5 (Str.ofString "__init__") t5 (.ref f0), ent H6 (Str.ofString "__lt__") t6 (.ref f1), ent H7 (Str.ofString "__gt__") t7 (.ref f2), ent H8 (Str.ofString "__eq__") t8 (.ref f3), ent H9 (Str.ofString "__le__") t9 (.ref f4)]) 9 O (fun H9 t9 => by walk_at "put") (fun H9 t9 => by kernel_rfl) (by kernel_rfl) rfl (by kernel_rfl) fun h' t' H9 t9 O => ?_
  try dsimp only
  refine wpAny_execs_cons (nestDef_K rfl rfl rfl ?_)
  refine mk_missO G O (by with_unfolding_all rfl) rfl rfl (X.hd (O.get (C, oc) (by walk_at "mem"))) (fun o' => by walk_at "put") ?tr (by kernel_rfl) fun f5 c5 oc5 vs5 tq5 ctv5 doc5 pm5 h' t' O e5 d5 => ?_
  case tr => trivial
  try dsimp only
  simp only [List.cons_append, List.nil_append] at O
  refine lf_cset (nsA := nsA) (fun H10 t10 => [ent H1 (Str.ofString "__module__") t1 (.str (Str.ofString "cpy313.functools") t), ent H2 (Str.ofString "__qualname__") t2 (.str (Str.ofString "cmp_to_key.<locals>.K") u2), ent H3 (Str.ofString "__firstlineno__") t3 (.int 31 u3), ent H4 (Str.ofString "__slots__") t4 (.ref sl), ent H5 (Str.ofString "__init__") t5 (.ref f0), ent H6 (Str.ofString "__lt__") t6 (.ref f1), ent H7 (Str.ofString "__gt__") t7 (.ref f2), ent H8 (Str.ofString "__eq__") t8 (.ref f3), ent H9 (Str.ofString "__le__") t9 (.ref f4), ent H10 (Str.ofString "__ge__") t10 (.ref f5)]) 10 O (fun H10 t10 => by walk_at "put") (fun H10 t10 => by kernel_rfl) (by kernel_rfl) rfl (by kernel_rfl) fun h' t' H10 t10 O => ?_
  try dsimp only
  refine wpAny_execs_cons ?_
  refine wpAny_Assign_Name (wpAny_Constant_none ?_) (by with_unfolding_all rfl)
  refine lf_cset (nsA := nsA) (fun H11 t11 => [ent H1 (Str.ofString "__module__") t1 (.str (Str.ofString "cpy313.functools") t), ent H2 (Str.ofString "__qualname__") t2 (.str (Str.ofString "cmp_to_key.<locals>.K") u2), ent H3 (Str.ofString "__firstlineno__") t3 (.int 31 u3), ent H4 (Str.ofString "__slots__") t4 (.ref sl), ent H5 (Str.ofString "__init__") t5 (.ref f0), ent H6 (Str.ofString "__lt__") t6 (.ref f1), ent H7 (Str.ofString "__gt__") t7 (.ref f2), ent H8 (Str.ofString "__eq__") t8 (.ref f3), ent H9 (Str.ofString "__le__") t9 (.ref f4), ent H10 (Str.ofString "__ge__") t10 (.ref f5), ent H11 (Str.ofString "__hash__") t11 .none]) 11 O (fun H11 t11 => by walk_at "put") (fun H11 t11 => by kernel_rfl) (by kernel_rfl) rfl (by kernel_rfl) fun h' t' H11 t11 O => ?_
  try dsimp only
  refine wpAny_execs_nil ?_
  refine r_pure ?_
  refine' q _ _ H1 H2 H3 H4 H5 H6 H7 H8 H9 H10 H11 t1 t2 t3 t4 t5 t6 t7 t8 t9 t10 t11 _ u2 u3 _ sl f0 c0 doc0 pm0 ctv0 f1 c1 doc1 pm1 ctv1 f2 c2 doc2 pm2 ctv2 f3 c3 doc3 pm3 ctv3 f4 c4 doc4 pm4 ctv4 f5 c5 doc5 pm5 ctv5 oc0 oc1 ?n0 ?n1 ?led
  case led =>
    refine Own.sel O 16 [13, 10, 11, 8, 9, 6, 4, 2, 0, 12] (by decide +kernel) ?_
    show [_, _, _, _, _, _, _, _, _, _] ++ T = _
    rfl
  case n0 => exact ⟨_, _, e0, d0⟩
  case n1 => exact ⟨_, _, e1, d1⟩
end
section
theorem k_tail {w : World} {A : Around} {b h : Heap} {T : List (Addr × Obj)} {g : Array GenState} {d : Drawn} {t : Nat} {os : OsState} {L C fr : Addr} {E : Value → Shared → Prop} {Q : Unit → Shared → Prop} {H1 H2 H3 H4 H5 H6 H7 H8 H9 H10 H11 : Int} {t1 t2 t3 t4 t5 t6 t7 t8 t9 t10 t11 u1 u2 u3 u4 : Tok} {nsA sl f0 c0 f1 c1 f2 c2 f3 c3 f4 c4 f5 c5 c : Addr} {d0 p0 v0 d1 p1 v1 d2 p2 v2 d3 p3 v3 d4 p4 v4 d5 p5 v5 : Value} {oc0 oc1 : Obj} (G : Gr w b)
    (O : Own b ((nsA, nsO [ent H1 (Str.ofString "__module__") t1 (.str (Str.ofString "cpy313.functools") u1), ent H2 (Str.ofString "__qualname__") t2 (.str (Str.ofString "cmp_to_key.<locals>.K") u2), ent H3 (Str.ofString "__firstlineno__") t3 (.int 31 u3), ent H4 (Str.ofString "__slots__") t4 (.ref sl), ent H5 (Str.ofString "__init__") t5 (.ref f0), ent H6 (Str.ofString "__lt__") t6 (.ref f1), ent H7 (Str.ofString "__gt__") t7 (.ref f2), ent H8 (Str.ofString "__eq__") t8 (.ref f3), ent H9 (Str.ofString "__le__") t9 (.ref f4), ent H10 (Str.ofString "__ge__") t10 (.ref f5), ent H11 (Str.ofString "__hash__") t11 .none] 11) :: (f0, mth 0 [] d0 p0 c0 v0) :: (c0, oc0) :: (f1, mth 1 [(Str.ofString "mycmp", c)] d1 p1 c1 v1) :: (c1, oc1) :: (f2, mth 2 [(Str.ofString "mycmp", c)] d2 p2 c2 v2) :: (f3, mth 3 [(Str.ofString "mycmp", c)] d3 p3 c3 v3) :: (f4, mth 4 [(Str.ofString "mycmp", c)] d4 p4 c4 v4) :: (f5, mth 5 [(Str.ofString "mycmp", c)] d5 p5 c5 v5) :: (sl, lst #[.str (Str.ofString "obj") u4] 0) :: T) h)
    (q : ∀ h' t' sa H12 t12 u5, Own b ((sa, { cls := .type "tuple", data := .seq #[.str (Str.ofString "obj") u5] }) :: (nsA, nsO [ent H1 (Str.ofString "__module__") t1 (.str (Str.ofString "cpy313.functools") u1), ent H2 (Str.ofString "__qualname__") t2 (.str (Str.ofString "cmp_to_key.<locals>.K") u2), ent H3 (Str.ofString "__firstlineno__") t3 (.int 31 u3), ent H4 (Str.ofString "__slots__") t4 (.ref sl), ent H5 (Str.ofString "__init__") t5 (.ref f0), ent H6 (Str.ofString "__lt__") t6 (.ref f1), ent H7 (Str.ofString "__gt__") t7 (.ref f2), ent H8 (Str.ofString "__eq__") t8 (.ref f3), ent H9 (Str.ofString "__le__") t9 (.ref f4), ent H10 (Str.ofString "__ge__") t10 (.ref f5), ent H11 (Str.ofString "__hash__") t11 .none, ent H12 (Str.ofString "__static_attributes__") t12 (.ref sa)] 12) :: (f0, mth 0 [] d0 p0 c0 v0) :: (c0, oc0) :: (f1, mth 1 [(Str.ofString "mycmp", c)] d1 p1 c1 v1) :: (c1, oc1) :: (f2, mth 2 [(Str.ofString "mycmp", c)] d2 p2 c2 v2) :: (f3, mth 3 [(Str.ofString "mycmp", c)] d3 p3 c3 v3) :: (f4, mth 4 [(Str.ofString "mycmp", c)] d4 p4 c4 v4) :: (f5, mth 5 [(Str.ofString "mycmp", c)] d5 p5 c5 v5) :: (sl, lst #[.str (Str.ofString "obj") u4] 0) :: T) h' → Q () ⟨h', g, d, t', os⟩) :
    wpAny (model PG w) A (do
                  let x ← List.mapM mkText (clsOf ((defBody (PB.getD 5 default)).getD 0 default)).2.2.2
                  let x ← newTextTuple x
                  storeName (envK nsA L c C fr) (Str.ofString "__static_attributes__") x
                  pure ()) Q E ⟨h, g, d, t, os⟩ := by
  have hB := BI.of_gr G
  repeat (walk_at "ry")
  refine' q _ _ _ _ _ _ ?z
  case z => assumption
end
section
theorem mro_super : mroOf (.type "super") = pure [.type "super", .type "object"] := by rw [mroOf_type]; kernel_rfl
theorem mb_super : Bind.madeBy (.type "super") = pure (some "super.__new__") := madeBy_type mro_super (by rw [typeLookup_type, builtinLookup_eq_fast]; kernel_rfl) (by decide +kernel)
theorem nc_super (a b : Value) : checkBuiltinCall "super.__new__" ⟨[.type "super", a, b], []⟩ = pure () := (congrFun (congrFun PySem.W.Fast.te10254737850608025244 _) _).trans (by kernel_rfl)
theorem c_callB {prog : Program} {w : World} {A : Around} {s : Shared} {id : String} {args : Args} {R : Result → Shared → Prop} (hc : checkBuiltinCall id args = pure ()) (hq : id.startsWith "lifetime." = false) (h : codeAny (model prog w) A (.builtin id args) R s) : codeAny (model prog w) A (.call (.builtin id) args) R s := by
  refine codeAny_of_tree ?_
  show wpAny _ _ (do checkBuiltinCall id args; again (.builtin id args)) _ _ s
  rw [hc]
  exact wpAny_bind (wpAny_pure (wpAny_pure ⟨q_builtin hq, h⟩))
noncomputable abbrev clsC (cd : ClassData) (sl : List (Option Value)) : Obj := { cls := .type "type", data := .cls cd, slots := sl.toArray }
section
variable {w : World} {A : Around} {b h : Heap} {T T' : List (Addr × Obj)} {g : Array GenState} {d : Drawn} {t : Nat} {os : OsState} {E : Value → Shared → Prop} {a ns : Addr} {cd cd' : ClassData} {sl sl' : List (Option Value)} {v x0 x1 x2 x3 x4 : Option Value} {x : Str} {es es' : List DictEntry} {n : Nat}
theorem lf_setSlot {Q : Unit → Shared → Prop} (i : Nat) (O : Own b T h) (hp : Put a (clsC cd sl) (clsC cd sl') T T') (hi : i < 100) (he : (sl.toArray ++ Array.replicate (i + 1 - sl.toArray.size) none).setIfInBounds i v = sl'.toArray) (q : ∀ h', Own b T' h' → Q () ⟨h', g, d, t, os⟩) :
    wpAny (model PG w) A (setSlotAt a i v) Q E ⟨h, g, d, t, os⟩ := by
  unfold setSlotAt
  have hsz : sizeLine = 16777216 := by decide
  rw [if_neg (by omega)]
  refine o_update (f := fun o => { o with slots := (o.slots ++ Array.replicate (i + 1 - o.slots.size) none).setIfInBounds i v }) O (o := clsC cd sl) (T' := T') ?_ (fun h' O' => r_pure (q h' O')) rfl
  show Put a (clsC cd sl) { (clsC cd sl) with slots := (sl.toArray ++ Array.replicate (i + 1 - sl.toArray.size) none).setIfInBounds i v } T T'
  rw [he]; exact hp
theorem lf_slot0 {Q : Unit → Shared → Prop} (O : Own b T h) (hp : Put a (clsC cd []) (clsC cd [v]) T T') (q : ∀ h', Own b T' h' → Q () ⟨h', g, d, t, os⟩) : wpAny (model PG w) A (setSlotAt a 0 v) Q E ⟨h, g, d, t, os⟩ := lf_setSlot 0 O hp (by decide) rfl q
theorem lf_slot2 {Q : Unit → Shared → Prop} (O : Own b T h) (hp : Put a (clsC cd [x0]) (clsC cd [x0, none, v]) T T') (q : ∀ h', Own b T' h' → Q () ⟨h', g, d, t, os⟩) : wpAny (model PG w) A (setSlotAt a 2 v) Q E ⟨h, g, d, t, os⟩ := lf_setSlot 2 O hp (by decide) rfl q
theorem lf_slot3 {Q : Unit → Shared → Prop} (O : Own b T h) (hp : Put a (clsC cd [x0, x1, x2]) (clsC cd [x0, x1, x2, v]) T T') (q : ∀ h', Own b T' h' → Q () ⟨h', g, d, t, os⟩) : wpAny (model PG w) A (setSlotAt a 3 v) Q E ⟨h, g, d, t, os⟩ := lf_setSlot 3 O hp (by decide) rfl q
theorem lf_slot4 {Q : Unit → Shared → Prop} (O : Own b T h) (hp : Put a (clsC cd [x0, x1, x2, x3]) (clsC cd [x0, x1, x2, x3, v]) T T') (q : ∀ h', Own b T' h' → Q () ⟨h', g, d, t, os⟩) : wpAny (model PG w) A (setSlotAt a 4 v) Q E ⟨h, g, d, t, os⟩ := lf_setSlot 4 O hp (by decide) rfl q
theorem lf_slot5 {Q : Unit → Shared → Prop} (O : Own b T h) (hp : Put a (clsC cd [x0, x1, x2, x3, x4]) (clsC cd [x0, x1, x2, x3, x4, v]) T T') (q : ∀ h', Own b T' h' → Q () ⟨h', g, d, t, os⟩) : wpAny (model PG w) A (setSlotAt a 5 v) Q E ⟨h, g, d, t, os⟩ := lf_setSlot 5 O hp (by decide) rfl q
theorem lf_updCls {Q : Unit → Shared → Prop} {f : ClassData → ClassData} (O : Own b T h) (hp : Put a (clsC cd sl) (clsC cd' sl) T T') (he : f cd = cd') (hpl : (Data.cls cd').pastItsLine = none) (q : ∀ h', Own b T' h' → Q () ⟨h', g, d, t, os⟩) : wpAny (model PG w) A (updateCls a f) Q E ⟨h, g, d, t, os⟩ := by
  unfold updateCls
  refine wpAny_bind (wpAny_load (s := ⟨h, g, d, t, os⟩) (O.get _ hp.old) ?_)
  show wpAny _ _ (do update a (Obj.mapCls f); lookBehind a) _ _ _
  refine wpAny_bind (o_update (f := Obj.mapCls f) O (o := clsC cd sl) (T' := T') ?_ (fun h' O' => r_pure ?_) rfl)
  · show Put a (clsC cd sl) (clsC (f cd) sl) T T'
    rw [he]; exact hp
  · unfold lookBehind
    have hg : h'.get? a = some (clsC cd' sl) := by
      have hm : ∀ {T T' : List (Addr × Obj)}, Put a (clsC cd sl) (clsC cd' sl) T T' → (a, clsC cd' sl) ∈ T' := by
        intro T T' hp
        induction hp with
        | head => exact List.mem_cons_self ..
        | tail _ ih => exact List.mem_cons_of_mem _ ih
      exact O'.get _ (hm hp)
    refine wpAny_bind (wpAny_loadPart (s := ⟨h', g, d, t, os⟩) hg ?_)
    show wpAny _ _ (match (Data.cls cd').pastItsLine with | some what => unsupported what | _ => pure ()) _ _ _
    rw [hpl]
    exact wpAny_pure (q _ O')
theorem lf_del {Q : Bool → Shared → Prop} (O : Own b T h) (hp : Put ns (nsO es n) (nsO es' (n + 1)) T T') (he : Obj.dropName x (nsO es n) = nsO es' (n + 1)) (hh : nsHas x (nsO es n) = pure true) (q : ∀ h', Own b T' h' → Q true ⟨h', g, d, t, os⟩) : wpAny (model PG w) A (nsDel ns x) Q E ⟨h, g, d, t, os⟩ := by
  unfold nsDel
  refine wpAny_bind (wpAny_loadPart (s := ⟨h, g, d, t, os⟩) (O.get _ hp.old) ?_)
  rw [hh]
  refine wpAny_bind (wpAny_pure ?_)
  rw [if_pos rfl]
  refine wpAny_bind (o_update (f := Obj.dropName x) O (o := nsO es n) (T' := T') (by rw [he]; exact hp) (fun h' O' => r_pure (wpAny_pure (q h' O'))) (by rw [he]; rfl))
theorem lf_nsSet {Q : Unit → Shared → Prop} {T' : Int → Tok → List (Addr × Obj)} {v : Value} (es' : Int → Tok → List DictEntry) (n' : Nat) (O : Own b T h) (hp : ∀ H tk, Put ns (nsO es n) (nsO (es' H tk) n') T (T' H tk)) (he : ∀ H tk, Obj.putName x H (.str x tk) v (nsO es n) = nsO (es' H tk) n') (hr : aRefKeyMayBeTheName x es.toArray = false)
    (q : ∀ h' t' H tk, Own b (T' H tk) h' → Q () ⟨h', g, d, t', os⟩) : wpAny (model PG w) A (nsSet ns x v) Q E ⟨h, g, d, t, os⟩ := by
  have hm := (hp 0 0).old
  unfold nsSet
  refine wpAny_bind ?_
  repeat (walk_at "ry")
  refine wpAny_bind ?_
  repeat (walk_at "ry")
  show wpAny _ _ (if aRefKeyMayBeTheName x es.toArray = true then _ else _) _ _ _
  rw [hr, if_neg (by decide)]
  exact o_update (f := Obj.putName x _ (.str x _) v) O (by rw [he]; exact hp _ _) (fun h' O' => r_pure (q h' _ _ _ O')) (by rw [he]; rfl)
theorem lf_nsSetBV {Q : Unit → Shared → Prop} {T' : Int → Tok → List (Addr × Obj)} {v : Value} (es' : Int → Tok → List DictEntry) (n' : Nat) (O : Own b T h) (hp : ∀ H tk, Put ns (nsO es n) (nsO (es' H tk) n') T (T' H tk)) (he : ∀ H tk, Obj.putName x H (.str x tk) v (nsO es n) = nsO (es' H tk) n') (hr : aRefKeyMayBeTheName x es.toArray = false) (hz : es.length ≤ 100)
    (q : ∀ h' t' H tk, Own b (T' H tk) h' → Q () ⟨h', g, d, t', os⟩) : wpAny (model PG w) A (nsSetByValue ns x v) Q E ⟨h, g, d, t, os⟩ := by
  unfold nsSetByValue
  refine wpAny_bind (wpAny_loadPart (s := ⟨h, g, d, t, os⟩) (O.get _ (hp 0 0).old) ?_)
  have hsz : sizeLine = 16777216 := by decide
  show wpAny _ _ (if (decide (es.toArray.size > sizeLine) && noSuchName x es.toArray) = true then _ else _) _ _ _
  rw [decide_eq_false (by rw [List.size_toArray]; omega), Bool.false_and, if_neg (by decide)]
  exact lf_nsSet es' n' O hp he hr q
theorem orElse_someE {α : Type} (x : α) (f : Unit → Option α) : (some x).orElse f = some x := rfl
noncomputable abbrev cd1 (bs mro : List Value) (ns : Addr) (q : Str) (hd : Bool) : ClassData := { name := K0, bases := bs, mro := mro, ns := ns, qualname := q, hasDel := hd }
noncomputable abbrev cd2 (mro : List Value) (ns : Addr) (q : Str) (hdict : Bool) (sn : List Str) : ClassData := { name := K0, bases := [.type "object"], mro := mro, ns := ns, qualname := q, hasDict := hdict, slotNames := sn, hasDel := false }
theorem lf_updMro {Q : Unit → Shared → Prop} {f : ClassData → ClassData} {bs mro : List Value} {q' : Str} {hd : Bool} (O : Own b T h) (hp : Put a (clsC (cd1 bs [] ns q' false) sl) (clsC (cd1 [.type "object"] [.ref a, .type "object"] ns q' false) sl) T T')
    (he : f (cd1 bs [] ns q' false) = cd1 bs mro ns q' hd) (hb : bs = [.type "object"]) (hm : mro = [.ref a, .type "object"]) (h0 : hd = false) (q : ∀ h', Own b T' h' → Q () ⟨h', g, d, t, os⟩) : wpAny (model PG w) A (updateCls a f) Q E ⟨h, g, d, t, os⟩ := by
  subst hb; subst hm; subst h0
  exact lf_updCls O hp he rfl q
theorem lf_updSlots {Q : Unit → Shared → Prop} {f : ClassData → ClassData} {mro : List Value} {q' : Str} {hd : Bool} {sn : List Str} (O : Own b T h) (hp : Put a (clsC (cd1 [.type "object"] mro ns q' false) sl) (clsC (cd2 mro ns q' false [Str.ofString "obj"]) sl) T T')
    (he : f (cd1 [.type "object"] mro ns q' false) = cd2 mro ns q' hd sn) (h0 : hd = false) (h1 : sn = [Str.ofString "obj"]) (q : ∀ h', Own b T' h' → Q () ⟨h', g, d, t, os⟩) : wpAny (model PG w) A (updateCls a f) Q E ⟨h, g, d, t, os⟩ := by
  subst h0; subst h1
  exact lf_updCls O hp he rfl q
theorem lf_nsSetNew {Q : Unit → Shared → Prop} {T' : Int → Tok → List (Addr × Obj)} {v : Value} (O : Own b T h) (hp : ∀ H tk, Put ns (nsO es n) (nsO (es ++ [ent H x tk v]) (n + 1)) T (T' H tk)) (he : ∀ H tk, Obj.putName x H (.str x tk) v (nsO es n) = nsO (es ++ [ent H x tk v]) (n + 1)) (hr : aRefKeyMayBeTheName x es.toArray = false)
    (q : ∀ h' t' H tk, Own b (T' H tk) h' → Q () ⟨h', g, d, t', os⟩) : wpAny (model PG w) A (nsSet ns x v) Q E ⟨h, g, d, t, os⟩ := lf_nsSet _ _ O hp he hr q
theorem lf_nsSetBVNew {Q : Unit → Shared → Prop} {T' : Int → Tok → List (Addr × Obj)} {v : Value} (O : Own b T h) (hp : ∀ H tk, Put ns (nsO es n) (nsO (es ++ [ent H x tk v]) (n + 1)) T (T' H tk)) (he : ∀ H tk, Obj.putName x H (.str x tk) v (nsO es n) = nsO (es ++ [ent H x tk v]) (n + 1)) (hr : aRefKeyMayBeTheName x es.toArray = false) (hz : es.length ≤ 100)
    (q : ∀ h' t' H tk, Own b (T' H tk) h' → Q () ⟨h', g, d, t', os⟩) : wpAny (model PG w) A (nsSetByValue ns x v) Q E ⟨h, g, d, t, os⟩ := lf_nsSetBV _ _ O hp he hr hz q
end
end
section
noncomputable abbrev supO (a b c : Value) : Obj := { cls := .type "super", data := .fields #[a, b, c] }
theorem dw_self (a : Addr) (l : List Value) : List.dropWhile (fun x => x != Value.ref a) (Value.ref a :: l) = Value.ref a :: l := by rw [List.dropWhile_cons_of_neg (by simp)]
theorem ct_self (a : Addr) (l : List Value) : (Value.ref a :: l).contains (Value.ref a) = true := by simp
theorem sub_self {w : World} {A : Around} {b h : Heap} {T : List (Addr × Obj)} {g : Array GenState} {d : Drawn} {t : Nat} {os : OsState} {E : Value → Shared → Prop} {Q : Bool → Shared → Prop} {a ns : Addr} {hd : Bool} {sn : List Str} {q' : Str} {sl : List (Option Value)}
    (O : Own b T h) (hm : (a, clsC (cd2 [.ref a, .type "object"] ns q' hd sn) sl) ∈ T) (q : Q true ⟨h, g, d, t, os⟩) : wpAny (model PG w) A (isSubtype (.ref a) (.ref a)) Q E ⟨h, g, d, t, os⟩ := by
  unfold isSubtype
  refine wpAny_bind ?_
  have hD := O.get _ hm
  conv => arg 3; whnf
  refine r_load hD ?_
  refine r_pure ?_
  conv => arg 3; whnf
  refine r_pure ?_
  rw [show (cd2 [Value.ref a, Value.type "object"] ns q' hd sn).mro.contains (Value.ref a) = true from ct_self a _]
  exact q
theorem k_super {w : World} {A : Around} {b h : Heap} {T : List (Addr × Obj)} {g : Array GenState} {d : Drawn} {t : Nat} {os : OsState} {E : Value → Shared → Prop} {Q : Value → Shared → Prop} {a ns : Addr} {hd : Bool} {sn : List Str} {q' : Str} {sl : List (Option Value)}
    (O : Own b T h) (hm : (a, clsC (cd2 [.ref a, .type "object"] ns q' hd sn) sl) ∈ T) (q : ∀ so h', Own b ((so, supO (.ref a) (.ref a) (.ref a)) :: T) h' → Q (.ref so) ⟨h', g, d, t, os⟩) :
    wpAny (model PG w) A (call (.type "super") [.ref a, .ref a]) Q E ⟨h, g, d, t, os⟩ := by
  refine ks_callType_codesW (Q₁ := fun obj s₁ => ∃ so h1, obj = .ref so ∧ s₁ = ⟨h1, g, d, t, os⟩ ∧ Own b ((so, supO .none .none .none) :: T) h1) F.ks_called_super (ks_wpAny_checkTypeCall_super (O.get _ hm) rfl) F.ks_entry_super_init (ks_code_super_new _ _ ⟨_, _, rfl, rfl, O.push _ rfl⟩) fun obj s₁ h₁ => ?_
  obtain ⟨so, h1, rfl, rfl, O1⟩ := h₁
  refine ⟨⟨_, O1.get _ (List.Mem.head _), rfl⟩, F.ks_initArgs_super _ _ _, ?_⟩
  have hD1 := O1.get (a, _) (.tail _ hm)
  unfold Builtin.«super.__init__»
  repeat (first | (with_reducible refine ks_wpAny_isType_cls hD1 rfl ?_) | ((with_reducible refine' sub_self (by assumption) ?m ?q); (case m => walk_at "mem")) | walk_at "rk" | walk_at "ry")
  exact ⟨rfl, q _ _ (by assumption)⟩
end
section
section
variable {w : World} {A : Around} {b h : Heap} {T : List (Addr × Obj)} {g : Array GenState} {d : Drawn} {t : Nat} {os : OsState} {E : Value → Shared → Prop} {a ns so m : Addr} {hd : Bool} {sn : List Str} {q' : Str} {sl : List (Option Value)}
theorem mro_K {Q : List Value → Shared → Prop} (O : Own b T h) (hm : (a, clsC (cd2 [.ref a, .type "object"] ns q' hd sn) sl) ∈ T) (q : Q [.ref a, .type "object"] ⟨h, g, d, t, os⟩) : wpAny (model PG w) A (mroOf (.ref a)) Q E ⟨h, g, d, t, os⟩ := by
  have hD := O.get _ hm
  conv => arg 3; whnf
  refine r_load hD ?_
  exact r_pure q
theorem own_isub : classOwn (.type "object") (Str.ofString "__init_subclass__") = pure (some (.builtin "object.__init_subclass__")) := by
  show pure (builtinOwn "object" _) = _
  congr 1
theorem ty_isub : typeOf (.builtin "object.__init_subclass__") = pure (.type "classmethod_descriptor") := by show builtinType _ = _; rw [builtinType_eq_fast]; kernel_rfl
theorem lk_cmdget : typeLookup (.type "classmethod_descriptor") "__get__" = pure (some (.builtin "classmethod_descriptor.__get__")) := by rw [typeLookup_type, builtinLookup_eq_fast]; kernel_rfl
theorem k_cmdget {Q : Value → Shared → Prop} {x : Value} (O : Own b T h) (hm : (a, clsC (cd2 [.ref a, .type "object"] ns q' hd sn) sl) ∈ T) (hx : x = .none) (q : ∀ m h' t', Own b ((m, boundO "object.__init_subclass__" (.ref a)) :: T) h' → Q (.ref m) ⟨h', g, d, t', os⟩) :
    wpAny (model PG w) A (call (.builtin "classmethod_descriptor.__get__") [.builtin "object.__init_subclass__", x, .ref a]) Q E ⟨h, g, d, t, os⟩ := by
  subst hx
  refine wpAny_call (c_call ?_)
  repeat (first | (with_reducible refine ks_wpAny_isType_cls (O.get _ hm) rfl ?_) | (with_reducible refine mro_K O hm ?_) | walk_at "rk" | walk_at "rz")
  exact q _ _ _ (by assumption)
theorem k_sga {Q : PySem.Fin → Shared → Prop} {tk : Tok} (G : Gr w b) (O : Own b T h) (hm : (a, clsC (cd2 [.ref a, .type "object"] ns q' hd sn) sl) ∈ T) (hs : (so, supO (.ref a) (.ref a) (.ref a)) ∈ T)
    (q : ∀ m h' t', Own b ((m, boundO "object.__init_subclass__" (.ref a)) :: T) h' → Q (.done (.ret (.ref m))) ⟨h', g, d, t', os⟩) :
    wpAny (model PG w) A (Builtin.«super.__getattribute__» ⟨[.ref so, .str (Str.ofString "__init_subclass__") tk], []⟩) Q E ⟨h, g, d, t, os⟩ := by
  have hso : h.get? so = some { cls := .type "super", dict := none, data := .fields #[.ref a, .ref a, .ref a], slots := #[] } := O.get _ hs
  have hno : Looks (model PG w) h (opaqueClassAbove (.ref a)) none := looks_opaque (K := KF w) (G.keeps O.keep).k (by kernel_rfl)
  have hdt : ({ cls := .type "super", dict := none, data := .fields #[.ref a, .ref a, .ref a], slots := #[] } : Obj).data = .fields #[.ref a, .ref a, .ref a] := rfl
  have f0 : (#[.ref a, .ref a, .ref a] : Array Value)[0]? = some (.ref a) := rfl
  have f1 : (#[.ref a, .ref a, .ref a] : Array Value)[1]? = some (.ref a) := rfl
  have f2 : (#[.ref a, .ref a, .ref a] : Array Value)[2]? = some (.ref a) := rfl
  unfold Builtin.«super.__getattribute__»
  repeat (first
    | (with_reducible refine wpAny_field hso hdt f0 ?_) | (with_reducible refine wpAny_field hso hdt f1 ?_) | (with_reducible refine wpAny_field hso hdt f2 ?_)
    | (with_reducible refine ks_wpAny_notOpaque hno ?_)
    | (with_reducible refine mro_K O hm ?_)
    | (rw [dw_self])
    | (with_reducible refine wpAny_of_eq own_isub ?_)
    | (with_reducible refine wpAny_of_eq ty_isub ?_)
    | (with_reducible refine wpAny_of_eq lk_cmdget ?_)
    | (with_reducible refine k_cmdget O hm (by rw [if_pos (by simp)]) (fun m h' t' O' => ?_))
    | walk_at "rk" | wp_step)
  exact q _ _ _ O'
theorem k_subga {Q : Value → Shared → Prop} (G : Gr w b) (O : Own b T h) (hm : (a, clsC (cd2 [.ref a, .type "object"] ns q' hd sn) sl) ∈ T) (hs : (so, supO (.ref a) (.ref a) (.ref a)) ∈ T) (q : ∀ m h' t', Own b ((m, boundO "object.__init_subclass__" (.ref a)) :: T) h' → Q (.ref m) ⟨h', g, d, t', os⟩) :
    wpAny (model PG w) A (getAttr (.ref so) (Str.ofString "__init_subclass__")) Q E ⟨h, g, d, t, os⟩ := by
  have hlk := F.ks_slot_super_ga.lookup
  have hso := O.get _ hs
  have hT : ∀ t', (⟨h, g, d, t', os⟩ : Shared).TypeIs (.ref so) "super" := fun _ => ⟨_, hso, rfl⟩
  unfold getAttr getAttrBy
  refine wpAny_bind (wpAny_mkText (wpAny_holding (wpAny_bind (wpAny_typeOf (hT _) (wpAny_bind (wpAny_of_eq hlk ?_))))))
  show wpAny _ _ (getAttrByItsOwn (.ref so) (.str (Str.ofString "__init_subclass__") t) (.type "super") (.builtin "super.__getattribute__") true false) _ _ _
  unfold getAttrByItsOwn hookBefore callGetattribute boundAndCalled
  refine wpAny_bind (wpAny_of_eq (show (if onTheHeap (.type "super") then typeLookup (.type "super") "__getattr__" else pure none) = pure none from rfl) ?_)
  refine wpAny_bind (wpAny_attempt (wpAny_holding ?_))
  show wpAny _ _ (bindSpecial (.builtin "super.__getattribute__") (.ref so) >>= _) _ _ _
  refine wpAny_bind (wpAny_of_eq (F.ks_slot_super_ga.bind _) ?_)
  refine wpAny_mono (Q := fun v s' => ∃ m h' t', v = .ref m ∧ s' = ⟨h', g, d, t', os⟩ ∧ Own b ((m, boundO "object.__init_subclass__" (.ref a)) :: T) h') (E := fun _ _ => False)
    (wpAny_call_entry F.ks_slot_super_ga (hT _) F.ks_entry_super_ga (k_sga G O hm hs fun m h' t' O' => ⟨_, rfl, m, h', t', rfl, rfl, O'⟩) (F.ks_gaArgs_super _ _)) (fun v s' hv => ?_) fun _ _ z => z.elim
  obtain ⟨m, h', t', rfl, rfl, O'⟩ := hv
  exact wpAny_pure (q _ _ _ O')
theorem sig_isub : Manifest.signature? "object.__init_subclass__" = some ⟨.noArgs, "object.__init_subclass__", "__init_subclass__", .cls, []⟩ := (congrFun PySem.W.S.signatureZ_eq _).trans (by kernel_rfl)
theorem kind_isub : builtinKind "object.__init_subclass__" = some .classMethod := by decide +kernel
theorem ca_isub (v : Value) : Bind.checkArgs "object.__init_subclass__" ⟨.noArgs, "cmp_to_key.<locals>.K.__init_subclass__", "__init_subclass__", .cls, []⟩ ⟨[v], []⟩ = pure () := by kernel_rfl
theorem ca_isubE {Q : Unit → Shared → Prop} {s : Shared} {v : Value} {q : String} (hq : q = "cmp_to_key.<locals>.K.__init_subclass__") (h : Q () s) : wpAny (model PG w) A (Bind.checkArgs "object.__init_subclass__" ⟨.noArgs, q, "__init_subclass__", .cls, []⟩ ⟨[v], []⟩) Q E s := by
  subst hq; rw [ca_isub]; exact wpAny_pure h
theorem k_subcall {Q : Value → Shared → Prop} (O : Own b T h) (hK : (a, clsC (cd2 [.ref a, .type "object"] ns (Str.ofString "cmp_to_key.<locals>.K") hd sn) sl) ∈ T) (hm : (m, boundO "object.__init_subclass__" (.ref a)) ∈ T) (q : ∀ t', Q .none ⟨h, g, d, t', os⟩) :
    wpAny (model PG w) A (call (.ref m) [] []) Q E ⟨h, g, d, t, os⟩ := by
  refine wpAny_call (c_call ?_)
  conv => arg 3; whnf
  refine r_load (O.get _ hm) ?_
  show wpAny _ _ (do checkBoundCall "object.__init_subclass__" ⟨[.ref a], []⟩; again (.builtin "object.__init_subclass__" ⟨[.ref a], []⟩)) _ _ _
  refine wpAny_bind ?_
  unfold checkBoundCall
  rw [sig_isub, kind_isub]
  repeat (first | (with_reducible refine ks_wpAny_isType_cls (O.get _ hK) rfl ?_) | (with_reducible refine ca_isubE (by decide +kernel) ?_) | walk_at "rk" | walk_at "rz")
  exact q _
theorem w_spec {α : Type} {v : Value} {x : Str} {Q : Option Value → Shared → Prop} {s : Shared} (h : wpAny (model PG w) A (do typeLookup (← typeOf v) x) Q E s) : wpAny (model PG w) A (specialOf v x) Q E s := h
end
theorem sn_function : typeLookup (.type "function") (Str.ofString "__set_name__") = pure none := by rw [typeLookup_type, builtinLookup_eq_fast]; kernel_rfl
theorem sn_str : typeLookup (.type "str") (Str.ofString "__set_name__") = pure none := by rw [typeLookup_type, builtinLookup_eq_fast]; kernel_rfl
theorem sn_int : typeLookup (.type "int") (Str.ofString "__set_name__") = pure none := by rw [typeLookup_type, builtinLookup_eq_fast]; kernel_rfl
theorem sn_list : typeLookup (.type "list") (Str.ofString "__set_name__") = pure none := by rw [typeLookup_type, builtinLookup_eq_fast]; kernel_rfl
theorem sn_tuple : typeLookup (.type "tuple") (Str.ofString "__set_name__") = pure none := by rw [typeLookup_type, builtinLookup_eq_fast]; kernel_rfl
theorem sn_NoneType : typeLookup (.type "NoneType") (Str.ofString "__set_name__") = pure none := by rw [typeLookup_type, builtinLookup_eq_fast]; kernel_rfl
theorem sn_member_descriptor : typeLookup (.type "member_descriptor") (Str.ofString "__set_name__") = pure none := by rw [typeLookup_type, builtinLookup_eq_fast]; kernel_rfl
end
section
theorem collectE {w : World} {A : Around} {b h : Heap} {T : List (Addr × Obj)} {g : Array GenState} {d : Drawn} {t : Nat} {os : OsState} {E : Value → Shared → Prop} {Q : List Value → Shared → Prop} {v : Value} {l : Addr} {vs : List Value} {n : Nat} (O : Own b T h) (hm : (l, lst vs.toArray n) ∈ T) (hz : vs.length ≤ 1000)
    (q : ∀ h', Own b T h' → Q vs ⟨h', g, d, t, os⟩) (e : v = .ref l) : wpAny (model PG w) A (collect v) Q E ⟨h, g, d, t, os⟩ := by
  subst e
  have hsz : sizeLine = 16777216 := by decide
  refine collect_list (s := ⟨h, g, d, t, os⟩) ⟨_, O.get _ hm, rfl, _, rfl⟩ (q _ ?_) (by omega)
  refine (O.st.grown fun a o ha => ?_).own
  have ne : a ≠ h.objs.size := Nat.ne_of_lt (Heap.lt_size ha)
  rw [Heap.get?_update_ne _ _ _ _ ne]
  exact Heap.get?_push_of_some _ ha
theorem k_read {w : World} {A : Around} {b h : Heap} {T : List (Addr × Obj)} {g : Array GenState} {d : Drawn} {t : Nat} {os : OsState} {E : Value → Shared → Prop} {Q : Builtin.Slots.Plan → Shared → Prop} {H1 H2 H3 H4 H5 H6 H7 H8 H9 H10 H11 : Int} {t1 t2 t3 t4 t5 t6 t7 t8 t9 t10 t11 u1 u2 u3 u4 : Tok} {sl f0 f1 f2 f3 f4 f5 : Addr} {H12 : Int} {t12 : Tok} {sa : Addr} (O : Own b T h) (hm : (sl, lst [.str (Str.ofString "obj") u4].toArray 0) ∈ T)
    (q : ∀ h', Own b T h' → Q { names := [Str.ofString "obj"], dict := false, weak := false, inherited := [] } ⟨h', g, d, t, os⟩) :
    wpAny (model PG w) A (Builtin.Slots.read K0 [.type "object"] [ent H1 (Str.ofString "__module__") t1 (.str (Str.ofString "cpy313.functools") u1), ent H2 (Str.ofString "__qualname__") t2 (.str (Str.ofString "cmp_to_key.<locals>.K") u2), ent H3 (Str.ofString "__firstlineno__") t3 (.int 31 u3), ent H4 (Str.ofString "__slots__") t4 (.ref sl), ent H5 (Str.ofString "__init__") t5 (.ref f0), ent H6 (Str.ofString "__lt__") t6 (.ref f1), ent H7 (Str.ofString "__gt__") t7 (.ref f2), ent H8 (Str.ofString "__eq__") t8 (.ref f3), ent H9 (Str.ofString "__le__") t9 (.ref f4), ent H10 (Str.ofString "__ge__") t10 (.ref f5), ent H11 (Str.ofString "__hash__") t11 .none, ent H12 (Str.ofString "__static_attributes__") t12 (.ref sa)].toArray) Q E ⟨h, g, d, t, os⟩ := by
  have hf : ([ent H1 (Str.ofString "__module__") t1 (.str (Str.ofString "cpy313.functools") u1), ent H2 (Str.ofString "__qualname__") t2 (.str (Str.ofString "cmp_to_key.<locals>.K") u2), ent H3 (Str.ofString "__firstlineno__") t3 (.int 31 u3), ent H4 (Str.ofString "__slots__") t4 (.ref sl), ent H5 (Str.ofString "__init__") t5 (.ref f0), ent H6 (Str.ofString "__lt__") t6 (.ref f1), ent H7 (Str.ofString "__gt__") t7 (.ref f2), ent H8 (Str.ofString "__eq__") t8 (.ref f3), ent H9 (Str.ofString "__le__") t9 (.ref f4), ent H10 (Str.ofString "__ge__") t10 (.ref f5), ent H11 (Str.ofString "__hash__") t11 .none, ent H12 (Str.ofString "__static_attributes__") t12 (.ref sa)].toArray).find? (fun x => x.key.isStr (Str.ofString "__slots__")) = some (ent H4 (Str.ofString "__slots__") t4 (.ref sl)) := by kernel_rfl
  unfold Builtin.Slots.read
  rw [hf]
  repeat (first | (with_reducible refine collectE O hm (Nat.le_of_ble_eq_true rfl) (fun h' O' => ?_) (by with_unfolding_all rfl)) | walk_at "rk" | walk_at "ry")
  exact q _ (by assumption)
theorem k_readE {w : World} {A : Around} {b h : Heap} {T : List (Addr × Obj)} {g : Array GenState} {d : Drawn} {t : Nat} {os : OsState} {E : Value → Shared → Prop} {Q : Builtin.Slots.Plan → Shared → Prop} {H1 H2 H3 H4 H5 H6 H7 H8 H9 H10 H11 : Int} {t1 t2 t3 t4 t5 t6 t7 t8 t9 t10 t11 u1 u2 u3 u4 : Tok} {sl f0 f1 f2 f3 f4 f5 : Addr} {H12 : Int} {t12 : Tok} {sa : Addr} {bs : List Value} {es : Array DictEntry} (O : Own b T h) (hm : (sl, lst [.str (Str.ofString "obj") u4].toArray 0) ∈ T)
    (hb : bs = [.type "object"]) (he : es = [ent H1 (Str.ofString "__module__") t1 (.str (Str.ofString "cpy313.functools") u1), ent H2 (Str.ofString "__qualname__") t2 (.str (Str.ofString "cmp_to_key.<locals>.K") u2), ent H3 (Str.ofString "__firstlineno__") t3 (.int 31 u3), ent H4 (Str.ofString "__slots__") t4 (.ref sl), ent H5 (Str.ofString "__init__") t5 (.ref f0), ent H6 (Str.ofString "__lt__") t6 (.ref f1), ent H7 (Str.ofString "__gt__") t7 (.ref f2), ent H8 (Str.ofString "__eq__") t8 (.ref f3), ent H9 (Str.ofString "__le__") t9 (.ref f4), ent H10 (Str.ofString "__ge__") t10 (.ref f5), ent H11 (Str.ofString "__hash__") t11 .none, ent H12 (Str.ofString "__static_attributes__") t12 (.ref sa)].toArray)
    (q : ∀ h', Own b T h' → Q { names := [Str.ofString "obj"], dict := false, weak := false, inherited := [] } ⟨h', g, d, t, os⟩) :
    wpAny (model PG w) A (Builtin.Slots.read K0 bs es) Q E ⟨h, g, d, t, os⟩ := by
  subst hb; subst he; exact k_read O hm q
end
section
theorem w_try {α : Type} {M : Model} {A : Around} {E : Value → Shared → Prop} {s : Shared} {m : Sem α} {k : Value → Sem α} {Q : α → Shared → Prop} (h : wpAny M A m Q (fun e s' => wpAny M A (k e) Q E s') s) : wpAny M A (Sem.tryCatch m k) Q E s := wpAny_tryCatch h
local macro_rules | `(tactic| walk_at "kn") => `(tactic| first
    | ((with_reducible refine' lf_slot0 (by assumption) ?p ?q); (case p => walk_at "put"); intro h' O')
    | ((with_reducible refine' lf_slot2 (by assumption) ?p ?q); (case p => walk_at "put"); intro h' O')
    | ((with_reducible refine' lf_slot3 (by assumption) ?p ?q); (case p => walk_at "put"); intro h' O')
    | ((with_reducible refine' lf_slot4 (by assumption) ?p ?q); (case p => walk_at "put"); intro h' O')
    | ((with_reducible refine' lf_slot5 (by assumption) ?p ?q); (case p => walk_at "put"); intro h' O')
    | ((with_reducible refine' lf_updMro (by assumption) ?p ?e ?b ?m ?h ?q); (case p => walk_at "put"); (case e => exact rfl); (case b => with_unfolding_all rfl); (case m => with_unfolding_all rfl); (case h => kernel_rfl); intro h' O')
    | ((with_reducible refine' lf_updSlots (by assumption) ?p ?e ?h ?m ?q); (case p => walk_at "put"); (case e => exact rfl); (case h => with_unfolding_all rfl); (case m => with_unfolding_all rfl); intro h' O')
    | rw [orElse_someE]
    | ((with_reducible refine' lf_nsSetBVNew (by assumption) ?p ?e ?h ?z ?q); (case p => (intro H tk; walk_at "put")); (case e => (intro H tk; kernel_rfl)); (case h => kernel_rfl); (case z => exact Nat.le_of_ble_eq_true rfl); intro h' t' H' tk' O'; (try simp only [List.cons_append, List.nil_append] at O'))
    | ((with_reducible refine' lf_nsSetNew (by assumption) ?p ?e ?h ?q); (case p => (intro H tk; walk_at "put")); (case e => (intro H tk; kernel_rfl)); (case h => kernel_rfl); intro h' t' H' tk' O'; (try simp only [List.cons_append, List.nil_append] at O'))
    | (with_reducible refine wpAny_of_eq mb_object ?_)
    | (with_reducible refine wpAny_of_eq mb_super ?_))
local macro_rules | `(tactic| walk_at "kh") => `(tactic| first
    | walk_at "r0"
    | with_reducible refine w_for_nil ?_
    | with_reducible refine w_for_cons ?_
    | ((with_reducible refine' k_super (by assumption) ?m ?q); (case m => walk_at "mem"); intro so' h' O')
    | ((with_reducible refine' k_subga (by assumption) (by assumption) ?m ?ms ?q); (case m => walk_at "mem"); (case ms => walk_at "mem"); intro m' h' t' O')
    | ((with_reducible refine' k_subcall (by assumption) ?m ?ms ?q); (case m => walk_at "mem"); (case ms => walk_at "mem"); intro t')
    | with_reducible refine w_spec ?_
    | with_reducible refine wpAny_of_eq sn_function ?_
    | with_reducible refine wpAny_of_eq sn_str ?_
    | with_reducible refine wpAny_of_eq sn_int ?_
    | with_reducible refine wpAny_of_eq sn_list ?_
    | with_reducible refine wpAny_of_eq sn_tuple ?_
    | with_reducible refine wpAny_of_eq sn_NoneType ?_
    | with_reducible refine wpAny_of_eq sn_member_descriptor ?_
    | walk_at "rk" | walk_at "ry")
noncomputable abbrev ledB (H1 H2 H3 H4 H5 H6 H7 H8 H9 H10 H11 H12 : Int) (t1 t2 t3 t4 t5 t6 t7 t8 t9 t10 t11 t12 u1 u2 u3 u4 u5 u6 : Tok) (nsA sl f0 c0 f1 c1 f2 c2 f3 c3 f4 c4 f5 c5 c sa gT : Addr) (d0 p0 v0 d1 p1 v1 d2 p2 v2 d3 p3 v3 d4 p4 v4 d5 p5 v5 : Value) (oc0 oc1 : Obj) (T : List (Addr × Obj)) : List (Addr × Obj) := (gT, { cls := .type "tuple", data := .seq #[.type "object"] }) :: (sa, { cls := .type "tuple", data := .seq #[.str (Str.ofString "obj") u5] }) :: (nsA, nsO [ent H1 (Str.ofString "__module__") t1 (.str (Str.ofString "cpy313.functools") u1), ent H2 (Str.ofString "__qualname__") t2 (.str (Str.ofString "cmp_to_key.<locals>.K") u2), ent H3 (Str.ofString "__firstlineno__") t3 (.int 31 u3), ent H4 (Str.ofString "__slots__") t4 (.ref sl), ent H5 (Str.ofString "__init__") t5 (.ref f0), ent H6 (Str.ofString "__lt__") t6 (.ref f1), ent H7 (Str.ofString "__gt__") t7 (.ref f2), ent H8 (Str.ofString "__eq__") t8 (.ref f3), ent H9 (Str.ofString "__le__") t9 (.ref f4), ent H10 (Str.ofString "__ge__") t10 (.ref f5), ent H11 (Str.ofString "__hash__") t11 .none, ent H12 (Str.ofString "__static_attributes__") t12 (.ref sa)] 12) :: (f0, mth 0 [] d0 p0 c0 v0) :: (c0, oc0) :: (f1, mth 1 [(Str.ofString "mycmp", c)] d1 p1 c1 v1) :: (c1, oc1) :: (f2, mth 2 [(Str.ofString "mycmp", c)] d2 p2 c2 v2) :: (f3, mth 3 [(Str.ofString "mycmp", c)] d3 p3 c3 v3) :: (f4, mth 4 [(Str.ofString "mycmp", c)] d4 p4 c4 v4) :: (f5, mth 5 [(Str.ofString "mycmp", c)] d5 p5 c5 v5) :: (sl, lst #[.str (Str.ofString "obj") u4] 0) :: T
noncomputable abbrev mdO (a : Addr) (td : Tok) : Obj := { cls := .type "member_descriptor", data := .fields #[.str (Str.ofString "obj") td, .ref a, .builtin "proto.slot", .builtin "proto.slot#set", rawInt 0] }
noncomputable abbrev qK : Str := Str.ofString "cmp_to_key.<locals>.K"
noncomputable abbrev clsK (a ns gT : Addr) (u6 u2 : Tok) : Obj := clsC (cd2 [.ref a, .type "object"] ns qK false [Str.ofString "obj"]) [some (.ref gT), none, some (.str K0 u6), some (.str qK u2), some (.builtin "object.__new__"), some (.bool false)]
noncomputable abbrev ledK (H1 H2 H3 H4 H5 H6 H7 H8 H9 H10 H11 H12 H13 H14 : Int) (t1 t2 t3 t4 t5 t6 t7 t8 t9 t10 t11 t12 t13 t14 td u1 u2 u3 u6 : Tok) (sl f0 c0 f1 c1 f2 f3 f4 f5 c sa gT md a ns : Addr) (d0 p0 v0 d1 p1 v1 : Value) (oc0 oc1 : Obj) : List (Addr × Obj) := [(md, mdO a td), (a, clsK a ns gT u6 u2), (ns, nsO [ent H1 (Str.ofString "__module__") t1 (.str (Str.ofString "cpy313.functools") u1), ent H3 (Str.ofString "__firstlineno__") t3 (.int 31 u3), ent H4 (Str.ofString "__slots__") t4 (.ref sl), ent H5 (Str.ofString "__init__") t5 (.ref f0), ent H6 (Str.ofString "__lt__") t6 (.ref f1), ent H7 (Str.ofString "__gt__") t7 (.ref f2), ent H8 (Str.ofString "__eq__") t8 (.ref f3), ent H9 (Str.ofString "__le__") t9 (.ref f4), ent H10 (Str.ofString "__ge__") t10 (.ref f5), ent H11 (Str.ofString "__hash__") t11 .none, ent H12 (Str.ofString "__static_attributes__") t12 (.ref sa), ent H13 (Str.ofString "obj") t13 (.ref md), ent H14 (Str.ofString "__doc__") t14 .none] 3), (f0, mth 0 [] d0 p0 c0 v0), (c0, oc0), (f1, mth 1 [(Str.ofString "mycmp", c)] d1 p1 c1 v1), (c1, oc1)]
/-- the class K that a call of cmp_to_key made: its objects -/
noncomputable def KCls (c K : Addr) (TK : List (Addr × Obj)) : Prop := ∃ H1 H2 H3 H4 H5 H6 H7 H8 H9 H10 H11 H12 H13 H14 t1 t2 t3 t4 t5 t6 t7 t8 t9 t10 t11 t12 t13 t14 td u1 u2 u3 u6 sl f0 c0 f1 c1 f2 f3 f4 f5 sa gT md ns d0 p0 v0 d1 p1 v1 oc0 oc1,
  TK = ledK H1 H2 H3 H4 H5 H6 H7 H8 H9 H10 H11 H12 H13 H14 t1 t2 t3 t4 t5 t6 t7 t8 t9 t10 t11 t12 t13 t14 td u1 u2 u3 u6 sl f0 c0 f1 c1 f2 f3 f4 f5 c sa gT md K ns d0 p0 v0 d1 p1 v1 oc0 oc1 ∧ CodeNm oc0 (Str.ofString "cmp_to_key.<locals>.K.__init__") ∧ CodeNm oc1 (Str.ofString "cmp_to_key.<locals>.K.__lt__")
theorem k_fin {b h : Heap} {T : List (Addr × Obj)} {H1 H2 H3 H4 H5 H6 H7 H8 H9 H10 H11 H12 : Int} {t1 t2 t3 t4 t5 t6 t7 t8 t9 t10 t11 t12 u1 u2 u3 u4 u5 u6 : Tok} {nsA sl f0 c0 f1 c1 f2 c2 f3 c3 f4 c4 f5 c5 c sa gT : Addr} {d0 p0 v0 d1 p1 v1 d2 p2 v2 d3 p3 v3 d4 p4 v4 d5 p5 v5 : Value} {oc0 oc1 : Obj} {H13 H14 : Int} {t13 t14 td : Tok} {m so md a ns : Addr} {X Y : Obj} {P : Addr → Prop}
    (O : Own b ((m, X) :: (so, Y) :: (md, mdO a td) :: (a, clsK a ns gT u6 u2) :: (ns, nsO [ent H1 (Str.ofString "__module__") t1 (.str (Str.ofString "cpy313.functools") u1), ent H3 (Str.ofString "__firstlineno__") t3 (.int 31 u3), ent H4 (Str.ofString "__slots__") t4 (.ref sl), ent H5 (Str.ofString "__init__") t5 (.ref f0), ent H6 (Str.ofString "__lt__") t6 (.ref f1), ent H7 (Str.ofString "__gt__") t7 (.ref f2), ent H8 (Str.ofString "__eq__") t8 (.ref f3), ent H9 (Str.ofString "__le__") t9 (.ref f4), ent H10 (Str.ofString "__ge__") t10 (.ref f5), ent H11 (Str.ofString "__hash__") t11 .none, ent H12 (Str.ofString "__static_attributes__") t12 (.ref sa), ent H13 (Str.ofString "obj") t13 (.ref md), ent H14 (Str.ofString "__doc__") t14 .none] 3) :: ledB H1 H2 H3 H4 H5 H6 H7 H8 H9 H10 H11 H12 t1 t2 t3 t4 t5 t6 t7 t8 t9 t10 t11 t12 u1 u2 u3 u4 u5 u6 nsA sl f0 c0 f1 c1 f2 c2 f3 c3 f4 c4 f5 c5 c sa gT d0 p0 v0 d1 p1 v1 d2 p2 v2 d3 p3 v3 d4 p4 v4 d5 p5 v5 oc0 oc1 T) h)
    (n0 : CodeNm oc0 (Str.ofString "cmp_to_key.<locals>.K.__init__")) (n1 : CodeNm oc1 (Str.ofString "cmp_to_key.<locals>.K.__lt__")) (q : ∀ a TK, KCls c a TK → Own b (TK ++ T) h → P a) : P a := by
  have O' : Own b (ledK H1 H2 H3 H4 H5 H6 H7 H8 H9 H10 H11 H12 H13 H14 t1 t2 t3 t4 t5 t6 t7 t8 t9 t10 t11 t12 t13 t14 td u1 u2 u3 u6 sl f0 c0 f1 c1 f2 f3 f4 f5 c sa gT md a ns d0 p0 v0 d1 p1 v1 oc0 oc1 ++ T) h := O.sel 17 [2, 3, 4, 8, 9, 10, 11] (by decide +kernel) rfl
  exact q a _ ⟨H1, H2, H3, H4, H5, H6, H7, H8, H9, H10, H11, H12, H13, H14, t1, t2, t3, t4, t5, t6, t7, t8, t9, t10, t11, t12, t13, t14, td, u1, u2, u3, u6, sl, f0, c0, f1, c1, f2, f3, f4, f5, sa, gT, md, ns, d0, p0, v0, d1, p1, v1, oc0, oc1, rfl, n0, n1⟩ O'
theorem k_new {w : World} {A : Around} {b h : Heap} {T : List (Addr × Obj)} {g : Array GenState} {d : Drawn} {t : Nat} {os : OsState} {R : Result → Shared → Prop} {H1 H2 H3 H4 H5 H6 H7 H8 H9 H10 H11 H12 : Int} {t1 t2 t3 t4 t5 t6 t7 t8 t9 t10 t11 t12 u1 u2 u3 u4 u5 u6 : Tok} {nsA sl f0 c0 f1 c1 f2 c2 f3 c3 f4 c4 f5 c5 c sa gT : Addr} {d0 p0 v0 d1 p1 v1 d2 p2 v2 d3 p3 v3 d4 p4 v4 d5 p5 v5 : Value} {oc0 oc1 : Obj} (G : Gr w b)
    (O : Own b (ledB H1 H2 H3 H4 H5 H6 H7 H8 H9 H10 H11 H12 t1 t2 t3 t4 t5 t6 t7 t8 t9 t10 t11 t12 u1 u2 u3 u4 u5 u6 nsA sl f0 c0 f1 c1 f2 c2 f3 c3 f4 c4 f5 c5 c sa gT d0 p0 v0 d1 p1 v1 d2 p2 v2 d3 p3 v3 d4 p4 v4 d5 p5 v5 oc0 oc1 T) h) (hgt : 1 < nsA) (n0 : CodeNm oc0 (Str.ofString "cmp_to_key.<locals>.K.__init__")) (n1 : CodeNm oc1 (Str.ofString "cmp_to_key.<locals>.K.__lt__"))
    (q : ∀ a TK h' t', KCls c a TK → Own b (TK ++ T) h' → R (.ok (.ret (.ref a))) ⟨h', g, d, t', os⟩) :
    codeAny (model PG w) A (.builtin "type.__new__" ⟨[.type "type", .str K0 u6, .ref gT, .ref nsA], []⟩) R ⟨h, g, d, t, os⟩ := by
  have hB := BI.of_gr G
  have hne : (nsA == sysModules) = false := by
    rw [beq_eq_false_iff_ne]; exact Nat.ne_of_gt hgt
  refine c_builtin en_ty_new ?_
  unfold Builtin.«type.__new__»
  repeat (first
    | walk_at "r0"
    | ((with_reducible refine k_readE (H1 := H1) (H2 := H2) (H3 := H3) (H4 := H4) (H5 := H5) (H6 := H6) (H7 := H7) (H8 := H8) (H9 := H9) (H10 := H10) (H11 := H11) (H12 := H12) (t1 := t1) (t2 := t2) (t3 := t3) (t4 := t4) (t5 := t5) (t6 := t6) (t7 := t7) (t8 := t8) (t9 := t9) (t10 := t10) (t11 := t11) (t12 := t12) (u1 := u1) (u2 := u2) (u3 := u3) (u4 := u4) (sl := sl) (f0 := f0) (f1 := f1) (f2 := f2) (f3 := f3) (f4 := f4) (f5 := f5) (sa := sa) (by assumption) ?m ?hb ?he ?q); (case m => walk_at "mem"); (case hb => with_unfolding_all rfl); (case he => with_unfolding_all rfl); intro h' O')
    | ((with_reducible refine' lf_del (es' := [ent H1 (Str.ofString "__module__") t1 (.str (Str.ofString "cpy313.functools") u1), ent H3 (Str.ofString "__firstlineno__") t3 (.int 31 u3), ent H4 (Str.ofString "__slots__") t4 (.ref sl), ent H5 (Str.ofString "__init__") t5 (.ref f0), ent H6 (Str.ofString "__lt__") t6 (.ref f1), ent H7 (Str.ofString "__gt__") t7 (.ref f2), ent H8 (Str.ofString "__eq__") t8 (.ref f3), ent H9 (Str.ofString "__le__") t9 (.ref f4), ent H10 (Str.ofString "__ge__") t10 (.ref f5), ent H11 (Str.ofString "__hash__") t11 .none, ent H12 (Str.ofString "__static_attributes__") t12 (.ref sa)]) (by assumption) ?p1 ?e1 ?h1 ?q1); (case p1 => walk_at "put"); (case e1 => kernel_rfl); (case h1 => kernel_rfl); intro h' O')
    | walk_at "kn" | ((fail_if_success (with_reducible refine w_try ?_)); (first | walk_at "rk" | walk_at "ry")))
  refine w_try ?_
  repeat (walk_at "kh")
  exact k_fin (P := fun a => R (.ok (.ret (.ref a))) _) (by assumption) n0 n1 fun a TK x y => q a TK _ _ x y
end
section
theorem nc_tnew (a b c : Value) : checkBuiltinCall "type.__new__" ⟨[.type "type", a, b, c], []⟩ = pure () := (congrFun (congrFun PySem.W.Fast.te10254737850608025244 _) _).trans (by kernel_rfl)
theorem slot_ty_init : Slot "type" "__init__" "type.__init__" :=
  .of (owner := "type") (n := "__init__") (by rw [typeLookup_type, builtinLookup_eq_fast]; kernel_rfl) (by decide +kernel) (by decide +kernel) (by decide +kernel)
    (by first | exact .inl (by decide +kernel) | exact .inr (by decide +kernel)) (by rw [isSubtype_type]; kernel_rfl)
theorem args_ty_init (a b c e : Value) : argsOk "type.__init__" ⟨[a, b, c, e], []⟩ := by unfold argsOk; rw [PySem.W.S.signatureZ_eq]; kernel_rfl
theorem k_newC {w : World} {A : Around} {b h : Heap} {T : List (Addr × Obj)} {g : Array GenState} {d : Drawn} {t : Nat} {os : OsState} {R : Result → Shared → Prop} {H1 H2 H3 H4 H5 H6 H7 H8 H9 H10 H11 H12 : Int} {t1 t2 t3 t4 t5 t6 t7 t8 t9 t10 t11 t12 u1 u2 u3 u4 u5 u6 : Tok} {nsA sl f0 c0 f1 c1 f2 c2 f3 c3 f4 c4 f5 c5 c sa gT : Addr} {d0 p0 v0 d1 p1 v1 d2 p2 v2 d3 p3 v3 d4 p4 v4 d5 p5 v5 : Value} {oc0 oc1 : Obj} (G : Gr w b)
    (O : Own b (ledB H1 H2 H3 H4 H5 H6 H7 H8 H9 H10 H11 H12 t1 t2 t3 t4 t5 t6 t7 t8 t9 t10 t11 t12 u1 u2 u3 u4 u5 u6 nsA sl f0 c0 f1 c1 f2 c2 f3 c3 f4 c4 f5 c5 c sa gT d0 p0 v0 d1 p1 v1 d2 p2 v2 d3 p3 v3 d4 p4 v4 d5 p5 v5 oc0 oc1 T) h) (hgt : 1 < nsA) (n0 : CodeNm oc0 (Str.ofString "cmp_to_key.<locals>.K.__init__")) (n1 : CodeNm oc1 (Str.ofString "cmp_to_key.<locals>.K.__lt__"))
    (q : ∀ a TK h' t', KCls c a TK → Own b (TK ++ T) h' → R (.ok (.ret (.ref a))) ⟨h', g, d, t', os⟩) :
    codeAny (model PG w) A (.call (.builtin "type.__new__") ⟨[.type "type", .str K0 u6, .ref gT, .ref nsA], []⟩) R ⟨h, g, d, t, os⟩ :=
  c_callB (nc_tnew _ _ _) (by decide +kernel) (k_new G O hgt n0 n1 q)
theorem KCls.cls {c K : Addr} {TK : List (Addr × Obj)} (k : KCls c K TK) : ∃ ns gT u6 u2, (K, clsK K ns gT u6 u2) ∈ TK := by
  obtain ⟨H1, H2, H3, H4, H5, H6, H7, H8, H9, H10, H11, H12, H13, H14, t1, t2, t3, t4, t5, t6, t7, t8, t9, t10, t11, t12, t13, t14, td, u1, u2, u3, u6, sl, f0, c0, f1, c1, f2, f3, f4, f5, sa, gT, md, ns, d0, p0, v0, d1, p1, v1, oc0, oc1, rfl, n0, n1⟩ := k
  exact ⟨ns, gT, u6, u2, List.mem_cons_of_mem _ (List.mem_cons_self ..)⟩
theorem k_call {w : World} {A : Around} {b h : Heap} {T : List (Addr × Obj)} {g : Array GenState} {d : Drawn} {t : Nat} {os : OsState} {E : Value → Shared → Prop} {Q : Value → Shared → Prop} {H1 H2 H3 H4 H5 H6 H7 H8 H9 H10 H11 H12 : Int} {t1 t2 t3 t4 t5 t6 t7 t8 t9 t10 t11 t12 u1 u2 u3 u4 u5 u6 : Tok} {nsA sl f0 c0 f1 c1 f2 c2 f3 c3 f4 c4 f5 c5 c sa gT : Addr} {d0 p0 v0 d1 p1 v1 d2 p2 v2 d3 p3 v3 d4 p4 v4 d5 p5 v5 : Value} {oc0 oc1 : Obj} (G : Gr w b)
    (O : Own b (ledB H1 H2 H3 H4 H5 H6 H7 H8 H9 H10 H11 H12 t1 t2 t3 t4 t5 t6 t7 t8 t9 t10 t11 t12 u1 u2 u3 u4 u5 u6 nsA sl f0 c0 f1 c1 f2 c2 f3 c3 f4 c4 f5 c5 c sa gT d0 p0 v0 d1 p1 v1 d2 p2 v2 d3 p3 v3 d4 p4 v4 d5 p5 v5 oc0 oc1 T) h) (hgt : 1 < nsA) (n0 : CodeNm oc0 (Str.ofString "cmp_to_key.<locals>.K.__init__")) (n1 : CodeNm oc1 (Str.ofString "cmp_to_key.<locals>.K.__lt__"))
    (q : ∀ a TK h' t', KCls c a TK → Own b (TK ++ T) h' → Q (.ref a) ⟨h', g, d, t', os⟩) :
    wpAny (model PG w) A (call (.type "type") [.str K0 u6, .ref gT, .ref nsA] []) Q E ⟨h, g, d, t, os⟩ := by
  have hB := BI.of_gr G
  refine wpAny_call (c_call ?_)
  repeat (first
    | walk_at "r0"
    | (with_reducible refine wpAny_of_eq mb_type ?_)
    | walk_at "rk" | walk_at "rz")
  unfold Builtin.«type.__call__»
  repeat (first
    | walk_at "r0"
    | (with_reducible refine wpAny_of_eq mb_type ?_)
    | (with_reducible refine k_newC G O hgt n0 n1 (fun a TK h' t' hk O' => ?_))
    | walk_at "rk" | walk_at "rz")
  obtain ⟨ns', gT', u6', u2', hm⟩ := hk.cls
  have hm' := O'.get _ (List.mem_append_left T hm)
  have hT : (⟨h', g, d, t', os⟩ : Shared).TypeIs (.ref a) "type" := ⟨_, hm', rfl⟩
  refine wpAny_isInstance hT F.sub_type_type ?_
  rw [if_neg (by decide)]
  refine wpAny_bind (wpAny_holding (wpAny_callSpecial?_slot hT slot_ty_init (wpAny_call_entry slot_ty_init hT en_ty_init ?_ (args_ty_init _ _ _ _))))
  repeat (walk_at "rz")
  refine ⟨_, rfl, ?_⟩
  rw [if_neg (by decide)]
  exact wpAny_pure (q a TK h' _ hk O')
end
section
section
variable {M : Model} {A : Around} {E : Value → Shared → Prop} {s : Shared} {env : Env} {pos : Pos}
theorem evalArgs_one {f : Value} {x : Sem Value} {Q : Args → Shared → Prop} (h : wpAny M A x (fun v s' => Q ⟨[v], []⟩ s') E s) : wpAny M A (evalArgs f false [(false, x)] []) Q E s := by
  unfold evalArgs
  show wpAny M A (spliced ((false, x) :: []) >>= _) Q E s
  refine wpAny_bind (spliced_cons (wpAny_mono h (fun v s' h' => spliced_nil ?_) fun _ _ e => e))
  refine wpAny_holding ?_
  exact wpAny_bind (wpAny_pure (wpAny_bind (wpAny_pure (wpAny_pure h'))))
end
noncomputable def clsPos : Stmt → Pos
  | .ClassDef _ _ _ _ _ _ _ _ _ _ p => p
  | _ => default
theorem c_cmp {w : World} {A : Around} {b h : Heap} {g : Array GenState} {d : Drawn} {t : Nat} {os : OsState} {f : Addr} {R : Result → Shared → Prop} {T0 : List (Addr × Obj)} (G : Gr w b) (O : Own b ((43, tabObj #[]) :: T0) h) (hA : A.depth + 20 < recursionLimit)
    (q : ∀ K c TK ps h' t', KCls c K TK → Own b (TK ++ (c, cellO (some (.ref f))) :: (43, tabObj ps) :: T0) h' → R (.ok (.ret (.ref K))) ⟨h', g, d, t', os⟩) :
    codeAny (model PG w) A (.call (.ref 48) ⟨[.ref f], []⟩) R ⟨h, g, d, t, os⟩ := by
  refine c_cmp_in G O hA fun L c h1 t1 O1 => ?_
  conv => arg 3; arg 1; whnf
  refine wpAny_execs_cons ?_
  rw [arm_exec_ClassDef]
  refine wpAny_bind (evalAll_nil ?_)
  refine wpAny_bind (wpAny_standAt (wpAny_bind (lf_guard G O1 ?_)))
  refine wpAny_bind (wpAny_holding (wpAny_bind (evalArgs_one (lf_objName G O1 ?_))))
  refine wpAny_bind (wpAny_standAt (wpAny_holding ?_))
  rw [show qualnameIn (ev48 L c) (Str.ofString "K") (Str.ofString "K") = qK from by kernel_rfl]
  refine bc_rule (by decide +kernel) (by decide +kernel) ?_
  refine wpAny_newTuple (s := ⟨h1, g, d, t1, os⟩) ?_ (by decide)
  have O2 := O1.push { cls := .type "tuple", data := .seq #[.type "object"] } rfl
  generalize h1.objs.size = gT at O2 ⊢
  generalize hh2 : h1.push { cls := .type "tuple", data := .seq #[.type "object"] } = h2 at O2
  have e2 : h1.push { cls := .type "tuple", data := .seq [Value.type "object"].toArray } = h2 := hh2
  simp only [e2]
  refine wpAny_mkText ?_
  refine lf_prep G O2 fun p h3 t3 O3 => ⟨_, rfl, ?_⟩
  refine lf_callPrep G O3 (List.mem_cons_self ..) fun nsA h4 t4 hgt O4 => ⟨nsA, rfl, Nat.ne_of_gt hgt, ?_⟩
  refine lf_gi G O4 (List.mem_cons_self ..) fun v hv => ⟨hv, ?_⟩
  have O5 := O4.sel (T' := (43, tabObj #[]) :: (nsA, nsO [] 0) :: (gT, { cls := .type "tuple", data := .seq #[.type "object"] }) :: (L, frm) :: (c, cellO (some (.ref f))) :: T0) 6 [5, 0, 2, 3, 4] (by decide +kernel) rfl
  refine lf_code G O5 fun C P oc h6 t6 X1 X2 O6 => ?_
  refine lf_bf G O6 ?_
  refine lf_fr G O6 fun fr h7 tf O7 => ?_
  refine wpAny_of_eq (show closureFor scK (ev48 L c) = pure [(Str.ofString "mycmp", c)] by with_unfolding_all rfl) ?_
  refine wpAny_enterFrame (G.keeps O7.keep).noLimit (by show A.depth + 1 < _; omega) ?_
  have O8 := O7.sel (T' := (nsA, nsO [] 0) :: (P, tabObj [].toArray) :: (C, oc) :: (fr, frK (.ref C) nsA (.str (Str.ofString "law_oy0135_01") tf)) :: (43, tabObj #[rawInt 31, rawInt 4, .ref C]) :: (gT, { cls := .type "tuple", data := .seq #[.type "object"] }) :: (L, frm) :: (c, cellO (some (.ref f))) :: T0) 8 [4, 2, 1, 0, 3, 5, 6, 7] (by decide +kernel) rfl
  refine k_head G O8 fun h9 t9 H1 H2 H3 t1' t2' t3' u1 u2 u3 O9 => ?_
  refine k_body G X1 O9 fun h10 t10 H1 H2 H3 H4 H5 H6 H7 H8 H9 H10 H11 s1 s2 s3 s4 s5 s6 s7 s8 s9 s10 s11 u1 u2 u3 u4 sl f0 c0 d0 p0 v0 f1 c1 d1 p1 v1 f2 c2 d2 p2 v2 f3 c3 d3 p3 v3 f4 c4 d4 p4 v4 f5 c5 d5 p5 v5 oc0 oc1 n0 n1 O10 => ?_
  refine k_tail G O10 fun h11 t11 sa H12 s12 u5 O11 => ?_
  have O12 := O11.sel (T' := ledB H1 H2 H3 H4 H5 H6 H7 H8 H9 H10 H11 H12 s1 s2 s3 s4 s5 s6 s7 s8 s9 s10 s11 s12 u1 u2 u3 u4 u5 t1 nsA sl f0 c0 f1 c1 f2 c2 f3 c3 f4 c4 f5 c5 c sa gT d0 p0 v0 d1 p1 v1 d2 p2 v2 d3 p3 v3 d4 p4 v4 d5 p5 v5 oc0 oc1 ((L, frm) :: (c, cellO (some (.ref f))) :: (43, tabObj #[rawInt 31, rawInt 4, .ref C]) :: T0)) 16 [13, 0, 1, 2, 3, 4, 5, 6, 7, 8, 9, 10, 14, 15, 12] (by decide +kernel) rfl
  refine k_call G O12 hgt n0 n1 fun K TK h13 t13 hk O13 => ?_
  have O14 : Own b ((L, frm) :: (TK ++ (c, cellO (some (.ref f))) :: (43, tabObj #[rawInt 31, rawInt 4, .ref C]) :: T0)) h13 := O13.perm List.perm_middle
  have hL0 : L ≠ 0 := G.ne0 (O14.new _ (List.mem_cons_self ..))
  have S := St.ofOwn O14
  refine wpAny_bind (wpAny_pure ?_)
  refine wpAny_bind (wpAny_standAt ?_)
  refine wpAny_bind ?_
  unfold bindName
  refine wpAny_bind (wpAny_holding (r_point (r_pure ?_)))
  refine wpAny_bind ?_
  refine n_store S hL0 rfl rfl rfl fun h15 t15 S15 => ?_
  refine r_point (r_pure ?_)
  refine wpAny_pure ?_
  dsimp only
  repeat (walk_at "ast")
  exact q K c TK _ h15 t15 hk S15.own
end
section
/-- the same frames, up to their slots -/
inductive SlR : List (Addr × Obj) → List (Addr × Obj) → Prop
  | nil : SlR [] []
  | cons {a : Addr} {o : Obj} {sl : Array (Option Value)} {T T' : List (Addr × Obj)} (r : SlR T T') : SlR ((a, o) :: T) ((a, { o with slots := sl }) :: T')
theorem SlR.keys {T T' : List (Addr × Obj)} (r : SlR T T') : T'.map (·.1) = T.map (·.1) := by
  induction r with
  | nil => rfl
  | cons _ ih => simp [ih]
theorem SlR.trans {T T' T'' : List (Addr × Obj)} (r : SlR T T') (s : SlR T' T'') : SlR T T'' := by
  induction r generalizing T'' with
  | nil => exact s
  | cons _ ih => cases s with | cons s => exact .cons (ih s)
theorem SlR.refl : ∀ T : List (Addr × Obj), SlR T T
  | [] => .nil
  | (_, o) :: T => SlR.cons (sl := o.slots) (SlR.refl T)
/-- the frames around stand for their surroundings -/
inductive FrOk : List Env → List (Addr × Obj) → Prop
  | nil : FrOk [] []
  | cons {env : Env} {a : Addr} {o : Obj} {l : List Env} {T : List (Addr × Obj)} (hk : env.scope.kind = .function) (hf : env.frame = some a) (hd : ∀ vs, o.data ≠ .fields vs) (r : FrOk l T) : FrOk (env :: l) ((a, o) :: T)
theorem FrOk.slots {l : List Env} {T T' : List (Addr × Obj)} (x : FrOk l T) (r : SlR T T') : FrOk l T' := by
  induction x generalizing T' with
  | nil => cases r; exact .nil
  | cons hk hf hd _ ih => cases r with | cons r => exact .cons hk hf hd (ih r)
theorem FrOk.keys {l : List Env} {T : List (Addr × Obj)} (x : FrOk l T) : l.filterMap (·.frame) = T.map (·.1) := by
  induction x with
  | nil => rfl
  | cons hk hf hd _ ih => rw [List.filterMap_cons, hf, ih]; rfl
theorem FrOk.fun {b h : Heap} {l : List Env} {T : List (Addr × Obj)} (x : FrOk l T) (hg : ∀ p ∈ T, h.get? p.1 = some p.2) (hn : ∀ p ∈ T, b.get? p.1 = none) : h.FunFrames b l := by
  induction x with
  | nil => trivial
  | cons hk hf hd _ ih =>
    exact ⟨by rw [hk]; decide, ⟨_, _, hf, hn _ (List.mem_cons_self ..), hg _ (List.mem_cons_self ..), hd⟩, ih (fun p hp => hg p (List.mem_cons_of_mem _ hp)) (fun p hp => hn p (List.mem_cons_of_mem _ hp))⟩
theorem slots_new {h' : Heap} : ∀ {fs : List (Addr × Obj)}, (∀ p ∈ fs, ∃ sl, h'.get? p.1 = some { p.2 with slots := sl }) → ∃ fs', SlR fs fs' ∧ ∀ p ∈ fs', h'.get? p.1 = some p.2
  | [], _ => ⟨[], .nil, fun _ hp => by cases hp⟩
  | (a, o) :: fs, H => by
    obtain ⟨fs', r, hg⟩ := slots_new fun p hp => H p (List.mem_cons_of_mem _ hp)
    obtain ⟨sl, e⟩ := H (a, o) (List.mem_cons_self ..)
    refine ⟨(a, { o with slots := sl }) :: fs', .cons r, fun p hp => ?_⟩
    rcases List.mem_cons.mp hp with rfl | hp
    · exact e
    · exact hg p hp
theorem St.slots {b h h' : Heap} {L : Addr} {m : Str → Option Value} {X fs : List (Addr × Obj)} (S : St b L m (X ++ fs) h) (h0 : L ≠ 0) (hs : Heap.SlotsOnly (L :: fs.map (·.1)) h h') : ∃ fs', SlR fs fs' ∧ St b L m (X ++ fs') h' := by
  obtain ⟨n, nl, off⟩ := S.fr.resolve_left h0
  obtain ⟨fs', r, hg⟩ := slots_new (h' := h') (fs := fs) fun p hp => hs.2.2 _ _ (S.own.get p (List.mem_append_right _ hp))
  have kk : (X ++ fs').map (·.1) = (X ++ fs).map (·.1) := by rw [List.map_append, List.map_append, r.keys]
  have keep : ∀ a o, a ∉ L :: fs.map (·.1) → h.get? a = some o → h'.get? a = some o := fun a o ha e => (hs.2.1 a ha).trans e
  refine ⟨fs', r, ⟨⟨by rw [kk]; exact S.own.nodup, fun p hp => ?_, fun a o e => ?_, fun p hp => ?_⟩, .inr ⟨?_, nl, by rw [kk]; exact off⟩⟩⟩
  · rcases List.mem_append.mp hp with hp | hp
    · refine keep _ _ (fun hm => ?_) (S.own.get p (List.mem_append_left _ hp))
      rcases List.mem_cons.mp hm with e | hm
      · exact off (by rw [← e]; exact List.mem_map.mpr ⟨p, List.mem_append_left _ hp, rfl⟩)
      · have nd := S.own.nodup
        rw [List.map_append, List.nodup_append] at nd
        exact nd.2.2 _ (List.mem_map.mpr ⟨p, hp, rfl⟩) _ hm rfl
    · exact hg p hp
  · refine keep _ _ (fun hm => ?_) (S.own.keep a o e)
    rcases List.mem_cons.mp hm with e' | hm
    · rw [e', nl] at e; cases e
    · obtain ⟨p, hp, e'⟩ := List.mem_map.mp hm
      rw [← e', S.own.new p (List.mem_append_right _ hp)] at e; cases e
  · have : p.1 ∈ (X ++ fs).map (·.1) := by rw [← kk]; exact List.mem_map.mpr ⟨p, hp, rfl⟩
    obtain ⟨p', hp', e⟩ := List.mem_map.mp this
    rw [← e]; exact S.own.new p' hp'
  · obtain ⟨o, es, ep, ho, hd, hr⟩ := n
    obtain ⟨sl, e⟩ := hs.2.2 _ _ ho
    exact ⟨_, es, ep, e, hd, hr⟩
theorem Put.append {a : Addr} {o o' : Obj} {T T' : List (Addr × Obj)} (h : Put a o o' T T') (fs : List (Addr × Obj)) : Put a o o' (T ++ fs) (T' ++ fs) := by
  induction h with
  | head => exact .head
  | tail _ ih => exact .tail ih
noncomputable abbrev exO (c : Value) (dct : Option Addr) (sl : Array (Option Value)) (t0 tb ctx cause sup last : Value) : Obj := { cls := c, dict := dct, data := .fields #[t0, tb, ctx, cause, sup, last], slots := sl }
noncomputable abbrev tbO (next : Value) (L : Addr) (fl : Value) (rest : List Value) : Obj := { cls := .type "traceback", dict := none, data := .fields ([next, .ref L, .none, fl, .none] ++ rest).toArray }
section
variable {w : World} {A : Around} {E : Value → Shared → Prop} {b h : Heap} {g : Array GenState} {d : Drawn} {t : Nat} {os : OsState} {L e : Addr} {m : Str → Option Value} {X fs : List (Addr × Obj)} {env : Env} {outer : List Env}
  {c : Value} {dct : Option Addr} {sl : Array (Option Value)} {t0 ctx cause sup last : Value}
theorem St.frames (S : St b L m (X ++ fs) h) (h0 : L ≠ 0) (hF : FrOk outer fs) (hf : env.frame = some L) (hk : env.scope.kind = .function) : h.FunFrames b (env :: outer) := by
  obtain ⟨⟨o, es, ep, ho, hd, _⟩, nl, off⟩ := S.fr.resolve_left h0
  exact ⟨by rw [hk]; decide, ⟨L, o, hf, nl, ho, fun vs q => by rw [hd] at q; cases q⟩, hF.fun (fun p hp => S.own.get p (List.mem_append_right _ hp)) fun p hp => S.own.new p (List.mem_append_right _ hp)⟩
/-- an exception without a trace comes to this frame -/
theorem nf_new {Y : Addr → List (Addr × Obj)} {Q : Unit → Shared → Prop} (hfr : A.frames = some (env :: outer)) (hF : FrOk outer fs) (hf : env.frame = some L) (hk : env.scope.kind = .function) (h0 : L ≠ 0) (S : St b L m (X ++ fs) h)
    (hp : ∀ tb, Put e (exO c dct sl t0 .none ctx cause sup last) (exO c dct sl t0 (.ref tb) ctx cause sup last) X (Y tb))
    (q : ∀ tb rest h' fs', SlR fs fs' → St b L m ((tb, tbO .none L (rawInt L) rest) :: (Y tb ++ fs')) h' → Q () ⟨h', g, d, t, os⟩) :
    wpAny (model PG w) A (noteFrame (.ref e) env) Q E ⟨h, g, d, t, os⟩ := by
  have hFF := S.frames h0 hF hf hk
  unfold noteFrame
  simp only [hf]
  refine wpAny_bind (wpAny_field (s := ⟨h, g, d, t, os⟩) (S.get (List.mem_append_left _ (hp 0).old)) rfl (x := .none) rfl ?_)
  rw [if_neg (by decide)]
  refine wpAny_bind (wpAny_frameOf_fun (s := ⟨h, g, d, t, os⟩) hfr hFF hf fun h₁ hs => ?_)
  rw [List.filterMap_cons, hf, hF.keys] at hs
  obtain ⟨fs', r, S₁⟩ := S.slots h0 hs
  refine wpAny_bind (wpAny_entryPlaceOf fun pl hpl => ?_)
  unfold EntryCells.newEntry newFields
  refine wpAny_bind (wpAny_newObj_type ?_ (hpl.sizeOk5 _ _ _ _ _))
  have S₂ := S₁.push (tbO .none L (rawInt L) (if pl.isEmpty then List.replicate 6 Value.none else pl)) rfl
  refine wpAny_setField (S₂.get (List.mem_cons_of_mem _ (List.mem_append_left _ (hp 0).old))) rfl (by simp) ?_
  exact q _ _ _ fs' r (S₂.update (f := Obj.mapFields (·.setIfInBounds 1 _)) (Put.tail ((hp _).append fs')) rfl)
/-- a traced exception, in flight nowhere, comes to this frame -/
theorem nf_next {Y : Addr → List (Addr × Obj)} {T₀ : Addr} {nx : Value} {L₀ : Addr} {rs : List Value} {Q : Unit → Shared → Prop} (hfr : A.frames = some (env :: outer)) (hF : FrOk outer fs) (hf : env.frame = some L) (hk : env.scope.kind = .function) (h0 : L ≠ 0) (S : St b L m (X ++ fs) h)
    (hT : Put T₀ (tbO nx L₀ .none rs) (tbO nx L₀ .none rs) X X)
    (hp : ∀ tb, Put e (exO c dct sl t0 (.ref T₀) ctx cause sup last) (exO c dct sl t0 (.ref tb) ctx cause sup last) X (Y tb))
    (q : ∀ tb rest h' fs', SlR fs fs' → St b L m ((tb, tbO (.ref T₀) L (rawInt L) rest) :: (Y tb ++ fs')) h' → Q () ⟨h', g, d, t, os⟩) :
    wpAny (model PG w) A (noteFrame (.ref e) env) Q E ⟨h, g, d, t, os⟩ := by
  unfold noteFrame
  simp only [hf]
  refine wpAny_bind (wpAny_field (s := ⟨h, g, d, t, os⟩) (S.get (List.mem_append_left _ (hp 0).old)) rfl (x := .ref T₀) rfl ?_)
  rw [if_pos (show (Value.ref T₀ != Value.none) = true from by simp)]
  refine wpAny_bind (wpAny_field (s := ⟨h, g, d, t, os⟩) (S.get (List.mem_append_left _ hT.old)) rfl (x := .none) rfl ?_)
  rw [if_neg (show ¬ ((Value.none == rawInt L) = true) from by simp [rawInt])]
  refine wpAny_bind (wpAny_setField (s := ⟨h, g, d, t, os⟩) (S.get (List.mem_append_left _ hT.old)) rfl (by simp) ?_)
  have S₀ := S.update (f := Obj.mapFields (·.setIfInBounds 3 .none)) (T' := X ++ fs) (a := T₀) (o := tbO nx L₀ .none rs) (by
    have : (tbO nx L₀ .none rs).mapFields (·.setIfInBounds 3 .none) = tbO nx L₀ .none rs := by simp [Obj.mapFields]
    rw [this]; exact hT.append fs) rfl
  have hFF := S₀.frames h0 hF hf hk
  refine wpAny_bind (wpAny_frameOf_fun (s := ⟨_, g, d, t, os⟩) hfr hFF hf fun h₁ hs => ?_)
  rw [List.filterMap_cons, hf, hF.keys] at hs
  obtain ⟨fs', r, S₁⟩ := S₀.slots h0 hs
  refine wpAny_bind (wpAny_entryPlaceOf fun pl hpl => ?_)
  unfold EntryCells.newEntry newFields
  refine wpAny_bind (wpAny_newObj_type ?_ (hpl.sizeOk5 _ _ _ _ _))
  have S₂ := S₁.push (tbO (.ref T₀) L (rawInt L) (if pl.isEmpty then List.replicate 6 Value.none else pl)) rfl
  refine wpAny_setField (S₂.get (List.mem_cons_of_mem _ (List.mem_append_left _ (hp 0).old))) rfl (by simp) ?_
  exact q _ _ _ fs' r (S₂.update (f := Obj.mapFields (·.setIfInBounds 1 _)) (Put.tail ((hp _).append fs')) rfl)
/-- the exception was noted here before -/
theorem nf_again {T : List (Addr × Obj)} {T₀ : Addr} {nx : Value} {L₀ : Addr} {rs : List Value} {Q : Unit → Shared → Prop} (S : St b L m T h) (hf : env.frame = some L)
    (he : (e, exO c dct sl t0 (.ref T₀) ctx cause sup last) ∈ T) (ht : (T₀, tbO nx L₀ (rawInt L) rs) ∈ T) (q : Q () ⟨h, g, d, t, os⟩) : wpAny (model PG w) A (noteFrame (.ref e) env) Q E ⟨h, g, d, t, os⟩ :=
  wpAny_noteFrame_inFlight (s := ⟨h, g, d, t, os⟩) hf (S.get he) rfl rfl (S.get ht) rfl rfl q
/-- the exception lands -/
theorem sf_set {T T' : List (Addr × Obj)} {T₀ : Addr} {nx fl : Value} {L₀ : Addr} {rs : List Value} {fo : Option Addr} {Q : Unit → Shared → Prop} (S : St b L m T h)
    (he : (e, exO c dct sl t0 (.ref T₀) ctx cause sup last) ∈ T) (ht : Put T₀ (tbO nx L₀ fl rs) (tbO nx L₀ (fo.elim .none fun f => rawInt f) rs) T T') (q : ∀ h', St b L m T' h' → Q () ⟨h', g, d, t, os⟩) : wpAny (model PG w) A (setFlight (.ref e) fo) Q E ⟨h, g, d, t, os⟩ := by
  unfold setFlight
  refine wpAny_bind (wpAny_field (s := ⟨h, g, d, t, os⟩) (S.get he) rfl (x := .ref T₀) rfl ?_)
  rw [if_pos (show (Value.ref T₀ != Value.none) = true from by simp)]
  refine wpAny_setField (s := ⟨h, g, d, t, os⟩) (S.get ht.old) rfl (by simp) (q _ (S.update (a := T₀) (o := tbO nx L₀ fl rs) (f := Obj.mapFields (·.setIfInBounds 3 _)) ?_ rfl))
  have : (tbO nx L₀ fl rs).mapFields (·.setIfInBounds 3 (fo.elim .none fun f => rawInt f)) = tbO nx L₀ (fo.elim .none fun f => rawInt f) rs := by simp [Obj.mapFields]
  rw [this]; exact ht
end
end
section
noncomputable abbrev fzO (led : Bool) : Obj := { cls := .type "frozenset", dict := none, data := .set #[] 0 (.fresh 0 0 led) }
theorem sub_fz : isSubtype (.type "frozenset") (.type "frozenset") = pure true := by rw [isSubtype_type]; kernel_rfl
theorem mro_fz : mroOf (.type "frozenset") = pure [.type "frozenset", .type "object"] := by rw [mroOf_type]; kernel_rfl
theorem lk_fz_new : typeLookup (.type "frozenset") "__new__" = pure (some (.builtin "frozenset.__new__")) := by rw [typeLookup_type, builtinLookup_eq_fast]; kernel_rfl
theorem slot_fz_init : Slot "frozenset" "__init__" "object.__init__" :=
  .of (owner := "object") (n := "__init__") (by rw [typeLookup_type, builtinLookup_eq_fast]; kernel_rfl) (by decide +kernel) (by decide +kernel) (by decide +kernel)
    (by first | exact .inl (by decide +kernel) | exact .inr (by decide +kernel)) (by rw [isSubtype_type]; kernel_rfl)
theorem called_fz : TypeCalled "frozenset" "frozenset.__new__" "object.__init__" :=
  ⟨by decide +kernel, by decide +kernel, ⟨_, _, mro_fz⟩, madeBy_type mro_fz lk_fz_new (by decide +kernel), by decide +kernel, sub_fz, slot_fz_init⟩
theorem tc_fz : checkTypeCall "frozenset" ⟨[], []⟩ = pure () := (congrFun (congrFun PySem.W.Fast.te11612656972197000677 _) _).trans (by kernel_rfl)
theorem nc_fz : checkBuiltinCall "frozenset.__new__" ⟨[.type "frozenset"], []⟩ = pure () := (congrFun (congrFun PySem.W.Fast.te10254737850608025244 _) _).trans (by kernel_rfl)
theorem slot_fz_disj : Slot "frozenset" "isdisjoint" "frozenset.isdisjoint" :=
  .of (owner := "frozenset") (n := "isdisjoint") (by rw [typeLookup_type, builtinLookup_eq_fast]; kernel_rfl) (by decide +kernel) (by decide +kernel) (by decide +kernel)
    (by first | exact .inl (by decide +kernel) | exact .inr (by decide +kernel)) (by rw [isSubtype_type]; kernel_rfl)
theorem args_fz_disj (a b : Value) : argsOk "frozenset.isdisjoint" ⟨[a, b], []⟩ := by unfold argsOk; rw [PySem.W.S.signatureZ_eq]; kernel_rfl
theorem fz_find {w : World} {A : Around} {E : Value → Shared → Prop} {s : Shared} {f : Addr} {led : Bool} {x : Str} {u : Tok} {i : Int} {Q : Option Nat → Shared → Prop} (hf : s.heap.get? f = some (fzO led)) (q : Q none s) :
    wpAny (model PG w) A (setFind f (.str x u) i) Q E s := by
  unfold setFind setFindIn
  refine wpAny_bind (wpAny_setState_of hf rfl rfl ?_)
  dsimp only
  rw [if_pos (by simp [byScan, Value.scannable]; decide)]
  refine wpAny_bind (wpAny_rule ?_)
  have e : setScan f (.str x u) i false #[] = pure .absent := by
    unfold setScan
    dsimp only
    rw [if_pos (by simp)]
    delta setScanStrs; simp
  rw [e]
  exact wpAny_bind (wpAny_pure (wpAny_pure q))
theorem St.extNot {b h h' : Heap} {L it : Addr} {m : Str → Option Value} {T : List (Addr × Obj)} (S : St b L m T h) (hb : b.get? it = none) (hT : it ∉ T.map (·.1)) (hL : L ≠ it) (hx : ∀ a o, a ≠ it → h.get? a = some o → h'.get? a = some o) : St b L m T h' :=
  ⟨⟨S.own.nodup, fun p hp => hx _ _ (fun e => hT (by rw [← e]; exact List.mem_map.mpr ⟨p, hp, rfl⟩)) (S.own.get p hp), fun a o e => hx _ _ (fun q => by rw [q, hb] at e; cases e) (S.own.keep a o e), S.own.new⟩,
    S.fr.imp id fun ⟨n, nl, off⟩ => ⟨Heap.Ns.extBut n hx hL, nl, off⟩⟩
theorem fz_new {w : World} {A : Around} {E : Value → Shared → Prop} {b h : Heap} {g : Array GenState} {d : Drawn} {t : Nat} {os : OsState} {L : Addr} {m : Str → Option Value} {T : List (Addr × Obj)} {Q : Value → Shared → Prop} (S : St b L m T h)
    (q : ∀ f led h', St b L m ((f, fzO led) :: T) h' → Q (.ref f) ⟨h', g, d, t, os⟩) : wpAny (model PG w) A (call (.type "frozenset") []) Q E ⟨h, g, d, t, os⟩ := by
  refine callType_new (S := fun A R s => ∀ led, R (.ok (.ret (.ref s.heap.objs.size))) { s with heap := s.heap.push (fzO led) }) called_fz (by decide +kernel) tc_fz nc_fz (fun obj => by unfold argsOk; kernel_rfl) en_fz_new ?_ ?_
  · intro prog w A R s hS
    unfold Builtin.«frozenset.__new__» Builtin.Frozenset.newClass
    have hsub := sub_fz
    obtain ⟨hp, g, d, tk, os⟩ := s
    dsimp only
    wp_walk
    refine wpAny_of_eq slot_fz_init.lookup ?_
    rw [if_pos (by decide)]
    dsimp only
    wp_walk
    refine wpAny_askSetting (wpAny_pure ?_)
    dsimp only
    simp only [newObj]
    refine wpAny_bind (wpAny_alloc (wpAny_pure ?_))
    exact wpAny_pure (hS _)
  · intro led
    exact ⟨⟨_, Heap.get?_push_size _ rfl, rfl⟩, q _ _ _ (S.push _ rfl)⟩
theorem fz_loop {w : World} {A : Around} {b : Heap} {g : Array GenState} {d : Drawn} {os : OsState} {L it f : Addr} {led : Bool} {m : Str → Option Value} {T : List (Addr × Obj)} {R : Result → Shared → Prop} {x : Str} {In : Nat → Heap → Prop} {n : Nat}
    (W : ∀ A' : Around, A'.handled = none → Walks PG w A' it [it] [it] n (SignAt x) In) (hh : A.handled = none) (hb : b.get? it = none) (hT : it ∉ T.map (·.1)) (hL : L ≠ it) (hf : (f, fzO led) ∈ T)
    (q : ∀ h' t', St b L m T h' → R (.ok (.ret (.bool true))) ⟨h', g, d, t', os⟩) :
    ∀ k i h t, i + k = n → In i h → St b L m T h → codeAny (model PG w) A (.builtin "frozenset.isdisjoint.loop" ⟨[.ref f, .ref it], []⟩) R ⟨h, g, d, t, os⟩ := by
  intro k
  induction k with
  | zero =>
    intro i h t hi hI S
    refine c_builtin en_fz_loop ?_
    unfold Builtin.«frozenset.isdisjoint.loop»
    dsimp only
    refine wpAny_bind ((W (A.under (Code.builtin "frozenset.isdisjoint.loop" ⟨[.ref f, .ref it], []⟩)) hh).done ⟨h, g, d, t, os⟩ _ _ (by rw [← hi]; exact hI) fun h' tk hk => ?_)
    exact wpAny_pure (q _ _ (S.extNot hb hT hL fun a o ne e => hk a o (by simpa using ne) e))
  | succ k ih =>
    intro i h t hi hI S
    refine c_builtin en_fz_loop ?_
    unfold Builtin.«frozenset.isdisjoint.loop»
    dsimp only
    refine wpAny_bind ((W (A.under (Code.builtin "frozenset.isdisjoint.loop" ⟨[.ref f, .ref it], []⟩)) hh).item i ⟨h, g, d, t, os⟩ _ _ (by omega) hI fun v h' tk hv hI' hk => ?_)
    obtain ⟨c, u, hc, rfl⟩ := hv
    have S' := S.extNot (h' := h') hb hT hL fun a o ne e => hk a o (by simpa using ne) e
    dsimp only
    refine wpAny_bind (wpAny_holding ?_)
    unfold setContains
    refine wpAny_holding (wpAny_bind (wpAny_pyHash_str (wpAny_bind (fz_find (S'.get hf) (wpAny_pure ?_)))))
    exact wpAny_pure ⟨q_builtin (by decide +kernel), ih (i + 1) _ _ (by omega) hI' S'⟩
theorem fz_disj {w : World} {A : Around} {E : Value → Shared → Prop} {b h : Heap} {g : Array GenState} {d : Drawn} {t : Nat} {os : OsState} {L f : Addr} {led : Bool} {m : Str → Option Value} {T : List (Addr × Obj)} {Q : Value → Shared → Prop} {x : Str} {tx : Tok} (hh : A.handled = none) (S : St b L m T h) (h0 : L ≠ 0) (hf : (f, fzO led) ∈ T)
    (q : ∀ h' t', St b L m T h' → Q (.bool true) ⟨h', g, d, t', os⟩) : wpAny (model PG w) A (call (.builtin "frozenset.isdisjoint") [.ref f, .str x tx]) Q E ⟨h, g, d, t, os⟩ := by
  refine wpAny_call (codeAny_call_builtin slot_fz_disj.plain en_fz_disj (slot_fz_disj.check _ _ _ _ _ _ _ _ ⟨_, S.get hf, rfl⟩ (args_fz_disj _ _) ?_))
  show wpAny _ _ (do let it ← pyIter (.str x tx); again (.builtin "frozenset.isdisjoint.loop" ⟨[.ref f, it], []⟩)) _ _ _
  refine wpAny_bind (wpAny_pyIter_str fun o In W h1 => wpAny_pure ⟨q_builtin (by decide +kernel), ?_⟩)
  refine fz_loop W hh (Heap.StaysIn.fresh S.keep) (fun hm => ?_) (fun e => ?_) hf (fun h' t' S' => q h' t' S') _ 0 _ _ (Nat.zero_add _) h1 (S.grown fun a o' e => Heap.get?_push_of_some _ e)
  · obtain ⟨p, hp, e⟩ := List.mem_map.mp hm
    exact absurd (Heap.lt_size (S.own.get p hp)) (by rw [e]; exact Nat.lt_irrefl _)
  · obtain ⟨⟨o', _, _, ho, _⟩, _⟩ := S.fr.resolve_left h0
    exact absurd (Heap.lt_size ho) (by rw [e]; exact Nat.lt_irrefl _)
theorem plain_fz : PlainAttrs "frozenset" :=
  ⟨⟨"object.__getattribute__", by rw [typeLookup_type, builtinLookup_eq_fast]; kernel_rfl, by rw [PySem.W.S.canonicalZ_eq]; decide +kernel⟩, by rw [typeLookup_type, builtinLookup_eq_fast]; kernel_rfl⟩
theorem ty_fz_disj : typeOf (.builtin "frozenset.isdisjoint") = pure (.type "method_descriptor") := by show builtinType _ = _; rw [builtinType_eq_fast]; kernel_rfl
theorem fz_get {w : World} {A : Around} {E : Value → Shared → Prop} {b h : Heap} {g : Array GenState} {d : Drawn} {t : Nat} {os : OsState} {L f : Addr} {led : Bool} {m : Str → Option Value} {T : List (Addr × Obj)} {pl : Sem Bool} {Q : Value × List Value → Shared → Prop} (S : St b L m T h) (hf : (f, fzO led) ∈ T)
    (q : Q (.builtin "frozenset.isdisjoint", [.ref f]) ⟨h, g, d, t, os⟩) : wpAny (model PG w) A (getMethod (.ref f) (Str.ofString "isdisjoint") pl) Q E ⟨h, g, d, t, os⟩ :=
  getMethod_builtin (s := ⟨h, g, d, t, os⟩) ⟨_, S.get hf, rfl⟩ plain_fz slot_fz_disj ty_fz_disj (fun a e => by cases e; exact ⟨_, S.get hf, rfl⟩) q
end
section
/-- the first place of y in x from place k on -/
noncomputable def occ (x y : Str) (k : Nat) : Option Nat := (Builtin.Str.occurrences x y k x.length 1).head?
theorem gives_index_from (x y : Str) (i : Int) (t u v : Tok) (k : Nat) (rest : List Nat) (h : Builtin.Str.occurrences x y (fromIndex x.length i) x.length 1 = k :: rest) : Gives (Builtin.«str.index» ⟨[.str x t, .str y u, .int i v], []⟩) (.int k) := by
  show Gives (match Builtin.Str.occurrences x y (fromIndex x.length i) (min x.length x.length) 1 with | i :: _ => retInt i | [] => (do rule "str.index.not-found"; raiseError "ValueError" "substring not found")) _
  rw [Nat.min_self, h]
  exact .of_eq rfl
theorem raises_index_from (x y : Str) (i : Int) (t u v : Tok) (h : Builtin.Str.occurrences x y (fromIndex x.length i) x.length 1 = []) : Meets (Builtin.«str.index» ⟨[.str x t, .str y u, .int i v], []⟩) (raisesNew "ValueError") := by
  intro prog w A R s hS
  show wpAny _ _ (match Builtin.Str.occurrences x y (fromIndex x.length i) (min x.length x.length) 1 with | i :: _ => retInt i | [] => _) _ _ s
  rw [Nat.min_self, h]
  first
    | exact wpAny_bind (wpAny_rule (by exact_raiseError plainExc_ValueError hS.1 hS.2))
    | exact wpAny_bind (wpAny_rule (wpAny_bind (by exact_raiseError plainExc_ValueError hS.1 hS.2)))
theorem index_from {w : World} {A : Around} {E : Value → Shared → Prop} {h : Heap} {g : Array GenState} {d : Drawn} {t : Nat} {os : OsState} {x y : Str} {k : Nat} {tx ty tk : Tok} {Q : Value → Shared → Prop} (hh : A.handled = none)
    (h0 : occ x y k = none → ∀ h' t' e, Heap.NewExc h h' e "ValueError" → E (.ref e) ⟨h', g, d, t', os⟩) (h1 : ∀ i, occ x y k = some i → ∀ t' ti, Q (.int i ti) ⟨h, g, d, t', os⟩) :
    wpAny (model PG w) A (call (.builtin "str.index") [.str x tx, .str y ty, .int k tk]) Q E ⟨h, g, d, t, os⟩ := by
  have ek : fromIndex x.length (k : Int) = k := by unfold fromIndex; rw [if_neg (by omega)]; omega
  cases ho : Builtin.Str.occurrences x y k x.length 1 with
  | nil => exact call_meets F.slot_str_index (typeIs_str _ _ _) F.entry_str_index (F.args_str_index_3 _ _ _) (raises_index_from x y k tx ty tk (by rw [ek]; exact ho)) ⟨hh, fun h' t' e => h0 (by unfold occ; rw [ho]; rfl) h' t' e⟩
  | cons i rest =>
    refine call_meets F.slot_str_index (typeIs_str _ _ _) F.entry_str_index (F.args_str_index_3 _ _ _) (gives_index_from x y k tx ty tk i rest (by rw [ek]; exact ho)).meets ?_
    exact h1 i (by unfold occ; rw [ho]; rfl) _ _
end
section
theorem SubL.of_suffix {T : List (Addr × Obj)} : ∀ {T' : List (Addr × Obj)}, (∀ p ∈ T', p ∈ T) → SubL T T'
  | [], _ => .nil
  | _ :: _, h => .cons (h _ (List.mem_cons_self ..)) (SubL.of_suffix fun p hp => h p (List.mem_cons_of_mem _ hp))
theorem St.rebase {b h h1 : Heap} {L : Addr} {m : Str → Option Value} {T : List (Addr × Obj)} (O : Own b T h) (S : St h L m [] h1) : St b L m T h1 := by
  refine ⟨⟨O.nodup, fun p hp => S.keep _ _ (O.get p hp), fun a o e => S.keep _ _ (O.keep a o e), O.new⟩, S.fr.imp id fun ⟨n, nl, _⟩ => ⟨n, ?_, fun hm => ?_⟩⟩
  · cases q : b.get? L with
    | none => rfl
    | some o => rw [O.keep _ _ q] at nl; cases nl
  · obtain ⟨p, hp, e⟩ := List.mem_map.mp hm
    rw [← e, O.get p hp] at nl; cases nl
theorem St.adopt2 {b h h' : Heap} {L : Addr} {m m' : Str → Option Value} {T T' : List (Addr × Obj)} {e : Addr} {o : Obj} (S : St b L m T h) (S' : St b L m' T' h') (hk : ∀ a ∈ T'.map (·.1), a ∈ T.map (·.1) ∨ a ≠ e) (hn : h.get? e = none) (hg : h'.get? e = some o) : St b L m' ((e, o) :: T') h' := by
  have hb : b.get? e = none := by
    cases q : b.get? e with
    | none => rfl
    | some o' => rw [S.keep _ _ q] at hn; cases hn
  have off : e ∉ T'.map (·.1) := fun hm => by
    rcases hk e hm with hm | ne
    · obtain ⟨p, hp, rfl⟩ := List.mem_map.mp hm
      rw [S.own.get p hp] at hn; cases hn
    · exact ne rfl
  refine ⟨⟨List.nodup_cons.mpr ⟨off, S'.own.nodup⟩, fun p hp => ?_, S'.own.keep, fun p hp => ?_⟩, ?_⟩
  · rcases List.mem_cons.mp hp with rfl | hp
    · exact hg
    · exact S'.own.get p hp
  · rcases List.mem_cons.mp hp with rfl | hp
    · exact hb
    · exact S'.own.new p hp
  · rcases S'.fr with e0 | ⟨n, nl, of⟩
    · exact .inl e0
    · refine (Decidable.em (L = 0)).imp id fun h0 => ⟨n, nl, fun hm => ?_⟩
      rcases List.mem_cons.mp hm with e1 | hm
      · obtain ⟨⟨o1, _, _, ho, _⟩, _, _⟩ := S.fr.resolve_left h0
        have e1' : L = e := e1
        rw [e1', hn] at ho; cases ho
      · exact of hm
noncomputable def sc34P : { s : Scope // s = defScope (PB.getD 2 default) } := by
  refine ⟨?s, ?h⟩
  case h => (conv => rhs; whnf)
noncomputable def sc34 : Scope := sc34P.1
noncomputable def ev34 (L : Addr) : Env := { scope := sc34, locals := L, globals := mainGlobals, cells := [], qual := Str.ofString "skip_until" ++ ".<locals>.", func := some 34, code := .ref 33, frame := some L, builtins := builtinsNs }
/-- the table's code stands in the ground or in the ledger -/
noncomputable def TabIn (b : Heap) (X : List (Addr × Obj)) (ps : Array Value) : Prop := ps = #[] ∨ ∃ c' oc vs tq, ps = #[rawInt 18, rawInt 4, .ref c'] ∧ c' ≠ 36 ∧ (b.get? c' = some oc ∨ (c', oc) ∈ X) ∧ oc.data = .fields vs ∧ vs[1]? = some (.str (Str.ofString "suffixed_err.<locals>.coord_repr") tq)
/-- the table of codes as a call left it -/
noncomputable def TabOut (ps : Array Value) (X : List (Addr × Obj)) (ps' : Array Value) : Prop := (ps' = ps ∧ X = []) ∨ ∃ c' oc vs tq, X = [(c', oc)] ∧ ps' = #[rawInt 18, rawInt 4, .ref c'] ∧ c' ≠ 36 ∧ oc.data = .fields vs ∧ vs[1]? = some (.str (Str.ofString "suffixed_err.<locals>.coord_repr") tq)
theorem TabOut.in {b : Heap} {ps ps' : Array Value} {X : List (Addr × Obj)} (x : TabOut ps X ps') (y : TabIn b [] ps) : TabIn b X ps' := by
  rcases x with ⟨rfl, rfl⟩ | ⟨c', oc, vs, tq, rfl, h1, h2, h3, h4⟩
  · exact y
  · exact .inr ⟨c', oc, vs, tq, h1, h2, .inr (List.mem_cons_self ..), h3, h4⟩
theorem TabIn.at {b h : Heap} {ps : Array Value} (x : TabIn b [] ps) (k : Kp b h) : Tab36 h ps := by
  rcases x with rfl | ⟨c', oc, vs, tq, h1, h2, h3, h4, h5⟩
  · exact .inl rfl
  · exact .inr ⟨c', oc, vs, tq, h1, h2, k _ _ (h3.resolve_right (by simp)), h4, h5⟩
noncomputable def notFound (ex : Str) : Str := Str.ofString "Expected " ++ reprText ex ++ Str.ofString " (at end of document)"
theorem c_skip {w : World} {A : Around} {b h : Heap} {g : Array GenState} {d : Drawn} {t : Nat} {os : OsState} {src ex : Str} {k : Nat} {t1 t2 t3 : Tok} {f : Addr} {led : Bool} {ps : Array Value} {outer : List Env} {fs : List (Addr × Obj)} {R : Result → Shared → Prop} (G : Gr w b) (hh : A.handled = none) (hA : A.depth + 40 < recursionLimit)
    (hfr : A.frames = some outer) (hF : FrOk outer fs) (O : Own b ((36, tabObj ps) :: (f, fzO led) :: fs) h) (hps : TabIn b [] ps) (hs : src.length ≤ 200) (hx : (reprText ex).length ≤ 500) (hk : k ≤ 200)
    (q1 : ∀ i, occ src ex k = some i → ∀ h' t' ti, Own b ((36, tabObj ps) :: (f, fzO led) :: fs) h' → R (.ok (.ret (.int i ti))) ⟨h', g, d, t', os⟩)
    (q2 : occ src ex k = none → ∀ e2 tp tb2 L3 rest2 ctx tk h' t' ps' XX fs', SlR fs fs' → TabOut ps XX ps' → Own b ((tb2, tbO .none L3 .none rest2) :: (e2, exO (.ref 24) none #[] (.ref tp) (.ref tb2) ctx .none (.bool true) .none) :: (tp, msgO (notFound ex) tk) :: (36, tabObj ps') :: (f, fzO led) :: (XX ++ fs')) h' → R (.error (.ref e2)) ⟨h', g, d, t', os⟩) :
    codeAny (model PG w) A (.call (.ref 34) ⟨[.str src t1, .int k t2, .str ex t3], [(Str.ofString "error_on", .ref f), (Str.ofString "error_on_eof", .bool true)]⟩) R ⟨h, g, d, t, os⟩ := by
  have hsz : sizeLine = 16777216 := by decide
  have elen : (Str.ofString "Expected ").length = 9 := by decide +kernel
  have Gh : Gr w h := G.keeps O.keep
  refine' enterE ev34 [(Str.ofString "src", .str src t1), (Str.ofString "pos", .int k t2), (Str.ofString "expect", .str ex t3), (Str.ofString "error_on", .ref f), (Str.ofString "error_on_eof", .bool true)] Gh ?ho ?hd ?hcd ?hb ?hev (by omega) ?bind ?hcell ?hloc ?_ ?c1 ?c2 ?c3
  case ho => exact rfl
  case hd => exact rfl
  case hcd => exact rfl
  case hb => exact rfl
  case hev => intro L; rfl
  case bind => exact rfl
  case hcell => decide
  case hloc => exact locs rfl
  case c1 => exact rfl
  case c2 => exact rfl
  case c3 => exact rfl
  intro L h' t' hL0 S0
  have S := St.rebase O S0
  clear Gh S0
  repeat (walk_at "ast")
  refine wpAny_Try_except ?_
  repeat (walk_at "ast")
  refine index_from hh (fun ho h1 t1 e he => ?_) (fun i hi t1 ti => ?_)
  · obtain ⟨ob, tt, he1, hc, hd⟩ := he.there
    obtain ⟨c, dct, dt, sl⟩ := ob
    cases hc
    cases hd
    have S1 := S.adopt (S.grown he.keeps) rfl he.new he1
    have hfr' : (A.deeper (ev34 L)).frames = some (ev34 L :: outer) := by show A.frames.map _ = _; rw [hfr]; rfl
    refine nf_new (X := [(e, exO (.type "ValueError") dct sl tt .none .none .none (.bool false) .none), (36, tabObj ps), (f, fzO led)]) (Y := fun tb => [(e, exO (.type "ValueError") dct sl tt (.ref tb) .none .none (.bool false) .none), (36, tabObj ps), (f, fzO led)]) hfr' hF rfl rfl hL0 S1 (fun tb => Put.head) fun tb rest h2 fs' r S2 => ?_
    refine sf_set (fo := none) S2 (List.mem_cons_of_mem _ (List.mem_cons_self ..)) Put.head fun h3 S3 => ?_
    refine wpAny_handleBy_builtin (X := "ValueError") (T := "ValueError") (b := true) (by rw [isSubtype_type]; kernel_rfl) (by rw [isSubtype_type]; kernel_rfl) (by rw [isSubtype_type]; kernel_rfl) ?_
    repeat (walk_at "ast")
    refine ⟨rfl, ⟨_, S3.get (List.mem_cons_of_mem _ (List.mem_cons_self ..)), rfl⟩, ?_⟩
    rw [if_pos rfl]
    refine sf_set (fo := none) S3 (List.mem_cons_of_mem _ (List.mem_cons_self ..)) Put.head fun h4 S4 => ?_
    clear S3 S2 S1 S
    repeat (walk_at "ast")
    refine s_len (by omega) fun t₁ tk => ?_
    repeat (walk_at "ast")
    rename_i h₇ t₇ S₇
    rw [if_pos rfl]
    repeat (walk_at "ast")
    rw [arm_exec_Raise]
    refine wpAny_bind (wpAny_standAt ?_)
    unfold raiseStmt
    dsimp only [evalOpt, Option.map]
    refine wpAny_bind (wpAny_bind ?_)
    repeat (walk_at "ast")
    refine wpAny_JoinedStr ?_
    refine v_str fun t₂ => ⟨_, _, rfl, ?z2, ?_⟩
    case z2 => rw [str_empty, hsz]; decide +kernel
    refine wpAny_FormattedValue_repr ?_
    repeat (walk_at "ast")
    refine wpAny_pyReprObj_gives (s := ⟨_, g, d, _, os⟩) (typeIs_str _ _ _) F.slot_str_repr F.entry_str_repr (F.args_str_repr_1 _) (gives_str_repr ex t3) ?_ rfl (by omega)
    refine f_str (by omega) fun tk t₁ => ⟨_, _, rfl, ?z3, ?z4, ?_⟩
    case z3 => rw [str_empty, str_len, hsz, elen]; omega
    case z4 => rw [str_empty, str_len, hsz, elen]; omega
    rw [str_empty]
    repeat (walk_at "ast")
    refine wpAny_call ?_
    refine c_suf (S₇.hide G (P := 36) (o := tabObj ps) ?m) (by show A.depth + 1 + 30 < _; omega) (S₇.get ?m) (hps.at S₇.keep) (by omega) (by omega) ?z5 fun e2 tp h₈ t₈ ps' tk₈ x1 x2 x3 x4 x5 x6 x7 x8 => ?_
    case m => walk_at "mem"
    case z5 => rw [str_len, elen]; omega
    have S₈ := S₇.upd (T' := (tb, tbO .none L .none rest) :: (e, exO (.type "ValueError") dct sl tt (.ref tb) .none .none (.bool false) .none) :: (36, tabObj ps') :: (f, fzO led) :: fs') (Put.tail (Put.tail Put.head)) x1 x2
    obtain ⟨mm, XX, S₁₀, hX⟩ : ∃ mm XX, St b L mm ((e2, exO (.ref 24) none #[] (.ref tp) .none .none .none (.bool false) .none) :: (tp, msgO (notFound ex) tk₈) :: (tb, tbO .none L .none rest) :: (e, exO (.type "ValueError") dct sl tt (.ref tb) .none .none (.bool false) .none) :: (36, tabObj ps') :: (f, fzO led) :: (XX ++ fs')) h₈ ∧ TabOut ps XX ps' := by
      rcases x3 with ⟨rfl, hne⟩ | ⟨rfl, c', oc, vs, tq, y1, y2, y3, y4, y5, y6⟩
      · refine ⟨_, [], S₇.adopt2 (S₇.adopt S₈ rfl x5 x8) (fun a ha => ?_) x4 x7, .inl ⟨rfl, rfl⟩⟩
        rcases List.mem_cons.mp ha with rfl | ha
        · exact .inr x6.symm
        · exact .inl ha
      · have S₉ := S₇.adopt S₈ rfl y3 y4
        have S₉' := S₉.pick (T' := (tb, tbO .none L .none rest) :: (e, exO (.type "ValueError") dct sl tt (.ref tb) .none .none (.bool false) .none) :: (36, tabObj ps') :: (f, fzO led) :: (c', oc) :: fs') (.cons (List.mem_cons_of_mem _ (List.mem_cons_self ..)) (.cons (List.mem_cons_of_mem _ (List.mem_cons_of_mem _ (List.mem_cons_self ..))) (.cons (List.mem_cons_of_mem _ (List.mem_cons_of_mem _ (List.mem_cons_of_mem _ (List.mem_cons_self ..)))) (.cons (List.mem_cons_of_mem _ (List.mem_cons_of_mem _ (List.mem_cons_of_mem _ (List.mem_cons_of_mem _ (List.mem_cons_self ..))))) (.cons (List.mem_cons_self ..) (SubL.of_suffix (fun p hp => List.mem_cons_of_mem _ (List.mem_cons_of_mem _ (List.mem_cons_of_mem _ (List.mem_cons_of_mem _ (List.mem_cons_of_mem _ hp))))))))))) (by
          intro hn
          simp only [List.map_cons, List.nodup_cons, List.mem_cons, not_or] at hn ⊢
          grind)
        have ce : c' ≠ e2 := fun q => by rw [q, x7] at y4; cases y4; cases y5; simp at y6
        have ct : c' ≠ tp := fun q => by rw [q, x8] at y4; cases y4; cases y5
        refine ⟨_, [(c', oc)], S₇.adopt2 (S₇.adopt2 S₉' (fun a ha => ?_) x5 x8) (fun a ha => ?_) x4 x7, .inr ⟨c', oc, vs, tq, rfl, y1, y2, y5, y6⟩⟩
        · by_cases q : a = c'
          · exact .inr (by rw [q]; exact ct)
          · refine .inl ?_
            simp only [List.map_cons, List.map_append, List.mem_cons, List.map_nil, List.nil_append, List.cons_append] at ha ⊢
            grind
        · by_cases q : a = c'
          · exact .inr (by rw [q]; exact ce)
          · rcases List.mem_cons.mp ha with rfl | ha
            · exact .inr x6.symm
            · refine .inl ?_
              simp only [List.map_cons, List.map_append, List.mem_cons, List.map_nil, List.nil_append, List.cons_append] at ha ⊢
              grind
    clear S₈ S₇
    dsimp only
    repeat (walk_at "rw")
    have ne : (Value.ref e != Value.ref e2) = true := by
      have nd := S₁₀.own.nodup
      simp only [List.map_cons, List.nodup_cons, List.mem_cons, not_or] at nd
      simp only [bne_iff_ne, ne_eq, Value.ref.injEq]
      grind
    show wpAny _ _ (if (Value.ref e != Value.ref e2) = true then (do let _ ← holding [.ref e2] (runValue (.builtin "proto.unchain" ⟨[.ref e2, .ref e, .ref e, .bool false], []⟩)); updateField e2 2 (.ref e); throw (.ref e2)) else throw (.ref e2)) _ _ _
    rw [if_pos ne]
    clear S₁₀
    repeat (walk_at "rw")
    refine c_builtin en_unchain ?_
    repeat (walk_at "rw")
    dsimp only
    repeat (walk_at "rw")
    rename_i S₁₁
    refine nf_new (X := (e2, exO (.ref 24) none #[] (.ref tp) .none (.ref e) .none (.bool true) .none) :: (tp, msgO (notFound ex) tk₈) :: (tb, tbO .none L .none rest) :: (e, exO (.type "ValueError") dct sl tt (.ref tb) .none .none (.bool false) .none) :: (36, tabObj ps') :: (f, fzO led) :: XX) (Y := fun tb2 => (e2, exO (.ref 24) none #[] (.ref tp) (.ref tb2) (.ref e) .none (.bool true) .none) :: (tp, msgO (notFound ex) tk₈) :: (tb, tbO .none L .none rest) :: (e, exO (.type "ValueError") dct sl tt (.ref tb) .none .none (.bool false) .none) :: (36, tabObj ps') :: (f, fzO led) :: XX) hfr' (hF.slots r) rfl rfl hL0 S₁₁ (fun tb => Put.head) fun tb2 rest2 h₁₂ fs₂ r₂ S₁₂ => ?_
    unfold cameBackBy
    refine wpAny_bind (wpAny_field (s := ⟨_, g, d, _, os⟩) (S₁₂.get (List.mem_cons_of_mem _ (List.mem_cons_self ..))) rfl (x := .ref tb2) rfl ?_)
    rw [if_neg (by simp)]
    refine sf_set (fo := some L) S₁₂ (List.mem_cons_of_mem _ (List.mem_cons_self ..)) Put.head fun h₁₃ S₁₃ => ?_
    unfold leaving
    refine wpAny_bind (nf_again S₁₃ rfl (List.mem_cons_of_mem _ (List.mem_cons_self ..)) (List.mem_cons_self ..) ?_)
    refine sf_set (fo := none) S₁₃ (List.mem_cons_of_mem _ (List.mem_cons_self ..)) Put.head fun h₁₄ S₁₄ => ?_
    refine q2 ho e2 tp tb2 L rest2 (.ref e) tk₈ h₁₄ _ ps' XX fs₂ (r.trans r₂) hX (S₁₄.own.sub ?_)
    exact .cons₂ _ (.cons₂ _ (.cons₂ _ (.cons _ (.cons _ (.refl _)))))
  repeat (walk_at "ast")
  refine fz_get (by assumption) (List.mem_cons_of_mem _ (List.mem_cons_self ..)) ?_
  repeat (walk_at "ast")
  refine' st_slice (l := some ((k : Int), t2)) (u := some ((i : Int), ti)) (by assumption) ?m (by omega) (fun tk t₅ => ?_)
  case m => walk_at "mem"
  repeat (walk_at "ast")
  refine' fz_disj hh (by assumption) hL0 ?m (fun h₆ t₆ S₆ => ?_)
  case m => walk_at "mem"
  repeat (walk_at "ast")
  rw [if_neg (by decide)]
  repeat (walk_at "ast")
  exact q1 i hi _ _ _ (S₆.own.sub (List.sublist_cons_self ..))
end
section
/-- the class stands in the ground -/
noncomputable def KIn (b : Heap) (TK : List (Addr × Obj)) : Prop := ∀ p ∈ TK, b.get? p.1 = some p.2
theorem lookup_mem {a : Addr} {o : Obj} : ∀ {T : List (Addr × Obj)}, T.lookup a = some o → (a, o) ∈ T
  | [], h => by cases h
  | (b, o') :: T, h => by
    rw [List.lookup_cons] at h
    by_cases q : a = b
    · subst q; simp at h; subst h; exact List.mem_cons_self ..
    · rw [show (a == b) = false from by rw [beq_eq_false_iff_ne]; exact q] at h
      exact List.mem_cons_of_mem _ (lookup_mem h)
theorem KIn.frag {b : Heap} {TK : List (Addr × Obj)} (h : KIn b TK) : Frag.In TK b := fun a o e => h (a, o) (lookup_mem e)
theorem lookup_nodup {a : Addr} {o : Obj} : ∀ {T : List (Addr × Obj)}, (T.map (·.1)).Nodup → (a, o) ∈ T → T.lookup a = some o
  | [], _, h => by cases h
  | (b, o') :: T, n, h => by
    have n' := List.nodup_cons.mp n
    rw [List.lookup_cons]
    rcases List.mem_cons.mp h with e | h
    · cases e; simp
    · have ne : a ≠ b := fun e => n'.1 (by rw [← e]; exact List.mem_map.mpr ⟨_, h, rfl⟩)
      rw [show (a == b) = false from by rw [beq_eq_false_iff_ne]; exact ne]
      exact lookup_nodup n'.2 h
noncomputable abbrev sObj : Str := Str.ofString "obj"
/-- what is known of K -/
structure KFacts (TK : Frag) (c K md f0 c0 f1 c1 : Addr) : Prop where
  init : findIn TK (.ref K) "__init__" = some (some (.ref f0))
  lt : findIn TK (.ref K) "__lt__" = some (some (.ref f1))
  sa : findIn TK (.ref K) "__setattr__" = some (some (.builtin "object.__setattr__"))
  ga : findIn TK (.ref K) "__getattribute__" = some (some (.builtin "object.__getattribute__"))
  gh : findIn TK (.ref K) "__getattr__" = some none
  attr : findIn TK (.ref K) sObj = some (some (.ref md))
  cls : (clsIn TK K).isSome = true
  over : plainOver TK K = true
  mks : makesIn TK K = true
  slot : slotIn TK md K = some 0
  spg : specialIn TK (.ref md) "__get__" = some (some (.builtin "member_descriptor.__get__"))
  sps : takesIn TK (.ref md) = some true
  tmd : typeIn TK (.ref md) = some (.type "member_descriptor")
  tf0 : typeIn TK (.ref f0) = some (.type "function")
  tf1 : typeIn TK (.ref f1) = some (.type "function")
  o0 : ∃ d0 p0 v0 oc0, TK.lookup f0 = some (mth 0 [] d0 p0 c0 v0) ∧ TK.lookup c0 = some oc0 ∧ CodeNm oc0 (Str.ofString "cmp_to_key.<locals>.K.__init__")
  o1 : ∃ d1 p1 v1 oc1, TK.lookup f1 = some (mth 1 [(Str.ofString "mycmp", c)] d1 p1 c1 v1) ∧ TK.lookup c1 = some oc1 ∧ CodeNm oc1 (Str.ofString "cmp_to_key.<locals>.K.__lt__")
section
variable {H1 H2 H3 H4 H5 H6 H7 H8 H9 H10 H11 H12 H13 H14 : Int} {t1 t2 t3 t4 t5 t6 t7 t8 t9 t10 t11 t12 t13 t14 td u1 u2 u3 u6 : Tok} {sl f0 c0 f1 c1 f2 f3 f4 f5 c sa gT md K ns : Addr} {d0 p0 v0 d1 p1 v1 : Value} {oc0 oc1 : Obj}
theorem k_facts0 (nd : ((ledK H1 H2 H3 H4 H5 H6 H7 H8 H9 H10 H11 H12 H13 H14 t1 t2 t3 t4 t5 t6 t7 t8 t9 t10 t11 t12 t13 t14 td u1 u2 u3 u6 sl f0 c0 f1 c1 f2 f3 f4 f5 c sa gT md K ns d0 p0 v0 d1 p1 v1 oc0 oc1).map (·.1)).Nodup) (n0 : CodeNm oc0 (Str.ofString "cmp_to_key.<locals>.K.__init__")) (n1 : CodeNm oc1 (Str.ofString "cmp_to_key.<locals>.K.__lt__")) : KFacts (ledK H1 H2 H3 H4 H5 H6 H7 H8 H9 H10 H11 H12 H13 H14 t1 t2 t3 t4 t5 t6 t7 t8 t9 t10 t11 t12 t13 t14 td u1 u2 u3 u6 sl f0 c0 f1 c1 f2 f3 f4 f5 c sa gT md K ns d0 p0 v0 d1 p1 v1 oc0 oc1) c K md f0 c0 f1 c1 := by
  have lK := lookup_nodup nd (a := K) (by walk_at "mem")
  have lns := lookup_nodup nd (a := ns) (by walk_at "mem")
  have lmd := lookup_nodup nd (a := md) (by walk_at "mem")
  have lf0 := lookup_nodup nd (a := f0) (by walk_at "mem")
  have lc0 := lookup_nodup nd (a := c0) (by walk_at "mem")
  have lf1 := lookup_nodup nd (a := f1) (by walk_at "mem")
  have lc1 := lookup_nodup nd (a := c1) (by walk_at "mem")
  generalize ledK H1 H2 H3 H4 H5 H6 H7 H8 H9 H10 H11 H12 H13 H14 t1 t2 t3 t4 t5 t6 t7 t8 t9 t10 t11 t12 t13 t14 td u1 u2 u3 u6 sl f0 c0 f1 c1 f2 f3 f4 f5 c sa gT md K ns d0 p0 v0 d1 p1 v1 oc0 oc1 = TK at lK lns lmd lf0 lc0 lf1 lc1 ⊢
  have own : ∀ (x : Str) (r : Option (Option Value)), (match ([ent H1 (Str.ofString "__module__") t1 (.str (Str.ofString "cpy313.functools") u1), ent H3 (Str.ofString "__firstlineno__") t3 (.int 31 u3), ent H4 (Str.ofString "__slots__") t4 (.ref sl), ent H5 (Str.ofString "__init__") t5 (.ref f0), ent H6 (Str.ofString "__lt__") t6 (.ref f1), ent H7 (Str.ofString "__gt__") t7 (.ref f2), ent H8 (Str.ofString "__eq__") t8 (.ref f3), ent H9 (Str.ofString "__le__") t9 (.ref f4), ent H10 (Str.ofString "__ge__") t10 (.ref f5), ent H11 (Str.ofString "__hash__") t11 .none, ent H12 (Str.ofString "__static_attributes__") t12 (.ref sa), ent H13 (Str.ofString "obj") t13 (.ref md), ent H14 (Str.ofString "__doc__") t14 .none] : List DictEntry).find? (·.key.isStr x) with | some e => some (some e.val) | none => if ([ent H1 (Str.ofString "__module__") t1 (.str (Str.ofString "cpy313.functools") u1), ent H3 (Str.ofString "__firstlineno__") t3 (.int 31 u3), ent H4 (Str.ofString "__slots__") t4 (.ref sl), ent H5 (Str.ofString "__init__") t5 (.ref f0), ent H6 (Str.ofString "__lt__") t6 (.ref f1), ent H7 (Str.ofString "__gt__") t7 (.ref f2), ent H8 (Str.ofString "__eq__") t8 (.ref f3), ent H9 (Str.ofString "__le__") t9 (.ref f4), ent H10 (Str.ofString "__ge__") t10 (.ref f5), ent H11 (Str.ofString "__hash__") t11 .none, ent H12 (Str.ofString "__static_attributes__") t12 (.ref sa), ent H13 (Str.ofString "obj") t13 (.ref md), ent H14 (Str.ofString "__doc__") t14 .none] : List DictEntry).any (·.refKey) then none else some none) = r → ownIn TK x (.ref K) = r := by
    intro x r e
    unfold ownIn
    dsimp only
    rw [lK]
    show nsIn TK ns x = r
    unfold nsIn
    rw [lns]
    exact e
  have fnd : ∀ (x : Str) (v : Value), ownIn TK x (.ref K) = some (some v) → findIn TK (.ref K) x = some (some v) := by
    intro x v e
    unfold findIn
    dsimp only
    rw [lK]
    show alongIn TK x [.ref K, .type "object"] = _
    unfold alongIn
    rw [e]
  have fno : ∀ (x : Str) (r : Option Value), ownIn TK x (.ref K) = some none → fastBuiltinOwn "object" x = r → findIn TK (.ref K) x = some r := by
    intro x r e e2
    unfold findIn
    dsimp only
    rw [lK]
    show alongIn TK x [.ref K, .type "object"] = _
    unfold alongIn
    rw [e]
    show alongIn TK x [.type "object"] = _
    have e3 : ownIn TK x (.type "object") = some r := by unfold ownIn; exact congrArg some e2
    unfold alongIn
    rw [e3]
    cases r <;> rfl
  have tK : typeIn TK (.ref K) = some (.type "type") := by unfold typeIn; dsimp only; rw [lK]; rfl
  have tmd : typeIn TK (.ref md) = some (.type "member_descriptor") := by unfold typeIn; dsimp only; rw [lmd]; rfl
  have cK : clsIn TK K = some (cd2 [.ref K, .type "object"] ns qK false [Str.ofString "obj"]) := by unfold clsIn; rw [lK]
  have spK : ∀ (x : Str) (r : Option Value), fastLookup "type" x = some r → specialIn TK (.ref K) x = some r := by
    intro x r e
    unfold specialIn
    rw [tK]; exact e
  have spm : ∀ (x : Str) (r : Option Value), fastLookup "member_descriptor" x = some r → specialIn TK (.ref md) x = some r := by
    intro x r e
    unfold specialIn
    rw [tmd]; exact e
  have hset : specialIn TK (.ref md) "__set__" = some (some (.builtin "member_descriptor.__set__")) := spm _ _ (by kernel_rfl)
  refine ⟨fnd _ _ (own _ _ (by kernel_rfl)), fnd _ _ (own _ _ (by kernel_rfl)), fno _ _ (own _ _ (by kernel_rfl)) (by kernel_rfl), fno _ _ (own _ _ (by kernel_rfl)) (by kernel_rfl), fno _ _ (own _ _ (by kernel_rfl)) (by kernel_rfl), fnd _ _ (own _ _ (by kernel_rfl)), ?_, ?_, ?_, ?_, spm _ _ (by kernel_rfl), ?_, tmd, ?_, ?_, ⟨d0, p0, v0, oc0, lf0, lc0, n0⟩, ⟨d1, p1, v1, oc1, lf1, lc1, n1⟩⟩
  · rw [cK]; rfl
  · unfold plainOver; rw [cK]; rfl
  · unfold makesIn
    rw [lK]
    have i1 : instIn TK (.ref K) (.type "type") = some true := by
      unfold instIn; rw [tK]; kernel_rfl
    have i2 : specialIn TK (.ref K) "__call__" = some (some (.builtin "type.__call__")) := spK _ _ (by kernel_rfl)
    dsimp only
    rw [i1, i2]
    simp
  · unfold slotIn
    have r1 : recIn TK md "member_descriptor" = some [.str (Str.ofString "obj") td, .ref K, .builtin "proto.slot", .builtin "proto.slot#set", .int 0 0] := by
      unfold recIn; rw [lmd]; rfl
    rw [r1, cK]
    simp
  · unfold takesIn; rw [hset]
  · unfold typeIn; dsimp only; rw [lf0]; rfl
  · unfold typeIn; dsimp only; rw [lf1]; rfl
end
theorem KCls.facts {c K : Addr} {TK : List (Addr × Obj)} (k : KCls c K TK) (nd : (TK.map (·.1)).Nodup) : ∃ md f0 c0 f1 c1, KFacts TK c K md f0 c0 f1 c1 := by
  obtain ⟨H1, H2, H3, H4, H5, H6, H7, H8, H9, H10, H11, H12, H13, H14, t1, t2, t3, t4, t5, t6, t7, t8, t9, t10, t11, t12, t13, t14, td, u1, u2, u3, u6, sl, f0, c0, f1, c1, f2, f3, f4, f5, sa, gT, md, ns, d0, p0, v0, d1, p1, v1, oc0, oc1, rfl, n0, n1⟩ := k
  exact ⟨md, f0, c0, f1, c1, k_facts0 nd n0 n1⟩
end
section
noncomputable def scIP : { s : Scope // s = defScope (kDef 0) } := by
  refine ⟨?s, ?h⟩
  case h => (conv => rhs; whnf)
noncomputable def scI : Scope := scIP.1
noncomputable def evI (f0 c0 L : Addr) : Env := { scope := scI, locals := L, globals := mainGlobals, cells := [], qual := Str.ofString "cmp_to_key.<locals>.K.__init__" ++ Str.ofString ".<locals>.", func := some f0, code := .ref c0, frame := some L, builtins := builtinsNs }
section
variable {w : World} {A : Around} {g : Array GenState} {d : Drawn} {t : Nat} {os : OsState} {b h : Heap}
/-- a def made in a call is entered, its surroundings named -/
theorem enterNE {R : Result → Shared → Prop} {f c' : Addr} {oc : Obj} {vs : Array Value} {tq : Tok} {name qual : Str} {params : Arguments} {body : List Stmt} {scope : Scope} {clos : List (Str × Addr)} {doc pm ctv : Value} {args : Args} (ev : Addr → Env) (binds : List (Str × Value))
    (G : Gr w h) (hf : h.get? f = some (fnMade name qual params body scope clos doc pm c' ctv)) (hoc : h.get? c' = some oc) (hd : oc.data = .fields vs) (hv : vs[1]? = some (.str qual tq))
    (hev : ∀ L, callEnv (fnX name qual params body scope clos .none .none doc pm none (.ref c') ctv) L f = ev L)
    (hroom : A.depth < recursionLimit) (hbind : bindArgs (fnX name qual params body scope clos .none .none doc pm none (.ref c') ctv) args = pure binds)
    (hcell : ∀ x ∈ scope.names, x.2 ≠ .cell) (hloc : ∀ x ∈ binds, scope.names.lookup x.1 = some .local)
    (hco : scope.isCoroutine = false) (hgen : scope.isGenerator = false) (hk : scope.kind = .function)
    (q : ∀ L h' t', L ≠ 0 → St h L (fun x => binds.reverse.lookup x) [] h' →
      wpAny (model PG w) (A.deeper (ev L)) (execs body (ev L)) (fun fl s' => R (.ok (.ret (match fl with | .ret v => v | _ => .none))) s')
        (fun e s' => wpAny (model PG w) (A.deeper (ev L)) (leaving (ev L) e) (fun _ s'' => R (.error e) s'') (fun e' s'' => R (.error e') s'') s') ⟨h', g, d, t', os⟩) :
    codeAny (model PG w) A (.call (.ref f) args) R ⟨h, g, d, t, os⟩ :=
  enterN binds G hf hoc hd hv hroom hbind hcell hloc (fun L h' t' h0 S => by rw [hev L]; exact q L h' t' h0 S) hco hgen hk
end
open Builtin.Getset_descriptor in
/-- the slot of an object of K is filled -/
theorem slot_fill {w : World} {A : Around} {g : Array GenState} {d : Drawn} {t : Nat} {os : OsState} {b h : Heap} {L x p C : Addr} {m : Str → Option Value} {T T' : List (Addr × Obj)} {TK : Frag} {ox ox' : Obj} {od : Option Obj} {v : Value} {i : Nat} {R : Result → Shared → Prop} (S : St b L m T h) (X : Frag.In TK h) (I : InstAt h x ox C od)
    (hp : slotIn TK p C = some i) (hi : i < 1000) (hpt : Put x ox ox' T T') (e : { ox with slots := (ox.slots ++ Array.replicate (i + 1 - ox.slots.size) none).setIfInBounds i (some v) } = ox') (hf : ox'.isFreed = false)
    (q : ∀ h', St b L m T' h' → R (.ok (.ret .none)) ⟨h', g, d, t, os⟩) :
    codeAny (model PG w) A (.call (.builtin "member_descriptor.__set__") ⟨[.ref p, .ref x, v], []⟩) R ⟨h, g, d, t, os⟩ := by
  obtain ⟨n, tn, owner, behind, tb, dd, sl, cd, ho, hc, hm, hb, rfl⟩ := slot_of X hp
  have lT := I.type (M := model PG w)
  have lS := looks_mroIn (M := model PG w) X hm
  have lN : Looks (model PG w) h (Builtin.Slots.slotNamesOf (.ref C)) cd.slotNames := (looks_clsIn X hc).andThen .now
  have l0 := looks_field (M := model PG w) ho 0 (v := .str n tn) rfl
  have l1 := looks_field (M := model PG w) ho 1 (v := owner) rfl
  have l3 := looks_field (M := model PG w) ho 3 (v := .builtin "proto.slot#set") rfl
  have l4 := looks_field (M := model PG w) ho 4 (v := .int behind tb) rfl
  have lI : Looks (model PG w) h (descrItself (.ref p)) [.ref p] := ((Looks.ld (part := none) ho).andThen .now).andThen (Looks.of_pure (by kernel_rfl))
  refine codeAny_call_builtin KF.slot_mset.plain KF.entry_mset (KF.slot_mset.check _ _ _ _ _ _ _ _ ⟨_, ho, rfl⟩ (KF.args_mset _ _ _) ?_)
  unfold Builtin.«member_descriptor.__set__» descrSet descrStoreThrough descrCheckInstance descrNameAndClass isInstance
  repeat lk
  refine ⟨Code.quiet_builtin _ (by decide +kernel), codeAny_builtin KF.entry_slotset ?_⟩
  unfold Builtin.«proto.slot#set» Builtin.Slots.target
  repeat lk
  rw [if_neg hb]
  refine wpAny_pure (wpAny_bind ?_)
  unfold setSlotAt
  dsimp only
  have hsz : sizeLine = 16777216 := by decide
  rw [if_neg (by omega)]
  refine wpAny_updatePart I.at_ (wpAny_pure (q _ (S.update (f := fun o => { o with slots := (o.slots ++ Array.replicate (cd.slotNames.length - 1 - behind.toNat + 1 - o.slots.size) none).setIfInBounds (cd.slotNames.length - 1 - behind.toNat) (some v) }) (by rw [e]; exact hpt) (by rw [e]; exact hf))))
/-- an object of K -/
noncomputable abbrev kI (K dx : Addr) (v : Value) : Obj := { cls := .ref K, dict := some dx, data := .plain, slots := #[some v] }
theorem k_inst {w : World} {A : Around} {b h : Heap} {T : List (Addr × Obj)} {g : Array GenState} {d : Drawn} {t : Nat} {os : OsState} {R : Result → Shared → Prop} {c K md f0 c0 f1 c1 : Addr} {TK : List (Addr × Obj)} {i : Int} {ti : Tok} (G : Gr w b) (F : KFacts TK c K md f0 c0 f1 c1) (X : Frag.In TK h) (O : Own b T h) (hA : A.depth + 20 < recursionLimit)
    (q : ∀ x dx h' t', Own b ((x, kI K dx (.int i ti)) :: (dx, emptyDict) :: T) h' → R (.ok (.ret (.ref x))) ⟨h', g, d, t', os⟩) :
    codeAny (model PG w) A (.call (.ref K) ⟨[.int i ti], []⟩) R ⟨h, g, d, t, os⟩ := by
  refine make_core (makes_of X F.mks) (looks_findIn X F.init) (fun self => bind_fn X self F.tf0) (.inl rfl) ?_
  have O1 := O.push emptyDict rfl
  have O2 := O1.push (instObj K h.objs.size) rfl
  rw [Heap.size_push] at O2
  have k2 : Kp h ((h.push emptyDict).push (instObj K h.objs.size)) := fun a o e => Heap.get?_push_of_some _ (Heap.get?_push_of_some _ e)
  generalize h.objs.size + 1 = x at O2 ⊢
  generalize h.objs.size = dx at O2 k2 ⊢
  generalize (h.push emptyDict).push (instObj K dx) = h2 at O2 k2 ⊢
  obtain ⟨d0, p0, v0, oc0, lf0, lc0, vs0, tq0, e0, e0'⟩ := F.o0
  have G2 := G.keeps (fun a o e => O2.keep a o e)
  refine enterNE (name := defName (kDef 0)) (evI f0 c0) [(Str.ofString "self", .ref x), (Str.ofString "obj", .int i ti)] G2 (k2 _ _ (X _ _ lf0)) (k2 _ _ (X _ _ lc0)) e0 e0' ?hev (by show A.depth + 1 < _; omega) ?bind ?hcell ?hloc ?a1 ?a2 ?a3 ?_
  case hev => intro L; rfl
  case bind => exact rfl
  case hcell => decide
  case hloc => exact locs rfl
  case a1 => exact rfl
  case a2 => exact rfl
  case a3 => exact rfl
  intro L h3 t3 hL0 S0
  have S := St.rebase O2 S0
  have X3 : Frag.In TK h3 := fun a o e => S0.keep _ _ (k2 _ _ (X a o e))
  have I : InstAt h3 x (instObj K dx) K (some emptyDict) := ⟨S.get (List.mem_cons_self ..), rfl, rfl, S.get (List.mem_cons_of_mem _ (List.mem_cons_self ..))⟩
  conv => arg 3; arg 1; whnf
  refine wpAny_execs_cons ?_
  refine plainObj_wpAny_Assign_Attribute ?_ (by with_unfolding_all rfl)
  repeat (walk_at "ast")
  have ht : takerIn TK K sObj = some (some (.ref md)) := by unfold takerIn; rw [F.attr, Option.bind_some]; dsimp only; rw [F.sps]; rfl
  refine set_plain (s := ⟨h3, g, d, t3, os⟩) X3 I F.sa (osa_descr (s := ⟨h3, g, d, t3 + 1, os⟩) KF.slot_mset X3 I F.over ht F.tmd ?_)
  refine slot_fill (ox' := kI K dx (.int i ti)) S X3 I F.slot (by decide) Put.head rfl rfl fun h4 S4 => ?_
  dsimp only
  repeat (walk_at "ast")
  exact ⟨rfl, q x dx _ _ S4.own⟩
end
section
theorem en_int_sub : entryFor table "int.__sub__" = some Builtin.«int.__sub__» := F.entry_int_sub
theorem bool_sub {w : World} {A : Around} {E : Value → Shared → Prop} {b h : Heap} {g : Array GenState} {d : Drawn} {t : Nat} {os : OsState} {T : List (Addr × Obj)} {x y : Bool} {Q : Value → Shared → Prop} (G : Gr w b) (O : Own b T h)
    (q : ∀ t' tk, Q (.int ((if x = true then 1 else 0) - (if y = true then 1 else 0)) tk) ⟨h, g, d, t', os⟩) : wpAny (model PG w) A (binaryOp .Sub (.bool x) (.bool y)) Q E ⟨h, g, d, t, os⟩ := by
  have hB := BI.of_gr G
  repeat (first | walk_at "r0" | walk_at "rk" | walk_at "rz" | ((with_reducible refine c_builtinE "int.__sub__" en_int_sub ?e ?_); (case e => decide +kernel)))
  exact q _ _
section
variable {w : World} {A : Around} {g : Array GenState} {d : Drawn} {t : Nat} {os : OsState} {h : Heap}
/-- a lambda is entered: no cells of its own -/
theorem enterL {R : Result → Shared → Prop} {f c' : Addr} {oc : Obj} {vs : Array Value} {tq : Tok} {name qual : Str} {params : Arguments} {body : Expr} {scope : Scope} {clos : List (Str × Addr)} {pm ctv : Value} {args : Args} (ev : Addr → Env) (binds : List (Str × Value))
    (G : Gr w h) (hf : h.get? f = some (kla_obj name qual params body scope clos pm c' ctv)) (hoc : h.get? c' = some oc) (hd : oc.data = .fields vs) (hv : vs[1]? = some (.str qual tq))
    (hev : ∀ L, envX qual scope L f (.ref c') clos = ev L)
    (hroom : A.depth < recursionLimit) (hbind : bindArgs (kla_fn name qual params body scope clos pm (.ref c') ctv) args = pure binds)
    (hcell : ∀ x ∈ scope.names, x.2 ≠ .cell) (hloc : ∀ x ∈ binds, scope.names.lookup x.1 = some .local)
    (hco : scope.isCoroutine = false) (hgen : scope.isGenerator = false) (hk : scope.kind = .function)
    (q : ∀ L h' t', L ≠ 0 → St h L (fun x => binds.reverse.lookup x) [] h' →
      wpAny (model PG w) (A.deeper (ev L)) (eval body (ev L)) (fun v s' => R (.ok (.ret v)) s')
        (fun e s' => wpAny (model PG w) (A.deeper (ev L)) (leaving (ev L) e) (fun _ s'' => R (.error e) s'') (fun e' s'' => R (.error e') s'') s') ⟨h', g, d, t', os⟩) :
    codeAny (model PG w) A (.call (.ref f) args) R ⟨h, g, d, t, os⟩ := by
  refine kla_callFunE hroom hf rfl hco hgen rfl ⟨_, _, _, _, rfl, hoc, hd, hv⟩ ?_
  rw [hbind]
  refine wpAny_pure (wpAny_newFunctionEnv hcell hloc (fun h₁ hns hsb => ⟨G.noLimit.fresh _ hsb, ?_⟩) hk)
  have kk : Kp h h₁ := fun a o e => hsb.extBut a o (Nat.ne_of_lt (Heap.lt_size e)) (Heap.get?_push_of_some _ e)
  refine kla_codeExpr ?_
  show wpAny _ (A.deeper (envX qual scope h.objs.size f (.ref c') clos)) (eval body (envX qual scope h.objs.size f (.ref c') clos)) _ (fun e s' => wpAny _ (A.deeper (envX qual scope h.objs.size f (.ref c') clos)) (leaving (envX qual scope h.objs.size f (.ref c') clos) e) _ _ s') _
  rw [hev]
  refine q _ h₁ _ (Nat.ne_of_gt (Nat.lt_of_le_of_lt (Nat.zero_le 2) (Heap.lt_size (G.get (a := 2) rfl)))) ⟨⟨List.nodup_nil, (fun _ hp => by cases hp), kk, (fun _ hp => by cases hp)⟩, .inr ⟨hns, ?_, (by simp)⟩⟩
  cases e : h.get? h.objs.size with
  | none => rfl
  | some o' => exact absurd (Heap.lt_size e) (Nat.lt_irrefl _)
end
noncomputable def lawStm (i : Nat) : Stmt := (defBody (PB.getD 36 default)).getD i default
noncomputable def asgVal : Stmt → Expr
  | .Assign _ v _ => v
  | _ => default
noncomputable def lamParams : Expr → Arguments
  | .Lambda p _ _ _ => p
  | _ => default
noncomputable def lamBody : Expr → Expr
  | .Lambda _ b _ _ => b
  | _ => default
noncomputable def lamScope : Expr → Scope
  | .Lambda _ _ s _ => s
  | _ => default
noncomputable def besE : Expr := asgVal (lawStm 9)
noncomputable def besSP : { s : Scope // s = lamScope besE } := by
  refine ⟨?s, ?h⟩
  case h => (conv => rhs; whnf)
noncomputable def besS : Scope := besSP.1
noncomputable abbrev qLam : Str := Str.ofString "law.<locals>.<lambda>"
noncomputable def besEv (fb c' ct L : Addr) : Env := { scope := besS, locals := L, globals := mainGlobals, cells := [(Str.ofString "turns", ct)], qual := qLam ++ Str.ofString ".<locals>.", func := some fb, code := .ref c', frame := some L, builtins := builtinsNs }
noncomputable abbrev besO (ct c' : Addr) (pm ctv : Value) : Obj := kla_obj (Str.ofString "<lambda>") qLam (lamParams besE) (lamBody besE) (lamScope besE) [(Str.ofString "turns", ct)] pm c' ctv
noncomputable def signZ (x y : Str) : Int := (if decide (y.cps.toList < x.cps.toList) = true then 1 else 0) - (if decide (x.cps.toList < y.cps.toList) = true then 1 else 0)
theorem c_beside {w : World} {A : Around} {h : Heap} {g : Array GenState} {d : Drawn} {t : Nat} {os : OsState} {fb c' ct lt : Addr} {oc : Obj} {pm ctv : Value} {vs : List Value} {n : Nat} {i j : Int} {ti tj t1 t2 : Tok} {x y : Str} {R : Result → Shared → Prop} (G : Gr w h) (hA : A.depth + 20 < recursionLimit)
    (hf : h.get? fb = some (besO ct c' pm ctv)) (hoc : h.get? c' = some oc) (hq : CodeNm oc qLam) (hct : h.get? ct = some (cellO (some (.ref lt)))) (hlt : h.get? lt = some (lst vs.toArray n))
    (hi : 0 ≤ i ∧ i < 1000) (hj : 0 ≤ j ∧ j < 1000) (hx : vs[i.toNat]? = some (.str x t1)) (hy : vs[j.toNat]? = some (.str y t2))
    (q : ∀ h' t' tk, Kp h h' → R (.ok (.ret (.int (signZ x y) tk))) ⟨h', g, d, t', os⟩) : codeAny (model PG w) A (.call (.ref fb) ⟨[.int i ti, .int j tj], []⟩) R ⟨h, g, d, t, os⟩ := by
  obtain ⟨us, tq, e1, e2⟩ := hq
  refine enterL (besEv fb c' ct) [(Str.ofString "a", .int i ti), (Str.ofString "b", .int j tj)] G hf hoc e1 e2 ?hev (by omega) ?bind ?hcell ?hloc ?a1 ?a2 ?a3 ?_
  case hev => intro L; rfl
  case bind => exact rfl
  case hcell => decide
  case hloc => exact locs rfl
  case a1 => exact rfl
  case a2 => exact rfl
  case a3 => exact rfl
  intro L h' t' hL0 S
  conv => arg 3; arg 1; whnf
  repeat (walk_at "ast")
  refine n_free (c := ct) (v := .ref lt) rfl (S.keep _ _ hct) rfl rfl (by decide +kernel) ?_
  repeat (walk_at "ast")
  refine l_item (S.keep _ _ hlt) hi.1 (by omega) (x := .str x t1) (by simpa using hx) ?_
  repeat (walk_at "ast")
  refine n_free (c := ct) (v := .ref lt) rfl (S.keep _ _ hct) rfl rfl (by decide +kernel) ?_
  repeat (walk_at "ast")
  refine l_item (S.keep _ _ hlt) hj.1 (by omega) (x := .str y t2) (by simpa using hy) ?_
  repeat (walk_at "ast")
  refine PySem.P.gt_str ?_
  repeat (walk_at "ast")
  refine n_free (c := ct) (v := .ref lt) rfl (S.keep _ _ hct) rfl rfl (by decide +kernel) ?_
  repeat (walk_at "ast")
  refine l_item (S.keep _ _ hlt) hi.1 (by omega) (x := .str x t1) (by simpa using hx) ?_
  repeat (walk_at "ast")
  refine n_free (c := ct) (v := .ref lt) rfl (S.keep _ _ hct) rfl rfl (by decide +kernel) ?_
  repeat (walk_at "ast")
  refine l_item (S.keep _ _ hlt) hj.1 (by omega) (x := .str y t2) (by simpa using hy) ?_
  repeat (walk_at "ast")
  refine PySem.P.lt_str ?_
  refine bool_sub G S.own fun t3 tk => ?_
  exact q _ _ _ S.keep
end
section
/-- the tree's end where each question is answered by lt -/
noncomputable def kEv {α : Type} (lt : Nat → Nat → Bool) : KasT α → α
  | .ret a => a
  | .ask i j k => kEv lt (k (lt i j))
/-- all questions are below n, all ends in R -/
noncomputable def kIn {α : Type} (n : Nat) (R : α → Prop) : KasT α → Prop
  | .ret a => R a
  | .ask i j k => i < n ∧ j < n ∧ ∀ b, kIn n R (k b)
theorem kIn_bind {α β : Type} {n : Nat} {R : α → Prop} {R' : β → Prop} {f : α → KasT β} (hf : ∀ a, R a → kIn n R' (f a)) : ∀ t : KasT α, kIn n R t → kIn n R' (t.bind f)
  | .ret a, h => hf a h
  | .ask i j k, h => ⟨h.1, h.2.1, fun b => kIn_bind hf (k b) (h.2.2 b)⟩
theorem kEv_wp {α : Type} {n : Nat} {R : α → Prop} {cmp : Nat → Nat → (Bool → Shared → Prop) → Shared → Prop} {lt : Nat → Nat → Bool} {I : Shared → Prop} {Q : α → Shared → Prop}
    (hc : ∀ i j C s, i < n → j < n → I s → (∀ s', I s' → C (lt i j) s') → cmp i j C s) : ∀ (t : KasT α) (s : Shared), kIn n R t → I s → (∀ s', I s' → Q (kEv lt t) s') → t.kasWp cmp Q s
  | .ret a, s, _, hI, hq => hq s hI
  | .ask i j k, s, h, hI, hq => hc i j _ s h.1 h.2.1 hI fun s' hI' => kEv_wp hc (k (lt i j)) s' (h.2.2 _) hI' hq
noncomputable def Below (n : Nat) (p : Array Nat) : Prop := (∀ i, p.getD i 0 < n) ∧ p.size = n
theorem below_swap {n : Nat} {p : Array Nat} (h : Below n p) (i j : Nat) : Below n (p.swapIfInBounds i j) := by
  have hg : ∀ i, p[i]?.getD 0 < n := fun i => by
    have := h.1 i
    rw [Array.getD_eq_getD_getElem?] at this
    exact this
  refine ⟨fun k => ?_, by rw [Array.size_swapIfInBounds]; exact h.2⟩
  by_cases hi : i < p.size
  · by_cases hj : j < p.size
    · rw [Array.getD_eq_getD_getElem?, getElem?_swapIB hi hj]
      split
      · exact hg _
      · split
        · exact hg _
        · rw [← Array.getD_eq_getD_getElem?]; exact h.1 k
    · rw [Array.swapIfInBounds_def, dif_pos hi, dif_neg hj]; exact h.1 k
  · rw [Array.swapIfInBounds_def, dif_neg hi]; exact h.1 k
theorem below_fold {n : Nat} (u v : Nat → Nat) : ∀ (l : List Nat) (p : Array Nat), Below n p → Below n (l.foldl (fun a k => a.swapIfInBounds (u k) (v k)) p)
  | [], _, h => h
  | k :: l, _, h => below_fold u v l _ (below_swap h _ _)
theorem below_rev {n : Nat} {p : Array Nat} (h : Below n p) (i j : Nat) : Below n (kas_rev p i j) := below_fold (fun k => i + k) (fun k => j - 1 - k) _ p h
theorem below_bubble {n : Nat} {p : Array Nat} (h : Below n p) (k m : Nat) : Below n (bubble p k m) := below_fold (fun i => k - i) (fun i => k - i - 1) _ p h
theorem in_asc {n : Nat} {p : Array Nat} (h : Below n p) : ∀ f m, kIn n (fun _ => True) (kas_asc p f m)
  | 0, _ => trivial
  | f + 1, m => by
    refine ⟨h.1 _, h.1 _, fun b => ?_⟩
    cases b with
    | true => trivial
    | false => exact in_asc h f (m + 1)
theorem in_desc {n : Nat} : ∀ f (p : Array Nat) m q, Below n p → kIn n (fun r => Below n r.1) (kas_desc f p m q)
  | 0, _, _, _, h => h
  | f + 1, p, m, q, h => by
    refine ⟨h.1 _, h.1 _, fun b => ?_⟩
    cases b with
    | true =>
      show kIn n _ (if q > 0 then _ else _)
      by_cases hq : q > 0
      · rw [if_pos hq]; exact in_desc f _ _ _ (below_rev h _ _)
      · rw [if_neg hq]; exact in_desc f _ _ _ h
    | false =>
      refine ⟨h.1 _, h.1 _, fun b => ?_⟩
      cases b with
      | true => exact h
      | false => exact in_desc f _ _ _ h
theorem in_tail3 {n m nrem : Nat} {p : Array Nat} (h : Below n p) : kIn n (fun r => Below n r.2) (kas_tail3 m nrem p) :=
  kIn_bind (R := fun _ => True) (R' := fun r : Nat × Array Nat => Below n r.2) (f := fun k => KasT.ret (k, kas_rev p 0 m)) (fun _ _ => below_rev h 0 m) _ (in_asc (below_rev h _ _) _ _)
theorem in_descPart {n m nrem : Nat} {p : Array Nat} (h : Below n p) : kIn n (fun r => Below n r.2) (kas_descPart m nrem p) := by
  refine kIn_bind (fun r hr => ?_) _ (in_desc _ _ _ _ h)
  show kIn n _ (if r.2.2 > 0 then _ else _)
  by_cases hq : r.2.2 > 0
  · rw [if_pos hq]; exact in_tail3 (below_rev hr _ _)
  · rw [if_neg hq]; exact in_tail3 hr
theorem in_count {n nrem : Nat} {p : Array Nat} (h : Below n p) : kIn n (fun r => Below n r.2) (kas_count nrem p) := by
  refine kIn_bind (fun m _ => ?_) _ (in_asc h _ _)
  show kIn n _ (if (m == nrem) = true then _ else _)
  by_cases e : (m == nrem) = true
  · rw [if_pos e]; exact h
  · rw [if_neg e]
    show kIn n _ (if m > 1 then _ else _)
    by_cases e2 : m > 1
    · rw [if_pos e2]
      refine ⟨h.1 _, h.1 _, fun b => ?_⟩
      cases b with
      | true => exact h
      | false => exact in_descPart (below_rev h _ _)
    · rw [if_neg e2]; exact in_descPart h
theorem in_place {n k : Nat} {p : Array Nat} (h : Below n p) : ∀ f l r, kIn n (fun _ => True) (kas_place p k f l r)
  | 0, _, _ => trivial
  | f + 1, l, r => by
    show kIn n _ (if l ≥ r then _ else _)
    by_cases e : l ≥ r
    · rw [if_pos e]; trivial
    · rw [if_neg e]
      refine ⟨h.1 _, h.1 _, fun b => ?_⟩
      cases b with
      | true => exact in_place h f _ _
      | false => exact in_place h f _ _
theorem in_bin {n : Nat} : ∀ f (p : Array Nat) k, Below n p → kIn n (Below n) (kas_bin f p k)
  | 0, _, _, h => h
  | f + 1, p, k, h => kIn_bind (fun l _ => in_bin f _ _ (below_bubble h _ _)) _ (in_place h _ _ _)
theorem in_sort {n : Nat} (hn : 0 < n) : kIn n (Below n) (kas_sort n) := by
  have h : Below n (List.toArray (List.range n)) := by
    refine ⟨fun i => ?_, by simp⟩
    by_cases hi : i < n
    · simp [Array.getD_eq_getD_getElem?, hi]
    · rw [Array.getD_eq_getD_getElem?, Array.getElem?_eq_none (by simp; omega)]; exact hn
  refine kIn_bind (fun r hr => ?_) _ (in_count h)
  show kIn n _ (if r.1 < n then _ else _)
  by_cases e : r.1 < n
  · rw [if_pos e]; exact in_bin _ _ _ hr
  · rw [if_neg e]; exact hr
section
variable {w : World} {A : Around} {E : Value → Shared → Prop} {s : Shared}
theorem collect_range {r : Addr} {a b c : Int} {t u v : Tok} {n : Nat} {Q : List Value → Shared → Prop} (hh : A.handled = none) (hr : IsRange s.heap r a b c t u v) (hsmall : Builtin.Range.small a b c = true)
    (hn : Builtin.Range.rangeSize a b c = n) (hlen : n ≤ 2 ^ 24)
    (q : ∀ h' tk (acc : Array Value), Kp s.heap h' → ItemsOf (fun i v => ∃ t, v = .int (a + i * c) t) acc n → Q acc.toList { s with heap := h', toks := tk }) : wpAny (model PG w) A (collect (.ref r)) Q E s := by
  unfold collect
  refine wpAny_bind (wpAny_runValue (codeAny_builtin F.entry_proto_collect ?_))
  rw [Around.under_plainId F.plain_proto_collect _]
  show wpAny _ A.in1 (newList [] >>= fun l => again (.builtin "list.__iadd__" ⟨[l, .ref r], []⟩)) _ _ s
  refine wpAny_bind (wpAny_newObj_type ?_)
  have key : ∀ R : Result → Shared → Prop, (∀ h' tk acc c', Kp s.heap h' → h'.get? s.heap.objs.size = some { cls := .type "list", dict := none, data := .seq acc c', slots := #[] } → ItemsOf (fun i v => ∃ t, v = .int (a + i * c) t) acc n → R (.ok (.ret (.ref s.heap.objs.size))) { s with heap := h', toks := tk }) →
      codeAny (model PG w) A (.builtin "list.__iadd__" ⟨[.ref s.heap.objs.size, .ref r], []⟩) R { s with heap := s.heap.push { cls := .type "list", data := .seq ([] : List Value).toArray } } := by
    intro R hR
    refine codeAny_builtin F.entry_list_iadd ?_
    rw [Around.under_plainId F.plain_list_iadd _]
    show wpAny _ A.in1 (Builtin.List.listExtendWith (.ref s.heap.objs.size) (.ref r) (.ref s.heap.objs.size)) _ _ _
    exact wpAny_extend_range (s := { s with heap := s.heap.push { cls := .type "list", data := .seq ([] : List Value).toArray } }) hh (Heap.get?_push_of_some _ hr) hsmall hn hlen _ _ 0 (Heap.get?_push_size _ rfl) fun h' tk acc' c' hk hS' hacc =>
      hR h' tk acc' c' (fun x o e => hk x o (Nat.ne_of_lt (Heap.lt_size e)) (Heap.get?_push_of_some _ e)) hS' hacc
  refine wpAny_pure ⟨plainId_quiet F.plain_list_iadd _, key _ fun h' tk acc c' kk hS' hacc => ?_⟩
  show wpAny _ A (load s.heap.objs.size >>= _) _ _ _
  exact wpAny_bind (wpAny_load hS' (wpAny_pure (q h' tk acc kk hacc)))
end
end
section
theorem Own.grown {b h h' : Heap} {T : List (Addr × Obj)} (O : Own b T h) (k : Kp h h') : Own b T h' :=
  ⟨O.nodup, fun p hp => k _ _ (O.get p hp), fun a o e => k _ _ (O.keep a o e), O.new⟩
/-- an entry in the middle is changed -/
theorem Own.mid {b h : Heap} {X Z : List (Addr × Obj)} {a : Addr} {o o' : Obj} {f : Obj → Obj} (O : Own b (X ++ (a, o) :: Z) h) (e : f o = o') (hf : o'.isFreed = false) : Own b (X ++ (a, o') :: Z) (h.update a f) := by
  have hp : ∀ X : List (Addr × Obj), Put a o (f o) (X ++ (a, o) :: Z) (X ++ (a, f o) :: Z) := by
    intro X
    induction X with
    | nil => exact .head
    | cons p X ih => exact .tail ih
  have := O.update (hp X) (by rw [e]; exact hf)
  rwa [e] at this
theorem mapSeq_lst (g : Array Value → Array Value) (vs : Array Value) (n : Nat) : ∃ n', Obj.mapSeq g (lst vs n) = lst (g vs) n' := ⟨_, rfl⟩
section
variable {w : World} {A : Around} {E : Value → Shared → Prop} {b h : Heap} {g : Array GenState} {d : Drawn} {t : Nat} {os : OsState} {T : List (Addr × Obj)}
theorem srt_tail {a kS : Addr} {X : List (Addr × Obj)} {ks vs : List Value} {e e1 : Nat} {held : Addr × Obj} {st : SortSt} {P : PySem.Fin → Shared → Prop} (O : Own b (X ++ (kS, lst ks.toArray e) :: held :: (a, lst #[] e1) :: T) h)
    (hk : ks.length ≤ 8) (har : (arrOf st).map (·.2) = vs.toArray) (hv : vs.length ≤ 8) (hf : failedOf st = none)
    (q : ∀ h' c, Own b ((a, lst vs.toArray c) :: T) h' → P (.done (.ret .none)) ⟨h', g, d, t, os⟩) : wpAny (model PG w) A (ksk_tail a false e1 (.ref kS) st) P E ⟨h, g, d, t, os⟩ := by
  have hsz : sizeLine = 16777216 := by decide
  unfold ksk_tail
  dsimp only
  obtain ⟨n1, e2⟩ := mapSeq_lst (fun _ => #[]) ks.toArray e
  have O1 := O.mid e2 rfl
  refine wpAny_bind (listUpdate_at (s := ⟨h, g, d, t, os⟩) (O.get (kS, _) (List.mem_append_right _ (List.mem_cons_self ..))) rfl ?_ (by rw [List.size_toArray]; omega) (Nat.zero_le _))
  refine wpAny_bind (wpAny_letGo ?_)
  have O2 : Own b ((a, lst #[] e1) :: T) (h.update kS (Obj.mapSeq fun _ => #[])) := O1.sub (List.Sublist.trans (.cons _ (.cons _ (.refl _))) (List.sublist_append_right X _))
  refine wpAny_bind (seqEpoch_at (O2.get (a, _) (List.mem_cons_self ..)) rfl ?_)
  obtain ⟨n2, e3⟩ := mapSeq_lst (fun _ => vs.toArray) #[] e1
  rw [har]
  have O3 := Own.mid (X := []) O2 e3 rfl
  refine wpAny_bind (listUpdate_at (s := ⟨_, g, d, t, os⟩) (O2.get (a, _) (List.mem_cons_self ..)) rfl ?_ (Nat.zero_le _) (by show vs.toArray.size ≤ _; rw [List.size_toArray]; omega))
  rw [hf]
  simp only [bne_self_eq_false, Bool.false_eq_true, if_false]
  exact wpAny_pure (q _ _ O3)
theorem kas_runs_ev {n : Nat} {κ : SortKind} {it : Array Keyed} {lt : Nat → Nat → Bool} {I : Shared → Prop} {Q : Unit → SortSt → Shared → Prop} {s : Shared} (h2 : 2 ≤ n) (h64 : n < 64) (hI : I s)
    (hc : ∀ i j C s, i < n → j < n → I s → (∀ s', I s' → C (lt i j) s') → kas_cmp PG w A κ it i j C s)
    (hQ : ∀ st' s', arrOf st' = (kEv lt (kas_sort n)).map (kas_item it) → failedOf st' = none → I s' → Q () st' s') : kasC (model PG w) A E sortRuns' Q (kas_st κ it (List.toArray (List.range n))) s :=
  kas_runs (G := fun p s' => p = kEv lt (kas_sort n) ∧ I s') h2 h64 (fun p' st' s' _ a2 a3 a4 => hQ st' s' (by rw [a2, a4.1]) a3 a4.2)
    (kEv_wp (R := Below n) hc _ _ (in_sort (by omega)) hI fun s' hI' => ⟨rfl, hI'⟩)
theorem zip_item {ks vs : List Value} {n i : Nat} (hk : ks.length = n) (hv : vs.length = n) (hi : i < n) : kas_item (ks.toArray.zip vs.toArray) i = (ks.getD i .none, vs.getD i .none) := by
  unfold kas_item
  have h1 : i < ks.length := by omega
  have h2 : i < vs.length := by omega
  rw [Array.getD_eq_getD_getElem?]
  simp [h1, h2]
  rw [List.getElem?_eq_getElem (by simp; omega), List.getElem_zip]
  rfl
theorem ev_below {n : Nat} (lt : Nat → Nat → Bool) {α : Type} {R : α → Prop} : ∀ t : KasT α, kIn n R t → R (kEv lt t)
  | .ret _, h => h
  | .ask _ _ k, h => ev_below lt (k _) (h.2.2 _)
theorem srt_end {a kS : Addr} {n : Nat} {X : List (Addr × Obj)} {ks vs : List Value} {e e1 : Nat} {held : Addr × Obj} {Ty : Value} {lt : Nat → Nat → Bool} {P : PySem.Fin → Shared → Prop} (O : Own b (X ++ (kS, lst ks.toArray e) :: held :: (a, lst #[] e1) :: T) h)
    (hk : ks.length = n) (hv : vs.length = n) (h1 : 1 ≤ n) (h8 : n ≤ 8) (hT : ∀ v ∈ ks, Looks (model PG w) h (typeOf v) Ty) (hT1 : (Ty != Value.type "tuple") = true) (hT2 : (Ty == Ty) = true)
    (cmp : ∀ i j h t C, i < n → j < n → Own b (X ++ (kS, lst ks.toArray e) :: held :: (a, lst #[] e1) :: T) h → (∀ h' t', Own b (X ++ (kS, lst ks.toArray e) :: held :: (a, lst #[] e1) :: T) h' → C (lt i j) ⟨h', g, d, t', os⟩) → wpAny (model PG w) A (keyLt' oneType' (ks.getD i .none) (ks.getD j .none)) C (fun _ _ => False) ⟨h, g, d, t, os⟩)
    (q : ∀ h' c t', Own b ((a, lst ((kEv lt (kas_sort n)).toList.map fun i => vs.getD i .none).toArray c) :: T) h' → P (.done (.ret .none)) ⟨h', g, d, t', os⟩) :
    wpAny (model PG w) A (ksk_end a false vs.toArray e1 (.ref kS) ks.toArray) P E ⟨h, g, d, t, os⟩ := by
  have hb : Below n (kEv lt (kas_sort n)) := ev_below lt _ (in_sort (by omega))
  have out : ∀ st : SortSt, arrOf st = (kEv lt (kas_sort n)).map (kas_item (ks.toArray.zip vs.toArray)) → (arrOf st).map (·.2) = ((kEv lt (kas_sort n)).toList.map fun i => vs.getD i .none).toArray := by
    intro st e
    apply Array.toList_inj.mp
    rw [e, Array.map_map, Array.toList_map]
    refine List.map_congr_left fun i hi => ?_
    have hlt : i < n := by
      obtain ⟨k, hk', rfl⟩ := List.mem_iff_getElem.mp hi
      have := hb.1 k
      rw [Array.getD_eq_getD_getElem?, Array.getElem?_eq_getElem (by simpa using hk')] at this
      simpa using this
    show (kas_item _ i).2 = _
    rw [zip_item hk hv hlt]
  have hlen : ((kEv lt (kas_sort n)).toList.map fun i => vs.getD i Value.none).length ≤ 8 := by rw [List.length_map, Array.length_toList, hb.2]; exact h8
  unfold ksk_end
  dsimp only
  simp only [Bool.false_eq_true, if_false]
  by_cases h2 : vs.toArray.size < 2
  · rw [if_pos h2, if_pos h2]
    refine wpAny_bind (wpAny_pure ?_)
    rw [StateT.run_pure]
    refine wpAny_bind (wpAny_pure ?_)
    have hn1 : n = 1 := by rw [List.size_toArray] at h2; omega
    have e1' : ((kEv lt (kas_sort n)).toList.map fun i => vs.getD i Value.none) = vs := by
      subst hn1
      obtain ⟨v, rfl⟩ := List.length_eq_one_iff.mp hv
      rfl
    rw [e1'] at q
    refine srt_tail O (by omega) ?_ (by omega) rfl fun h' c O' => q h' c _ O'
    show (ks.toArray.zip vs.toArray).map (·.2) = _
    apply Array.toList_inj.mp
    rw [Array.toList_map, Array.toList_zip]
    exact List.map_snd_zip (by simp; omega)
  · rw [if_neg h2, if_neg h2]
    rw [List.size_toArray] at h2
    refine wpAny_bind (kas_kind (by omega) hT hT1 hT2 ?_)
    have est : SortSt.mk' oneType' (ks.toArray.zip vs.toArray) #[] 7 none = kas_st oneType' (ks.toArray.zip vs.toArray) (List.toArray (List.range n)) := by
      have e := kas_range (ks.toArray.zip vs.toArray)
      rw [Array.size_zip, List.size_toArray, List.size_toArray, hk, hv, Nat.min_self] at e
      show SortSt.mk' oneType' _ #[] 7 none = SortSt.mk' oneType' ((List.toArray (List.range n)).map (kas_item _)) #[] 7 none
      rw [e]
    have run := kas_runs_ev (w := w) (A := A) (E := E) (κ := oneType') (it := ks.toArray.zip vs.toArray) (lt := lt) (I := fun s' => ∃ h' t', s' = ⟨h', g, d, t', os⟩ ∧ Own b (X ++ (kS, lst ks.toArray e) :: held :: (a, lst #[] e1) :: T) h') (s := ⟨h, g, d, t, os⟩)
      (Q := fun _ st' s' => arrOf st' = (kEv lt (kas_sort n)).map (kas_item (ks.toArray.zip vs.toArray)) ∧ failedOf st' = none ∧ ∃ h' t', s' = ⟨h', g, d, t', os⟩ ∧ Own b (X ++ (kS, lst ks.toArray e) :: held :: (a, lst #[] e1) :: T) h') (by omega) (by omega) ⟨h, t, rfl, O⟩ (fun i j C s hi hj hI hC => by
        obtain ⟨h', t', rfl, O'⟩ := hI
        unfold kas_cmp
        rw [zip_item hk hv hi, zip_item hk hv hj]
        exact cmp i j h' t' C hi hj O' fun h'' t'' O'' => hC _ ⟨h'', t'', rfl, O''⟩) (fun st' s' a1 a2 a3 => ⟨a1, a2, a3⟩)
    rw [← est] at run
    refine wpAny_bind (wpAny_mono run ?_ fun _ _ e => e)
    rintro ⟨⟨⟩, st'⟩ s' ⟨har, hf, h', t', rfl, O'⟩
    exact srt_tail O' (by omega) (out st' har) hlen hf fun h' c O' => q h' c _ O'
end
end
section
section
variable {w : World} {A : Around} {E : Value → Shared → Prop} {b h : Heap} {g : Array GenState} {d : Drawn} {t : Nat} {os : OsState} {T : List (Addr × Obj)}
theorem srt_rest {a kS f : Addr} {n : Nat} {vs : List Value} {e e1 : Nat} {held : Addr × Obj} {Ty : Value} {lt : Nat → Nat → Bool} {P : PySem.Fin → Shared → Prop} (Inv : Nat → List Value → List (Addr × Obj) → Prop) (O : Own b ((kS, lst #[] e) :: held :: (a, lst #[] e1) :: T) h)
    (hv : vs.length = n) (h1 : 1 ≤ n) (h8 : n ≤ 8) (I0 : Inv 0 [] [])
    (turn : ∀ i v ks X Z h t, vs[i]? = some v → ks.length = i → Inv i ks X → (∀ p ∈ T, p ∈ Z) → Own b (X ++ Z) h → wpAny (model PG w) A (call (.ref f) [v]) (fun k s' => ∃ X' h' t', s' = ⟨h', g, d, t', os⟩ ∧ Inv (i + 1) (ks ++ [k]) X' ∧ Own b (X' ++ Z) h') (fun _ _ => False) ⟨h, g, d, t, os⟩)
    (hT : ∀ ks X Z h, ks.length = n → Inv n ks X → Own b (X ++ Z) h → ∀ v ∈ ks, Looks (model PG w) h (typeOf v) Ty) (hT1 : (Ty != Value.type "tuple") = true) (hT2 : (Ty == Ty) = true)
    (cmp : ∀ i j ks X Z h t C, i < n → j < n → ks.length = n → Inv n ks X → (∀ p ∈ T, p ∈ Z) → Own b (X ++ Z) h → (∀ h' t', Own b (X ++ Z) h' → C (lt i j) ⟨h', g, d, t', os⟩) → wpAny (model PG w) A (keyLt' oneType' (ks.getD i .none) (ks.getD j .none)) C (fun _ _ => False) ⟨h, g, d, t, os⟩)
    (q : ∀ h' c t', Own b ((a, lst ((kEv lt (kas_sort n)).toList.map fun i => vs.getD i .none).toArray c) :: T) h' → P (.done (.ret .none)) ⟨h', g, d, t', os⟩) :
    wpAny (model PG w) A (ksk_rest a (.ref f) false vs.toArray e1 (.ref kS)) P E ⟨h, g, d, t, os⟩ := by
  have hszl : sizeLine = 16777216 := by decide
  unfold ksk_rest
  refine wpAny_bind (wpAny_rule ?_)
  first
    | rw [List.forIn_toArray]
    | (rw [← Array.forIn_toList]; simp only [List.toList_toArray])
    | rw [← Array.forIn_toList]
  refine wpAny_bind (ksk_fold (fun i s' => ∃ ks X h' t' e', s' = ⟨h', g, d, t', os⟩ ∧ ks.length = i ∧ Inv i ks X ∧ Own b (X ++ (kS, lst ks.toArray e') :: held :: (a, lst #[] e1) :: T) h') vs 0 _ ⟨[], [], h, t, e, rfl, rfl, I0, O⟩ ?step ?done)
  case step =>
    rintro j x s' hx ⟨ks, X, h', t', e', rfl, hl, hI, O'⟩
    simp only [Nat.zero_add] at hl hI ⊢
    have hj : j < vs.length := (List.getElem?_eq_some_iff.mp hx).1
    refine wpAny_bind (wpAny_attempt (wpAny_mono (turn j x ks X _ h' t' hx hl hI (fun p hp => List.mem_cons_of_mem _ (List.mem_cons_of_mem _ (List.mem_cons_of_mem _ hp))) O') (fun k s'' hk => ?_) fun _ _ hF => hF.elim))
    obtain ⟨X', h'', t'', rfl, hI', O''⟩ := hk
    dsimp only
    obtain ⟨n1, e2⟩ := mapSeq_lst (·.push k) ks.toArray e'
    have O3 := O''.mid e2 rfl
    refine wpAny_bind (listUpdate_at (s := ⟨h'', g, d, t'', os⟩) (O''.get (kS, _) (List.mem_append_right _ (List.mem_cons_self ..))) rfl ?_ (by rw [List.size_toArray]; omega) (by show (ks.toArray.push k).size ≤ _; rw [Array.size_push, List.size_toArray]; omega))
    have e3 : ks.toArray.push k = (ks ++ [k]).toArray := by simp
    rw [e3] at O3
    exact wpAny_pure ⟨rfl, ks ++ [k], X', _, t'', n1, rfl, by simp [hl], hI', O3⟩
  case done =>
    rintro s' ⟨ks, X, h', t', e', rfl, hl, hI, O'⟩
    simp only [Nat.zero_add, hv] at hl hI
    refine wpAny_bind (listItems_at (s := ⟨h', g, d, t', os⟩) (O'.get (kS, _) (List.mem_append_right _ (List.mem_cons_self ..))) rfl ?_)
    refine srt_end O' hl hv h1 h8 (hT ks X _ h' hl hI O') hT1 hT2 (fun i j h2 t2 C hi hj O2 hC => ?_) q
    exact cmp i j ks X _ h2 t2 C hi hj hl hI (fun p hp => List.mem_cons_of_mem _ (List.mem_cons_of_mem _ (List.mem_cons_of_mem _ hp))) O2 hC
theorem srt_list {a f : Addr} {n : Nat} {vs : List Value} {c0 : Nat} {Ty : Value} {lt : Nat → Nat → Bool} {P : PySem.Fin → Shared → Prop} (Inv : Nat → List Value → List (Addr × Obj) → Prop) (O : Own b ((a, lst vs.toArray c0) :: T) h)
    (hv : vs.length = n) (h1 : 1 ≤ n) (h8 : n ≤ 8) (I0 : Inv 0 [] [])
    (turn : ∀ i v ks X Z h t, vs[i]? = some v → ks.length = i → Inv i ks X → (∀ p ∈ T, p ∈ Z) → Own b (X ++ Z) h → wpAny (model PG w) A (call (.ref f) [v]) (fun k s' => ∃ X' h' t', s' = ⟨h', g, d, t', os⟩ ∧ Inv (i + 1) (ks ++ [k]) X' ∧ Own b (X' ++ Z) h') (fun _ _ => False) ⟨h, g, d, t, os⟩)
    (hT : ∀ ks X Z h, ks.length = n → Inv n ks X → Own b (X ++ Z) h → ∀ v ∈ ks, Looks (model PG w) h (typeOf v) Ty) (hT1 : (Ty != Value.type "tuple") = true) (hT2 : (Ty == Ty) = true)
    (cmp : ∀ i j ks X Z h t C, i < n → j < n → ks.length = n → Inv n ks X → (∀ p ∈ T, p ∈ Z) → Own b (X ++ Z) h → (∀ h' t', Own b (X ++ Z) h' → C (lt i j) ⟨h', g, d, t', os⟩) → wpAny (model PG w) A (keyLt' oneType' (ks.getD i .none) (ks.getD j .none)) C (fun _ _ => False) ⟨h, g, d, t, os⟩)
    (q : ∀ h' c t', Own b ((a, lst ((kEv lt (kas_sort n)).toList.map fun i => vs.getD i .none).toArray c) :: T) h' → P (.done (.ret .none)) ⟨h', g, d, t', os⟩) :
    wpAny (model PG w) A (ksk_tree a (.ref f) false) P E ⟨h, g, d, t, os⟩ := by
  have hszl : sizeLine = 16777216 := by decide
  unfold ksk_tree
  refine wpAny_bind (listItems_at (s := ⟨h, g, d, t, os⟩) (O.get (a, _) (List.mem_cons_self ..)) rfl ?_)
  obtain ⟨n1, e2⟩ := mapSeq_lst (fun _ => #[]) vs.toArray c0
  have O1 := Own.mid (X := []) O e2 rfl
  refine wpAny_bind (listUpdate_at (s := ⟨h, g, d, t, os⟩) (O.get (a, _) (List.mem_cons_self ..)) rfl ?_ (by rw [List.size_toArray]; omega) (Nat.zero_le _))
  refine wpAny_bind (seqEpoch_at (O1.get (a, _) (List.mem_cons_self ..)) rfl ?_)
  refine wpAny_bind (wpAny_newTuple ?_ (by show vs.length ≤ _; omega))
  have O2 := O1.push { cls := .type "tuple", data := .seq vs.toArray } rfl
  refine wpAny_bind (wpAny_newList ?_ (Nat.zero_le _))
  have O3 := O2.push (lst #[] 0) rfl
  refine wpAny_holding ?_
  exact srt_rest Inv O3 hv h1 h8 I0 turn hT hT1 hT2 cmp q
theorem srt_key {r f : Addr} {n : Nat} {ta tb tc : Tok} {Ty : Value} {lt : Nat → Nat → Bool} {Q : Value → Shared → Prop} (Inv : Nat → List Value → List (Addr × Obj) → Prop) (hh : A.handled = none) (O : Own b T h) (hr : (r, rangeO 0 n 1 ta tb tc) ∈ T)
    (h1 : 1 ≤ n) (h8 : n ≤ 8) (I0 : Inv 0 [] [])
    (turn : ∀ i tk ks X Z h t, i < n → ks.length = i → Inv i ks X → (∀ p ∈ T, p ∈ Z) → Own b (X ++ Z) h → wpAny (model PG w) A.in1.in1 (call (.ref f) [.int i tk]) (fun k s' => ∃ X' h' t', s' = ⟨h', g, d, t', os⟩ ∧ Inv (i + 1) (ks ++ [k]) X' ∧ Own b (X' ++ Z) h') (fun _ _ => False) ⟨h, g, d, t, os⟩)
    (hT : ∀ ks X Z h, ks.length = n → Inv n ks X → Own b (X ++ Z) h → ∀ v ∈ ks, Looks (model PG w) h (typeOf v) Ty) (hT1 : (Ty != Value.type "tuple") = true) (hT2 : (Ty == Ty) = true)
    (cmp : ∀ i j ks X Z h t C, i < n → j < n → ks.length = n → Inv n ks X → (∀ p ∈ T, p ∈ Z) → Own b (X ++ Z) h → (∀ h' t', Own b (X ++ Z) h' → C (lt i j) ⟨h', g, d, t', os⟩) → wpAny (model PG w) A.in1.in1 (keyLt' oneType' (ks.getD i .none) (ks.getD j .none)) C (fun _ _ => False) ⟨h, g, d, t, os⟩)
    (q : ∀ D c h' t' out, IntsAre out ((kEv lt (kas_sort n)).toList.map fun i : Nat => (i : Int)) → Own b ((D, lst out.toArray c) :: T) h' → Q (.ref D) ⟨h', g, d, t', os⟩) :
    wpAny (model PG w) A (call (.builtin "sorted") [.ref r] [(Str.ofString "key", .ref f)]) Q E ⟨h, g, d, t, os⟩ := by
  have hszl : sizeLine = 16777216 := by decide
  refine call_function_entry_kw kind_sorted plain_sorted entry_sorted (ksk_s1 _ _) ?_
  unfold Builtin.«sorted»
  refine wpAny_bind (m := checkCount "sorted" 1 1 _) (wpAny_pure ?_)
  refine wpAny_bind (collect_range (A := A.in1) (n := n) (s := ⟨h, g, d, t, os⟩) hh (O.get _ hr) (small_one (by omega) (by omega) (by omega) (by omega)) (by rw [rangeSize_nat, Int.sub_zero, Int.toNat_natCast]) (by omega) fun h' tk acc kk hacc => ?_)
  have O1 := O.grown kk
  refine wpAny_bind (wpAny_newList ?_ (by rw [Array.length_toList, hacc.1]; omega))
  have O2 := O1.push (lst acc.toList.toArray 0) rfl
  have hlen : acc.toList.length = n := by rw [Array.length_toList, hacc.1]
  have hitem : ∀ i, i < n → ∃ tk, acc.toList[i]? = some (.int i tk) := fun i hi => by
    have hi' : i < acc.size := by rw [hacc.1]; exact hi
    obtain ⟨tk', e⟩ := hacc.2 i acc[i] (Array.getElem?_eq_getElem hi')
    refine ⟨tk', ?_⟩
    rw [Array.getElem?_toList, Array.getElem?_eq_getElem hi', e, Int.zero_add, Int.mul_one]
  have hb : Below n (kEv lt (kas_sort n)) := ev_below lt _ (in_sort (by omega))
  have hints : ∀ l : List Nat, (∀ i ∈ l, i < n) → IntsAre (l.map fun i => acc.toList.getD i .none) (l.map fun i : Nat => (i : Int)) := by
    intro l
    induction l with
    | nil => intro _; exact .nil
    | cons i l ih =>
      intro hl
      obtain ⟨tk', e⟩ := hitem i (hl i (List.mem_cons_self ..))
      have e' : acc.toList.getD i Value.none = .int i tk' := by rw [List.getD_eq_getElem?_getD, e]; rfl
      rw [List.map_cons, List.map_cons, e']
      exact .cons _ _ (ih fun j hj => hl j (List.mem_cons_of_mem _ hj))
  refine wpAny_bind (wpAny_holding (wpAny_call_entry_kw slot_list_sort ⟨_, O2.get _ (List.mem_cons_self ..), rfl⟩ entry_list_sort ?body (ksk_l1 _ _)))
  case body =>
    show wpAny _ A.in1.in1 (Builtin.«list.sort» ⟨[.ref h'.objs.size], [(Str.ofString "key", .ref f)]⟩) _ _ _
    rw [ksk_t1]
    refine srt_list Inv O2 hlen h1 h8 I0 (fun i v ks X Z h t hv hl hI hz O => ?_) hT hT1 hT2 cmp fun h2 c t2 O3 => ⟨_, rfl, ?_⟩
    · have hi : i < n := by rw [← hlen]; exact (List.getElem?_eq_some_iff.mp hv).1
      obtain ⟨tk', e⟩ := hitem i hi
      rw [e] at hv; cases hv
      exact turn i tk' ks X Z h t hi hl hI hz O
    · refine wpAny_pure ⟨_, rfl, q _ c h2 t2 _ (hints _ fun i hi => ?_) O3⟩
      obtain ⟨k, hk', rfl⟩ := List.mem_iff_getElem.mp hi
      have := hb.1 k
      rw [Array.getD_eq_getD_getElem?, Array.getElem?_eq_getElem (by simpa using hk')] at this
      simpa using this
end
end
section
theorem k_attr {w : World} {A : Around} {h : Heap} {g : Array GenState} {d : Drawn} {t : Nat} {os : OsState} {E : Value → Shared → Prop} {Q : Value → Shared → Prop} {c K md f0 c0 f1 c1 x dx : Addr} {TK : List (Addr × Obj)} {i : Int} {ti : Tok} {e : Bool} (F : KFacts TK c K md f0 c0 f1 c1) (X : Frag.In TK h)
    (hx : h.get? x = some (kI K dx (.int i ti))) (hd : h.get? dx = some emptyDict) (q : ∀ t', Q (.int i ti) ⟨h, g, d, t', os⟩) : wpAny (model PG w) A (getAttr (.ref x) sObj e) Q E ⟨h, g, d, t, os⟩ := by
  have I : InstAt h x (kI K dx (.int i ti)) K (some emptyDict) := ⟨hx, rfl, rfl, hd⟩
  refine get_bind (s := ⟨h, g, d, t, os⟩) X I F.ga (findObj_data F.cls F.attr F.spg F.sps) F.gh (wpAny_call (slot_get (s := ⟨h, g, d, t + 1, os⟩) X I F.slot rfl ?_))
  show wpAny _ _ (handedOut (.int i ti)) _ _ _
  rw [handedOut_of (by kernel_rfl)]
  exact wpAny_pure (q _)
noncomputable def scJP : { s : Scope // s = defScope (kDef 1) } := by
  refine ⟨?s, ?h⟩
  case h => (conv => rhs; whnf)
noncomputable def scJ : Scope := scJP.1
noncomputable def evJ (f1 c1 c L : Addr) : Env := { scope := scJ, locals := L, globals := mainGlobals, cells := [(Str.ofString "mycmp", c)], qual := Str.ofString "cmp_to_key.<locals>.K.__lt__" ++ Str.ofString ".<locals>.", func := some f1, code := .ref c1, frame := some L, builtins := builtinsNs }
theorem k_lt {w : World} {A : Around} {h : Heap} {g : Array GenState} {d : Drawn} {t : Nat} {os : OsState} {R : Result → Shared → Prop} {c K md f0 c0 f1 c1 x dx y dy : Addr} {TK : List (Addr × Obj)} {i j : Int} {ti tj : Tok} {fb c' ct lt : Addr} {oc : Obj} {pm ctv : Value} {vs : List Value} {n : Nat} {t1 t2 : Tok} {sx sy : Str} (G : Gr w h) (F : KFacts TK c K md f0 c0 f1 c1) (X : Frag.In TK h) (hA : A.depth + 40 < recursionLimit)
    (hc : h.get? c = some (cellO (some (.ref fb)))) (hx : h.get? x = some (kI K dx (.int i ti))) (hdx : h.get? dx = some emptyDict) (hy : h.get? y = some (kI K dy (.int j tj))) (hdy : h.get? dy = some emptyDict)
    (hf : h.get? fb = some (besO ct c' pm ctv)) (hoc : h.get? c' = some oc) (hq : CodeNm oc qLam) (hct : h.get? ct = some (cellO (some (.ref lt)))) (hlt : h.get? lt = some (lst vs.toArray n))
    (hi : 0 ≤ i ∧ i < 1000) (hj : 0 ≤ j ∧ j < 1000) (hsx : vs[i.toNat]? = some (.str sx t1)) (hsy : vs[j.toNat]? = some (.str sy t2))
    (q : ∀ h' t', Kp h h' → R (.ok (.ret (.bool (decide (signZ sx sy < 0))))) ⟨h', g, d, t', os⟩) :
    codeAny (model PG w) A (.call (.ref f1) ⟨[.ref x, .ref y], []⟩) R ⟨h, g, d, t, os⟩ := by
  obtain ⟨d1, p1, v1, oc1, lf1, lc1, vs1, tq1, e1, e1'⟩ := F.o1
  refine enterNE (name := defName (kDef 1)) (evJ f1 c1 c) [(Str.ofString "self", .ref x), (Str.ofString "other", .ref y)] G (X _ _ lf1) (X _ _ lc1) e1 e1' ?hev (by omega) ?bind ?hcell ?hloc ?a1 ?a2 ?a3 ?_
  case hev => intro L; rfl
  case bind => exact rfl
  case hcell => decide
  case hloc => exact locs rfl
  case a1 => exact rfl
  case a2 => exact rfl
  case a3 => exact rfl
  intro L h3 t3 hL0 S
  have k3 : Kp h h3 := S.keep
  have X3 : Frag.In TK h3 := fun a o e => k3 _ _ (X a o e)
  conv => arg 3; arg 1; whnf
  repeat (walk_at "ast")
  refine n_free (c := c) (v := .ref fb) rfl (k3 _ _ hc) rfl rfl (by decide +kernel) ?_
  repeat (walk_at "ast")
  refine cw_ref (o := besO ct c' pm ctv) (fd := kla_fn (Str.ofString "<lambda>") qLam (lamParams besE) (lamBody besE) (lamScope besE) [(Str.ofString "turns", ct)] pm (.ref c') ctv) ?_
  refine ea_cons ?_ (by with_unfolding_all rfl)
  refine PyProof.Rows.args_cons ?_ (by with_unfolding_all rfl)
  refine Attribute_name ?_
  repeat (walk_at "ast")
  refine k_attr F X3 (k3 _ _ hx) (k3 _ _ hdx) fun t4 => ?_
  refine PyProof.Rows.args_cons ?_ (by with_unfolding_all rfl)
  refine Attribute_name ?_
  repeat (walk_at "ast")
  refine k_attr F X3 (k3 _ _ hy) (k3 _ _ hdy) fun t5 => ?_
  repeat (walk_at "ast")
  refine ⟨⟨k3 _ _ hf, rfl⟩, ?_⟩
  refine wpAny_call (c_beside (G.keeps k3) (by show A.depth + 1 + 20 < _; omega) (k3 _ _ hf) (k3 _ _ hoc) hq (k3 _ _ hct) (k3 _ _ hlt) hi hj hsx hsy fun h6 t6 tk k6 => ?_)
  dsimp only
  repeat (walk_at "ast")
  exact q _ _ (k3.trans k6)
end
section
section
variable {w : World} {A : Around} {E : Value → Shared → Prop} {b h : Heap} {g : Array GenState} {d : Drawn} {t : Nat} {os : OsState} {T : List (Addr × Obj)}
/-- the objects that stand for the places -/
noncomputable def KInv (K : Addr) (i : Nat) (ks : List Value) (X : List (Addr × Obj)) : Prop := ∃ l : List (Addr × Addr), l.length = i ∧ ks = l.map (fun p => .ref p.1) ∧ ∀ (j : Nat) (p : Addr × Addr), l[j]? = some p → ∃ tk, (p.1, kI K p.2 (.int j tk)) ∈ X ∧ (p.2, emptyDict) ∈ X
theorem KInv.nil {K : Addr} : KInv K 0 [] [] := ⟨[], rfl, rfl, fun j p h => by simp at h⟩
theorem KInv.snoc {K x dx : Addr} {i : Nat} {ks : List Value} {X : List (Addr × Obj)} {tk : Tok} (k : KInv K i ks X) : KInv K (i + 1) (ks ++ [.ref x]) ((x, kI K dx (.int i tk)) :: (dx, emptyDict) :: X) := by
  obtain ⟨l, e1, e2, e3⟩ := k
  refine ⟨l ++ [(x, dx)], by simp [e1], by simp [e2], fun j p hp => ?_⟩
  by_cases hj : j < l.length
  · rw [List.getElem?_append_left hj] at hp
    obtain ⟨tk', m1, m2⟩ := e3 j p hp
    exact ⟨tk', List.mem_cons_of_mem _ (List.mem_cons_of_mem _ m1), List.mem_cons_of_mem _ (List.mem_cons_of_mem _ m2)⟩
  · rw [List.getElem?_append_right (by omega)] at hp
    have hj' : j - l.length = 0 := by
      by_cases q : j - l.length = 0
      · exact q
      · rw [List.getElem?_eq_none (by simp; omega)] at hp; cases hp
    rw [hj'] at hp
    simp at hp
    subst hp
    have : j = i := by omega
    subst this
    exact ⟨tk, List.mem_cons_self .., List.mem_cons_of_mem _ (List.mem_cons_self ..)⟩
theorem KInv.at {K : Addr} {n i : Nat} {ks : List Value} {X : List (Addr × Obj)} (k : KInv K n ks X) (hi : i < n) : ∃ x dx tk, ks.getD i .none = .ref x ∧ (x, kI K dx (.int i tk)) ∈ X ∧ (dx, emptyDict) ∈ X := by
  obtain ⟨l, e1, e2, e3⟩ := k
  have hi' : i < l.length := by omega
  obtain ⟨tk, m1, m2⟩ := e3 i l[i] (List.getElem?_eq_getElem hi')
  refine ⟨l[i].1, l[i].2, tk, ?_, m1, m2⟩
  rw [e2, List.getD_eq_getElem?_getD, List.getElem?_map, List.getElem?_eq_getElem hi']
  rfl
/-- the texts that beside weighs -/
structure BesIn (T : List (Addr × Obj)) (fb : Addr) (sx : Nat → Str) (n : Nat) : Prop where
  ex : ∃ (ct c' : Addr) (pm ctv : Value) (oc : Obj) (lt : Addr) (vs : List Value) (k : Nat), (fb, besO ct c' pm ctv) ∈ T ∧ (c', oc) ∈ T ∧ CodeNm oc qLam ∧ (ct, cellO (some (.ref lt))) ∈ T ∧ (lt, lst vs.toArray k) ∈ T ∧ ∀ i : Nat, i < n → ∃ tk, vs[i]? = some (Value.str (sx i) tk)
theorem srt_K {r c K md f0 c0 f1 c1 fb : Addr} {TK : List (Addr × Obj)} {n : Nat} {ta tb tc : Tok} {sx : Nat → Str} {Q : Value → Shared → Prop} (G : Gr w b) (hh : A.handled = none) (hA : A.depth + 60 < recursionLimit) (hU : A.units + 60 < cLine) (O : Own b T h) (hr : (r, rangeO 0 n 1 ta tb tc) ∈ T)
    (F : KFacts TK c K md f0 c0 f1 c1) (hTK : ∀ p ∈ TK, p ∈ T) (hc : (c, cellO (some (.ref fb))) ∈ T) (B : BesIn T fb sx n) (h1 : 1 ≤ n) (h8 : n ≤ 8)
    (q : ∀ D k h' t' out, IntsAre out ((kEv (fun i j => decide (signZ (sx i) (sx j) < 0)) (kas_sort n)).toList.map fun i : Nat => (i : Int)) → Own b ((D, lst out.toArray k) :: T) h' → Q (.ref D) ⟨h', g, d, t', os⟩) :
    wpAny (model PG w) A (call (.builtin "sorted") [.ref r] [(Str.ofString "key", .ref K)]) Q E ⟨h, g, d, t, os⟩ := by
  have frag : ∀ {X Z : List (Addr × Obj)} {h : Heap}, (∀ p ∈ T, p ∈ Z) → Own b (X ++ Z) h → Frag.In TK h := fun hz O a o e => O.get (a, o) (List.mem_append_right _ (hz _ (hTK _ (lookup_mem e))))
  refine srt_key (Ty := .ref K) (KInv K) hh O hr h1 h8 KInv.nil (fun i tk ks X Z h t hi hl hI hz O => ?_) (fun ks X Z h hl hI O v hv => ?_) rfl (by simp) (fun i j ks X Z h t C hi hj hl hI hz O hC => ?_) q
  · refine wpAny_call (k_inst (G) F (frag hz O) O (by show A.depth + 20 < _; omega) fun x dx h' t' O' => ?_)
    exact ⟨_, h', t', rfl, hI.snoc, O'⟩
  · obtain ⟨l, e1, e2, e3⟩ := hI
    rw [e2] at hv
    obtain ⟨p, hp, rfl⟩ := List.mem_map.mp hv
    obtain ⟨j, hj, rfl⟩ := List.mem_iff_getElem.mp hp
    obtain ⟨tk, m1, m2⟩ := e3 j _ (List.getElem?_eq_getElem hj)
    exact (Looks.ld (part := none) (O.get _ (List.mem_append_left _ m1))).andThen .now
  · obtain ⟨x, dx, tx, ex, mx, mdx⟩ := hI.at hi
    obtain ⟨y, dy, ty, ey, my, mdy⟩ := hI.at hj
    obtain ⟨ct, c', pm, ctv, oc, lt, vs, k, b1, b2, b3, b4, b5, b6⟩ := B.ex
    obtain ⟨t1, s1⟩ := b6 i hi
    obtain ⟨t2, s2⟩ := b6 j hj
    have gz : ∀ p ∈ T, h.get? p.1 = some p.2 := fun p hp => O.get p (List.mem_append_right _ (hz p hp))
    have gx : ∀ p ∈ X, h.get? p.1 = some p.2 := fun p hp => O.get p (List.mem_append_left _ hp)
    rw [ex, ey, keyLt'_oneType, oneLt'_eq]
    simp only [if_true]
    have I : InstAt h x (kI K dx (.int i tx)) K (some emptyDict) := ⟨gx _ mx, rfl, rfl, gx _ mdx⟩
    refine wpAny_bind (wpAny_cRoomFor (by show A.units + 1 + 1 < _; omega) ?_)
    refine wpAny_bind (ifBound_K (frag hz O) I F.lt (by unfold isFn; rw [F.tf1]; rfl) (wpAny_call (k_lt (G.keeps fun a o e => O.keep a o e) F (frag hz O) (by show A.depth + 40 < _; omega) (gz _ hc) (gx _ mx) (gx _ mdx) (gx _ my) (gx _ mdy) (gz _ b1) (gz _ b2) b3 (gz _ b4) (gz _ b5) (by omega) (by omega) (by simpa using s1) (by simpa using s2) fun h' t' k' => ?_)))
    exact wpAny_truthy_bool (hC _ _ (O.grown k'))
end
end
section
open PySem.Spec PySem.SeqAt
mutual
/-- numbers, texts, lists of such -/
noncomputable def pl : PyData → Bool
  | .int _ => true
  | .str x => PyData.canLay0 (.str x)
  | .list xs => plAll xs
  | .none | .bool _ | .tuple _ | .dict _ => false
noncomputable def plAll : List PyData → Bool
  | [] => true
  | x :: xs => pl x && plAll xs
end
mutual
theorem pl_lay : ∀ d : PyData, pl d = true → PyData.canLay0 d = true
  | .int _, _ => by simp [PyData.canLay0]
  | .str x, h => by simpa [pl] using h
  | .list xs, h => by
    have := plAll_lay xs (by simpa [pl] using h)
    simpa [PyData.canLay0] using this
  | .none, h => by simp [pl] at h
  | .bool _, h => by simp [pl] at h
  | .tuple _, h => by simp [pl] at h
  | .dict _, h => by simp [pl] at h
theorem plAll_lay : ∀ ds : List PyData, plAll ds = true → PyData.canLayAll0 ds = true
  | [], _ => by simp [PyData.canLayAll0]
  | x :: xs, h => by
    simp only [plAll, Bool.and_eq_true] at h
    simp [PyData.canLayAll0, pl_lay x h.1, plAll_lay xs h.2]
end
mutual
theorem pl_mix : ∀ d d' : PyData, pl d = true → pl d' = true → noMix d d' = true
  | .int _, d', _, h' => by cases d' <;> simp_all [noMix, pl]
  | .str _, d', _, h' => by cases d' <;> simp_all [noMix, pl]
  | .list xs, .list ys, h, h' => by
    have := plAll_mix xs ys (by simpa [pl] using h) (by simpa [pl] using h')
    simpa [noMix] using this
  | .list xs, .int _, _, _ => by simp [noMix]
  | .list xs, .str _, _, _ => by simp [noMix]
  | .list xs, .none, _, _ => by simp [noMix]
  | .list xs, .bool _, _, h' => by simp [pl] at h'
  | .list xs, .tuple _, _, h' => by simp [pl] at h'
  | .list xs, .dict _, _, h' => by simp [pl] at h'
  | .none, _, h, _ => by simp [pl] at h
  | .bool _, _, h, _ => by simp [pl] at h
  | .tuple _, _, h, _ => by simp [pl] at h
  | .dict _, _, h, _ => by simp [pl] at h
theorem plAll_mix : ∀ ds ds' : List PyData, plAll ds = true → plAll ds' = true → noMixAll ds ds' = true
  | [], [], _, _ => by simp [noMixAll]
  | [], _ :: _, _, _ => by simp [noMixAll]
  | _ :: _, [], _, _ => by simp [noMixAll]
  | x :: xs, y :: ys, h, h' => by
    simp only [plAll, Bool.and_eq_true] at h h'
    simp [noMixAll, pl_mix x y h.1 h'.1, plAll_mix xs ys h.2 h'.2]
end
section
variable {w : World} {A : Around} {E : Value → Shared → Prop} {s : Shared} {Q : Value → Shared → Prop} {a b : Value} {da db : PyData} {as bs : List Addr}
theorem eq_d (ra : Reads s.heap a da as) (rb : Reads s.heap b db bs) (ha : pl da = true) (hb : pl db = true) (za : da.depth ≤ 64) (zb : db.depth ≤ 64) (hu : A.units + 64 < cLine) (q : ∀ c : Bool, (c = true ↔ da = db) → Q (.bool c) s) :
    wpAny (model PG w) A (compareOp .Eq a b) Q E s := by
  refine eq_dataH_same ra rb ?_ ?_ hu (pl_mix da db ha hb) (q _ PyProof.Rows.same_iff)
  · unfold shaped; rw [pl_lay da ha, decide_eq_true za]; rfl
  · unfold shaped; rw [pl_lay db hb, decide_eq_true zb]; rfl
theorem ne_d (ra : Reads s.heap a da as) (rb : Reads s.heap b db bs) (ha : pl da = true) (hb : pl db = true) (za : da.depth ≤ 64) (zb : db.depth ≤ 64) (hu : A.units + 64 < cLine) (q : ∀ c : Bool, (c = true ↔ da ≠ db) → Q (.bool c) s) :
    wpAny (model PG w) A (compareOp .NotEq a b) Q E s := by
  refine ne_dataH_same ra rb ?_ ?_ hu (pl_mix da db ha hb) (q _ ?_)
  · unfold shaped; rw [pl_lay da ha, decide_eq_true za]; rfl
  · unfold shaped; rw [pl_lay db hb, decide_eq_true zb]; rfl
  · rw [Bool.not_eq_true', ← Bool.not_eq_true, PyProof.Rows.same_iff]
end
end
section
open PySem.Spec PySem.SeqAt PySem.MeetsSeq PySem.MeetsSeq3 AutoSeq1 in
section
noncomputable def LtAt (A : Around) (s : Shared) (x y : Value) (r : Bool) : Prop :=
  ∀ (prog : Program) (w : World) (E : Value → Shared → Prop) (Q : Value → Shared → Prop), Q (.bool r) s → wpAny (model prog w) A (richCompare .Lt x y) Q E s
theorem lt_loop (l b : Addr) (items items2 : Array Value) (n n2 : Nat) (hsz : items.size = items2.size) (e lt r : Nat → Bool) (hr : ∀ i, i < items.size → r i = if e i = true then r (i + 1) else lt i) (hn : r items.size = false) (k : Nat) :
    ∀ i : Nat, i ≤ items.size → items.size - i = k → Meets (Builtin.«list.__eq__.loop» ⟨[.ref l, .ref b, rawInt i, rawInt 0], []⟩)
      (fun A R s => s.heap.get? l = some (lst items n) ∧ s.heap.get? b = some (lst items2 n2) ∧
        (∀ j (h1 : j < items.size) (h2 : j < items2.size), EqAt A.in1 s items[j] items2[j] (e j)) ∧ (∀ j (h1 : j < items.size) (h2 : j < items2.size), e j = false → LtAt A.in1 s items[j] items2[j] (lt j)) ∧
        R (.ok (.ret (.bool (r i)))) s) := by
  induction k with
  | zero =>
    intro i hi hk prog w A R s h
    obtain ⟨hp, g, d, tk, os⟩ := s; obtain ⟨hl, hb, he, ht, h⟩ := h
    wp_walk using wpAny_loadPart' hl, wpAny_loadPart' hb
    have hi1 : items[((i : Nat) : Int).toNat]? = none := by simp; omega
    have hi2 : items2[((i : Nat) : Int).toNat]? = none := by simp; omega
    have ei : i = items.size := by omega
    rw [ei, hn] at h
    rw [hi1, hi2]
    wp_walk using wpAny_loadPart' hl, wpAny_loadPart' hb
    show R (.ok (.ret (.bool (decide (items.size < items2.size))))) _
    rw [decide_eq_false (by omega)]
    exact h
  | succ k ih =>
    intro i hi hk prog w A R s h
    obtain ⟨hp, g, d, tk, os⟩ := s; obtain ⟨hl, hb, he, ht, h⟩ := h
    wp_walk using wpAny_loadPart' hl, wpAny_loadPart' hb
    have hlt : i < items.size := by omega
    have hlt2 : i < items2.size := by omega
    have hi1 : items[((i : Nat) : Int).toNat]? = some items[i] := by simp [hlt]
    have hi2 : items2[((i : Nat) : Int).toNat]? = some items2[i] := by simp [hlt2]
    have hc : ((i : Int) + 1) = ((i + 1 : Nat) : Int) := by push_cast; rfl
    rw [hr i hlt] at h
    rw [hi1, hi2]
    refine wpAny_bind (he i hlt hlt2 prog w _ _ ?_)
    cases hb' : e i with
    | true =>
      rw [hb', if_pos rfl] at h
      wp_walk
      rw [hc]
      exact ⟨plainId_quiet plain_eq_loop _, codeAny_builtin entry_eq_loop (by
        rw [Around.under_plainId plain_eq_loop _]
        exact ih (i + 1) (by omega) (by omega) prog w A R _ ⟨hl, hb, he, ht, h⟩)⟩
    | false =>
      rw [hb', if_neg (by decide)] at h
      wp_walk using wpAny_loadPart' hl, wpAny_loadPart' hb
      rw [hi1, hi2]
      refine wpAny_bind (ht i hlt hlt2 hb' prog w _ _ ?_)
      wp_walk
      exact h
theorem list_lt (l b : Addr) (items items2 : Array Value) (n n2 : Nat) (hsz : items.size = items2.size) (e lt r : Nat → Bool) (hr : ∀ i, i < items.size → r i = if e i = true then r (i + 1) else lt i) (hn : r items.size = false) :
    Meets (Builtin.«list.__lt__» ⟨[.ref l, .ref b], []⟩)
      (fun A R s => s.heap.get? l = some (lst items n) ∧ s.heap.get? b = some (lst items2 n2) ∧
        (∀ j (h1 : j < items.size) (h2 : j < items2.size), EqAt A.in1 s items[j] items2[j] (e j)) ∧ (∀ j (h1 : j < items.size) (h2 : j < items2.size), e j = false → LtAt A.in1 s items[j] items2[j] (lt j)) ∧
        R (.ok (.ret (.bool (r 0)))) s) := by
  intro prog w A R s h
  obtain ⟨hp, g, d, tk, os⟩ := s; obtain ⟨hl, hb, he, ht, h⟩ := h
  have f3 := AutoSeq1.sub_list_list
  wp_walk using wpAny_loadPart' hl, wpAny_loadPart' hb
  exact ⟨plainId_quiet plain_eq_loop _, codeAny_builtin entry_eq_loop (by
    rw [Around.under_plainId plain_eq_loop _]
    exact lt_loop l b items items2 n n2 hsz e lt r hr hn _ 0 (Nat.zero_le _) rfl prog w A R _ ⟨hl, hb, he, ht, h⟩)⟩
end
end
section
open PySem.Spec PySem.SeqAt PySem.MeetsSeq
noncomputable def lexL {α : Type} (eq lt : α → α → Bool) : List α → List α → Bool
  | a :: as, b :: bs => if eq a b = true then lexL eq lt as bs else lt a b
  | _, _ => false
/-- rows of ints, one before the other -/
noncomputable def ltI : List Int → List Int → Bool := lexL (fun a b => a == b) (fun a b => decide (a < b))
noncomputable def ltR : List (List Int) → List (List Int) → Bool := lexL (fun a b => a == b) ltI
theorem lexL_step {α : Type} {eq lt : α → α → Bool} {as bs : List α} {i : Nat} (h1 : i < as.length) (h2 : i < bs.length) :
    lexL eq lt (as.drop i) (bs.drop i) = if eq as[i] bs[i] = true then lexL eq lt (as.drop (i + 1)) (bs.drop (i + 1)) else lt as[i] bs[i] := by
  rw [List.drop_eq_getElem_cons h1, List.drop_eq_getElem_cons h2]; rfl
theorem lexL_end {α : Type} {eq lt : α → α → Bool} {as bs : List α} : lexL eq lt (as.drop as.length) bs = false := by
  rw [List.drop_length]; cases bs <;> rfl
theorem eqv_ints : ∀ ns ms : List Int, PyData.eqvAll (ns.map PyData.int) (ms.map PyData.int) = (ns == ms)
  | [], [] => by simp [PyData.eqvAll]
  | [], _ :: _ => by simp [PyData.eqvAll]
  | _ :: _, [] => by simp [PyData.eqvAll]
  | n :: r, k :: q => by
    simp only [List.map_cons, PyData.eqvAll, PyData.eqv, eqv_ints r q, List.cons_beq_cons]
/-- v stands for a row of ints -/
noncomputable def RowIs (h : Heap) (v : Value) (ns : List Int) : Prop := ∃ a us k, v = .ref a ∧ h.get? a = some (lst us.toArray k) ∧ IntsAre us ns
theorem RowIs.keeps {h h' : Heap} {v : Value} {ns : List Int} (r : RowIs h v ns) (k : Kp h h') : RowIs h' v ns := by
  obtain ⟨a, us, n, e, g, i⟩ := r
  exact ⟨a, us, n, e, k _ _ g, i⟩
theorem row_eq {A : Around} {s : Shared} {v v' : Value} {ns ms : List Int} (r : RowIs s.heap v ns) (r' : RowIs s.heap v' ms) (hu : A.units + 2 < cLine) : EqAt A s v v' (ns == ms) := by
  obtain ⟨a, us, n, rfl, g, i⟩ := r
  obtain ⟨a', us', n', rfl, g', i'⟩ := r'
  have d1 := W.depthAll_ints ns
  have e := eqAt_reads _ _ A s _ _ _ _ (reads_of_ints ⟨_, g, rfl, _, rfl⟩ i) (reads_of_ints ⟨_, g', rfl, _, rfl⟩ i') (by simp only [PyData.canLay0]; exact canLayAll0_ints ns) (by simp only [PyData.canLay0]; exact canLayAll0_ints ms) (by
    have : PyData.depth (.list (ns.map PyData.int)) ≤ 2 := by simp only [PyData.depth]; omega
    have := Nat.min_le_left (PyData.depth (.list (ns.map PyData.int))) (PyData.depth (.list (ms.map PyData.int)))
    omega)
  rw [show PyData.eqv (.list (ns.map PyData.int)) (.list (ms.map PyData.int)) = (ns == ms) from by simp only [PyData.eqv]; exact eqv_ints ns ms] at e
  exact e
theorem ints_at {us : List Value} {ns : List Int} (hi : IntsAre us ns) {j : Nat} (h1 : j < us.toArray.size) : ∃ (h2 : j < ns.length) (tk : Tok), us.toArray[j] = .int ns[j] tk := by
  have hl := hi.length
  have h2 : j < ns.length := by rw [List.size_toArray] at h1; omega
  obtain ⟨tk, e⟩ := ints_item hi j h2
  refine ⟨h2, tk, ?_⟩
  have e2 : us[j]? = some us.toArray[j] := by simp at h1 ⊢; try exact List.getElem?_eq_getElem h1
  rw [e] at e2
  have := Option.some.inj e2
  rw [← this]
  simp [h2]
theorem row_lt {A : Around} {s : Shared} {v v' : Value} {ns ms : List Int} (r : RowIs s.heap v ns) (r' : RowIs s.heap v' ms) (hl : ns.length = ms.length) (hu : A.units + 2 < cLine) : LtAt A s v v' (ltI ns ms) := by
  obtain ⟨a, us, n, rfl, g, i⟩ := r
  obtain ⟨a', us', n', rfl, g', i'⟩ := r'
  intro prog w E Q hq
  have l1 := i.length
  have l2 := i'.length
  have hsz : us.toArray.size = us'.toArray.size := by rw [List.size_toArray, List.size_toArray]; omega
  refine richCompare_meets_room (op := .Lt) (T := "list") ⟨_, g, rfl⟩ ⟨_, g', rfl⟩ F.slot_list_lt F.entry_list_lt (F.args_list_lt_2 _ _)
    (list_lt a a' us.toArray us'.toArray n n' hsz (fun j => ns.getD j 0 == ms.getD j 0) (fun j => decide (ns.getD j 0 < ms.getD j 0)) (fun j => ltI (ns.drop j) (ms.drop j)) (fun j hj => ?_) ?_)
    ⟨g, g', fun j h1 h2 => ?_, fun j h1 h2 he => ?_, show Value.bool (ltI ns ms) ≠ Value.notImplemented ∧ Q (.bool (ltI ns ms)) s from ⟨(fun x => nomatch x), hq⟩⟩ (by omega)
  · obtain ⟨h2, _⟩ := ints_at i hj
    have e1 : ns.getD j 0 = ns[j] := by simp [h2]
    have e2 : ms.getD j 0 = ms[j] := by simp [show j < ms.length by omega]
    rw [e1, e2]
    exact lexL_step h2 (by omega)
  · rw [List.size_toArray, l1]
    exact lexL_end
  · obtain ⟨k1, t1, e1⟩ := ints_at i h1
    obtain ⟨k2, t2, e2⟩ := ints_at i' h2
    rw [e1, e2]
    have x1 : ns.getD j 0 = ns[j] := by simp [k1]
    have x2 : ms.getD j 0 = ms[j] := by simp [k2]
    rw [x1, x2]
    exact (EqGives.int _ _ _ _).at _ _
  · obtain ⟨k1, t1, e1⟩ := ints_at i h1
    obtain ⟨k2, t2, e2⟩ := ints_at i' h2
    rw [e1, e2]
    have x1 : ns.getD j 0 = ns[j] := by simp [k1]
    have x2 : ms.getD j 0 = ms[j] := by simp [k2]
    rw [x1, x2]
    intro prog w E Q hq
    exact PySem.P.lt_int hq
/-- a list of such rows -/
noncomputable def RowsAre (h : Heap) (vs : List Value) (rows : List (List Int)) : Prop := vs.length = rows.length ∧ ∀ (j : Nat) (v : Value), vs[j]? = some v → RowIs h v (rows.getD j [])
theorem RowsAre.keeps {h h' : Heap} {vs : List Value} {rows : List (List Int)} (r : RowsAre h vs rows) (k : Kp h h') : RowsAre h' vs rows := ⟨r.1, fun j v e => (r.2 j v e).keeps k⟩
theorem key_lt {w : World} {A : Around} {s : Shared} {a a' : Addr} {n n' : Nat} {vs vs' : List Value} {rows rows' : List (List Int)} {C : Bool → Shared → Prop} (g : s.heap.get? a = some (lst vs.toArray n)) (g' : s.heap.get? a' = some (lst vs'.toArray n')) (r : RowsAre s.heap vs rows) (r' : RowsAre s.heap vs' rows')
    (hl : rows.length = rows'.length) (h10 : ∀ x ∈ rows, x.length = 10) (h10' : ∀ x ∈ rows', x.length = 10) (hu : A.units + 10 < cLine) (hq : C (ltR rows rows') s) :
    wpAny (model PG w) A (keyLt' oneType' (.ref a) (.ref a')) C (fun _ _ => False) s := by
  have hsz : vs.toArray.size = vs'.toArray.size := by rw [List.size_toArray, List.size_toArray, r.1, r'.1]; exact hl
  have row : ∀ {h : Heap} {vs : List Value} {rows : List (List Int)} (r : RowsAre h vs rows) {j : Nat} (h1 : j < vs.toArray.size), ∃ h2 : j < rows.length, RowIs h vs.toArray[j] rows[j] := by
    intro h vs rows r j h1
    have h1' : j < vs.length := by simpa using h1
    have h2 : j < rows.length := by rw [← r.1]; exact h1'
    refine ⟨h2, ?_⟩
    have := r.2 j vs[j] (List.getElem?_eq_getElem h1')
    have e : rows.getD j [] = rows[j] := by simp [h2]
    rw [e] at this
    exact this
  rw [keyLt'_oneType, oneLt'_eq]
  simp only [if_true]
  refine wpAny_bind (wpAny_cRoomFor (by omega) ?_)
  refine wpAny_bind (wpAny_callSpecialIfBound?_slot (T := "list") ⟨_, g, rfl⟩ F.slot_list_lt (call_meets F.slot_list_lt ⟨_, g, rfl⟩ F.entry_list_lt (F.args_list_lt_2 _ _)
    (list_lt a a' vs.toArray vs'.toArray n n' hsz (fun j => rows.getD j [] == rows'.getD j []) (fun j => ltI (rows.getD j []) (rows'.getD j [])) (fun j => ltR (rows.drop j) (rows'.drop j)) (fun j hj => ?_) ?_)
    ⟨g, g', fun j h1 h2 => ?_, fun j h1 h2 he => ?_, ?_⟩))
  · obtain ⟨h2, _⟩ := row r hj
    have e1 : rows.getD j [] = rows[j] := by simp [h2]
    have e2 : rows'.getD j [] = rows'[j] := by simp [show j < rows'.length by omega]
    rw [e1, e2]
    exact lexL_step h2 (by omega)
  · rw [List.size_toArray, r.1]
    exact lexL_end
  · obtain ⟨k1, R1⟩ := row r h1
    obtain ⟨k2, R2⟩ := row r' h2
    have x1 : rows.getD j [] = rows[j] := by simp [k1]
    have x2 : rows'.getD j [] = rows'[j] := by simp [k2]
    rw [x1, x2]
    exact row_eq R1 R2 (by show A.units + 1 + 2 < _; omega)
  · obtain ⟨k1, R1⟩ := row r h1
    obtain ⟨k2, R2⟩ := row r' h2
    have x1 : rows.getD j [] = rows[j] := by simp [k1]
    have x2 : rows'.getD j [] = rows'[j] := by simp [k2]
    rw [x1, x2]
    exact row_lt R1 R2 (by rw [h10 _ (List.getElem_mem k1), h10' _ (List.getElem_mem k2)]) (by show A.units + 1 + 2 < _; omega)
  · exact wpAny_truthy_bool hq
end
section
noncomputable def occStep (x y : Str) (hi : Nat) (i : Nat) (r : Array Nat × Nat) : Id (ForInStep (Array Nat × Nat)) :=
  if (decide (r.1.size < 1) && decide (r.2 ≤ i) && decide (i + y.length ≤ hi) && Builtin.Str.subAt x y i) = true then pure (ForInStep.yield ⟨r.1.push i, i + y.length⟩) else pure (ForInStep.yield ⟨r.1, r.2⟩)
noncomputable def fits (x y : Str) (i : Nat) : Bool := decide (i + y.length ≤ x.length) && Builtin.Str.subAt x y i
theorem occStep_full (x y : Str) (hi : Nat) : ∀ (l : List Nat) (f : Array Nat) (n : Nat), f.size = 1 → (forIn l (⟨f, n⟩ : Array Nat × Nat) (occStep x y hi)).run = ⟨f, n⟩
  | [], _, _, _ => rfl
  | i :: l, f, n, h => by
    rw [List.forIn_cons]
    have e : occStep x y hi i ⟨f, n⟩ = pure (ForInStep.yield ⟨f, n⟩) := by
      unfold occStep
      rw [if_neg (by simp [h])]
    rw [e]
    exact occStep_full x y hi l f n h
theorem occStep_run (x y : Str) : ∀ (l : List Nat) (n : Nat), (∀ i ∈ l, n ≤ i) → (forIn l ((#[], n) : Array Nat × Nat) (occStep x y x.length)).run.1.toList = (l.find? (fits x y)).toList
  | [], _, _ => rfl
  | i :: l, n, h => by
    rw [List.forIn_cons]
    have hn : n ≤ i := h i (List.mem_cons_self ..)
    by_cases hf : fits x y i = true
    · have e : occStep x y x.length i ⟨#[], n⟩ = pure (ForInStep.yield ⟨#[i], i + y.length⟩) := by
        unfold occStep
        rw [if_pos (by unfold fits at hf; simp only [Array.size_empty, decide_eq_true hn]; simpa using hf)]
        rfl
      rw [e, List.find?_cons_of_pos hf]
      show ((forIn l (⟨#[i], i + y.length⟩ : Array Nat × Nat) (occStep x y x.length)).run).1.toList = _
      rw [occStep_full _ _ _ _ _ _ rfl]
      rfl
    · have e : occStep x y x.length i ⟨#[], n⟩ = pure (ForInStep.yield ⟨#[], n⟩) := by
        unfold occStep
        rw [if_neg (by
          intro q; apply hf; unfold fits
          simp only [Bool.and_eq_true] at q ⊢
          exact ⟨q.1.2, q.2⟩)]
      rw [e, List.find?_cons_of_neg hf]
      exact occStep_run x y l n fun j hj => h j (List.mem_cons_of_mem _ hj)
theorem occ_find (x y : Str) (k : Nat) : occ x y k = (List.range' k (x.length + 1 - k)).find? (fits x y) := by
  have e : Builtin.Str.occurrences x y k x.length 1 = (forIn [k:x.length + 1] (⟨#[], k⟩ : Array Nat × Nat) (occStep x y x.length)).run.1.toList := rfl
  unfold occ
  rw [e, Std.Legacy.Range.forIn_eq_forIn_range']
  have hsz : ([k:x.length + 1] : Std.Legacy.Range).size = x.length + 1 - k := by simp [Std.Legacy.Range.size]
  rw [hsz, occStep_run x y _ k (by intro i hi; rw [List.mem_range'] at hi; obtain ⟨j, _, rfl⟩ := hi; show k ≤ k + 1 * j; omega)]
  show _ = List.find? (fits x y) (List.range' k (x.length + 1 - k))
  cases h : List.find? (fits x y) (List.range' k (x.length + 1 - k)) <;> simp
theorem find_range' (p : Nat → Bool) : ∀ (n k i : Nat), k ≤ i → i < k + n → p i = true → (∀ j, k ≤ j → j < i → p j = false) → (List.range' k n).find? p = some i
  | 0, k, i, h1, h2, _, _ => by omega
  | n + 1, k, i, h1, h2, hp, hn => by
    rw [List.range'_succ]
    by_cases e : k = i
    · subst e; rw [List.find?_cons_of_pos hp]
    · rw [List.find?_cons_of_neg (by rw [hn k (Nat.le_refl _) (by omega)]; decide)]
      exact find_range' p n (k + 1) i (by omega) (by omega) hp fun j h3 h4 => hn j (by omega) h4
theorem occ_some {x y : Str} {k i : Nat} (h1 : k ≤ i) (hi : fits x y i = true) (hn : ∀ j, k ≤ j → j < i → fits x y j = false) : occ x y k = some i := by
  rw [occ_find]
  have : i + y.length ≤ x.length := by
    unfold fits at hi; rw [Bool.and_eq_true] at hi; exact of_decide_eq_true hi.1
  exact find_range' _ _ _ _ h1 (by omega) hi hn
theorem occ_none {x y : Str} {k : Nat} (hn : ∀ j, k ≤ j → fits x y j = false) : occ x y k = none := by
  rw [occ_find, List.find?_eq_none]
  intro j hj
  rw [List.mem_range'] at hj
  obtain ⟨i, _, rfl⟩ := hj
  rw [hn _ (by omega)]; decide
end
section
theorem c_text_in {w : World} {A : Around} {h : Heap} {g : Array GenState} {d : Drawn} {t : Nat} {os : OsState} {l : Addr} {R : Result → Shared → Prop} (G : Gr w h) (hA : A.depth + 20 < recursionLimit)
    (q : ∀ L c1 c2 h' t', L ≠ 0 → St h L (fun _ => none) [(c2, cellO none), (c1, cellO (some (.ref l)))] h' →
      wpAny (model PG w) (A.deeper (ev123 L c1 c2)) (execs (defBody (PB.getD 34 default)) (ev123 L c1 c2)) (fun fl s' => R (.ok (.ret (match fl with | .ret v => v | _ => .none))) s')
        (fun e s' => wpAny (model PG w) (A.deeper (ev123 L c1 c2)) (leaving (ev123 L c1 c2) e) (fun _ s'' => R (.error e) s'') (fun e' s'' => R (.error e') s'') s') ⟨h', g, d, t', os⟩) :
    codeAny (model PG w) A (.call (.ref 123) ⟨[.ref l], []⟩) R ⟨h, g, d, t, os⟩ := by
  have R0 := Own.start h
  refine' codeAny_call_function (by omega) (G.get ?m) ?m1 ?m2 ?m3 ?m4 ?cr ?_
  case m => exact rfl
  case m1 => exact rfl
  case m2 => exact rfl
  case m3 => exact rfl
  case m4 => exact rfl
  case cr => exact codeRec_of G.k rfl
  repeat (walk_at "ro")
  rename_i L h1 R1 c1 h2 R2 c2 h3 R3 h4 R4
  have R5 := R4.sel (T' := [(L, { cls := .type "frame", data := .dict #[] }), (c2, cellO none), (c1, cellO (some (.ref l)))]) 3 [2, 0, 1] (by decide +kernel) rfl
  refine ⟨(G.keeps R4.keep).noLimit, codeAny_func ?_⟩
  exact q L c1 c2 h4 _ (G.ne0 (R5.new _ (List.mem_cons_self ..))) (St.ofOwn R5)
noncomputable def alph : List Str := [Str.ofString "-?bcdlps", Str.ofString "-r", Str.ofString "-w", Str.ofString "-Ssx", Str.ofString "-r", Str.ofString "-w", Str.ofString "-Ssx", Str.ofString "-r", Str.ofString "-w", Str.ofString "-Ttx"]
noncomputable def sgn (rs : List Int) (k : Nat) : Str := ⟨#[(alph.getD k Str.empty).cps.getD (rs.getD k 0).toNat 0]⟩
noncomputable def txtS (rs : List Int) : Str := Txt.join (Str.ofString "") ((List.range 10).map (sgn rs))
noncomputable def RkOk (rs : List Int) : Prop := rs.length = 10 ∧ ∀ k, k < 10 → 0 ≤ rs.getD k 0 ∧ (rs.getD k 0).toNat < (alph.getD k Str.empty).cps.size
theorem c_text {w : World} {A : Around} {h : Heap} {g : Array GenState} {d : Drawn} {t : Nat} {os : OsState} {l : Addr} {vs : List Value} {rs : List Int} {n : Nat} {R : Result → Shared → Prop} (G : Gr w h) (hh : A.handled = none) (hA : A.depth + 20 < recursionLimit)
    (hl : h.get? l = some (lst vs.toArray n)) (hI : IntsAre vs rs) (hr : RkOk rs)
    (q : ∀ h' t' tk, Kp h h' → R (.ok (.ret (.str (txtS rs) tk))) ⟨h', g, d, t', os⟩) : codeAny (model PG w) A (.call (.ref 123) ⟨[.ref l], []⟩) R ⟨h, g, d, t, os⟩ := by
  refine c_text_in G hA fun L c1 c2 h1 t1 hL0 S1 => ?_
  conv => arg 3; arg 1; whnf
  repeat (walk_at "ast")
  refine' l_mul (by assumption) (St.get (by assumption) ?m1) (by decide) ?z (fun a₂ h₂ S₂ => ?_)
  case m1 => walk_at "mem"
  case z => exact Nat.le_of_ble_eq_true rfl
  refine' l_addL (by assumption) (St.get (by assumption) ?m1) (St.get (by assumption) ?m2) ?z (fun a₃ h₃ S₃ => ?_)
  case m1 => walk_at "mem"
  case m2 => walk_at "mem"
  case z => exact Nat.le_of_ble_eq_true rfl
  repeat (walk_at "ast")
  refine' l_addL (by assumption) (St.get (by assumption) ?m1) (St.get (by assumption) ?m2) ?z (fun a₄ h₄ S₄ => ?_)
  case m1 => walk_at "mem"
  case m2 => walk_at "mem"
  case z => exact Nat.le_of_ble_eq_true rfl
  repeat (walk_at "ast")
  refine' n_cellSet (by assumption) ?c ?p ?k ?l (fun h₅ S₅ => ?_)
  case c => exact rfl
  case p => walk_at "put"
  case k => exact rfl
  case l => exact rfl
  obtain ⟨rl, hrl, S₆⟩ : ∃ rl : List Value, (∀ i, i < 10 → ∃ tk, rl[i]? = some (.str (alph.getD i Str.empty) tk)) ∧ St h L (fun _ => none) [(a₄, lst rl.toArray 0), (c2, cellO (some (.ref a₄))), (c1, cellO (some (.ref l)))] h₅ := by
    refine ⟨_, ?_, S₅.sel 8 [0, 6, 7] (by decide +kernel) rfl⟩
    intro i hi
    match i, hi with
    | 0, _ => exact ⟨_, rfl⟩
    | 1, _ => exact ⟨_, rfl⟩
    | 2, _ => exact ⟨_, rfl⟩
    | 3, _ => exact ⟨_, rfl⟩
    | 4, _ => exact ⟨_, rfl⟩
    | 5, _ => exact ⟨_, rfl⟩
    | 6, _ => exact ⟨_, rfl⟩
    | 7, _ => exact ⟨_, rfl⟩
    | 8, _ => exact ⟨_, rfl⟩
    | 9, _ => exact ⟨_, rfl⟩
  clear S₂ S₃ S₄ S₅
  dsimp only
  repeat (walk_at "ast")
  refine' lc_open ?hc ?hcell ?hk ?hn ?hs ?_
  case hc => exact rfl
  case hcell => decide
  case hk => exact rfl
  case hn => decide
  case hs => intro x; rfl
  repeat (walk_at "ast")
  refine r_range1 S₆ fun r h₇ t₇ ta tc S₇ => ?_
  repeat (walk_at "ast")
  refine r_iter S₇ (List.mem_cons_self ..) (by omega) (by omega) fun it h₈ S₈ => ?_
  refine ⟨_, _, _, _, _, _, _, _, _, _, rfl, rfl, hL0, S₈, fun D C oL h₉ hC ho S₉ => ⟨?_, ?_⟩⟩
  · refine' ri_self S₉ ?m
    case m => walk_at "mem"
  have S₁₀ := S₉.sel (T' := [(it, rngIt (0 + (0 : Nat)) ((10 : Nat) - (0 : Nat)) 1), (D, lst #[] 0), (L, oL), (a₄, lst rl.toArray 0), (c2, cellO (some (.ref a₄))), (c1, cellO (some (.ref l)))]) 7 [2, 0, 1, 4, 5, 6] (by decide +kernel) rfl
  refine lc_range (T0 := [(L, oL), (a₄, lst rl.toArray 0), (c2, cellO (some (.ref a₄))), (c1, cellO (some (.ref l)))]) (n := 10) (fun i vs X => X = [] ∧ ∃ l : List (Str × Tok), vs = strValues l ∧ l.map (·.1) = (List.range i).map (sgn rs)) (show (A.deeper (ev123 L c1 c2)).handled = none from hh) hC ?_ ?_ ?_ (by omega) ?_ ?_ 10 0 rfl [] [] 0 _ _ _ rfl ⟨rfl, [], rfl, rfl⟩ S₁₀
  · exact rfl
  · exact rfl
  · exact rfl
  · intro i vs' X nn mC tk h₁ t hi hv hX hm S
    obtain ⟨rfl, l', e1, e2⟩ := hX
    rw [show (0 : Int) + (i : Int) = (i : Int) from Int.zero_add _] at hm S ⊢
    repeat (walk_at "ast")
    obtain ⟨tr, er⟩ := hrl i hi
    refine' l_item (St.get (by assumption) ?m) (by omega) (by omega) (x := .str (alph.getD i Str.empty) tr) ?x ?_
    case m => walk_at "mem"
    case x => simpa using er
    repeat (walk_at "ast")
    obtain ⟨hlen, hok⟩ := hr
    obtain ⟨tq, eq⟩ := ints_item hI i (by omega)
    obtain ⟨ho1, ho2⟩ := hok i hi
    refine l_item (S.keep _ _ hl) (by omega) (by omega) (x := .int (rs.getD i 0) tq) (by simpa using eq) ?_
    have hsz : ∀ k : Fin 10, (alph.getD k.1 Str.empty).cps.size ≤ 8 := by decide +kernel
    have := hsz ⟨i, hi⟩
    dsimp only at this
    refine s_item ho1 (by omega) (Array.getElem?_eq_getElem ho2) fun t₁ => ?_
    refine ⟨[], _, _, rfl, ⟨rfl, l' ++ [(sgn rs i, t)], ?_, ?_⟩, S⟩
    · have : sgn rs i = ⟨#[(alph.getD i Str.empty).cps[(rs.getD i 0).toNat]]⟩ := by
        unfold sgn; rw [Array.getD_eq_getD_getElem?, Array.getElem?_eq_getElem ho2]; rfl
      rw [e1, this]
      unfold strValues
      rw [List.map_append]; rfl
    · rw [List.map_append, e2, List.range_succ, List.map_append]; rfl
  · intro vs' X nn mC h₁ t hv hX S
    obtain ⟨rfl, l', e1, e2⟩ := hX
    have S' := S.sel (T' := [(L, oL), (D, lst vs'.toArray nn), (a₄, lst rl.toArray 0), (c2, cellO (some (.ref a₄))), (c1, cellO (some (.ref l)))]) 5 [1, 0, 2, 3, 4] (by decide +kernel) rfl
    refine lc_fin (vs := #[]) (n := 0) S' hC ho fun h₂ S₂ => ?_
    repeat (walk_at "ast")
    refine SC.join (l := l') (texts := (List.range 10).map (sgn rs)) ⟨_, S₂.get (List.mem_cons_self ..), rfl, _, by rw [e1]⟩ e2 (join_ok (k := 1) (by intro s hs; obtain ⟨k, _, rfl⟩ := List.mem_map.mp hs; rfl) (by simp)) fun tk k => ?_
    exact q _ _ _ S₂.keep
end
section
/-- a text told by its places -/
noncomputable def tx (f : Nat → Nat) (n : Nat) : Str := ⟨((List.range n).map f).toArray⟩
theorem tx_len (f : Nat → Nat) (n : Nat) : (tx f n).length = n := by
  show ((List.range n).map f).toArray.size = n
  rw [List.size_toArray, List.length_map, List.length_range]
theorem tx_list (f : Nat → Nat) (n : Nat) : (tx f n).cps.toList = (List.range n).map f := rfl
theorem tx_ext {f g : Nat → Nat} {n : Nat} (h : ∀ x, x < n → f x = g x) : tx f n = tx g n := by
  unfold tx
  rw [List.map_congr_left fun x hx => h x (List.mem_range.mp hx)]
theorem range_add (n m : Nat) : List.range (n + m) = List.range n ++ (List.range m).map (n + ·) := by
  rw [List.range_add]
theorem tx_append (f : Nat → Nat) (n m : Nat) : (tx f (n + m)).cps.toList = (tx f n).cps.toList ++ (tx (fun x => f (n + x)) m).cps.toList := by
  rw [tx_list, tx_list, tx_list, range_add, List.map_append, List.map_map]; rfl
theorem str_ext {x y : Str} (h : x.cps.toList = y.cps.toList) : x = y := by
  cases x; cases y; congr 1; exact Array.toList_inj.mp h
theorem flat_foldl (ps : List Str) : ∀ acc : Array Nat, (List.foldl (fun (acc : Array Nat) (p : Str) => acc ++ (Str.ofString "").cps ++ p.cps) acc ps).toList = acc.toList ++ ps.flatMap (fun p => p.cps.toList) := by
  induction ps with
  | nil => intro acc; simp
  | cons p r ih =>
    intro acc
    rw [List.foldl_cons, ih, List.flatMap_cons]
    have : (Str.ofString "").cps = #[] := by decide +kernel
    rw [this]; simp
theorem join_flat (ps : List Str) : (Txt.join (Str.ofString "") ps).cps.toList = ps.flatMap (fun p => p.cps.toList) := by
  unfold Txt.join Builtin.Str.glued
  cases ps with
  | nil => rfl
  | cons p r =>
    exact (flat_foldl r p.cps).trans rfl
/-- a column's sign -/
noncomputable def colSign (c : Nat) (r : Int) : Nat := (alph.getD c Str.empty).cps.getD r.toNat 0
/-- the sign at place i of the listing that repeats without end -/
noncomputable def sg (ring : List (List Int)) (i : Nat) : Nat := colSign (i % 10) ((ring.getD (i / 10 % ring.length) []).getD (i % 10) 0)
theorem txt_tx (rs : List Int) : txtS rs = tx (fun c => colSign c (rs.getD c 0)) 10 := by
  apply str_ext
  unfold txtS
  rw [join_flat, tx_list, List.flatMap_map]
  show (List.range 10).flatMap (fun k => [colSign k (rs.getD k 0)]) = _
  exact List.map_eq_flatMap.symm
theorem flat_rows (g : Nat → Nat → Nat) : ∀ n, (List.range n).flatMap (fun j => (List.range 10).map (g j)) = (List.range (10 * n)).map (fun i => g (i / 10) (i % 10))
  | 0 => rfl
  | n + 1 => by
    rw [List.range_succ (n := n), List.flatMap_append, flat_rows g n, Nat.mul_succ, range_add, List.map_append, List.map_map, List.flatMap_cons, List.flatMap_nil, List.append_nil]
    congr 1
    apply List.map_congr_left
    intro c hc
    have hc' := List.mem_range.mp hc
    show g n c = g ((10 * n + c) / 10) ((10 * n + c) % 10)
    rw [show (10 * n + c) / 10 = n by omega, show (10 * n + c) % 10 = c by omega]
theorem map_range_getD {α β : Type} (f : α → β) (d : α) (l : List α) : l.map f = (List.range l.length).map (fun j => f (l.getD j d)) := by
  apply List.ext_getElem (by simp)
  intro i h1 h2
  have hi : i < l.length := by simpa using h1
  simp [hi]
theorem whole_tx (ring : List (List Int)) : Txt.join (Str.ofString "") (ring.map txtS) = tx (sg ring) (10 * ring.length) := by
  apply str_ext
  rw [join_flat, tx_list, map_range_getD txtS [] ring, List.flatMap_map]
  have : (fun a => (txtS (ring.getD a [])).cps.toList) = fun j => (List.range 10).map (fun c => colSign c ((ring.getD j []).getD c 0)) := by
    funext j; rw [txt_tx, tx_list]
  rw [this, flat_rows (fun j c => colSign c ((ring.getD j []).getD c 0))]
  apply List.map_congr_left
  intro i hi
  have hi' := List.mem_range.mp hi
  show colSign (i % 10) ((ring.getD (i / 10) []).getD (i % 10) 0) = _
  unfold sg
  rw [Nat.mod_eq_of_lt (show i / 10 < ring.length by omega)]
theorem sg_per (ring : List (List Int)) (i : Nat) : sg ring (i + 10 * ring.length) = sg ring i := by
  unfold sg
  rw [show (i + 10 * ring.length) % 10 = i % 10 by omega, show (i + 10 * ring.length) / 10 = i / 10 + ring.length by omega, Nat.add_mod_right]
theorem per_mul {f : Nat → Nat} {N : Nat} (h : ∀ i, f (i + N) = f i) : ∀ k i, f (i + k * N) = f i
  | 0, i => by rw [Nat.zero_mul]; rfl
  | k + 1, i => by rw [Nat.succ_mul, ← Nat.add_assoc, h, per_mul h k]
theorem twice_tx {f : Nat → Nat} {N : Nat} (h : ∀ i, f (i + N) = f i) : (tx f (N + N)).cps.toList = (tx f N).cps.toList ++ (tx f N).cps.toList := by
  rw [tx_append]
  congr 1
  refine congrArg (fun s : Str => s.cps.toList) (tx_ext fun x _ => ?_)
  show f (N + x) = f x
  rw [Nat.add_comm, h]
/-- the turn by k signs -/
noncomputable def turnT (f : Nat → Nat) (N k : Nat) : Str := tx (fun x => f (k + x)) N
theorem fits_iff {f : Nat → Nat} {N : Nat} (k i : Nat) : fits (tx f (N + N)) (turnT f N k) i = true ↔ i ≤ N ∧ ∀ x, x < N → f (i + x) = f (k + x) := by
  have key : i ≤ N → (((tx f (N + N)).cps.extract i (i + N) == (tx (fun x => f (k + x)) N).cps) = true ↔ ∀ x, x < N → f (i + x) = f (k + x)) := by
    intro hi
    rw [beq_iff_eq, ← Array.toList_inj, Array.toList_extract, tx_list, tx_list, List.extract_eq_take_drop, Nat.add_sub_cancel_left]
    constructor
    · intro h x hx
      have := congrArg (fun l => l[x]?) h
      simp only [List.getElem?_take, hx, if_true, List.getElem?_drop, List.getElem?_map] at this
      rw [List.getElem?_range (by omega), List.getElem?_range hx] at this
      simpa using this
    · intro h
      apply List.ext_getElem?
      intro x
      by_cases hx : x < N
      · simp only [List.getElem?_take, hx, if_true, List.getElem?_drop, List.getElem?_map]
        rw [List.getElem?_range (by omega), List.getElem?_range hx]
        simp [h x hx]
      · rw [List.getElem?_eq_none (by simp; omega), List.getElem?_eq_none (by simp; omega)]
  unfold fits Builtin.Str.subAt turnT
  rw [tx_len, tx_len, Bool.and_eq_true, decide_eq_true_iff]
  constructor
  · rintro ⟨h1, h2⟩; exact ⟨by omega, (key (by omega)).mp h2⟩
  · rintro ⟨h1, h2⟩; exact ⟨by omega, (key h1).mpr h2⟩
/-- p is the least turn: every turn into itself is by a multiple of p -/
structure Least (f : Nat → Nat) (N p : Nat) : Prop where
  pos : 0 < p
  n0 : 0 < N
  cyc : ∀ i, f (i + N) = f i
  per : ∀ i, f (i + p) = f i
  dvd : ∀ d, 0 < d → (∀ i, f (i + d) = f i) → d % p = 0
section
variable {f : Nat → Nat} {N p : Nat}
theorem Least.same (L : Least f N p) {i k : Nat} (h : ∀ x, x < N → f (i + x) = f (k + x)) : i % p = k % p := by
  have all : ∀ x, f (i + x) = f (k + x) := by
    intro x
    have e1 : f (i + x) = f (i + x % N) := by
      have := per_mul L.cyc (x / N) (i + x % N)
      rw [← this]; congr 1
      have := Nat.mod_add_div x N
      rw [Nat.mul_comm] at this; omega
    have e2 : f (k + x) = f (k + x % N) := by
      have := per_mul L.cyc (x / N) (k + x % N)
      rw [← this]; congr 1
      have := Nat.mod_add_div x N
      rw [Nat.mul_comm] at this; omega
    rw [e1, e2]; exact h _ (Nat.mod_lt _ L.n0)
  have shift : ∀ a d : Nat, (∀ x, f (a + x) = f (a + d + x)) → ∀ i, f (i + d) = f i := by
    intro a d h i
    have h1 := per_mul L.cyc a i
    have h2 := per_mul L.cyc a (i + d)
    have ha : a ≤ a * N := Nat.le_mul_of_pos_right _ L.n0
    have h3 := h (i + a * N - a)
    rw [show a + (i + a * N - a) = i + a * N by omega, show a + d + (i + a * N - a) = i + d + a * N by omega] at h3
    rw [← h2, ← h3, h1]
  rcases Nat.lt_trichotomy i k with hlt | rfl | hlt
  · have hd := L.dvd (k - i) (by omega) (shift i (k - i) fun x => by rw [all x]; congr 1; omega)
    have : k = i + (k - i) := by omega
    rw [this, Nat.add_mod, hd, Nat.add_zero, Nat.mod_mod]
  · rfl
  · have hd := L.dvd (i - k) (by omega) (shift k (i - k) fun x => by rw [← all x]; congr 1; omega)
    have : i = k + (i - k) := by omega
    rw [this, Nat.add_mod, hd, Nat.add_zero, Nat.mod_mod]
theorem Least.move (L : Least f N p) {i k : Nat} (h : i % p = k % p) (x : Nat) : f (i + x) = f (k + x) := by
  have r : ∀ a, f (a + x) = f (a % p + x) := by
    intro a
    have := per_mul L.per (a / p) (a % p + x)
    rw [← this]; congr 1
    have := Nat.mod_add_div a p
    rw [Nat.mul_comm] at this; omega
  rw [r i, r k, h]
theorem Least.fits (L : Least f N p) (k i : Nat) : fits (tx f (N + N)) (turnT f N k) i = true ↔ i ≤ N ∧ i % p = k % p := by
  rw [fits_iff]
  exact and_congr_right fun _ => ⟨fun h => L.same h, fun h x _ => L.move h x⟩
theorem Least.dvdN (L : Least f N p) : N % p = 0 := L.dvd N L.n0 L.cyc
theorem Least.first (L : Least f N p) {k : Nat} (hk : k < N) : occ (tx f (N + N)) (turnT f N k) 0 = some (k % p) := by
  have hm := Nat.mod_lt k L.pos
  have hle := Nat.mod_le k p
  refine occ_some (Nat.zero_le _) ((L.fits _ _).mpr ⟨by omega, Nat.mod_mod _ _⟩) fun j _ hj => ?_
  rw [← Bool.not_eq_true]
  intro h
  have := ((L.fits _ _).mp h).2
  rw [Nat.mod_eq_of_lt (show j < p by omega)] at this
  omega
theorem Least.second (L : Least f N p) {k : Nat} (h : k % p + p ≤ N) : occ (tx f (N + N)) (turnT f N k) (k % p + 1) = some (k % p + p) := by
  have hm := Nat.mod_lt k L.pos
  refine occ_some (by have := L.pos; omega) ((L.fits _ _).mpr ⟨h, by rw [Nat.add_mod_right, Nat.mod_mod]⟩) fun j h1 h2 => ?_
  rw [← Bool.not_eq_true]
  intro hf
  have e := ((L.fits _ _).mp hf).2
  by_cases hj : j < p
  · rw [Nat.mod_eq_of_lt hj] at e; omega
  · have : j % p = j - p := by rw [Nat.mod_eq_sub_mod (by omega), Nat.mod_eq_of_lt (by omega)]
    omega
theorem Least.no_second (L : Least f N p) {k : Nat} (h : N < k % p + p) : occ (tx f (N + N)) (turnT f N k) (k % p + 1) = none := by
  have hm := Nat.mod_lt k L.pos
  refine occ_none fun j h1 => ?_
  rw [← Bool.not_eq_true]
  intro hf
  obtain ⟨h2, e⟩ := (L.fits _ _).mp hf
  by_cases hj : j < p
  · rw [Nat.mod_eq_of_lt hj] at e; omega
  · have : j % p = j - p := by rw [Nat.mod_eq_sub_mod (by omega), Nat.mod_eq_of_lt (by omega)]
    omega
end
end
section
theorem ten_to : ∀ r : Fin 10, r.val ≠ 0 → ∃ k : Fin 10, k.val * r.val % 10 = 1 ∨ k.val * r.val % 10 = 2 ∨ k.val * r.val % 10 = 5 := by decide +kernel
noncomputable def rot (t : Nat) (ring : List (List Int)) : List (List Int) := ring.drop t ++ ring.take t
noncomputable def zeros (n : Nat) : List (List Int) := List.replicate n (List.replicate 10 0)
/-- the law's one number -/
noncomputable def DueLeast (ring : List (List Int)) (p : Nat) : Prop :=
  (ring = zeros ring.length ∧ p = 1) ∨ (ring ≠ zeros ring.length ∧ ∃ t0, p = 10 * t0 ∧ 1 ≤ t0 ∧ t0 ≤ ring.length ∧ rot t0 ring = ring ∧ ∀ t, 1 ≤ t → t ≤ ring.length → rot t ring = ring → t0 ≤ t)
noncomputable def rg (ring : List (List Int)) (j : Nat) : List Int := ring.getD (j % ring.length) []
theorem rot_get {ring : List (List Int)} {t j : Nat} (ht : t ≤ ring.length) (hj : j < ring.length) : (rot t ring)[j]? = some (rg ring (j + t)) := by
  unfold rot rg
  rw [List.getElem?_append, List.length_drop]
  by_cases h : j < ring.length - t
  · rw [if_pos h, List.getElem?_drop, Nat.mod_eq_of_lt (by omega), Nat.add_comm j t]
    simp [show t + j < ring.length by omega]
  · rw [if_neg h, List.getElem?_take, if_pos (by omega)]
    have e : (j + t) % ring.length = j - (ring.length - t) := by
      rw [Nat.mod_eq_sub_mod (by omega), Nat.mod_eq_of_lt (by omega)]; omega
    rw [e]
    simp [show j - (ring.length - t) < ring.length by omega]
theorem rg_self {ring : List (List Int)} {j : Nat} (hj : j < ring.length) : ring[j]? = some (rg ring j) := by
  unfold rg
  rw [Nat.mod_eq_of_lt hj]
  simp [hj]
theorem rg_mod (ring : List (List Int)) (j : Nat) : rg ring (j % ring.length) = rg ring j := by unfold rg; rw [Nat.mod_mod]
theorem rg_per (ring : List (List Int)) (j : Nat) : rg ring (j + ring.length) = rg ring j := by unfold rg; rw [Nat.add_mod_right]
theorem rg_perK (ring : List (List Int)) : ∀ k j : Nat, rg ring (j + k * ring.length) = rg ring j
  | 0, j => by rw [Nat.zero_mul]; rfl
  | k + 1, j => by rw [Nat.succ_mul, ← Nat.add_assoc, rg_per, rg_perK ring k]
theorem rot_iff {ring : List (List Int)} {t : Nat} (ht : t ≤ ring.length) (h0 : 0 < ring.length) : rot t ring = ring ↔ ∀ j, rg ring (j + t) = rg ring j := by
  constructor
  · intro h j
    have hm := Nat.mod_lt j h0
    have e := rot_get ht hm
    rw [h, rg_self hm] at e
    have e2 := Option.some.inj e
    rw [rg_mod] at e2
    rw [e2]
    have := rg_perK ring (j / ring.length) (j % ring.length + t)
    rw [← this]; congr 1
    have := Nat.mod_add_div j ring.length
    rw [Nat.mul_comm] at this; omega
  · intro h
    have hl : (rot t ring).length = ring.length := by unfold rot; rw [List.length_append, List.length_drop, List.length_take]; omega
    apply List.ext_getElem?
    intro j
    by_cases hj : j < ring.length
    · rw [rot_get ht hj, rg_self hj, h]
    · rw [List.getElem?_eq_none (by omega), List.getElem?_eq_none (by omega)]
theorem sg_at (ring : List (List Int)) (j c : Nat) (hc : c < 10) : sg ring (10 * j + c) = colSign c ((rg ring j).getD c 0) := by
  unfold sg rg
  rw [show (10 * j + c) % 10 = c by omega, show (10 * j + c) / 10 = j by omega]
theorem alph_size : ∀ c : Fin 10, (alph.getD c.1 Str.empty).cps.size ≤ 8 := by decide +kernel
theorem col_injF : ∀ (c : Fin 10) (a b : Fin 8), a.1 < (alph.getD c.1 Str.empty).cps.size → b.1 < (alph.getD c.1 Str.empty).cps.size → (alph.getD c.1 Str.empty).cps.getD a.1 0 = (alph.getD c.1 Str.empty).cps.getD b.1 0 → a = b := by decide +kernel
theorem col_dashF : ∀ c : Fin 10, (alph.getD c.1 Str.empty).cps.getD 0 0 = 45 ∧ 0 < (alph.getD c.1 Str.empty).cps.size := by decide +kernel
theorem col_apartF : ∀ (s : Fin 3) (c : Fin 10) (a b : Fin 8), a.1 < (alph.getD c.1 Str.empty).cps.size → b.1 < (alph.getD ((c.1 + [1, 2, 5].getD s.1 0) % 10) Str.empty).cps.size →
    (alph.getD c.1 Str.empty).cps.getD a.1 0 = (alph.getD ((c.1 + [1, 2, 5].getD s.1 0) % 10) Str.empty).cps.getD b.1 0 → (alph.getD c.1 Str.empty).cps.getD a.1 0 = 45 := by decide +kernel
/-- r stands in column c -/
noncomputable def ColOk (c : Nat) (r : Int) : Prop := 0 ≤ r ∧ r.toNat < (alph.getD c Str.empty).cps.size
theorem col_inj {c : Nat} (hc : c < 10) {a b : Int} (ha : ColOk c a) (hb : ColOk c b) (h : colSign c a = colSign c b) : a = b := by
  have hs := alph_size ⟨c, hc⟩
  dsimp only at hs
  have h1 := ha.2
  have h2 := hb.2
  have := col_injF ⟨c, hc⟩ ⟨a.toNat, by omega⟩ ⟨b.toNat, by omega⟩ ha.2 hb.2 h
  have e : a.toNat = b.toNat := congrArg Fin.val this
  have := ha.1; have := hb.1; omega
theorem col_dash {c : Nat} (hc : c < 10) {a : Int} (ha : ColOk c a) (h : colSign c a = 45) : a = 0 :=
  col_inj hc ha ⟨Int.le_refl _, (col_dashF ⟨c, hc⟩).2⟩ (h.trans (col_dashF ⟨c, hc⟩).1.symm)
theorem col_zero {c : Nat} (hc : c < 10) : colSign c 0 = 45 := (col_dashF ⟨c, hc⟩).1
theorem col_apart {c s : Nat} (hc : c < 10) (hs : s = 1 ∨ s = 2 ∨ s = 5) {a b : Int} (ha : ColOk c a) (hb : ColOk ((c + s) % 10) b) (h : colSign c a = colSign ((c + s) % 10) b) : colSign c a = 45 := by
  have h1 := alph_size ⟨c, hc⟩
  have h2 := alph_size ⟨(c + s) % 10, by omega⟩
  dsimp only at h1 h2
  have h3 := ha.2
  have h4 := hb.2
  rcases hs with rfl | rfl | rfl
  · exact col_apartF 0 ⟨c, hc⟩ ⟨a.toNat, by omega⟩ ⟨b.toNat, by omega⟩ ha.2 hb.2 h
  · exact col_apartF 1 ⟨c, hc⟩ ⟨a.toNat, by omega⟩ ⟨b.toNat, by omega⟩ ha.2 hb.2 h
  · exact col_apartF 2 ⟨c, hc⟩ ⟨a.toNat, by omega⟩ ⟨b.toNat, by omega⟩ ha.2 hb.2 h
section
variable {ring : List (List Int)} (h0 : 0 < ring.length) (hok : ∀ rs ∈ ring, RkOk rs)
include h0 hok
theorem rg_ok (j c : Nat) (hc : c < 10) : ColOk c ((rg ring j).getD c 0) := by
  have hm := Nat.mod_lt j h0
  have : rg ring j ∈ ring := by
    unfold rg
    rw [List.getD_eq_getElem?_getD, List.getElem?_eq_getElem hm]
    exact List.getElem_mem hm
  exact (hok _ this).2 c hc
theorem rg_len (j : Nat) : (rg ring j).length = 10 := by
  have hm := Nat.mod_lt j h0
  have : rg ring j ∈ ring := by
    unfold rg
    rw [List.getD_eq_getElem?_getD, List.getElem?_eq_getElem hm]
    exact List.getElem_mem hm
  exact (hok _ this).1
theorem row_ext {i j : Nat} (h : ∀ c, c < 10 → colSign c ((rg ring i).getD c 0) = colSign c ((rg ring j).getD c 0)) : rg ring i = rg ring j := by
  apply List.ext_getElem?
  intro c
  have l1 := rg_len h0 hok i
  have l2 := rg_len h0 hok j
  by_cases hc : c < 10
  · have := col_inj hc (rg_ok h0 hok i c hc) (rg_ok h0 hok j c hc) (h c hc)
    rw [List.getD_eq_getElem?_getD, List.getD_eq_getElem?_getD, List.getElem?_eq_getElem (by omega), List.getElem?_eq_getElem (by omega)] at this
    rw [List.getElem?_eq_getElem (by omega), List.getElem?_eq_getElem (by omega)]
    exact congrArg some this
  · rw [List.getElem?_eq_none (by omega), List.getElem?_eq_none (by omega)]
theorem dash_of_turn {d : Nat} (hd : ∀ i, sg ring (i + d) = sg ring i) (h10 : d % 10 ≠ 0) (i : Nat) : sg ring i = 45 := by
  have mult : ∀ k i, sg ring (i + k * d) = sg ring i := per_mul hd
  obtain ⟨k, hk⟩ : ∃ k, k * d % 10 = 1 ∨ k * d % 10 = 2 ∨ k * d % 10 = 5 := by
    obtain ⟨k, hk⟩ := ten_to ⟨d % 10, Nat.mod_lt _ (by decide)⟩ h10
    exact ⟨k.val, by rw [show k.val * d % 10 = k.val * (d % 10) % 10 from (Nat.mul_mod_mod ..).symm]; exact hk⟩
  have e := mult k i
  have e1 : i = 10 * (i / 10) + i % 10 := by omega
  have e2 : i + k * d = 10 * ((i + k * d) / 10) + (i % 10 + k * d % 10) % 10 := by omega
  have hc : i % 10 < 10 := by omega
  have s1 : sg ring i = colSign (i % 10) ((rg ring (i / 10)).getD (i % 10) 0) := by
    conv => lhs; rw [e1]
    exact sg_at ring _ _ hc
  have s2 : sg ring (i + k * d) = colSign ((i % 10 + k * d % 10) % 10) ((rg ring ((i + k * d) / 10)).getD ((i % 10 + k * d % 10) % 10) 0) := by
    conv => lhs; rw [e2]
    exact sg_at ring _ _ (by omega)
  rw [s1]
  refine col_apart hc hk (rg_ok h0 hok _ _ hc) (rg_ok h0 hok ((i + k * d) / 10) _ (by omega)) ?_
  rw [← s2, e, s1]
theorem zeros_iff : ring = zeros ring.length ↔ ∀ i, sg ring i = 45 := by
  constructor
  · intro h i
    have e1 : i = 10 * (i / 10) + i % 10 := by omega
    rw [e1, sg_at ring _ _ (by omega)]
    have hm := Nat.mod_lt (i / 10) h0
    have : rg ring (i / 10) = List.replicate 10 0 := by
      have e := rg_self hm
      rw [rg_mod] at e
      have : (zeros ring.length)[i / 10 % ring.length]? = some (List.replicate 10 0) := by
        unfold zeros; rw [List.getElem?_replicate, if_pos hm]
      rw [← h, e] at this
      exact Option.some.inj this
    rw [this]
    have : (List.replicate 10 (0 : Int)).getD (i % 10) 0 = 0 := by
      rw [List.getD_eq_getElem?_getD, List.getElem?_replicate, if_pos (by omega)]; rfl
    rw [this]
    exact col_zero (by omega)
  · intro h
    unfold zeros
    rw [List.eq_replicate_iff]
    refine ⟨rfl, fun rs hrs => ?_⟩
    obtain ⟨j, hj, rfl⟩ := List.mem_iff_getElem.mp hrs
    have hl := (hok _ hrs).1
    rw [List.eq_replicate_iff]
    refine ⟨hl, fun x hx => ?_⟩
    obtain ⟨c, hc, rfl⟩ := List.mem_iff_getElem.mp hx
    have hc' : c < 10 := by omega
    have e : rg ring j = ring[j] := by
      have e := rg_self hj
      rw [List.getElem?_eq_getElem hj] at e
      exact (Option.some.inj e).symm
    have s := h (10 * j + c)
    rw [sg_at ring j c hc'] at s
    have := col_dash hc' (rg_ok h0 hok j c hc') s
    rw [e, List.getD_eq_getElem?_getD, List.getElem?_eq_getElem hc] at this
    exact this
theorem turn_rows {e : Nat} : (∀ i, sg ring (i + 10 * e) = sg ring i) ↔ ∀ j, rg ring (j + e) = rg ring j := by
  constructor
  · intro h j
    refine row_ext h0 hok fun c hc => ?_
    rw [← sg_at ring (j + e) c hc, ← sg_at ring j c hc, ← h (10 * j + c)]
    congr 1; omega
  · intro h i
    have e1 : i = 10 * (i / 10) + i % 10 := by omega
    have e2 : i + 10 * e = 10 * (i / 10 + e) + i % 10 := by omega
    rw [e2, sg_at ring _ _ (by omega), h]
    conv => rhs; rw [e1]
    rw [sg_at ring _ _ (by omega)]
/-- the law's number is the listing's least turn into itself -/
theorem due_least {p : Nat} (hp : DueLeast ring p) : Least (sg ring) (10 * ring.length) p := by
  rcases hp with ⟨hz, rfl⟩ | ⟨hz, t0, rfl, h1, hle, hr, hmin⟩
  · have h := (zeros_iff h0 hok).mp hz
    exact ⟨Nat.one_pos, by omega, sg_per ring, fun i => by rw [h, h], fun d _ _ => Nat.mod_one d⟩
  · have hper := (rot_iff hle h0).mp hr
    refine ⟨by omega, by omega, sg_per ring, (turn_rows h0 hok).mpr hper, fun d hd hdp => ?_⟩
    have h10 : d % 10 = 0 := by
      by_cases q : d % 10 = 0
      · exact q
      · exact absurd ((zeros_iff h0 hok).mpr (dash_of_turn h0 hok hdp q)) hz
    have ed : d = 10 * (d / 10) := by omega
    rw [ed] at hdp
    have hrow := (turn_rows h0 hok).mp hdp
    by_cases q : d / 10 % t0 = 0
    · rw [ed, Nat.mul_mod_mul_left, q]
    · exfalso
      have hlt := Nat.mod_lt (d / 10) (show 0 < t0 by omega)
      have hperK : ∀ k j, rg ring (j + k * t0) = rg ring j := by
        intro k
        induction k with
        | zero => intro j; rw [Nat.zero_mul]; rfl
        | succ k ih => intro j; rw [Nat.succ_mul, ← Nat.add_assoc, hper, ih]
      have hrest : ∀ j, rg ring (j + d / 10 % t0) = rg ring j := by
        intro j
        rw [← hrow j, ← hperK (d / 10 / t0) (j + d / 10 % t0)]
        congr 1
        have := Nat.mod_add_div (d / 10) t0
        rw [Nat.mul_comm] at this; omega
      have := hmin (d / 10 % t0) (by omega) (by omega) ((rot_iff (by omega) h0).mpr hrest)
      omega
end
end
section
open PySem.Spec PySem.SeqAt
noncomputable abbrev rowD (r : List Int) : PyData := .list (r.map PyData.int)
noncomputable abbrev rowsD (rows : List (List Int)) : PyData := .list (rows.map rowD)
theorem readsAll_of {h : Heap} : ∀ {vs : List Value} {ds : List PyData}, vs.length = ds.length → (∀ (j : Nat) (v : Value) (dd : PyData), vs[j]? = some v → ds[j]? = some dd → ∃ as, Reads h v dd as) → ∃ as, ReadsAll h vs ds as
  | [], [], _, _ => ⟨[], .nil⟩
  | [], _ :: _, e, _ => by simp at e
  | _ :: _, [], e, _ => by simp at e
  | v :: vs, dd :: ds, e, H => by
    obtain ⟨as, r⟩ := H 0 v dd rfl rfl
    obtain ⟨bs, rs⟩ := readsAll_of (vs := vs) (ds := ds) (by simpa using e) fun j v' d' e1 e2 => H (j + 1) v' d' (by simpa using e1) (by simpa using e2)
    exact ⟨_, .cons r rs⟩
theorem reads_list {h : Heap} {a : Addr} {vs : List Value} {n : Nat} {ds : List PyData} (g : h.get? a = some (lst vs.toArray n)) (hl : vs.length = ds.length) (H : ∀ (j : Nat) (v : Value) (dd : PyData), vs[j]? = some v → ds[j]? = some dd → ∃ as, Reads h v dd as) : ∃ as, Reads h (.ref a) (.list ds) as := by
  obtain ⟨as, r⟩ := readsAll_of hl H
  exact ⟨_, Reads.list g rfl rfl (by simpa using r)⟩
theorem reads_row {h : Heap} {v : Value} {ns : List Int} (r : RowIs h v ns) : ∃ as, Reads h v (rowD ns) as := by
  obtain ⟨a, us, k, rfl, g, i⟩ := r
  exact ⟨_, reads_of_ints ⟨_, g, rfl, _, rfl⟩ i⟩
theorem reads_rows {h : Heap} {a : Addr} {vs : List Value} {n : Nat} {rows : List (List Int)} (g : h.get? a = some (lst vs.toArray n)) (r : RowsAre h vs rows) : ∃ as, Reads h (.ref a) (rowsD rows) as := by
  refine reads_list g (by rw [List.length_map]; exact r.1) fun j v dd e1 e2 => ?_
  rw [List.getElem?_map] at e2
  have := r.2 j v e1
  cases q : rows[j]? with
  | none => rw [q] at e2; cases e2
  | some x =>
    rw [q] at e2
    have e3 : rows.getD j [] = x := by rw [List.getD_eq_getElem?_getD, q]; rfl
    rw [e3] at this
    obtain ⟨as, z⟩ := reads_row this
    cases e2
    exact ⟨as, z⟩
theorem map_int_inj : ∀ {ns ms : List Int}, ns.map PyData.int = ms.map PyData.int → ns = ms
  | [], [], _ => rfl
  | [], _ :: _, e => by simp at e
  | _ :: _, [], e => by simp at e
  | n :: ns, m :: ms, e => by
    simp only [List.map_cons, List.cons.injEq, PyData.int.injEq] at e
    rw [e.1, map_int_inj e.2]
theorem rows_inj : ∀ {ns ms : List (List Int)}, ns.map rowD = ms.map rowD → ns = ms
  | [], [], _ => rfl
  | [], _ :: _, e => by simp at e
  | _ :: _, [], e => by simp at e
  | n :: ns, m :: ms, e => by
    simp only [List.map_cons, List.cons.injEq, PyData.list.injEq] at e
    rw [map_int_inj e.1, rows_inj e.2]
theorem rowsD_inj {ns ms : List (List Int)} (e : rowsD ns = rowsD ms) : ns = ms := by
  simp only [PyData.list.injEq] at e; exact rows_inj e
theorem pl_ints : ∀ ns : List Int, plAll (ns.map PyData.int) = true
  | [] => by simp [plAll]
  | n :: r => by simp [plAll, pl, pl_ints r]
theorem pl_rows : ∀ rows : List (List Int), pl (rowsD rows) = true := by
  intro rows
  simp only [pl]
  induction rows with
  | nil => simp [plAll]
  | cons r rs ih => simp [plAll, pl, pl_ints, ih]
theorem depth_rows (rows : List (List Int)) : (rowsD rows).depth ≤ 64 := by
  have : PyData.depthAll (rows.map rowD) ≤ 2 := by
    induction rows with
    | nil => simp [PyData.depthAll]
    | cons r rs ih =>
      have := W.depthAll_ints r
      simp only [List.map_cons, PyData.depthAll, PyData.depth]
      omega
  simp only [PyData.depth]
  omega
end
section
noncomputable def dueFor : Stmt := (defBody (PB.getD 35 default)).getD 4 default
noncomputable def dueTxt (whole : Str) (k : Nat) : Str := Str.ofString "Expected '" ++ Txt.slice whole (some (k : Int)) none ++ Txt.slice whole none (some (k : Int)) ++ Str.ofString "' (at end of document)"
noncomputable def dueV (p N : Nat) (whole : Str) (k : Nat) : PyData := if k % p + p ≤ N then .int (k % p + p : Nat) else .str (dueTxt whole k)
noncomputable def dueD (p N : Nat) (whole : Str) : PyData := .list ((List.range N).map fun k => .list [.int (k % p : Nat), dueV p N whole k])
noncomputable def DueAt (p N : Nat) (whole : Str) (j : Nat) (v : Value) (X : List (Addr × Obj)) : Prop :=
  ∃ (a : Addr) (tk : Tok) (y : Value), v = .ref a ∧ (a, lst [Value.int (j % p : Nat) tk, y].toArray 0) ∈ X ∧ ((k : Heap) → ∃ as, Reads k y (dueV p N whole j) as)
theorem str_len2 (x y : Str) : (x ++ y).length = x.length + y.length := str_len x y
theorem due_loop {w : World} {A : Around} {b : Heap} {g : Array GenState} {d : Drawn} {os : OsState} {it ld L c1 : Addr} {p N : Nat} {whole : Str} {tw ts tp : Tok} {R0 : Result → Shared → Prop} (hh : A.handled = none) (hL0 : L ≠ 0) (hp : 1 ≤ p) (hp2 : p ≤ N) (hN : N ≤ 80) (hw : whole.length = N)
    (hend : ∀ (h : Heap) (t : Nat) (m : Str → Option Value) (us : List Value) (nn : Nat) (X : List (Addr × Obj)), us.length = N → (∀ (j : Nat) (v : Value), us[j]? = some v → DueAt p N whole j v X) → m (Str.ofString "due") = some (.ref ld) → St b L m ((ld, lst us.toArray nn) :: X) h → R0 (.ok .next) ⟨h, g, d, t, os⟩) :
    ∀ (k i : Nat), i + k = N → ∀ (h : Heap) (t : Nat) (m : Str → Option Value) (us : List Value) (nn : Nat) (X : List (Addr × Obj)), us.length = i → (∀ (j : Nat) (v : Value), us[j]? = some v → DueAt p N whole j v X) →
      m (Str.ofString "due") = some (.ref ld) → m (Str.ofString "whole") = some (.str whole tw) → m (Str.ofString "size") = some (.int N ts) → m (Str.ofString "least") = some (.int p tp) →
      St b L m ((it, rngIt i (N - i) 1) :: (ld, lst us.toArray nn) :: X) h →
      codeAny (model PG w) A (.forLoop (forTgt dueFor) (.ref it) (forBody dueFor) (forElse dueFor) (ev128 L c1)) R0 ⟨h, g, d, t, os⟩ := by
  have hszl : sizeLine = 16777216 := by decide
  intro k
  induction k with
  | zero =>
    intro i hi h t m us nn X hl hX m1 m2 m3 m4 S
    refine for_turn (r_end hh S (by omega) fun h₁ S₁ => ?_)
    dsimp only
    conv => arg 3; arg 1; whnf
    refine wpAny_execs_nil ?_
    exact hend h₁ t m us nn X (by omega) hX m1 S₁
  | succ k ih =>
    intro i hi h t m us nn X hl hX m1 m2 m3 m4 S
    have fin : ∀ (h : Heap) (t : Nat) (m : Str → Option Value) (a : Addr) (tk : Tok) (y : Value) (n' : Nat) (Y : List (Addr × Obj)), (∀ k : Heap, ∃ as, Reads k y (dueV p N whole i) as) →
        m (Str.ofString "due") = some (.ref ld) → m (Str.ofString "whole") = some (.str whole tw) → m (Str.ofString "size") = some (.int N ts) → m (Str.ofString "least") = some (.int p tp) →
        St b L m ((it, rngIt ((i : Int) + 1) (N - i - 1) 1) :: (ld, lst (us ++ [Value.ref a]).toArray n') :: (a, lst [Value.int (i % p : Nat) tk, y].toArray 0) :: X) h →
        codeAny (model PG w) A (.forLoop (forTgt dueFor) (.ref it) (forBody dueFor) (forElse dueFor) (ev128 L c1)) R0 ⟨h, g, d, t, os⟩ := by
      intro h t m a tk y n' Y hy e1 e2 e3 e4 S
      refine ih (i + 1) (by omega) h t m (us ++ [Value.ref a]) n' ((a, lst [Value.int (i % p : Nat) tk, y].toArray 0) :: X) (by simp [hl]) (fun j v hv => ?_) e1 e2 e3 e4 (by rw [show (((i + 1 : Nat)) : Int) = (i : Int) + 1 from by omega, show (N : Int) - ((i : Int) + 1) = N - i - 1 from by omega]; exact S)
      by_cases hj : j < us.length
      · rw [List.getElem?_append_left hj] at hv
        obtain ⟨a', tk', y', r1, r2, r3⟩ := hX j v hv
        exact ⟨a', tk', y', r1, List.mem_cons_of_mem _ r2, r3⟩
      · rw [List.getElem?_append_right (by omega)] at hv
        have hj' : j - us.length = 0 := by
          by_cases q : j - us.length = 0
          · exact q
          · rw [List.getElem?_eq_none (by simp; omega)] at hv; cases hv
        rw [hj'] at hv
        simp at hv
        have : j = i := by omega
        subst this
        exact ⟨a, tk, y, hv.symm, List.mem_cons_self .., hy⟩
    refine for_turn (r_next S (by omega) fun h₄ t₄ tk₄ S₄ => ?_)
    refine lot_name (a_name S₄ hL0 rfl rfl rfl fun h₅ t₅ S₅ => ?_)
    have hp0 : ((p : Nat) : Int) ≠ 0 := by omega
    have em : ((i : Nat) : Int).fmod (p : Int) = ((i % p : Nat) : Int) := by rw [Int.fmod_eq_emod_of_nonneg _ (by omega)]; first | exact (Int.natCast_emod i p).symm | exact (Int.ofNat_emod i p).symm | (push_cast; rfl)
    conv => arg 3; arg 1; whnf
    repeat (walk_at "ast")
    refine i_mod hp0 fun t6 => ?_
    rw [em]
    repeat (walk_at "ast")
    by_cases hle : i % p + p ≤ N
    · rw [if_neg (by simp; omega)]
      repeat (walk_at "ast")
      refine i_mod hp0 fun t7 => ?_
      rw [em]
      repeat (walk_at "ast")
      refine' l_append (by assumption) ?apt ?azt (fun h₈ S₈ => ?_)
      case apt => walk_at "put"
      case azt => rw [List.size_toArray]; omega
      dsimp only
      repeat (walk_at "ast")
      rename_i a₉ _ _
      have e1 : us.toArray.push (Value.ref a₉) = (us ++ [Value.ref a₉]).toArray := by simp
      rw [e1] at S₈
      have S₉ := S₈.sel (T' := (it, rngIt ((i : Int) + 1) (N - i - 1) 1) :: (ld, lst (us ++ [Value.ref a₉]).toArray (nn + 1)) :: (a₉, lst [_, _].toArray 0) :: X) 3 [1, 2, 0] (by decide +kernel) rfl
      refine fin _ _ _ a₉ _ _ _ X (fun k => ?_) ?e1 ?e2 ?e3 ?e4 S₉
      case e1 => exact m1
      case e2 => exact m2
      case e3 => exact m3
      case e4 => exact m4
      unfold dueV
      rw [if_pos hle, show ((i % p : Nat) : Int) + (p : Int) = ((i % p + p : Nat) : Int) from by omega]
      exact ⟨_, .int _ _⟩
    · rw [if_pos (by simp; omega)]
      repeat (walk_at "ast")
      have l9 : (Str.ofString "Expected '").length = 10 := by decide +kernel
      have l9b : (Str.ofString "' (at end of document)").length = 22 := by decide +kernel
      have z1 := Txt.slice_le whole (some (i : Int)) none
      have z2 := Txt.slice_le whole none (some (i : Int))
      refine' st_slice (l := some ((i : Int), tk₄)) (u := none) (by assumption) ?m1s (by omega) (fun tk5 t5 => ?_)
      case m1s => walk_at "mem"
      refine PyProof.Rows.add_str (s := ⟨_, g, d, _, os⟩) (fun t' tk => ?_) (by show (Str.ofString "Expected '").length + (Txt.slice whole (some (i : Int)) none).length ≤ _; omega)
      repeat (walk_at "ast")
      refine' st_slice (l := none) (u := some ((i : Int), tk₄)) (by assumption) ?m2s (by omega) (fun tk6 t6 => ?_)
      case m2s => walk_at "mem"
      refine PyProof.Rows.add_str (s := ⟨_, g, d, _, os⟩) (fun t' tk => ?_) (by show (Str.ofString "Expected '" ++ Txt.slice whole (some (i : Int)) none).length + (Txt.slice whole none (some (i : Int))).length ≤ _; rw [str_len]; omega)
      repeat (walk_at "ast")
      refine PyProof.Rows.add_str (s := ⟨_, g, d, _, os⟩) (fun t' tk => ?_) (by show (Str.ofString "Expected '" ++ Txt.slice whole (some (i : Int)) none ++ Txt.slice whole none (some (i : Int))).length + (Str.ofString "' (at end of document)").length ≤ _; rw [str_len, str_len]; omega)
      repeat (walk_at "ast")
      refine i_mod hp0 fun t7 => ?_
      rw [em]
      repeat (walk_at "ast")
      refine' l_append (by assumption) ?bpt ?bzt (fun h₈ S₈ => ?_)
      case bpt => walk_at "put"
      case bzt => rw [List.size_toArray]; omega
      dsimp only
      repeat (walk_at "ast")
      rename_i a₉ _ _
      have e1 : us.toArray.push (Value.ref a₉) = (us ++ [Value.ref a₉]).toArray := by simp
      rw [e1] at S₈
      have S₉ := S₈.sel (T' := (it, rngIt ((i : Int) + 1) (N - i - 1) 1) :: (ld, lst (us ++ [Value.ref a₉]).toArray (nn + 1)) :: (a₉, lst [_, _].toArray 0) :: X) 5 [3, 4, 0] (by decide +kernel) rfl
      refine fin _ _ _ a₉ _ _ _ X (fun k => ?_) ?f1 ?f2 ?f3 ?f4 S₉
      case f1 => exact m1
      case f2 => exact m2
      case f3 => exact m3
      case f4 => exact m4
      unfold dueV
      rw [if_neg hle]
      exact ⟨_, .str _ _⟩
end
section
section
variable {w : World} {A : Around} {E : Value → Shared → Prop} {b : Heap} {g : Array GenState} {d : Drawn} {os : OsState} {L C D it : Addr} {T0 : List (Addr × Obj)} {ev : Env} {R : Result → Shared → Prop}
  {test iter : Expr} {x : Str} {px pe : Pos} {scope : Scope} {pos : Pos}
/-- a block over a range that keeps the places that pass a test -/
theorem lc_rangeT {a : Int} {n : Nat} (p : Nat → Bool) (hh : A.handled = none) (hC : C ≠ 0) (hl : ev.locals = C) (hk : ev.scope.kind = .function) (hx : ev.kindOf x = some .local) (hd : (x == ("__debug__" : Str)) = false) (hn : n ≤ 1000)
    (htest : ∀ i vs nn mC tk h t, i < n → mC x = some (.int (a + i) tk) → St b C mC ((it, rngIt (a + i + 1) (n - i - 1) 1) :: (D, lst vs nn) :: T0) h →
      wpAny (model PG w) A (isTrue test ev (eval test ev)) (fun ok s' => ok = p i ∧ ∃ h' t', s' = ⟨h', g, d, t', os⟩ ∧ St b C mC ((it, rngIt (a + i + 1) (n - i - 1) 1) :: (D, lst vs nn) :: T0) h')
        (notedBy (model PG w) A ev fun e s' => R (.error e) s') ⟨h, g, d, t, os⟩)
    (hend : ∀ vs nn mC h t, IntsAre vs (((List.range n).filter p).map fun j : Nat => a + j) → St b C mC ((D, lst vs.toArray nn) :: T0) h → R (.ok .next) ⟨h, g, d, t, os⟩) :
    ∀ (k i : Nat), i + k = n → ∀ vs nn mC h t, vs.length ≤ i → IntsAre vs (((List.range i).filter p).map fun j : Nat => a + j) → St b C mC ((it, rngIt (a + i) (n - i) 1) :: (D, lst vs.toArray nn) :: T0) h →
      codeAny (model PG w) A (.compLoop (.ListComp (.Name x pe) [⟨.Name x px, iter, [test], 0⟩] scope pos) 0 (.ref it) (.ref D) ev) R ⟨h, g, d, t, os⟩ := by
  have hsz : sizeLine = 16777216 := by decide
  intro k
  induction k with
  | zero =>
    intro i hi vs nn mC h t hv hI S
    refine comp_turn (r_end hh S (by omega) fun h₁ S₁ => ?_)
    have e : i = n := by omega
    subst e
    exact hend _ _ _ _ _ hI S₁
  | succ k ih =>
    intro i hi vs nn mC h t hv hI S
    refine comp_turn (r_next S (by omega) fun h₁ t₁ tk S₁ => ?_)
    refine a_name S₁ hC hl hk hx fun h₂ t₂ S₂ => ?_
    have e2 : a + i + 1 = a + ((i + 1 : Nat) : Int) := by omega
    have e3 : (n : Int) - i - 1 = n - ((i + 1 : Nat) : Int) := by omega
    have er : (List.range (i + 1)).filter p = (List.range i).filter p ++ (if p i = true then [i] else []) := by
      rw [List.range_succ, List.filter_append]
      congr 1
      by_cases q : p i = true
      · rw [if_pos q, List.filter_cons_of_pos q]; rfl
      · rw [if_neg q, List.filter_cons_of_neg q]; rfl
    refine w_for_cons ?_
    rw [if_pos rfl]
    refine wpAny_bind (wpAny_mono (htest i vs.toArray nn _ tk h₂ t₂ (by omega) (if_pos rfl) S₂) (fun ok s' H => ?_) fun _ _ e => e)
    obtain ⟨rfl, h₃, t₃, rfl, S₃⟩ := H
    refine wpAny_pure ?_
    dsimp only
    refine w_for_nil ?_
    by_cases q : p i = true
    · rw [if_pos q]
      refine wpAny_Name (n_local S₃ hC hl hk hx (if_pos rfl) ?_) hd
      refine l_append S₃ (Put.tail Put.head) (by rw [List.size_toArray]; omega) fun h₄ S₄ => ?_
      have e1 : vs.toArray.push (Value.int (a + i) tk) = (vs ++ [Value.int (a + i) tk]).toArray := by simp
      rw [e1, e2, e3] at S₄
      refine ih (i + 1) (by omega) _ _ _ _ _ (by simp; omega) ?_ S₄
      rw [er, if_pos q, List.map_append]
      exact IntsAre.append hI (.cons _ _ .nil)
    · rw [if_neg q]
      rw [e2, e3] at S₃
      refine ih (i + 1) (by omega) _ _ _ _ _ (by omega) ?_ S₃
      rw [er, if_neg q, List.append_nil]
      exact hI
theorem f_min {s : Shared} {l : Addr} {vs : List Value} {ns : List Int} {Q : Value → Shared → Prop} (hh : A.handled = none) (hl : s.heap.IsList l vs.toArray) (hi : IntsAre vs ns) (hne : 0 < ns.length)
    (q : ∀ h' M (t : Tok) tk, Kp s.heap h' → M ∈ ns → (∀ a, a ∈ ns → M ≤ a) → Q (.int M t) { s with heap := h', toks := tk }) :
    wpAny (model PG w) A (call (.builtin "min") [.ref l]) Q E s := by
  obtain ⟨xs, e⟩ := hi.allInts.items
  have hns : ns = xs.toList.map (·.1) := by rw [← hi.numsOf, ← nums_intItems, ← e]
  have hsz : 0 < xs.size := by
    have h3 := hne
    rw [hns, List.length_map, Array.length_toList] at h3
    exact h3
  rw [e] at hl
  refine min_intList hh hl hsz fun v h' tk hv hk => ?_
  obtain ⟨t, rfl⟩ := intItems_at hv
  obtain ⟨h1, h2⟩ := argBest_lt (numAt xs) (xs.size - 1)
  refine q _ _ t tk hk ?_ fun a ha => ?_
  · rw [hns, numAt_eq]
    exact getD_mem (by rw [List.length_map, Array.length_toList]; omega)
  · rw [hns] at ha
    obtain ⟨j, hj, rfl⟩ := mem_getD ha
    rw [List.length_map, Array.length_toList] at hj
    rw [← numAt_eq]
    exact h2 j (by omega)
end
end
section
noncomputable def kwVal : Expr → Expr
  | .Call _ _ (k :: _) _ => k.value
  | _ => default
noncomputable def rotE : Expr := kwVal (asgVal (lawStm 12))
noncomputable def rotSP : { s : Scope // s = lamScope rotE } := by
  refine ⟨?s, ?h⟩
  case h => (conv => rhs; whnf)
noncomputable def rotS : Scope := rotSP.1
noncomputable def rotEv (fb c' cr L : Addr) : Env := { scope := rotS, locals := L, globals := mainGlobals, cells := [(Str.ofString "ring", cr)], qual := qLam ++ Str.ofString ".<locals>.", func := some fb, code := .ref c', frame := some L, builtins := builtinsNs }
noncomputable abbrev rotO (cr c' : Addr) (pm ctv : Value) : Obj := kla_obj (Str.ofString "<lambda>") qLam (lamParams rotE) (lamBody rotE) (lamScope rotE) [(Str.ofString "ring", cr)] pm c' ctv
theorem lo_nat (i n : Nat) : kms_lo (some (i : Int)) n = min i n := by
  unfold kms_lo; dsimp only; rw [if_neg (by omega), Int.toNat_natCast]
theorem hi_nat (i n : Nat) : kms_hi (some (i : Int)) n = min i n := by
  unfold kms_hi; dsimp only; rw [if_neg (by omega), Int.toNat_natCast]
theorem pick_drop (vs : List Value) (i : Nat) (hi : i ≤ vs.length) : slicePick vs.toArray (some (i : Int)) none none = (vs.drop i).toArray := by
  rw [kms_pick_eq]
  unfold kms_pick
  rw [List.toList_toArray, lo_nat, Nat.min_eq_left hi, List.take_of_length_le (by rw [List.length_drop]; exact Nat.le_refl _)]
theorem pick_take (vs : List Value) (i : Nat) (hi : i ≤ vs.length) : slicePick vs.toArray none (some (i : Int)) none = (vs.take i).toArray := by
  rw [kms_pick_eq]
  unfold kms_pick
  rw [List.toList_toArray, hi_nat, Nat.min_eq_left hi]
  rfl
theorem c_rot {w : World} {A : Around} {h : Heap} {g : Array GenState} {d : Drawn} {t : Nat} {os : OsState} {fb c' cr lr : Addr} {oc : Obj} {pm ctv : Value} {vs : List Value} {n : Nat} {i : Nat} {ti : Tok} {R : Result → Shared → Prop} (G : Gr w h) (hA : A.depth + 20 < recursionLimit)
    (hf : h.get? fb = some (rotO cr c' pm ctv)) (hoc : h.get? c' = some oc) (hq : CodeNm oc qLam) (hcr : h.get? cr = some (cellO (some (.ref lr)))) (hlr : h.get? lr = some (lst vs.toArray n))
    (hi : i ≤ vs.length) (hv : vs.length ≤ 8)
    (q : ∀ l h' t', Kp h h' → h.get? l = none → h'.get? l = some (lst (vs.drop i ++ vs.take i).toArray 0) → R (.ok (.ret (.ref l))) ⟨h', g, d, t', os⟩) : codeAny (model PG w) A (.call (.ref fb) ⟨[.int i ti], []⟩) R ⟨h, g, d, t, os⟩ := by
  obtain ⟨us, tq, e1, e2⟩ := hq
  refine enterL (rotEv fb c' cr) [(Str.ofString "t", .int i ti)] G hf hoc e1 e2 ?hev (by omega) ?bind ?hcell ?hloc ?a1 ?a2 ?a3 ?_
  case hev => intro L; rfl
  case bind => exact rfl
  case hcell => decide
  case hloc => exact locs rfl
  case a1 => exact rfl
  case a2 => exact rfl
  case a3 => exact rfl
  intro L h' t' hL0 S
  conv => arg 3; arg 1; whnf
  repeat (walk_at "ast")
  refine n_free (c := cr) (v := .ref lr) rfl (S.keep _ _ hcr) rfl rfl (by decide +kernel) ?_
  repeat (walk_at "ast")
  rename_i a1 h1 S1
  refine' l_slice (l := some (i : Int)) (u := none) S1 (S1.keep _ _ hlr) ?m (IsPart.int _ _) IsPart.none (by simp; omega) (fun r1 h2 S2 => ?_)
  case m => walk_at "mem"
  rw [pick_drop vs i hi] at S2
  repeat (walk_at "ast")
  refine n_free (c := cr) (v := .ref lr) rfl (S2.keep _ _ hcr) rfl rfl (by decide +kernel) ?_
  repeat (walk_at "ast")
  rename_i a2 h3 S3
  refine' l_slice (l := none) (u := some (i : Int)) S3 (S3.keep _ _ hlr) ?m2 IsPart.none (IsPart.int _ _) (by simp; omega) (fun r2 h4 S4 => ?_)
  case m2 => walk_at "mem"
  rw [pick_take vs i hi] at S4
  refine' l_addL (by assumption) (St.get (by assumption) ?ma) (St.get (by assumption) ?mb) ?zz (fun a₁₁ h₁₁ S₁₁ => ?_)
  case ma => walk_at "mem"
  case mb => walk_at "mem"
  case zz => rw [List.length_drop, List.length_take]; omega
  exact q _ _ _ S₁₁.keep (S₁₁.own.new _ (List.mem_cons_self ..)) (S₁₁.get (List.mem_cons_self ..))
end
section
theorem Own.adopt {b h h' : Heap} {T : List (Addr × Obj)} {l : Addr} {o : Obj} (O : Own b T h) (k : Kp h h') (hn : h.get? l = none) (hg : h'.get? l = some o) : Own b ((l, o) :: T) h' := by
  have O' := O.grown k
  refine ⟨List.nodup_cons.mpr ⟨fun hm => ?_, O'.nodup⟩, fun p hp => ?_, O'.keep, fun p hp => ?_⟩
  · obtain ⟨p, hp, e⟩ := List.mem_map.mp hm
    have := O.get p hp
    rw [e, hn] at this; cases this
  · rcases List.mem_cons.mp hp with rfl | hp
    · exact hg
    · exact O'.get p hp
  · rcases List.mem_cons.mp hp with rfl | hp
    · cases q : b.get? l with
      | none => rfl
      | some o' => rw [O.keep _ _ q] at hn; cases hn
    · exact O'.new p hp
noncomputable def RowsIn (T : List (Addr × Obj)) (vs : List Value) (rows : List (List Int)) : Prop :=
  vs.length = rows.length ∧ ∀ (j : Nat) (v : Value), vs[j]? = some v → ∃ (a : Addr) (us : List Value) (k : Nat), v = .ref a ∧ (a, lst us.toArray k) ∈ T ∧ IntsAre us (rows.getD j [])
theorem RowsIn.are {T : List (Addr × Obj)} {h : Heap} {vs : List Value} {rows : List (List Int)} (r : RowsIn T vs rows) (hg : ∀ p ∈ T, h.get? p.1 = some p.2) : RowsAre h vs rows :=
  ⟨r.1, fun j v e => let ⟨a, us, k, e1, m, i⟩ := r.2 j v e; ⟨a, us, k, e1, hg _ m, i⟩⟩
theorem RowsAre.rot {h : Heap} {vs : List Value} {rows : List (List Int)} (r : RowsAre h vs rows) {t : Nat} (ht : t ≤ rows.length) : RowsAre h (vs.drop t ++ vs.take t) (rot t rows) := by
  refine ⟨by unfold Mine.rot; simp [r.1], fun j v e => ?_⟩
  have hl := r.1
  unfold Mine.rot
  by_cases hj : j < vs.length - t
  · rw [List.getElem?_append_left (by rw [List.length_drop]; exact hj), List.getElem?_drop] at e
    have := r.2 _ _ e
    rw [List.getD_eq_getElem?_getD] at this ⊢
    rw [List.getElem?_append_left (by rw [List.length_drop]; omega), List.getElem?_drop]
    exact this
  · rw [List.getElem?_append_right (by rw [List.length_drop]; omega), List.length_drop, List.getElem?_take] at e
    split at e
    · rename_i hlt
      have := r.2 _ _ e
      rw [List.getD_eq_getElem?_getD] at this ⊢
      rw [List.getElem?_append_right (by rw [List.length_drop]; omega), List.length_drop, List.getElem?_take, if_pos (by omega), ← hl]
      exact this
    · cases e
section
variable {w : World} {A : Around} {E : Value → Shared → Prop} {b h : Heap} {g : Array GenState} {d : Drawn} {t : Nat} {os : OsState} {T : List (Addr × Obj)}
noncomputable def RInv (vs : List Value) (i : Nat) (ks : List Value) (X : List (Addr × Obj)) : Prop := ∃ l : List Addr, l.length = i ∧ ks = l.map (fun a => .ref a) ∧ ∀ (j : Nat) (a : Addr), l[j]? = some a → (a, lst (vs.drop j ++ vs.take j).toArray 0) ∈ X
theorem RInv.snoc {vs : List Value} {a : Addr} {i : Nat} {ks : List Value} {X : List (Addr × Obj)} (k : RInv vs i ks X) : RInv vs (i + 1) (ks ++ [.ref a]) ((a, lst (vs.drop i ++ vs.take i).toArray 0) :: X) := by
  obtain ⟨l, e1, e2, e3⟩ := k
  refine ⟨l ++ [a], by simp [e1], by simp [e2], fun j a' hp => ?_⟩
  by_cases hj : j < l.length
  · rw [List.getElem?_append_left hj] at hp
    exact List.mem_cons_of_mem _ (e3 j a' hp)
  · rw [List.getElem?_append_right (by omega)] at hp
    have hj' : j - l.length = 0 := by
      by_cases q : j - l.length = 0
      · exact q
      · rw [List.getElem?_eq_none (by simp; omega)] at hp; cases hp
    rw [hj'] at hp
    simp at hp
    subst hp
    have : j = i := by omega
    subst this
    exact List.mem_cons_self ..
structure RotIn (T : List (Addr × Obj)) (fb : Addr) (vs : List Value) : Prop where
  ex : ∃ (cr c' : Addr) (pm ctv : Value) (oc : Obj) (lr : Addr) (k : Nat), (fb, rotO cr c' pm ctv) ∈ T ∧ (c', oc) ∈ T ∧ CodeNm oc qLam ∧ (cr, cellO (some (.ref lr))) ∈ T ∧ (lr, lst vs.toArray k) ∈ T
theorem srt_R {r fb : Addr} {n : Nat} {ta tb tc : Tok} {vs : List Value} {rows : List (List Int)} {Q : Value → Shared → Prop} (G : Gr w b) (hh : A.handled = none) (hA : A.depth + 60 < recursionLimit) (hU : A.units + 60 < cLine) (O : Own b T h) (hr : (r, rangeO 0 n 1 ta tb tc) ∈ T)
    (B : RotIn T fb vs) (hv : RowsIn T vs rows) (hn : rows.length = n) (h10 : ∀ x ∈ rows, x.length = 10) (h1 : 1 ≤ n) (h8 : n ≤ 8)
    (q : ∀ D k h' t' out, IntsAre out ((kEv (fun i j => ltR (rot i rows) (rot j rows)) (kas_sort n)).toList.map fun i : Nat => (i : Int)) → Own b ((D, lst out.toArray k) :: T) h' → Q (.ref D) ⟨h', g, d, t', os⟩) :
    wpAny (model PG w) A (call (.builtin "sorted") [.ref r] [(Str.ofString "key", .ref fb)]) Q E ⟨h, g, d, t, os⟩ := by
  have hvl : vs.length = n := hv.1.trans hn
  have h10r : ∀ i, ∀ x ∈ rot i rows, x.length = 10 := fun i x hx => by
    unfold rot at hx
    rcases List.mem_append.mp hx with hx | hx
    · exact h10 _ (List.mem_of_mem_drop hx)
    · exact h10 _ (List.mem_of_mem_take hx)
  have hrl : ∀ i, i ≤ n → (rot i rows).length = n := fun i hi => by unfold rot; rw [List.length_append, List.length_drop, List.length_take]; omega
  obtain ⟨cr, c', pm, ctv, oc, lr, kk, b1, b2, b3, b4, b5⟩ := B.ex
  refine srt_key (Ty := .type "list") (RInv vs) hh O hr h1 h8 ⟨[], rfl, rfl, fun j a h => by simp at h⟩ (fun i tk ks X Z h t hi hl hI hz O => ?_) (fun ks X Z h hl hI O v hv' => ?_) (by decide) (by decide) (fun i j ks X Z h t C hi hj hl hI hz O hC => ?_) q
  · have gz : ∀ p ∈ T, h.get? p.1 = some p.2 := fun p hp => O.get p (List.mem_append_right _ (hz p hp))
    refine wpAny_call (c_rot (G.keeps fun a o e => O.keep a o e) (by show A.depth + 20 < _; omega) (gz _ b1) (gz _ b2) b3 (gz _ b4) (gz _ b5) (by omega) (by omega) fun l h' t' k' hnew hg => ?_)
    exact ⟨_, h', t', rfl, hI.snoc, O.adopt k' hnew hg⟩
  · obtain ⟨l, e1, e2, e3⟩ := hI
    rw [e2] at hv'
    obtain ⟨p, hp, rfl⟩ := List.mem_map.mp hv'
    obtain ⟨j, hj, rfl⟩ := List.mem_iff_getElem.mp hp
    have m := e3 j _ (List.getElem?_eq_getElem hj)
    exact (Looks.ld (part := none) (O.get _ (List.mem_append_left _ m))).andThen .now
  · have gz : ∀ p ∈ T, h.get? p.1 = some p.2 := fun p hp => O.get p (List.mem_append_right _ (hz p hp))
    obtain ⟨l, e1, e2, e3⟩ := hI
    have at_ : ∀ i, i < n → ∃ a, ks.getD i .none = .ref a ∧ h.get? a = some (lst (vs.drop i ++ vs.take i).toArray 0) := fun i hi => by
      have hi' : i < l.length := by omega
      refine ⟨l[i], ?_, O.get _ (List.mem_append_left _ (e3 i _ (List.getElem?_eq_getElem hi')))⟩
      rw [e2, List.getD_eq_getElem?_getD, List.getElem?_map, List.getElem?_eq_getElem hi']
      rfl
    obtain ⟨x, ex, gx⟩ := at_ i hi
    obtain ⟨y, ey, gy⟩ := at_ j hj
    have hR := hv.are gz
    rw [ex, ey]
    exact key_lt gx gy (hR.rot (by omega)) (hR.rot (by omega)) (by rw [hrl i (by omega), hrl j (by omega)]) (h10r i) (h10r j) (by show A.units + 1 + 1 + 10 < _; omega) (hC _ _ O)
end
end
section
theorem ints_rep (z : Int) (tk : Tok) : ∀ n, IntsAre (List.replicate n [Value.int z tk]).flatten (List.replicate n z)
  | 0 => .nil
  | n + 1 => by
    rw [List.replicate_succ, List.flatten_cons, List.replicate_succ]
    exact .cons _ _ (ints_rep z tk n)
theorem rows_rep {h : Heap} {v : Value} {r : List Int} (x : RowIs h v r) (n : Nat) : RowsAre h (List.replicate n [v]).flatten (List.replicate n r) := by
  have e : ∀ n, (List.replicate n [v]).flatten = List.replicate n v := fun n => by
    induction n with
    | zero => rfl
    | succ n ih => rw [List.replicate_succ, List.flatten_cons, ih, List.replicate_succ]; rfl
  rw [e]
  refine ⟨by simp, fun j v' hv => ?_⟩
  rw [List.getElem?_replicate] at hv
  split at hv
  · rename_i hj
    cases hv
    rw [List.getD_eq_getElem?_getD, List.getElem?_replicate, if_pos hj]
    exact x
  · cases hv
theorem due_reads {h : Heap} {ld : Addr} {us : List Value} {nn p N : Nat} {whole : Str} {X : List (Addr × Obj)} (hg : h.get? ld = some (lst us.toArray nn)) (hX : ∀ q ∈ X, h.get? q.1 = some q.2) (hl : us.length = N) (hd : ∀ (j : Nat) (v : Value), us[j]? = some v → DueAt p N whole j v X) : ∃ as, Reads h (.ref ld) (dueD p N whole) as := by
  refine reads_list hg (by simp [hl]) fun j v dd e1 e2 => ?_
  obtain ⟨a, tk, y, rfl, m, hy⟩ := hd j v e1
  have hj : j < N := by
    have := (List.getElem?_eq_some_iff.mp e1).1; omega
  rw [List.getElem?_map, List.getElem?_range hj] at e2
  cases e2
  obtain ⟨as, r⟩ := hy h
  refine reads_list (hX _ m) rfl fun i v' d' f1 f2 => ?_
  match i, f1, f2 with
  | 0, f1, f2 => cases f1; cases f2; exact ⟨_, .int _ _⟩
  | 1, f1, f2 => cases f1; cases f2; exact ⟨as, r⟩
  | i + 2, f1, f2 => simp at f1
theorem due_rest {w : World} {A : Around} {b h : Heap} {g : Array GenState} {d : Drawn} {t : Nat} {os : OsState} {L c1 : Addr} {m : Str → Option Value} {T : List (Addr × Obj)} {p N : Nat} {whole : Str} {tw ts tp : Tok} {Q : Flow → Shared → Prop} {E : Value → Shared → Prop} (G : Gr w b) (hh : A.handled = none) (hL0 : L ≠ 0) (hp : 1 ≤ p) (hp2 : p ≤ N) (hN : N ≤ 80) (hw : whole.length = N)
    (m2 : m (Str.ofString "whole") = some (.str whole tw)) (m3 : m (Str.ofString "size") = some (.int N ts)) (m4 : m (Str.ofString "least") = some (.int p tp)) (S : St b L m T h)
    (q : ∀ l h' t', Kp b h' → b.get? l = none → (∃ as, Reads h' (.ref l) (dueD p N whole) as) → Q (.ret (.ref l)) ⟨h', g, d, t', os⟩) :
    wpAny (model PG w) A (execs ((defBody (PB.getD 35 default)).drop 3) (ev128 L c1)) Q E ⟨h, g, d, t, os⟩ := by
  conv => arg 3; arg 1; whnf
  repeat (walk_at "ast")
  rename_i a₀ h₀ S₀ h₁ t₁ S₁
  refine r_range1 S₁ fun r h₂ t₂ ta tc S₂ => ?_
  refine r_iter S₂ (List.mem_cons_self ..) (by omega) (by omega) fun it h₃ S₃ => ?_
  have S₄ := S₃.sub (T' := (it, rngIt (0 : Nat) (N - (0 : Nat)) 1) :: (a₀, lst [].toArray 0) :: []) (by
    rw [show (((N : Int) - 0).toNat : Int) = (N : Int) - ((0 : Nat) : Int) from by omega]
    exact .cons_cons _ (.cons _ (.cons_cons _ (List.nil_sublist _))))
  refine codeAny_mono (due_loop (tw := tw) (ts := ts) (tp := tp) (R0 := fun r s' => ∃ h' t' m' us nn X, us.length = N ∧ (∀ (j : Nat) (v : Value), us[j]? = some v → DueAt p N whole j v X) ∧ m' (Str.ofString "due") = some (.ref a₀) ∧ St b L m' ((a₀, lst us.toArray nn) :: X) h' ∧ r = .ok .next ∧ s' = ⟨h', g, d, t', os⟩) hh hL0 hp hp2 hN hw (fun h t m us nn X f1 f2 f3 f4 => ⟨h, t, m, us, nn, X, f1, f2, f3, f4, rfl, rfl⟩) N 0 (by omega) h₃ _ _ [] 0 [] rfl (fun j v hv => by simp at hv) ?dr1 ?dr2 ?dr3 ?dr4 S₄) fun r s' hr => ?_
  case dr1 => rfl
  case dr2 => exact m2
  case dr3 => exact m3
  case dr4 => exact m4
  obtain ⟨h', t', m', us, nn, X, f1, f2, f3, f4, rfl, rfl⟩ := hr
  dsimp only
  refine wpAny_execs_cons (wpAny_Return_some (wpAny_Name ?_ (by decide +kernel)))
  refine n_local f4 hL0 rfl rfl rfl f3 ?_
  exact q a₀ h' t' f4.keep (f4.own.new _ (List.mem_cons_self ..)) (due_reads (f4.get (List.mem_cons_self ..)) (fun q hq => f4.own.get q (List.mem_cons_of_mem _ hq)) f1 f2)
theorem c_due {w : World} {A : Around} {h : Heap} {g : Array GenState} {d : Drawn} {t : Nat} {os : OsState} {l : Addr} {whole : Str} {tw : Tok} {vs : List Value} {n : Nat} {rows : List (List Int)} {R : Result → Shared → Prop} (G : Gr w h) (hh : A.handled = none) (hA : A.depth + 20 < recursionLimit) (hU : A.units + 100 < cLine) (hl : h.get? l = some (lst vs.toArray n)) (hr : RowsAre h vs rows) (hn1 : 1 ≤ rows.length) (hn8 : rows.length ≤ 8) (hw : whole.length = 10 * rows.length)
    (q : ∀ p l' h' t', DueLeast rows p → Kp h h' → h.get? l' = none → (∃ as, Reads h' (.ref l') (dueD p (10 * rows.length) whole) as) → R (.ok (.ret (.ref l'))) ⟨h', g, d, t', os⟩) :
    codeAny (model PG w) A (.call (.ref 128) ⟨[.ref l, .str whole tw], []⟩) R ⟨h, g, d, t, os⟩ := by
  have hvl := hr.1
  refine c_due_in G hA fun L c1 h1 t1 hL0 S1 => ?_
  conv => arg 3; arg 1; whnf
  repeat (walk_at "ast")
  refine l_len (St.keep (by assumption) _ _ hl) (by simp; omega) fun t₁ tk => ?_
  refine i_mul (IntMulOk.of_left (by decide)) fun t2 => ?_
  repeat (walk_at "ast")
  refine' l_mul (by assumption) (St.get (by assumption) ?m1) (by omega) ?z (fun a₂ h₂ S₂ => ?_)
  case m1 => walk_at "mem"
  case z => exact Nat.le_of_ble_eq_true rfl
  repeat (walk_at "ast")
  refine l_len (St.keep (by assumption) _ _ hl) (by simp; omega) fun t₃ tk₃ => ?_
  refine' l_mul (by assumption) (St.get (by assumption) ?m2) (by simp; omega) ?z2 (fun a₃ h₃ S₃ => ?_)
  case m2 => walk_at "mem"
  case z2 => exact Nat.le_of_ble_eq_true rfl
  have e1 : ((vs.toArray.size : Nat) : Int).toNat = rows.length := by rw [List.size_toArray, Int.toNat_natCast, hvl]
  rw [e1] at S₃
  obtain ⟨as1, ra⟩ := reads_rows (S₃.keep _ _ hl) (hr.keeps S₃.keep)
  have hz : RowIs h₃ (.ref a₂) (List.replicate 10 0) := ⟨a₂, _, _, rfl, S₃.get (by walk_at "mem"), ints_rep 0 _ 10⟩
  obtain ⟨as2, rb⟩ := reads_rows (S₃.get (List.mem_cons_self ..)) (rows_rep hz rows.length)
  refine ne_d ra rb (pl_rows _) (pl_rows _) (depth_rows _) (depth_rows _) (by show A.units + 3 + 64 < _; omega) fun c hc => ?_
  refine wpAny_truthy_bool ?_
  cases c with
  | false =>
    have hz' : rows = zeros rows.length := by
      have : ¬ rowsD rows ≠ rowsD (List.replicate rows.length (List.replicate 10 0)) := fun q => by have := hc.mpr q; cases this
      exact rowsD_inj (Classical.not_not.mp this)
    rw [if_neg (by decide)]
    refine wpAny_execs_nil ?_
    dsimp only
    have es : (10 : Int) * (vs.toArray.size : Nat) = ((10 * rows.length : Nat) : Int) := by rw [List.size_toArray, hvl]; omega
    refine due_rest (p := 1) (N := 10 * rows.length) G hh hL0 (by omega) (by omega) (by omega) hw (by exact rfl) (by rw [← es]; exact rfl) (by exact rfl) S₃ fun l' h' t' kk hnew hreads => ?_
    exact q 1 l' h' t' (.inl ⟨hz', rfl⟩) kk hnew hreads
  | true =>
    rw [if_pos rfl]
    repeat (walk_at "ast")
    have hne : rows ≠ zeros rows.length := fun q => by
      have := hc.mp rfl
      exact this (congrArg rowsD q)
    have S₅ := S₃.pick (T' := [(c1, cellO (some (.ref l)))]) (by walk_at "sub") (fun _ => by simp)
    clear S₃ S₂ S1
    refine' lc_open ?hlc ?hcell2 ?hk2 ?hn2 ?hs2 ?_
    case hlc => exact rfl
    case hcell2 => decide
    case hk2 => exact rfl
    case hn2 => decide
    case hs2 => intro x; rfl
    repeat (walk_at "ast")
    refine l_len (S₅.keep _ _ hl) (by simp; omega) fun t₅ tk₅ => ?_
    repeat (walk_at "ast")
    refine r_range2 S₅ fun r h₇ t₇ tc S₇ => ?_
    repeat (walk_at "ast")
    refine r_iter S₇ (List.mem_cons_self ..) (by omega) (by rw [List.size_toArray]; omega) fun it h₈ S₈ => ?_
    refine ⟨_, _, _, _, _, _, _, _, _, _, rfl, rfl, hL0, S₈, fun D C oL h₉ hC ho S₉ => ⟨?_, ?_⟩⟩
    · refine' ri_self S₉ ?mri
      case mri => walk_at "mem"
    have S₁₀ := S₉.pick (T' := [(it, rngIt (1 + (0 : Nat)) ((rows.length : Nat) - (0 : Nat)) 1), (D, lst [].toArray 0), (L, oL), (c1, cellO (some (.ref l)))]) (by
      rw [show ((((vs.toArray.size : Nat) : Int) + 1 - 1).toNat : Int) = ((rows.length : Nat) : Int) - ((0 : Nat) : Int) from by rw [List.size_toArray, hvl]; omega, show ((1 : Int) + ((0 : Nat) : Int)) = 1 from rfl]
      walk_at "sub") (by walk_at "nodup")
    clear S₉ S₈ S₇ S₅
    refine lc_rangeT (T0 := [(L, oL), (c1, cellO (some (.ref l)))]) (n := rows.length) (fun i => decide (rot (i + 1) rows = rows)) (show (A.deeper (ev128 L c1)).handled = none from hh) hC rfl rfl rfl (by decide +kernel) (by omega) ?_ ?_ rows.length 0 (by omega) [] 0 _ _ _ (Nat.zero_le _) .nil S₁₀
    · intro i us nn mC tk h' t' hi hm S
      rw [show (1 : Int) + (i : Int) = ((i + 1 : Nat) : Int) from by omega] at hm S ⊢
      repeat (walk_at "ast")
      rename_i a1 h1' S1'
      refine' l_slice (l := some ((i + 1 : Nat) : Int)) (u := none) S1' (S1'.keep _ _ hl) ?ms1 (IsPart.int _ _) IsPart.none (by simp; omega) (fun r1 h2' S2' => ?_)
      case ms1 => walk_at "mem"
      rw [pick_drop vs (i + 1) (by omega)] at S2'
      repeat (walk_at "ast")
      rename_i a2 h3' S3'
      refine' l_slice (l := none) (u := some ((i + 1 : Nat) : Int)) S3' (S3'.keep _ _ hl) ?ms2 IsPart.none (IsPart.int _ _) (by simp; omega) (fun r2 h4' S4' => ?_)
      case ms2 => walk_at "mem"
      rw [pick_take vs (i + 1) (by omega)] at S4'
      refine' l_addL (by assumption) (St.get (by assumption) ?mad) (St.get (by assumption) ?mbd) ?zzd (fun a₁₁ h₁₁ S₁₁ => ?_)
      case mad => walk_at "mem"
      case mbd => walk_at "mem"
      case zzd => rw [List.length_drop, List.length_take]; omega
      repeat (walk_at "ast")
      obtain ⟨as3, rc⟩ := reads_rows (S₁₁.get (List.mem_cons_self ..)) ((hr.keeps S₁₁.keep).rot (t := i + 1) (by omega))
      obtain ⟨as4, rd⟩ := reads_rows (S₁₁.keep _ _ hl) (hr.keeps S₁₁.keep)
      refine eq_d rc rd (pl_rows _) (pl_rows _) (depth_rows _) (depth_rows _) (by show A.units + 3 + 64 < _; omega) fun c hc' => ?_
      refine wpAny_truthy_bool ⟨?_, h₁₁, _, rfl, S₁₁.sel 9 [5, 6, 7, 8] (by decide +kernel) rfl⟩
      cases c with
      | true => exact (decide_eq_true (rowsD_inj (hc'.mp rfl))).symm
      | false => exact (decide_eq_false fun q => by have := hc'.mpr (congrArg rowsD q); cases this).symm
    · intro us nn mC h' t' hI S
      have S' := S.sel (T' := [(L, oL), (D, lst us.toArray nn), (c1, cellO (some (.ref l)))]) 3 [1, 0, 2] (by decide +kernel) rfl
      refine lc_fin (vs := #[]) (n := 0) S' hC ho fun h₂ S₂ => ?_
      repeat (walk_at "ast")
      have hfull : rot rows.length rows = rows := by unfold rot; rw [List.drop_length, List.take_length]; rfl
      have hlast : rows.length - 1 ∈ (List.range rows.length).filter (fun i => decide (rot (i + 1) rows = rows)) := by
        rw [List.mem_filter]
        refine ⟨List.mem_range.mpr (by omega), ?_⟩
        rw [show rows.length - 1 + 1 = rows.length from by omega]
        exact decide_eq_true hfull
      refine f_min (s := ⟨_, g, d, _, os⟩) (show (A.deeper (ev128 L c1)).handled = none from hh) ⟨_, S₂.get (List.mem_cons_self ..), rfl, _, rfl⟩ hI (by rw [List.length_map]; exact List.length_pos_of_mem hlast) fun h₃ M tM tk₃ k₃ hM hmin => ?_
      have S₃ := S₂.grown k₃
      obtain ⟨j, hj, rfl⟩ := List.mem_map.mp hM
      rw [List.mem_filter, List.mem_range] at hj
      obtain ⟨hj1, hj2⟩ := hj
      have hj3 := of_decide_eq_true hj2
      refine i_mul (IntMulOk.of_left (by decide)) fun t6 => ?_
      rw [show (10 : Int) * (1 + (j : Int)) = ((10 * (j + 1) : Nat) : Int) from by omega]
      refine n_store S₃ hL0 rfl rfl rfl fun h₇ t₇ S₇ => ?_
      refine wpAny_execs_nil ?_
      dsimp only
      have es : (10 : Int) * (vs.toArray.size : Nat) = ((10 * rows.length : Nat) : Int) := by rw [List.size_toArray, hvl]; omega
      refine due_rest (p := 10 * (j + 1)) (N := 10 * rows.length) G hh hL0 (by omega) (by omega) (by omega) hw (by exact rfl) (by rw [← es]; exact rfl) (by exact rfl) S₇ fun l' h' t' kk hnew hreads => ?_
      refine q _ l' h' t' (.inr ⟨hne, j + 1, rfl, by omega, by omega, hj3, fun tt h1 h2 h3 => ?_⟩) kk hnew hreads
      have := hmin ((1 : Int) + ((tt - 1 : Nat) : Int)) (List.mem_map.mpr ⟨tt - 1, by
        rw [List.mem_filter]
        refine ⟨List.mem_range.mpr (by omega), ?_⟩
        rw [show tt - 1 + 1 = tt from by omega]
        exact decide_eq_true h3, rfl⟩)
      omega
end
section
theorem strOf_x {w : World} {A : Around} {E : Value → Shared → Prop} {b h : Heap} {g : Array GenState} {d : Drawn} {t : Nat} {os : OsState} {L e tp : Addr} {m : Str → Option Value} {T : List (Addr × Obj)} {x : Str} {tk : Tok} {Q : Value → Shared → Prop} {tb ctx cause sup last : Value} (G : Gr w b) (S : St b L m T h) (hu : A.units + 50 < cLine)
    (he : (e, exO (.ref 24) none #[] (.ref tp) tb ctx cause sup last) ∈ T) (ht : (tp, msgO x tk) ∈ T) (q : Q (.str x tk) ⟨h, g, d, t, os⟩) : wpAny (model PG w) A (Builtin.Str.strOf (.ref e)) Q E ⟨h, g, d, t, os⟩ := by
  unfold Builtin.Str.strOf
  rw [if_neg (show ¬ Builtin.Str.isExactStr (.ref e) = true from fun q => Bool.noConfusion (show false = true from q))]
  refine wpAny_bind (wpAny_cRoomFor (by omega) ?_)
  repeat (first | (walk_at "rw") | ((conv => arg 3; whnf); (try conv => arg 3; arg 1; whnf); (first | with_reducible refine s_load S he ?_ | with_reducible refine s_load S ht ?_)))
  show codeAny _ _ (.call (.builtin "BaseException.__str__") ⟨[.ref e], []⟩) _ _
  refine c_tree ?_
  repeat (first | (walk_at "rw") | ((conv => arg 3; whnf); (try conv => arg 3; arg 1; whnf); (first | with_reducible refine s_load S he ?_ | with_reducible refine s_load S ht ?_)))
  refine ⟨q_builtin (by decide +kernel), c_builtin F.entry_bexc_str ?_⟩
  repeat (first | (walk_at "rw") | ((conv => arg 3; whnf); (try conv => arg 3; arg 1; whnf); (first | with_reducible refine s_load S he ?_ | with_reducible refine s_load S ht ?_)))
  dsimp only
  repeat (first | (walk_at "rw") | ((conv => arg 3; whnf); (try conv => arg 3; arg 1; whnf); (first | with_reducible refine s_load S he ?_ | with_reducible refine s_load S ht ?_)))
  exact q
theorem str_x {w : World} {A : Around} {E : Value → Shared → Prop} {b h : Heap} {g : Array GenState} {d : Drawn} {t : Nat} {os : OsState} {L e tp : Addr} {m : Str → Option Value} {T : List (Addr × Obj)} {x : Str} {tk : Tok} {Q : Value → Shared → Prop} {tb ctx cause sup last : Value} (G : Gr w b) (S : St b L m T h) (hu : A.units + 60 < cLine)
    (he : (e, exO (.ref 24) none #[] (.ref tp) tb ctx cause sup last) ∈ T) (ht : (tp, msgO x tk) ∈ T) (q : Q (.str x tk) ⟨h, g, d, t, os⟩) : wpAny (model PG w) A (call (.type "str") [.ref e]) Q E ⟨h, g, d, t, os⟩ := by
  refine callType_newIn (S := fun A' R s' => s' = ⟨h, g, d, t, os⟩ ∧ A'.units + 55 < cLine ∧ R (.ok (.ret (.str x tk))) s') F.called_str (by decide) (F.typeCall_str_1 _) (F.newCall_str_1 _) (fun obj => F.args_object_init_2 obj _) F.entry_str_new ?_ ?_
  · refine MeetsIn.of_wp fun A' R s' hs => ?_
    obtain ⟨rfl, hu', hr⟩ := hs
    rw [str_new_tree]
    refine wpAny_bind (wpAny_pure ?_)
    refine wpAny_bind (wpAny_of_eq isSubtype_str_str ?_)
    exact wpAny_bind (strOf_x G S (by show A'.units + 1 + 50 < _; omega) he ht (wpAny_pure ⟨_, rfl, hr⟩))
  · exact ⟨rfl, by show A.units + 1 + 55 < _; omega, typeIs_str _ _ _, q⟩
end
section
theorem Own.hideL {h : Heap} {T : List (Addr × Obj)} (hn : (T.map (·.1)).Nodup) (hg : ∀ p ∈ T, h.get? p.1 = some p.2) : Own (hideAll h (T.map (·.1))) T h :=
  ⟨hn, hg, fun a o e => of_hideAll _ e, fun p hp => hideAll_none _ (List.mem_map.mpr ⟨p, hp, rfl⟩)⟩
/-- a call has come back: what it had been lent (K) stands as it left it -/
theorem St.after {b h h' : Heap} {L : Addr} {m : Str → Option Value} {T0 T' N X : List (Addr × Obj)} {K : List Addr} {oL' : Obj} (S : St b L m T0 h) (O : Own (hideAll h K) T' h') (hK : ∀ a ∈ K, a = L ∨ ∃ o, (a, o) ∈ T0) (h0 : L ≠ 0)
    (hL : (L, oL') ∈ T') (hn : NsO oL' m) (hN : ∀ p ∈ N, p ∈ T') (hNn : (N.map (·.1)).Nodup) (hNL : L ∉ N.map (·.1)) (hX : ∀ p ∈ X, p ∈ T0 ∧ p.1 ∉ K) (hXn : (X.map (·.1)).Nodup) : St b L m (X ++ N) h' := by
  obtain ⟨_, nl, off⟩ := S.fr.resolve_left h0
  have bK : ∀ a ∈ K, b.get? a = none := fun a ha => by
    rcases hK a ha with rfl | ⟨o, ho⟩
    · exact nl
    · exact S.own.new _ ho
  have keep : ∀ a o, b.get? a = some o → (hideAll h K).get? a = some o := fun a o e => hideAll_get _ (S.keep _ _ e) fun hm => by rw [bK a hm] at e; cases e
  have xk : ∀ p ∈ X, (hideAll h K).get? p.1 = some p.2 := fun p hp => hideAll_get _ (S.own.get p (hX p hp).1) (hX p hp).2
  refine ⟨⟨?_, fun p hp => ?_, fun a o e => O.keep _ _ (keep a o e), fun p hp => ?_⟩, .inr ⟨?_, nl, fun hm => ?_⟩⟩
  · rw [List.map_append, List.nodup_append]
    refine ⟨hXn, hNn, fun a ha c hc e => ?_⟩
    obtain ⟨p, hp, rfl⟩ := List.mem_map.mp ha
    obtain ⟨q, hq, rfl⟩ := List.mem_map.mp hc
    have := O.new q (hN q hq)
    rw [← e, xk p hp] at this; cases this
  · rcases List.mem_append.mp hp with hp | hp
    · exact O.keep _ _ (xk p hp)
    · exact O.get p (hN p hp)
  · rcases List.mem_append.mp hp with hp | hp
    · exact S.own.new p (hX p hp).1
    · have := O.new p (hN p hp)
      cases q : b.get? p.1 with
      | none => rfl
      | some o => rw [keep _ _ q] at this; cases this
  · obtain ⟨es, ep, h1, h2, h3⟩ := hn
    exact ⟨oL', es, ep, O.get _ hL, h1, h2, h3⟩
  · rw [List.map_append] at hm
    rcases List.mem_append.mp hm with hm | hm
    · obtain ⟨p, hp, e⟩ := List.mem_map.mp hm
      exact off (by rw [← e]; exact List.mem_map.mpr ⟨p, (hX p hp).1, rfl⟩)
    · exact hNL hm
noncomputable def sc111P : { s : Scope // s = defScope (PB.getD 32 default) } := by
  refine ⟨?s, ?h⟩
  case h => (conv => rhs; whnf)
noncomputable def sc111 : Scope := sc111P.1
noncomputable def ev111 (L : Addr) : Env := { scope := sc111, locals := L, globals := mainGlobals, cells := [], qual := Str.ofString "_law_two" ++ ".<locals>.", func := some 111, code := .ref 110, frame := some L, builtins := builtinsNs }
noncomputable def twoFor : Stmt := (defBody (PB.getD 32 default)).getD 2 default
section
variable {M : Model} {A : Around} {E : Value → Shared → Prop} {s : Shared} {env : Env} {pos p2 : Pos}
theorem call_nameKw {x : Str} {np : Pos} {args : List Expr} {kws : List Keyword} {Q : Value → Shared → Prop}
    (q : wpAny M A (eval (.Name x np) env) (fun f s₁ => wpAny M A (callWith pos f [] (backTo pos (starEach args env)) (backToKw pos (keywordEach kws env))) Q E s₁) E s) :
    wpAny M A (eval (.Call (.Name x np) args kws pos) env) Q E s := by
  show wpAny M A (do callWith pos (← eval (.Name x np) env) [] (backTo pos (starEach args env)) (backToKw pos (keywordEach kws env))) Q E s
  exact wpAny_bind q
theorem ea_kw {f : Value} {e : Expr} {rest : List Expr} {ks : List Keyword} {Q : Args → Shared → Prop} (he : starEach (e :: rest) env = (false, eval e env) :: starEach rest env) (hall : (backToKw p2 (keywordEach ks env)).all (·.1.isSome) = true)
    (q : wpAny M A (spliced (backTo pos (starEach (e :: rest) env))) (fun vs s₁ => wpAny M A (evalAll ((backToKw p2 (keywordEach ks env)).map (·.2))) (fun kvs s₂ => Q ⟨vs, ((backToKw p2 (keywordEach ks env)).filterMap (·.1)).zip kvs⟩ s₂) E s₁) E s) :
    wpAny M A (evalArgs f true (backTo pos (starEach (e :: rest) env)) (backToKw p2 (keywordEach ks env))) Q E s := by
  rw [he] at q ⊢
  exact evalArgs_kw hall q
theorem kw_nil {Q : List Value → Shared → Prop} (q : Q [] s) : wpAny M A (evalAll ((backToKw p2 (keywordEach [] env)).map (·.2))) Q E s := evalAll_nil q
theorem kw_cons {n : Str} {e : Expr} {kp : Pos} {ks : List Keyword} {Q : List Value → Shared → Prop}
    (q : wpAny M A (eval e env) (fun v s₁ => wpAny M A (evalAll ((backToKw p2 (keywordEach ks env)).map (·.2))) (fun vs s₂ => Q (v :: vs) s₂) E s₁) E s) :
    wpAny M A (evalAll ((backToKw p2 (keywordEach (⟨some n, e, kp⟩ :: ks) env)).map (·.2))) Q E s := by
  refine evalAll_cons ?_
  first
    | exact wpAny_bind (wpAny_mono q (fun v s₁ h₁ => wpAny_bind (wpAny_standAt (wpAny_pure h₁))) fun _ _ x => x)
    | exact q
end
theorem two_turn {w : World} {A : Around} {b h : Heap} {g : Array GenState} {d : Drawn} {t : Nat} {os : OsState} {text sought : Str} {k : Nat} {t1 t2 t3 : Tok} {it lr L : Addr} {vs : List Value} {n : Nat} {c left : Int} {ps : Array Value} {outer : List Env} {fs : List (Addr × Obj)} {m : Str → Option Value} {R0 : Result → Shared → Prop} (G : Gr w b) (hh : A.handled = none) (hA : A.depth + 60 < recursionLimit) (hU : A.units + 80 < cLine)
    (hfr : A.frames = some (ev111 L :: outer)) (hF : FrOk outer fs) (hps : TabIn b [] ps) (hL0 : L ≠ 0) (hl : 0 < left) (hs : text.length ≤ 200) (hx : (reprText sought).length ≤ 500) (hk : k ≤ 200) (hv : vs.length ≤ 10)
    (m1 : m (Str.ofString "text") = some (.str text t1)) (m2 : m (Str.ofString "sought") = some (.str sought t2)) (p : Int) (hp : p = (k : Int)) (m3 : m (Str.ofString "place") = some (.int p t3)) (m4 : m (Str.ofString "rows") = some (.ref lr))
    (S : St b L m ((it, rngIt c left 1) :: (lr, lst vs.toArray n) :: (36, tabObj ps) :: fs) h)
    (hR : ∀ i, occ text sought k = some i → ∀ h' t' m' ti tp, m' (Str.ofString "text") = some (.str text t1) → m' (Str.ofString "sought") = some (.str sought t2) → m' (Str.ofString "place") = some (.int ((i : Int) + 1) tp) → m' (Str.ofString "rows") = some (.ref lr) →
      St b L m' ((it, rngIt (c + 1) (left - 1) 1) :: (lr, lst (vs ++ [Value.int i ti]).toArray (n + 1)) :: (36, tabObj ps) :: fs) h' → codeAny (model PG w) A (.forLoop (forTgt twoFor) (.ref it) (forBody twoFor) (forElse twoFor) (ev111 L)) R0 ⟨h', g, d, t', os⟩)
    (hE : occ text sought k = none → ∀ l h' t' ps' XX fs' tk, SlR fs fs' → TabOut ps XX ps' → Own b ((l, lst (vs ++ [Value.str (notFound sought) tk]).toArray 0) :: (36, tabObj ps') :: (XX ++ fs')) h' → R0 (.ok (.ret (.ref l))) ⟨h', g, d, t', os⟩) :
    codeAny (model PG w) A (.forLoop (forTgt twoFor) (.ref it) (forBody twoFor) (forElse twoFor) (ev111 L)) R0 ⟨h, g, d, t, os⟩ := by
  subst hp
  refine for_turn (r_next S hl fun h₄ t₄ tk₄ S₄ => ?_)
  refine lot_name (a_name S₄ hL0 rfl rfl rfl fun h₅ t₅ S₅ => ?_)
  conv => arg 3; arg 1; whnf
  repeat (walk_at "ast")
  refine wpAny_Try_except ?_
  repeat (walk_at "ast")
  refine call_nameKw ?_
  repeat (walk_at "ast")
  refine' cw_grKw ?o ?d ?_
  case o => exact rfl
  case d => exact rfl
  refine ea_kw (by with_unfolding_all rfl) (by with_unfolding_all rfl) ?_
  repeat (walk_at "ast")
  refine kw_cons ?_
  repeat (walk_at "ast")
  refine fz_new S₅ fun f led h₆ S₆ => ?_
  refine kw_cons (wpAny_Constant_bool (kw_nil ?_))
  refine ⟨S₆.keep _ _ (G.get rfl), wpAny_call ?_⟩
  obtain ⟨⟨oL, es, ep, hoL, hdL, hkL, hfL⟩, nlL, offL⟩ := S₆.fr.resolve_left hL0
  have nsL : NsO oL (fun z => if z = Str.ofString "turn" then some (Value.int c tk₄) else m z) := ⟨es, ep, hdL, hkL, hfL⟩
  have nd := S₆.own.nodup
  have hP : ((((36, tabObj ps) :: (f, fzO led) :: (L, oL) :: fs : List (Addr × Obj))).map (·.1)).Nodup := by
    simp only [List.map_cons, List.nodup_cons, List.mem_cons, not_or] at nd offL ⊢
    grind
  have O := Own.hideL (h := h₆) hP (fun p hp => by
    rcases List.mem_cons.mp hp with rfl | hp
    · exact S₆.get (by walk_at "mem")
    rcases List.mem_cons.mp hp with rfl | hp
    · exact S₆.get (by walk_at "mem")
    rcases List.mem_cons.mp hp with rfl | hp
    · exact hoL
    · exact S₆.own.get p (List.mem_cons_of_mem _ (List.mem_cons_of_mem _ (List.mem_cons_of_mem _ (List.mem_cons_of_mem _ hp)))))
  have hK : ∀ a ∈ (((36, tabObj ps) :: (f, fzO led) :: (L, oL) :: fs : List (Addr × Obj))).map (·.1), a = L ∨ ∃ o, (a, o) ∈ ((f, fzO led) :: (it, rngIt (c + 1) (left - 1) 1) :: (lr, lst vs.toArray n) :: (36, tabObj ps) :: fs) := by
    intro a ha
    obtain ⟨p, hp, rfl⟩ := List.mem_map.mp ha
    rcases List.mem_cons.mp hp with rfl | hp
    · exact .inr ⟨_, by walk_at "mem"⟩
    rcases List.mem_cons.mp hp with rfl | hp
    · exact .inr ⟨_, by walk_at "mem"⟩
    rcases List.mem_cons.mp hp with rfl | hp
    · exact .inl rfl
    · exact .inr ⟨p.2, List.mem_cons_of_mem _ (List.mem_cons_of_mem _ (List.mem_cons_of_mem _ (List.mem_cons_of_mem _ hp)))⟩
  have kb : Kp b (hideAll h₆ ((((36, tabObj ps) :: (f, fzO led) :: (L, oL) :: fs : List (Addr × Obj))).map (·.1))) := fun a o e => hideAll_get _ (S₆.keep _ _ e) fun hm => by
    rcases hK a hm with rfl | ⟨o', ho'⟩
    · rw [nlL] at e; cases e
    · rw [S₆.own.new _ ho'] at e; cases e
  have hps' : TabIn (hideAll h₆ ((((36, tabObj ps) :: (f, fzO led) :: (L, oL) :: fs : List (Addr × Obj))).map (·.1))) [] ps := by
    rcases hps with rfl | ⟨c', oc, vs', tq, h1, h2, h3, h4, h5⟩
    · exact .inl rfl
    · exact .inr ⟨c', oc, vs', tq, h1, h2, .inl (kb _ _ (h3.resolve_right (by simp))), h4, h5⟩
  refine c_skip (G.keeps kb) hh (by show A.depth + 40 < _; omega) hfr (FrOk.cons rfl rfl (fun vs q => by rw [hdL] at q; cases q) hF) O hps' hs hx hk (fun i hi h₇ t₇ ti O₇ => ?_) (fun hno e2 tp tb2 L3 rest2 ctx tk h₇ t₇ ps' XX fs' r hX O₇ => ?_)
  · simp only [List.map_cons, List.nodup_cons, List.mem_cons, not_or] at nd offL hP
    have S₇ := S₆.after (N := (36, tabObj ps) :: fs) (X := [(it, rngIt (c + 1) (left - 1) 1), (lr, lst vs.toArray n)]) O₇ hK hL0 (by walk_at "mem") nsL
      (fun p hp => by
        rcases List.mem_cons.mp hp with rfl | hp
        · walk_at "mem"
        · exact List.mem_cons_of_mem _ (List.mem_cons_of_mem _ (List.mem_cons_of_mem _ hp)))
      (by simp only [List.map_cons, List.nodup_cons, List.mem_cons, not_or]; grind) (by simp only [List.map_cons, List.mem_cons, not_or]; grind)
      (fun p hp => by
        rcases List.mem_cons.mp hp with rfl | hp
        · exact ⟨by walk_at "mem", by simp only [List.map_cons, List.mem_cons, not_or]; grind⟩
        rcases List.mem_cons.mp hp with rfl | hp
        · exact ⟨by walk_at "mem", by simp only [List.map_cons, List.mem_cons, not_or]; grind⟩
        · cases hp)
      (by simp only [List.map_cons, List.map_nil, List.nodup_cons, List.mem_cons, List.not_mem_nil, or_false, not_false_eq_true, List.nodup_nil, and_true]; grind)
    clear O₇ O S₆ S₅ S₄ S
    simp only [List.cons_append, List.nil_append] at S₇
    dsimp only
    repeat (walk_at "ast")
    refine' l_append (by assumption) ?pt ?zt (fun h₈ S₈ => ?_)
    case pt => walk_at "put"
    case zt => rw [List.size_toArray]; have : sizeLine = 16777216 := by decide
               omega
    dsimp only
    repeat (walk_at "ast")
    rename_i h₉ t₉ S₉
    have e1 : vs.toArray.push (Value.int (i : Int) ti) = (vs ++ [Value.int (i : Int) ti]).toArray := by simp
    rw [e1] at S₉
    refine' hR i hi _ _ _ _ _ ?a1 ?a2 ?a3 ?a4 S₉
    case a1 => exact m1
    case a2 => exact m2
    case a3 => exact rfl
    case a4 => exact m4
  · cases r with
    | cons r =>
    rename_i slL T'
    have hsub : List.Sublist ((tb2, tbO .none L3 .none rest2) :: (e2, exO (.ref 24) none #[] (.ref tp) (.ref tb2) ctx .none (.bool true) .none) :: (tp, msgO (notFound sought) tk) :: (36, tabObj ps') :: (XX ++ T')) ((tb2, tbO .none L3 .none rest2) :: (e2, exO (.ref 24) none #[] (.ref tp) (.ref tb2) ctx .none (.bool true) .none) :: (tp, msgO (notFound sought) tk) :: (36, tabObj ps') :: (f, fzO led) :: (XX ++ (L, { oL with slots := slL }) :: T')) :=
      .cons₂ _ (.cons₂ _ (.cons₂ _ (.cons₂ _ (.cons _ (List.Sublist.append (.refl _) (List.sublist_cons_self ..))))))
    have nd7 := O₇.nodup
    simp only [List.map_cons, List.nodup_cons, List.mem_cons, not_or] at nd offL hP
    have S₇ := S₆.after (X := [(it, rngIt (c + 1) (left - 1) 1), (lr, lst vs.toArray n)]) O₇ hK hL0 (oL' := { oL with slots := slL }) (by simp) nsL
      (fun p hp => hsub.subset hp) ((hsub.map _).nodup nd7)
      (by
        simp only [List.map_cons, List.map_append, List.nodup_cons, List.nodup_append, List.mem_cons, List.mem_append, not_or] at nd7 ⊢
        grind)
      (fun p hp => by
        rcases List.mem_cons.mp hp with rfl | hp
        · exact ⟨by walk_at "mem", by simp only [List.map_cons, List.mem_cons, not_or]; grind⟩
        rcases List.mem_cons.mp hp with rfl | hp
        · exact ⟨by walk_at "mem", by simp only [List.map_cons, List.mem_cons, not_or]; grind⟩
        · cases hp)
      (by simp only [List.map_cons, List.map_nil, List.nodup_cons, List.mem_cons, List.not_mem_nil, or_false, not_false_eq_true, List.nodup_nil, and_true]; grind)
    clear O₇ O S₆ S₅ S₄ hsub
    simp only [List.cons_append, List.nil_append] at S₇
    dsimp only
    refine nf_next (X := (it, rngIt (c + 1) (left - 1) 1) :: (lr, lst vs.toArray n) :: (tb2, tbO .none L3 .none rest2) :: (e2, exO (.ref 24) none #[] (.ref tp) (.ref tb2) ctx .none (.bool true) .none) :: (tp, msgO (notFound sought) tk) :: (36, tabObj ps') :: XX)
      (Y := fun tb => (it, rngIt (c + 1) (left - 1) 1) :: (lr, lst vs.toArray n) :: (tb2, tbO .none L3 .none rest2) :: (e2, exO (.ref 24) none #[] (.ref tp) (.ref tb) ctx .none (.bool true) .none) :: (tp, msgO (notFound sought) tk) :: (36, tabObj ps') :: XX)
      hfr (hF.slots r) rfl rfl hL0 S₇ (Put.tail (Put.tail Put.head)) (fun tb => Put.tail (Put.tail (Put.tail Put.head))) fun tb3 rest3 h₈ fs₃ r₃ S₈ => ?_
    refine sf_set (fo := none) S₈ (by walk_at "mem") Put.head fun h₉ S₉ => ?_
    refine wpAny_handleBy_cons (codeAny_handlers_test ?_) (by intro q; cases q)
    clear S₈ S₇
    repeat (walk_at "ast")
    repeat (walk_at "rw")
    refine codeAny_handlers_suite_as ?_
    refine sf_set (fo := none) S₉ (by walk_at "mem") Put.head fun h₁₀ S₁₀ => ?_
    clear S₉
    repeat (walk_at "ast")
    refine' str_x G (by assumption) (by show A.units + 60 < _; omega) ?me ?mt ?_
    case me => walk_at "mem"
    case mt => walk_at "mem"
    repeat (walk_at "ast")
    refine' l_addL (by assumption) (St.get (by assumption) ?ma) (St.get (by assumption) ?mb) ?zz (fun a₁₁ h₁₁ S₁₁ => ?_)
    case ma => walk_at "mem"
    case mb => walk_at "mem"
    case zz => show vs.length + 1 ≤ _; omega
    dsimp only
    repeat (walk_at "ast")
    refine wpAny_nameGoes (s := ⟨_, g, d, _, os⟩) rfl (S₁₁.fr.resolve_left hL0).1 rfl fun h₁₂ m₁₂ n₁₂ sb => ?_
    have S₁₂ := S₁₁.names hL0 n₁₂ sb
    refine hE hno a₁₁ h₁₂ _ ps' XX fs₃ tk (r.trans r₃) hX (S₁₂.own.sub ?_)
    exact .cons₂ _ (.cons _ (.cons _ (.cons _ (.cons _ (.cons _ (.cons _ (.cons _ (.refl _))))))))
end
section
theorem c_two {w : World} {A : Around} {b h : Heap} {g : Array GenState} {d : Drawn} {t : Nat} {os : OsState} {text sought : Str} {t1 t2 : Tok} {ps : Array Value} {outer : List Env} {fs : List (Addr × Obj)} {i0 : Nat} {R : Result → Shared → Prop} (G : Gr w b) (hh : A.handled = none) (hA : A.depth + 70 < recursionLimit) (hU : A.units + 90 < cLine)
    (hfr : A.frames = some outer) (hF : FrOk outer fs) (O : Own b ((36, tabObj ps) :: fs) h) (hps : TabIn b [] ps) (hs : text.length ≤ 200) (hx : (reprText sought).length ≤ 500) (h0 : occ text sought 0 = some i0) (hi : i0 + 1 ≤ 200)
    (q1 : ∀ i1, occ text sought (i0 + 1) = some i1 → ∀ l n h' t' ta tb, Own b ((l, lst [Value.int i0 ta, Value.int i1 tb].toArray n) :: (36, tabObj ps) :: fs) h' → R (.ok (.ret (.ref l))) ⟨h', g, d, t', os⟩)
    (q2 : occ text sought (i0 + 1) = none → ∀ l h' t' ps' XX fs' ta tk, SlR fs fs' → TabOut ps XX ps' → Own b ((l, lst [Value.int i0 ta, Value.str (notFound sought) tk].toArray 0) :: (36, tabObj ps') :: (XX ++ fs')) h' → R (.ok (.ret (.ref l))) ⟨h', g, d, t', os⟩) :
    codeAny (model PG w) A (.call (.ref 111) ⟨[.str text t1, .str sought t2], []⟩) R ⟨h, g, d, t, os⟩ := by
  have Gh : Gr w h := G.keeps O.keep
  refine' enterE ev111 [(Str.ofString "text", .str text t1), (Str.ofString "sought", .str sought t2)] Gh ?ho ?hd ?hcd ?hb ?hev (by omega) ?bind ?hcell ?hloc ?_ ?c1 ?c2 ?c3
  case ho => exact rfl
  case hd => exact rfl
  case hcd => exact rfl
  case hb => exact rfl
  case hev => intro L; rfl
  case bind => exact rfl
  case hcell => decide
  case hloc => exact locs rfl
  case c1 => exact rfl
  case c2 => exact rfl
  case c3 => exact rfl
  intro L h' t' hL0 S0
  have S := St.rebase O S0
  clear Gh S0
  have hfr' : (A.deeper (ev111 L)).frames = some (ev111 L :: outer) := by show A.frames.map _ = _; rw [hfr]; rfl
  repeat (walk_at "ast")
  rename_i a₀ h₀ S₀ h₁ t₁ S₁ tz h₂ t₂ S₂ t₃
  refine r_range1 S₂ fun r h₃ t₃ ta tc S₃ => ?_
  refine r_iter S₃ (List.mem_cons_self ..) (by omega) (by omega) fun it h₄ S₄ => ?_
  have S₅ : St (b) L _ ((it, rngIt 0 ((2 - 0 : Int).toNat : Nat) 1) :: (a₀, lst [].toArray 0) :: (36, tabObj ps) :: fs) h₄ := S₄.sub (.cons₂ _ (.cons _ (.cons₂ _ (.refl _))))
  refine two_turn (k := 0) (vs := []) (c := 0) G hh (by show A.depth + 1 + 60 < _; omega) (by show A.units + 3 + 80 < _; omega) hfr' hF hps hL0 (by decide) hs hx (by omega) (by simp) rfl rfl 0 rfl rfl rfl S₅ (fun i hi₀ h₆ t₆ m₆ ti tp e1 e2 e3 e4 S₆ => ?_) (fun hn => ?_)
  · obtain rfl : i = i0 := by rw [h0] at hi₀; cases hi₀; rfl
    refine two_turn (k := i + 1) G hh (by show A.depth + 1 + 60 < _; omega) (by show A.units + 3 + 80 < _; omega) hfr' hF hps hL0 (by decide) hs hx (by omega) (by simp) e1 e2 _ (by omega) e3 e4 S₆ (fun i1 hi₁ h₇ t₇ m₇ ti' tp' d1 d2 d3 d4 S₇ => ?_) (fun hn l h₇ t₇ ps' XX fs' tk r' hX O₇ => ?_)
    · refine for_turn (r_end hh S₇ (by decide) fun h₈ S₈ => ?_)
      dsimp only
      conv => arg 3; arg 1; whnf
      repeat (walk_at "ast")
      exact q1 i1 hi₁ _ _ _ _ _ _ S₈.own
    · exact q2 hn _ _ _ _ _ _ _ _ r' hX O₇
  · rw [h0] at hn; cases hn
end
section
noncomputable def callArg0 : Expr → Expr
  | .Call _ (a :: _) _ _ => a
  | _ => default
noncomputable def froE : Expr := callArg0 (asgVal (lawStm 11))
noncomputable def froSP : { s : Scope // s = lamScope froE } := by
  refine ⟨?s, ?h⟩
  case h => (conv => rhs; whnf)
noncomputable def froS : Scope := froSP.1
noncomputable def froEv (fb c' cb L : Addr) : Env := { scope := froS, locals := L, globals := mainGlobals, cells := [(Str.ofString "beside", cb)], qual := qLam ++ Str.ofString ".<locals>.", func := some fb, code := .ref c', frame := some L, builtins := builtinsNs }
noncomputable abbrev froO (cb c' : Addr) (pm ctv : Value) : Obj := kla_obj (Str.ofString "<lambda>") qLam (lamParams froE) (lamBody froE) (lamScope froE) [(Str.ofString "beside", cb)] pm c' ctv
theorem c_front {w : World} {A : Around} {h : Heap} {g : Array GenState} {d : Drawn} {t : Nat} {os : OsState} {ff cf' cb fb c' ct lt : Addr} {ocf oc : Obj} {pmf ctvf pm ctv : Value} {vs : List Value} {n : Nat} {i j : Nat} {ti tj t1 t2 : Tok} {x y : Str} {R : Result → Shared → Prop} (G : Gr w h) (hA : A.depth + 40 < recursionLimit)
    (hff : h.get? ff = some (froO cb cf' pmf ctvf)) (hocf : h.get? cf' = some ocf) (hqf : CodeNm ocf qLam) (hcb : h.get? cb = some (cellO (some (.ref fb))))
    (hf : h.get? fb = some (besO ct c' pm ctv)) (hoc : h.get? c' = some oc) (hq : CodeNm oc qLam) (hct : h.get? ct = some (cellO (some (.ref lt)))) (hlt : h.get? lt = some (lst vs.toArray n))
    (hi : i < 1000) (hj : j < 1000) (hx : vs[i]? = some (.str x t1)) (hy : vs[j]? = some (.str y t2))
    (q : ∀ h' t' tk, Kp h h' → R (.ok (.ret (.int ((if 0 < signZ x y then j else i : Nat) : Int) tk))) ⟨h', g, d, t', os⟩) : codeAny (model PG w) A (.call (.ref ff) ⟨[.int i ti, .int j tj], []⟩) R ⟨h, g, d, t, os⟩ := by
  obtain ⟨us, tq, e1, e2⟩ := hqf
  refine enterL (froEv ff cf' cb) [(Str.ofString "a", .int i ti), (Str.ofString "b", .int j tj)] G hff hocf e1 e2 ?hev (by omega) ?bind ?hcell ?hloc ?a1 ?a2 ?a3 ?_
  case hev => intro L; rfl
  case bind => exact rfl
  case hcell => decide
  case hloc => exact locs rfl
  case a1 => exact rfl
  case a2 => exact rfl
  case a3 => exact rfl
  intro L h' t' hL0 S
  conv => arg 3; arg 1; whnf
  refine wpAny_IfExp ?_
  repeat (walk_at "ast")
  refine n_free (c := cb) (v := .ref fb) rfl (S.keep _ _ hcb) rfl rfl (by decide +kernel) ?_
  repeat (walk_at "ast")
  refine cw_ref (o := besO ct c' pm ctv) (fd := kla_fn (Str.ofString "<lambda>") qLam (lamParams besE) (lamBody besE) (lamScope besE) [(Str.ofString "turns", ct)] pm (.ref c') ctv) ?_
  repeat (walk_at "ast")
  refine ⟨⟨S.keep _ _ hf, rfl⟩, ?_⟩
  refine wpAny_call (c_beside (G.keeps S.keep) (by show A.depth + 1 + 20 < _; omega) (S.keep _ _ hf) (S.keep _ _ hoc) hq (S.keep _ _ hct) (S.keep _ _ hlt) (by omega) (by omega) (by simpa using hx) (by simpa using hy) fun h6 t6 tk k6 => ?_)
  have S6 := S.grown k6
  dsimp only
  repeat (walk_at "ast")
  by_cases hz : 0 < signZ x y
  · rw [if_pos (by simpa using hz)]
    repeat (walk_at "ast")
    have := fun t' => q h6 t' tj S6.keep
    rw [if_pos hz] at this
    exact this _
  · rw [if_neg (by simpa using hz)]
    repeat (walk_at "ast")
    have := fun t' => q h6 t' ti S6.keep
    rw [if_neg hz] at this
    exact this _
end
section
section
variable {w : World} {A : Around} {E : Value → Shared → Prop} {b h : Heap} {g : Array GenState} {d : Drawn} {t : Nat} {os : OsState} {L : Addr} {m : Str → Option Value} {T T' : List (Addr × Obj)} {Q : Value → Shared → Prop}
theorem f_iter {r : Addr} {n : Nat} {ta tb tc : Tok} (S : St b L m T h) (hm : h.get? r = some (rangeO 0 n 1 ta tb tc)) (hn : n ≤ 1000)
    (q : ∀ it h', St b L m ((it, rngIt 0 (n : Nat) 1) :: T) h' → Q (.ref it) ⟨h', g, d, t, os⟩) : wpAny (model PG w) A (call (.builtin "iter") [.ref r]) Q E ⟨h, g, d, t, os⟩ := by
  refine call_function_entry (by decide +kernel) (by decide +kernel) kdk_entry_iter (kdk_args_iter _) ?_
  unfold Builtin.«iter»
  refine wpAny_bind (m := someArgs "iter" 1 2 _) (wpAny_of_eq (a := [Value.ref r]) (by first | rfl | kernel_rfl) ?_)
  show wpAny _ _ (pyIter (.ref r) >>= _) _ _ _
  refine wpAny_bind (wpAny_pyIter_range (s := ⟨h, g, d, t, os⟩) hm (small_one (by omega) (by omega) (by omega) (by omega)) ?_)
  rw [rangeSize_nat, Int.sub_zero, Int.toNat_natCast]
  exact wpAny_pure ⟨_, rfl, q _ _ (S.push _ rfl)⟩
theorem f_next {it : Addr} {x left : Int} (S : St b L m ((it, rngIt x left 1) :: T) h) (hl : 0 < left)
    (q : ∀ h' t' tk, St b L m ((it, rngIt (x + 1) (left - 1) 1) :: T) h' → Q (.int x tk) ⟨h', g, d, t', os⟩) : wpAny (model PG w) A (call (.builtin "next") [.ref it]) Q E ⟨h, g, d, t, os⟩ := by
  have hit := S.get (List.mem_cons_self ..)
  have hT : (⟨h, g, d, t, os⟩ : Shared).TypeIs (.ref it) "range_iterator" := ⟨_, hit, rfl⟩
  refine call_function_entry (by decide +kernel) (by decide +kernel) kdk_entry_next (kdk_args_next _) ?_
  unfold Builtin.«next»
  refine wpAny_bind (m := someArgs "next" 1 2 _) (wpAny_of_eq (a := [Value.ref it]) (by first | rfl | kernel_rfl) ?_)
  dsimp only
  refine wpAny_bind (wpAny_specialOf (name := Str.ofString "__next__") hT F.slot_range_iterator_next.lookup ?_)
  refine wpAny_ite_split (fun hab => absurd hab (by decide)) (fun _ => ?_)
  refine wpAny_bind (wpAny_callSpecial?_slot (name := Str.ofString "__next__") hT F.slot_range_iterator_next
    (call_meets F.slot_range_iterator_next hT F.entry_range_iterator_next (F.args_range_iterator_next_1 _) (AutoRange.range_iterator___next___range_iterator_1 it x left 1 (by omega)) ⟨hit, ?_⟩))
  refine wpAny_pure ⟨_, rfl, q _ _ _ ?_⟩
  exact S.same Put.head ((Heap.SameBut.update ..).trans (Heap.SameBut.update ..)) (Heap.get?_update_self _ (Heap.get?_update_self _ hit rfl) rfl)
end
noncomputable def sc57P : { s : Scope // s = defScope (PB.getD 7 default) } := by
  refine ⟨?s, ?h⟩
  case h => (conv => rhs; whnf)
noncomputable def sc57 : Scope := sc57P.1
noncomputable def ev57 (L : Addr) : Env := envOf (Str.ofString "reduce") sc57 L 57 (.ref 56)
/-- the place that reduce has kept after k -/
noncomputable def redIx (sx : Nat → Str) : Nat → Nat
  | 0 => 0
  | k + 1 => if 0 < signZ (sx (redIx sx k)) (sx (k + 1)) then k + 1 else redIx sx k
theorem redIx_le (sx : Nat → Str) : ∀ k, redIx sx k ≤ k
  | 0 => Nat.le_refl _
  | k + 1 => by
    unfold redIx
    split
    · exact Nat.le_refl _
    · exact Nat.le_succ_of_le (redIx_le sx k)
theorem enterB {w : World} {A : Around} {g : Array GenState} {d : Drawn} {t : Nat} {os : OsState} {h : Heap} {R : Result → Shared → Prop} {f : Addr} {o : Obj} {fd : FuncData} {body : List Stmt} {args : Args} (ev : Addr → Env) (binds : List (Str × Value))
    (G : Gr w h) (ho : (KF w).lookup f = some o) (hd : o.data = .func fd) (hcd : codeIn (KF w) fd.code fd.qualname = true) (hb : fd.body = .stmts body) (hev : ∀ L, callEnv fd L f = ev L)
    (hroom : A.depth < recursionLimit) (hbind : BindsTo ⟨h, g, d, t, os⟩ fd args binds)
    (hcell : ∀ x ∈ fd.scope.names, x.2 ≠ .cell) (hloc : ∀ x ∈ binds, fd.scope.names.lookup x.1 = some .local)
    (hco : fd.scope.isCoroutine = false) (hgen : fd.scope.isGenerator = false) (hk : fd.scope.kind = .function)
    (q : ∀ L h' t', L ≠ 0 → St h L (fun x => binds.reverse.lookup x) [] h' →
      wpAny (model PG w) (A.deeper (ev L)) (execs body (ev L)) (fun fl s' => R (.ok (.ret (match fl with | .ret v => v | _ => .none))) s')
        (fun e s' => wpAny (model PG w) (A.deeper (ev L)) (leaving (ev L) e) (fun _ s'' => R (.error e) s'') (fun e' s'' => R (.error e') s'') s')
        ⟨h', g, d, t', os⟩) :
    codeAny (model PG w) A (.call (.ref f) args) R ⟨h, g, d, t, os⟩ :=
  enter (binds := binds) G ho hd hcd hb hroom hbind hcell hloc (fun L h' t' h0 S => by rw [hev L]; exact q L h' t' h0 S) hco hgen hk
noncomputable def redFor : Stmt := (defBody (PB.getD 7 default)).getD 2 default
theorem c_reduce {w : World} {A : Around} {h : Heap} {g : Array GenState} {d : Drawn} {t : Nat} {os : OsState} {ff cf' cb fb c' ct lt r : Addr} {ocf oc : Obj} {pmf ctvf pm ctv : Value} {vs : List Value} {nn n : Nat} {ta tb tc : Tok} {sx : Nat → Str} {R : Result → Shared → Prop} (G : Gr w h) (hh : A.handled = none) (hA : A.depth + 60 < recursionLimit)
    (hr : h.get? r = some (rangeO 0 (n + 1 : Nat) 1 ta tb tc))
    (hff : h.get? ff = some (froO cb cf' pmf ctvf)) (hocf : h.get? cf' = some ocf) (hqf : CodeNm ocf qLam) (hcb : h.get? cb = some (cellO (some (.ref fb))))
    (hf : h.get? fb = some (besO ct c' pm ctv)) (hoc : h.get? c' = some oc) (hq : CodeNm oc qLam) (hct : h.get? ct = some (cellO (some (.ref lt)))) (hlt : h.get? lt = some (lst vs.toArray nn))
    (hn : n ≤ 8) (hv : ∀ i, i < n + 1 → ∃ tk, vs[i]? = some (.str (sx i) tk))
    (q : ∀ h' t' tk, Kp h h' → R (.ok (.ret (.int (redIx sx n : Nat) tk))) ⟨h', g, d, t', os⟩) :
    codeAny (model PG w) A (.call (.ref 57) ⟨[.ref ff, .ref r], []⟩) R ⟨h, g, d, t, os⟩ := by
  refine' enterB ev57 [(Str.ofString "function", .ref ff), (Str.ofString "sequence", .ref r), (Str.ofString "initial", .ref 49)] G ?ho ?hd ?hcd ?hb ?hev (by omega) (kp_binds (K := KF w) G.k fun S => ?bind) ?hcell ?hloc ?c1 ?c2 ?c3 ?_
  case ho => exact rfl
  case hd => exact rfl
  case hcd => exact rfl
  case hb => exact rfl
  case hev => intro L; rfl
  case bind => exact rfl
  case hcell => decide
  case hloc => exact locs rfl
  case c1 => exact rfl
  case c2 => exact rfl
  case c3 => exact rfl
  intro L h' t' hL0 S
  repeat (walk_at "ast")
  refine f_iter S (S.keep _ _ hr) (by omega) fun it h1 S1 => ?_
  repeat (walk_at "ast")
  refine wpAny_of_eq (show compareOp CmpOp.Is (.ref 49) (.ref 49) = pure (.bool true) from by kernel_rfl) ?_
  refine wpAny_truthy_bool ?_
  rw [if_pos rfl]
  refine wpAny_execs_cons ?_
  refine wpAny_Try_except ?_
  repeat (walk_at "ast")
  refine f_next (by assumption) (by omega) fun h2 t2 tk2 S2 => ?_
  repeat (walk_at "ast")
  rename_i h3 t3 S3
  refine wpAny_pyIter_rangeiter (s := ⟨_, g, d, _, os⟩) (S3.get (List.mem_cons_self ..)) ?_
  have loop : ∀ (k i : Nat), i + k = n → ∀ (h5 : Heap) (t5 : Nat) (m : Str → Option Value) (tk : Tok), m (Str.ofString "function") = some (.ref ff) → m (Str.ofString "value") = some (.int (redIx sx i : Nat) tk) → St h L m [(it, rngIt ((i : Int) + 1) (n - i) 1)] h5 →
      codeAny (model PG w) (A.deeper (ev57 L)) (.forLoop (forTgt redFor) (.ref it) (forBody redFor) (forElse redFor) (ev57 L)) (fun r s' => ∃ h6 t6 m6 tk6, r = .ok .next ∧ s' = ⟨h6, g, d, t6, os⟩ ∧ m6 (Str.ofString "value") = some (.int (redIx sx n : Nat) tk6) ∧ St h L m6 [] h6) ⟨h5, g, d, t5, os⟩ := by
    intro k
    induction k with
    | zero =>
      intro i hi h5 t5 m tk e1 e2 S5
      have ei : i = n := by omega
      subst ei
      refine for_turn (r_end (show (A.deeper (ev57 L)).handled = none from hh) S5 (by omega) fun h6 S6 => ?_)
      dsimp only
      conv => arg 3; arg 1; whnf
      refine wpAny_execs_nil ?_
      exact ⟨h6, t5, m, tk, rfl, rfl, e2, S6⟩
    | succ k ih =>
      intro i hi h5 t5 m tk e1 e2 S5
      refine for_turn (r_next S5 (by omega) fun h6 t6 tk6 S6 => ?_)
      refine lot_name (a_name S6 hL0 rfl rfl rfl fun h7 t7 S7 => ?_)
      conv => arg 3; arg 1; whnf
      repeat (walk_at "ast")
      refine cw_ref (o := froO cb cf' pmf ctvf) (fd := kla_fn (Str.ofString "<lambda>") qLam (lamParams froE) (lamBody froE) (lamScope froE) [(Str.ofString "beside", cb)] pmf (.ref cf') ctvf) ?_
      repeat (walk_at "ast")
      refine ⟨⟨S7.keep _ _ hff, rfl⟩, ?_⟩
      obtain ⟨u1, s1⟩ := hv (redIx sx i) (by have := redIx_le sx i; omega)
      obtain ⟨u2, s2⟩ := hv (i + 1) (by omega)
      have hle := redIx_le sx i
      refine wpAny_call ?_
      show codeAny _ _ (.call (.ref ff) ⟨[.int (redIx sx i : Nat) tk, .int ((i : Int) + 1) tk6], []⟩) _ _
      rw [show ((i : Int) + 1) = ((i + 1 : Nat) : Int) from by omega]
      refine c_front (G.keeps S7.keep) (by show A.depth + 1 + 40 < _; omega) (S7.keep _ _ hff) (S7.keep _ _ hocf) hqf (S7.keep _ _ hcb) (S7.keep _ _ hf) (S7.keep _ _ hoc) hq (S7.keep _ _ hct) (S7.keep _ _ hlt) (by omega) (by omega) s1 s2 fun h8 t8 tk8 k8 => ?_
      have S8 := S7.grown k8
      dsimp only
      repeat (walk_at "ast")
      rename_i h9 t9 S9
      rw [show ((n : Int) - i - 1) = (n : Int) - ((i + 1 : Nat) : Int) from by omega] at S9
      refine ih (i + 1) (by omega) h9 _ _ tk8 ?ihf ?ihv S9
      case ihf => exact e1
      case ihv => rfl
  rw [show ((n + 1 : Nat) : Int) - 1 = (n : Int) - ((0 : Nat) : Int) from by omega] at S3
  refine codeAny_mono (loop n 0 (by omega) h3 t3 _ tk2 ?lpf ?lpv S3) fun r s' hr => ?_
  case lpf => rfl
  case lpv => rfl
  obtain ⟨h6, t6, m6, tk6, rfl, rfl, e6, S6⟩ := hr
  dsimp only
  refine wpAny_execs_cons (wpAny_Return_some (wpAny_Name ?_ (by decide +kernel)))
  refine n_local S6 hL0 rfl rfl rfl e6 ?_
  exact q h6 t6 tk6 S6.keep
end
section
noncomputable def sc118P : { s : Scope // s = defScope (PB.getD 33 default) } := by
  refine ⟨?s, ?h⟩
  case h => (conv => rhs; whnf)
noncomputable def sc118 : Scope := sc118P.1
noncomputable def ev118 (L : Addr) : Env := envOf (Str.ofString "_law_ranks") sc118 L 118 (.ref 117)
noncomputable def kr (i : Int) : Int := [1, 6, 3, 1, 4, 1, 2, 1, 0, 1, 5, 1, 7, 1, 1, 1].getD i.toNat 0
noncomputable def trip (v p q : Int) : List Int := [((v.fdiv p).fmod 8).fdiv 4, (((v.fdiv p).fmod 8).fdiv 2).fmod 2, [0, 3, 1, 2].getD (((v.fdiv p).fmod 8).fmod 2 + 2 * (v.fdiv q).fmod 2).toNat 0]
noncomputable def rk (v : Int) : List Int := [kr (v.fdiv 4096)] ++ trip v 64 2048 ++ trip v 8 1024 ++ trip v 1 512
noncomputable def rkFor : Stmt := (defBody (PB.getD 33 default)).getD 1 default
theorem rk_turn {w : World} {A : Around} {b : Heap} {g : Array GenState} {d : Drawn} {os : OsState} {v : Int} {tv : Tok} {it lr L : Addr} {R0 : Result → Shared → Prop} {vs : List Value} {ns : List Int} {n : Nat} {T : List (Addr × Obj)} {h : Heap} {t : Nat} {m : Str → Option Value} {c left p q : Int}
    (hL0 : L ≠ 0) (hl : 0 < left) (hc : 0 ≤ c ∧ c ≤ 2) (hp : (8 : Int) ^ (2 - c).toNat = p) (hq : (2 : Int) ^ (11 - c).toNat = q) (hp0 : p ≠ 0 ∧ p.natAbs < 1073741824) (hq0 : q ≠ 0 ∧ q.natAbs < 1073741824)
    (hm1 : m (Str.ofString "v") = some (.int v tv)) (hm2 : m (Str.ofString "ranks") = some (.ref lr)) (hI : IntsAre vs ns) (hz : vs.length ≤ 1000) (S : St b L m ((it, rngIt c left 1) :: (lr, lst vs.toArray n) :: T) h)
    (hR : ∀ h' t' m' lr' vs' T', m' (Str.ofString "v") = some (.int v tv) → m' (Str.ofString "ranks") = some (.ref lr') → IntsAre vs' (ns ++ trip v p q) → vs'.length = vs.length + 3 → St b L m' ((it, rngIt (c + 1) (left - 1) 1) :: (lr', lst vs'.toArray 0) :: T') h' →
      codeAny (model PG w) A (.forLoop (forTgt rkFor) (.ref it) (forBody rkFor) (forElse rkFor) (ev118 L)) R0 ⟨h', g, d, t', os⟩) :
    codeAny (model PG w) A (.forLoop (forTgt rkFor) (.ref it) (forBody rkFor) (forElse rkFor) (ev118 L)) R0 ⟨h, g, d, t, os⟩ := by
  refine for_turn (r_next S hl fun h₄ t₄ tk₄ S₄ => ?_)
  refine lot_name (a_name S₄ hL0 rfl rfl rfl fun h₅ t₅ S₅ => ?_)
  conv => arg 3; arg 1; whnf
  repeat (walk_at "ast")
  have b8 : Builtin.Int.intBits 8 = 4 := by decide +kernel
  have b2 : Builtin.Int.intBits 2 = 2 := by decide +kernel
  refine i_pow (by omega) (by rw [b8]; omega) fun t' => ?_
  rw [hp]
  refine i_div hp0.1 (PyProof.noPylong_small hp0.2) fun t' => ?_
  repeat (walk_at "ast")
  refine i_pow (by omega) (by rw [b2]; omega) fun t' => ?_
  rw [hq]
  refine i_div hq0.1 (PyProof.noPylong_small hq0.2) fun t' => ?_
  repeat (walk_at "ast")
  refine i_mul (IntMulOk.of_left (by rw [b2]; decide)) fun t' => ?_
  repeat (walk_at "ast")
  have hk : 0 ≤ ((v.fdiv p).fmod 8).fmod 2 + 2 * (v.fdiv q).fmod 2 ∧ ((v.fdiv p).fmod 8).fmod 2 + 2 * (v.fdiv q).fmod 2 < 4 := by
    rw [Int.fmod_eq_emod_of_nonneg _ (by decide), Int.fmod_eq_emod_of_nonneg _ (by decide), Int.fmod_eq_emod_of_nonneg _ (by decide)]; omega
  refine' l_itemI (by assumption) ?m (IntsAre.cons 0 _ (.cons 3 _ (.cons 1 _ (.cons 2 _ .nil)))) hk.1 hk.2 (by decide) (fun tk => ?_)
  case m => walk_at "mem"
  repeat (walk_at "ast")
  refine' l_addL (by assumption) (St.get (by assumption) ?m1) (St.get (by assumption) ?m2) ?z (fun a₆ h₆ S₆ => ?_)
  case m1 => walk_at "mem"
  case m2 => walk_at "mem"
  case z => show vs.length + 3 ≤ _; omega
  repeat (walk_at "ast")
  rename_i h₇ t₇ S₇
  have S₈ := S₇.pick (T' := [(it, rngIt (c + 1) (left - 1) 1), (a₆, lst _ 0)]) (by walk_at "sub") (by walk_at "nodup")
  refine' hR _ _ _ _ _ _ ?a ?b ?c ?d S₈
  case a => exact hm1
  case b => exact rfl
  case c => exact IntsAre.append hI (.cons _ _ (.cons _ _ (.cons _ _ .nil)))
  case d => rw [List.length_append]; rfl
theorem c_ranks {w : World} {A : Around} {h : Heap} {g : Array GenState} {d : Drawn} {t : Nat} {os : OsState} {v : Int} {tv : Tok} {R : Result → Shared → Prop} (G : Gr w h) (hh : A.handled = none) (hA : A.depth + 20 < recursionLimit) (h0 : 0 ≤ v) (h1 : v < 65536)
    (q : ∀ l vs n h' t', Kp h h' → h.get? l = none → h'.get? l = some (lst vs.toArray n) → IntsAre vs (rk v) → R (.ok (.ret (.ref l))) ⟨h', g, d, t', os⟩) : codeAny (model PG w) A (.call (.ref 118) ⟨[.int v tv], []⟩) R ⟨h, g, d, t, os⟩ := by
  refine' enterE ev118 [(Str.ofString "v", .int v tv)] G ?ho ?hd ?hcd ?hb ?hev (by omega) ?bind ?hcell ?hloc ?_ ?c1 ?c2 ?c3
  case ho => exact rfl
  case hd => exact rfl
  case hcd => exact rfl
  case hb => exact rfl
  case hev => intro L; rfl
  case bind => exact rfl
  case hcell => decide
  case hloc => exact locs rfl
  case c1 => exact rfl
  case c2 => exact rfl
  case c3 => exact rfl
  intro L h' t' hL0 S
  repeat (walk_at "ast")
  have hv : (v.fdiv 4096).toNat < 16 ∧ 0 ≤ v.fdiv 4096 := by
    rw [Int.fdiv_eq_ediv_of_nonneg _ (by decide)]; omega
  have hc : ∃ c, (Str.ofString "?pc?d?b?-?l?s???").cps[(v.fdiv 4096).toNat]? = some c ∧ Txt.find (Str.ofString "-?bcdlps") ⟨#[c]⟩ = kr (v.fdiv 4096) := by
    have key : ∀ i : Fin 16, ∃ c ∈ (Str.ofString "?pc?d?b?-?l?s???").cps[i.1]?, Txt.find (Str.ofString "-?bcdlps") ⟨#[c]⟩ = [1, 6, 3, 1, 4, 1, 2, 1, 0, 1, 5, 1, 7, 1, 1, 1].getD i.1 0 := by decide +kernel
    obtain ⟨c, h1, h2⟩ := key ⟨_, hv.1⟩
    exact ⟨c, h1, h2⟩
  obtain ⟨c, hc1, hc2⟩ := hc
  refine s_item hv.2 (by have := hv.1; omega) hc1 fun t₁ => ?_
  repeat (walk_at "ast")
  have hpos : 0 ≤ kr (v.fdiv 4096) := by
    have : ∀ i : Fin 16, (0 : Int) ≤ [1, 6, 3, 1, 4, 1, 2, 1, 0, 1, 5, 1, 7, 1, 1, 1].getD i.1 0 := by decide
    exact this ⟨_, hv.1⟩
  refine index_or hh (fun e => by rw [hc2] at e; omega) fun _ _ => ?_
  rw [hc2]
  dsimp only
  repeat (walk_at "ast")
  rename_i a₀ h₀ S₀ h₁ t₁ S₁ t₂
  refine r_range1 S₁ fun r h₂ t₂ ta tc S₂ => ?_
  refine r_iter S₂ (List.mem_cons_self ..) (by omega) (by omega) fun it h₃ S₃ => ?_
  have S₃' := S₃.pick (T' := [(it, rngIt 0 ((3 - 0 : Int).toNat : Nat) 1), (a₀, lst _ 0)]) (by walk_at "sub") (by walk_at "nodup")
  refine rk_turn (c := 0) (p := 64) (q := 2048) hL0 (by decide) (by decide) (by decide) (by decide) (by decide) (by decide) rfl rfl (.cons _ _ .nil) (Nat.le_of_ble_eq_true rfl) S₃' fun h₄ t₄ m₄ l₄ v₄ T₄ e1 e2 I4 z4 S₄ => ?_
  refine rk_turn (c := 0 + 1) (p := 8) (q := 1024) hL0 (by decide) (by decide) (by decide) (by decide) (by decide) (by decide) e1 e2 I4 (by simp at z4; omega) S₄ fun h₅ t₅ m₅ l₅ v₅ T₅ e3 e4 I5 z5 S₅ => ?_
  refine rk_turn (c := 0 + 1 + 1) (p := 1) (q := 512) hL0 (by decide) (by decide) (by decide) (by decide) (by decide) (by decide) e3 e4 I5 (by simp at z4; omega) S₅ fun h₆ t₆ m₆ l₆ v₆ T₆ e5 e6 I6 z6 S₆ => ?_
  refine for_turn (r_end hh S₆ (by decide) fun h₇ S₇ => ?_)
  dsimp only
  conv => arg 3; arg 1; whnf
  repeat (walk_at "ast")
  exact q _ _ _ _ _ S₇.keep (S₇.own.new _ (List.mem_cons_self ..)) (S₇.get (List.mem_cons_self ..)) I6
end
section
theorem and_lo (n bit : Nat) (hb : bit < 4096) : n &&& bit = (n % 4096) &&& bit := by
  apply Nat.eq_of_testBit_eq
  intro i
  rw [Nat.testBit_and, Nat.testBit_and, show (4096 : Nat) = 2 ^ 12 from rfl, Nat.testBit_mod_two_pow]
  by_cases hi : i < 12
  · simp [hi]
  · have : bit.testBit i = false := Nat.testBit_lt_two_pow (Nat.lt_of_lt_of_le hb (by have := Nat.pow_le_pow_right (n := 2) (by decide) (show 12 ≤ i by omega); simpa using this))
    simp [this]
theorem and_hi (n : Nat) (hn : n < 65536) : n &&& 61440 = (4096 * (n / 4096)) &&& 61440 := by
  apply Nat.eq_of_testBit_eq
  intro i
  rw [Nat.testBit_and, Nat.testBit_and]
  by_cases hi : i < 12
  · have : (61440 : Nat).testBit i = false := by
      have : ∀ j : Fin 12, (61440 : Nat).testBit j.1 = false := by decide +kernel
      exact this ⟨i, hi⟩
    simp [this]
  · congr 1
    rw [show (4096 : Nat) = 2 ^ 12 from rfl, Nat.testBit_two_pow_mul, Nat.testBit_div_two_pow]
    simp [show 12 ≤ i by omega, show i - 12 + 12 = i by omega]
theorem bitAnd_nat (a b : Nat) : Builtin.bitAnd (a : Int) (b : Int) = ((a &&& b : Nat) : Int) := by
  unfold Builtin.bitAnd
  simp
theorem pick_lo (n : Nat) (idx : Int) (h0 : idx ≠ 0) : ∀ tab : List (Int × Str), (∀ x ∈ tab, ∃ k : Nat, x.1 = (k : Int) ∧ k < 4096) → pick idx n tab = pick idx ((n % 4096 : Nat) : Int) tab
  | [], _ => rfl
  | (bit, ch) :: r, h => by
    obtain ⟨k, e, hk⟩ := h _ (List.mem_cons_self ..)
    have ih := pick_lo n idx h0 r fun x hx => h x (List.mem_cons_of_mem _ hx)
    simp only at e
    subst e
    unfold pick
    simp only [h0, if_false]
    rw [bitAnd_nat, bitAnd_nat, and_lo n k hk, ih]
theorem pick_hi (n : Nat) (hn : n < 65536) : ∀ tab : List (Int × Str), pick 0 n tab = pick 0 ((4096 * (n / 4096) : Nat) : Int) tab
  | [] => rfl
  | (bit, ch) :: r => by
    have ih := pick_hi n hn r
    unfold pick
    simp only [if_true]
    rw [show (61440 : Int) = ((61440 : Nat) : Int) from rfl, bitAnd_nat, bitAnd_nat, and_hi n hn, ih]
theorem fm_hi : ∀ a : Fin 16, pick 0 ((4096 * a.1 : Nat) : Int) (tabs.headD []) = sgn [kr a.1] 0 := by decide +kernel
end
section
theorem and_pow (n k : Nat) : n &&& 2 ^ k = 2 ^ k * (n / 2 ^ k % 2) := by
  have tb : n.testBit k = decide (n / 2 ^ k % 2 = 1) := Nat.testBit_eq_decide_div_mod_eq
  rcases Nat.mod_two_eq_zero_or_one (n / 2 ^ k) with h | h
  · rw [h, Nat.mul_zero]
    apply Nat.eq_of_testBit_eq
    intro i
    rw [Nat.testBit_and, Nat.testBit_two_pow, Nat.zero_testBit]
    by_cases e : k = i
    · subst e; rw [tb, h]; simp
    · simp [e]
  · rw [h, Nat.mul_one]
    apply Nat.eq_of_testBit_eq
    intro i
    rw [Nat.testBit_and, Nat.testBit_two_pow]
    by_cases e : k = i
    · subst e; rw [tb, h]; simp
    · simp [e]
theorem and_two (n j k M : Nat) (hM : 2 ^ j ||| 2 ^ k = M) : n &&& M = (2 ^ j * (n / 2 ^ j % 2)) ||| (2 ^ k * (n / 2 ^ k % 2)) := by
  rw [← hM, Nat.and_or_distrib_left, and_pow, and_pow]
theorem bit01 (n : Nat) : n % 2 = 0 ∨ n % 2 = 1 := Nat.mod_two_eq_zero_or_one n
/-- a column of one sign -/
theorem pick_one (n : Nat) (idx : Int) (h0 : idx ≠ 0) (k B : Nat) (hB : 2 ^ k = B) (ch : Str) : pick idx n [((B : Nat), ch)] = if n / 2 ^ k % 2 = 1 then ch else Str.ofString "-" := by
  unfold pick
  simp only [h0, if_false]
  rw [bitAnd_nat, ← hB, and_pow]
  have hp : 0 < 2 ^ k := Nat.two_pow_pos k
  have nz : ¬ ((((2 ^ k * 0 : Nat)) : Int) = ((2 ^ k : Nat) : Int)) := by
    intro e
    have e' : 2 ^ k * 0 = 2 ^ k := by exact_mod_cast e
    omega
  rcases bit01 (n / 2 ^ k) with h | h
  · rw [h, if_neg nz, if_neg (by omega)]
    unfold pick; rw [if_neg h0]
  · rw [h, if_pos (by simp), if_pos rfl]
/-- a column of three signs -/
theorem pick_three (n : Nat) (idx : Int) (h0 : idx ≠ 0) (j k M J K : Nat) (hM : 2 ^ j ||| 2 ^ k = M) (hJ : 2 ^ j = J) (hK : 2 ^ k = K) (hj : j ≠ k) (c1 c2 c3 : Str) :
    pick idx n [((M : Nat), c1), ((J : Nat), c2), ((K : Nat), c3)] = if n / 2 ^ j % 2 = 1 then (if n / 2 ^ k % 2 = 1 then c1 else c2) else (if n / 2 ^ k % 2 = 1 then c3 else Str.ofString "-") := by
  have pj : 0 < 2 ^ j := Nat.two_pow_pos j
  have pk : 0 < 2 ^ k := Nat.two_pow_pos k
  have tj : (2 ^ j ||| 2 ^ k).testBit j = true := by rw [Nat.testBit_or, Nat.testBit_two_pow_self]; rfl
  have tk : (2 ^ j ||| 2 ^ k).testBit k = true := by rw [Nat.testBit_or, Nat.testBit_two_pow_self, Bool.or_true]
  have jk : (2 ^ j).testBit k = false := by rw [Nat.testBit_two_pow]; simp [hj]
  have kj : (2 ^ k).testBit j = false := by rw [Nat.testBit_two_pow]; simp [Ne.symm hj]
  simp only [pick, h0, if_false]
  rw [bitAnd_nat, bitAnd_nat, bitAnd_nat, and_two n j k M hM, ← hJ, ← hK, and_pow, and_pow, ← hM]
  have cast : ∀ a b : Nat, (((a : Nat) : Int) = ((b : Nat) : Int)) = (a = b) := fun a b => propext ⟨fun e => by exact_mod_cast e, fun e => by rw [e]⟩
  simp only [cast]
  rcases bit01 (n / 2 ^ j) with hj' | hj' <;> rcases bit01 (n / 2 ^ k) with hk' | hk'
  · rw [hj', hk', if_neg (fun e => by rw [Nat.mul_zero, Nat.mul_zero, Nat.or_self] at e; rw [← e, Nat.zero_testBit] at tj; cases tj), if_neg (by omega), if_neg (by omega), if_neg (by omega), if_neg (by omega)]
  · rw [hj', hk', if_neg (fun e => by rw [Nat.mul_zero, Nat.mul_one, Nat.zero_or] at e; rw [← e, kj] at tj; cases tj), if_neg (by omega), if_pos (by omega), if_neg (by omega), if_pos (by omega)]
  · rw [hj', hk', if_neg (fun e => by rw [Nat.mul_zero, Nat.mul_one, Nat.or_zero] at e; rw [← e, jk] at tk; cases tk), if_pos (by omega), if_pos (by omega), if_neg (by omega)]
  · rw [hj', hk', if_pos (by rw [Nat.mul_one, Nat.mul_one]), if_pos rfl, if_pos rfl]
end
section
theorem col_one (n : Nat) (idx : Int) (h0 : idx ≠ 0) (k B : Nat) (hB : 2 ^ k = B) (c : String) (h1 : (Str.ofString c) = ⟨#[(Str.ofString ("-" ++ c)).cps.getD 1 0]⟩) (h2 : Str.ofString "-" = ⟨#[(Str.ofString ("-" ++ c)).cps.getD 0 0]⟩) :
    pick idx n [((B : Nat), Str.ofString c)] = ⟨#[(Str.ofString ("-" ++ c)).cps.getD (n / 2 ^ k % 2) 0]⟩ := by
  rw [pick_one n idx h0 k B hB]
  rcases bit01 (n / 2 ^ k) with h | h
  · rw [h, if_neg (by decide)]; exact h2
  · rw [h, if_pos rfl]; exact h1
noncomputable def g3 (a b : Nat) : Nat := [0, 3, 1, 2].getD (a + 2 * b) 0
theorem col_three (n : Nat) (idx : Int) (h0 : idx ≠ 0) (j k M J K : Nat) (hM : 2 ^ j ||| 2 ^ k = M) (hJ : 2 ^ j = J) (hK : 2 ^ k = K) (hj : j ≠ k) (c1 c2 c3 al : Str) (e0 : Str.ofString "-" = ⟨#[al.cps.getD 0 0]⟩) (e1 : c2 = ⟨#[al.cps.getD 1 0]⟩) (e2 : c1 = ⟨#[al.cps.getD 2 0]⟩) (e3 : c3 = ⟨#[al.cps.getD 3 0]⟩) :
    pick idx n [((M : Nat), c1), ((J : Nat), c2), ((K : Nat), c3)] = ⟨#[al.cps.getD (g3 (n / 2 ^ k % 2) (n / 2 ^ j % 2)) 0]⟩ := by
  rw [pick_three n idx h0 j k M J K hM hJ hK hj]
  rcases bit01 (n / 2 ^ j) with h | h <;> rcases bit01 (n / 2 ^ k) with h' | h'
  · rw [h, h', if_neg (by decide), if_neg (by decide)]; exact e0
  · rw [h, h', if_neg (by decide), if_pos rfl]; exact e3
  · rw [h, h', if_pos rfl, if_neg (by decide)]; exact e1
  · rw [h, h', if_pos rfl, if_pos rfl]; exact e2
theorem fdN (n a : Nat) : (n : Int).fdiv (a : Int) = ((n / a : Nat) : Int) := by
  rw [Int.fdiv_eq_ediv_of_nonneg _ (Int.natCast_nonneg a)]; rfl
theorem fmN (n a : Nat) : (n : Int).fmod (a : Int) = ((n % a : Nat) : Int) := by
  rw [Int.fmod_eq_emod_of_nonneg _ (Int.natCast_nonneg a)]; rfl
theorem m8a (m : Nat) : m % 8 / 4 = m / 4 % 2 := by omega
theorem m8b (m : Nat) : m % 8 / 2 % 2 = m / 2 % 2 := by omega
theorem m8c (m : Nat) : m % 8 % 2 = m % 2 := by omega
theorem g3_of (a b : Nat) (ha : a < 2) (hb : b < 2) : ([0, 3, 1, 2] : List Int).getD (a + 2 * b) 0 = ((g3 a b : Nat) : Int) := by
  match a, b, ha, hb with
  | 0, 0, _, _ => rfl
  | 0, 1, _, _ => rfl
  | 1, 0, _, _ => rfl
  | 1, 1, _, _ => rfl
theorem trip_nat (n p q : Nat) : trip (n : Int) (p : Int) (q : Int) = [((n / (p * 4) % 2 : Nat) : Int), ((n / (p * 2) % 2 : Nat) : Int), ((g3 (n / p % 2) (n / q % 2) : Nat) : Int)] := by
  unfold trip
  rw [show (8 : Int) = ((8 : Nat) : Int) from rfl, show (4 : Int) = ((4 : Nat) : Int) from rfl]
  rw [fdN, fmN, fdN, m8a, Nat.div_div_eq_div_mul]
  have e2 : ((((n / p % 8 : Nat) : Int).fdiv 2).fmod 2) = ((n / (p * 2) % 2 : Nat) : Int) := by
    rw [show (2 : Int) = ((2 : Nat) : Int) from rfl, fdN, fmN, m8b, Nat.div_div_eq_div_mul]
  have e3 : ((((n / p % 8 : Nat) : Int).fmod 2 + 2 * ((n : Int).fdiv q).fmod 2).toNat) = n / p % 2 + 2 * (n / q % 2) := by
    rw [show (2 : Int) = ((2 : Nat) : Int) from rfl, fmN, fdN, fmN, m8c]; rfl
  rw [e2, e3, g3_of _ _ (Nat.mod_lt _ (by decide)) (Nat.mod_lt _ (by decide))]
theorem rk_nat (n : Nat) : rk (n : Int) = [kr ((n / 4096 : Nat) : Int), ((n / 2 ^ 8 % 2 : Nat) : Int), ((n / 2 ^ 7 % 2 : Nat) : Int), ((g3 (n / 2 ^ 6 % 2) (n / 2 ^ 11 % 2) : Nat) : Int), ((n / 2 ^ 5 % 2 : Nat) : Int), ((n / 2 ^ 4 % 2 : Nat) : Int), ((g3 (n / 2 ^ 3 % 2) (n / 2 ^ 10 % 2) : Nat) : Int), ((n / 2 ^ 2 % 2 : Nat) : Int), ((n / 2 ^ 1 % 2 : Nat) : Int), ((g3 (n / 2 ^ 0 % 2) (n / 2 ^ 9 % 2) : Nat) : Int)] := by
  show [kr ((n : Int).fdiv ((4096 : Nat) : Int))] ++ trip n ((64 : Nat) : Int) ((2048 : Nat) : Int) ++ trip n ((8 : Nat) : Int) ((1024 : Nat) : Int) ++ trip n ((1 : Nat) : Int) ((512 : Nat) : Int) = _
  rw [trip_nat, trip_nat, trip_nat, fdN]
  rfl
theorem fm_eq (n : Nat) (hn : n < 65536) : picksFrom (n : Int) 0 tabs = (List.range 10).map (sgn (rk n)) := by
  have h0 : pick 0 (n : Int) (tabs.headD []) = sgn (rk n) 0 := by
    rw [pick_hi n hn, fm_hi ⟨n / 4096, by omega⟩, rk_nat]; rfl
  have h1 := col_one n 1 (by decide) 8 256 rfl "r" (by decide +kernel) (by decide +kernel)
  have h2 := col_one n 2 (by decide) 7 128 rfl "w" (by decide +kernel) (by decide +kernel)
  have h3 := col_three n 3 (by decide) 11 6 2112 2048 64 (by decide) rfl rfl (by decide) (Str.ofString "s") (Str.ofString "S") (Str.ofString "x") (Str.ofString "-Ssx") (by decide +kernel) (by decide +kernel) (by decide +kernel) (by decide +kernel)
  have h4 := col_one n 4 (by decide) 5 32 rfl "r" (by decide +kernel) (by decide +kernel)
  have h5 := col_one n 5 (by decide) 4 16 rfl "w" (by decide +kernel) (by decide +kernel)
  have h6 := col_three n 6 (by decide) 10 3 1032 1024 8 (by decide) rfl rfl (by decide) (Str.ofString "s") (Str.ofString "S") (Str.ofString "x") (Str.ofString "-Ssx") (by decide +kernel) (by decide +kernel) (by decide +kernel) (by decide +kernel)
  have h7 := col_one n 7 (by decide) 2 4 rfl "r" (by decide +kernel) (by decide +kernel)
  have h8 := col_one n 8 (by decide) 1 2 rfl "w" (by decide +kernel) (by decide +kernel)
  have h9 := col_three n 9 (by decide) 9 0 513 512 1 (by decide) rfl rfl (by decide) (Str.ofString "t") (Str.ofString "T") (Str.ofString "x") (Str.ofString "-Ttx") (by decide +kernel) (by decide +kernel) (by decide +kernel) (by decide +kernel)
  show [pick 0 n _, pick 1 n _, pick 2 n _, pick 3 n _, pick 4 n _, pick 5 n _, pick 6 n _, pick 7 n _, pick 8 n _, pick 9 n _] = [sgn (rk n) 0, sgn (rk n) 1, sgn (rk n) 2, sgn (rk n) 3, sgn (rk n) 4, sgn (rk n) 5, sgn (rk n) 6, sgn (rk n) 7, sgn (rk n) 8, sgn (rk n) 9]
  rw [show pick 0 (n : Int) [(40960, Str.ofString "l"), (49152, Str.ofString "s"), (32768, Str.ofString "-"), (24576, Str.ofString "b"), (16384, Str.ofString "d"), (8192, Str.ofString "c"), (4096, Str.ofString "p")] = sgn (rk n) 0 from h0]
  rw [rk_nat]
  have L : ∀ {a b : Str} {x y : List Str}, a = b → x = y → a :: x = b :: y := fun h h' => by rw [h, h']
  exact L rfl (L h1 (L h2 (L h3 (L h4 (L h5 (L h6 (L h7 (L h8 (L h9 rfl)))))))))
theorem fm_txt (n : Nat) (hn : n < 65536) : fmS (n : Int) = txtS (rk n) := by unfold fmS txtS; rw [fm_eq n hn]
end
section
theorem rk_ok (n : Nat) (hn : n < 65536) : RkOk (rk n) := by
  rw [rk_nat]
  refine ⟨rfl, fun k hk => ?_⟩
  have kk : ∀ a : Fin 16, (0 : Int) ≤ kr a.1 ∧ (kr a.1).toNat < 8 := by decide +kernel
  have gg : ∀ a b : Nat, g3 (a % 2) (b % 2) < 4 := fun a b => by
    rcases bit01 a with h | h <;> rcases bit01 b with h' | h' <;> rw [h, h'] <;> decide
  have s0 : (alph.getD 0 Str.empty).cps.size = 8 := by decide +kernel
  have s1 : (alph.getD 1 Str.empty).cps.size = 2 := by decide +kernel
  have s2 : (alph.getD 2 Str.empty).cps.size = 2 := by decide +kernel
  have s3 : (alph.getD 3 Str.empty).cps.size = 4 := by decide +kernel
  have s4 : (alph.getD 4 Str.empty).cps.size = 2 := by decide +kernel
  have s5 : (alph.getD 5 Str.empty).cps.size = 2 := by decide +kernel
  have s6 : (alph.getD 6 Str.empty).cps.size = 4 := by decide +kernel
  have s7 : (alph.getD 7 Str.empty).cps.size = 2 := by decide +kernel
  have s8 : (alph.getD 8 Str.empty).cps.size = 2 := by decide +kernel
  have s9 : (alph.getD 9 Str.empty).cps.size = 4 := by decide +kernel
  match k, hk with
  | 0, _ => rw [s0]; exact kk ⟨n / 4096, by omega⟩
  | 1, _ => rw [s1]; exact ⟨Int.natCast_nonneg _, Nat.mod_lt _ (by decide)⟩
  | 2, _ => rw [s2]; exact ⟨Int.natCast_nonneg _, Nat.mod_lt _ (by decide)⟩
  | 3, _ => rw [s3]; exact ⟨Int.natCast_nonneg _, gg _ _⟩
  | 4, _ => rw [s4]; exact ⟨Int.natCast_nonneg _, Nat.mod_lt _ (by decide)⟩
  | 5, _ => rw [s5]; exact ⟨Int.natCast_nonneg _, Nat.mod_lt _ (by decide)⟩
  | 6, _ => rw [s6]; exact ⟨Int.natCast_nonneg _, gg _ _⟩
  | 7, _ => rw [s7]; exact ⟨Int.natCast_nonneg _, Nat.mod_lt _ (by decide)⟩
  | 8, _ => rw [s8]; exact ⟨Int.natCast_nonneg _, Nat.mod_lt _ (by decide)⟩
  | 9, _ => rw [s9]; exact ⟨Int.natCast_nonneg _, gg _ _⟩
end
section
noncomputable def sc133P : { s : Scope // s = defScope (PB.getD 36 default) } := by
  refine ⟨?s, ?h⟩
  case h => (conv => rhs; whnf)
noncomputable def sc133 : Scope := sc133P.1
noncomputable def ev133 (L cS cT cB cR cU : Addr) : Env := { scope := sc133, locals := L, globals := mainGlobals, cells := [(Str.ofString "turns", cU), (Str.ofString "ring", cR), (Str.ofString "beside", cB), (Str.ofString "twice", cT), (Str.ofString "size", cS)], qual := Str.ofString "law" ++ ".<locals>.", func := some 133, code := .ref 132, frame := some L, builtins := builtinsNs }
theorem c_law_in {w : World} {A : Around} {b h : Heap} {g : Array GenState} {d : Drawn} {t : Nat} {os : OsState} {l : Addr} {R : Result → Shared → Prop} {T0 : List (Addr × Obj)} (G : Gr w b) (O : Own b T0 h) (hA : A.depth + 100 < recursionLimit)
    (q : ∀ L cS cT cB cR cU h' t', L ≠ 0 → St b L (fun x => if x = Str.ofString "script" then some (.ref l) else none) ([(cS, cellO none), (cT, cellO none), (cB, cellO none), (cR, cellO none), (cU, cellO none)] ++ T0) h' →
      wpAny (model PG w) (A.deeper (ev133 L cS cT cB cR cU)) (execs (defBody (PB.getD 36 default)) (ev133 L cS cT cB cR cU)) (fun fl s' => R (.ok (.ret (match fl with | .ret v => v | _ => .none))) s')
        (fun e s' => wpAny (model PG w) (A.deeper (ev133 L cS cT cB cR cU)) (leaving (ev133 L cS cT cB cR cU) e) (fun _ s'' => R (.error e) s'') (fun e' s'' => R (.error e') s'') s') ⟨h', g, d, t', os⟩) :
    codeAny (model PG w) A (.call (.ref 133) ⟨[.ref l], []⟩) R ⟨h, g, d, t, os⟩ := by
  have G1 := G.keeps O.keep
  refine' codeAny_call_function (by omega) (G1.get ?m) ?m1 ?m2 ?m3 ?m4 ?cr ?_
  case m => exact rfl
  case m1 => exact rfl
  case m2 => exact rfl
  case m3 => exact rfl
  case m4 => exact rfl
  case cr => exact codeRec_of G1.k rfl
  repeat (walk_at "ro")
  rename_i L h1 R1 cS h2 R2 cT h3 R3 cB h4 R4 cR h5 R5 cU h6 R6 t7 h7 R7
  have R8 : Own b ((L, _) :: ([(cS, cellO none), (cT, cellO none), (cB, cellO none), (cR, cellO none), (cU, cellO none)] ++ T0)) h7 := R7.perm ((List.reverse_perm [(cU, cellO none), (cR, cellO none), (cB, cellO none), (cT, cellO none), (cS, cellO none), (L, _)]).symm.append_right T0)
  refine ⟨(G.keeps R7.keep).noLimit, codeAny_func ?_⟩
  refine q L cS cT cB cR cU h7 _ (G.ne0 (R8.new _ (List.mem_cons_self ..))) (St.ofOwn2 R8 ⟨#[⟨_, .str (Str.ofString "script") t, .ref l⟩], _, rfl, ?_, ?_⟩)
  · intro e he
    obtain rfl : e = _ := by simpa using he
    exact ⟨_, _, rfl⟩
  · intro n
    unfold nsFind findBy
    simp only [Value.isStr, List.find?_toArray, List.find?_cons, List.find?_nil]
    by_cases e : n = Str.ofString "script"
    · subst e; simp
    · have : (Str.ofString "script" == n) = false := by rw [beq_eq_false_iff_ne]; exact fun q => e q.symm
      simp [this, e]
end
section
theorem St.perm {b h : Heap} {L : Addr} {m : Str → Option Value} {T T' : List (Addr × Obj)} (S : St b L m T h) (p : T.Perm T') : St b L m T' h :=
  ⟨S.own.perm p, S.fr.imp id fun ⟨n, nl, off⟩ => ⟨n, nl, fun hm => off ((p.map (·.1)).mem_iff.mpr hm)⟩⟩
section
variable {w : World} {A : Around} {E : Value → Shared → Prop} {s : Shared} {env : Env} {Q : Value → Shared → Prop} {elt iter : Expr} {x : Str} {px : Pos} {scope : Scope} {pos : Pos} {cl : List (Str × Addr)}
theorem comp_list (hh : A.handled = none) (hclos : closureFor scope env = pure cl) (hcell : ∀ y ∈ scope.names, y.2 ≠ .cell) (hkind : scope.kind = .function)
    (hnames : ∀ y ∈ scope.names, y.2 = .local → scope.names.lookup y.1 = some .local) (hs : ∀ x, foldedSetIterable iter env x = pure x) (hloc : ∀ C, (compEnvC scope cl C env).locals = C) (hk : ∀ C, (compEnvC scope cl C env).scope.kind = .function) (hx : ∀ C, (compEnvC scope cl C env).kindOf x = some .local)
    (q : wpAny (model PG w) A (eval iter env) (fun xv s₁ => ∃ (b : Heap) (L : Addr) (m : Str → Option Value) (T : List (Addr × Obj)) (h₁ : Heap) (g : Array GenState) (d : Drawn) (t : Nat) (os : OsState) (l : Addr) (src : List Value) (n : Nat) (Inv : Nat → List Value → List (Addr × Obj) → Prop),
      s₁ = ⟨h₁, g, d, t, os⟩ ∧ xv = .ref l ∧ L ≠ 0 ∧ St b L m T h₁ ∧ (l, lst src.toArray n) ∈ T ∧ src.length ≤ 100000 ∧ Inv 0 [] [] ∧
      (∀ D C oL it, C ≠ 0 → NsO oL m → ∀ i v vs X nn mC oi h t, src[i]? = some v → vs.length = i → Inv i vs X → mC x = some v → St b C mC ((it, oi) :: (D, lst vs.toArray nn) :: (X ++ (L, oL) :: T)) h →
        wpAny (model PG w) A (eval elt (compEnvC scope cl C env)) (fun y s' => ∃ X' h' t', s' = ⟨h', g, d, t', os⟩ ∧ Inv (i + 1) (vs ++ [y]) X' ∧ St b C mC ((it, oi) :: (D, lst vs.toArray nn) :: (X' ++ (L, oL) :: T)) h')
          (notedBy (model PG w) A (compEnvC scope cl C env) fun e s' => compPost (model PG w) A E none Q (.ref D) C (.error e) s') ⟨h, g, d, t, os⟩) ∧
      (∀ D us X nn h' t', us.length = src.length → Inv src.length us X → St b L m ((D, lst us.toArray nn) :: (X ++ T)) h' → Q (.ref D) ⟨h', g, d, t', os⟩)) E s) :
    wpAny (model PG w) A (eval (.ListComp elt [⟨.Name x px, iter, [], 0⟩] scope pos) env) Q E s := by
  refine lc_open hclos hcell hkind hnames hs (wpAny_mono q (fun xv s₁ h₁ => ?_) fun _ _ e => e)
  obtain ⟨b, L, m, T, h₁, g, d, t, os, l, src, n, Inv, rfl, rfl, hL, S, hm, hn, hI0, helt, hend⟩ := h₁
  refine wpAny_pyIter_list (s := ⟨h₁, g, d, t, os⟩) ⟨_, S.get hm, rfl, _, rfl⟩ ?_
  have S1 := S.push { cls := .type "list_iterator", data := .fields #[.ref l, .int (0 : Nat) 0] } rfl
  refine ⟨b, L, m, _, _, _, g, d, _, os, rfl, rfl, hL, S1, fun D C oL h₃ hC ho S3 => ⟨?_, ?_⟩⟩
  · exact li_self S3 (i := 0) (List.mem_cons_of_mem _ (List.mem_cons_of_mem _ (List.mem_cons_self ..))) rfl rfl
  refine lc_list (T0 := (L, oL) :: T) Inv hh hC (hloc C) (hk C) (hx C) hn (fun mC X h S => ⟨_, S.get (List.mem_append_right _ (List.mem_cons_of_mem _ hm)), rfl, _, rfl⟩) (fun i v vs X nn mC oi h t => helt D C oL _ hC ho i v vs X nn mC oi h t) ?_ src.length 0 (by omega) [] [] 0 _ { cls := .type "list_iterator", data := .fields #[.ref l, .int (0 : Nat) 0] } _ _ rfl hI0 rfl rfl (S3.perm ?_)
  · intro vs X nn mC h t hv hI S4
    have S5 : St b C mC ((L, oL) :: (D, lst vs.toArray nn) :: (X ++ T)) h := S4.perm (by
      refine List.Perm.trans ?_ (List.Perm.swap _ _ _)
      exact List.Perm.cons _ List.perm_middle)
    exact lc_fin (vs := #[]) (n := 0) S5 hC ho fun h' S6 => hend D vs X nn h' t hv hI S6
  · refine List.Perm.trans (List.Perm.cons _ (List.Perm.swap _ _ _)) ?_
    exact List.Perm.swap _ _ _
theorem comp_range (hh : A.handled = none) (hclos : closureFor scope env = pure cl) (hcell : ∀ y ∈ scope.names, y.2 ≠ .cell) (hkind : scope.kind = .function)
    (hnames : ∀ y ∈ scope.names, y.2 = .local → scope.names.lookup y.1 = some .local) (hs : ∀ x, foldedSetIterable iter env x = pure x) (hloc : ∀ C, (compEnvC scope cl C env).locals = C) (hk : ∀ C, (compEnvC scope cl C env).scope.kind = .function) (hx : ∀ C, (compEnvC scope cl C env).kindOf x = some .local)
    (q : wpAny (model PG w) A (eval iter env) (fun xv s₁ => ∃ (b : Heap) (L : Addr) (m : Str → Option Value) (T : List (Addr × Obj)) (h₁ : Heap) (g : Array GenState) (d : Drawn) (t : Nat) (os : OsState) (r : Addr) (n : Nat) (ta tb tc : Tok) (Inv : Nat → List Value → List (Addr × Obj) → Prop),
      s₁ = ⟨h₁, g, d, t, os⟩ ∧ xv = .ref r ∧ L ≠ 0 ∧ St b L m T h₁ ∧ (r, rangeO 0 n 1 ta tb tc) ∈ T ∧ n ≤ 100000 ∧ Inv 0 [] [] ∧
      (∀ D C oL it, C ≠ 0 → NsO oL m → ∀ i vs X nn mC tk oi h t, i < n → vs.length = i → Inv i vs X → mC x = some (.int i tk) → St b C mC ((it, oi) :: (D, lst vs.toArray nn) :: (X ++ (L, oL) :: T)) h →
        wpAny (model PG w) A (eval elt (compEnvC scope cl C env)) (fun y s' => ∃ X' h' t', s' = ⟨h', g, d, t', os⟩ ∧ Inv (i + 1) (vs ++ [y]) X' ∧ St b C mC ((it, oi) :: (D, lst vs.toArray nn) :: (X' ++ (L, oL) :: T)) h')
          (notedBy (model PG w) A (compEnvC scope cl C env) fun e s' => compPost (model PG w) A E none Q (.ref D) C (.error e) s') ⟨h, g, d, t, os⟩) ∧
      (∀ D us X nn h' t', us.length = n → Inv n us X → St b L m ((D, lst us.toArray nn) :: (X ++ T)) h' → Q (.ref D) ⟨h', g, d, t', os⟩)) E s) :
    wpAny (model PG w) A (eval (.ListComp elt [⟨.Name x px, iter, [], 0⟩] scope pos) env) Q E s := by
  refine lc_open hclos hcell hkind hnames hs (wpAny_mono q (fun xv s₁ h₁ => ?_) fun _ _ e => e)
  obtain ⟨b, L, m, T, h₁, g, d, t, os, r, n, ta, tb, tc, Inv, rfl, rfl, hL, S, hm, hn, hI0, helt, hend⟩ := h₁
  refine r_iter S hm (by omega) (by omega) fun it h₂ S1 => ?_
  refine ⟨b, L, m, _, _, _, g, d, _, os, rfl, rfl, hL, S1, fun D C oL h₃ hC ho S3 => ⟨?_, ?_⟩⟩
  · exact ri_self S3 (List.mem_cons_of_mem _ (List.mem_cons_of_mem _ (List.mem_cons_self ..)))
  have e0 : (((n : Int) - 0).toNat : Int) = (n : Int) - ((0 : Nat) : Int) := by omega
  rw [e0] at S3
  refine lc_range (a := 0) (n := n) (T0 := (L, oL) :: T) Inv hh hC (hloc C) (hk C) (hx C) hn (fun i vs X nn mC tk h t hi hv hI hm' S' => helt D C oL it hC ho i vs X nn mC tk _ h t hi hv hI (by rw [hm']; congr 2; omega) S') ?_ n 0 (by omega) [] [] 0 _ _ _ rfl hI0 (S3.perm ?_)
  · intro vs X nn mC h t hv hI S4
    have S5 : St b C mC ((L, oL) :: (D, lst vs.toArray nn) :: (X ++ T)) h := S4.perm (by
      refine List.Perm.trans ?_ (List.Perm.swap _ _ _)
      exact List.Perm.cons _ List.perm_middle)
    exact lc_fin (vs := #[]) (n := 0) S5 hC ho fun h' S6 => hend D vs X nn h' t hv hI S6
  · refine List.Perm.trans (List.Perm.cons _ (List.Perm.swap _ _ _)) ?_
    exact List.Perm.swap _ _ _
end
end
section
theorem f_sum {w : World} {A : Around} {E : Value → Shared → Prop} {s : Shared} {l : Addr} {vs : List Value} {ns : List Int} {Q : Value → Shared → Prop} (hh : A.handled = none) (hl : s.heap.IsList l vs.toArray) (hi : IntsAre vs ns)
    (q : ∀ h' (t : Tok) tk, Kp s.heap h' → Q (.int ns.sum t) { s with heap := h', toks := tk }) :
    wpAny (model PG w) A (call (.builtin "sum") [.ref l]) Q E s := by
  obtain ⟨xs, hx⟩ := hi.allInts.items
  have hn : numsOf vs.toArray.toList = ns := by rw [show vs.toArray.toList = vs from rfl, hi.numsOf]
  rw [hx] at hl hn
  rw [nums_intItems] at hn
  refine sum_intListG hh hl fun h' tk t' hk => ?_
  have := q h' t' tk hk
  rw [preSum_eq, List.take_of_length_le (by simp), hn]
  exact this
theorem l_sliceI {w : World} {A : Around} {E : Value → Shared → Prop} {b h : Heap} {g : Array GenState} {d : Drawn} {t : Nat} {os : OsState} {L : Addr} {m : Str → Option Value} {T : List (Addr × Obj)} {Q : Value → Shared → Prop} {value slice : Expr} {lp : Addr} {vs : Array Value} {a : Addr} {vl vu : Value} {l u : Option Int} (S : St b L m T h) (hl : h.IsList lp vs) (hm : (a, sliceO vl vu) ∈ T) (pl : IsPart vl l) (pu : IsPart vu u) (hz : vs.size ≤ 100000)
    (q : ∀ r h', St b L m ((r, lst (slicePick vs l u none) 0) :: T) h' → Q (.ref r) ⟨h', g, d, t, os⟩)
    (hs : subscripted slice false (.ref lp) (.ref a) = operate [.ref a, .ref lp] (getItem (.ref lp) (.ref a)) := by with_unfolding_all rfl) :
    wpAny (model PG w) A (subscriptTail value slice (.ref lp) (.ref a)) Q E ⟨h, g, d, t, os⟩ := by
  have hsz : sizeLine = 16777216 := by decide
  exact tail_any (s := ⟨h, g, d, t, os⟩) (Heap.IsList.typeIs hl) slot_list_getitem.lookup (wpAny_getItem_list_slice (s := ⟨h, g, d, t, os⟩) hl ⟨_, S.get hm, rfl, rfl⟩ pl pu .none (by simp) (q _ _ (S.push _ rfl)) (by omega)) hs
theorem pick_takeM (vs : List Value) (i : Nat) : slicePick vs.toArray none (some (i : Int)) none = (vs.take i).toArray := by
  by_cases h : i ≤ vs.length
  · exact pick_take vs i h
  · have e : vs.take i = vs := List.take_of_length_le (by omega)
    rw [e, kms_pick_eq]
    unfold kms_pick
    rw [List.toList_toArray, hi_nat, Nat.min_eq_right (by omega)]
    simp [kms_lo]
theorem isList_keep {b h : Heap} {l : Addr} {vs : Array Value} (k : Kp b h) (hl : b.IsList l vs) : h.IsList l vs := by
  obtain ⟨o, h1, h2⟩ := hl
  exact ⟨o, k _ _ h1, h2⟩
noncomputable def lawFrom (k : Nat) : List Stmt := (defBody (PB.getD 36 default)).drop k
noncomputable def baseM (ns : List Int) : List Int := 32768 :: (ns.take 3).map fun x => (32768 + x).fmod 65536
noncomputable def modesM (ns : List Int) : List Int := if ns.sum.fmod 2 = 0 then baseM ns ++ baseM ns else baseM ns
theorem take_mapS (f : Int → Int) : ∀ (l : List Int) (i : Nat), i < l.length → (l.take (i + 1)).map f = (l.take i).map f ++ [f (l.getD i 0)]
  | [], i, h => absurd h (Nat.not_lt_zero _)
  | x :: r, 0, _ => rfl
  | x :: r, i + 1, h => by
    have := take_mapS f r i (Nat.lt_of_succ_lt_succ h)
    show f x :: (r.take (i + 1)).map f = _
    rw [this]; rfl
theorem law_s0 {w : World} {A : Around} {b h : Heap} {g : Array GenState} {d : Drawn} {t : Nat} {os : OsState} {l L cS cT cB cR cU : Addr} {vs : List Value} {ns : List Int} {T0 : List (Addr × Obj)} {m : Str → Option Value} {Q : Flow → Shared → Prop} {E : Value → Shared → Prop} (G : Gr w b) (hh : A.handled = none) (hA : A.depth + 100 < recursionLimit) (hL0 : L ≠ 0)
    (hl : b.IsList l vs.toArray) (hI : IntsAre vs ns) (hn : ns.length ≤ 63) (hm : m (Str.ofString "script") = some (.ref l))
    (S : St b L m T0 h)
    (q : ∀ lm us n h' t' m', m' (Str.ofString "modes") = some (.ref lm) → IntsAre us (modesM ns) → St b L m' ((lm, lst us.toArray n) :: T0) h' →
      wpAny (model PG w) A (execs (lawFrom 2) (ev133 L cS cT cB cR cU)) Q E ⟨h', g, d, t', os⟩) :
    wpAny (model PG w) A (execs (lawFrom 0) (ev133 L cS cT cB cR cU)) Q E ⟨h, g, d, t, os⟩ := by
  conv => arg 3; arg 1; whnf
  repeat (walk_at "ast")
  refine' comp_list ?hh0 ?hlc ?hcell2 ?hk2 ?hn2 ?hs2 ?x1 ?x2 ?x3 ?_
  case hh0 => exact hh
  case hlc => exact rfl
  case hcell2 => decide
  case hk2 => exact rfl
  case hn2 => decide
  case hs2 => intro x; rfl
  case x1 => intro C; rfl
  case x2 => intro C; rfl
  case x3 => intro C; rfl
  repeat (walk_at "ast")
  rename_i t1 a1 h1 S1 t2 a2 h2 S2
  refine l_sliceI (l := none) (u := some ((3 : Nat) : Int)) S2 (isList_keep S2.keep hl) (List.mem_cons_self ..) IsPart.none (IsPart.int _ _) (by rw [List.size_toArray, hI.length]; omega) fun r h3 S3 => ?_
  rw [pick_takeM] at S3
  have hI3 := hI.take 3
  refine ⟨_, _, _, _, _, _, _, _, _, r, vs.take 3, 0, (fun i us X => X = [] ∧ IntsAre us (((ns.take 3).take i).map fun x => (32768 + x).fmod 65536)), rfl, rfl, hL0, S3, List.mem_cons_self .., by rw [List.length_take]; omega, ⟨rfl, .nil⟩, ?_, ?_⟩
  · intro D C oL it hC ho i v us X nn mC oi h t hv hlen hinv hmC S4
    obtain ⟨rfl, hus⟩ := hinv
    have hi : i < (ns.take 3).length := by
      rw [← hI3.length]; exact (List.getElem?_eq_some_iff.mp hv).1
    obtain ⟨tk, e⟩ := ints_item hI3 i hi
    rw [e] at hv
    obtain rfl : v = _ := (Option.some.inj hv).symm
    repeat (walk_at "ast")
    refine ⟨[], _, _, rfl, ⟨rfl, ?_⟩, S4⟩
    rw [take_mapS _ _ _ hi]
    exact hus.append (.cons _ _ .nil)
  · intro D us X nn h4 t4 hlen hinv S4
    obtain ⟨rfl, hus⟩ := hinv
    refine' l_addL S4 (S4.get ?ma1) (S4.get ?mb1) ?zz1 (fun a₁₁ h₁₁ S₁₁ => ?_)
    case ma1 => walk_at "mem"
    case mb1 => walk_at "mem"
    case zz1 => simp only [List.length_cons, List.length_nil]; rw [hlen, List.length_take]; omega
    repeat (walk_at "ast")
    rename_i h5 t5 S5
    have hus' : IntsAre ([Value.int 32768 t] ++ us) (baseM ns) := by
      refine IntsAre.append (.cons _ _ .nil) ?_
      rw [List.take_of_length_le (by rw [hI3.length]; exact Nat.le_refl _)] at hus
      exact hus
    refine f_sum (s := ⟨h5, g, d, t5, os⟩) hh (isList_keep S5.keep hl) hI fun h6 ts t6 k6 => ?_
    have S6 := S5.grown k6
    repeat (walk_at "ast")
    by_cases hs : ns.sum.fmod 2 = 0
    · rw [if_pos (by simpa using hs)]
      have hmm : IntsAre (([Value.int 32768 t] ++ us) ++ ([Value.int 32768 t] ++ us)) (modesM ns) := by
        unfold modesM; rw [if_pos hs]; exact hus'.append hus'
      repeat (walk_at "ast")
      refine' l_addL S6 (S6.get ?ma2) (S6.get ?mb2) ?zz2 (fun a₇ h₇ S₇ => ?_)
      case ma2 => walk_at "mem"
      case mb2 => walk_at "mem"
      case zz2 => simp only [List.length_append, List.length_cons, List.length_nil]; rw [hlen, List.length_take]; omega
      refine n_store S₇ hL0 rfl rfl rfl fun h₈ t₈ S₈ => ?_
      dsimp only
      refine wpAny_execs_nil ?_
      dsimp only
      exact q _ _ _ _ _ _ rfl hmm (S₈.sub (.cons₂ _ (.cons _ (.cons _ (.cons _ (.cons _ (.cons _ (.refl _))))))))
    · rw [if_neg (by simpa using hs)]
      have hmm : IntsAre ([Value.int 32768 t] ++ us) (modesM ns) := by
        unfold modesM; rw [if_neg hs]; exact hus'
      refine wpAny_execs_nil ?_
      dsimp only
      exact q _ _ _ _ _ _ rfl hmm (S6.sub (.cons₂ _ (.cons _ (.cons _ (.cons _ (.cons _ (.refl _)))))))
end
section
noncomputable def ringM (ms : List Int) : List (List Int) := ms.map rk
structure ModesOk (ms : List Int) : Prop where
  pos : 0 < ms.length
  le : ms.length ≤ 8
  rng : ∀ (i : Nat) (v : Int), ms[i]? = some v → 0 ≤ v ∧ v < 65536
theorem ModesOk.signs {ms : List Int} (k : ModesOk ms) : ms.map fmS = (ringM ms).map txtS := by
  unfold ringM
  rw [List.map_map]
  refine List.map_congr_left fun v hv => ?_
  obtain ⟨i, hi⟩ := List.mem_iff_getElem?.mp hv
  obtain ⟨h0, h1⟩ := k.rng i v hi
  obtain ⟨n, rfl⟩ := Int.eq_ofNat_of_zero_le h0
  exact fm_txt n (by omega)
theorem modes_ok (ns : List Int) : ModesOk (modesM ns) := by
  have hb : 0 < (baseM ns).length ∧ (baseM ns).length ≤ 4 := by
    unfold baseM
    simp only [List.length_cons, List.length_map, List.length_take]
    omega
  have hv : ∀ v ∈ baseM ns, 0 ≤ v ∧ v < 65536 := by
    intro v hv
    unfold baseM at hv
    rcases List.mem_cons.mp hv with rfl | hv
    · omega
    obtain ⟨x, _, rfl⟩ := List.mem_map.mp hv
    exact ⟨Int.fmod_nonneg_of_pos _ (by omega), Int.fmod_lt_of_pos _ (by omega)⟩
  unfold modesM
  split
  · refine ⟨by rw [List.length_append]; omega, by rw [List.length_append]; omega, fun i v h => hv v ?_⟩
    rcases List.mem_append.mp (List.mem_of_getElem? h) with h | h <;> exact h
  · exact ⟨hb.1, by omega, fun i v h => hv v (List.mem_of_getElem? h)⟩
theorem fm_len {ms : List Int} (k : ModesOk ms) {v : Int} (hv : v ∈ ms) : (fmS v).length = 10 := by
  obtain ⟨i, hi⟩ := List.mem_iff_getElem?.mp hv
  obtain ⟨h0, h1⟩ := k.rng i v hi
  obtain ⟨n, rfl⟩ := Int.eq_ofNat_of_zero_le h0
  rw [fm_txt n (by omega), txt_tx, tx_len]
theorem take_mapF {β : Type} (f : Int → β) : ∀ (l : List Int) (i : Nat), i < l.length → (l.take (i + 1)).map f = (l.take i).map f ++ [f (l.getD i 0)]
  | [], i, h => absurd h (Nat.not_lt_zero _)
  | x :: r, 0, _ => rfl
  | x :: r, i + 1, h => by
    have := take_mapF f r i (Nat.lt_of_succ_lt_succ h)
    show f x :: (r.take (i + 1)).map f = _
    rw [this]; rfl
theorem law_s2 {w : World} {A : Around} {b h : Heap} {g : Array GenState} {d : Drawn} {t : Nat} {os : OsState} {L cS cT cB cR cU lm : Addr} {us : List Value} {n : Nat} {ms : List Int} {T1 : List (Addr × Obj)} {m : Str → Option Value} {Q : Flow → Shared → Prop} {E : Value → Shared → Prop} (G : Gr w b) (hh : A.handled = none) (hA : A.depth + 100 < recursionLimit) (hL0 : L ≠ 0)
    (hok : ModesOk ms) (hI : IntsAre us ms) (hm : m (Str.ofString "modes") = some (.ref lm))
    (S : St b L m ((lm, lst us.toArray n) :: (cS, cellO none) :: (cT, cellO none) :: T1) h)
    (q : ∀ h' t' m' tk ts tt, m' (Str.ofString "modes") = some (.ref lm) → m' (Str.ofString "signs") = some (.str (tx (sg (ringM ms)) (10 * ms.length)) tk) →
      St b L m' ((lm, lst us.toArray n) :: (cS, cellO (some (.int ((10 * ms.length : Nat) : Int) ts))) :: (cT, cellO (some (.str (tx (sg (ringM ms)) (10 * ms.length + 10 * ms.length)) tt))) :: T1) h' →
      wpAny (model PG w) A (execs (lawFrom 5) (ev133 L cS cT cB cR cU)) Q E ⟨h', g, d, t', os⟩) :
    wpAny (model PG w) A (execs (lawFrom 2) (ev133 L cS cT cB cR cU)) Q E ⟨h, g, d, t, os⟩ := by
  conv => arg 3; arg 1; whnf
  repeat (walk_at "ast")
  refine' comp_list ?hh0 ?hlc ?hcell2 ?hk2 ?hn2 ?hs2 ?x1 ?x2 ?x3 ?_
  case hh0 => exact hh
  case hlc => exact rfl
  case hcell2 => decide
  case hk2 => exact rfl
  case hn2 => decide
  case hs2 => intro x; rfl
  case x1 => intro C; rfl
  case x2 => intro C; rfl
  case x3 => intro C; rfl
  repeat (walk_at "ast")
  refine ⟨_, _, _, _, _, _, _, _, _, lm, us, n, (fun i us X => X = [] ∧ ∃ l : List (Str × Tok), us = strValues l ∧ l.map (·.1) = (ms.take i).map fmS), rfl, rfl, hL0, S, List.mem_cons_self .., by rw [hI.length]; have := hok.le; omega, ⟨rfl, [], rfl, rfl⟩, ?_, ?_⟩
  · intro D C oL it hC ho i v us' X nn mC oi h t hv hlen hinv hmC S4
    obtain ⟨rfl, l', e1, e2⟩ := hinv
    have hi : i < ms.length := by
      rw [← hI.length]; exact (List.getElem?_eq_some_iff.mp hv).1
    obtain ⟨tk, e⟩ := ints_item hI i hi
    rw [e] at hv
    obtain rfl : v = _ := (Option.some.inj hv).symm
    repeat (walk_at "ast")
    have hr := hok.rng i _ (List.getElem?_eq_getElem hi)
    have eg : ms.getD i 0 = ms[i] := by rw [List.getD_eq_getElem?_getD, List.getElem?_eq_getElem hi]; rfl
    refine wpAny_call (c_filemode (G.keeps S4.keep) hh (by omega) fun h5 t5 tk5 k5 => ?_)
    refine ⟨[], _, _, rfl, ⟨rfl, l' ++ [(fmS (ms.getD i 0), tk5)], ?_, ?_⟩, S4.grown k5⟩
    · rw [e1]; unfold strValues; rw [List.map_append]; rfl
    · rw [List.map_append, e2, take_mapF _ _ _ hi]; rfl
  · intro D us' X nn h4 t4 hlen hinv S4
    obtain ⟨rfl, l', e1, e2⟩ := hinv
    have et : ms.take us.length = ms := by rw [hI.length]; exact List.take_length
    rw [et, hok.signs] at e2
    repeat (walk_at "ast")
    have ew := whole_tx (ringM ms)
    have el : (ringM ms).length = ms.length := by unfold ringM; exact List.length_map ..
    rw [el] at ew
    refine SC.join (l := l') (texts := (ringM ms).map txtS) ⟨_, S4.get (List.mem_cons_self ..), rfl, _, by rw [e1]⟩ e2 (join_ok (k := 10) ?_ (by rw [List.length_map, el]; have := hok.le; omega)) fun tk k => ?_
    · intro s hs
      rw [← hok.signs] at hs
      obtain ⟨v, hv, rfl⟩ := List.mem_map.mp hs
      exact fm_len hok hv
    rw [ew]
    repeat (walk_at "ast")
    have hlN : (tx (sg (ringM ms)) (10 * ms.length)).length = 10 * ms.length := tx_len _ _
    have h8 := hok.le
    rename_i h5 t5 S5
    refine s_len (by rw [hlN]; omega) fun t6 ts => ?_
    refine' n_cellSet S5 ?cc1 ?pp1 ?kk1 ?ll1 (fun h₆ S₆ => ?_)
    case cc1 => exact rfl
    case pp1 => walk_at "put"
    case kk1 => exact rfl
    case ll1 => exact rfl
    dsimp only
    repeat (walk_at "ast")
    refine PyProof.Rows.add_str (fun tt t7 => ?_) (by rw [hlN]; have hsz : sizeLine = 16777216 := (by decide); omega)
    refine' n_cellSet S₆ ?cc2 ?pp2 ?kk2 ?ll2 (fun h₇ S₇ => ?_)
    case cc2 => exact rfl
    case pp2 => walk_at "put"
    case kk2 => exact rfl
    case ll2 => exact rfl
    dsimp only
    have etw : tx (sg (ringM ms)) (10 * ms.length) ++ tx (sg (ringM ms)) (10 * ms.length) = tx (sg (ringM ms)) (10 * ms.length + 10 * ms.length) := by
      apply str_ext
      rw [twice_tx (fun i => by have := sg_per (ringM ms) i; rw [el] at this; exact this)]
      exact Array.toList_append ..
    rw [hlN, etw] at S₇
    exact q _ _ _ _ _ _ (by exact hm) (by exact rfl) (S₇.sub (.cons _ (.refl _)))
end
section
theorem RowsIn.snoc {X : List (Addr × Obj)} {us vs : List Value} {rows : List (List Int)} {a : Addr} {k : Nat} {r : List Int} (R : RowsIn X us rows) (hI : IntsAre vs r) : RowsIn ((a, lst vs.toArray k) :: X) (us ++ [.ref a]) (rows ++ [r]) := by
  refine ⟨by simp [R.1], fun j v e => ?_⟩
  by_cases hj : j < us.length
  · rw [List.getElem?_append_left hj] at e
    obtain ⟨a', us', k', e1, m1, i1⟩ := R.2 j v e
    refine ⟨a', us', k', e1, List.mem_cons_of_mem _ m1, ?_⟩
    rw [List.getD_eq_getElem?_getD, List.getElem?_append_left (by rw [← R.1]; exact hj), ← List.getD_eq_getElem?_getD]
    exact i1
  · have hlt : j < (us ++ [Value.ref a]).length := (List.getElem?_eq_some_iff.mp e).1
    have ej : j = us.length := by rw [List.length_append, List.length_singleton] at hlt; omega
    subst ej
    rw [List.getElem?_append_right (Nat.le_refl _), Nat.sub_self] at e
    obtain rfl : v = Value.ref a := by simpa using e.symm
    refine ⟨a, vs, k, rfl, List.mem_cons_self .., ?_⟩
    rw [List.getD_eq_getElem?_getD, R.1, List.getElem?_append_right (Nat.le_refl _), Nat.sub_self]
    exact hI
theorem law_s5 {w : World} {A : Around} {b h : Heap} {g : Array GenState} {d : Drawn} {t : Nat} {os : OsState} {L cS cT cB cR cU lm : Addr} {us : List Value} {n : Nat} {ms : List Int} {T1 : List (Addr × Obj)} {o1 o2 : Obj} {m : Str → Option Value} {Q : Flow → Shared → Prop} {E : Value → Shared → Prop} (G : Gr w b) (hh : A.handled = none) (hA : A.depth + 100 < recursionLimit) (hL0 : L ≠ 0)
    (hok : ModesOk ms) (hI : IntsAre us ms) (hm : m (Str.ofString "modes") = some (.ref lm))
    (S : St b L m ((lm, lst us.toArray n) :: (cR, cellO none) :: T1) h)
    (q : ∀ h' t' lr vs k X, RowsIn X vs (ringM ms) →
      St b L m ((lr, lst vs.toArray k) :: (X ++ (lm, lst us.toArray n) :: (cR, cellO (some (.ref lr))) :: T1)) h' →
      wpAny (model PG w) A (execs (lawFrom 6) (ev133 L cS cT cB cR cU)) Q E ⟨h', g, d, t', os⟩) :
    wpAny (model PG w) A (execs (lawFrom 5) (ev133 L cS cT cB cR cU)) Q E ⟨h, g, d, t, os⟩ := by
  conv => arg 3; arg 1; whnf
  repeat (walk_at "ast")
  refine' comp_list ?hh0 ?hlc ?hcell2 ?hk2 ?hn2 ?hs2 ?x1 ?x2 ?x3 ?_
  case hh0 => exact hh
  case hlc => exact rfl
  case hcell2 => decide
  case hk2 => exact rfl
  case hn2 => decide
  case hs2 => intro x; rfl
  case x1 => intro C; rfl
  case x2 => intro C; rfl
  case x3 => intro C; rfl
  repeat (walk_at "ast")
  refine ⟨_, _, _, _, _, _, _, _, _, lm, us, n, (fun i us X => RowsIn X us ((ms.take i).map rk)), rfl, rfl, hL0, S, List.mem_cons_self .., by rw [hI.length]; have := hok.le; omega, ⟨rfl, fun j v e => by simp at e⟩, ?_, ?_⟩
  · intro D C oL it hC ho i v us' X nn mC oi h t hv hlen hinv hmC S4
    have hi : i < ms.length := by
      rw [← hI.length]; exact (List.getElem?_eq_some_iff.mp hv).1
    obtain ⟨tk, e⟩ := ints_item hI i hi
    rw [e] at hv
    obtain rfl : v = _ := (Option.some.inj hv).symm
    repeat (walk_at "ast")
    have hr := hok.rng i _ (List.getElem?_eq_getElem hi)
    have eg : ms.getD i 0 = ms[i] := by rw [List.getD_eq_getElem?_getD, List.getElem?_eq_getElem hi]; rfl
    refine wpAny_call (c_ranks (G.keeps S4.keep) hh (by omega) (by rw [eg]; exact hr.1) (by rw [eg]; exact hr.2) fun l5 vs5 n5 h5 t5 k5 hn5 hg5 hI5 => ?_)
    refine ⟨(l5, lst vs5.toArray n5) :: X, _, _, rfl, ?_, ((S4.adopt (S4.grown k5) rfl hn5 hg5).perm ((List.Perm.swap _ _ _).trans (.cons _ (.swap _ _ _))))⟩
    dsimp only
    rw [take_mapF _ _ _ hi]
    exact hinv.snoc hI5
  · intro D us' X nn h4 t4 hlen hinv S4
    have et : ms.take us.length = ms := by rw [hI.length]; exact List.take_length
    rw [et] at hinv
    have S5 := S4.perm (T' := (cR, cellO none) :: (D, lst us'.toArray nn) :: (X ++ (lm, lst us.toArray n) :: T1)) (by
      refine List.Perm.trans ?_ (List.Perm.swap _ _ _)
      refine List.Perm.cons _ ?_
      refine List.Perm.trans (List.Perm.append_left X (List.Perm.swap _ _ _)) List.perm_middle)
    refine' n_cellSet S5 ?cc1 ?pp1 ?kk1 ?ll1 (fun h₆ S₆ => ?_)
    case cc1 => exact rfl
    case pp1 => walk_at "put"
    case kk1 => exact rfl
    case ll1 => exact rfl
    dsimp only
    exact q _ _ _ _ _ _ hinv (S₆.perm (by
      refine List.Perm.trans (List.Perm.swap _ _ _) ?_
      refine List.Perm.cons _ ?_
      exact List.Perm.trans List.perm_middle.symm (List.Perm.append_left X (List.Perm.swap _ _ _))))
end
section
theorem ring_ok {ms : List Int} (k : ModesOk ms) : ∀ rs ∈ ringM ms, RkOk rs := by
  intro rs hr
  obtain ⟨v, hv, rfl⟩ := List.mem_map.mp hr
  obtain ⟨i, hi⟩ := List.mem_iff_getElem?.mp hv
  obtain ⟨h0, h1⟩ := k.rng i v hi
  obtain ⟨n, rfl⟩ := Int.eq_ofNat_of_zero_le h0
  exact rk_ok n (by omega)
theorem take_mapL {β : Type} (f : List Int → β) : ∀ (l : List (List Int)) (i : Nat), i < l.length → (l.take (i + 1)).map f = (l.take i).map f ++ [f (l.getD i [])]
  | [], i, h => absurd h (Nat.not_lt_zero _)
  | x :: r, 0, _ => rfl
  | x :: r, i + 1, h => by
    have := take_mapL f r i (Nat.lt_of_succ_lt_succ h)
    show f x :: (r.take (i + 1)).map f = _
    rw [this]; rfl
theorem law_s6 {w : World} {A : Around} {b h : Heap} {g : Array GenState} {d : Drawn} {t : Nat} {os : OsState} {L cS cT cB cR cU lr : Addr} {vs : List Value} {k : Nat} {rows : List (List Int)} {T1 : List (Addr × Obj)} {m : Str → Option Value} {Q : Flow → Shared → Prop} {E : Value → Shared → Prop} (G : Gr w b) (hh : A.handled = none) (hA : A.depth + 100 < recursionLimit) (hL0 : L ≠ 0)
    (hR : RowsIn T1 vs rows) (hok : ∀ rs ∈ rows, RkOk rs) (hn : rows.length ≤ 8) (hcR : (cR, cellO (some (.ref lr))) ∈ T1)
    (S : St b L m ((lr, lst vs.toArray k) :: T1) h)
    (q : ∀ h' t' tk, St b L (fun y => if y = Str.ofString "whole" then some (.str (tx (sg rows) (10 * rows.length)) tk) else m y) ((lr, lst vs.toArray k) :: T1) h' →
      wpAny (model PG w) A (execs (lawFrom 7) (ev133 L cS cT cB cR cU)) Q E ⟨h', g, d, t', os⟩) :
    wpAny (model PG w) A (execs (lawFrom 6) (ev133 L cS cT cB cR cU)) Q E ⟨h, g, d, t, os⟩ := by
  conv => arg 3; arg 1; whnf
  repeat (walk_at "ast")
  refine' comp_list ?hh0 ?hlc ?hcell2 ?hk2 ?hn2 ?hs2 ?x1 ?x2 ?x3 ?_
  case hh0 => exact hh
  case hlc => exact rfl
  case hcell2 => decide
  case hk2 => exact rfl
  case hn2 => decide
  case hs2 => intro x; rfl
  case x1 => intro C; rfl
  case x2 => intro C; rfl
  case x3 => intro C; rfl
  repeat (walk_at "ast")
  refine ⟨_, _, _, _, _, _, _, _, _, lr, vs, k, (fun i us X => X = [] ∧ ∃ l : List (Str × Tok), us = strValues l ∧ l.map (·.1) = (rows.take i).map txtS), rfl, rfl, hL0, S, List.mem_cons_self .., by rw [hR.1]; omega, ⟨rfl, [], rfl, rfl⟩, ?_, ?_⟩
  · intro D C oL it hC ho i v us' X nn mC oi h t hv hlen hinv hmC S4
    obtain ⟨rfl, l', e1, e2⟩ := hinv
    have hi : i < rows.length := by
      rw [← hR.1]; exact (List.getElem?_eq_some_iff.mp hv).1
    obtain ⟨a, us, ka, rfl, ha, hia⟩ := hR.2 i v hv
    repeat (walk_at "ast")
    have eg : rows.getD i [] ∈ rows := by rw [List.getD_eq_getElem?_getD, List.getElem?_eq_getElem hi]; exact List.getElem_mem hi
    refine wpAny_call (c_text (G.keeps S4.keep) hh (by omega) (S4.get (by walk_at "mem")) hia (hok _ eg) fun h5 t5 tk5 k5 => ?_)
    refine ⟨[], _, _, rfl, ⟨rfl, l' ++ [(txtS (rows.getD i []), tk5)], ?_, ?_⟩, S4.grown k5⟩
    · rw [e1]; unfold strValues; rw [List.map_append]; rfl
    · rw [List.map_append, e2, take_mapL _ _ _ hi]; rfl
  · intro D us' X nn h4 t4 hlen hinv S4
    obtain ⟨rfl, l', e1, e2⟩ := hinv
    have et : rows.take vs.length = rows := by rw [hR.1]; exact List.take_length
    rw [et] at e2
    repeat (walk_at "ast")
    have ew := whole_tx rows
    refine SC.join (l := l') (texts := rows.map txtS) ⟨_, S4.get (List.mem_cons_self ..), rfl, _, by rw [e1]⟩ e2 (join_ok (k := 10) ?_ (by rw [List.length_map]; omega)) fun tk k => ?_
    · intro s hs
      obtain ⟨v, hv, rfl⟩ := List.mem_map.mp hs
      rw [txt_tx, tx_len]
    rw [ew]
    refine n_store (S4.sub (.cons _ (.refl _))) hL0 rfl rfl rfl fun h6 t6 S6 => ?_
    dsimp only
    exact q _ _ _ S6
end
section
theorem slice_list (x : Str) {a b : Nat} (hab : a ≤ b) (hb : b ≤ x.length) : (Txt.slice x (some (a : Int)) (some (b : Int))).cps.toList = (x.cps.toList.drop a).take (b - a) := by
  have hp := StrLaws.sliced_plain x hab hb
  unfold Txt.slice
  split
  · rename_i h
    rw [StrLaws.strSliceIndices_plain hab hb, List.length_map, List.length_range] at h
    have h2 : b - a = x.length := by simpa using h
    have e1 : a = 0 := by omega
    have e2 : x.cps.toList.length = x.length := Array.length_toList
    subst e1
    rw [List.drop_zero, List.take_of_length_le (by omega)]
  · exact hp
theorem slice_to (x : Str) (l : Option Int) : Txt.slice x l none = Txt.slice x l (some (x.length : Int)) := by
  have : Builtin.Str.strSliceIndices l none 1 x.length = Builtin.Str.strSliceIndices l (some (x.length : Int)) 1 x.length := by
    unfold Builtin.Str.strSliceIndices
    have h1 : ¬ ((x.length : Int) < 0) := by omega
    simp only [h1, if_false, show ((1 : Int) > 0) = True from by simp, if_true]
    rw [show max (0 : Int) (min (x.length : Int) (x.length : Int)) = x.length from by omega]
  unfold Txt.slice
  rw [this]
theorem slice_from (x : Str) (u : Option Int) : Txt.slice x none u = Txt.slice x (some ((0 : Nat) : Int)) u := by
  have : Builtin.Str.strSliceIndices none u 1 x.length = Builtin.Str.strSliceIndices (some ((0 : Nat) : Int)) u 1 x.length := by
    unfold Builtin.Str.strSliceIndices
    simp only [show ¬ (((0 : Nat) : Int) < 0) from by omega, if_false, show ((1 : Int) > 0) = True from by simp, if_true]
    rw [show max (0 : Int) (min ((0 : Nat) : Int) (x.length : Int)) = 0 from by omega]
  unfold Txt.slice
  rw [this]
theorem turn_list (f : Nat → Nat) (N k : Nat) : (((List.range (N + N)).map f).drop k).take N = (List.range (min N (N + N - k))).map fun x => f (k + x) := by
  apply List.ext_getElem
  · simp
  · intro i h1 h2
    simp
theorem turn_slice {f : Nat → Nat} {N k : Nat} (hk : k ≤ N) : Txt.slice (tx f (N + N)) (some (k : Int)) (some ((k : Int) + (N : Int))) = turnT f N k := by
  apply str_ext
  rw [show ((k : Int) + (N : Int)) = ((k + N : Nat) : Int) from by omega, slice_list _ (by omega) (by rw [tx_len]; omega), tx_list, Nat.add_sub_cancel_left, turn_list, Nat.min_eq_left (by omega)]
  rfl
theorem whole_turn {f : Nat → Nat} {N k : Nat} (hp : ∀ i, f (i + N) = f i) (hk : k ≤ N) : Txt.slice (tx f N) (some (k : Int)) none ++ Txt.slice (tx f N) none (some (k : Int)) = turnT f N k := by
  apply str_ext
  have ha : ∀ x y : Str, (x ++ y).cps.toList = x.cps.toList ++ y.cps.toList := fun x y => Array.toList_append ..
  rw [ha, slice_to, slice_from, slice_list _ (by rw [tx_len]; exact hk) (Nat.le_refl _), slice_list _ (Nat.zero_le _) (by rw [tx_len]; exact hk), tx_list, tx_len]
  unfold turnT
  rw [tx_list]
  apply List.ext_getElem
  · simp; omega
  · intro i h1 h2
    rw [List.getElem_append]
    split
    · simp
    · rename_i hlt
      simp at hlt h2 ⊢
      rw [← hp (i - (N - k))]
      congr 1
      omega
noncomputable abbrev Plain (c : Nat) : Prop := 32 ≤ c ∧ c ≤ 126 ∧ c ≠ 39 ∧ c ≠ 92
theorem plain_char : ∀ c, c < 128 → Plain c → Builtin.Str.reprChar 39 c = [c] := by decide +kernel
theorem repr_fold' : ∀ (l : List Nat) (acc : Array Nat), (∀ c ∈ l, Plain c) → l.foldl (fun out c => out ++ (Builtin.Str.reprChar 39 c).toArray) acc = acc ++ l.toArray
  | [], acc, _ => by simp
  | c :: r, acc, h => by
    rw [List.foldl_cons, plain_char c (by have := (h c (List.mem_cons_self ..)).2.1; omega) (h c (List.mem_cons_self ..)), repr_fold' r _ fun c hc => h c (List.mem_cons_of_mem _ hc)]
    simp
theorem repr_plain (s : Str) (h : ∀ c ∈ s.cps.toList, Plain c) : reprText s = Str.ofString "'" ++ s ++ Str.ofString "'" := by
  have hq : reprQuote s = 39 := by
    unfold reprQuote
    rw [if_neg]
    intro q
    simp only [Bool.and_eq_true, Array.contains_iff_mem] at q
    exact (h 39 (Array.mem_toList_iff.mpr q.1)).2.2.1 rfl
  apply str_ext
  unfold reprText
  rw [hq, ← Array.foldl_toList, repr_fold' _ _ h]
  have e : (Str.ofString "'").cps = #[39] := by decide +kernel
  show ((#[39] ++ s.cps.toList.toArray).push 39).toList = ((Str.ofString "'").cps ++ s.cps ++ (Str.ofString "'").cps).toList
  rw [e]
  simp
end
section
theorem sign_plain : ∀ (c : Fin 10) (r : Fin 8), r.1 < (alph.getD c.1 Str.empty).cps.size → Plain ((alph.getD c.1 Str.empty).cps.getD r.1 0) := by decide +kernel
theorem sign_size : ∀ c : Fin 10, (alph.getD c.1 Str.empty).cps.size ≤ 8 := by decide +kernel
theorem sg_plain {ring : List (List Int)} (h0 : 0 < ring.length) (hok : ∀ rs ∈ ring, RkOk rs) (i : Nat) : Plain (sg ring i) := by
  unfold sg colSign
  have hj : i / 10 % ring.length < ring.length := Nat.mod_lt _ h0
  have hm : ring.getD (i / 10 % ring.length) [] ∈ ring := by
    rw [List.getD_eq_getElem?_getD, List.getElem?_eq_getElem hj]; exact List.getElem_mem hj
  have hc : i % 10 < 10 := Nat.mod_lt _ (by omega)
  obtain ⟨_, h2⟩ := (hok _ hm).2 (i % 10) hc
  have h8 := sign_size ⟨i % 10, hc⟩
  dsimp only at h8
  exact sign_plain ⟨i % 10, hc⟩ ⟨_, Nat.lt_of_lt_of_le h2 h8⟩ h2
theorem turn_plain {ring : List (List Int)} (h0 : 0 < ring.length) (hok : ∀ rs ∈ ring, RkOk rs) (N k : Nat) : ∀ c ∈ (turnT (sg ring) N k).cps.toList, Plain c := by
  intro c hc
  unfold turnT at hc
  rw [tx_list] at hc
  obtain ⟨i, _, rfl⟩ := List.mem_map.mp hc
  exact sg_plain h0 hok _
theorem s_assoc (x y z : Str) : x ++ y ++ z = x ++ (y ++ z) := by
  apply str_ext
  show (x.cps ++ y.cps ++ z.cps).toList = (x.cps ++ (y.cps ++ z.cps)).toList
  simp
theorem not_found {ring : List (List Int)} {N k : Nat} (h0 : 0 < ring.length) (hok : ∀ rs ∈ ring, RkOk rs) (hN : N = 10 * ring.length) (hk : k ≤ N) : notFound (turnT (sg ring) N k) = dueTxt (tx (sg ring) N) k := by
  unfold notFound dueTxt
  rw [repr_plain _ (turn_plain h0 hok N k), s_assoc (Str.ofString "Expected '"), whole_turn (by rw [hN]; exact sg_per ring) hk]
  have e1 : Str.ofString "Expected '" = Str.ofString "Expected " ++ Str.ofString "'" := by decide +kernel
  have e2 : Str.ofString "' (at end of document)" = Str.ofString "'" ++ Str.ofString " (at end of document)" := by decide +kernel
  rw [e1, e2]
  simp only [s_assoc]
theorem repr_len {ring : List (List Int)} {N k : Nat} (h0 : 0 < ring.length) (hok : ∀ rs ∈ ring, RkOk rs) (hN : N ≤ 80) : (reprText (turnT (sg ring) N k)).length ≤ 500 := by
  rw [repr_plain _ (turn_plain h0 hok N k)]
  have e : (Str.ofString "'").length = 1 := by decide +kernel
  have hl : ∀ x y : Str, (x ++ y).length = x.length + y.length := fun x y => Array.size_append ..
  rw [hl, hl, e]
  unfold turnT
  rw [tx_len]; omega
theorem least_uniq {f : Nat → Nat} {N p p' : Nat} (L : Least f N p) (L' : Least f N p') : p = p' := by
  have h1 := L.dvd p' L'.pos L'.per
  have h2 := L'.dvd p L.pos L.per
  exact Nat.dvd_antisymm (Nat.dvd_of_mod_eq_zero h1) (Nat.dvd_of_mod_eq_zero h2)
theorem least_ex (P : Nat → Prop) : ∀ n, P n → ∃ m, P m ∧ ∀ k, P k → m ≤ k := by
  intro n
  induction n using Nat.strongRecOn with
  | _ n ih =>
    intro hn
    by_cases h : ∃ k, k < n ∧ P k
    · obtain ⟨k, h1, h2⟩ := h
      exact ih k h1 h2
    · exact ⟨n, hn, fun k hk => Nat.le_of_not_lt fun q => h ⟨k, q, hk⟩⟩
theorem due_ex {ring : List (List Int)} (h0 : 0 < ring.length) : ∃ p, DueLeast ring p := by
  by_cases hz : ring = zeros ring.length
  · exact ⟨1, .inl ⟨hz, rfl⟩⟩
  obtain ⟨t, h, hm⟩ := least_ex (fun t => 1 ≤ t ∧ t ≤ ring.length ∧ rot t ring = ring) ring.length ⟨h0, Nat.le_refl _, by unfold rot; simp⟩
  exact ⟨10 * t, .inr ⟨hz, t, rfl, h.1, h.2.1, h.2.2, fun t h1 h2 h3 => hm t ⟨h1, h2, h3⟩⟩⟩
end
section
theorem pl_str {x : Str} (h : ∀ c ∈ x.cps.toList, c < 1000) : pl (.str x) = true := by
  simp only [pl, PyData.canLay0, PyData.strOk]
  rw [← Array.all_toList, List.all_eq_true]
  intro c hc
  have := h c hc
  exact decide_eq_true (by omega)
theorem chr_app {x y : Str} (hx : ∀ c ∈ x.cps.toList, c < 1000) (hy : ∀ c ∈ y.cps.toList, c < 1000) : ∀ c ∈ (x ++ y).cps.toList, c < 1000 := by
  intro c hc
  have e : (x ++ y).cps.toList = x.cps.toList ++ y.cps.toList := Array.toList_append ..
  rw [e] at hc
  rcases List.mem_append.mp hc with h | h
  · exact hx c h
  · exact hy c h
theorem chr_turn {ring : List (List Int)} (h0 : 0 < ring.length) (hok : ∀ rs ∈ ring, RkOk rs) (N k : Nat) : ∀ c ∈ (turnT (sg ring) N k).cps.toList, c < 1000 := fun c hc => by
  have := (turn_plain h0 hok N k c hc).2.1
  omega
theorem chr_tx {ring : List (List Int)} (h0 : 0 < ring.length) (hok : ∀ rs ∈ ring, RkOk rs) (N : Nat) : ∀ c ∈ (tx (sg ring) N).cps.toList, c < 1000 := by
  have := chr_turn h0 hok N 0
  unfold turnT at this
  simpa using this
theorem chr_due {ring : List (List Int)} {N k : Nat} (h0 : 0 < ring.length) (hok : ∀ rs ∈ ring, RkOk rs) (hN : N = 10 * ring.length) (hk : k ≤ N) : ∀ c ∈ (dueTxt (tx (sg ring) N) k).cps.toList, c < 1000 := by
  unfold dueTxt
  rw [s_assoc (Str.ofString "Expected '"), whole_turn (by rw [hN]; exact sg_per ring) hk]
  exact chr_app (chr_app (by decide +kernel) (chr_turn h0 hok N k)) (by decide +kernel)
theorem plAll_mem : ∀ {xs : List PyData}, (∀ x ∈ xs, pl x = true) → plAll xs = true
  | [], _ => by simp [plAll]
  | x :: xs, h => by
    simp only [plAll, Bool.and_eq_true]
    exact ⟨h x (List.mem_cons_self ..), plAll_mem fun y hy => h y (List.mem_cons_of_mem _ hy)⟩
theorem depthAll_mem {n : Nat} : ∀ {xs : List PyData}, (∀ x ∈ xs, x.depth ≤ n) → PyData.depthAll xs ≤ n
  | [], _ => by simp [PyData.depthAll]
  | x :: xs, h => by
    simp only [PyData.depthAll]
    exact Nat.max_le.mpr ⟨h x (List.mem_cons_self ..), depthAll_mem fun y hy => h y (List.mem_cons_of_mem _ hy)⟩
theorem pl_due {ring : List (List Int)} {N p : Nat} (h0 : 0 < ring.length) (hok : ∀ rs ∈ ring, RkOk rs) (hN : N = 10 * ring.length) : pl (dueD p N (tx (sg ring) N)) = true := by
  unfold dueD
  simp only [pl]
  refine plAll_mem fun x hx => ?_
  obtain ⟨k, hk, rfl⟩ := List.mem_map.mp hx
  have hk' := List.mem_range.mp hk
  simp only [pl, plAll, Bool.true_and, Bool.and_true]
  unfold dueV
  split
  · simp [pl]
  · exact pl_str (chr_due h0 hok hN (by omega))
theorem depth_due (p N : Nat) (whole : Str) : (dueD p N whole).depth ≤ 64 := by
  unfold dueD
  simp only [PyData.depth]
  have : PyData.depthAll ((List.range N).map fun k => PyData.list [.int (k % p : Nat), dueV p N whole k]) ≤ 2 := by
    refine depthAll_mem fun x hx => ?_
    obtain ⟨k, hk, rfl⟩ := List.mem_map.mp hx
    have : (dueV p N whole k).depth ≤ 1 := by unfold dueV; split <;> simp [PyData.depth]
    simp only [PyData.depth, PyData.depthAll]
    omega
  omega
end
section
theorem St.lent {b h h' : Heap} {C : Addr} {mC : Str → Option Value} {K X T' : List (Addr × Obj)} (S : St b C mC (K ++ X) h) (O : Own (hideAll h (K.map (·.1))) T' h') (hC : C ≠ 0) : St b C mC (T' ++ X) h' := by
  obtain ⟨n, nl, off⟩ := S.fr.resolve_left hC
  have nd := S.own.nodup
  rw [List.map_append, List.nodup_append] at nd
  obtain ⟨n1, n2, n3⟩ := nd
  have kb : Kp b (hideAll h (K.map (·.1))) := fun a o e => hideAll_get _ (S.keep _ _ e) fun hm => by
    obtain ⟨p, hp, rfl⟩ := List.mem_map.mp hm
    rw [S.own.new p (List.mem_append_left _ hp)] at e; cases e
  have xk : ∀ p ∈ X, (hideAll h (K.map (·.1))).get? p.1 = some p.2 := fun p hp => hideAll_get _ (S.own.get p (List.mem_append_right _ hp)) fun hm => n3 _ hm _ (List.mem_map.mpr ⟨p, hp, rfl⟩) rfl
  obtain ⟨o, es, ep, g1, g2, g3, g4⟩ := n
  have ck : (hideAll h (K.map (·.1))).get? C = some o := hideAll_get _ g1 fun hm => off (by rw [List.map_append]; exact List.mem_append_left _ hm)
  refine ⟨⟨?_, fun p hp => ?_, fun a o e => O.keep _ _ (kb a o e), fun p hp => ?_⟩, .inr ⟨⟨o, es, ep, O.keep _ _ ck, g2, g3, g4⟩, nl, fun hm => ?_⟩⟩
  · rw [List.map_append, List.nodup_append]
    refine ⟨O.nodup, n2, fun a ha c hc e => ?_⟩
    obtain ⟨p, hp, rfl⟩ := List.mem_map.mp ha
    obtain ⟨q, hq, rfl⟩ := List.mem_map.mp hc
    have := O.new p hp
    rw [e, xk q hq] at this; cases this
  · rcases List.mem_append.mp hp with hp | hp
    · exact O.get p hp
    · exact O.keep _ _ (xk p hp)
  · rcases List.mem_append.mp hp with hp | hp
    · have := O.new p hp
      cases q : b.get? p.1 with
      | none => rfl
      | some o => rw [kb _ _ q] at this; cases this
    · exact S.own.new p (List.mem_append_right _ hp)
  · rw [List.map_append] at hm
    rcases List.mem_append.mp hm with hm | hm
    · obtain ⟨p, hp, e⟩ := List.mem_map.mp hm
      have := O.new p hp
      rw [e, ck] at this; cases this
    · exact off (by rw [List.map_append]; exact List.mem_append_right _ hm)
noncomputable def TwoAt (p N : Nat) (whole : Str) (j : Nat) (v : Value) (X : List (Addr × Obj)) : Prop :=
  ∃ (a : Addr) (tk : Tok) (y : Value) (n : Nat), v = .ref a ∧ (a, lst [Value.int (j % p : Nat) tk, y].toArray n) ∈ X ∧ ((k : Heap) → ∃ as, Reads k y (dueV p N whole j) as)
theorem TabIn.mono {b : Heap} {X Y : List (Addr × Obj)} {ps : Array Value} (x : TabIn b X ps) (k : ∀ p ∈ X, p ∈ Y) : TabIn b Y ps := by
  rcases x with rfl | ⟨c', oc, vs, tq, h1, h2, h3, h4, h5⟩
  · exact .inl rfl
  · exact .inr ⟨c', oc, vs, tq, h1, h2, h3.imp id (k _), h4, h5⟩
theorem TwoAt.mono {p N : Nat} {whole : Str} {j : Nat} {v : Value} {X Y : List (Addr × Obj)} (x : TwoAt p N whole j v X) (k : ∀ p ∈ X, p ∈ Y) : TwoAt p N whole j v Y :=
  let ⟨a, tk, y, n, e1, m, r⟩ := x; ⟨a, tk, y, n, e1, k _ m, r⟩
theorem two_snoc {p N i : Nat} {whole : Str} {us : List Value} {v : Value} {X : List (Addr × Obj)} (hl : us.length = i) (hus : ∀ (j : Nat) (v : Value), us[j]? = some v → TwoAt p N whole j v X) (hv : TwoAt p N whole i v X) :
    ∀ (j : Nat) (w : Value), (us ++ [v])[j]? = some w → TwoAt p N whole j w X := by
  intro j w e
  by_cases hj : j < us.length
  · rw [List.getElem?_append_left hj] at e
    exact hus j w e
  · have hlt : j < (us ++ [v]).length := (List.getElem?_eq_some_iff.mp e).1
    have ej : j = us.length := by rw [List.length_append, List.length_singleton] at hlt; omega
    subst ej
    rw [List.getElem?_append_right (Nat.le_refl _), Nat.sub_self] at e
    obtain rfl : w = v := by simpa using e.symm
    rw [hl]; exact hv
theorem perm5 {α : Type} (l a b i d : α) (R : List α) : List.Perm ((l :: a :: [b]) ++ (i :: d :: R)) (i :: d :: (a :: b :: l :: R)) :=
  ((List.perm_append_comm (l₁ := [l, a, b]) (l₂ := [i, d])).append_right R).trans (List.Perm.append_left [i, d] ((List.perm_append_comm (l₁ := [l]) (l₂ := [a, b])).append_right R))
theorem perm6 {α : Type} (l a b i d : α) (XX XR T : List α) : List.Perm ((l :: a :: (XX ++ [b])) ++ (i :: d :: (XR ++ T))) (i :: d :: ((a :: b :: l :: (XX ++ XR)) ++ T)) := by
  have h1 : List.Perm (l :: a :: (XX ++ [b])) (a :: b :: l :: XX) := by
    refine List.Perm.trans (List.Perm.swap _ _ _) (List.Perm.cons _ ?_)
    refine List.Perm.trans (List.Perm.cons _ List.perm_append_comm) ?_
    exact List.Perm.swap _ _ _
  refine List.Perm.trans (h1.append_right _) ?_
  refine List.Perm.trans (List.perm_append_comm (l₁ := a :: b :: l :: XX) (l₂ := i :: d :: (XR ++ T))) ?_
  show List.Perm (i :: d :: ((XR ++ T) ++ (a :: b :: l :: XX))) _
  refine List.Perm.cons _ (List.Perm.cons _ ?_)
  refine List.Perm.trans List.perm_append_comm ?_
  show List.Perm (a :: b :: l :: (XX ++ (XR ++ T))) (a :: b :: l :: ((XX ++ XR) ++ T))
  rw [List.append_assoc]
theorem two_reads {h : Heap} {ld : Addr} {us : List Value} {nn p N : Nat} {whole : Str} {X : List (Addr × Obj)} (hg : h.get? ld = some (lst us.toArray nn)) (hX : ∀ q ∈ X, h.get? q.1 = some q.2) (hl : us.length = N) (hd : ∀ (j : Nat) (v : Value), us[j]? = some v → TwoAt p N whole j v X) : ∃ as, Reads h (.ref ld) (dueD p N whole) as := by
  refine reads_list hg (by simp [hl]) fun j v dd e1 e2 => ?_
  obtain ⟨a, tk, y, n, rfl, m, hy⟩ := hd j v e1
  obtain ⟨as, r⟩ := hy h
  rw [List.getElem?_map] at e2
  have hj : j < N := by rw [← hl]; exact (List.getElem?_eq_some_iff.mp e1).1
  rw [List.getElem?_range hj] at e2
  cases e2
  refine reads_list (hX _ m) rfl fun i v dd e1 e2 => ?_
  match i with
  | 0 => cases e1; cases e2; exact ⟨[], .int _ _⟩
  | 1 => cases e1; cases e2; exact ⟨as, r⟩
  | i + 2 => simp at e1
theorem law_s7 {w : World} {A : Around} {b h : Heap} {g : Array GenState} {d : Drawn} {t : Nat} {os : OsState} {L cS cT cB cR cU lr : Addr} {vs : List Value} {k N : Nat} {ts tt tk tk2 : Tok} {rows : List (List Int)} {T2 : List (Addr × Obj)} {m : Str → Option Value} {Q : Flow → Shared → Prop} {E : Value → Shared → Prop} (G : Gr w b) (hh : A.handled = none) (hA : A.depth + 90 < recursionLimit) (hU : A.units + 100 < cLine) (hL0 : L ≠ 0)
    (hfr : A.frames = some [ev133 L cS cT cB cR cU])
    (hN : N = 10 * rows.length) (hR : RowsIn T2 vs rows) (hok : ∀ rs ∈ rows, RkOk rs) (h1 : 1 ≤ rows.length) (hn : rows.length ≤ 8) (hcS : (cS, cellO (some (.int (N : Int) ts))) ∈ T2) (hcT : (cT, cellO (some (.str (tx (sg rows) (N + N)) tt))) ∈ T2) (hcR : (cR, cellO (some (.ref lr))) ∈ T2) (hlr : (lr, lst vs.toArray k) ∈ T2)
    (hm1 : m (Str.ofString "signs") = some (.str (tx (sg rows) N) tk)) (hm2 : m (Str.ofString "whole") = some (.str (tx (sg rows) N) tk2))
    (S : St b L m ((36, tabObj #[]) :: T2) h)
    (q : ∀ h' t' ps, St b L m ((36, tabObj ps) :: T2) h' →
      wpAny (model PG w) A (execs (lawFrom 8) (ev133 L cS cT cB cR cU)) Q E ⟨h', g, d, t', os⟩) :
    wpAny (model PG w) A (execs (lawFrom 7) (ev133 L cS cT cB cR cU)) Q E ⟨h, g, d, t, os⟩ := by
  conv => arg 3; arg 1; whnf
  repeat (walk_at "ast")
  refine ne_d (s := ⟨_, g, d, _, os⟩) (.str _ _) (.str _ _) (pl_str (chr_tx h1 hok N)) (pl_str (chr_tx h1 hok N)) (by simp [PyData.depth]) (by simp [PyData.depth]) (by omega) fun c hc => ?_
  refine wpAny_truthy_bool ?_
  obtain rfl : c = false := by
    cases c with
    | false => rfl
    | true => exact absurd rfl (hc.mp rfl)
  rw [if_neg (by decide)]
  repeat (walk_at "ast")
  refine' lc_open ?hlc ?hcell2 ?hk2 ?hn2 ?hs2 ?_
  case hlc => exact rfl
  case hcell2 => decide
  case hk2 => exact rfl
  case hn2 => decide
  case hs2 => intro x; rfl
  repeat (walk_at "ast")
  obtain ⟨p, hp⟩ := due_ex h1
  have hLe := due_least h1 hok hp
  rw [← hN] at hLe
  refine r_range1 S fun r h₇ t₇ ta tc S₇ => ?_
  refine r_iter S₇ (List.mem_cons_self ..) (by omega) (by omega) fun it h₈ S₈ => ?_
  refine ⟨_, _, _, _, _, _, _, _, _, _, rfl, rfl, hL0, S₈, fun D C oL h₉ hC ho S₉ => ⟨?_, ?_⟩⟩
  · refine' ri_self S₉ ?mri
    case mri => walk_at "mem"
  have e0 : (((N : Int) - 0).toNat : Int) = (N : Int) - ((0 : Nat) : Int) := by omega
  rw [e0] at S₉
  have S₁₀ : St b C (fun _ => none) ((it, rngIt (0 + ((0 : Nat) : Int)) ((N : Nat) - ((0 : Nat) : Int)) 1) :: (D, lst [].toArray 0) :: ([(36, tabObj #[]), (L, oL)] ++ T2)) h₉ := by
    refine (S₉.sub (T' := (D, lst #[] 0) :: (L, oL) :: (it, rngIt 0 ((N : Nat) - ((0 : Nat) : Int)) 1) :: (36, tabObj #[]) :: T2) (.cons₂ _ (.cons₂ _ (.cons₂ _ (.cons _ (.refl _)))))).perm ?_
    refine List.Perm.trans (List.Perm.cons _ (List.Perm.swap _ _ _)) ?_
    refine List.Perm.trans (List.Perm.swap _ _ _) ?_
    exact List.Perm.cons _ (List.Perm.cons _ (List.Perm.swap _ _ _))
  clear S₉ S₈ S₇
  have hN80 : N ≤ 80 := by omega
  refine lc_range (a := 0) (n := N) (T0 := T2) (fun i us X => ∃ oLi ps XR, X = (36, tabObj ps) :: (L, oLi) :: XR ∧ NsO oLi m ∧ TabIn b XR ps ∧ ∀ (j : Nat) (v : Value), us[j]? = some v → TwoAt p N (tx (sg rows) N) j v XR) hh hC rfl rfl rfl (by omega) ?_ ?_ N 0 (by omega) [] [(36, tabObj #[]), (L, oL)] 0 _ _ _ rfl ⟨oL, #[], [], rfl, ho, .inl rfl, fun j v e => by simp at e⟩ S₁₀
  · intro i us X nn mC tki h' t' hi hlen hinv hmC S4
    obtain ⟨oLi, ps, XR, rfl, hoi, htab, hus⟩ := hinv
    rw [Int.zero_add] at hmC
    have hcT1 : (cT, cellO (some (.str (tx (sg rows) (N + N)) tt))) ∈ XR ++ T2 := List.mem_append_right _ hcT
    have hcS1 : (cS, cellO (some (.int (N : Int) ts))) ∈ XR ++ T2 := List.mem_append_right _ hcS
    repeat (walk_at "ast")
    rename_i t5 a5 h5 S5
    refine st_slice (l := some ((i : Int), tki)) (u := some ((i : Int) + (N : Int), _)) S5 (List.mem_cons_self ..) (by rw [tx_len]; omega) fun tk6 t6 => ?_
    dsimp only [Option.map]
    rw [turn_slice (by omega)]
    repeat (walk_at "ast")
    have S6 : St b C mC ([(36, tabObj ps), (L, oLi)] ++ ((it, rngIt (0 + (i : Int) + 1) ((N : Int) - (i : Int) - 1) 1) :: (D, lst us.toArray nn) :: (XR ++ T2))) h5 := by
      refine (S5.sub (T' := (it, rngIt (0 + (i : Int) + 1) ((N : Int) - (i : Int) - 1) 1) :: (D, lst us.toArray nn) :: ((36, tabObj ps) :: (L, oLi) :: XR ++ T2)) (.cons _ (.refl _))).perm ?_
      exact (List.perm_append_comm (l₁ := [(it, rngIt (0 + (i : Int) + 1) ((N : Int) - (i : Int) - 1) 1), (D, lst us.toArray nn)]) (l₂ := [(36, tabObj ps), (L, oLi)])).append_right (XR ++ T2)
    have nd := S6.own.nodup
    have O6 : Own (hideAll h5 ([(36, tabObj ps), (L, oLi)].map (·.1))) [(36, tabObj ps), (L, oLi)] h5 := Own.hideL (by
      rw [List.map_append, List.nodup_append] at nd
      exact nd.1) fun p hp => S6.own.get p (List.mem_append_left _ hp)
    have kb : Kp b (hideAll h5 ([(36, tabObj ps), (L, oLi)].map (·.1))) := fun a o e => hideAll_get _ (S6.keep _ _ e) fun hm => by
      obtain ⟨p, hp, rfl⟩ := List.mem_map.mp hm
      rw [S6.own.new p (List.mem_append_left _ hp)] at e; cases e
    have htab' : TabIn (hideAll h5 ([(36, tabObj ps), (L, oLi)].map (·.1))) [] ps := by
      rcases htab with rfl | ⟨c', oc, vs', tq, h1, h2, h3, h4, h5'⟩
      · exact .inl rfl
      · refine .inr ⟨c', oc, vs', tq, h1, h2, .inl ?_, h4, h5'⟩
        rcases h3 with h3 | h3
        · exact kb _ _ h3
        · refine hideAll_get _ (S6.own.get (c', oc) ?_) ?_
          · exact List.mem_append_right _ (List.mem_cons_of_mem _ (List.mem_cons_of_mem _ (List.mem_append_left _ h3)))
          · intro hm
            rw [List.map_append, List.nodup_append] at nd
            exact nd.2.2 _ hm _ (List.mem_map.mpr ⟨(c', oc), List.mem_cons_of_mem _ (List.mem_cons_of_mem _ (List.mem_append_left _ h3)), rfl⟩) rfl
    have hod : ∀ vs, oLi.data ≠ .fields vs := fun vs e => by
      obtain ⟨es, ep, hd, _⟩ := hoi
      rw [hd] at e; cases e
    have hmod := Nat.mod_lt i hLe.pos
    have hi0 : i % p + 1 ≤ 200 := by have := Nat.mod_le i p; omega
    refine wpAny_call (c_two (G.keeps kb) hh (by omega) (by omega) hfr (FrOk.cons rfl rfl hod .nil) O6 htab' (by rw [tx_len]; omega) (repr_len h1 hok hN80) (hLe.first hi) hi0 (fun i1 hi1 l n h7 t7 ta' tb' O7 => ?_) (fun hno l h7 t7 ps' XX fs' ta' tk' hsl htb O7 => ?_))
    · have hle : i % p + p ≤ N := by
        by_cases q : i % p + p ≤ N
        · exact q
        · rw [hLe.no_second (by omega)] at hi1; cases hi1
      rw [hLe.second hle] at hi1
      obtain rfl : i1 = i % p + p := by simpa using hi1.symm
      have S7 := S6.lent O7 hC
      refine ⟨(36, tabObj ps) :: (L, oLi) :: (l, lst [Value.int ((i % p : Nat) : Int) ta', Value.int ((i % p + p : Nat) : Int) tb'].toArray n) :: XR, h7, t7, rfl, ⟨oLi, ps, (l, lst [Value.int ((i % p : Nat) : Int) ta', Value.int ((i % p + p : Nat) : Int) tb'].toArray n) :: XR, rfl, hoi, htab.mono fun x hx => List.mem_cons_of_mem _ hx, ?_⟩, S7.perm ?_⟩
      · exact two_snoc hlen (fun j v e => (hus j v e).mono fun x hx => List.mem_cons_of_mem _ hx) ⟨l, _, _, _, rfl, List.mem_cons_self .., fun k => ⟨[], by unfold dueV; rw [if_pos hle]; exact .int _ _⟩⟩
      · exact perm5 _ _ _ _ _ _
    · have hgt : N < i % p + p := by
        by_cases q : i % p + p ≤ N
        · rw [hLe.second q] at hno; cases hno
        · omega
      have S7 := S6.lent O7 hC
      cases hsl with
      | cons r =>
      cases r
      rename_i slL
      have hoi' : NsO { oLi with slots := slL } m := by
        obtain ⟨es, ep, e1, e2, e3⟩ := hoi
        exact ⟨es, ep, e1, e2, e3⟩
      rw [not_found h1 hok hN (by omega)] at S7
      refine ⟨(36, tabObj ps') :: (L, { oLi with slots := slL }) :: (l, lst [Value.int ((i % p : Nat) : Int) ta', Value.str (dueTxt (tx (sg rows) N) i) tk'].toArray 0) :: (XX ++ XR), h7, t7, rfl, ⟨_, ps', (l, lst [Value.int ((i % p : Nat) : Int) ta', Value.str (dueTxt (tx (sg rows) N) i) tk'].toArray 0) :: (XX ++ XR), rfl, hoi', ?_, ?_⟩, S7.perm ?_⟩
      · rcases htb with ⟨rfl, rfl⟩ | ⟨c', oc, vs', tq, rfl, e1, e2, e3, e4⟩
        · exact htab.mono fun x hx => List.mem_cons_of_mem _ (List.mem_append_right _ hx)
        · exact .inr ⟨c', oc, vs', tq, e1, e2, .inr (List.mem_cons_of_mem _ (List.mem_cons_self ..)), e3, e4⟩
      · exact two_snoc hlen (fun j v e => (hus j v e).mono fun x hx => List.mem_cons_of_mem _ (List.mem_append_right _ hx)) ⟨l, _, _, _, rfl, List.mem_cons_self .., fun k => ⟨[], by unfold dueV; rw [if_neg (by omega)]; exact .str _ _⟩⟩
      · exact perm6 _ _ _ _ _ _ _ _
  · intro us X nn mC h' t' hlen hinv S4
    obtain ⟨oLi, ps, XR, rfl, hoi, htab, hus⟩ := hinv
    have S5 : St b C mC ((L, oLi) :: (D, lst us.toArray nn) :: (36, tabObj ps) :: (XR ++ T2)) h' := S4.perm (by
      refine List.Perm.trans (List.Perm.cons _ (List.Perm.swap _ _ _)) ?_
      exact List.Perm.swap _ _ _)
    refine lc_fin (vs := #[]) (n := 0) S5 hC hoi fun h₆ S₆ => ?_
    have hcR1 : (cR, cellO (some (.ref lr))) ∈ XR ++ T2 := List.mem_append_right _ hcR
    repeat (walk_at "ast")
    have hRA : RowsAre h₆ vs rows := hR.are fun x hx => S₆.get (List.mem_cons_of_mem _ (List.mem_cons_of_mem _ (List.mem_append_right _ hx)))
    refine wpAny_call (c_due (G.keeps S₆.keep) hh (by omega) hU (S₆.get (List.mem_cons_of_mem _ (List.mem_cons_of_mem _ (List.mem_append_right _ hlr)))) hRA h1 hn (by rw [tx_len]; exact hN) fun p' l' h7 t7 hp' k7 hnew hrd => ?_)
    have hLe' := due_least h1 hok hp'
    rw [← hN] at hLe'
    obtain rfl : p' = p := least_uniq hLe' hLe
    rw [← hN] at hrd
    obtain ⟨as2, rb⟩ := hrd
    have S7 := S₆.grown k7
    obtain ⟨as1, ra⟩ := two_reads (S7.get (List.mem_cons_self ..)) (fun x hx => S7.get (List.mem_cons_of_mem _ (List.mem_cons_of_mem _ (List.mem_append_left _ hx)))) hlen hus
    refine ne_d (s := ⟨_, g, d, _, os⟩) ra rb (pl_due h1 hok hN) (pl_due h1 hok hN) (depth_due _ _ _) (depth_due _ _ _) (by omega) fun c hc => ?_
    refine wpAny_truthy_bool ?_
    obtain rfl : c = false := by
      cases c with
      | false => rfl
      | true => exact absurd rfl (hc.mp rfl)
    rw [if_neg (by decide)]
    repeat (walk_at "ast")
    rw [if_neg (by decide)]
    refine wpAny_execs_nil ?_
    dsimp only
    exact q _ _ _ (S7.sub (.cons _ (.cons₂ _ (List.sublist_append_right _ _))))
end
section
noncomputable def sxT (rows : List (List Int)) (t : Nat) : Str := turnT (sg rows) (10 * rows.length) (10 * t)
noncomputable def TurnIs (rows : List (List Int)) (us : List Value) : Prop := ∀ (i : Nat) (v : Value), us[i]? = some v → ∃ tk, v = Value.str (sxT rows i) tk
theorem turn_snoc {rows : List (List Int)} {us : List Value} {i : Nat} {tk : Tok} (hl : us.length = i) (x : TurnIs rows us) : TurnIs rows (us ++ [Value.str (sxT rows i) tk]) := by
  intro j w e
  by_cases hj : j < us.length
  · rw [List.getElem?_append_left hj] at e
    exact x j w e
  · have hlt : j < (us ++ [Value.str (sxT rows i) tk]).length := (List.getElem?_eq_some_iff.mp e).1
    have ej : j = us.length := by rw [List.length_append, List.length_singleton] at hlt; omega
    subst ej
    rw [List.getElem?_append_right (Nat.le_refl _), Nat.sub_self] at e
    obtain rfl : w = Value.str (sxT rows i) tk := by simpa using e.symm
    rw [hl]; exact ⟨tk, rfl⟩
theorem law_s8 {w : World} {A : Around} {b h : Heap} {g : Array GenState} {d : Drawn} {t : Nat} {os : OsState} {L cS cT cB cR cU lm : Addr} {um : List Value} {n : Nat} {ts tt : Tok} {rows : List (List Int)} {T2 : List (Addr × Obj)} {m : Str → Option Value} {Q : Flow → Shared → Prop} {E : Value → Shared → Prop} (G : Gr w b) (hh : A.handled = none) (hA : A.depth + 90 < recursionLimit) (hL0 : L ≠ 0)
    (hn : rows.length ≤ 8) (hlen : um.length = rows.length) (hcS : (cS, cellO (some (.int ((10 * rows.length : Nat) : Int) ts))) ∈ T2) (hcT : (cT, cellO (some (.str (tx (sg rows) (10 * rows.length + 10 * rows.length)) tt))) ∈ T2) (hlm : (lm, lst um.toArray n) ∈ T2)
    (hm1 : m (Str.ofString "modes") = some (.ref lm))
    (S : St b L m ((cU, cellO none) :: T2) h)
    (q : ∀ h' t' lt us k, us.length = rows.length → TurnIs rows us → St b L m ((lt, lst us.toArray k) :: (cU, cellO (some (.ref lt))) :: T2) h' →
      wpAny (model PG w) A (execs (lawFrom 9) (ev133 L cS cT cB cR cU)) Q E ⟨h', g, d, t', os⟩) :
    wpAny (model PG w) A (execs (lawFrom 8) (ev133 L cS cT cB cR cU)) Q E ⟨h, g, d, t, os⟩ := by
  conv => arg 3; arg 1; whnf
  repeat (walk_at "ast")
  refine' comp_range ?hh0 ?hlc ?hcell2 ?hk2 ?hn2 ?hs2 ?x1 ?x2 ?x3 ?_
  case hh0 => exact hh
  case hlc => exact rfl
  case hcell2 => decide
  case hk2 => exact rfl
  case hn2 => decide
  case hs2 => intro x; rfl
  case x1 => intro C; rfl
  case x2 => intro C; rfl
  case x3 => intro C; rfl
  repeat (walk_at "ast")
  refine l_len (S.get (List.mem_cons_of_mem _ hlm)) (by rw [List.size_toArray]; omega) fun t1 tk1 => ?_
  repeat (walk_at "ast")
  refine r_range1 S fun r h₇ t₇ ta tc S₇ => ?_
  rw [List.size_toArray, hlen] at S₇
  refine ⟨_, _, _, _, _, _, _, _, _, r, rows.length, _, _, _, (fun i us X => X = [] ∧ TurnIs rows us), rfl, rfl, hL0, S₇, List.mem_cons_self .., by omega, ⟨rfl, fun j v e => by simp at e⟩, ?_, ?_⟩
  · intro D C oL it hC ho i us X nn mC tki oi h' t' hi hl hinv hmC S4
    obtain ⟨rfl, hus⟩ := hinv
    have hcT1 : (cT, cellO (some (.str (tx (sg rows) (10 * rows.length + 10 * rows.length)) tt))) ∈ T2 := hcT
    repeat (walk_at "ast")
    refine i_mul (IntMulOk.of_left (by decide)) fun t2 => ?_
    repeat (walk_at "ast")
    refine i_mul (IntMulOk.of_left (by decide)) fun t3 => ?_
    repeat (walk_at "ast")
    rename_i t5 a5 h5 S5
    rw [show (10 : Int) * (i : Int) = ((10 * i : Nat) : Int) from by omega] at S5
    refine st_slice (l := some (((10 * i : Nat) : Int), _)) (u := some (((10 * i : Nat) : Int) + ((10 * rows.length : Nat) : Int), _)) S5 (List.mem_cons_self ..) (by rw [tx_len]; omega) fun tk6 t6 => ?_
    dsimp only [Option.map]
    rw [turn_slice (by omega)]
    exact ⟨[], h5, t6, rfl, ⟨rfl, turn_snoc hl hus⟩, S5.sub (.cons _ (.refl _))⟩
  · intro D us X nn h4 t4 hl hinv S4
    obtain ⟨rfl, hus⟩ := hinv
    have S5 := (S4.sub (T' := (D, lst us.toArray nn) :: (cU, cellO none) :: T2) (.cons₂ _ (.cons _ (.refl _)))).perm (.swap _ _ _)
    refine' n_cellSet S5 ?cc1 ?pp1 ?kk1 ?ll1 (fun h₆ S₆ => ?_)
    case cc1 => exact rfl
    case pp1 => walk_at "put"
    case kk1 => exact rfl
    case ll1 => exact rfl
    dsimp only
    exact q _ _ _ _ _ hl hus (S₆.perm (.swap _ _ _))
end
section
noncomputable def redR (r : Nat → Nat) : Nat → Nat
  | 0 => 0
  | k + 1 => if r (k + 1) < r (redR r k) then k + 1 else redR r k
noncomputable def chk (m n : Nat) (r : List Nat) : Bool := (kEv (fun i j => decide (r.getD (i % m) 0 < r.getD (j % m) 0)) (kas_sort n)).toList.getD 0 0 == redR (fun i => r.getD (i % m) 0) (n - 1)
theorem chk1 : ∀ a : Fin 1, (chk 1 1 [a.1] && chk 1 2 [a.1]) = true := by decide +kernel
theorem chk2 : ∀ a b : Fin 2, (chk 2 2 [a.1, b.1] && chk 2 4 [a.1, b.1]) = true := by decide +kernel
theorem chk3 : ∀ a b c : Fin 3, (chk 3 3 [a.1, b.1, c.1] && chk 3 6 [a.1, b.1, c.1]) = true := by decide +kernel
theorem chk4 : ∀ a b c d : Fin 4, (chk 4 4 [a.1, b.1, c.1, d.1] && chk 4 8 [a.1, b.1, c.1, d.1]) = true := by decide +kernel
end
section
theorem ll_irrefl (a : List Nat) : ¬ a < a := List.lt_irrefl a
theorem ll_trans {a b c : List Nat} (h : a < b) (k : b < c) : a < c := List.lt_trans h k
theorem ll_mix {a b c : List Nat} (h : a < b) (k : ¬ c < b) : a < c := by
  by_cases q : b < c
  · exact List.lt_trans h q
  · have : b = c := List.le_antisymm (List.not_lt.mp k) (List.not_lt.mp q)
    rw [← this]; exact h
theorem kEv_congr {α : Type} {n : Nat} {R : α → Prop} {lt lt' : Nat → Nat → Bool} (h : ∀ i j, i < n → j < n → lt i j = lt' i j) : ∀ t : KasT α, kIn n R t → kEv lt t = kEv lt' t
  | .ret a, _ => rfl
  | .ask i j k, hk => by
    show kEv lt (k (lt i j)) = kEv lt' (k (lt' i j))
    rw [h i j hk.1 hk.2.1]
    exact kEv_congr h _ (hk.2.2 _)
theorem countP_le {p q : Nat → Bool} (h : ∀ x, p x = true → q x = true) : ∀ l : List Nat, l.countP p ≤ l.countP q
  | [] => Nat.le_refl _
  | x :: l => by
    have := countP_le h l
    rw [List.countP_cons, List.countP_cons]
    cases hp : p x with
    | true => have hq := h x hp; simp only [hq, if_true]; omega
    | false => simp only [Bool.false_eq_true, if_false]; omega
theorem countP_lt {p q : Nat → Bool} (h : ∀ x, p x = true → q x = true) {y : Nat} (hy : p y = false) (hy' : q y = true) : ∀ l : List Nat, y ∈ l → l.countP p < l.countP q
  | [], hm => by cases hm
  | x :: l, hm => by
    rw [List.countP_cons, List.countP_cons]
    rcases List.mem_cons.mp hm with rfl | hm
    · have := countP_le h l
      rw [hy, hy']; simp; omega
    · have := countP_lt h hy hy' l hm
      cases hp : p x with
      | true => have hq := h x hp; simp only [hq, if_true]; omega
      | false => simp only [Bool.false_eq_true, if_false]; omega
noncomputable def rank (l : Nat → List Nat) (m i : Nat) : Nat := (List.range m).countP (fun k => decide (l k < l i))
theorem rank_lt {l : Nat → List Nat} {m i : Nat} (hi : i < m) : rank l m i < m := by
  have : rank l m i < (List.range m).countP (fun _ => true) := countP_lt (y := i) (fun _ _ => rfl) (decide_eq_false (ll_irrefl _)) rfl _ (List.mem_range.mpr hi)
  rwa [List.countP_true, List.length_range] at this
theorem rank_iff {l : Nat → List Nat} {m i j : Nat} (hi : i < m) : l i < l j ↔ rank l m i < rank l m j := by
  constructor
  · intro h
    exact countP_lt (y := i) (fun x hx => decide_eq_true (ll_trans (of_decide_eq_true hx) h)) (decide_eq_false (ll_irrefl _)) (decide_eq_true h) _ (List.mem_range.mpr hi)
  · intro h
    by_cases q : l i < l j
    · exact q
    · have : rank l m j ≤ rank l m i := countP_le (fun x hx => decide_eq_true (ll_mix (of_decide_eq_true hx) q)) _
      omega
noncomputable def redL (l : Nat → List Nat) : Nat → Nat
  | 0 => 0
  | k + 1 => if l (k + 1) < l (redL l k) then k + 1 else redL l k
theorem redR_le (r : Nat → Nat) : ∀ k, redR r k ≤ k
  | 0 => Nat.le_refl _
  | k + 1 => by
    unfold redR
    have := redR_le r k
    split <;> omega
theorem red_eq {l : Nat → List Nat} {r : Nat → Nat} {n : Nat} (h : ∀ i j, i < n → j < n → (l i < l j ↔ r i < r j)) : ∀ k, k < n → redL l k = redR r k
  | 0, _ => rfl
  | k + 1, hk => by
    have ih := red_eq h k (by omega)
    have hle := redR_le r k
    unfold redL redR
    rw [ih]
    by_cases q : r (k + 1) < r (redR r k)
    · rw [if_pos q, if_pos ((h _ _ hk (by omega)).mpr q)]
    · rw [if_neg q, if_neg fun x => q ((h _ _ hk (by omega)).mp x)]
theorem first_of {l : Nat → List Nat} {m n : Nat} (hm : 1 ≤ m) (hn : n = m ∨ n = m + m) (per : ∀ i, i < n → l i = l (i % m))
    (hc : chk m n ((List.range m).map (rank l m)) = true) : (kEv (fun i j => decide (l i < l j)) (kas_sort n)).toList.getD 0 0 = redL l (n - 1) := by
  have hget : ∀ i, ((List.range m).map (rank l m)).getD (i % m) 0 = rank l m (i % m) := fun i => by
    have := Nat.mod_lt i (show m > 0 by omega)
    rw [List.getD_eq_getElem?_getD, List.getElem?_map, List.getElem?_range this]; rfl
  have hiff : ∀ i j, i < n → j < n → (l i < l j ↔ ((List.range m).map (rank l m)).getD (i % m) 0 < ((List.range m).map (rank l m)).getD (j % m) 0) := fun i j hi hj => by
    rw [hget, hget, per i hi, per j hj]
    exact rank_iff (Nat.mod_lt i (by omega))
  have h1 : kEv (fun i j => decide (l i < l j)) (kas_sort n) = kEv (fun i j => decide (((List.range m).map (rank l m)).getD (i % m) 0 < ((List.range m).map (rank l m)).getD (j % m) 0)) (kas_sort n) :=
    kEv_congr (fun i j hi hj => decide_eq_decide.mpr (hiff i j hi hj)) _ (in_sort (by omega))
  rw [h1, red_eq (r := fun i => ((List.range m).map (rank l m)).getD (i % m) 0) hiff (n - 1) (by omega)]
  exact eq_of_beq hc
theorem first_least {l : Nat → List Nat} {m n : Nat} (hm : 1 ≤ m) (hm4 : m ≤ 4) (hn : n = m ∨ n = m + m) (per : ∀ i, i < n → l i = l (i % m)) : (kEv (fun i j => decide (l i < l j)) (kas_sort n)).toList.getD 0 0 = redL l (n - 1) := by
  refine first_of hm hn per ?_
  have r : ∀ i, i < m → rank l m i < m := fun i hi => rank_lt hi
  match m, hm, hm4 with
  | 1, _, _ =>
    have := chk1 ⟨rank l 1 0, r 0 (by omega)⟩
    simp only [Bool.and_eq_true] at this
    rcases hn with rfl | rfl
    · exact this.1
    · exact this.2
  | 2, _, _ =>
    have := chk2 ⟨rank l 2 0, r 0 (by omega)⟩ ⟨rank l 2 1, r 1 (by omega)⟩
    simp only [Bool.and_eq_true] at this
    rcases hn with rfl | rfl
    · exact this.1
    · exact this.2
  | 3, _, _ =>
    have := chk3 ⟨rank l 3 0, r 0 (by omega)⟩ ⟨rank l 3 1, r 1 (by omega)⟩ ⟨rank l 3 2, r 2 (by omega)⟩
    simp only [Bool.and_eq_true] at this
    rcases hn with rfl | rfl
    · exact this.1
    · exact this.2
  | 4, _, _ =>
    have := chk4 ⟨rank l 4 0, r 0 (by omega)⟩ ⟨rank l 4 1, r 1 (by omega)⟩ ⟨rank l 4 2, r 2 (by omega)⟩ ⟨rank l 4 3, r 3 (by omega)⟩
    simp only [Bool.and_eq_true] at this
    rcases hn with rfl | rfl
    · exact this.1
    · exact this.2
end
section
theorem col_ltF : ∀ (c : Fin 10) (a b : Fin 8), a.1 < (alph.getD c.1 Str.empty).cps.size → b.1 < (alph.getD c.1 Str.empty).cps.size → ((alph.getD c.1 Str.empty).cps.getD a.1 0 < (alph.getD c.1 Str.empty).cps.getD b.1 0 ↔ a.1 < b.1) := by decide +kernel
theorem col_lt {c : Nat} (hc : c < 10) {a b : Int} (ha : ColOk c a) (hb : ColOk c b) : colSign c a < colSign c b ↔ a < b := by
  have hs := alph_size ⟨c, hc⟩
  dsimp only at hs
  have h1 := ha.2
  have h2 := hb.2
  have := col_ltF ⟨c, hc⟩ ⟨a.toNat, by omega⟩ ⟨b.toNat, by omega⟩ h1 h2
  unfold colSign
  rw [this]
  have := ha.1
  have := hb.1
  show a.toNat < b.toNat ↔ a < b
  omega
theorem app_lt : ∀ {a b : List Nat} (x y : List Nat), a.length = b.length → (a ++ x < b ++ y ↔ a < b ∨ (a = b ∧ x < y))
  | [], [], x, y, _ => by simp
  | [], _ :: _, _, _, h => by simp at h
  | _ :: _, [], _, _, h => by simp at h
  | a :: as, b :: bs, x, y, h => by
    have ih := app_lt (a := as) (b := bs) x y (by simpa using h)
    rw [List.cons_append, List.cons_append, List.cons_lt_cons_iff, List.cons_lt_cons_iff, ih, List.cons.injEq]
    constructor
    · rintro (h | ⟨h, h' | ⟨h', h''⟩⟩)
      · exact .inl (.inl h)
      · exact .inl (.inr ⟨h, h'⟩)
      · exact .inr ⟨⟨h, h'⟩, h''⟩
    · rintro ((h | ⟨h, h'⟩) | ⟨⟨h, h'⟩, h''⟩)
      · exact .inl h
      · exact .inr ⟨h, .inl h'⟩
      · exact .inr ⟨h, .inr ⟨h', h''⟩⟩
theorem cols_lt (f g : Nat → Int) : ∀ n c, c + n ≤ 10 → (∀ k, c ≤ k → k < c + n → ColOk k (f k) ∧ ColOk k (g k)) →
    ((List.range' c n).map (fun k => colSign k (f k)) < (List.range' c n).map (fun k => colSign k (g k)) ↔ ltI ((List.range' c n).map f) ((List.range' c n).map g) = true)
  | 0, c, _, _ => by simp [ltI, lexL]
  | n + 1, c, hc, h => by
    have ih := cols_lt f g n (c + 1) (by omega) fun k h1 h2 => h k (by omega) (by omega)
    obtain ⟨h1, h2⟩ := h c (Nat.le_refl _) (by omega)
    rw [List.range'_succ, List.map_cons, List.map_cons, List.map_cons, List.map_cons, List.cons_lt_cons_iff, ih, col_lt (by omega) h1 h2]
    show _ ↔ (if (f c == g c) = true then ltI ((List.range' (c + 1) n).map f) ((List.range' (c + 1) n).map g) else decide (f c < g c)) = true
    by_cases e : f c = g c
    · rw [if_pos (by simpa using e)]
      constructor
      · rintro (q | q)
        · omega
        · exact q.2
      · intro q; exact .inr ⟨by rw [e], q⟩
    · rw [if_neg (by simpa using e)]
      constructor
      · rintro (q | q)
        · exact decide_eq_true q
        · exact absurd (col_inj (by omega) h1 h2 q.1) e
      · intro q; exact .inl (of_decide_eq_true q)
noncomputable def sgr (rs : List Int) : List Nat := (List.range 10).map (fun c => colSign c (rs.getD c 0))
theorem row_out {rs : List Int} (h : rs.length = 10) : (List.range' 0 10).map (fun k => rs.getD k 0) = rs := by
  apply List.ext_getElem (by simp [h])
  intro i h1 h2
  simp [h2]
theorem RkOk.col {rs : List Int} (h : RkOk rs) {c : Nat} (hc : c < 10) : ColOk c (rs.getD c 0) := h.2 c hc
theorem sgr_lt {a b : List Int} (ha : RkOk a) (hb : RkOk b) : sgr a < sgr b ↔ ltI a b = true := by
  have := cols_lt (fun k => a.getD k 0) (fun k => b.getD k 0) 10 0 (by omega) fun k _ h2 => ⟨ha.col (by omega), hb.col (by omega)⟩
  rw [row_out ha.1, row_out hb.1, ← List.range_eq_range'] at this
  exact this
theorem sgr_inj {a b : List Int} (ha : RkOk a) (hb : RkOk b) (h : sgr a = sgr b) : a = b := by
  rw [← row_out ha.1, ← row_out hb.1]
  apply List.map_congr_left
  intro c hc
  have hc' : c < 10 := by rw [List.mem_range'_1] at hc; omega
  refine col_inj hc' (ha.col hc') (hb.col hc') ?_
  have := congrArg (fun l => l[c]?) h
  unfold sgr at this
  simpa [hc'] using this
theorem rows_lt : ∀ {r r' : List (List Int)}, r.length = r'.length → (∀ x ∈ r, RkOk x) → (∀ x ∈ r', RkOk x) → (r.flatMap sgr < r'.flatMap sgr ↔ ltR r r' = true)
  | [], [], _, _, _ => by simp [ltR, lexL]
  | [], _ :: _, h, _, _ => by simp at h
  | _ :: _, [], h, _, _ => by simp at h
  | a :: as, b :: bs, h, h1, h2 => by
    have ih := rows_lt (r := as) (r' := bs) (by simpa using h) (fun x hx => h1 x (List.mem_cons_of_mem _ hx)) fun x hx => h2 x (List.mem_cons_of_mem _ hx)
    have ha := h1 a (List.mem_cons_self ..)
    have hb := h2 b (List.mem_cons_self ..)
    rw [List.flatMap_cons, List.flatMap_cons, app_lt _ _ (by simp [sgr]), ih, sgr_lt ha hb]
    show _ ↔ (if (a == b) = true then ltR as bs else ltI a b) = true
    by_cases e : a = b
    · rw [if_pos (by simpa using e)]
      constructor
      · rintro (q | q)
        · rw [← sgr_lt ha hb, e] at q
          exact absurd q (List.lt_irrefl _)
        · exact q.2
      · intro q; exact .inr ⟨by rw [e], q⟩
    · rw [if_neg (by simpa using e)]
      constructor
      · rintro (q | q)
        · exact q
        · exact absurd (sgr_inj ha hb q.1) e
      · intro q; exact .inl q
theorem tx_flat (ring : List (List Int)) : (tx (sg ring) (10 * ring.length)).cps.toList = ring.flatMap sgr := by
  rw [← whole_tx, join_flat, List.flatMap_map]
  have : (fun a => (txtS a).cps.toList) = sgr := by
    funext rs
    rw [txt_tx, tx_list]; rfl
  rw [this]
theorem turn_rot {rows : List (List Int)} {i : Nat} (hi : i ≤ rows.length) : turnT (sg rows) (10 * rows.length) (10 * i) = tx (sg (rot i rows)) (10 * (rot i rows).length) := by
  have hl : (rot i rows).length = rows.length := by unfold rot; rw [List.length_append, List.length_drop, List.length_take]; omega
  rw [hl]
  unfold turnT
  refine tx_ext fun x hx => ?_
  have e1 : 10 * i + x = 10 * (i + x / 10) + x % 10 := by omega
  have e2 : x = 10 * (x / 10) + x % 10 := by omega
  have hj : x / 10 < rows.length := by omega
  show sg rows (10 * i + x) = sg (rot i rows) x
  rw [e1, sg_at _ _ _ (Nat.mod_lt _ (by omega))]
  conv => rhs; rw [e2]
  rw [sg_at _ _ _ (Nat.mod_lt _ (by omega))]
  have := rot_get (ring := rows) hi hj
  have h2 := rg_self (ring := rot i rows) (j := x / 10) (by rw [hl]; exact hj)
  rw [this] at h2
  rw [← Option.some.inj h2, Nat.add_comm]
theorem sign_lt (x y : Str) : signZ x y < 0 ↔ x.cps.toList < y.cps.toList := by
  unfold signZ
  by_cases h : x.cps.toList < y.cps.toList
  · have h' : ¬ y.cps.toList < x.cps.toList := fun q => List.lt_irrefl _ (List.lt_trans h q)
    simp [h, h']
  · simp only [h, decide_false, Bool.false_eq_true, if_false, iff_false]
    split <;> omega
theorem sign_gt (x y : Str) : 0 < signZ x y ↔ y.cps.toList < x.cps.toList := by
  unfold signZ
  by_cases h : y.cps.toList < x.cps.toList
  · have h' : ¬ x.cps.toList < y.cps.toList := fun q => List.lt_irrefl _ (List.lt_trans h q)
    simp [h, h']
  · simp only [h, decide_false, Bool.false_eq_true, if_false, iff_false]
    split <;> omega
end
section
theorem order_lt {rows : List (List Int)} (hok : ∀ rs ∈ rows, RkOk rs) {i j : Nat} (hi : i ≤ rows.length) (hj : j ≤ rows.length) : decide (signZ (sxT rows i) (sxT rows j) < 0) = ltR (rot i rows) (rot j rows) := by
  have hm : ∀ i, ∀ x ∈ rot i rows, RkOk x := fun i x hx => by
    unfold rot at hx
    rcases List.mem_append.mp hx with hx | hx
    · exact hok _ (List.mem_of_mem_drop hx)
    · exact hok _ (List.mem_of_mem_take hx)
  have hl : ∀ i, i ≤ rows.length → (rot i rows).length = rows.length := fun i hi => by unfold rot; rw [List.length_append, List.length_drop, List.length_take]; omega
  rw [Bool.eq_iff_iff, decide_eq_true_iff, sign_lt]
  unfold sxT
  rw [turn_rot hi, turn_rot hj, tx_flat, tx_flat]
  exact rows_lt ((hl i hi).trans (hl j hj).symm) (hm i) (hm j)
theorem order_eq {rows : List (List Int)} (hok : ∀ rs ∈ rows, RkOk rs) (h0 : 0 < rows.length) :
    kEv (fun i j => decide (signZ (sxT rows i) (sxT rows j) < 0)) (kas_sort rows.length) = kEv (fun i j => ltR (rot i rows) (rot j rows)) (kas_sort rows.length) :=
  kEv_congr (fun i j hi hj => order_lt hok (by omega) (by omega)) _ (in_sort h0)
theorem red_ix (sx : Nat → Str) : ∀ k, redIx sx k = redL (fun i => (sx i).cps.toList) k
  | 0 => rfl
  | k + 1 => by
    unfold redIx redL
    rw [red_ix sx k]
    by_cases q : 0 < signZ (sx (redL (fun i => (sx i).cps.toList) k)) (sx (k + 1))
    · rw [if_pos q, if_pos ((sign_gt _ _).mp q)]
    · rw [if_neg q, if_neg fun x => q ((sign_gt _ _).mpr x)]
theorem rot_twice (b : List (List Int)) (j : Nat) (hj : j ≤ b.length) : rot (b.length + j) (b ++ b) = rot j (b ++ b) := by
  unfold rot
  rw [List.drop_append, List.take_append, List.drop_append, List.take_append]
  rw [List.drop_of_length_le (show b.length ≤ b.length + j by omega), List.take_of_length_le (show b.length ≤ b.length + j by omega)]
  rw [show b.length + j - b.length = j by omega, show j - b.length = 0 by omega]
  simp
theorem kEv_in {α : Type} {n : Nat} {R : α → Prop} (lt : Nat → Nat → Bool) : ∀ t : KasT α, kIn n R t → R (kEv lt t)
  | .ret a, h => h
  | .ask i j k, h => kEv_in lt (k (lt i j)) (h.2.2 _)
theorem front_eq {rows b : List (List Int)} (hb : 1 ≤ b.length) (hb4 : b.length ≤ 4) (hr : rows = b ∨ rows = b ++ b) :
    (kEv (fun i j => decide (signZ (sxT rows i) (sxT rows j) < 0)) (kas_sort rows.length)).toList.getD 0 0 = redIx (sxT rows) (rows.length - 1) := by
  have e : (fun i j => decide (signZ (sxT rows i) (sxT rows j) < 0)) = fun i j => decide ((sxT rows i).cps.toList < (sxT rows j).cps.toList) := by
    funext i j
    exact decide_eq_decide.mpr (sign_lt _ _)
  rw [e, red_ix]
  refine first_least (l := fun i => (sxT rows i).cps.toList) (m := b.length) hb hb4 ?_ fun i hi => ?_
  · rcases hr with rfl | rfl
    · exact .inl rfl
    · exact .inr (List.length_append ..)
  · show (sxT rows i).cps.toList = (sxT rows (i % b.length)).cps.toList
    congr 2
    rcases hr with rfl | rfl
    · rw [Nat.mod_eq_of_lt hi]
    · rw [List.length_append] at hi
      by_cases q : i < b.length
      · rw [Nat.mod_eq_of_lt q]
      · have em : i % b.length = i - b.length := by
          rw [Nat.mod_eq_sub_mod (by omega), Nat.mod_eq_of_lt (by omega)]
        rw [em]
        unfold sxT
        rw [turn_rot (by rw [List.length_append]; omega), turn_rot (by rw [List.length_append]; omega)]
        have := rot_twice b (i - b.length) (by omega)
        rw [show b.length + (i - b.length) = i by omega] at this
        rw [this]
theorem out_head {p : Array Nat} {x : Nat} (h : p.toList.getD 0 0 = x) (h0 : 0 < p.size) : (p.toList.map fun i : Nat => (i : Int)).getD 0 0 = (x : Int) := by
  rw [← Array.length_toList] at h0
  cases q : p.toList with
  | nil => rw [q] at h0; simp at h0
  | cons a r =>
    rw [q] at h
    have h' : a = x := by simpa using h
    rw [h']; rfl
theorem ring_len (ms : List Int) : (ringM ms).length = ms.length := List.length_map ..
theorem ring_two (ns : List Int) : ∃ b, 1 ≤ b.length ∧ b.length ≤ 4 ∧ (ringM (modesM ns) = b ∨ ringM (modesM ns) = b ++ b) := by
  refine ⟨ringM (baseM ns), ?_, ?_, ?_⟩
  · rw [ring_len]; unfold baseM; simp
  · rw [ring_len]; unfold baseM; simp only [List.length_cons, List.length_map, List.length_take]; omega
  · unfold modesM
    split
    · exact .inr (List.map_append ..)
    · exact .inl rfl
end
section
theorem mk_lam {w : World} {A : Around} {E : Value → Shared → Prop} {b h : Heap} {g : Array GenState} {d : Drawn} {t : Nat} {os : OsState} {L : Addr} {m : Str → Option Value} {T : List (Addr × Obj)} {env : Env} {Q : Value → Shared → Prop} {params : Arguments} {body : Expr} {scope : Scope} {pos : Pos} {c P : Addr} {ps : Array Value} {clos : List (Str × Addr)} {F : Obj → List (Addr × Obj)} (G : Gr w b) (S : St b L m T h) (hdef : defaultsOf params env = ([], [])) (hcl : closureFor scope env = pure clos) (hge : env.globals = mainGlobals) (hcode : env.code = .ref c) (C : CodeHd b c P) (hp : ∀ o', Put P (tabObj ps) o' T (F o')) (ht : TriplesOk ps.toList) (hnf : codeAmong pos ps.toList = none)
    (q : ∀ f c' oc ctv pm h' t', CodeNm oc (env.qual ++ Str.ofString "<lambda>") → St b L m ((f, kla_obj (Str.ofString "<lambda>") (env.qual ++ Str.ofString "<lambda>") params body scope clos pm c' ctv) :: (c', oc) :: F (tabObj (ps ++ #[rawInt pos.line, rawInt pos.col, .ref c']))) h' → Q (.ref f) ⟨h', g, d, t', os⟩) :
    wpAny (model PG w) A (eval (.Lambda params body scope pos) env) Q E ⟨h, g, d, t, os⟩ := by
  have hP := S.get (hp default).old
  obtain ⟨mg, n, n1, n2⟩ := G.ns S.keep hP
  refine kla_eval (s := ⟨h, g, d, t, os⟩) hdef ?_
  refine kla_makeFunction (s := ⟨h, g, d, t, os⟩) (mg := mg) hcl hge n hcode (C.keeps S.keep) hP ht hnf n1 n2 fun c' ctv h' tk hx hge hlt hrec htb => ?_
  obtain ⟨c₂, oc, vs, tq, e2, hoc, hd, hv⟩ := hrec
  cases e2
  have S₁ := S.upd (hp _) hx htb
  have S₂ := S.adopt S₁ ((hp _).keys) (Heap.get?_none_of_le hge) hoc
  exact q _ c' oc ctv _ _ _ ⟨vs, tq, hd, hv⟩ (S₂.push _ rfl)
theorem St.toOwn2 {b h : Heap} {L : Addr} {m : Str → Option Value} {T : List (Addr × Obj)} (S : St b L m T h) (h0 : L ≠ 0) : ∃ oL, NsO oL m ∧ Own b ((L, oL) :: T) h := by
  obtain ⟨⟨oL, es, ep, g1, g2, g3, g4⟩, nl, off⟩ := S.fr.resolve_left h0
  refine ⟨oL, ⟨es, ep, g2, g3, g4⟩, List.nodup_cons.mpr ⟨off, S.own.nodup⟩, fun p hp => ?_, S.own.keep, fun p hp => ?_⟩
  · rcases List.mem_cons.mp hp with rfl | hp
    · exact g1
    · exact S.own.get p hp
  · rcases List.mem_cons.mp hp with rfl | hp
    · exact nl
    · exact S.own.new p hp
noncomputable def posOf : Expr → Pos
  | .Lambda _ _ _ p => p
  | _ => default
theorem law_s9 {w : World} {A : Around} {b h : Heap} {g : Array GenState} {d : Drawn} {t : Nat} {os : OsState} {L cS cT cB cR cU : Addr} {T2 : List (Addr × Obj)} {m : Str → Option Value} {Q : Flow → Shared → Prop} {E : Value → Shared → Prop} (G : Gr w b) (hh : A.handled = none) (hA : A.depth + 90 < recursionLimit) (hL0 : L ≠ 0)
    (S : St b L m ((130, tabObj #[]) :: (cB, cellO none) :: T2) h)
    (q : ∀ h' t' fb c' oc pm ctv ps, CodeNm oc qLam → ps = #[rawInt (posOf besE).line, rawInt (posOf besE).col, .ref c'] → St b L m ((fb, besO cU c' pm ctv) :: (c', oc) :: (130, tabObj ps) :: (cB, cellO (some (.ref fb))) :: T2) h' →
      wpAny (model PG w) A (execs (lawFrom 10) (ev133 L cS cT cB cR cU)) Q E ⟨h', g, d, t', os⟩) :
    wpAny (model PG w) A (execs (lawFrom 9) (ev133 L cS cT cB cR cU)) Q E ⟨h, g, d, t, os⟩ := by
  have eq : (ev133 L cS cT cB cR cU).qual ++ Str.ofString "<lambda>" = qLam := by kernel_rfl
  conv => arg 3; arg 1; whnf
  repeat (walk_at "ast")
  refine mk_lam G S rfl rfl rfl rfl (code130 G) (fun o' => Put.head) (by simp [TriplesOk]) rfl fun f c' oc ctv pm h' t' hq S' => ?_
  rw [eq] at hq S'
  refine' n_cellSet S' ?cc1 ?pp1 ?kk1 ?ll1 (fun h₆ S₆ => ?_)
  case cc1 => exact rfl
  case pp1 => walk_at "put"
  case kk1 => exact rfl
  case ll1 => exact rfl
  dsimp only
  exact q _ _ _ _ _ _ _ _ hq rfl S₆
end
section
theorem BesIn.mono {T T' : List (Addr × Obj)} {fb : Addr} {sx : Nat → Str} {n : Nat} (B : BesIn T fb sx n) (k : ∀ p ∈ T, p ∈ T') : BesIn T' fb sx n := by
  obtain ⟨ct, c', pm, ctv, oc, lt, vs, kk, b1, b2, b3, b4, b5, b6⟩ := B.ex
  exact ⟨ct, c', pm, ctv, oc, lt, vs, kk, k _ b1, k _ b2, b3, k _ b4, k _ b5, b6⟩
theorem law_s10 {w : World} {A : Around} {b h : Heap} {g : Array GenState} {d : Drawn} {t : Nat} {os : OsState} {L cS cT cB cR cU fb lm : Addr} {um : List Value} {nm n : Nat} {sx : Nat → Str} {T2 : List (Addr × Obj)} {m : Str → Option Value} {Q : Flow → Shared → Prop} {E : Value → Shared → Prop} (G : Gr w b) (hh : A.handled = none) (hA : A.depth + 90 < recursionLimit) (hU : A.units + 60 < cLine) (hL0 : L ≠ 0)
    (hcB : (cB, cellO (some (.ref fb))) ∈ T2) (hlm : (lm, lst um.toArray nm) ∈ T2) (hlen : um.length = n) (h1 : 1 ≤ n) (h8 : n ≤ 8) (hm1 : m (Str.ofString "modes") = some (.ref lm)) (B : BesIn T2 fb sx n)
    (S : St b L m ((43, tabObj #[]) :: T2) h)
    (q : ∀ h' t' D out k ps, IntsAre out ((kEv (fun i j => decide (signZ (sx i) (sx j) < 0)) (kas_sort n)).toList.map fun i : Nat => (i : Int)) → St b L (fun y => if y = Str.ofString "order" then some (.ref D) else m y) ((D, lst out.toArray k) :: (43, tabObj ps) :: T2) h' →
      wpAny (model PG w) A (execs (lawFrom 11) (ev133 L cS cT cB cR cU)) Q E ⟨h', g, d, t', os⟩) :
    wpAny (model PG w) A (execs (lawFrom 10) (ev133 L cS cT cB cR cU)) Q E ⟨h, g, d, t, os⟩ := by
  conv => arg 3; arg 1; whnf
  repeat (walk_at "ast")
  refine call_nameKw ?_
  repeat (walk_at "ast")
  refine callWith_builtin_kwB (by with_unfolding_all rfl) (by with_unfolding_all rfl) ?_
  refine ea_kw (by with_unfolding_all rfl) (by with_unfolding_all rfl) ?_
  repeat (walk_at "ast")
  refine l_len (S.get (List.mem_cons_of_mem _ hlm)) (by rw [List.size_toArray]; omega) fun t1 tk1 => ?_
  repeat (walk_at "ast")
  refine r_range1 S fun r h₇ t₇ ta tc S₇ => ?_
  rw [List.size_toArray, hlen] at S₇
  repeat (walk_at "ast")
  refine kw_cons ?_
  repeat (walk_at "ast")
  obtain ⟨oL, hoL, O7⟩ := S₇.toOwn2 hL0
  have O8 : Own b ((43, tabObj #[]) :: (L, oL) :: (r, rangeO 0 (n : Int) 1 ta tk1 tc) :: T2) h₇ := O7.perm ((List.Perm.cons _ (List.Perm.swap _ _ _)).trans (List.Perm.swap _ _ _))
  refine wpAny_call (c_cmp G O8 (by omega) fun K c TK ps h9 t9 hK O9 => ?_)
  refine kw_nil ?_
  have ndT : (TK.map (·.1)).Nodup := by
    have := O9.nodup
    rw [List.map_append, List.nodup_append] at this
    exact this.1
  obtain ⟨md, f0, c0, f1, c1, F⟩ := hK.facts ndT
  show wpAny (model PG w) A (call (.builtin "sorted") [.ref r] [(Str.ofString "key", .ref K)]) _ _ _
  refine srt_K (r := r) (n := n) (sx := sx) G hh (by omega) hU O9 (List.mem_append_right _ (List.mem_cons_of_mem _ (List.mem_cons_of_mem _ (List.mem_cons_of_mem _ (List.mem_cons_self ..))))) F (fun x hx => List.mem_append_left _ hx) (List.mem_append_right _ (List.mem_cons_self ..)) (B.mono fun x hx => List.mem_append_right _ (List.mem_cons_of_mem _ (List.mem_cons_of_mem _ (List.mem_cons_of_mem _ (List.mem_cons_of_mem _ hx))))) h1 h8 fun D k h10 t10 out hout O10 => ?_
  have O11 : Own b ((L, oL) :: (D, lst out.toArray k) :: (43, tabObj ps) :: T2) h10 := by
    refine (O10.sub (T' := (D, lst out.toArray k) :: (43, tabObj ps) :: (L, oL) :: T2) ?_).perm ?_
    · refine .cons₂ _ ?_
      exact List.Sublist.trans (.cons _ (.cons₂ _ (.cons₂ _ (.cons _ (.refl _))))) (List.sublist_append_right TK _)
    · exact (List.Perm.cons _ (List.Perm.swap _ _ _)).trans (List.Perm.swap _ _ _)
  have S11 := St.ofOwn2 O11 hoL
  refine n_store S11 hL0 rfl rfl rfl fun h12 t12 S12 => ?_
  dsimp only
  exact q _ _ _ _ _ _ hout S12
end
section
theorem tri3 (l c : Nat) (a : Addr) : TriplesOk [rawInt l, rawInt c, .ref a] := by simp [TriplesOk, rawInt]
theorem law_s11 {w : World} {A : Around} {b h : Heap} {g : Array GenState} {d : Drawn} {t : Nat} {os : OsState} {L cS cT cB cR cU fb lm cq : Addr} {um : List Value} {nm n : Nat} {sx : Nat → Str} {ps : Array Value} {T2 : List (Addr × Obj)} {m : Str → Option Value} {Q : Flow → Shared → Prop} {E : Value → Shared → Prop} (G : Gr w b) (hh : A.handled = none) (hA : A.depth + 90 < recursionLimit) (hU : A.units + 60 < cLine) (hL0 : L ≠ 0)
    (hcB : (cB, cellO (some (.ref fb))) ∈ T2) (hlm : (lm, lst um.toArray nm) ∈ T2) (hlen : um.length = n) (h1 : 1 ≤ n) (h8 : n ≤ 8) (hm1 : m (Str.ofString "modes") = some (.ref lm)) (B : BesIn T2 fb sx n)
    (hps : ps = #[rawInt (posOf besE).line, rawInt (posOf besE).col, .ref cq])
    (S : St b L m ((130, tabObj ps) :: T2) h)
    (q : ∀ h' t' tk ps' cq', ps' = ps ++ #[rawInt (posOf froE).line, rawInt (posOf froE).col, .ref cq'] → St b L (fun y => if y = Str.ofString "front" then some (.int ((redIx sx (n - 1) : Nat) : Int) tk) else m y) ((130, tabObj ps') :: T2) h' →
      wpAny (model PG w) A (execs (lawFrom 12) (ev133 L cS cT cB cR cU)) Q E ⟨h', g, d, t', os⟩) :
    wpAny (model PG w) A (execs (lawFrom 11) (ev133 L cS cT cB cR cU)) Q E ⟨h, g, d, t, os⟩ := by
  have eq : (ev133 L cS cT cB cR cU).qual ++ Str.ofString "<lambda>" = qLam := by kernel_rfl
  conv => arg 3; arg 1; whnf
  repeat (walk_at "ast")
  refine mk_lam G S rfl rfl rfl rfl (code130 G) (fun o' => Put.head) (by subst hps; exact tri3 _ _ _) (by subst hps; rfl) fun ff cf ocf ctv pm h' t' hq S' => ?_
  rw [eq] at hq S'
  repeat (walk_at "ast")
  refine l_len (S'.get (List.mem_cons_of_mem _ (List.mem_cons_of_mem _ (List.mem_cons_of_mem _ hlm)))) (by rw [List.size_toArray]; omega) fun t1 tk1 => ?_
  repeat (walk_at "ast")
  refine r_range1 S' fun r h₇ t₇ ta tc S₇ => ?_
  rw [List.size_toArray, hlen] at S₇
  repeat (walk_at "ast")
  obtain ⟨ct, c', pmb, ctvb, oc, lt, vs, kk, b1, b2, b3, b4, b5, b6⟩ := B.ex
  obtain ⟨n', rfl⟩ : ∃ n', n = n' + 1 := ⟨n - 1, by omega⟩
  have inT : ∀ x ∈ T2, h₇.get? x.1 = some x.2 := fun x hx => S₇.get (List.mem_cons_of_mem _ (List.mem_cons_of_mem _ (List.mem_cons_of_mem _ (List.mem_cons_of_mem _ hx))))
  refine wpAny_call (c_reduce (n := n') (G.keeps S₇.keep) hh (by omega) (S₇.get (List.mem_cons_self ..)) (S₇.get (List.mem_cons_of_mem _ (List.mem_cons_self ..))) (S₇.get (List.mem_cons_of_mem _ (List.mem_cons_of_mem _ (List.mem_cons_self ..)))) hq (inT _ hcB) (inT _ b1) (inT _ b2) b3 (inT _ b4) (inT _ b5) (by omega) b6 fun h8' t8 tk8 k8 => ?_)
  have S₈ := S₇.grown k8
  refine n_store (S₈.sub (T' := _ :: T2) (.cons _ (.cons _ (.cons _ (.refl _))))) hL0 rfl rfl rfl fun h12 t12 S12 => ?_
  dsimp only
  exact q _ _ _ _ _ rfl S12
end
section
theorem tri6 (l c l2 c2 : Nat) (a a2 : Value) : TriplesOk [rawInt l, rawInt c, a, rawInt l2, rawInt c2, a2] := by simp [TriplesOk, rawInt]
theorem RowsIn.mono {T T' : List (Addr × Obj)} {vs : List Value} {rows : List (List Int)} (R : RowsIn T vs rows) (k : ∀ p ∈ T, p ∈ T') : RowsIn T' vs rows :=
  ⟨R.1, fun j v e => let ⟨a, us, n, e1, m, i⟩ := R.2 j v e; ⟨a, us, n, e1, k _ m, i⟩⟩
theorem mem5 {α : Type} {x a b c d e : α} {T : List α} (hx : x ∈ T) : x ∈ a :: b :: c :: d :: e :: T := List.mem_cons_of_mem _ (List.mem_cons_of_mem _ (List.mem_cons_of_mem _ (List.mem_cons_of_mem _ (List.mem_cons_of_mem _ hx))))
theorem law_s12 {w : World} {A : Around} {b h : Heap} {g : Array GenState} {d : Drawn} {t : Nat} {os : OsState} {L cS cT cB cR cU lr lm cq cq' : Addr} {um vs : List Value} {nm n k : Nat} {rows : List (List Int)} {ps : Array Value} {T2 : List (Addr × Obj)} {m : Str → Option Value} {Q : Flow → Shared → Prop} {E : Value → Shared → Prop} (G : Gr w b) (hh : A.handled = none) (hA : A.depth + 90 < recursionLimit) (hU : A.units + 60 < cLine) (hL0 : L ≠ 0)
    (hcR : (cR, cellO (some (.ref lr))) ∈ T2) (hlr : (lr, lst vs.toArray k) ∈ T2) (hR : RowsIn T2 vs rows) (h10 : ∀ x ∈ rows, x.length = 10) (hlm : (lm, lst um.toArray nm) ∈ T2) (hlen : um.length = n) (hn : rows.length = n) (h1 : 1 ≤ n) (h8 : n ≤ 8) (hm1 : m (Str.ofString "modes") = some (.ref lm))
    (hps : ps = #[rawInt (posOf besE).line, rawInt (posOf besE).col, .ref cq] ++ #[rawInt (posOf froE).line, rawInt (posOf froE).col, .ref cq'])
    (S : St b L m ((130, tabObj ps) :: T2) h)
    (q : ∀ h' t' D out k ps', IntsAre out ((kEv (fun i j => ltR (rot i rows) (rot j rows)) (kas_sort n)).toList.map fun i : Nat => (i : Int)) → St b L (fun y => if y = Str.ofString "ranked" then some (.ref D) else m y) ((D, lst out.toArray k) :: (130, tabObj ps') :: T2) h' →
      wpAny (model PG w) A (execs (lawFrom 13) (ev133 L cS cT cB cR cU)) Q E ⟨h', g, d, t', os⟩) :
    wpAny (model PG w) A (execs (lawFrom 12) (ev133 L cS cT cB cR cU)) Q E ⟨h, g, d, t, os⟩ := by
  have eq : (ev133 L cS cT cB cR cU).qual ++ Str.ofString "<lambda>" = qLam := by kernel_rfl
  conv => arg 3; arg 1; whnf
  repeat (walk_at "ast")
  refine call_nameKw ?_
  repeat (walk_at "ast")
  refine callWith_builtin_kwB (by with_unfolding_all rfl) (by with_unfolding_all rfl) ?_
  refine ea_kw (by with_unfolding_all rfl) (by with_unfolding_all rfl) ?_
  repeat (walk_at "ast")
  refine l_len (S.get (List.mem_cons_of_mem _ hlm)) (by rw [List.size_toArray]; omega) fun t1 tk1 => ?_
  repeat (walk_at "ast")
  refine r_range1 S fun r h₇ t₇ ta tc S₇ => ?_
  rw [List.size_toArray, hlen] at S₇
  repeat (walk_at "ast")
  refine kw_cons ?_
  have S₈ := S₇.perm (List.Perm.swap _ _ _)
  refine mk_lam G S₈ rfl rfl rfl rfl (code130 G) (fun o' => Put.head) (by subst hps; exact tri6 _ _ _ _ _ _) (by subst hps; rfl) fun ff cf ocf ctv pm h' t' hq S' => ?_
  rw [eq] at hq S'
  refine kw_nil ?_
  show wpAny (model PG w) A (call (.builtin "sorted") [.ref r] [(Str.ofString "key", .ref ff)]) _ _ _
  obtain ⟨oL, hoL, O9⟩ := S'.toOwn2 hL0
  refine srt_R (r := r) (n := n) (vs := vs) (rows := rows) G hh (by omega) hU O9 (List.mem_cons_of_mem _ (List.mem_cons_of_mem _ (List.mem_cons_of_mem _ (List.mem_cons_of_mem _ (List.mem_cons_self ..))))) ⟨cR, cf, pm, ctv, ocf, lr, k, List.mem_cons_of_mem _ (List.mem_cons_self ..), List.mem_cons_of_mem _ (List.mem_cons_of_mem _ (List.mem_cons_self ..)), hq, mem5 hcR, mem5 hlr⟩ (hR.mono fun x hx => mem5 hx) hn h10 h1 h8 fun D k' h10' t10 out hout O10 => ?_
  have O11 := (O10.sub (T' := (D, lst out.toArray k') :: (L, oL) :: _ :: T2) (.cons₂ _ (.cons₂ _ (.cons _ (.cons _ (.cons₂ _ (.cons _ (.refl _)))))))).perm (List.Perm.swap _ _ _)
  have S11 := St.ofOwn2 O11 hoL
  refine n_store S11 hL0 rfl rfl rfl fun h12 t12 S12 => ?_
  dsimp only
  exact q _ _ _ _ _ _ hout S12
end
section
theorem and2 {M : Model} {A : Around} {E : Value → Shared → Prop} {s : Shared} {env : Env} {pos : Pos} {e1 e2 : Expr} {Q : Value → Shared → Prop}
    (q : wpAny M A (eval e1 env) (fun v s1 => wpAny M A (truthy v) (fun t s2 => if t = true then wpAny M A (eval e2 env) Q E s2 else Q v s2) E s1) E s) : wpAny M A (eval (.BoolOp .And [e1, e2] pos) env) Q E s := by
  rw [arm_eval_BoolOp]
  show wpAny M A (do
    let v ← eval e1 env
    standAt pos
    let t ← holding [v] (truthy v)
    match BoolOp.And, t with
    | .And, false | .Or, true => pure v
    | _, _ => boolOp pos .And [eval e2 env]) Q E s
  refine wpAny_bind (wpAny_mono q (fun v s1 h1 => wpAny_bind (wpAny_standAt (wpAny_bind (wpAny_holding (wpAny_mono h1 (fun t s2 h2 => ?_) fun _ _ x => x))))) fun _ _ x => x)
  cases t with
  | true => rw [if_pos rfl] at h2; exact h2
  | false => rw [if_neg (by decide)] at h2; exact wpAny_pure h2
theorem law_s13 {w : World} {A : Around} {b h : Heap} {g : Array GenState} {d : Drawn} {t : Nat} {os : OsState} {L cS cT cB cR cU D1 D2 : Addr} {o1 o2 : List Value} {k1 k2 f : Nat} {tf : Tok} {ns : List Int} {T : List (Addr × Obj)} {m : Str → Option Value} {Q : Flow → Shared → Prop} {E : Value → Shared → Prop} (G : Gr w b) (hh : A.handled = none) (hU : A.units + 100 < cLine) (hL0 : L ≠ 0)
    (hm1 : m (Str.ofString "order") = some (.ref D1)) (hm2 : m (Str.ofString "ranked") = some (.ref D2)) (hm3 : m (Str.ofString "front") = some (.int (f : Int) tf))
    (h1 : (D1, lst o1.toArray k1) ∈ T) (h2 : (D2, lst o2.toArray k2) ∈ T) (i1 : IntsAre o1 ns) (i2 : IntsAre o2 ns) (h0 : 0 < ns.length) (hl : ns.length ≤ 8) (hf : ns.getD 0 0 = (f : Int))
    (S : St b L m T h)
    (q : ∀ h' t', St b L m T h' → Q (.ret (.bool true)) ⟨h', g, d, t', os⟩) :
    wpAny (model PG w) A (execs (lawFrom 13) (ev133 L cS cT cB cR cU)) Q E ⟨h, g, d, t, os⟩ := by
  conv => arg 3; arg 1; whnf
  repeat (walk_at "ast")
  refine and2 ?_
  repeat (walk_at "ast")
  have gr : ∀ {D : Addr} {o : List Value} {k : Nat}, (D, lst o.toArray k) ∈ T → IntsAre o ns → ∃ as, Reads h (.ref D) (.list (ns.map .int)) as := fun hm hi => by
    obtain ⟨as, r⟩ := reads_row (h := h) (v := .ref _) (ns := ns) ⟨_, _, _, rfl, S.get hm, hi⟩
    exact ⟨as, r⟩
  obtain ⟨as1, ra⟩ := gr h1 i1
  obtain ⟨as2, rb⟩ := gr h2 i2
  have hp : pl (.list (ns.map .int)) = true := by simp only [pl]; exact pl_ints ns
  have hd : (PyData.list (ns.map .int)).depth ≤ 64 := by
    have := W.depthAll_ints ns
    simp only [PyData.depth]; omega
  refine eq_d (s := ⟨h, g, d, _, os⟩) ra rb hp hp hd hd (by omega) fun c hc => ?_
  obtain rfl : c = true := hc.mpr rfl
  refine wpAny_truthy_bool ?_
  rw [if_pos rfl]
  repeat (walk_at "ast")
  refine l_itemI S h2 i2 (Int.le_refl 0) (by omega) (by omega) fun tk => ?_
  rw [show ((0 : Int).toNat) = 0 from rfl, hf]
  refine eq_d (s := ⟨h, g, d, _, os⟩) (.int _ _) (.int _ _) (by simp [pl]) (by simp [pl]) (by simp [PyData.depth]) (by simp [PyData.depth]) (by omega) fun c hc => ?_
  obtain rfl : c = true := hc.mpr rfl
  exact q _ _ S
end
section
theorem mem8 {α : Type} {x a b c d e f g i : α} {T : List α} (hx : x ∈ T) : x ∈ a :: b :: c :: d :: e :: f :: g :: i :: T := List.mem_cons_of_mem _ (List.mem_cons_of_mem _ (List.mem_cons_of_mem _ (mem5 hx)))
theorem c_law {w : World} {A : Around} {b h : Heap} {g : Array GenState} {d : Drawn} {t : Nat} {os : OsState} {l : Addr} {vs : List Value} {ns : List Int} {R : Result → Shared → Prop} (G : Gr w b) (hh : A.handled = none) (hA : A.depth + 110 < recursionLimit) (hU : A.units + 110 < cLine) (hfr : A.frames = some [])
    (hl : b.IsList l vs.toArray) (hI : IntsAre vs ns) (hn : ns.length ≤ 63)
    (O : Own b [(36, tabObj #[]), (43, tabObj #[]), (130, tabObj #[])] h)
    (q : ∀ h' t' p1 p2 p3, Kp b h' → h'.get? 36 = some (tabObj p1) → h'.get? 43 = some (tabObj p2) → h'.get? 130 = some (tabObj p3) → R (.ok (.ret (.bool true))) ⟨h', g, d, t', os⟩) :
    codeAny (model PG w) A (.call (.ref 133) ⟨[.ref l], []⟩) R ⟨h, g, d, t, os⟩ := by
  refine c_law_in G O (by omega) fun L cS cT cB cR cU h1 t1 hL0 S1 => ?_
  have hfr' : (A.deeper (ev133 L cS cT cB cR cU)).frames = some [ev133 L cS cT cB cR cU] := by show A.frames.map _ = _; rw [hfr]; rfl
  have hd : (A.deeper (ev133 L cS cT cB cR cU)).depth = A.depth + 1 := rfl
  have hu : (A.deeper (ev133 L cS cT cB cR cU)).units = A.units + 3 := rfl
  have hh' : (A.deeper (ev133 L cS cT cB cR cU)).handled = none := hh
  generalize hAA : A.deeper (ev133 L cS cT cB cR cU) = AA at *
  show wpAny (model PG w) AA (execs (lawFrom 0) (ev133 L cS cT cB cR cU)) _ _ _
  refine law_s0 G hh' (by omega) hL0 hl hI hn rfl S1 fun lm us n h2 t2 m2 e2 hM S2 => ?_
  have hok := modes_ok ns
  obtain ⟨bb, hb1, hb4, hbb⟩ := ring_two ns
  generalize modesM ns = ms at hM hok hbb
  have hml := ring_len ms
  have hpos := hok.pos
  have hle := hok.le
  have hro := ring_ok hok
  refine law_s2 G hh' (by omega) hL0 hok hM e2 S2 fun h3 t3 m3 tk3 ts3 tt3 e3 f3 S3 => ?_
  have S3' : St b L m3 ((lm, lst us.toArray n) :: (cR, cellO none) :: [(cS, cellO (some (.int ((10 * ms.length : Nat) : Int) ts3))), (cT, cellO (some (.str (tx (sg (ringM ms)) (10 * ms.length + 10 * ms.length)) tt3))), (cB, cellO none), (cU, cellO none), (36, tabObj #[]), (43, tabObj #[]), (130, tabObj #[])]) h3 :=
    S3.perm (List.Perm.cons _ (List.perm_middle (l₁ := [_, _, _])))
  refine law_s5 (o1 := default) (o2 := default) G hh' (by omega) hL0 hok hM e3 S3' fun h4 t4 lr vr kr X hR S4 => ?_
  have hRT : RowsIn (X ++ (lm, lst us.toArray n) :: (cR, cellO (some (.ref lr))) :: [(cS, cellO (some (.int ((10 * ms.length : Nat) : Int) ts3))), (cT, cellO (some (.str (tx (sg (ringM ms)) (10 * ms.length + 10 * ms.length)) tt3))), (cB, cellO none), (cU, cellO none), (36, tabObj #[]), (43, tabObj #[]), (130, tabObj #[])]) vr (ringM ms) := hR.mono fun x hx => List.mem_append_left _ hx
  refine law_s6 G hh' (by omega) hL0 hRT hro (by omega) (List.mem_append_right _ (by walk_at "mem")) S4 fun h5 t5 tk5 S5 => ?_
  generalize hrows : ringM ms = rows at *
  generalize hZ : (lr, lst vr.toArray kr) :: X = Z at *
  have hRZ : RowsIn Z vr rows := by rw [← hZ]; exact hR.mono fun x hx => List.mem_cons_of_mem _ hx
  have hlrZ : (lr, lst vr.toArray kr) ∈ Z := by rw [← hZ]; exact List.mem_cons_self ..
  have S6 := (S5.perm (List.perm_append_comm (l₁ := (lr, lst vr.toArray kr) :: X))).perm (List.perm_middle (l₁ := [_, _, _, _, _, _]))
  rw [hZ] at S6
  refine law_s7 (N := 10 * ms.length) (rows := rows) (vs := vr) (lr := lr) (k := kr) G hh' (by omega) (by omega) hL0 hfr' (by omega) (hRZ.mono fun x hx => mem8 hx) hro (by omega) (by omega) (by walk_at "mem") (by walk_at "mem") (by walk_at "mem") (mem8 hlrZ) (by exact f3) (by rw [← hml]; exact rfl) S6 fun h7 t7 p1 S7 => ?_
  rw [← hml] at S7
  have hul : us.length = rows.length := by rw [hM.length]; exact hml.symm
  have S7' := S7.perm (List.perm_middle (l₁ := [_, _, _, _, _, _]))
  refine law_s8 (rows := rows) (um := us) (lm := lm) G hh' (by omega) hL0 (by omega) hul (by walk_at "mem") (by walk_at "mem") (by walk_at "mem") (by exact e3) S7' fun h8 t8 lt ut k8 hut hturn S8 => ?_
  have S8' := (S8.perm (List.perm_middle (l₁ := [_, _, _, _, _, _, _]))).perm (List.perm_middle (l₁ := [_, _, _, _, _, _, _, _, _]))
  refine law_s9 G hh' (by omega) hL0 S8' fun h9 t9 fb cc oc pm ctv p3 hq hp3 S9 => ?_
  have S9' := S9.perm (List.perm_middle (l₁ := [_, _, _, _, _, _, _, _, _, _, _]))
  have ht : ∀ i : Nat, i < rows.length → ∃ tk, ut[i]? = some (Value.str (sxT rows i) tk) := fun i hi => by
    obtain ⟨tk, e⟩ := hturn i _ (List.getElem?_eq_getElem (by rw [hut]; exact hi))
    exact ⟨tk, by rw [List.getElem?_eq_getElem (by rw [hut]; exact hi), e]⟩
  refine law_s10 (sx := sxT rows) (n := rows.length) (um := us) (lm := lm) (fb := fb) G hh' (by omega) (by omega) hL0 (by walk_at "mem") (by walk_at "mem") hul (by omega) (by omega) (by exact e3) ⟨cU, cc, pm, ctv, oc, lt, ut, k8, by walk_at "mem", by walk_at "mem", hq, by walk_at "mem", by walk_at "mem", ht⟩ S9' fun h10 t10 D1 o1 k1 p2 ho1 S10 => ?_
  have S10' := S10.perm (List.perm_middle (l₁ := [_, _, _, _]))
  refine law_s11 (sx := sxT rows) (n := rows.length) (um := us) (lm := lm) (fb := fb) (cq := cc) G hh' (by omega) (by omega) hL0 (by walk_at "mem") (by walk_at "mem") hul (by omega) (by omega) (by exact e3) ⟨cU, cc, pm, ctv, oc, lt, ut, k8, by walk_at "mem", by walk_at "mem", hq, by walk_at "mem", by walk_at "mem", ht⟩ hp3 S10' fun h11 t11 tk11 p4 cq' hp4 S11 => ?_
  refine law_s12 (n := rows.length) (rows := rows) (vs := vr) (lr := lr) (k := kr) (um := us) (lm := lm) (cq := cc) (cq' := cq') G hh' (by omega) (by omega) hL0 (by walk_at "mem") (by walk_at "mem") (hRZ.mono fun x hx => by walk_at "mem") (fun x hx => (hro x hx).1) (by walk_at "mem") hul rfl (by omega) (by omega) (by exact e3) (by rw [hp4, hp3]) S11 fun h12 t12 D2 o2 k2 p5 ho2 S12 => ?_
  have hr0 : 0 < rows.length := by omega
  rw [← order_eq hro hr0] at ho2
  have hsz : (kEv (fun i j => decide (signZ (sxT rows i) (sxT rows j) < 0)) (kas_sort rows.length)).size = rows.length := (kEv_in (R := Below rows.length) _ _ (in_sort hr0)).2
  refine law_s13 (D1 := D1) (D2 := D2) (f := redIx (sxT rows) (rows.length - 1)) G hh' (by omega) hL0 (by exact rfl) (by exact rfl) (by exact rfl) (by walk_at "mem") (by walk_at "mem") ho1 ho2 (by rw [List.length_map, Array.length_toList, hsz]; exact hr0) (by rw [List.length_map, Array.length_toList, hsz]; omega) (out_head (front_eq hb1 hb4 hbb) (by rw [hsz]; exact hr0)) S12 fun h13 t13 S13 => ?_
  exact q _ _ p1 p2 p5 S13.keep (S13.get (by walk_at "mem")) (S13.get (by walk_at "mem")) (S13.get (by walk_at "mem"))
end
end Mine
namespace Mine
noncomputable abbrev rO : OpenRow := PySem.Challenge.rw_oy0135_01.row
noncomputable def qV : Program := view PySem.Challenge.pw_oy0135_01 [36]
noncomputable def asK : List Nat := [2,3,6,15,22,23,24,25,28,30,31,33,34,35,37,38,40,41,42,44,45,47,48,49,50,51,53,54,56,57,58,60,61,63,64,65,66,67,68,69,70,71,72,73,74,75,76,77,78,79,80,81,82,83,84,85,86,87,88,89,90,91,92,93,94,95,96,97,98,100,101,103,104,105,107,108,110,111,112,114,115,117,118,119,122,123,124,127,128,129,132,133]
noncomputable def hkK : Hook := kmHook KH asK (fun _ => by kernel_rfl) [36, 43, 130]
noncomputable def looseN : List Str := ["TOMLDecodeError", "skip_until", "suffixed_err", "cmp_to_key", "_initial_missing", "reduce", "S_IFDIR", "S_IFCHR", "S_IFBLK", "S_IFREG", "S_IFIFO", "S_IFLNK", "S_IFSOCK", "S_IFMT", "S_ISUID", "S_ISGID", "S_ISVTX", "S_IRUSR", "S_IWUSR", "S_IXUSR", "S_IRGRP", "S_IWGRP", "S_IXGRP", "S_IROTH", "S_IWOTH", "S_IXOTH", "_filemode_table", "filemode", "_law_two", "_law_ranks", "_law_text", "_law_due"]
theorem opens1 : opening rO.prog = plainProg rO.prog.main.scope.names := by kernel_rfl
theorem fence1 (s : Shared) : fenceModules? rO.prog s = some s := by kernel_rfl
theorem run1 (w : World) (os : OsState) : Option.map (fun s => (openSeen qV looseN (importedModules rO.prog.main.body) (fun s => xlAt qV [] s && recOk rO.toRowW.records s) true s, hkK.obs s)) (topFrom treeTable rO.prog w 1200 ⟨boot_heap w.params, Array.mk [], boot_drawn, boot_toks, os⟩) = some (openGood qV looseN, hkK.val w) := by
  unfold topFrom
  rw [PySem.W.Fast.te14364793385576792824, PySem.W.Fast.te5923862056798008813, PySem.W.Fast.te14082659384304107361, PySem.W.Fast.te4187177175401517315]
  kernel_rfl
theorem left1 : LeftO rO.prog qV looseN (fun s => xlAt qV [] s && recOk rO.toRowW.records s) hkK.obs hkK.val 1200 := by
  intro w
  obtain ⟨s, hs, hv⟩ := Option.map_eq_some_iff.mp (boot_open (p := rO.prog) (N := 1200) opens1 (by decide) fence1 w)
  obtain ⟨heap, gens, drawn, toks, os⟩ := s
  obtain ⟨rfl, hv⟩ := Prod.mk.inj hv
  obtain ⟨rfl, hv⟩ := Prod.mk.inj hv
  obtain ⟨rfl, rfl⟩ := Prod.mk.inj hv
  unfold openEnds
  rw [hs, Option.bind_some]
  exact run1 w os
theorem look1 : PySem.Challenge.rw_oy0135_01.wellSaid = true := by
  unfold OpenLaw.wellSaid OpenRow.wellSaid OpenRow.partSaid looksOpen
  repeat' (with_reducible refine look_both ?_ ?_)
  all_goals (as_aux_lemma => (try rw [PySem.W.Fast.te8326940854005059898]); (try rw [PySem.W.Fast.te8377067652309620493]); (try rw [PySem.W.Fast.te17119622794617984870]); (try rw [PySem.W.Fast.te5923862056798008813]); (try rw [PySem.W.Fast.te13343964577679436407]); (try rw [show (fun (_ : Scope) n => attrL n) = fun _ n => PySem.W.Fast.tw17868728402115742887 n from by rw [PySem.W.Fast.te17868728402115742887]]); (try rw [PySem.W.Fast.named_eq]); (try rw [PySem.W.Fast.te14412699480532031325]); kernel_rfl)
end Mine
theorem PySem.Challenge.cw_oy0135_01_holds : PySem.Challenge.rw_oy0135_01.Holds := by
  refine holds_law Mine.look1 fun said => ?_
  refine holds_open (q := Mine.qV) (loose := Mine.looseN) (XP := XL Mine.qV []) (YP := Mine.hkK.says) (N := 1200) Mine.left1 Mine.hkK.of Mine.hkK.keeps (fun s e => xl_of s (Bool.and_eq_true_iff.mp e).1) XL.keeps (by rfl) (by rfl) (by rfl) (fun s e => recFacts_of (Bool.and_eq_true_iff.mp e).2) (by rfl) said (by decide +kernel) ⟨rfl, rfl, rfl, rfl, rfl, by decide +kernel⟩ ?hw ?hc
  case hw => w_witness2
  intro w s₀ s₁ mg mb G Y fa o pm cd doc dV kV ho hd hcd hD hmg hg args vals as hpre hlay hrd hwl hlo
  have KX := km_in_of Y
  km_tabs Y
  have X := (Ground.X G).1
  have V := (Ground.X G).2
  refine Ground.open G ?_
  intro T B D TE TW
  try (refine guard_noD D (by decide +kernel) ?_; clear D)
  have h133 : mg (Str.ofString "law") = some (.ref 133) := PySem.W.mg_of KX T.g (by kernel_rfl)
  have hfa : fa = 133 := by
    have := hmg.symm.trans h133
    cases this; rfl
  have hT9 : TabsAt [(40, 36), (47, 43), (132, 130)] s₁.heap := List.forall_mem_cons.mpr ⟨⟨codeHd_of_K (c := 40) (P := 36) KX (by kernel_rfl), hT8 36 (by decide)⟩, List.forall_mem_cons.mpr ⟨⟨codeHd_of_K (c := 47) (P := 43) KX (by kernel_rfl), hT8 43 (by decide)⟩, List.forall_mem_cons.mpr ⟨⟨codeHd_of_K (c := 132) (P := 130) KX (by kernel_rfl), hT8 130 (by decide)⟩, fun _ h => nomatch h⟩⟩⟩
  have he9 : cd = .ref 132 := law_code (x := Str.ofString "law") (c := 132) (P := 130) KX T.g (by kernel_rfl) hmg ho hd
  subst he9
  clear hmg
  wrow_args hpre hlay hrd hwl hlo
  all_goals (
    first | refine callC_kw (enter_call ?_) | refine enter_call ?_
    w_top on
    kn_posts)
  subst hfa
  rename_i ns _ _ _ _ _ _ _ l vs _ hL _ _ _ hI _ hcond _
  have hns : ns.length ≤ 63 := by omega
  have X' : (Mine.KF w).In (ghostOf s₁.heap [(40, 36), (47, 43), (132, 130)]) := ghost_K hT9 KX (by kernel_rfl)
  have Gr' := Mine.Gr.of_top X' (ghost_top hT9 T)
  have O' : Mine.Own (ghostOf s₁.heap [(40, 36), (47, 43), (132, 130)]) [(36, tabObj #[]), (43, tabObj #[]), (130, tabObj #[])] s₁.heap := Mine.Own.hideL (T := [(36, tabObj #[]), (43, tabObj #[]), (130, tabObj #[])]) (by decide) (fun q hq => by
    have h1 := (hT9 (40, 36) (by simp)).2
    have h2 := (hT9 (47, 43) (by simp)).2
    have h3 := (hT9 (132, 130) (by simp)).2
    simp only [List.mem_cons, List.not_mem_nil, or_false] at hq
    rcases hq with rfl | rfl | rfl
    · exact h1
    · exact h2
    · exact h3)
  refine Mine.c_law (h := s₁.heap) (g := s₁.gens) (d := s₁.drawn) (t := s₁.toks) (os := s₁.os) Gr' rfl (by decide) (by decide) rfl (ghost_list hT9 hL) hI hns O' fun h' t' p1 p2 p3 k g1 g2 g3 => ?_
  refine ⟨⟨.inl ⟨.bool true, .bool true, [], rfl, fun _ => rfl, .bool true, ?_, fun _ => ⟨List.nodup_nil, fun a ha => by cases ha⟩⟩, k, rfl, hg⟩, ⟨p1, g1⟩, ⟨p2, g2⟩, ⟨p3, g3⟩, trivial⟩
  exact postW_of (by wrow_shape) (by wtm_val) (by str_meet; first | done | w_fin)

import PyProof.Rows.All
import Wide.All
import OpenK.AllK
import Wide.FinOn
import PySem.Challenge.RW_rt0030_01
set_option Elab.async false
set_option linter.all false
namespace Mine
section
open PySem PySem.W PyProof.Rows
set_option maxRecDepth 1000000
set_option maxHeartbeats 0
/-- a statement of the text -/
noncomputable def sel (k : Nat) : Stmt := match PySem.Challenge.pw_rt0030_01.main.body.drop k with
  | s :: _ => s
  | [] => Stmt.Pass default
/-- the object of a def -/
noncomputable def fnO (d : Stmt) (md : Str) (mt : Tok) (code : Addr) : Obj := match d with
  | .FunctionDef n ps body _ _ _ sc _ _ _ => { cls := Value.type "function", data := Data.func { name := n, qualname := n, params := ps, body := FuncBody.stmts body, scope := sc, globals := 3, closure := [], defaults := Value.none, kwdefaults := Value.none, pyModule := Value.str md mt, code := Value.ref code } }
  | _ => default
noncomputable def hd.heap_39 : Params → Frag := fun P =>
  (nat_lit 2, ({ cls := Value.none, data := Data.dict #[] } : Obj)) ::
  (nat_lit 3, ({ cls := Value.type "dict", data := Data.dict #[{ hash := PyData.keyHash P (Str.ofString "__name__"), key := Value.str (Str.ofString "__name__") 165, val := Value.str (Str.ofString "law_rt0030_01") 537 }, { hash := PyData.keyHash P (Str.ofString "__doc__"), key := Value.str (Str.ofString "__doc__") 166, val := Value.none }, { hash := PyData.keyHash P (Str.ofString "__package__"), key := Value.str (Str.ofString "__package__") 167, val := Value.none }, { hash := PyData.keyHash P (Str.ofString "__loader__"), key := Value.str (Str.ofString "__loader__") 168, val := Value.builtin "__main__.__loader__#opaque" }, { hash := PyData.keyHash P (Str.ofString "__spec__"), key := Value.str (Str.ofString "__spec__") 169, val := Value.none }, { hash := PyData.keyHash P (Str.ofString "__annotations__"), key := Value.str (Str.ofString "__annotations__") 170, val := Value.ref 6 }, { hash := PyData.keyHash P (Str.ofString "__builtins__"), key := Value.str (Str.ofString "__builtins__") 171, val := Value.ref 4 }, { hash := PyData.keyHash P (Str.ofString "__file__"), key := Value.str (Str.ofString "__file__") 173, val := Value.str (Str.ofString "/claim/cut.py") 172 }, { hash := PyData.keyHash P (Str.ofString "__cached__"), key := Value.str (Str.ofString "__cached__") 174, val := Value.none }, { hash := PyData.keyHash P (Str.ofString "_wall"), key := Value.str (Str.ofString "_wall") 193, val := Value.ref 21 }, { hash := PyData.keyHash P (Str.ofString "_special_chars_map"), key := Value.str (Str.ofString "_special_chars_map") 341, val := Value.ref 23 }, { hash := PyData.keyHash P (Str.ofString "escape"), key := Value.str (Str.ofString "escape") 348, val := Value.ref 33 }, { hash := PyData.keyHash P (Str.ofString "translate_pattern"), key := Value.str (Str.ofString "translate_pattern") 359, val := Value.ref 40 }, { hash := PyData.keyHash P (Str.ofString "_plain_name"), key := Value.str (Str.ofString "_plain_name") 370, val := Value.ref 47 }, { hash := PyData.keyHash P (Str.ofString "ABCMeta"), key := Value.str (Str.ofString "ABCMeta") 396, val := Value.ref 64 }, { hash := PyData.keyHash P (Str.ofString "_ABCLike"), key := Value.str (Str.ofString "_ABCLike") 439, val := Value.ref 97 }, { hash := PyData.keyHash P (Str.ofString "_abc_plain_meta"), key := Value.str (Str.ofString "_abc_plain_meta") 446, val := Value.ref 106 }, { hash := PyData.keyHash P (Str.ofString "fspath"), key := Value.str (Str.ofString "fspath") 458, val := Value.ref 113 }, { hash := PyData.keyHash P (Str.ofString "_check_arg_types"), key := Value.str (Str.ofString "_check_arg_types") 471, val := Value.ref 120 }, { hash := PyData.keyHash P (Str.ofString "_get_sep"), key := Value.str (Str.ofString "_get_sep") 480, val := Value.ref 127 }, { hash := PyData.keyHash P (Str.ofString "join"), key := Value.str (Str.ofString "join") 491, val := Value.ref 134 }, { hash := PyData.keyHash P (Str.ofString "split"), key := Value.str (Str.ofString "split") 502, val := Value.ref 141 }, { hash := PyData.keyHash P (Str.ofString "splitroot"), key := Value.str (Str.ofString "splitroot") 511, val := Value.ref 148 }, { hash := PyData.keyHash P (Str.ofString "dirname"), key := Value.str (Str.ofString "dirname") 521, val := Value.ref 155 }, { hash := PyData.keyHash P (Str.ofString "normpath"), key := Value.str (Str.ofString "normpath") 536, val := Value.ref 162 }, { hash := PyData.keyHash P (Str.ofString "_law_rule"), key := Value.str (Str.ofString "_law_rule") 546, val := Value.ref 169 }, { hash := PyData.keyHash P (Str.ofString "_law_spelled"), key := Value.str (Str.ofString "_law_spelled") 554, val := Value.ref 176 }, { hash := PyData.keyHash P (Str.ofString "_law_walked"), key := Value.str (Str.ofString "_law_walked") 563, val := Value.ref 183 }, { hash := PyData.keyHash P (Str.ofString "_law_names"), key := Value.str (Str.ofString "_law_names") 572, val := Value.ref 190 }, { hash := PyData.keyHash P (Str.ofString "_law_hung"), key := Value.str (Str.ofString "_law_hung") 581, val := Value.ref 197 }, { hash := PyData.keyHash P (Str.ofString "_law_above"), key := Value.str (Str.ofString "_law_above") 590, val := Value.ref 204 }, { hash := PyData.keyHash P (Str.ofString "_law_plain"), key := Value.str (Str.ofString "_law_plain") 600, val := Value.ref 211 }, { hash := PyData.keyHash P (Str.ofString "_law_parts"), key := Value.str (Str.ofString "_law_parts") 606, val := Value.ref 216 }, { hash := PyData.keyHash P (Str.ofString "_law_taken"), key := Value.str (Str.ofString "_law_taken") 617, val := Value.ref 223 }, { hash := PyData.keyHash P (Str.ofString "_law_fits"), key := Value.str (Str.ofString "_law_fits") 628, val := Value.ref 230 }, { hash := PyData.keyHash P (Str.ofString "_law_heads"), key := Value.str (Str.ofString "_law_heads") 641, val := Value.ref 237 }, { hash := PyData.keyHash P (Str.ofString "law"), key := Value.str (Str.ofString "law") 647, val := Value.ref 242 }] 37 } : Obj)) ::
  (nat_lit 15, ({ cls := Value.type "tuple", data := Data.seq #[] } : Obj)) ::
  (nat_lit 17, ({ cls := Value.type "tuple", data := Data.seq #[Value.str (Str.ofString "k") 190] } : Obj)) ::
  (nat_lit 18, ({ cls := Value.type "tuple", data := Data.seq #[] } : Obj)) ::
  (nat_lit 20, ({ cls := Value.type "code", data := Data.fields #[Value.str (Str.ofString "_wall") 187, Value.str (Str.ofString "_wall") 188, Value.str (Str.ofString "/claim/cut.py") 189, Value.int 1 0, Value.int 1 0, Value.int 0 0, Value.int 0 0, Value.int 3 0, Value.ref 15, Value.bool true, Value.int 181 0, Value.ref 16, Value.none, Value.ref 17, Value.ref 18, Value.ref 19, Value.int 191 0, Value.int 1 0, Value.str (Str.ofString "/claim/cut.py") 192] } : Obj)) ::
  (nat_lit 21, fnO (sel 0) (Str.ofString "__main__") 164 20) ::
  (nat_lit 23, ({ cls := Value.type "dict", data := Data.dict #[{ hash := 40, key := Value.int 40 197, val := Value.str (Str.ofString "\\(") 201 }, { hash := 41, key := Value.int 41 203, val := Value.str (Str.ofString "\\)") 207 }, { hash := 91, key := Value.int 91 209, val := Value.str (Str.ofString "\\[") 213 }, { hash := 93, key := Value.int 93 215, val := Value.str (Str.ofString "\\]") 219 }, { hash := 123, key := Value.int 123 221, val := Value.str (Str.ofString "\\{") 225 }, { hash := 125, key := Value.int 125 227, val := Value.str (Str.ofString "\\}") 231 }, { hash := 63, key := Value.int 63 233, val := Value.str (Str.ofString "\\?") 237 }, { hash := 42, key := Value.int 42 239, val := Value.str (Str.ofString "\\*") 243 }, { hash := 43, key := Value.int 43 245, val := Value.str (Str.ofString "\\+") 249 }, { hash := 45, key := Value.int 45 251, val := Value.str (Str.ofString "\\-") 255 }, { hash := 124, key := Value.int 124 257, val := Value.str (Str.ofString "\\|") 261 }, { hash := 94, key := Value.int 94 263, val := Value.str (Str.ofString "\\^") 267 }, { hash := 36, key := Value.int 36 269, val := Value.str (Str.ofString "\\$") 273 }, { hash := 92, key := Value.int 92 275, val := Value.str (Str.ofString "\\\\") 279 }, { hash := 46, key := Value.int 46 281, val := Value.str (Str.ofString "\\.") 285 }, { hash := 38, key := Value.int 38 287, val := Value.str (Str.ofString "\\&") 291 }, { hash := 126, key := Value.int 126 293, val := Value.str (Str.ofString "\\~") 297 }, { hash := 35, key := Value.int 35 299, val := Value.str (Str.ofString "\\#") 303 }, { hash := 32, key := Value.int 32 305, val := Value.str (Str.ofString "\\ ") 309 }, { hash := 9, key := Value.int 9 311, val := Value.str (Str.ofString "\\\t") 315 }, { hash := 10, key := Value.int 10 317, val := Value.str (Str.ofString "\\\n") 321 }, { hash := 13, key := Value.int 13 323, val := Value.str (Str.ofString "\\\x0d") 327 }, { hash := 11, key := Value.int 11 329, val := Value.str (Str.ofString "\\\x0b") 333 }, { hash := 12, key := Value.int 12 335, val := Value.str (Str.ofString "\\\x0c") 339 }] 24 } : Obj)) ::
  (nat_lit 27, ({ cls := Value.type "tuple", data := Data.seq #[] } : Obj)) ::
  (nat_lit 29, ({ cls := Value.type "tuple", data := Data.seq #[Value.str (Str.ofString "pattern") 345] } : Obj)) ::
  (nat_lit 30, ({ cls := Value.type "tuple", data := Data.seq #[] } : Obj)) ::
  (nat_lit 32, ({ cls := Value.type "code", data := Data.fields #[Value.str (Str.ofString "escape") 342, Value.str (Str.ofString "escape") 343, Value.str (Str.ofString "/claim/cut.py") 344, Value.int 6 0, Value.int 1 0, Value.int 0 0, Value.int 0 0, Value.int 3 0, Value.ref 27, Value.bool true, Value.int 181 0, Value.ref 28, Value.none, Value.ref 29, Value.ref 30, Value.ref 31, Value.int 346 0, Value.int 6 0, Value.str (Str.ofString "/claim/cut.py") 347] } : Obj)) ::
  (nat_lit 33, fnO (sel 3) (Str.ofString "re") 194 32) ::
  (nat_lit 34, ({ cls := Value.type "tuple", data := Data.seq #[] } : Obj)) ::
  (nat_lit 36, ({ cls := Value.type "tuple", data := Data.seq #[Value.str (Str.ofString "path") 354, Value.str (Str.ofString "parts") 355, Value.str (Str.ofString "i") 356] } : Obj)) ::
  (nat_lit 37, ({ cls := Value.type "tuple", data := Data.seq #[] } : Obj)) ::
  (nat_lit 39, ({ cls := Value.type "code", data := Data.fields #[Value.str (Str.ofString "translate_pattern") 351, Value.str (Str.ofString "translate_pattern") 352, Value.str (Str.ofString "/claim/cut.py") 353, Value.int 13 0, Value.int 1 0, Value.int 0 0, Value.int 0 0, Value.int 3 0, Value.ref 34, Value.bool true, Value.int 181 0, Value.ref 35, Value.none, Value.ref 36, Value.ref 37, Value.ref 38, Value.int 357 0, Value.int 13 0, Value.str (Str.ofString "/claim/cut.py") 358] } : Obj)) ::
  (nat_lit 40, fnO (sel 5) (Str.ofString "cpy313.urllib.robotparser") 349 39) ::
  (nat_lit 107, ({ cls := Value.type "tuple", data := Data.seq #[] } : Obj)) ::
  (nat_lit 109, ({ cls := Value.type "tuple", data := Data.seq #[Value.str (Str.ofString "path") 452, Value.str (Str.ofString "kind") 453, Value.str (Str.ofString "hook") 454, Value.str (Str.ofString "given") 455] } : Obj)) ::
  (nat_lit 110, ({ cls := Value.type "tuple", data := Data.seq #[] } : Obj)) ::
  (nat_lit 112, ({ cls := Value.type "code", data := Data.fields #[Value.str (Str.ofString "fspath") 449, Value.str (Str.ofString "fspath") 450, Value.str (Str.ofString "/claim/cut.py") 451, Value.int 50 0, Value.int 1 0, Value.int 0 0, Value.int 0 0, Value.int 3 0, Value.ref 107, Value.bool true, Value.int 181 0, Value.ref 108, Value.none, Value.ref 109, Value.ref 110, Value.ref 111, Value.int 456 0, Value.int 50 0, Value.str (Str.ofString "/claim/cut.py") 457] } : Obj)) ::
  (nat_lit 113, fnO (sel 14) (Str.ofString "os") 447 112) ::
  (nat_lit 121, ({ cls := Value.type "tuple", data := Data.seq #[] } : Obj)) ::
  (nat_lit 123, ({ cls := Value.type "tuple", data := Data.seq #[Value.str (Str.ofString "path") 477] } : Obj)) ::
  (nat_lit 124, ({ cls := Value.type "tuple", data := Data.seq #[] } : Obj)) ::
  (nat_lit 126, ({ cls := Value.type "code", data := Data.fields #[Value.str (Str.ofString "_get_sep") 474, Value.str (Str.ofString "_get_sep") 475, Value.str (Str.ofString "/claim/cut.py") 476, Value.int 79 0, Value.int 1 0, Value.int 0 0, Value.int 0 0, Value.int 3 0, Value.ref 121, Value.bool true, Value.int 181 0, Value.ref 122, Value.none, Value.ref 123, Value.ref 124, Value.ref 125, Value.int 478 0, Value.int 79 0, Value.str (Str.ofString "/claim/cut.py") 479] } : Obj)) ::
  (nat_lit 127, fnO (sel 18) (Str.ofString "cpy313.posixpath") 472 126) ::
  (nat_lit 128, ({ cls := Value.type "tuple", data := Data.seq #[] } : Obj)) ::
  (nat_lit 130, ({ cls := Value.type "tuple", data := Data.seq #[Value.str (Str.ofString "a") 484, Value.str (Str.ofString "p") 485, Value.str (Str.ofString "sep") 486, Value.str (Str.ofString "path") 487, Value.str (Str.ofString "b") 488] } : Obj)) ::
  (nat_lit 131, ({ cls := Value.type "tuple", data := Data.seq #[] } : Obj)) ::
  (nat_lit 133, ({ cls := Value.type "code", data := Data.fields #[Value.str (Str.ofString "join") 481, Value.str (Str.ofString "join") 482, Value.str (Str.ofString "/claim/cut.py") 483, Value.int 84 0, Value.int 1 0, Value.int 0 0, Value.int 0 0, Value.int 7 0, Value.ref 128, Value.bool true, Value.int 181 0, Value.ref 129, Value.none, Value.ref 130, Value.ref 131, Value.ref 132, Value.int 489 0, Value.int 84 0, Value.str (Str.ofString "/claim/cut.py") 490] } : Obj)) ::
  (nat_lit 134, fnO (sel 19) (Str.ofString "cpy313.posixpath") 472 133) ::
  (nat_lit 135, ({ cls := Value.type "tuple", data := Data.seq #[] } : Obj)) ::
  (nat_lit 137, ({ cls := Value.type "tuple", data := Data.seq #[Value.str (Str.ofString "p") 495, Value.str (Str.ofString "sep") 496, Value.str (Str.ofString "i") 497, Value.str (Str.ofString "head") 498, Value.str (Str.ofString "tail") 499] } : Obj)) ::
  (nat_lit 138, ({ cls := Value.type "tuple", data := Data.seq #[] } : Obj)) ::
  (nat_lit 140, ({ cls := Value.type "code", data := Data.fields #[Value.str (Str.ofString "split") 492, Value.str (Str.ofString "split") 493, Value.str (Str.ofString "/claim/cut.py") 494, Value.int 101 0, Value.int 1 0, Value.int 0 0, Value.int 0 0, Value.int 3 0, Value.ref 135, Value.bool true, Value.int 181 0, Value.ref 136, Value.none, Value.ref 137, Value.ref 138, Value.ref 139, Value.int 500 0, Value.int 101 0, Value.str (Str.ofString "/claim/cut.py") 501] } : Obj)) ::
  (nat_lit 141, fnO (sel 20) (Str.ofString "cpy313.posixpath") 472 140) ::
  (nat_lit 142, ({ cls := Value.type "tuple", data := Data.seq #[] } : Obj)) ::
  (nat_lit 144, ({ cls := Value.type "tuple", data := Data.seq #[Value.str (Str.ofString "p") 506, Value.str (Str.ofString "sep") 507, Value.str (Str.ofString "empty") 508] } : Obj)) ::
  (nat_lit 145, ({ cls := Value.type "tuple", data := Data.seq #[] } : Obj)) ::
  (nat_lit 147, ({ cls := Value.type "code", data := Data.fields #[Value.str (Str.ofString "splitroot") 503, Value.str (Str.ofString "splitroot") 504, Value.str (Str.ofString "/claim/cut.py") 505, Value.int 109 0, Value.int 1 0, Value.int 0 0, Value.int 0 0, Value.int 3 0, Value.ref 142, Value.bool true, Value.int 181 0, Value.ref 143, Value.none, Value.ref 144, Value.ref 145, Value.ref 146, Value.int 509 0, Value.int 109 0, Value.str (Str.ofString "/claim/cut.py") 510] } : Obj)) ::
  (nat_lit 148, fnO (sel 21) (Str.ofString "cpy313.posixpath") 472 147) ::
  (nat_lit 149, ({ cls := Value.type "tuple", data := Data.seq #[] } : Obj)) ::
  (nat_lit 151, ({ cls := Value.type "tuple", data := Data.seq #[Value.str (Str.ofString "p") 515, Value.str (Str.ofString "sep") 516, Value.str (Str.ofString "i") 517, Value.str (Str.ofString "head") 518] } : Obj)) ::
  (nat_lit 152, ({ cls := Value.type "tuple", data := Data.seq #[] } : Obj)) ::
  (nat_lit 154, ({ cls := Value.type "code", data := Data.fields #[Value.str (Str.ofString "dirname") 512, Value.str (Str.ofString "dirname") 513, Value.str (Str.ofString "/claim/cut.py") 514, Value.int 123 0, Value.int 1 0, Value.int 0 0, Value.int 0 0, Value.int 3 0, Value.ref 149, Value.bool true, Value.int 181 0, Value.ref 150, Value.none, Value.ref 151, Value.ref 152, Value.ref 153, Value.int 519 0, Value.int 123 0, Value.str (Str.ofString "/claim/cut.py") 520] } : Obj)) ::
  (nat_lit 155, fnO (sel 22) (Str.ofString "cpy313.posixpath") 472 154) ::
  (nat_lit 156, ({ cls := Value.type "tuple", data := Data.seq #[] } : Obj)) ::
  (nat_lit 158, ({ cls := Value.type "tuple", data := Data.seq #[Value.str (Str.ofString "path") 525, Value.str (Str.ofString "sep") 526, Value.str (Str.ofString "dot") 527, Value.str (Str.ofString "dotdot") 528, Value.str (Str.ofString "_") 529, Value.str (Str.ofString "initial_slashes") 530, Value.str (Str.ofString "comps") 531, Value.str (Str.ofString "new_comps") 532, Value.str (Str.ofString "comp") 533] } : Obj)) ::
  (nat_lit 159, ({ cls := Value.type "tuple", data := Data.seq #[] } : Obj)) ::
  (nat_lit 161, ({ cls := Value.type "code", data := Data.fields #[Value.str (Str.ofString "normpath") 522, Value.str (Str.ofString "normpath") 523, Value.str (Str.ofString "/claim/cut.py") 524, Value.int 131 0, Value.int 1 0, Value.int 0 0, Value.int 0 0, Value.int 3 0, Value.ref 156, Value.bool true, Value.int 181 0, Value.ref 157, Value.none, Value.ref 158, Value.ref 159, Value.ref 160, Value.int 534 0, Value.int 131 0, Value.str (Str.ofString "/claim/cut.py") 535] } : Obj)) ::
  (nat_lit 162, fnO (sel 23) (Str.ofString "cpy313.posixpath") 472 161) ::
  (nat_lit 163, ({ cls := Value.type "tuple", data := Data.seq #[] } : Obj)) ::
  (nat_lit 165, ({ cls := Value.type "tuple", data := Data.seq #[Value.str (Str.ofString "figures") 542, Value.str (Str.ofString "pieces") 543] } : Obj)) ::
  (nat_lit 166, ({ cls := Value.type "tuple", data := Data.seq #[] } : Obj)) ::
  (nat_lit 168, ({ cls := Value.type "code", data := Data.fields #[Value.str (Str.ofString "_law_rule") 539, Value.str (Str.ofString "_law_rule") 540, Value.str (Str.ofString "/claim/cut.py") 541, Value.int 157 0, Value.int 1 0, Value.int 0 0, Value.int 0 0, Value.int 3 0, Value.ref 163, Value.bool true, Value.int 181 0, Value.ref 164, Value.none, Value.ref 165, Value.ref 166, Value.ref 167, Value.int 544 0, Value.int 157 0, Value.str (Str.ofString "/claim/cut.py") 545] } : Obj)) ::
  (nat_lit 169, fnO (sel 25) (Str.ofString "law_rt0030_01") 537 168) ::
  (nat_lit 170, ({ cls := Value.type "tuple", data := Data.seq #[] } : Obj)) ::
  (nat_lit 172, ({ cls := Value.type "tuple", data := Data.seq #[Value.str (Str.ofString "figures") 550, Value.str (Str.ofString "pieces") 551] } : Obj)) ::
  (nat_lit 173, ({ cls := Value.type "tuple", data := Data.seq #[] } : Obj)) ::
  (nat_lit 175, ({ cls := Value.type "code", data := Data.fields #[Value.str (Str.ofString "_law_spelled") 547, Value.str (Str.ofString "_law_spelled") 548, Value.str (Str.ofString "/claim/cut.py") 549, Value.int 165 0, Value.int 1 0, Value.int 0 0, Value.int 0 0, Value.int 3 0, Value.ref 170, Value.bool true, Value.int 181 0, Value.ref 171, Value.none, Value.ref 172, Value.ref 173, Value.ref 174, Value.int 552 0, Value.int 165 0, Value.str (Str.ofString "/claim/cut.py") 553] } : Obj)) ::
  (nat_lit 176, fnO (sel 26) (Str.ofString "law_rt0030_01") 537 175) ::
  (nat_lit 177, ({ cls := Value.type "tuple", data := Data.seq #[] } : Obj)) ::
  (nat_lit 179, ({ cls := Value.type "tuple", data := Data.seq #[Value.str (Str.ofString "pieces") 558, Value.str (Str.ofString "names") 559, Value.str (Str.ofString "piece") 560] } : Obj)) ::
  (nat_lit 180, ({ cls := Value.type "tuple", data := Data.seq #[] } : Obj)) ::
  (nat_lit 182, ({ cls := Value.type "code", data := Data.fields #[Value.str (Str.ofString "_law_walked") 555, Value.str (Str.ofString "_law_walked") 556, Value.str (Str.ofString "/claim/cut.py") 557, Value.int 171 0, Value.int 1 0, Value.int 0 0, Value.int 0 0, Value.int 3 0, Value.ref 177, Value.bool true, Value.int 181 0, Value.ref 178, Value.none, Value.ref 179, Value.ref 180, Value.ref 181, Value.int 561 0, Value.int 171 0, Value.str (Str.ofString "/claim/cut.py") 562] } : Obj)) ::
  (nat_lit 183, fnO (sel 27) (Str.ofString "law_rt0030_01") 537 182) ::
  (nat_lit 184, ({ cls := Value.type "tuple", data := Data.seq #[] } : Obj)) ::
  (nat_lit 186, ({ cls := Value.type "tuple", data := Data.seq #[Value.str (Str.ofString "place") 567, Value.str (Str.ofString "names") 568, Value.str (Str.ofString "name") 569] } : Obj)) ::
  (nat_lit 187, ({ cls := Value.type "tuple", data := Data.seq #[] } : Obj)) ::
  (nat_lit 189, ({ cls := Value.type "code", data := Data.fields #[Value.str (Str.ofString "_law_names") 564, Value.str (Str.ofString "_law_names") 565, Value.str (Str.ofString "/claim/cut.py") 566, Value.int 179 0, Value.int 1 0, Value.int 0 0, Value.int 0 0, Value.int 3 0, Value.ref 184, Value.bool true, Value.int 181 0, Value.ref 185, Value.none, Value.ref 186, Value.ref 187, Value.ref 188, Value.int 570 0, Value.int 179 0, Value.str (Str.ofString "/claim/cut.py") 571] } : Obj)) ::
  (nat_lit 190, fnO (sel 28) (Str.ofString "law_rt0030_01") 537 189) ::
  (nat_lit 191, ({ cls := Value.type "tuple", data := Data.seq #[] } : Obj)) ::
  (nat_lit 193, ({ cls := Value.type "tuple", data := Data.seq #[Value.str (Str.ofString "pieces") 576, Value.str (Str.ofString "path") 577, Value.str (Str.ofString "piece") 578] } : Obj)) ::
  (nat_lit 194, ({ cls := Value.type "tuple", data := Data.seq #[] } : Obj)) ::
  (nat_lit 196, ({ cls := Value.type "code", data := Data.fields #[Value.str (Str.ofString "_law_hung") 573, Value.str (Str.ofString "_law_hung") 574, Value.str (Str.ofString "/claim/cut.py") 575, Value.int 185 0, Value.int 1 0, Value.int 0 0, Value.int 0 0, Value.int 3 0, Value.ref 191, Value.bool true, Value.int 181 0, Value.ref 192, Value.none, Value.ref 193, Value.ref 194, Value.ref 195, Value.int 579 0, Value.int 185 0, Value.str (Str.ofString "/claim/cut.py") 580] } : Obj)) ::
  (nat_lit 197, fnO (sel 29) (Str.ofString "law_rt0030_01") 537 196) ::
  (nat_lit 198, ({ cls := Value.type "tuple", data := Data.seq #[] } : Obj)) ::
  (nat_lit 200, ({ cls := Value.type "tuple", data := Data.seq #[Value.str (Str.ofString "place") 585, Value.str (Str.ofString "steps") 586, Value.str (Str.ofString "step") 587] } : Obj)) ::
  (nat_lit 201, ({ cls := Value.type "tuple", data := Data.seq #[] } : Obj)) ::
  (nat_lit 203, ({ cls := Value.type "code", data := Data.fields #[Value.str (Str.ofString "_law_above") 582, Value.str (Str.ofString "_law_above") 583, Value.str (Str.ofString "/claim/cut.py") 584, Value.int 190 0, Value.int 2 0, Value.int 0 0, Value.int 0 0, Value.int 3 0, Value.ref 198, Value.bool true, Value.int 181 0, Value.ref 199, Value.none, Value.ref 200, Value.ref 201, Value.ref 202, Value.int 588 0, Value.int 190 0, Value.str (Str.ofString "/claim/cut.py") 589] } : Obj)) ::
  (nat_lit 204, fnO (sel 30) (Str.ofString "law_rt0030_01") 537 203) ::
  (nat_lit 205, ({ cls := Value.type "tuple", data := Data.seq #[] } : Obj)) ::
  (nat_lit 207, ({ cls := Value.type "tuple", data := Data.seq #[Value.str (Str.ofString "written") 594, Value.str (Str.ofString "plain") 595, Value.str (Str.ofString "bare") 596, Value.str (Str.ofString "sign") 597] } : Obj)) ::
  (nat_lit 208, ({ cls := Value.type "tuple", data := Data.seq #[] } : Obj)) ::
  (nat_lit 210, ({ cls := Value.type "code", data := Data.fields #[Value.str (Str.ofString "_law_plain") 591, Value.str (Str.ofString "_law_plain") 592, Value.str (Str.ofString "/claim/cut.py") 593, Value.int 194 0, Value.int 1 0, Value.int 0 0, Value.int 0 0, Value.int 3 0, Value.ref 205, Value.bool true, Value.int 181 0, Value.ref 206, Value.none, Value.ref 207, Value.ref 208, Value.ref 209, Value.int 598 0, Value.int 194 0, Value.str (Str.ofString "/claim/cut.py") 599] } : Obj)) ::
  (nat_lit 211, fnO (sel 31) (Str.ofString "law_rt0030_01") 537 210) ::
  (nat_lit 212, ({ cls := Value.type "tuple", data := Data.seq #[] } : Obj)) ::
  (nat_lit 215, ({ cls := Value.type "code", data := Data.fields #[Value.str (Str.ofString "_law_parts") 601, Value.str (Str.ofString "_law_parts") 602, Value.str (Str.ofString "/claim/cut.py") 603, Value.int 206 0, Value.int 1 0, Value.int 0 0, Value.int 0 0, Value.int 3 0, Value.ref 212, Value.bool true, Value.int 181 0, Value.ref 213, Value.none, Value.none, Value.none, Value.ref 214, Value.int 604 0, Value.int 206 0, Value.str (Str.ofString "/claim/cut.py") 605] } : Obj)) ::
  (nat_lit 216, fnO (sel 32) (Str.ofString "law_rt0030_01") 537 215) ::
  (nat_lit 217, ({ cls := Value.type "tuple", data := Data.seq #[] } : Obj)) ::
  (nat_lit 219, ({ cls := Value.type "tuple", data := Data.seq #[Value.str (Str.ofString "parts") 610, Value.str (Str.ofString "text") 611, Value.str (Str.ofString "here") 612, Value.str (Str.ofString "part") 613, Value.str (Str.ofString "found") 614] } : Obj)) ::
  (nat_lit 220, ({ cls := Value.type "tuple", data := Data.seq #[] } : Obj)) ::
  (nat_lit 222, ({ cls := Value.type "code", data := Data.fields #[Value.str (Str.ofString "_law_taken") 607, Value.str (Str.ofString "_law_taken") 608, Value.str (Str.ofString "/claim/cut.py") 609, Value.int 214 0, Value.int 2 0, Value.int 0 0, Value.int 0 0, Value.int 3 0, Value.ref 217, Value.bool true, Value.int 181 0, Value.ref 218, Value.none, Value.ref 219, Value.ref 220, Value.ref 221, Value.int 615 0, Value.int 214 0, Value.str (Str.ofString "/claim/cut.py") 616] } : Obj)) ::
  (nat_lit 223, fnO (sel 33) (Str.ofString "law_rt0030_01") 537 222) ::
  (nat_lit 224, ({ cls := Value.type "tuple", data := Data.seq #[] } : Obj)) ::
  (nat_lit 226, ({ cls := Value.type "tuple", data := Data.seq #[Value.str (Str.ofString "piece") 621, Value.str (Str.ofString "names") 622, Value.str (Str.ofString "front") 623, Value.str (Str.ofString "star") 624, Value.str (Str.ofString "behind") 625] } : Obj)) ::
  (nat_lit 227, ({ cls := Value.type "tuple", data := Data.seq #[] } : Obj)) ::
  (nat_lit 229, ({ cls := Value.type "code", data := Data.fields #[Value.str (Str.ofString "_law_fits") 618, Value.str (Str.ofString "_law_fits") 619, Value.str (Str.ofString "/claim/cut.py") 620, Value.int 225 0, Value.int 2 0, Value.int 0 0, Value.int 0 0, Value.int 3 0, Value.ref 224, Value.bool true, Value.int 181 0, Value.ref 225, Value.none, Value.ref 226, Value.ref 227, Value.ref 228, Value.int 626 0, Value.int 225 0, Value.str (Str.ofString "/claim/cut.py") 627] } : Obj)) ::
  (nat_lit 230, fnO (sel 34) (Str.ofString "law_rt0030_01") 537 229) ::
  (nat_lit 231, ({ cls := Value.type "tuple", data := Data.seq #[] } : Obj)) ::
  (nat_lit 233, ({ cls := Value.type "tuple", data := Data.seq #[Value.str (Str.ofString "pieces") 632, Value.str (Str.ofString "names") 633, Value.str (Str.ofString "heads") 634, Value.str (Str.ofString "piece") 635, Value.str (Str.ofString "further") 636, Value.str (Str.ofString "k") 637, Value.str (Str.ofString "j") 638] } : Obj)) ::
  (nat_lit 234, ({ cls := Value.type "tuple", data := Data.seq #[] } : Obj)) ::
  (nat_lit 236, ({ cls := Value.type "code", data := Data.fields #[Value.str (Str.ofString "_law_heads") 629, Value.str (Str.ofString "_law_heads") 630, Value.str (Str.ofString "/claim/cut.py") 631, Value.int 232 0, Value.int 2 0, Value.int 0 0, Value.int 0 0, Value.int 3 0, Value.ref 231, Value.bool true, Value.int 181 0, Value.ref 232, Value.none, Value.ref 233, Value.ref 234, Value.ref 235, Value.int 639 0, Value.int 232 0, Value.str (Str.ofString "/claim/cut.py") 640] } : Obj)) ::
  (nat_lit 237, fnO (sel 35) (Str.ofString "law_rt0030_01") 537 236) ::
  (nat_lit 238, ({ cls := Value.type "tuple", data := Data.seq #[] } : Obj)) ::
  (nat_lit 241, ({ cls := Value.type "code", data := Data.fields #[Value.str (Str.ofString "law") 642, Value.str (Str.ofString "law") 643, Value.str (Str.ofString "/claim/cut.py") 644, Value.int 242 0, Value.int 1 0, Value.int 0 0, Value.int 0 0, Value.int 3 0, Value.ref 238, Value.bool true, Value.int 181 0, Value.ref 239, Value.none, Value.none, Value.none, Value.ref 240, Value.int 645 0, Value.int 242 0, Value.str (Str.ofString "/claim/cut.py") 646] } : Obj)) ::
  (nat_lit 242, fnO (sel 36) (Str.ofString "law_rt0030_01") 537 241) :: []
abbrev hd.prog : Program := PySem.Challenge.rw_rt0030_01.row.toRowW.prog
noncomputable def hd.view_39 : Program := { hd.prog with main := { hd.prog.main with body := sel 0 :: sel 2 :: sel 3 :: sel 5 :: sel 7 :: sel 9 :: sel 11 :: sel 12 :: sel 14 :: sel 16 :: sel 18 :: sel 19 :: sel 20 :: sel 21 :: sel 22 :: sel 23 :: sel 25 :: sel 26 :: sel 27 :: sel 28 :: sel 29 :: sel 30 :: sel 31 :: sel 32 :: sel 33 :: sel 34 :: sel 35 :: sel 36 :: [] } }
abbrev hd.loose : List Str := [Str.ofString "_special_chars_map"]
abbrev hd.at : List Addr := nat_lit 2 :: nat_lit 3 :: nat_lit 15 :: nat_lit 17 :: nat_lit 18 :: nat_lit 20 :: nat_lit 21 :: nat_lit 23 :: nat_lit 27 :: nat_lit 29 :: nat_lit 30 :: nat_lit 32 :: nat_lit 33 :: nat_lit 34 :: nat_lit 36 :: nat_lit 37 :: nat_lit 39 :: nat_lit 40 :: nat_lit 107 :: nat_lit 109 :: nat_lit 110 :: nat_lit 112 :: nat_lit 113 :: nat_lit 121 :: nat_lit 123 :: nat_lit 124 :: nat_lit 126 :: nat_lit 127 :: nat_lit 128 :: nat_lit 130 :: nat_lit 131 :: nat_lit 133 :: nat_lit 134 :: nat_lit 135 :: nat_lit 137 :: nat_lit 138 :: nat_lit 140 :: nat_lit 141 :: nat_lit 142 :: nat_lit 144 :: nat_lit 145 :: nat_lit 147 :: nat_lit 148 :: nat_lit 149 :: nat_lit 151 :: nat_lit 152 :: nat_lit 154 :: nat_lit 155 :: nat_lit 156 :: nat_lit 158 :: nat_lit 159 :: nat_lit 161 :: nat_lit 162 :: nat_lit 163 :: nat_lit 165 :: nat_lit 166 :: nat_lit 168 :: nat_lit 169 :: nat_lit 170 :: nat_lit 172 :: nat_lit 173 :: nat_lit 175 :: nat_lit 176 :: nat_lit 177 :: nat_lit 179 :: nat_lit 180 :: nat_lit 182 :: nat_lit 183 :: nat_lit 184 :: nat_lit 186 :: nat_lit 187 :: nat_lit 189 :: nat_lit 190 :: nat_lit 191 :: nat_lit 193 :: nat_lit 194 :: nat_lit 196 :: nat_lit 197 :: nat_lit 198 :: nat_lit 200 :: nat_lit 201 :: nat_lit 203 :: nat_lit 204 :: nat_lit 205 :: nat_lit 207 :: nat_lit 208 :: nat_lit 210 :: nat_lit 211 :: nat_lit 212 :: nat_lit 215 :: nat_lit 216 :: nat_lit 217 :: nat_lit 219 :: nat_lit 220 :: nat_lit 222 :: nat_lit 223 :: nat_lit 224 :: nat_lit 226 :: nat_lit 227 :: nat_lit 229 :: nat_lit 230 :: nat_lit 231 :: nat_lit 233 :: nat_lit 234 :: nat_lit 236 :: nat_lit 237 :: nat_lit 238 :: nat_lit 241 :: nat_lit 242 :: []
theorem hd.at_eq (P : Params) : hd.at = (hd.heap_39 P).map (·.1) := by kernel_rfl
noncomputable abbrev hd.hook : Hook := kHook hd.heap_39 hd.at hd.at_eq
noncomputable abbrev hd.xt (s : Shared) : Bool := xlAt hd.view_39 [] s && recOk (RowW.records PySem.Challenge.rw_rt0030_01.row.toRowW) s
abbrev hd.w (w : World) (a b : Bool) : World := (w.withFollow "special-get-raises" a).withFollow "comprehension-iter-twice" b
abbrev hd.P (w : World) : Prop := (openEnds treeTable hd.prog w 5384).map (fun s => (openSeen hd.view_39 hd.loose (importedModules hd.prog.main.body) hd.xt true s, hd.hook.obs s)) = some (openGood hd.view_39 hd.loose, hd.hook.val w)
theorem hd.ff (w : World) : hd.P (hd.w w false false) := by
  unfold hd.P openEnds fencedOpening topFrom
  rw [PySem.W.Fast.te14082659384304107361, PySem.W.Fast.te10274390034422433532, PySem.W.Fast.te14364793385576792824, PySem.W.Fast.te14289696077712309145, PySem.W.Fast.te1435165496053646825, PySem.W.Fast.te4187177175401517315]
  kernel_rfl
theorem hd.ft (w : World) : hd.P (hd.w w false true) := by
  unfold hd.P openEnds fencedOpening topFrom
  rw [PySem.W.Fast.te14082659384304107361, PySem.W.Fast.te10274390034422433532, PySem.W.Fast.te14364793385576792824, PySem.W.Fast.te14289696077712309145, PySem.W.Fast.te1435165496053646825, PySem.W.Fast.te4187177175401517315]
  kernel_rfl
theorem hd.tf (w : World) : hd.P (hd.w w true false) := by
  unfold hd.P openEnds fencedOpening topFrom
  rw [PySem.W.Fast.te14082659384304107361, PySem.W.Fast.te10274390034422433532, PySem.W.Fast.te14364793385576792824, PySem.W.Fast.te14289696077712309145, PySem.W.Fast.te1435165496053646825, PySem.W.Fast.te4187177175401517315]
  kernel_rfl
theorem hd.tt (w : World) : hd.P (hd.w w true true) := by
  unfold hd.P openEnds fencedOpening topFrom
  rw [PySem.W.Fast.te14082659384304107361, PySem.W.Fast.te10274390034422433532, PySem.W.Fast.te14364793385576792824, PySem.W.Fast.te14289696077712309145, PySem.W.Fast.te1435165496053646825, PySem.W.Fast.te4187177175401517315]
  kernel_rfl
theorem hd.left : LeftO hd.prog hd.view_39 hd.loose hd.xt hd.hook.obs hd.hook.val 5384 :=
  byRow2 "comprehension-iter-twice" (P := hd.P) (byRow2 "special-get-raises" hd.ff hd.tf) (byRow2 "special-get-raises" hd.ft hd.tt)
end
section
open PySem PySem.W PyProof.Rows
set_option maxRecDepth 100000
set_option maxHeartbeats 8000000
theorem hd.said : OpenLaw.wellSaid PySem.Challenge.rw_rt0030_01 = true := by decide +kernel
theorem hd.wit : PySem.Challenge.rw_rt0030_01.row.toRowW.promised := by w_witness2
theorem hd {d : DefRec} {kwd : List (Str × Expr)} (hdef : defOf hd.view_39 PySem.Challenge.rw_rt0030_01.row.name = some (d, kwd)) (hp : hd.prog.theDef PySem.Challenge.rw_rt0030_01.row.name = some (d.params, d.body, d.scope)) (hk : kwWritten? d.params.kwonlyargs d.params.kw_defaults = some kwd)
    (call : WalkO hd.view_39 hd.loose (XL hd.view_39 []) (kHook hd.heap_39 hd.at hd.at_eq).says PySem.Challenge.rw_rt0030_01.row.toRowW d kwd fun f vs => PySem.call f vs) : PySem.Challenge.rw_rt0030_01.Holds := by
  refine holds_law hd.said fun said => ?_
  refine holds_open (q := hd.view_39) (loose := hd.loose) (Xt := hd.xt) (XP := XL hd.view_39 []) (Yf := hd.hook.obs) (Ya := hd.hook.val) (YP := hd.hook.says) (N := 5384) hd.left (Hook.of hd.hook) (Hook.keeps hd.hook) (fun s e => xl_of s (Bool.and_eq_true_iff.mp e).1) XL.keeps hdef hp hk (fun s e => recFacts_of (Bool.and_eq_true_iff.mp e).2) (by rfl) said (by decide +kernel) ⟨rfl, rfl, rfl, rfl, rfl, by decide +kernel⟩ hd.wit call
end
section
open PySem PySem.W PyProof.Rows PySem.Calls PySem.Spec
set_option maxRecDepth 100000
set_option maxHeartbeats 8000000
abbrev PR : Program := PySem.Challenge.rw_rt0030_01.row.prog
abbrev TT (mean : ExcName → Option Value) (mg mb : Str → Option Value) (h : Heap) : Prop :=
  Top hd.view_39 (looseW hd.view_39 [Str.ofString "_special_chars_map"]) mean mg mb h

def Stays (h h' : Heap) : Prop := ∀ b o, h.get? b = some o → h'.get? b = some o

/-- the end of a def's body -/
def End (s : Shared) (Post : Value → Heap → Prop) (v : Value) (s' : Shared) : Prop :=
  ∃ h' tk, s' = { s with heap := h', toks := tk } ∧ Stays s.heap h' ∧ Post v h'

theorem End.mk' {s : Shared} {L : Addr} {m : Str → Option Value} {Post : Value → Heap → Prop} {v : Value} {h' : Heap} {tk : Nat} (F : Fr s.heap L h' m) (p : Post v h') :
    End s Post v { s with heap := h', toks := tk } := ⟨h', tk, rfl, F.keep, p⟩

/-- a contract of a def, for its arguments and the heap at the call -/
def Con (w : World) (mean : ExcName → Option Value) (mg mb : Str → Option Value) (f : Addr) (d : Nat) (vs : List Value) (Pre : Heap → Prop) (Post : Heap → Value → Heap → Prop) : Prop :=
  ∀ (dp un : Nat) (gd : Option (List Code)) (cn : Str) (cs : Scope) (a : Addr) (ccd : Value) (cl : List (Str × Addr)) (outer : List Env) (A₀ : Around) (base h₀ : Heap) (L : Addr) (m : Str → Option Value) (s : Shared) (Q E : Value → Shared → Prop),
    Below A₀ base outer h₀ → Fr h₀ L s.heap m → (hd.heap_39 w.params).In h₀ → TT mean mg mb h₀ → cs.kind = .function → Pre s.heap →
    dp + d < recursionLimit → un + 8 * d < cLine →
    (∀ v h' tk, Stays s.heap h' → Post s.heap v h' → Q v { s with heap := h', toks := tk }) →
    wpAny (model PR w) (ktrTop dp un gd cn cs L a ccd cl outer) (call (.ref f) vs) Q E s

theorem con_of {w : World} {mean : ExcName → Option Value} {mg mb : Str → Option Value} {f : Addr} {d : Nat} {vs : List Value} {Pre : Heap → Prop} {Post : Heap → Value → Heap → Prop}
    {name qual : Str} {params : Arguments} {body : List Stmt} {scope : Scope} {dV kV doc pm cdv ct oc : Value} {an od : Option Addr} {osl : Array (Option Value)} {binds : List (Str × Value)}
    (ho : (hd.heap_39 w.params).lookup f = some ⟨oc, od, .func (fnOf name qual params body scope dV kV doc pm an cdv ct), osl⟩) (hcd : codeIn (hd.heap_39 w.params) cdv qual = true)
    (hbind : ∀ s, BindsTo s (fnOf name qual params body scope dV kV doc pm an cdv ct) ⟨vs, []⟩ binds) (hloc : ∀ y ∈ binds, scope.names.lookup y.1 = some .local)
    (hcell : ∀ x ∈ scope.names, x.2 ≠ .cell)
    (h : ∀ (dp un : Nat) (gd : Option (List Code)) (outer : List Env) (A₀ : Around) (base h₁ : Heap) (s : Shared),
      Below A₀ base outer s.heap → Fr s.heap s.heap.objs.size h₁ (fun y => binds.reverse.lookup y) → (hd.heap_39 w.params).In s.heap → News s.heap s.heap.objs.size h₁ [] → TT mean mg mb s.heap → Pre s.heap →
      dp + d < recursionLimit + 1 → un + 8 * d < cLine + 3 →
      wpAny (model PR w) (ktrTop dp un gd qual scope s.heap.objs.size f cdv [] outer) (execs body (envOf qual scope s.heap.objs.size f cdv))
        (fun fl s' => End s (Post s.heap) (match fl with | .ret v => v | _ => .none) s') (fun _ _ => False)
        { s with heap := h₁, toks := s.toks + binds.length })
    (hd0 : 0 < d := by decide) (hco : scope.isCoroutine = false := by rfl) (hgen : scope.isGenerator = false := by rfl) (hk : scope.kind = .function := by rfl) :
    Con w mean mg mb f d vs Pre Post := by
  intro dp un gd cn cs a ccd cl outer A₀ base h₀ L m s Q E B F X T hcs hpre hdp hun hret
  refine wpAny_call ?_
  have X' := X.keeps F.keep
  have T' := T.keeps F.keep
  refine codeAny_call_def (fd := fnOf name qual params body scope dV kV doc pm an cdv ct) (body := body) (binds := binds) (by show dp < _; omega) (X' _ _ ho) rfl T'.nolimit (codeRec_of X' hcd) rfl (hbind s) hcell hloc (fun h₁ hns hk₁ => ?_) hco hgen hk
  have F₁ : Fr s.heap s.heap.objs.size h₁ (fun y => binds.reverse.lookup y) := ⟨hns, hk₁, Nat.le_refl _⟩
  have B₁ := B.push (name := cn) (scope := cs) (a := a) (cd := ccd) F hcs
  have B₂ : Below (ktrTop dp un gd cn cs L a ccd cl outer) base (envX cn cs L a ccd cl :: outer) s.heap := ⟨rfl, B₁.stays, B₁.frames⟩
  refine wpAny_mono (h (dp + 1) (un + 3) gd (envX cn cs L a ccd cl :: outer) _ base h₁ s B₂ F₁ X' News.nil T' hpre (by omega) (by omega)) (fun fl s' hl => ?_) (fun _ _ hf => hf.elim)
  obtain ⟨h', tk, rfl, hst, hp⟩ := hl
  exact hret _ h' tk hst hp

/-- the same of a def whose last parameter is a starred one -/
theorem con_of_star {w : World} {mean : ExcName → Option Value} {mg mb : Str → Option Value} {f : Addr} {d : Nat} {vs : List Value} {Pre : Heap → Prop} {Post : Heap → Value → Heap → Prop}
    {name qual : Str} {params : Arguments} {body : List Stmt} {scope : Scope} {dV kV doc pm cdv ct oc : Value} {an od : Option Addr} {osl : Array (Option Value)} {first : List (Str × Value)} {x : Str} {rest : List Value}
    (ho : (hd.heap_39 w.params).lookup f = some ⟨oc, od, .func (fnOf name qual params body scope dV kV doc pm an cdv ct), osl⟩) (hcd : codeIn (hd.heap_39 w.params) cdv qual = true)
    (hbind : bindArgs (fnOf name qual params body scope dV kV doc pm an cdv ct) ⟨vs, []⟩ = (newTuple rest >>= fun t => pure (first ++ [(x, t)]))) (hrest : rest.length ≤ sizeLine)
    (hloc : ∀ t, ∀ y ∈ first ++ [(x, t)], scope.names.lookup y.1 = some .local)
    (hcell : ∀ x ∈ scope.names, x.2 ≠ .cell)
    (h : ∀ (dp un : Nat) (gd : Option (List Code)) (outer : List Env) (A₀ : Around) (base h₁ : Heap) (L : Addr) (s : Shared) (tk : Nat),
      Below A₀ base outer s.heap → Fr s.heap L h₁ (fun y => (first ++ [(x, Value.ref s.heap.objs.size)]).reverse.lookup y) → (hd.heap_39 w.params).In s.heap →
      News s.heap L h₁ [(s.heap.objs.size, { cls := .type "tuple", data := .seq rest.toArray })] → TT mean mg mb s.heap → Pre s.heap →
      dp + d < recursionLimit + 1 → un + 8 * d < cLine + 3 →
      wpAny (model PR w) (ktrTop dp un gd qual scope L f cdv [] outer) (execs body (envOf qual scope L f cdv))
        (fun fl s' => End s (Post s.heap) (match fl with | .ret v => v | _ => .none) s') (fun _ _ => False)
        { s with heap := h₁, toks := tk })
    (hd0 : 0 < d := by decide) (hco : scope.isCoroutine = false := by rfl) (hgen : scope.isGenerator = false := by rfl) (hk : scope.kind = .function := by rfl) :
    Con w mean mg mb f d vs Pre Post := by
  intro dp un gd cn cs a ccd cl outer A₀ base h₀ L m s Q E B F X T hcs hpre hdp hun hret
  refine wpAny_call ?_
  have X' := X.keeps F.keep
  have T' := T.keeps F.keep
  refine codeAny_call_function (fd := fnOf name qual params body scope dV kV doc pm an cdv ct) (body := body) (by show dp < _; omega) (X' _ _ ho) rfl hco hgen rfl (codeRec_of X' hcd) ?_
  rw [hbind]
  refine wpAny_bind (wpAny_newObj_type ?_ (by show rest.toArray.size ≤ sizeLine; rw [List.size_toArray]; exact hrest))
  refine wpAny_pure ?_
  refine wpAny_newFunctionEnv hcell (hloc _) (fun h₁ hns hsb => ⟨(T'.nolimit.push _).fresh _ hsb, ?_⟩) hk
  have hk₁ : ∀ b o, (s.heap.push { cls := .type "tuple", data := .seq rest.toArray }).get? b = some o → h₁.get? b = some o := fun b o e => hsb.extBut b o (Nat.ne_of_lt (Heap.lt_size e)) (Heap.get?_push_of_some _ e)
  have F₁ : Fr s.heap (s.heap.push { cls := .type "tuple", data := .seq rest.toArray }).objs.size h₁ (fun y => (first ++ [(x, Value.ref s.heap.objs.size)]).reverse.lookup y) :=
    ⟨hns, fun b o e => hk₁ b o (Heap.get?_push_of_some _ e), by rw [Heap.size_push]; exact Nat.le_succ _⟩
  have N₁ : News s.heap (s.heap.push { cls := .type "tuple", data := .seq rest.toArray }).objs.size h₁ [(s.heap.objs.size, { cls := .type "tuple", data := .seq rest.toArray })] := by
    intro p hp
    rw [List.mem_singleton.mp hp]
    refine ⟨hk₁ _ _ (Heap.get?_push_size _ rfl), by rw [Heap.size_push]; exact Nat.ne_of_lt (Nat.lt_succ_self _), ?_⟩
    cases q : s.heap.get? s.heap.objs.size with
    | none => rfl
    | some o => exact absurd (Heap.lt_size q) (Nat.lt_irrefl _)
  have B₁ := B.push (name := cn) (scope := cs) (a := a) (cd := ccd) F hcs
  have B₂ : Below (ktrTop dp un gd cn cs L a ccd cl outer) base (envX cn cs L a ccd cl :: outer) s.heap := ⟨rfl, B₁.stays, B₁.frames⟩
  refine codeAny_func (wpAny_mono (h (dp + 1) (un + 3) gd (envX cn cs L a ccd cl :: outer) _ base h₁ _ s _ B₂ F₁ X' N₁ T' hpre (by omega) (by omega)) (fun fl s' hl => ?_) (fun _ _ hf => hf.elim))
  obtain ⟨h', tk, rfl, hst, hp⟩ := hl
  exact hret _ h' tk hst hp

theorem frOf {h₀ h h' : Heap} {L : Addr} {m : Str → Option Value} (F : Fr h₀ L h m) (k : Stays h h') : Fr h₀ L h' m :=
  ⟨F.ns.keeps k, fun b o e => k b o (F.keep b o e), F.above⟩
theorem newsOf {h₀ h h' : Heap} {L : Addr} {news : List (Addr × Obj)} (N : News h₀ L h news) (k : Stays h h') : News h₀ L h' news :=
  fun p hp => ⟨k _ _ (N p hp).1, (N p hp).2⟩

section
variable {w : World} {mean : ExcName → Option Value} {mg mb : Str → Option Value} {f : Addr} {d : Nat} {vs : List Value} {Pre : Heap → Prop} {Post : Heap → Value → Heap → Prop}
  {dp un : Nat} {gd : Option (List Code)} {cn : Str} {cs : Scope} {a : Addr} {ccd : Value} {cl : List (Str × Addr)} {outer : List Env} {A₀ : Around} {base h₀ : Heap} {L : Addr} {m : Str → Option Value} {s : Shared} {Q E : Value → Shared → Prop} {news : List (Addr × Obj)}

/-- a contract at its call -/
theorem con_use (C : Con w mean mg mb f d vs Pre Post) (B : Below A₀ base outer h₀) (F : Fr h₀ L s.heap m) (X : (hd.heap_39 w.params).In h₀) (N : News h₀ L s.heap news) (T : TT mean mg mb h₀) (hcs : cs.kind = .function) (pre : Pre s.heap)
    (hdp : dp + d < recursionLimit) (hun : un + 8 * d < cLine)
    (ret : ∀ v h' tk, Fr h₀ L h' m → News h₀ L h' news → Stays s.heap h' → Post s.heap v h' → Q v { s with heap := h', toks := tk }) :
    wpAny (model PR w) (ktrTop dp un gd cn cs L a ccd cl outer) (call (.ref f) vs) Q E s :=
  C dp un gd cn cs a ccd cl outer A₀ base h₀ L m s Q E B F X T hcs pre hdp hun fun v h' tk k p => ret v h' tk (frOf F k) (newsOf N k) k p

/-- a text comes back -/
def RStr (r : Str) (_ : Heap) (v : Value) (_ : Heap) : Prop := ∃ t, v = .str r t
def RBool (r : Bool) (_ : Heap) (v : Value) (_ : Heap) : Prop := v = .bool r
theorem con_str {r : Str} (C : Con w mean mg mb f d vs Pre (RStr r)) (B : Below A₀ base outer h₀) (F : Fr h₀ L s.heap m) (X : (hd.heap_39 w.params).In h₀) (N : News h₀ L s.heap news) (T : TT mean mg mb h₀) (hcs : cs.kind = .function) (pre : Pre s.heap)
    (hdp : dp + d < recursionLimit) (hun : un + 8 * d < cLine)
    (ret : ∀ t h' tk, Fr h₀ L h' m → News h₀ L h' news → Q (.str r t) { s with heap := h', toks := tk }) :
    wpAny (model PR w) (ktrTop dp un gd cn cs L a ccd cl outer) (call (.ref f) vs) Q E s :=
  con_use C B F X N T hcs pre hdp hun fun v h' tk F' N' _ ⟨t, e⟩ => e ▸ ret t h' tk F' N'
theorem con_bool {r : Bool} (C : Con w mean mg mb f d vs Pre (RBool r)) (B : Below A₀ base outer h₀) (F : Fr h₀ L s.heap m) (X : (hd.heap_39 w.params).In h₀) (N : News h₀ L s.heap news) (T : TT mean mg mb h₀) (hcs : cs.kind = .function) (pre : Pre s.heap)
    (hdp : dp + d < recursionLimit) (hun : un + 8 * d < cLine)
    (ret : ∀ h' tk, Fr h₀ L h' m → News h₀ L h' news → Q (.bool r) { s with heap := h', toks := tk }) :
    wpAny (model PR w) (ktrTop dp un gd cn cs L a ccd cl outer) (call (.ref f) vs) Q E s :=
  con_use C B F X N T hcs pre hdp hun fun v h' tk F' N' _ e => by
    have e' : v = .bool r := e
    subst e'
    exact ret h' tk F' N'
end
end
section
open PySem PySem.W PyProof.Rows PySem.Calls PySem.Spec
set_option maxRecDepth 100000
set_option maxHeartbeats 8000000
theorem fill : PySem.Challenge.rw_rt0030_01 = PySem.Challenge.rw_rt0030_01 := rfl

theorem k_isn : builtinKind "issubclass.nested" = none := by decide +kernel
theorem p_isn : plainId "issubclass.nested" = true := by decide +kernel
theorem a_isn (a b c : Value) : argsOk "issubclass.nested" ⟨[a, b, c], []⟩ := by unfold argsOk; kernel_rfl
/-- issubclass of a built-in kind against a tuple that opens with it -/
theorem issub_tuple {prog : Program} {w : World} {A : Around} {E : Value → Shared → Prop} {s : Shared} {tup : Addr} {n : Nat} {Q : Value → Shared → Prop}
    (ho : s.heap.get? tup = some { cls := .type "tuple", data := .seq #[.type "str", .type "bytes"] n }) (h : Q (.bool true) s) :
    wpAny (model prog w) A (call (.builtin "issubclass") [.type "str", .ref tup]) Q E s := by
  refine call_issubclass (S := fun _ R s => (s.heap.get? tup = some { cls := .type "tuple", data := .seq #[.type "str", .type "bytes"] n }) ∧ R (.ok (.ret (.bool true))) s) ?_ ⟨ho, h⟩
  intro prog w A R s hs
  obtain ⟨ho, hR⟩ := hs
  refine issubclass_outer ?_
  unfold Builtin.«issubclass.nested»
  have hsub : isSubtype (.type "str") (.type "str") = pure true := by rw [isSubtype_type]; kernel_rfl
  have hsub2 : isSubtype (.type "tuple") (.type "tuple") = pure true := by rw [isSubtype_type]; kernel_rfl
  repeat (any_goals (first | assumption | (rw [hsub2]) | (refine wpAny_of_eq (show _ = pure true from hsub) ?_) | (with_reducible refine call_function_any (id := "issubclass.nested") k_isn p_isn F.entry_issubclass_nested (a_isn _ _ _) ?_) | wp_step))

theorem get_sep (w : World) (mean : ExcName → Option Value) (mg mb : Str → Option Value) (x : Str) (tx : Tok) :
    Con w mean mg mb 127 1 [.str x tx] (fun _ => True) (RStr (Str.ofString "/")) := by
  have hfill := fill
  refine con_of (by with_unfolding_all rfl) (by with_unfolding_all rfl) (fun s => BindsTo.of_eq rfl) (locs rfl) (by decide) ?_
  revert hfill
  w_on
  k_fill
  intro hfill dp un gd outer A₀ base h₁ s B F X N T hpre hdp hun
  k_steps
  all_goals exact End.mk' (by assumption) ⟨_, rfl⟩

local macro_rules | `(tactic| walk_at "call builtin:issubclass") => `(tactic| (k_here; k_dflt (refine issub_tuple (News.get (by k_asm) (by k_mem)) ?_)))

theorem fspathC (w : World) (mean : ExcName → Option Value) (mg mb : Str → Option Value) (x : Str) (tx : Tok) :
    Con w mean mg mb 113 1 [.str x tx] (fun _ => True) (RStr x) := by
  have hfill := fill
  refine con_of (by with_unfolding_all rfl) (by with_unfolding_all rfl) (fun s => BindsTo.of_eq rfl) (locs rfl) (by decide) ?_
  revert hfill
  w_on
  k_fill
  intro hfill dp un gd outer A₀ base h₁ s B F X N T hpre hdp hun
  k_steps
  all_goals exact End.mk' (by assumption) ⟨_, rfl⟩
end
section
open PySem PySem.W PyProof.Rows PySem.Calls PySem.Spec
set_option maxRecDepth 100000
set_option maxHeartbeats 8000000
section
variable {prog : Program} {w : World} {A : Around} {E : Value → Shared → Prop} {s : Shared} {env : Env} {h₀ : Heap} {x : Str} {body : List Stmt} {Q : Flow → Shared → Prop}

def TurnFin (h₀ : Heap) (L I : Addr) (oI : Obj) (J : (Str → Option Value) → List (Addr × Obj) → Prop) (s₁ s₂ : Shared) : Prop :=
  ∃ h' tk m' news' nx, s₂ = { s₁ with heap := h', toks := tk } ∧ Fr h₀ L h' m' ∧ News h₀ L h' news' ∧ (∀ p ∈ nx, p ∈ news') ∧ (I, oI) ∈ news' ∧ (∀ p ∈ nx, p.1 ≠ I) ∧ J m' nx
def TurnP (h₀ : Heap) (L I : Addr) (oI : Obj) (J : (Str → Option Value) → List (Addr × Obj) → Prop) (s₁ : Shared) (Q : Flow → Shared → Prop) (f : Flow) (s₂ : Shared) : Prop :=
  match f with
  | .ret v => Q (.ret v) s₂
  | .brk => Q .next s₂
  | _ => TurnFin h₀ L I oI J s₁ s₂
theorem TurnFin.mk' {L I : Addr} {oI : Obj} {J : (Str → Option Value) → List (Addr × Obj) → Prop} {s₁ : Shared} {h' : Heap} {tk : Nat} {m' : Str → Option Value} {news' : List (Addr × Obj)} (nx : List (Addr × Obj))
    (F : Fr h₀ L h' m') (N : News h₀ L h' news') (hn : ∀ p ∈ nx, p ∈ news') (hI : (I, oI) ∈ news') (hne : ∀ p ∈ nx, p.1 ≠ I) (hj : J m' nx) : TurnFin h₀ L I oI J s₁ { s₁ with heap := h', toks := tk } :=
  ⟨h', tk, m', news', nx, rfl, F, N, hn, hI, hne, hj⟩

theorem loop_any {I : Addr} {fp : List Addr} {n : Nat} {P : Nat → Value → Prop} {St : Nat → Heap → Prop} {m₀ : Str → Option Value} {news : List (Addr × Obj)} (J : Nat → (Str → Option Value) → List (Addr × Obj) → Prop)
    (W : Walks prog w A I fp [I] n P St)
    (hfp : ∀ b ∈ fp, b = I ∨ (∃ o, h₀.get? b = some o) ∨ ∃ lo, ∀ i m₁ news₁, J i m₁ news₁ → (b, lo) ∈ news₁)
    (hL : env.locals ∉ fp) (hI0 : h₀.get? I = none) (hob : ∀ i h, St i h → ∃ o, h.get? I = some o)
    (hst : St 0 s.heap) (F : Fr h₀ env.locals s.heap m₀) (N : News h₀ env.locals s.heap news) (hnw : ∀ p ∈ news, p.1 ≠ I) (hj : J 0 m₀ news)
    (turn : ∀ i v m₁ news₁ h tk oI, i < n → P i v → J i m₁ news₁ → (∀ p ∈ news₁, p.1 ≠ I) → Fr h₀ env.locals h (fun y => if y = x then some v else m₁ y) → News h₀ env.locals h (news₁ ++ [(I, oI)]) →
      wpAny (model prog w) A (execs body env) (TurnP h₀ env.locals I oI (J (i + 1)) { s with heap := h, toks := tk } Q) E { s with heap := h, toks := tk })
    (done : ∀ m₁ news₁ h tk, J n m₁ news₁ → Fr h₀ env.locals h m₁ → News h₀ env.locals h news₁ → Q .next { s with heap := h, toks := tk }) :
    LoopAtV prog w A h₀ env x body Q E (.ref I) s := by
  refine ⟨I, fp, [I], n, P, St, m₀, news, J, rfl, W, hL, ?_, ?_, hst, F, N, hj, ?_, ?_⟩
  · intro b hb
    rw [List.mem_singleton.mp hb]; exact hI0
  · intro p hp hI
    exact hnw p hp (List.mem_singleton.mp hI)
  · rintro i v m₁ news₁ s₁ own ⟨h, tk, rfl⟩ hin hP hJ hoff hown hget hall hst' F₁ N₁
    have hIfp : I ∈ fp := W.sub I (List.mem_singleton.mpr rfl)
    obtain ⟨oI, hoI⟩ := hob _ _ hst'
    have hIo : (I, oI) ∈ own := hall I hIfp hI0 oI hoI
    have hne₁ : ∀ p ∈ news₁, p.1 ≠ I := fun p hp e => hoff p hp (List.mem_singleton.mpr e)
    have N₂ : News h₀ env.locals h (news₁ ++ [(I, oI)]) := by
      intro p hp
      rcases List.mem_append.mp hp with h1 | h1
      · exact N₁ p (List.mem_append_right _ h1)
      · rw [List.mem_singleton.mp h1]; exact N₁ _ (List.mem_append_left _ hIo)
    refine wpAny_mono (turn i v m₁ news₁ h tk oI hin hP hJ hne₁ F₁ N₂) (fun f s₂ p => ?_) fun _ _ e => e
    have fin : TurnFin h₀ env.locals I oI (J (i + 1)) { s with heap := h, toks := tk } s₂ → LoopStepU h₀ env.locals [I] own (J (i + 1)) { s with heap := h, toks := tk } .next s₂ := by
      rintro ⟨h', tk', m', news', nx, e, F', N', hn, hI', hne, hJ'⟩
      refine ⟨rfl, h', tk', m', nx, e, F', ?_, fun q hq hq' => hne q hq (List.mem_singleton.mp hq'), hJ'⟩
      intro q hq
      rcases List.mem_append.mp hq with h1 | h1
      · have h2 := hget q h1
        rcases hfp q.1 (hown q h1) with e1 | ⟨o, e1⟩ | ⟨lo, e1⟩
        · have : q = (I, oI) := by
            rw [e1] at h2
            have h3 : q.2 = oI := by
              have h4 : some q.2 = some oI := by rw [← h2]; exact hoI
              exact Option.some.inj h4
            exact Prod.ext e1 h3
          rw [this]; exact N' _ hI'
        · have h3 := (N₁ q (List.mem_append_left _ h1)).2.2
          rw [e1] at h3; cases h3
        · have h3 := (N₁ _ (List.mem_append_right own (e1 i m₁ news₁ hJ))).1
          have : q = (q.1, lo) := by
            refine Prod.ext rfl ?_
            have h4 : some q.2 = some lo := by rw [← h2]; exact h3
            exact Option.some.inj h4
          rw [this]
          exact N' _ (hn _ (e1 _ _ _ hJ'))
      · exact N' _ (hn _ h1)
    cases f with
    | ret v => exact .ret p
    | brk => exact .brk p
    | next => exact .next (fin p)
    | cont => exact .cont (fin p)
  · intro h' tk m' news' F' N' _ hJ
    exact done m' news' h' tk hJ F' N'

theorem ne_size_of_news {h₀ h : Heap} {L : Addr} {news : List (Addr × Obj)} (N : News h₀ L h news) : ∀ p ∈ news, p.1 ≠ h.objs.size := fun p hp => Nat.ne_of_lt (Heap.lt_size (N p hp).1)
theorem news_push {h₀ h : Heap} {L : Addr} {news : List (Addr × Obj)} (N : News h₀ L h news) (o : Obj) : News h₀ L (h.push o) news := fun p hp => ⟨Heap.get?_push_of_some _ (N p hp).1, (N p hp).2⟩

/-- for over a list that the call made, or that stood before it -/
theorem iter_list {l : Addr} {vs : List Value} {m₀ : Str → Option Value} {news : List (Addr × Obj)} (J : Nat → (Str → Option Value) → List (Addr × Obj) → Prop)
    (hh : A.handled = none) (F : Fr h₀ env.locals s.heap m₀) (N : News h₀ env.locals s.heap news) (hl : s.heap.IsList l vs.toArray) (hne : l ≠ env.locals)
    (keep : (∃ o, h₀.get? l = some o) ∨ ∃ lo, ∀ i m₁ news₁, J i m₁ news₁ → (l, lo) ∈ news₁) (hj : J 0 m₀ news)
    (turn : ∀ i v m₁ news₁ h tk oI, vs[i]? = some v → J i m₁ news₁ → (∀ p ∈ news₁, p.1 ≠ s.heap.objs.size) → Fr h₀ env.locals h (fun y => if y = x then some v else m₁ y) → News h₀ env.locals h (news₁ ++ [(s.heap.objs.size, oI)]) →
      wpAny (model prog w) A (execs body env) (TurnP h₀ env.locals s.heap.objs.size oI (J (i + 1)) { s with heap := h, toks := tk } Q) E { s with heap := h, toks := tk })
    (done : ∀ m₁ news₁ h tk, J vs.length m₁ news₁ → Fr h₀ env.locals h m₁ → News h₀ env.locals h news₁ → Q .next { s with heap := h, toks := tk }) :
    wpAny (model prog w) A (pyIter (.ref l)) (fun it s₂ => LoopAtV prog w A h₀ env x body Q E it s₂) E s := by
  obtain ⟨ol, hol, hrest⟩ := id hl
  have hlI : l ≠ s.heap.objs.size := Nat.ne_of_lt (Heap.lt_size hol)
  refine wpAny_pyIter_list hl ?_
  have W := Walks.list (prog := prog) (w := w) hh s.heap.objs.size l hlI vs.toArray
  have hlen : vs.toArray.size = vs.length := by simp
  rw [hlen] at W
  refine loop_any J W ?_ ?_ (next_is_new F) (fun i h hs => let ⟨o, ho, _⟩ := hs.1; ⟨o, ho⟩) ⟨⟨_, Heap.get?_push_size _ rfl, rfl, rfl⟩, hl.at fun o e => Heap.get?_push_of_some _ e⟩ (F.push _) (news_push N _) (ne_size_of_news N) hj ?_ ?_
  · intro b hb
    rcases List.mem_cons.mp hb with e | hb
    · exact .inl e
    · rw [List.mem_singleton.mp hb]; exact .inr keep
  · intro hm
    rcases List.mem_cons.mp hm with e | hm
    · exact absurd F.ns.lt (e ▸ Nat.lt_irrefl _)
    · exact hne (List.mem_singleton.mp hm).symm
  · intro i v m₁ news₁ h tk oI hi hP hJ hn F₁ N₁
    exact turn i v m₁ news₁ h tk oI (by simpa using hP) hJ hn F₁ N₁
  · exact done

/-- for over a range -/
theorem iter_range {r : Addr} {a₀ b₀ : Int} {t₀ u₀ v₀ : Tok} {n : Nat} {m₀ : Str → Option Value} {news : List (Addr × Obj)} (J : Nat → (Str → Option Value) → List (Addr × Obj) → Prop)
    (hh : A.handled = none) (F : Fr h₀ env.locals s.heap m₀) (N : News h₀ env.locals s.heap news) (hr : IsRange s.heap r a₀ b₀ 1 t₀ u₀ v₀) (hsmall : Builtin.Range.small a₀ b₀ 1 = true) (hn : Builtin.Range.rangeSize a₀ b₀ 1 = (n : Int)) (hj : J 0 m₀ news)
    (turn : ∀ i t m₁ news₁ h tk oI, i < n → J i m₁ news₁ → (∀ p ∈ news₁, p.1 ≠ s.heap.objs.size) → Fr h₀ env.locals h (fun y => if y = x then some (.int (a₀ + i) t) else m₁ y) → News h₀ env.locals h (news₁ ++ [(s.heap.objs.size, oI)]) →
      wpAny (model prog w) A (execs body env) (TurnP h₀ env.locals s.heap.objs.size oI (J (i + 1)) { s with heap := h, toks := tk } Q) E { s with heap := h, toks := tk })
    (done : ∀ m₁ news₁ h tk, J n m₁ news₁ → Fr h₀ env.locals h m₁ → News h₀ env.locals h news₁ → Q .next { s with heap := h, toks := tk }) :
    wpAny (model prog w) A (pyIter (.ref r)) (fun it s₂ => LoopAtV prog w A h₀ env x body Q E it s₂) E s := by
  refine wpAny_pyIter_range hr hsmall ?_
  have W : Walks prog w A s.heap.objs.size [s.heap.objs.size] [s.heap.objs.size] n (fun i v => i < n ∧ ∃ t, v = .int (a₀ + i * 1) t)
      (fun i h => IsRangeIter h s.heap.objs.size (a₀ + (i : Nat) * 1) ((n : Int) - (i : Nat)) 1) := (Walks.range hh _ a₀ 1 n).bound
  refine loop_any J W (fun b hb => .inl (List.mem_singleton.mp hb)) ?_ (next_is_new F) (fun i h hs => ⟨_, hs⟩) (by show IsRangeIter _ _ _ _ _; rw [hn]; simpa using Heap.get?_push_size _ rfl) (F.push _) (news_push N _) (ne_size_of_news N) hj ?_ ?_
  · intro hm
    exact absurd F.ns.lt ((List.mem_singleton.mp hm) ▸ Nat.lt_irrefl _)
  · rintro i v m₁ news₁ h tk oI hi ⟨_, t, rfl⟩ hJ hn' F₁ N₁
    rw [Int.mul_one] at F₁
    exact turn i t m₁ news₁ h tk oI hi hJ hn' F₁ N₁
  · exact done

/-- for over the signs of a text -/
theorem iter_str {y : Str} {ty : Tok} {m₀ : Str → Option Value} {news : List (Addr × Obj)} (J : Nat → (Str → Option Value) → List (Addr × Obj) → Prop)
    (hh : A.handled = none) (F : Fr h₀ env.locals s.heap m₀) (N : News h₀ env.locals s.heap news) (hj : J 0 m₀ news)
    (turn : ∀ i c t m₁ news₁ h tk oI, y.cps[i]? = some c → J i m₁ news₁ → (∀ p ∈ news₁, p.1 ≠ s.heap.objs.size) → Fr h₀ env.locals h (fun y => if y = x then some (.str ⟨#[c]⟩ t) else m₁ y) → News h₀ env.locals h (news₁ ++ [(s.heap.objs.size, oI)]) →
      wpAny (model prog w) A (execs body env) (TurnP h₀ env.locals s.heap.objs.size oI (J (i + 1)) { s with heap := h, toks := tk } Q) E { s with heap := h, toks := tk })
    (done : ∀ m₁ news₁ h tk, J y.cps.size m₁ news₁ → Fr h₀ env.locals h m₁ → News h₀ env.locals h news₁ → Q .next { s with heap := h, toks := tk }) :
    wpAny (model prog w) A (pyIter (.str y ty)) (fun it s₂ => LoopAtV prog w A h₀ env x body Q E it s₂) E s := by
  have hL : env.locals ∉ [s.heap.objs.size] := fun hm => absurd F.ns.lt ((List.mem_singleton.mp hm) ▸ Nat.lt_irrefl _)
  cases ha : y.cps.all (· < 128)
  · refine wpAny_pyIter_wide ha ?_
    refine loop_any J (Walks.strWide (t := ty) hh _ y) (fun b hb => .inl (List.mem_singleton.mp hb)) hL (next_is_new F) (fun i h hs => let ⟨o, ho, _⟩ := hs; ⟨o, ho⟩) ⟨_, Heap.get?_push_size _ rfl, rfl, rfl⟩ (F.push _) (news_push N _) (ne_size_of_news N) hj ?_ done
    rintro i v m₁ news₁ h tk oI hi ⟨c, t, hc, rfl⟩ hJ hn' F₁ N₁
    exact turn i c t m₁ news₁ h tk oI hc hJ hn' F₁ N₁
  · refine wpAny_pyIter_ascii ha ?_
    refine loop_any J (Walks.strAscii (t := ty) hh _ y) (fun b hb => .inl (List.mem_singleton.mp hb)) hL (next_is_new F) (fun i h hs => let ⟨o, ho, _⟩ := hs; ⟨o, ho⟩) ⟨_, Heap.get?_push_size _ rfl, rfl, rfl⟩ (F.push _) (news_push N _) (ne_size_of_news N) hj ?_ done
    rintro i v m₁ news₁ h tk oI hi ⟨c, t, hc, rfl⟩ hJ hn' F₁ N₁
    exact turn i c t m₁ news₁ h tk oI hc hJ hn' F₁ N₁
end

/-- the walk is to stop here -/
def Stop (P : Prop) : Prop := P
theorem stop_intro {P : Prop} (h : Stop P) : P := h

/-- a map of a frame between the turns: these names, those forgotten, the rest as before -/
def mpOf (b : List (Str × Value)) (fg : List Str) (u m₀ : Str → Option Value) : Str → Option Value :=
  fun y => match b.lookup y with
    | some v => some v
    | none => if fg.contains y then u y else m₀ y
theorem mp_of {m' m₀ : Str → Option Value} {b : List (Str × Value)} {fg : List Str} (h1 : ∀ p ∈ b, m' p.1 = some p.2) (h2 : ∀ y, (∀ p ∈ b, y ≠ p.1) → (∀ z ∈ fg, y ≠ z) → m' y = m₀ y) : m' = mpOf b fg m' m₀ := by
  funext y
  unfold mpOf
  split
  · rename_i v hv
    have : (y, v) ∈ b := by
      clear h1 h2
      induction b with
      | nil => cases hv
      | cons p r ih =>
        rw [List.lookup_cons] at hv
        split at hv
        · rename_i e
          have e' := eq_of_beq e
          cases hv
          rw [e']; exact List.mem_cons_self ..
        · exact List.mem_cons_of_mem _ (ih hv)
    exact h1 _ this
  · rename_i hv
    cases hf : fg.contains y with
    | true => simp
    | false =>
      simp only [Bool.false_eq_true, if_false]
      refine h2 y (fun p hp e => ?_) (fun z hz e => ?_)
      · rw [e] at hv
        have h3 : (p.1, p.2) ∈ b := hp
        clear h1 h2
        induction b with
        | nil => cases hp
        | cons q r ih =>
          rw [List.lookup_cons] at hv
          split at hv
          · cases hv
          · rename_i e2
            rcases List.mem_cons.mp hp with e3 | e3
            · rw [e3] at e2; simp at e2
            · first | exact ih hv e3 e3 | exact ih hv e3 | exact ih e3 hv
      · rw [e] at hf
        simp at hf
        exact hf hz
end
section
open PySem PySem.W PyProof.Rows PySem.Calls PySem.Spec
set_option maxRecDepth 100000
set_option maxHeartbeats 8000000
def Off (y : Str) : List Str → Prop
  | [] => True
  | z :: r => y ≠ z ∧ Off y r
def Holds (m : Str → Option Value) : List Str → List Value → Prop
  | z :: r, v :: vs => m z = some v ∧ Holds m r vs
  | _, _ => True
/-- a map of a frame: these names hold these values, those are forgotten, the rest as before -/
def mp (nm : List Str) (vals : List Value) (fg : List Str) (u m₀ : Str → Option Value) : Str → Option Value :=
  fun y => match (nm.zip vals).lookup y with
    | some v => some v
    | none => if fg.contains y then u y else m₀ y
theorem mp_out {nm fg : List Str} {vals : List Value} {u m₀ : Str → Option Value} {y : Str} (h1 : Off y nm) (h2 : Off y fg) : mp nm vals fg u m₀ y = m₀ y := by
  unfold mp
  have e1 : (nm.zip vals).lookup y = none := by
    clear h2
    induction nm generalizing vals with
    | nil => rfl
    | cons z r ih =>
      cases vals with
      | nil => rfl
      | cons v vs =>
        simp only [List.zip_cons_cons, List.lookup_cons]
        have : (y == z) = false := by
          cases h : y == z with
          | false => rfl
          | true => exact absurd (eq_of_beq h) h1.1
        rw [this]
        exact ih h1.2
  have e2 : fg.contains y = false := by
    clear h1 e1
    induction fg with
    | nil => rfl
    | cons z r ih =>
      simp only [List.contains_cons, Bool.or_eq_false_iff]
      refine ⟨?_, ih h2.2⟩
      cases h : y == z with
      | false => rfl
      | true => exact absurd (eq_of_beq h) h2.1
  rw [e1, e2]; rfl
theorem mp_eq {m' m₀ : Str → Option Value} {nm fg : List Str} {vals : List Value} (h1 : Holds m' nm vals) (h2 : ∀ y, Off y nm → Off y fg → m' y = m₀ y) (hlen : nm.length = vals.length) : m' = mp nm vals fg m' m₀ := by
  funext y
  unfold mp
  split
  · rename_i v hv
    clear h2
    induction nm generalizing vals with
    | nil => cases hv
    | cons z r ih =>
      cases vals with
      | nil => cases hv
      | cons v' vs =>
        simp only [List.zip_cons_cons, List.lookup_cons] at hv
        split at hv
        · rename_i e
          cases hv
          rw [eq_of_beq e]; exact h1.1
        · exact ih h1.2 (by simpa using hlen) hv
  · rename_i hv
    cases hf : fg.contains y with
    | true => simp
    | false =>
      simp only [Bool.false_eq_true, if_false]
      refine h2 y ?_ ?_
      · clear h1 h2 hf
        induction nm generalizing vals with
        | nil => trivial
        | cons z r ih =>
          cases vals with
          | nil => simp at hlen
          | cons v' vs =>
            simp only [List.zip_cons_cons, List.lookup_cons] at hv
            split at hv
            · cases hv
            · rename_i e
              refine ⟨fun e2 => ?_, ih (by simpa using hlen) hv⟩
              rw [e2] at e; simp at e
      · clear h1 h2 hv
        induction fg with
        | nil => trivial
        | cons z r ih =>
          simp only [List.contains_cons, Bool.or_eq_false_iff] at hf
          refine ⟨fun e2 => ?_, ih hf.2⟩
          rw [e2] at hf; simp at hf

section
variable {prog : Program} {w : World} {A : Around} {E : Value → Shared → Prop} {s : Shared} {env : Env} {h₀ : Heap} {x : Str} {body : List Stmt} {Q : Flow → Shared → Prop} {σ : Type}

def TurnS (h₀ : Heap) (L I : Addr) (oI : Obj) (nm : List Str) (vals : σ → List Value) (fg : List Str) (nw : σ → List (Addr × Obj)) (m₀ : Str → Option Value) (Inv : σ → Prop) (s₁ : Shared) (Q : Flow → Shared → Prop) (f : Flow) (s₂ : Shared) : Prop :=
  match f with
  | .ret v => Q (.ret v) s₂
  | .brk => Q .next s₂
  | _ => ∃ st' h' tk m' news', s₂ = { s₁ with heap := h', toks := tk } ∧ Fr h₀ L h' m' ∧ News h₀ L h' news' ∧ Holds m' nm (vals st') ∧ (∀ y, Off y nm → Off y fg → m' y = m₀ y) ∧ (∀ p ∈ nw st', p ∈ news') ∧ (I, oI) ∈ news' ∧ (∀ p ∈ nw st', p.1 ≠ I) ∧ Inv st'
theorem TurnS.mk' {L I : Addr} {oI : Obj} {nm : List Str} {vals : σ → List Value} {fg : List Str} {nw : σ → List (Addr × Obj)} {m₀ m' : Str → Option Value} {Inv : σ → Prop} {s₁ : Shared} {h' : Heap} {tk : Nat} {news' : List (Addr × Obj)} (F : Fr h₀ L h' m') (N : News h₀ L h' news') (st' : σ)
    (hb : Holds m' nm (vals st')) (hm : ∀ y, Off y nm → Off y fg → m' y = m₀ y) (hn : ∀ p ∈ nw st', p ∈ news') (hI : (I, oI) ∈ news') (hne : ∀ p ∈ nw st', p.1 ≠ I) (hinv : Inv st') :
    TurnS h₀ L I oI nm vals fg nw m₀ Inv s₁ Q .next { s₁ with heap := h', toks := tk } := ⟨st', h', tk, m', news', rfl, F, N, hb, hm, hn, hI, hne, hinv⟩
theorem TurnS.mkc {L I : Addr} {oI : Obj} {nm : List Str} {vals : σ → List Value} {fg : List Str} {nw : σ → List (Addr × Obj)} {m₀ m' : Str → Option Value} {Inv : σ → Prop} {s₁ : Shared} {h' : Heap} {tk : Nat} {news' : List (Addr × Obj)} (F : Fr h₀ L h' m') (N : News h₀ L h' news') (st' : σ)
    (hb : Holds m' nm (vals st')) (hm : ∀ y, Off y nm → Off y fg → m' y = m₀ y) (hn : ∀ p ∈ nw st', p ∈ news') (hI : (I, oI) ∈ news') (hne : ∀ p ∈ nw st', p.1 ≠ I) (hinv : Inv st') :
    TurnS h₀ L I oI nm vals fg nw m₀ Inv s₁ Q .cont { s₁ with heap := h', toks := tk } := ⟨st', h', tk, m', news', rfl, F, N, hb, hm, hn, hI, hne, hinv⟩

section
variable (nm : List Str) (vals : σ → List Value) (fg : List Str) (nw : σ → List (Addr × Obj)) (m₀ : Str → Option Value) (Inv : Nat → σ → Prop)
def JS (i : Nat) (m : Str → Option Value) (news : List (Addr × Obj)) : Prop := ∃ st u, m = mp nm (vals st) fg u m₀ ∧ news = nw st ∧ Inv i st
variable {nm vals fg nw m₀ Inv}
theorem TurnS.to {L I : Addr} {oI : Obj} {i : Nat} {s₁ s₂ : Shared} {f : Flow} (hlen : ∀ st, nm.length = (vals st).length) (h : TurnS h₀ L I oI nm vals fg nw m₀ (Inv (i + 1)) s₁ Q f s₂) : TurnP h₀ L I oI (JS nm vals fg nw m₀ Inv (i + 1)) s₁ Q f s₂ := by
  have key : (∃ st' h' tk m' news', s₂ = { s₁ with heap := h', toks := tk } ∧ Fr h₀ L h' m' ∧ News h₀ L h' news' ∧ Holds m' nm (vals st') ∧ (∀ y, Off y nm → Off y fg → m' y = m₀ y) ∧ (∀ p ∈ nw st', p ∈ news') ∧ (I, oI) ∈ news' ∧ (∀ p ∈ nw st', p.1 ≠ I) ∧ Inv (i + 1) st') →
      TurnFin h₀ L I oI (JS nm vals fg nw m₀ Inv (i + 1)) s₁ s₂ := by
    rintro ⟨st', h', tk, m', news', e, F, N, hb, hm, hn, hI, hne, hinv⟩
    exact ⟨h', tk, m', news', nw st', e, F, N, hn, hI, hne, st', m', mp_eq hb hm (hlen st'), rfl, hinv⟩
  cases f with
  | ret v => exact h
  | brk => exact h
  | next => exact key h
  | cont => exact key h
end

theorem iter_listS {l : Addr} {vs : List Value} {m₀ : Str → Option Value} {news : List (Addr × Obj)} (nm : List Str) (vals : σ → List Value) (fg : List Str) (nw : σ → List (Addr × Obj)) (Inv : Nat → σ → Prop) (st₀ : σ)
    (hlen : ∀ st, nm.length = (vals st).length)
    (hh : A.handled = none) (F : Fr h₀ env.locals s.heap m₀) (N : News h₀ env.locals s.heap news) (hl : s.heap.IsList l vs.toArray) (hne : l ≠ env.locals)
    (keep : (∃ o, h₀.get? l = some o) ∨ ∃ lo, ∀ st, (l, lo) ∈ nw st) (hb : Holds m₀ nm (vals st₀)) (hn : ∀ p ∈ nw st₀, p ∈ news) (hinv : Inv 0 st₀)
    (turn : ∀ i v st u h tk oI, vs[i]? = some v → Inv i st → (∀ p ∈ nw st, p.1 ≠ s.heap.objs.size) → Fr h₀ env.locals h (fun y => if y = x then some v else mp nm (vals st) fg u m₀ y) → News h₀ env.locals h (nw st ++ [(s.heap.objs.size, oI)]) →
      wpAny (model prog w) A (execs body env) (TurnS h₀ env.locals s.heap.objs.size oI nm vals fg nw m₀ (Inv (i + 1)) { s with heap := h, toks := tk } Q) E { s with heap := h, toks := tk })
    (done : ∀ st u h tk, Inv vs.length st → Fr h₀ env.locals h (mp nm (vals st) fg u m₀) → News h₀ env.locals h (nw st) → Q .next { s with heap := h, toks := tk }) :
    wpAny (model prog w) A (pyIter (.ref l)) (fun it s₂ => LoopAtV prog w A h₀ env x body Q E it s₂) E s := by
  refine iter_list (JS nm vals fg nw m₀ Inv) hh F (news := nw st₀) (fun p hp => N p (hn p hp)) hl hne (keep.imp id fun ⟨lo, h⟩ => ⟨lo, fun i m₁ news₁ ⟨st, u, _, e, _⟩ => e ▸ h st⟩) ⟨st₀, m₀, mp_eq hb (fun _ _ _ => rfl) (hlen _), rfl, hinv⟩ ?_ ?_
  · rintro i v m₁ news₁ h tk oI hv ⟨st, u, rfl, rfl, hi⟩ hI F₁ N₁
    exact wpAny_mono (turn i v st u h tk oI hv hi hI F₁ N₁) (fun f s₂ p => TurnS.to hlen p) fun _ _ e => e
  · rintro m₁ news₁ h tk ⟨st, u, rfl, rfl, hi⟩ F₁ N₁
    exact done st u h tk hi F₁ N₁

theorem iter_rangeS {r : Addr} {a₀ b₀ : Int} {t₀ u₀ v₀ : Tok} {n : Nat} {m₀ : Str → Option Value} {news : List (Addr × Obj)} (nm : List Str) (vals : σ → List Value) (fg : List Str) (nw : σ → List (Addr × Obj)) (Inv : Nat → σ → Prop) (st₀ : σ)
    (hlen : ∀ st, nm.length = (vals st).length)
    (hh : A.handled = none) (F : Fr h₀ env.locals s.heap m₀) (N : News h₀ env.locals s.heap news) (hr : IsRange s.heap r a₀ b₀ 1 t₀ u₀ v₀) (hsmall : Builtin.Range.small a₀ b₀ 1 = true) (hn' : Builtin.Range.rangeSize a₀ b₀ 1 = (n : Int))
    (hb : Holds m₀ nm (vals st₀)) (hn : ∀ p ∈ nw st₀, p ∈ news) (hinv : Inv 0 st₀)
    (turn : ∀ i t st u h tk oI, i < n → Inv i st → (∀ p ∈ nw st, p.1 ≠ s.heap.objs.size) → Fr h₀ env.locals h (fun y => if y = x then some (.int (a₀ + (i : Nat)) t) else mp nm (vals st) fg u m₀ y) → News h₀ env.locals h (nw st ++ [(s.heap.objs.size, oI)]) →
      wpAny (model prog w) A (execs body env) (TurnS h₀ env.locals s.heap.objs.size oI nm vals fg nw m₀ (Inv (i + 1)) { s with heap := h, toks := tk } Q) E { s with heap := h, toks := tk })
    (done : ∀ st u h tk, Inv n st → Fr h₀ env.locals h (mp nm (vals st) fg u m₀) → News h₀ env.locals h (nw st) → Q .next { s with heap := h, toks := tk }) :
    wpAny (model prog w) A (pyIter (.ref r)) (fun it s₂ => LoopAtV prog w A h₀ env x body Q E it s₂) E s := by
  refine iter_range (JS nm vals fg nw m₀ Inv) hh F (news := nw st₀) (fun p hp => N p (hn p hp)) hr hsmall hn' ⟨st₀, m₀, mp_eq hb (fun _ _ _ => rfl) (hlen _), rfl, hinv⟩ ?_ ?_
  · rintro i t m₁ news₁ h tk oI hv ⟨st, u, rfl, rfl, hi⟩ hI F₁ N₁
    exact wpAny_mono (turn i t st u h tk oI hv hi hI F₁ N₁) (fun f s₂ p => TurnS.to hlen p) fun _ _ e => e
  · rintro m₁ news₁ h tk ⟨st, u, rfl, rfl, hi⟩ F₁ N₁
    exact done st u h tk hi F₁ N₁

theorem iter_strS {y : Str} {ty : Tok} {m₀ : Str → Option Value} {news : List (Addr × Obj)} (nm : List Str) (vals : σ → List Value) (fg : List Str) (nw : σ → List (Addr × Obj)) (Inv : Nat → σ → Prop) (st₀ : σ)
    (hlen : ∀ st, nm.length = (vals st).length)
    (hh : A.handled = none) (F : Fr h₀ env.locals s.heap m₀) (N : News h₀ env.locals s.heap news)
    (hb : Holds m₀ nm (vals st₀)) (hn : ∀ p ∈ nw st₀, p ∈ news) (hinv : Inv 0 st₀)
    (turn : ∀ i c t st u h tk oI, y.cps[i]? = some c → Inv i st → (∀ p ∈ nw st, p.1 ≠ s.heap.objs.size) → Fr h₀ env.locals h (fun y => if y = x then some (.str ⟨#[c]⟩ t) else mp nm (vals st) fg u m₀ y) → News h₀ env.locals h (nw st ++ [(s.heap.objs.size, oI)]) →
      wpAny (model prog w) A (execs body env) (TurnS h₀ env.locals s.heap.objs.size oI nm vals fg nw m₀ (Inv (i + 1)) { s with heap := h, toks := tk } Q) E { s with heap := h, toks := tk })
    (done : ∀ st u h tk, Inv y.cps.size st → Fr h₀ env.locals h (mp nm (vals st) fg u m₀) → News h₀ env.locals h (nw st) → Q .next { s with heap := h, toks := tk }) :
    wpAny (model prog w) A (pyIter (.str y ty)) (fun it s₂ => LoopAtV prog w A h₀ env x body Q E it s₂) E s := by
  refine iter_str (JS nm vals fg nw m₀ Inv) hh F (news := nw st₀) (fun p hp => N p (hn p hp)) ⟨st₀, m₀, mp_eq hb (fun _ _ _ => rfl) (hlen _), rfl, hinv⟩ ?_ ?_
  · rintro i c t m₁ news₁ h tk oI hv ⟨st, u, rfl, rfl, hi⟩ hI F₁ N₁
    exact wpAny_mono (turn i c t st u h tk oI hv hi hI F₁ N₁) (fun f s₂ p => TurnS.to hlen p) fun _ _ e => e
  · rintro m₁ news₁ h tk ⟨st, u, rfl, rfl, hi⟩ F₁ N₁
    exact done st u h tk hi F₁ N₁

/-- while -/
def TurnW (h₀ : Heap) (L : Addr) (nm : List Str) (vals : σ → List Value) (fg : List Str) (nw : σ → List (Addr × Obj)) (m₀ : Str → Option Value) (Inv : σ → Prop) (ms : σ → Nat) (n : Nat) (s₁ : Shared) (Q : Flow → Shared → Prop) (f : Flow) (s₂ : Shared) : Prop :=
  match f with
  | .ret v => Q (.ret v) s₂
  | .brk => Q .next s₂
  | _ => ∃ st' h' tk m' news', s₂ = { s₁ with heap := h', toks := tk } ∧ Fr h₀ L h' m' ∧ News h₀ L h' news' ∧ Holds m' nm (vals st') ∧ (∀ y, Off y nm → Off y fg → m' y = m₀ y) ∧ (∀ p ∈ nw st', p ∈ news') ∧ ms st' < n ∧ Inv st'
theorem TurnW.mk' {L : Addr} {nm : List Str} {vals : σ → List Value} {fg : List Str} {nw : σ → List (Addr × Obj)} {m₀ m' : Str → Option Value} {Inv : σ → Prop} {ms : σ → Nat} {n : Nat} {s₁ : Shared} {h' : Heap} {tk : Nat} {news' : List (Addr × Obj)} (F : Fr h₀ L h' m') (N : News h₀ L h' news') (st' : σ)
    (hb : Holds m' nm (vals st')) (hm : ∀ y, Off y nm → Off y fg → m' y = m₀ y) (hn : ∀ p ∈ nw st', p ∈ news') (hlt : ms st' < n) (hinv : Inv st') :
    TurnW h₀ L nm vals fg nw m₀ Inv ms n s₁ Q .next { s₁ with heap := h', toks := tk } := ⟨st', h', tk, m', news', rfl, F, N, hb, hm, hn, hlt, hinv⟩

theorem while_S {L : Addr} {test : Expr} {pos : Pos} {m₀ : Str → Option Value} {news : List (Addr × Obj)} (nm : List Str) (vals : σ → List Value) (fg : List Str) (nw : σ → List (Addr × Obj)) (Inv : σ → Prop) (ms : σ → Nat) (st₀ : σ)
    (hlen : ∀ st, nm.length = (vals st).length) (F : Fr h₀ L s.heap m₀) (N : News h₀ L s.heap news)
    (hb : Holds m₀ nm (vals st₀)) (hn : ∀ p ∈ nw st₀, p ∈ news) (hinv : Inv st₀)
    (turn : ∀ st u h tk, Inv st → Fr h₀ L h (mp nm (vals st) fg u m₀) → News h₀ L h (nw st) →
      wpAny (model prog w) A (isTrue test env (eval test env)) (fun b s₂ =>
        if b = true then wpAny (model prog w) A (execs body env) (TurnW h₀ L nm vals fg nw m₀ Inv ms (ms st) s Q) E s₂ else Q .next s₂) E { s with heap := h, toks := tk })
    (hE : PassesOwn (model prog w) A env E := by passes_own) :
    wpAny (model prog w) A (exec (.While test body [] pos) env) Q E s := by
  refine While_inv2 (fun n m news => ∃ st u, m = mp nm (vals st) fg u m₀ ∧ news = nw st ∧ Inv st ∧ ms st = n) (n₀ := ms st₀) F (news := nw st₀) (fun p hp => N p (hn p hp)) ⟨st₀, m₀, mp_eq hb (fun _ _ _ => rfl) (hlen _), rfl, hinv, rfl⟩ ?_ hE
  rintro n m₁ news₁ h₁ tk₁ F₁ N₁ ⟨st, u, rfl, rfl, hi, rfl⟩
  refine wpAny_mono (turn st u h₁ tk₁ hi F₁ N₁) (fun b s₂ p => ?_) fun _ _ e => e
  cases b with
  | false => exact p
  | true =>
    simp only [if_true] at p ⊢
    refine wpAny_mono p (fun f s₃ q => ?_) fun _ _ e => e
    have key : (∃ st' h' tk m' news', s₃ = { s with heap := h', toks := tk } ∧ Fr h₀ L h' m' ∧ News h₀ L h' news' ∧ Holds m' nm (vals st') ∧ (∀ y, Off y nm → Off y fg → m' y = m₀ y) ∧ (∀ p ∈ nw st', p ∈ news') ∧ ms st' < ms st ∧ Inv st') →
        ∃ h' tk m₂ news₂ n', s₃ = { s with heap := h', toks := tk } ∧ Fr h₀ L h' m₂ ∧ News h₀ L h' news₂ ∧ n' < ms st ∧ ∃ st u, m₂ = mp nm (vals st) fg u m₀ ∧ news₂ = nw st ∧ Inv st ∧ ms st = n' := by
      rintro ⟨st', h', tk, m', news', e, F', N', hb, hm, hn, hlt, hi'⟩
      exact ⟨h', tk, m', nw st', ms st', e, F', fun p hp => N' p (hn p hp), hlt, st', m', mp_eq hb hm (hlen st'), rfl, hi', rfl⟩
    cases f with
    | ret v => exact q
    | brk => exact q
    | next => exact key q
    | cont => exact key q
end
theorem Stop.mk {P : Prop} (h : P) : Stop P := h
theorem isList_lt {h : Heap} {a : Addr} {vs : Array Value} (x : h.IsList a vs) : a < h.objs.size := let ⟨_, ho, _⟩ := x; Heap.lt_size ho
theorem isList_ne {h : Heap} {a : Addr} {vs : Array Value} (x : h.IsList a vs) : a ≠ h.objs.size := Nat.ne_of_lt (isList_lt x)
theorem isList_fr {h₀ h : Heap} {L a : Addr} {m : Str → Option Value} {vs : Array Value} (x : h₀.IsList a vs) (F : Fr h₀ L h m) : h.IsList a vs := x.at fun o e => F.keep a o e
theorem isList_get {h : Heap} {a : Addr} {vs : Array Value} (x : h.IsList a vs) : ∃ o, h.get? a = some o := let ⟨o, ho, _⟩ := x; ⟨o, ho⟩
theorem strsAt {vs : List Value} {xs : List Str} (h : StrsAre vs xs) {i : Nat} {v : Value} (hv : vs[i]? = some v) : ∃ x t, v = .str x t ∧ xs[i]? = some x := h.item i v hv
theorem butLast (its : Array Value) : slicePick its none (some (-1)) none = (its.toList.take (its.size - 1)).toArray := slicePick_butLast its 1 (by decide)
theorem strs_butLast {its : Array Value} {xs : List Str} (h : StrsAre its.toList xs) : StrsAre (slicePick its none (some (-1)) none).toList xs.dropLast := by
  rw [butLast, List.dropLast_eq_take]
  have e : its.size = xs.length := by rw [← h.length]; simp
  rw [e]
  exact h.take' _
theorem strs_push {its : Array Value} {xs : List Str} {x : Str} {t : Tok} (h : StrsAre its.toList xs) : StrsAre (its.push (.str x t)).toList (xs ++ [x]) := by
  rw [Array.toList_push]; exact h.append' (.cons _ _ .nil)
theorem news_lt {h₀ h : Heap} {L : Addr} {news : List (Addr × Obj)} (N : News h₀ L h news) : AllLt h.objs.size news := by
  have : ∀ p ∈ news, p.1 < h.objs.size := fun p hp => Heap.lt_size (N p hp).1
  exact allLt_of this
theorem mem1 {α : Type} {a : α} {l : List α} (h : a ∈ l) : ∀ p ∈ [a], p ∈ l := by simpa using h
theorem mem2 {α : Type} {a b : α} {l : List α} (h : a ∈ l) (h2 : b ∈ l) : ∀ p ∈ [a, b], p ∈ l := by simpa using ⟨h, h2⟩
theorem mem3 {α : Type} {a b c : α} {l : List α} (h : a ∈ l) (h2 : b ∈ l) (h3 : c ∈ l) : ∀ p ∈ [a, b, c], p ∈ l := by simpa using ⟨h, h2, h3⟩
theorem mem0 {α : Type} {l : List α} : ∀ p ∈ ([] : List α), p ∈ l := by simp
theorem mem4 {α : Type} {a b c d : α} {l : List α} (h : a ∈ l) (h2 : b ∈ l) (h3 : c ∈ l) (h4 : d ∈ l) : ∀ p ∈ [a, b, c, d], p ∈ l := by simpa using ⟨h, h2, h3, h4⟩
theorem mem5 {α : Type} {a b c d e : α} {l : List α} (h : a ∈ l) (h2 : b ∈ l) (h3 : c ∈ l) (h4 : d ∈ l) (h5 : e ∈ l) : ∀ p ∈ [a, b, c, d, e], p ∈ l := by simpa using ⟨h, h2, h3, h4, h5⟩
end
section
open PySem
def headOf (h : Str) : Str := if h.length = 0 then h else if (h != Txt.mul (Str.ofString "/") h.length) = true then Txt.rstripChars h (Str.ofString "/") else h
def dirnameF (p : Str) : Str := headOf (Txt.slice p none (some (Txt.rfind p (Str.ofString "/") + 1)))
def tailF (p : Str) : Str := Txt.slice p (some (Txt.rfind p (Str.ofString "/") + 1)) none
def joinF (a b : Str) : Str := if Txt.startswith b (Str.ofString "/") = true then b else if a.length = 0 then b else if Txt.endswith a (Str.ofString "/") = true then a ++ b else a ++ ((Str.ofString "/") ++ b)
def splitrootF (p : Str) : Str × Str × Str :=
  if (Txt.slice p none (some 1) != (Str.ofString "/")) = true then (Str.ofString "", Str.ofString "", p)
  else if (Txt.slice p (some 1) (some 2) != (Str.ofString "/")) = true then (Str.ofString "", (Str.ofString "/"), Txt.slice p (some 1) none)
  else if (Txt.slice p (some 2) (some 3) == (Str.ofString "/")) = true then (Str.ofString "", (Str.ofString "/"), Txt.slice p (some 1) none)
  else (Str.ofString "", Txt.slice p none (some 2), Txt.slice p (some 2) none)
end
section
open PySem PySem.W PyProof.Rows PySem.Calls PySem.Spec
set_option maxRecDepth 100000
set_option maxHeartbeats 8000000
/-- a new object comes back -/
def RObj (P : Obj → Prop) (h : Heap) (v : Value) (h' : Heap) : Prop := ∃ a o, v = .ref a ∧ h'.get? a = some o ∧ h.get? a = none ∧ P o
abbrev tupO (vs : List Value) : Obj := { cls := .type "tuple", data := .seq vs.toArray }
abbrev lstO (vs : List Value) (n : Nat) : Obj := { cls := .type "list", data := .seq vs.toArray n }
def RTup2 (a b : Str) : Heap → Value → Heap → Prop := RObj fun o => ∃ t u, o = tupO [.str a t, .str b u]
def RTup3 (a b c : Str) : Heap → Value → Heap → Prop := RObj fun o => ∃ t u v, o = tupO [.str a t, .str b u, .str c v]
def RStrs (xs : List Str) : Heap → Value → Heap → Prop := RObj fun o => ∃ vs n, o = lstO vs n ∧ StrsAre vs xs
def RInts (xs : List Int) : Heap → Value → Heap → Prop := RObj fun o => ∃ vs n, o = lstO vs n ∧ IntsAre vs xs

theorem endObj {s : Shared} {h' : Heap} {tk : Nat} {L a : Addr} {m : Str → Option Value} {news : List (Addr × Obj)} {o : Obj} {P : Obj → Prop} (F : Fr s.heap L h' m) (N : News s.heap L h' news) (hm : (a, o) ∈ news) (hp : P o) :
    End s (RObj P s.heap) (.ref a) { s with heap := h', toks := tk } := End.mk' F ⟨a, o, rfl, N.get hm, N.fresh hm, hp⟩

theorem strEq {a b : Str} {t₀ : Tok} (h : a = b) : ∃ t, Value.str a t₀ = Value.str b t := ⟨t₀, h ▸ rfl⟩
theorem tup2Eq {a b a' b' : Str} {t u : Tok} (h1 : a = a') (h2 : b = b') : ∃ t' u', tupO [.str a t, .str b u] = tupO [.str a' t', .str b' u'] := ⟨t, u, by rw [h1, h2]⟩
theorem tup3Eq {a b c a' b' c' : Str} {t u v : Tok} (h1 : a = a') (h2 : b = b') (h3 : c = c') : ∃ t' u' v', tupO [.str a t, .str b u, .str c v] = tupO [.str a' t', .str b' u', .str c' v'] := ⟨t, u, v, by rw [h1, h2, h3]⟩
def AllNe (d : Nat) : List (Addr × Obj) → Prop
  | [] => True
  | p :: r => @Ne Nat p.1 d ∧ AllNe d r
theorem allNe_of {d : Addr} : ∀ {l : List (Addr × Obj)}, (∀ p ∈ l, p.1 ≠ d) → AllNe d l
  | [], _ => trivial
  | p :: _, h => ⟨h p (.head _), allNe_of fun q hq => h q (.tail _ hq)⟩

section
variable {w : World} {mean : ExcName → Option Value} {mg mb : Str → Option Value} {f : Addr} {d : Nat} {vs : List Value} {Pre : Heap → Prop}
  {dp un : Nat} {gd : Option (List Code)} {cn : Str} {cs : Scope} {a : Addr} {ccd : Value} {cl : List (Str × Addr)} {outer : List Env} {A₀ : Around} {base h₀ : Heap} {L : Addr} {m : Str → Option Value} {s : Shared} {Q E : Value → Shared → Prop} {news : List (Addr × Obj)}
theorem con_obj {P : Obj → Prop} (C : Con w mean mg mb f d vs Pre (RObj P)) (B : Below A₀ base outer h₀) (F : Fr h₀ L s.heap m) (X : (hd.heap_39 w.params).In h₀) (N : News h₀ L s.heap news) (T : TT mean mg mb h₀) (hcs : cs.kind = .function) (pre : Pre s.heap)
    (hdp : dp + d < recursionLimit) (hun : un + 8 * d < cLine)
    (ret : ∀ q o h' tk, Fr h₀ L h' m → News h₀ L h' ((q, o) :: news) → (∀ p ∈ news, p.1 ≠ q) → P o → Q (.ref q) { s with heap := h', toks := tk }) :
    wpAny (model PR w) (ktrTop dp un gd cn cs L a ccd cl outer) (call (.ref f) vs) Q E s :=
  con_use C B F X N T hcs pre hdp hun fun v h' tk F' N' k ⟨q, o, e, hq, hn, hp⟩ => by
    subst e
    refine ret q o h' tk F' ?_ (fun p hp' e => ?_) hp
    rotate_left
    · have h1 := (N p hp').1
      rw [e, hn] at h1; cases h1
    intro p hp'
    rcases List.mem_cons.mp hp' with e | hp'
    · subst e
      refine ⟨hq, ?_, ?_⟩
      · obtain ⟨oL, _, _, hL, _⟩ := F.ns
        intro e2
        have e3 : q = L := e2
        rw [← e3, hn] at hL; cases hL
      · cases hz : h₀.get? q with
        | none => rfl
        | some o' => have := F.keep _ _ hz; rw [hn] at this; cases this
    · exact N' p hp'
end
end
section
open PySem PySem.W PyProof.Rows PySem.Calls PySem.Spec
set_option maxRecDepth 100000
set_option maxHeartbeats 8000000
local macro_rules | `(tactic| walk_at "call ref") => `(tactic| (k_here; k_dflt (refine con_str (fspathC _ _ _ _ _ _) (by k_asm) (by k_asm) (by k_asm) (by k_asm) (by k_asm) rfl trivial (by omega) (by omega) ?_); intro t' h' tk F' N'; try dsimp only))
local macro_rules | `(tactic| walk_at "call ref") => `(tactic| (k_here; k_dflt (refine con_str (get_sep _ _ _ _ _ _) (by k_asm) (by k_asm) (by k_asm) (by k_asm) (by k_asm) rfl trivial (by omega) (by omega) ?_); intro t' h' tk F' N'; try dsimp only))
local macro_rules | `(tactic| walk_at "ifs") => `(tactic| (repeat (first | (with_reducible rfl) | rw [if_pos (by first | assumption | omega)] | rw [if_neg (by first | assumption | omega | (rw [Bool.not_eq_true]; assumption))])))
set_option linter.all false
theorem dirnameC (w : World) (mean : ExcName → Option Value) (mg mb : Str → Option Value) (x : Str) (tx : Tok) (hx : x.length ≤ 100000) :
    Con w mean mg mb 155 2 [.str x tx] (fun _ => True) (RStr (dirnameF x)) := by
  have hfill := fill
  refine con_of (binds := [(Str.ofString "p", .str x tx)]) (by with_unfolding_all rfl) (by with_unfolding_all rfl) (fun s => BindsTo.of_eq rfl) (locs rfl) (by decide) ?_
  revert hfill
  w_on
  k_fill
  intro hfill dp un gd outer A₀ base h₁ s B F X N T hpre hdp hun
  k_steps
  all_goals exact End.mk' (by assumption) (strEq (by (unfold dirnameF headOf; walk_at "ifs")))
theorem splitC (w : World) (mean : ExcName → Option Value) (mg mb : Str → Option Value) (x : Str) (tx : Tok) (hx : x.length ≤ 100000) :
    Con w mean mg mb 141 2 [.str x tx] (fun _ => True) (RTup2 (dirnameF x) (tailF x)) := by
  have hfill := fill
  refine con_of (binds := [(Str.ofString "p", .str x tx)]) (by with_unfolding_all rfl) (by with_unfolding_all rfl) (fun s => BindsTo.of_eq rfl) (locs rfl) (by decide) ?_
  revert hfill
  w_on
  k_fill
  intro hfill dp un gd outer A₀ base h₁ s B F X N T hpre hdp hun
  k_steps
  all_goals exact endObj (by k_asm) (by k_asm) (by k_mem) (tup2Eq (by (unfold dirnameF headOf; walk_at "ifs")) (by (unfold tailF; walk_at "ifs")))
theorem splitrootC (w : World) (mean : ExcName → Option Value) (mg mb : Str → Option Value) (x : Str) (tx : Tok) (hx : x.length ≤ 100000) :
    Con w mean mg mb 148 2 [.str x tx] (fun _ => True) (RTup3 (splitrootF x).1 (splitrootF x).2.1 (splitrootF x).2.2) := by
  have hfill := fill
  refine con_of (binds := [(Str.ofString "p", .str x tx)]) (by with_unfolding_all rfl) (by with_unfolding_all rfl) (fun s => BindsTo.of_eq rfl) (locs rfl) (by decide) ?_
  revert hfill
  w_on
  k_fill
  intro hfill dp un gd outer A₀ base h₁ s B F X N T hpre hdp hun
  k_steps
  all_goals exact endObj (by k_asm) (by k_asm) (by k_mem) (tup3Eq (by (unfold splitrootF; walk_at "ifs")) (by (unfold splitrootF; walk_at "ifs")) (by (unfold splitrootF; walk_at "ifs")))
theorem joinC (w : World) (mean : ExcName → Option Value) (mg mb : Str → Option Value) (x y : Str) (tx ty : Tok) (hx : x.length ≤ 100000) (hy : y.length ≤ 100000) :
    Con w mean mg mb 134 2 [.str x tx, .str y ty] (fun _ => True) (RStr (joinF x y)) := by
  have hfill := fill
  refine con_of_star (first := [(Str.ofString "a", .str x tx)]) (x := Str.ofString "p") (rest := [.str y ty]) (by with_unfolding_all rfl) (by with_unfolding_all rfl) (by rfl) (Nat.le_of_ble_eq_true rfl) (fun t => locs rfl) (by decide) ?_
  revert hfill
  w_on
  k_fill
  intro hfill dp un gd outer A₀ base h₁ L s tk B F X N T hpre hdp hun
  k_steps
  all_goals exact End.mk' (by k_asm) (strEq (by (unfold joinF; walk_at "ifs")))
end
section
open PySem PySem.W PyProof.Rows PySem.Calls PySem.Spec
set_option maxRecDepth 100000
set_option maxHeartbeats 8000000
section
variable {prog : Program} {w : World} {A : Around} {E : Value → Shared → Prop} {s : Shared} {env : Env} {h₀ : Heap} {body : List Stmt} {Q : Flow → Shared → Prop}

theorem owned_any {elts : List PySem.Expr} {x1} {pos : Pos} {I l : Addr} {i : Nat} {v : Value} {Q : Unit → Shared → Prop} (hit : s.heap.IsListIter I l i) (hQ : Q () s) :
    wpAny (model prog w) A (letOwnedTupleGo (.Tuple elts x1 pos) (.ref I) v) Q E s := by
  cases v with
  | ref T => exact wpAny_letOwnedTupleGo_listiter hit hQ
  | _ => exact wpAny_pure hQ

def TurnN (h₀ : Heap) (L I : Addr) (oI : Obj) (fg : List Str) (nw : List (Addr × Obj)) (m₀ : Str → Option Value) (s₁ : Shared) (f : Flow) (s₂ : Shared) : Prop :=
  f = .next ∧ ∃ h' tk m' news', s₂ = { s₁ with heap := h', toks := tk } ∧ Fr h₀ L h' m' ∧ News h₀ L h' news' ∧ (∀ y, Off y fg → m' y = m₀ y) ∧ (∀ p ∈ nw, p ∈ news') ∧ (I, oI) ∈ news'
theorem TurnN.mk' {L I : Addr} {oI : Obj} {fg : List Str} {nw : List (Addr × Obj)} {m₀ m' : Str → Option Value} {s₁ : Shared} {h' : Heap} {tk : Nat} {news' : List (Addr × Obj)} (F : Fr h₀ L h' m') (N : News h₀ L h' news')
    (hm : ∀ y, Off y fg → m' y = m₀ y) (hn : ∀ p ∈ nw, p ∈ news') (hI : (I, oI) ∈ news') : TurnN h₀ L I oI fg nw m₀ s₁ .next { s₁ with heap := h', toks := tk } := ⟨rfl, h', tk, m', news', rfl, F, N, hm, hn, hI⟩

/-- for over a list with a tuple for target; nothing lives from turn to turn -/
theorem iter_listT {l : Addr} {vs : List Value} {m₀ : Str → Option Value} {news : List (Addr × Obj)} {elts : List PySem.Expr} {x1} {pos : Pos} (fg : List Str) (nw : List (Addr × Obj))
    (hh : A.handled = none) (F : Fr h₀ env.locals s.heap m₀) (N : News h₀ env.locals s.heap news) (hl : s.heap.IsList l vs.toArray) (hne : l ≠ env.locals)
    (keep : (∃ o, h₀.get? l = some o) ∨ ∃ lo, (l, lo) ∈ nw) (hn : ∀ p ∈ nw, p ∈ news)
    (turn : ∀ (i : Nat) v u (s₁ : Shared) oI, vs[i]? = some v → (∀ p ∈ nw, p.1 ≠ s.heap.objs.size) → Fr h₀ env.locals s₁.heap (mp [] [] fg u m₀) → News h₀ env.locals s₁.heap (nw ++ [(s.heap.objs.size, oI)]) →
      wpAny (model prog w) A (assign (.Tuple elts x1 pos) env v) (fun _ s₃ => wpAny (model prog w) A (execs body env) (TurnN h₀ env.locals s.heap.objs.size oI fg nw m₀ s₁) E s₃) E s₁)
    (done : ∀ u h tk, Fr h₀ env.locals h (mp [] [] fg u m₀) → News h₀ env.locals h nw → Q .next { s with heap := h, toks := tk }) :
    wpAny (model prog w) A (pyIter (.ref l)) (fun it s₂ => LoopAtT prog w A h₀ env (.Tuple elts x1 pos) body Q E it s₂) E s := by
  obtain ⟨ol, hol, hrest⟩ := id hl
  have hlI : l ≠ s.heap.objs.size := Nat.ne_of_lt (Heap.lt_size hol)
  refine wpAny_pyIter_list hl ?_
  have W := Walks.list (prog := prog) (w := w) hh s.heap.objs.size l hlI vs.toArray
  have hlen : vs.toArray.size = vs.length := by simp
  rw [hlen] at W
  have N' : News h₀ env.locals s.heap nw := fun p hp => N p (hn p hp)
  let J : Nat → (Str → Option Value) → List (Addr × Obj) → Prop := fun _ m news => ∃ u, m = mp [] [] fg u m₀ ∧ news = nw
  have hL : env.locals ∉ [s.heap.objs.size, l] := by
    intro hm
    rcases List.mem_cons.mp hm with e | hm
    · exact absurd F.ns.lt (e ▸ Nat.lt_irrefl _)
    · exact hne (List.mem_singleton.mp hm).symm
  have hI0 := next_is_new F
  have hnw : ∀ p ∈ nw, p.1 ≠ s.heap.objs.size := ne_size_of_news N'
  refine ⟨s.heap.objs.size, [s.heap.objs.size, l], [s.heap.objs.size], vs.length, _, _, m₀, nw, J, rfl, W, hL, ?_, ?_, ⟨⟨_, Heap.get?_push_size _ rfl, rfl, rfl⟩, hl.at fun o e => Heap.get?_push_of_some _ e⟩, F.push _, news_push N' _, ?_, ⟨m₀, mp_eq trivial (fun _ _ _ => rfl) rfl, rfl⟩, ?_, ?_⟩
  · intro b hb
    rw [List.mem_singleton.mp hb]; exact hI0
  · intro p hp hI
    exact hnw p hp (List.mem_singleton.mp hI)
  · intro i s' v Q' hst hq
    exact owned_any hst.1 hq
  · rintro i v m₁ news₁ s₁ own hin hP ⟨u, rfl, rfl⟩ hoff hown hget hall hst' F₁ N₁
    obtain ⟨oI, hoI, _⟩ := hst'.1
    have hIo : (s.heap.objs.size, oI) ∈ own := hall _ (.head _) hI0 oI hoI
    have N₂ : News h₀ env.locals s₁.heap (news₁ ++ [(s.heap.objs.size, oI)]) := by
      intro p hp
      rcases List.mem_append.mp hp with h1 | h1
      · exact N₁ p (List.mem_append_right _ h1)
      · rw [List.mem_singleton.mp h1]; exact N₁ _ (List.mem_append_left _ hIo)
    refine wpAny_mono (turn i v u s₁ oI (by simpa using hP) hnw F₁ N₂) (fun _ s₃ p => wpAny_mono p (fun f s₂ p => ?_) fun _ _ e => e) fun _ _ e => e
    obtain ⟨rfl, h', tk', m', news', e, F', N', hm, hn, hI'⟩ := p
    refine ⟨rfl, h', tk', m', news₁, e, F', ?_, fun q hq hq' => hnw q hq (List.mem_singleton.mp hq'), m', mp_eq trivial (fun y _ h => hm y h) rfl, rfl⟩
    intro q hq
    rcases List.mem_append.mp hq with h1 | h1
    · have h2 := hget q h1
      rcases List.mem_cons.mp (hown q h1) with e1 | e1
      · have : q = (s.heap.objs.size, oI) := by
          rw [e1] at h2
          exact Prod.ext e1 (Option.some.inj (h2.symm.trans hoI))
        rw [this]; exact N' _ hI'
      · have e1 := List.mem_singleton.mp e1
        rcases keep with ⟨o, ho⟩ | ⟨lo, hlo⟩
        · have h3 := (N₁ q (List.mem_append_left _ h1)).2.2
          rw [e1, ho] at h3; cases h3
        · have h3 := (N₁ _ (List.mem_append_right own hlo)).1
          have : q = (l, lo) := by
            rw [e1] at h2
            exact Prod.ext e1 (Option.some.inj (h2.symm.trans h3))
          rw [this]
          exact N' _ (hn _ hlo)
    · exact N' _ (hn _ h1)
  · rintro h' tk m' news' F' N9 _ ⟨u, rfl, rfl⟩
    exact done u h' tk F' N9
end
end
section
open PySem PySem.W PyProof.Rows PySem.Calls PySem.Spec PySem.SeqAt PySem.Builtin PySem.Builtin.Str
set_option maxRecDepth 100000
set_option maxHeartbeats 8000000
theorem rdStrs {h : Heap} {a : Addr} {vs : List Value} {ns : List Str} (hl : h.IsList a vs.toArray) (hi : StrsAre vs ns) : Reads h (.ref a) (.list (ns.map PyData.str)) [a] := by
  obtain ⟨o, ho, hc, n, hd⟩ := hl
  exact Reads.list ho hc hd (by simpa using hi.reads h)
def Oks (ns : List Str) : Prop := ∀ n ∈ ns, PyData.strOk n = true
theorem layStrs : ∀ ns : List Str, Oks ns → PyData.canLayAll0 (ns.map PyData.str) = true
  | [], _ => by simp [PyData.canLayAll0]
  | n :: r, h => by simp [PyData.canLayAll0, PyData.canLay0, layStrs r (fun x hx => h x (.tail _ hx)), h n (.head _)]
theorem depthStrs : ∀ ns : List Str, PyData.depthAll (ns.map PyData.str) ≤ 1
  | [] => by simp [PyData.depthAll]
  | n :: r => by
    have := depthStrs r
    simp only [List.map_cons, PyData.depthAll, PyData.depth]
    omega
theorem shapedStrs (ns : List Str) (hk : Oks ns) : shaped (.list (ns.map PyData.str)) = true := by
  have h1 := depthStrs ns
  have h2 : PyData.depth (.list (ns.map PyData.str)) ≤ 64 := by simp only [PyData.depth]; omega
  show (PyData.canLay0 (.list (ns.map PyData.str)) && decide (PyData.depth (.list (ns.map PyData.str)) ≤ 64)) = true
  rw [Bool.and_eq_true]
  exact ⟨by simp only [PyData.canLay0]; exact layStrs ns hk, decide_eq_true h2⟩
theorem mixStrs : ∀ ns ms : List Str, noMixAll (ns.map PyData.str) (ms.map PyData.str) = true
  | [], [] => by simp [noMixAll]
  | [], _ :: _ => by simp [noMixAll]
  | _ :: _, [] => by simp [noMixAll]
  | _ :: r, _ :: q => by simp [noMixAll, noMix, mixStrs r q]
theorem sameStrs : ∀ ns ms : List Str, PySem.Spec.sameAll (ns.map PyData.str) (ms.map PyData.str) = decide (ns = ms)
  | [], [] => by simp [PySem.Spec.sameAll]
  | [], _ :: _ => by simp [PySem.Spec.sameAll]
  | _ :: _, [] => by simp [PySem.Spec.sameAll]
  | n :: r, k :: q => by
    simp only [List.map_cons, PySem.Spec.sameAll, PySem.Spec.same, sameStrs r q]
    by_cases h : n = k <;> simp [h]
section
variable {prog : Program} {w : World} {A : Around} {E : Value → Shared → Prop} {s : Shared}
theorem eqStrs {a b : Addr} {vs us : List Value} {ns ms : List Str} {Q : Value → Shared → Prop} (hl : s.heap.IsList a vs.toArray) (hi : StrsAre vs ns) (hl' : s.heap.IsList b us.toArray) (hi' : StrsAre us ms) (hu : A.units + 64 < cLine) (hk : Oks ns) (hk' : Oks ms)
    (h : Q (.bool (decide (ns = ms))) s) : wpAny (model prog w) A (compareOp .Eq (.ref a) (.ref b)) Q E s :=
  eq_dataH_same (rdStrs hl hi) (rdStrs hl' hi') (shapedStrs ns hk) (shapedStrs ms hk') hu (by simp only [noMix]; exact mixStrs ns ms) (by simp only [PySem.Spec.same]; rw [sameStrs]; exact h)
theorem neStrs {a b : Addr} {vs us : List Value} {ns ms : List Str} {Q : Value → Shared → Prop} (hl : s.heap.IsList a vs.toArray) (hi : StrsAre vs ns) (hl' : s.heap.IsList b us.toArray) (hi' : StrsAre us ms) (hu : A.units + 64 < cLine) (hk : Oks ns) (hk' : Oks ms)
    (h : Q (.bool (!decide (ns = ms))) s) : wpAny (model prog w) A (compareOp .NotEq (.ref a) (.ref b)) Q E s :=
  ne_dataH_same (rdStrs hl hi) (rdStrs hl' hi') (shapedStrs ns hk) (shapedStrs ms hk') hu (by simp only [noMix]; exact mixStrs ns ms) (by simp only [PySem.Spec.same]; rw [sameStrs]; exact h)

theorem joinStrs {x : Str} {t : Tok} {D : Addr} {vs : List Value} {ys : List Str} {Q : Value → Shared → Prop} (hl : s.heap.IsList D vs.toArray) (hi : StrsAre vs ys) (hx : x.length ≤ 8) (hn : ys.length ≤ 1000) (hB : ∀ y ∈ ys, y.length ≤ 10000)
    (h : ∀ t' k, Q (.str (Txt.join x ys) t') { s with toks := k }) : wpAny (model prog w) A (call (.builtin "str.join") [.str x t, .ref D]) Q E s := by
  refine join_listC hl (by simpa using hi) (by omega) ?_ h
  have h1 := StrLaws.sumLen_le ys hB
  have h2 : ys.length * 10000 ≤ 1000 * 10000 := Nat.mul_le_mul_right _ hn
  omega
end
def rfind3 (x y : Str) (i : Int) : Int := match lastOccurrence x y (fromIndex x.length i) x.length with | some k => (k : Int) | none => -1
theorem gives_rfind3 (x y : Str) (i : Int) (t u v : Tok) : Gives («str.rfind» ⟨[.str x t, .str y u, .int i v], []⟩) (.int (rfind3 x y i)) := by
  show Gives (match lastOccurrence x y (fromIndex x.length i) (min x.length x.length) with | some k => retInt k | none => (do rule "str.rfind.not-found"; retInt (-1))) _
  unfold rfind3
  rw [Nat.min_self]
  cases lastOccurrence x y (fromIndex x.length i) x.length with
  | none => exact .rule (.of_eq rfl)
  | some k => exact .of_eq rfl
section
variable {prog : Program} {w : World} {A : Around} {E : Value → Shared → Prop} {s : Shared}
theorem rfindK {x y : Str} {t u v : Tok} {i : Int} {Q : Value → Shared → Prop} (hq : Q (.int (rfind3 x y i) s.toks) { s with toks := s.toks + 1 }) : wpAny (model prog w) A (call (.builtin "str.rfind") [.str x t, .str y u, .int i v]) Q E s :=
  call_gives F.slot_str_rfind (typeIs_str _ _ _) F.entry_str_rfind (F.args_str_rfind_3 _ _ _) (gives_rfind3 x y i t u v) hq
end
open PySem.StrLaws in
theorem last_mem (s sub : Str) (hi : Nat) : ∀ (l : List Nat) (st : Option Nat) (a : Nat), (forIn l st (lastBody s sub hi)).run = some a → st = some a ∨ a ∈ l
  | [], st, a, h => .inl (by simpa using h)
  | b :: l, st, a, h => by
    rw [List.forIn_cons] at h
    unfold lastBody at h
    split at h
    · have h' : (forIn l (some b) (lastBody s sub hi)).run = some a := h
      rcases last_mem s sub hi l _ a h' with e | e
      · cases e; exact .inr (.head _)
      · exact .inr (.tail _ e)
    · have h' : (forIn l st (lastBody s sub hi)).run = some a := h
      rcases last_mem s sub hi l _ a h' with e | e
      · exact .inl e
      · exact .inr (.tail _ e)
open PySem.StrLaws in
theorem last_from (x y : Str) (lo : Nat) : (lastOccurrence x y lo x.length = none ∧ ∀ i, lo ≤ i → ¬ At x y x.length i) ∨
    ∃ i, lastOccurrence x y lo x.length = some i ∧ lo ≤ i ∧ At x y x.length i ∧ ∀ k, i < k → ¬ At x y x.length k := by
  have h := last_run x y x.length (List.range' lo (x.length + 1 - lo)) [] none (fun _ hi => nomatch hi) (fun _ hi => nomatch hi) (List.pairwise_lt_range' (s := lo))
  have hm := last_mem x y x.length (List.range' lo (x.length + 1 - lo)) none
  rw [← last_eq, List.nil_append] at h
  rw [← last_eq] at hm
  cases e : lastOccurrence x y lo x.length with
  | none =>
    rw [e] at h
    refine .inl ⟨rfl, fun i hi hA => ?_⟩
    exact h i (by rw [List.mem_range'_1]; have := hA.1; omega) hA
  | some a =>
    rw [e] at h
    have ha : a ∈ List.range' lo (x.length + 1 - lo) := by
      rcases hm a e with q | q
      · cases q
      · exact q
    rw [List.mem_range'_1] at ha
    refine .inr ⟨a, rfl, ha.1, h.1, fun k hk hA => ?_⟩
    exact h.2 k (by rw [List.mem_range'_1]; have := hA.1; omega) hk hA
theorem rfind3_ge (x y : Str) (i : Int) : -1 ≤ rfind3 x y i := by
  unfold rfind3; split <;> omega
theorem rfind3_lt (x y : Str) (i : Int) (h : 0 ≤ rfind3 x y i) : rfind3 x y i + y.length ≤ x.length := by
  unfold rfind3 at h ⊢
  rcases last_from x y (fromIndex x.length i) with ⟨e, _⟩ | ⟨k, e, _, hA, _⟩
  · rw [e] at h; simp at h
  · rw [e]; have := hA.1; simp only; omega
open PySem.StrLaws in
theorem find3_lt (x y : Str) (i : Int) (h : 0 ≤ Txt.find3 x y i) : Txt.find3 x y i + y.length ≤ x.length := by
  unfold Txt.find3 at h ⊢
  rcases occ_head_from x y (fromIndex x.length i) 1 (Nat.le_refl _) with ⟨e, _⟩ | ⟨k, r, e, _, hA, _⟩
  · rw [e] at h; simp at h
  · rw [e]; have := hA.1; simp only; omega
theorem sub_len_le (x : Str) (i j : Nat) : (strSub x i j).length ≤ x.length := by
  have : (strSub x i j).cps.toList.length ≤ x.cps.toList.length := by rw [StrLaws.strSub_toList]; simp; omega
  simpa [Str.length] using this
theorem part_fst (x y : Str) : (Txt.partition x y).1.length ≤ x.length := by
  unfold Txt.partition; split
  · exact sub_len_le ..
  · exact Nat.le_refl _
theorem part_snd (x y : Str) : (Txt.partition x y).2.2.length ≤ x.length := by
  unfold Txt.partition; split
  · exact sub_len_le ..
  · exact Nat.zero_le _
theorem rpart_fst (x y : Str) : (Txt.rpartition x y).1.length ≤ x.length := by
  unfold Txt.rpartition; split
  · exact sub_len_le ..
  · exact Nat.zero_le _
theorem rpart_snd (x y : Str) : (Txt.rpartition x y).2.2.length ≤ x.length := by
  unfold Txt.rpartition; split
  · exact sub_len_le ..
  · exact Nat.le_refl _
theorem ins0 (l : List Value) (y : Value) : kl_ins l 0 y = y :: l := by simp [kl_ins]
section
variable {prog : Program} {w : World} {A : Around} {E : Value → Shared → Prop} {s : Shared}
theorem itemNeg {value slice : PySem.Expr} {q : Addr} {vs : List Value} {xs : List Str} {u : Tok} {Q : Value → Shared → Prop} (hl : s.heap.IsList q vs.toArray) (hs : StrsAre vs xs) (hpos : 0 < xs.length) (hn : xs.length ≤ 1000000)
    (h : ∀ t, Q (.str (xs.getD (xs.length - 1) Str.empty) t) s)
    (hs' : subscripted slice false (.ref q) (.int (-1) u) = operate [.ref q, .int (-1) u] (getItem (.ref q) (.int (-1) u)) := by with_unfolding_all rfl) :
    wpAny (model prog w) A (subscriptTail value slice (.ref q) (.int (-1) u)) Q E s := by
  have hlen := hs.length
  obtain ⟨t, ht⟩ := hs.at (j := xs.length - 1) (y := xs.getD (xs.length - 1) Str.empty) (by rw [List.getD_eq_getElem?_getD, List.getElem?_eq_getElem (by omega)]; simp)
  refine tail_any hl.typeIs slot_list_getitem.lookup (wpAny_getItem_list_neg hl (by decide) (by simp; omega) (by decide) (x := .str (xs.getD (xs.length - 1) Str.empty) t) ?_ (h t)) hs'
  rw [show (-1 + ((vs.toArray.size : Nat) : Int)).toNat = xs.length - 1 by simp; omega]
  simpa using ht
theorem itemPos {value slice : PySem.Expr} {q : Addr} {vs : List Value} {xs : List Str} {k : Int} {u : Tok} {Q : Value → Shared → Prop} (hl : s.heap.IsList q vs.toArray) (hs : StrsAre vs xs) (h0 : 0 ≤ k) (hk : k < xs.length) (hn : xs.length ≤ 1000000)
    (h : ∀ t, Q (.str (xs.getD k.toNat Str.empty) t) s)
    (hs' : subscripted slice false (.ref q) (.int k u) = operate [.ref q, .int k u] (getItem (.ref q) (.int k u)) := by with_unfolding_all rfl) :
    wpAny (model prog w) A (subscriptTail value slice (.ref q) (.int k u)) Q E s := by
  have hlen := hs.length
  obtain ⟨t, ht⟩ := hs.at (j := k.toNat) (y := xs.getD k.toNat Str.empty) (by rw [List.getD_eq_getElem?_getD, List.getElem?_eq_getElem (by omega)]; simp)
  exact tail_any hl.typeIs slot_list_getitem.lookup (wpAny_getItem_list hl h0 (by omega) (x := .str (xs.getD k.toNat Str.empty) t) (by simpa using ht) (h t)) hs'
end
section
variable {prog : Program} {w : World} {A : Around} {E : Value → Shared → Prop} {s : Shared} {h₀ : Heap} {L D : Addr} {m : Str → Option Value} {news news' : List (Addr × Obj)}
theorem setAt {its : Array Value} {n : Nat} {k : Int} {t : Tok} {v : Value} {Q : Unit → Shared → Prop} (F : Fr h₀ L s.heap m) (N : News h₀ L s.heap news) (U : Upd D (W.listOf its n) (W.listOf (its.setIfInBounds k.toNat v) n) news news') (h0 : 0 ≤ k) (h1 : k < its.size) (hfit : k < 2 ^ 63)
    (h : ∀ h', Fr h₀ L h' m → News h₀ L h' news' → Q () { s with heap := h' }) : wpAny (model prog w) A (setItem (.ref D) (.int k t) v) Q E s := by
  obtain ⟨pre, post, rfl, rfl, a, b⟩ := U.split
  have z := N (D, W.listOf its n) (List.mem_append.mpr (.inr (.head _)))
  refine ki_setAt z.1 h0 hfit h1 (h _ (F.change (Heap.SameBut.update ..) z.2.1 z.2.2) (ki_turn _ N a b rfl ?_))
  simp
theorem setBack {its : Array Value} {n : Nat} {k : Int} {t : Tok} {v : Value} {Q : Unit → Shared → Prop} (F : Fr h₀ L s.heap m) (N : News h₀ L s.heap news) (U : Upd D (W.listOf its n) (W.listOf (its.setIfInBounds (k + its.size).toNat v) n) news news') (h0 : k < 0) (h1 : -(its.size : Int) ≤ k) (hfit : -(2 ^ 63) ≤ k)
    (h : ∀ h', Fr h₀ L h' m → News h₀ L h' news' → Q () { s with heap := h' }) : wpAny (model prog w) A (setItem (.ref D) (.int k t) v) Q E s := by
  obtain ⟨pre, post, rfl, rfl, a, b⟩ := U.split
  have z := N (D, W.listOf its n) (List.mem_append.mpr (.inr (.head _)))
  refine ki_setBack z.1 h0 h1 hfit (h _ (F.change (Heap.SameBut.update ..) z.2.1 z.2.2) (ki_turn _ N a b rfl ?_))
  simp
end
theorem strs_set {its : Array Value} {xs : List Str} {j : Nat} {x : Str} {t : Tok} (h : StrsAre its.toList xs) : StrsAre (its.setIfInBounds j (.str x t)).toList (xs.set j x) := by
  rw [Array.toList_setIfInBounds]
  generalize its.toList = l at h
  induction h generalizing j with
  | nil => exact .nil
  | cons y u r ih =>
    cases j with
    | zero => exact .cons _ _ r
    | succ j => exact .cons _ _ ih
end
section
open PySem PySem.W PyProof.Rows PySem.Calls PySem.Spec
set_option maxRecDepth 100000
set_option maxHeartbeats 8000000
section
variable {prog : Program} {w : World} {A : Around} {s₁ : Shared} {h₀ : Heap} {L : Addr} {m : Str → Option Value} {env : Env} {news : List (Addr × Obj)}
theorem compFr {h₁ h₂ : Heap} {C : Addr} {m₂ : Str → Option Value} (F : Fr h₀ L h₁ m) (hc : h₁.objs.size ≤ C) (hn : h₂.Ns C m₂) (hk : ∀ b o, h₁.get? b = some o → h₂.get? b = some o) : Fr h₀ C h₂ m₂ :=
  ⟨hn, fun b o e => hk b o (F.keep b o e), Nat.le_trans F.above (Nat.le_trans (Nat.le_of_lt F.ns.lt) hc)⟩
theorem compNews {h' : Heap} {D : Addr} {ys : List Value} (F : Fr h₀ L h' m) (N : News h₀ L h' news) (hD : h₀.get? D = none) (hp : NewPlain h' news D ys.toArray) : ∃ n, News h₀ L h' ((D, W.listOf ys.toArray n) :: news) := by
  obtain ⟨⟨n, e⟩, hne⟩ := hp
  have hDL : D ≠ L := NewPlain.ne_locals ⟨⟨n, e⟩, hne⟩ F
  refine ⟨n, fun p hp => ?_⟩
  rcases List.mem_cons.mp hp with rfl | hp
  · exact ⟨e, hDL, hD⟩
  · exact N p hp
theorem strs_from1 {vs : List Value} {xs : List Str} {x : Str} (h : StrsAre vs (x :: xs)) : StrsAre (slicePick vs.toArray (some 1) none none).toList xs := by
  have e : sliceBounds (some 1) none none vs.toArray.size = ((((min 1 vs.toArray.size : Nat)) : Int), ((vs.toArray.size : Nat) : Int), 1) := by
    simp only [sliceBounds, Option.getD_none, show (1 : Int) > 0 by decide, if_true, if_neg (show ¬ ((1 : Int) < 0) by decide)]
    congr 1
    omega
  rw [kmk_pick_nat _ e]
  have hl := h.length
  simp only [List.length_cons] at hl
  show StrsAre ((vs.drop (min 1 vs.toArray.size)).take (vs.toArray.size - min 1 vs.toArray.size)) _
  rw [List.size_toArray, show min 1 vs.length = 1 by omega, List.take_of_length_le (by rw [List.length_drop]; omega)]
  cases h with
  | cons _ _ r => exact r
end
section
variable {prog : Program} {w : World} {A : Around} {E : Value → Shared → Prop} {s : Shared} {h₀ : Heap} {L : Addr} {m : Str → Option Value} {env : Env}
theorem listComp_fr {α : Type} (K : ItemKind α) (pz : α → Bool) (d : α → PyData) {elt iter : PySem.Expr} {x : Str} {px : Pos} {ifs : List PySem.Expr} {scope : Scope} {cl : List (Str × Addr)} {pos : Pos} {Q : Value → Shared → Prop} (F0 : Fr h₀ L s.heap m)
    (hh : A.handled = none) (hclos : closureFor scope env = pure cl) (hcell : ∀ y ∈ scope.names, y.2 ≠ .cell) (hkind : scope.kind = .function)
    (hnames : ∀ y ∈ scope.names, y.2 = .local → scope.names.lookup y.1 = some .local) (hx : scope.names.lookup x = some .local)
    (h : wpAny (model prog w) A (eval iter env) (fun xv s₁ => CompPack (∃ news : List (Addr × Obj), ∃ ax vs as, xv = .ref ax ∧ s₁.heap.IsList ax vs.toArray ∧ AreOf K vs as ∧ as.length ≤ sizeLine ∧ Fr h₀ L s₁.heap m ∧ News h₀ L s₁.heap news ∧
      (∀ C a v s₂ m₂ E', s₁.heap.objs.size ≤ C → a ∈ as → K.is a v → s₂.heap.Ns (compEnvC scope cl C env).locals m₂ → m₂ x = some v → (∀ b o, s₁.heap.get? b = some o → s₂.heap.get? b = some o) →
        wpAny (model prog w) A (forIn ifs true fun c r => if r = true then do let ok ← isTrue c (compEnvC scope cl C env) (eval c (compEnvC scope cl C env)); pure (ForInStep.yield ok) else pure (ForInStep.yield r))
          (fun ok s₃ => ok = pz a ∧ Keeps s₂ s₃) E' s₂) ∧
      (∀ C a v s₂ m₂ E', s₁.heap.objs.size ≤ C → a ∈ as → K.is a v → pz a = true → s₂.heap.Ns (compEnvC scope cl C env).locals m₂ → m₂ x = some v → (∀ b o, s₁.heap.get? b = some o → s₂.heap.get? b = some o) →
        wpAny (model prog w) A (eval elt (compEnvC scope cl C env)) (fun y s₃ => Carried y (d a) ∧ Keeps s₂ s₃) E' s₂) ∧
      (∀ D (ys : List Value) h' tk, Fr h₀ L h' m → News h₀ L h' news → h₀.get? D = none → h'.IsList D ys.toArray → NewPlain h' news D ys.toArray → CarriedAll ys ((as.filter pz).map d) → Q (.ref D) { s₁ with heap := h', toks := tk }))) E s)
    (hs : ∀ x, foldedSetIterable iter env x = pure x) :
    wpAny (model prog w) A (eval (.ListComp elt [⟨.Name x px, iter, ifs, 0⟩] scope pos) env) Q E s :=
  ListComp_DCn hh hclos hcell hkind hnames hx h hs
end

section
variable {prog : Program} {w : World} {A : Around} {E : Value → Shared → Prop} {s : Shared} {value slice : PySem.Expr} {x : Str} {t : Tok} {Q : Value → Shared → Prop}
theorem keptStays (h₀ : Heap) : KeptH (Stays h₀) := fun _ _ st b o e => Heap.get?_push_of_some _ (st b o e)
theorem sliceK_sn {i : Int} {ui : Tok} (hsz : x.length ≤ 1000000) (h : ∀ h' t' k, Stays s.heap h' → Q (.str (Txt.slice x (some i) none) t') { s with heap := h', toks := k })
    (hs : subscripted slice false (.str x t) (.ref s.heap.objs.size) = operate [.ref s.heap.objs.size, .str x t] (getItem (.str x t) (.ref s.heap.objs.size)) := by with_unfolding_all rfl)
    (ht : ∀ r, letTemporaryGo value (.str x t) r = pure () := by intro _; with_unfolding_all rfl) :
    wpAny (model prog w) A (subscriptTail value slice (.str x t) (.ref s.heap.objs.size)) Q E { s with heap := s.heap.push { cls := .type "slice", data := .fields #[.int i ui, .none, .none] } } :=
  tail_of_ItemOn (SBH.sliceItem_sn (keptStays s.heap) (fun _ _ e => e) h (by rw [PySem.sizeLine_eq]; omega)) hs ht
theorem sliceK_ns {j : Int} {uj : Tok} (hsz : x.length ≤ 1000000) (h : ∀ h' t' k, Stays s.heap h' → Q (.str (Txt.slice x none (some j)) t') { s with heap := h', toks := k })
    (hs : subscripted slice false (.str x t) (.ref s.heap.objs.size) = operate [.ref s.heap.objs.size, .str x t] (getItem (.str x t) (.ref s.heap.objs.size)) := by with_unfolding_all rfl)
    (ht : ∀ r, letTemporaryGo value (.str x t) r = pure () := by intro _; with_unfolding_all rfl) :
    wpAny (model prog w) A (subscriptTail value slice (.str x t) (.ref s.heap.objs.size)) Q E { s with heap := s.heap.push { cls := .type "slice", data := .fields #[.none, .int j uj, .none] } } :=
  tail_of_ItemOn (SBH.sliceItem_ns (keptStays s.heap) (fun _ _ e => e) h (by rw [PySem.sizeLine_eq]; omega)) hs ht
end

section
variable {prog : Program} {w : World} {A : Around} {E : Value → Shared → Prop} {s : Shared} {h₀ : Heap} {L a b : Addr} {m : Str → Option Value} {news : List (Addr × Obj)} {env : Env}
theorem addLists {vs ws : List Value} {Q : Value → Shared → Prop} (F : Fr h₀ L s.heap m) (N : News h₀ L s.heap news) (ha : s.heap.IsList a vs.toArray) (hb : s.heap.IsList b ws.toArray) (hz : vs.length + ws.length ≤ 1000000)
    (h : ∀ D h', Fr h₀ L h' m → News h₀ L h' ((D, W.listOf (vs ++ ws).toArray 0) :: news) → (∀ p ∈ news, p.1 < D) → Q (.ref D) { s with heap := h' }) : wpAny (model prog w) A (binaryOp .Add (.ref a) (.ref b)) Q E s :=
  kmk_add_lit F N ha hb rfl h (by rw [PySem.sizeLine_eq]; show vs.length + ws.length ≤ _; omega)
theorem assignComp_fr {α : Type} (K : ItemKind α) (pz : α → Bool) (d : α → PyData) {elt iter : PySem.Expr} {x y : Str} {px py : Pos} {ifs : List PySem.Expr} {scope : Scope} {cl : List (Str × Addr)} {pos spos : Pos} {Q : Flow → Shared → Prop} (_F0 : Fr h₀ L s.heap m)
    (hsw : swapsWith (.ListComp elt [⟨.Name x px, iter, ifs, 0⟩] scope pos) (some (.Name y py)) spos.line env = pure true) (hL : env.locals = L)
    (hh : A.handled = none) (hclos : closureFor scope env = pure cl) (hcell : ∀ z ∈ scope.names, z.2 ≠ .cell) (hkind : scope.kind = .function)
    (hnames : ∀ z ∈ scope.names, z.2 = .local → scope.names.lookup z.1 = some .local) (hx : scope.names.lookup x = some .local)
    (hy : env.kindOf y = some .local) (hp : (env.scope.kind == .class || (env.scope.kind == .module && env.locals != env.globals)) = false)
    (h : wpAny (model prog w) A (eval iter env) (fun xv s₁ => CompPack (∃ news : List (Addr × Obj), ∃ ax vs as, xv = .ref ax ∧ s₁.heap.IsList ax vs.toArray ∧ AreOf K vs as ∧ as.length ≤ sizeLine ∧ Fr h₀ L s₁.heap m ∧ News h₀ L s₁.heap news ∧
      (∀ C a v s₂ m₂ E', s₁.heap.objs.size ≤ C → a ∈ as → K.is a v → s₂.heap.Ns (compEnvC scope cl C env).locals m₂ → m₂ x = some v → (∀ b o, s₁.heap.get? b = some o → s₂.heap.get? b = some o) →
        wpAny (model prog w) A (forIn ifs true fun c r => if r = true then do let ok ← isTrue c (compEnvC scope cl C env) (eval c (compEnvC scope cl C env)); pure (ForInStep.yield ok) else pure (ForInStep.yield r))
          (fun ok s₃ => ok = pz a ∧ Keeps s₂ s₃) E' s₂) ∧
      (∀ C a v s₂ m₂ E', s₁.heap.objs.size ≤ C → a ∈ as → K.is a v → pz a = true → s₂.heap.Ns (compEnvC scope cl C env).locals m₂ → m₂ x = some v → (∀ b o, s₁.heap.get? b = some o → s₂.heap.get? b = some o) →
        wpAny (model prog w) A (eval elt (compEnvC scope cl C env)) (fun y s₃ => Carried y (d a) ∧ Keeps s₂ s₃) E' s₂) ∧
      (∀ D (ys : List Value) h' tk, Fr h₀ L h' (fun z => if z = y then some (.ref D) else m z) → News h₀ L h' news → h₀.get? D = none → h'.IsList D ys.toArray → NewPlain h' news D ys.toArray → CarriedAll ys ((as.filter pz).map d) → Q .next { s₁ with heap := h', toks := tk }))) E s)
    (hs : ∀ x, foldedSetIterable iter env x = pure x) :
    wpAny (model prog w) A (exec (.Assign [.Name y py] (.ListComp elt [⟨.Name x px, iter, ifs, 0⟩] scope pos) spos) env) Q E s :=
  Assign_ListComp_DCn hsw hL hh hclos hcell hkind hnames hx hy hp h hs
end

section
variable {prog : Program} {w : World} {A : Around} {E : Value → Shared → Prop} {s : Shared}
theorem noneIn_strs {l : Addr} {vs : List Value} {ys : List Str} {Q : Value → Shared → Prop} (hl : s.heap.IsList l vs.toArray) (hi : StrsAre vs ys) (h : Q (.bool false) s) : wpAny (model prog w) A (compareOp .In .none (.ref l)) Q E s := by
  refine SeqAt.in_listAt (fun _ => false) hl (fun y hy => ?_) ?_
  · obtain ⟨i, hi', rfl⟩ := List.getElem_of_mem (l := vs) (by simpa using hy)
    obtain ⟨x, t, e, _⟩ := hi.item i _ (List.getElem?_eq_getElem hi')
    rw [e]; exact SeqAt.EqAt.str_none _ _
  · have : vs.toArray.any (fun _ => false) = false := by rw [List.any_toArray]; induction vs <;> simp_all
    rw [this]; exact h
end
end
section
open PySem PySem.W PyProof.Rows PySem.Calls PySem.Spec PySem.Builtin PySem.Builtin.Str
open AutoSeq1 (wpAny_loadPart')
set_option maxRecDepth 100000
set_option maxHeartbeats 4000000
theorem mp_owner : Manifest.owners.lookup (String.ofList ['p', 'a', 'm'].reverse) = some Manifest.sig_map := by kernel_rfl
theorem mp_slot_init : Slot "map" "__init__" "object.__init__" :=
  .of (owner := "object") (n := "__init__") (by rw [typeLookup_type, builtinLookup_eq_fast]; kernel_rfl) (by decide +kernel) (by decide +kernel) (by decide +kernel)
    (by first | exact .inl (by decide +kernel) | exact .inr (by decide +kernel)) (by rw [isSubtype_type]; kernel_rfl)
theorem mp_slot_next : Slot "map" "__next__" "map.__next__" :=
  .of (owner := "map") (n := "__next__") (by rw [typeLookup_type, builtinLookup_eq_fast]; kernel_rfl) (by decide +kernel) (by decide +kernel) (by decide +kernel)
    (by first | exact .inl (by decide +kernel) | exact .inr (by decide +kernel)) (by rw [isSubtype_type]; kernel_rfl)
theorem mp_slot_iter : Slot "map" "__iter__" "map.__iter__" :=
  .of (owner := "map") (n := "__iter__") (by rw [typeLookup_type, builtinLookup_eq_fast]; kernel_rfl) (by decide +kernel) (by decide +kernel) (by decide +kernel)
    (by first | exact .inl (by decide +kernel) | exact .inr (by decide +kernel)) (by rw [isSubtype_type]; kernel_rfl)
theorem mp_entry_next : entryFor table "map.__next__" = some Builtin.«map.__next__» := entryFor_of_tree (by kernel_rfl)
theorem mp_args_next (a : Value) : argsOk "map.__next__" ⟨[a], []⟩ := by
  unfold argsOk; rw [signature?_of (id := "map.__next__") (n := ['_', '_', 't', 'x', 'e', 'n', '_', '_']) (o := ['p', 'a', 'm']) (by kernel_rfl) mp_owner]; kernel_rfl
theorem mp_args_iter (a : Value) : argsOk "map.__iter__" ⟨[a], []⟩ := by
  unfold argsOk; rw [signature?_of (id := "map.__iter__") (n := ['_', '_', 'r', 'e', 't', 'i', '_', '_']) (o := ['p', 'a', 'm']) (by kernel_rfl) mp_owner]; kernel_rfl
theorem mp_entry_iter : entryFor table "map.__iter__" = some Builtin.«dict_keyiterator.__iter__» :=
  entryFor_alias (id' := "dict_keyiterator.__iter__") (by kernel_rfl) (by first | rfl | decide +kernel | (unfold String.splitOn; simp +decide [String.splitOnAux])) (by decide +kernel) (by kernel_rfl)
theorem mp_mro : mroOf (.type "map") = pure [.type "map", .type "object"] := by rw [mroOf_type]; kernel_rfl
theorem mp_lookup_new : typeLookup (.type "map") "__new__" = pure (some (.builtin "map.__new__")) := by rw [typeLookup_type, builtinLookup_eq_fast]; kernel_rfl
theorem mp_called : TypeCalled "map" "map.__new__" "object.__init__" :=
  ⟨by decide +kernel, by decide +kernel, ⟨_, _, mp_mro⟩, madeBy_type mp_mro mp_lookup_new (by decide +kernel), by decide +kernel, by rw [isSubtype_type]; kernel_rfl, mp_slot_init⟩
theorem mp_typeCall (a b : Value) : checkTypeCall "map" ⟨[a, b], []⟩ = pure () := by kernel_rfl
theorem mp_newCall (a b : Value) : checkBuiltinCall "map.__new__" ⟨[.type "map", a, b], []⟩ = pure () := by kernel_rfl
theorem mp_entry_new : entryFor table "map.__new__" = some Builtin.«map.__new__» := entryFor_of_tree (by kernel_rfl)
theorem mp_sub : isSubtype (.type "map") (.type "map") = pure true := by rw [isSubtype_type]; kernel_rfl
theorem mp_no_len : typeLookup (.type "map") "__len__" = pure none := by rw [typeLookup_type, builtinLookup_eq_fast]; kernel_rfl
theorem mp_no_hint : typeLookup (.type "map") "__length_hint__" = pure none := by rw [typeLookup_type, builtinLookup_eq_fast]; kernel_rfl

abbrev itO (l : Addr) (i : Nat) : Obj := { cls := .type "list_iterator", data := .fields #[.ref l, .int i 0] }
abbrev mapO (f tup : Addr) : Obj := { cls := .type "map", data := .fields #[.ref tup, .ref f] }
theorem mp_new (l f : Addr) (items : Array Value) (n : Nat) (dct : Option Addr) (sl : Array (Option Value)) :
    Meets (Builtin.«map.__new__» ⟨[.type "map", .ref f, .ref l], []⟩) (fun _ R s => s.heap.get? l = some { cls := .type "list", dict := dct, data := .seq items n, slots := sl } ∧
      R (.ok (.ret (.ref (s.heap.objs.size + 2))))
        { s with heap := ((s.heap.push (itO l 0)).push { cls := .type "tuple", data := .seq #[.ref s.heap.objs.size] }).push (mapO f (s.heap.objs.size + 1)) }) :=
  .of_wp fun prog w A R s h => by
    obtain ⟨hp, g, d, tk, os⟩ := s; obtain ⟨hl, h⟩ := h
    have hsub := mp_sub
    have hL : Heap.IsList (Shared.heap ⟨hp, g, d, tk, os⟩) l items := ⟨_, hl, rfl, n, rfl⟩
    wp_walk using wpAny_loadPart' hl, wpAny_pyIter_list hL
    refine ⟨_, rfl, ?_⟩
    have e1 : ((hp.push { cls := Value.type "list_iterator", data := Data.fields #[Value.ref l, Value.int 0 0] }).push { cls := Value.type "tuple", data := Data.seq #[Value.ref hp.objs.size] }).objs.size = hp.objs.size + 2 := by rw [Heap.size_push, Heap.size_push]
    have e2 : (hp.push { cls := Value.type "list_iterator", data := Data.fields #[Value.ref l, Value.int 0 0] }).objs.size = hp.objs.size + 1 := Heap.size_push ..
    show R (Except.ok (Flow.ret (Value.ref (((hp.push { cls := Value.type "list_iterator", data := Data.fields #[Value.ref l, Value.int 0 0] }).push { cls := Value.type "tuple", data := Data.seq #[Value.ref hp.objs.size] }).objs.size)))) _
    rw [e1]
    rw [← e2] at h
    exact h
section
variable {prog : Program} {w : World} {A : Around} {E : Value → Shared → Prop} {s : Shared}
theorem mp_call {f l : Addr} {items : Array Value} {Q : Value → Shared → Prop} (hL : s.heap.IsList l items)
    (h : ∀ h', h'.get? (s.heap.objs.size + 2) = some (mapO f (s.heap.objs.size + 1)) → h'.get? (s.heap.objs.size + 1) = some { cls := .type "tuple", data := .seq #[.ref s.heap.objs.size] } → h'.get? s.heap.objs.size = some (itO l 0) →
      h'.objs.size = s.heap.objs.size + 3 → (∀ b o, s.heap.get? b = some o → h'.get? b = some o) → Q (.ref (s.heap.objs.size + 2)) { s with heap := h' }) :
    wpAny (model prog w) A (call (.type "map") [.ref f, .ref l]) Q E s := by
  obtain ⟨⟨c, dct, dt, sl⟩, hl, hc, n, hd⟩ := hL
  replace hc : c = .type "list" := hc
  replace hd : dt = .seq items n := hd
  subst hc hd
  have e2 : (s.heap.push (itO l 0)).objs.size = s.heap.objs.size + 1 := Heap.size_push ..
  have e1 : ((s.heap.push (itO l 0)).push { cls := Value.type "tuple", data := Data.seq #[Value.ref s.heap.objs.size] }).objs.size = s.heap.objs.size + 2 := by rw [Heap.size_push, e2]
  have g0 := Heap.get?_push_size s.heap (o := itO l 0) rfl
  have g1 := Heap.get?_push_size (s.heap.push (itO l 0)) (o := { cls := Value.type "tuple", data := Data.seq #[Value.ref s.heap.objs.size] }) rfl
  rw [e2] at g1
  have g2 := Heap.get?_push_size ((s.heap.push (itO l 0)).push { cls := Value.type "tuple", data := Data.seq #[Value.ref s.heap.objs.size] }) (o := mapO f (s.heap.objs.size + 1)) rfl
  rw [e1] at g2
  refine callType_new mp_called (by decide) (mp_typeCall _ _) (mp_newCall _ _) (fun obj => F.args_object_init_3 obj _ _) mp_entry_new (mp_new l f items n dct sl) ⟨hl, ?_⟩
  refine ⟨⟨_, g2, rfl⟩, h _ g2 (Heap.get?_push_of_some _ g1) (Heap.get?_push_of_some _ (Heap.get?_push_of_some _ g0)) (by rw [Heap.size_push, e1]) fun b o x => Heap.get?_push_of_some _ (Heap.get?_push_of_some _ (Heap.get?_push_of_some _ x))⟩

theorem mp_iter {m f tup : Addr} {Q : Value → Shared → Prop} (hm : s.heap.get? m = some (mapO f tup)) (h : Q (.ref m) s) : wpAny (model prog w) A (pyIter (.ref m)) Q E s := by
  have hT : s.TypeIs (.ref m) "map" := ⟨_, hm, rfl⟩
  refine wpAny_pyIter_slot hT mp_slot_iter (wpAny_call_entry mp_slot_iter hT mp_entry_iter ?_ (mp_args_iter _))
  show wpAny _ _ (ret (.ref m)) _ _ s
  exact wpAny_pure ⟨_, rfl, "map", _, hT, mp_slot_next.lookup, h⟩

theorem mp_next {m f tup it l : Addr} {i : Nat} {items : Array Value} {x : Value} {Q : Option Value → Shared → Prop} (hm : s.heap.get? m = some (mapO f tup)) (ht : s.heap.get? tup = some { cls := .type "tuple", data := .seq #[.ref it] }) (hit : s.heap.IsListIter it l i) (hl : s.heap.IsList l items)
    (hx : items[i]? = some x) (hmi : m ≠ it)
    (h : ∀ h', h'.IsListIter it l (i + 1) → Heap.SameBut it s.heap h' → wpAny (model prog w) A.in1 (call (.ref f) [x]) (fun v s' => Q (some v) s') (fun _ _ => False) { s with heap := h' }) :
    wpAny (model prog w) A (pyNext (.ref m)) Q E s := by
  have hT : s.TypeIs (.ref m) "map" := ⟨_, hm, rfl⟩
  unfold pyNext
  refine wpAny_bind (wpAny_attempt (wpAny_callSpecial?_slot (name := Str.ofString "__next__") hT mp_slot_next (wpAny_call_entry mp_slot_next hT mp_entry_next ?_ (mp_args_next _))))
  unfold Builtin.«map.__next__»
  refine wpAny_bind (wpAny_of_eq (a := (Value.ref m, [])) rfl ?_)
  refine wpAny_bind (wpAny_field hm rfl (x := .ref tup) rfl ?_)
  refine wpAny_bind (wpAny_seqItems ht rfl ?_)
  dsimp only
  refine wpAny_bind ?_
  simp only [List.forIn_cons, List.forIn_nil, Array.forIn_toList.symm]
  refine wpAny_bind (wpAny_bind (wpAny_holding (wpAny_nextOf_list_item hit hl hx fun h' hit' hs => wpAny_pure (wpAny_pure ?_))))
  have hm' : h'.get? m = some (mapO f tup) := (hs.2 m hmi).trans hm
  refine wpAny_bind (wpAny_field (s := { s with heap := h' }) hm' rfl (x := .ref f) rfl ?_)
  refine wpAny_bind (wpAny_holding (wpAny_mono (h h' hit' hs) (fun v s' hv => ?_) fun _ _ e => e.elim))
  refine wpAny_bind (wpAny_letGo (wpAny_pure ⟨_, rfl, wpAny_pure hv⟩))
theorem mp_end {m f tup it l : Addr} {i : Nat} {items : Array Value} {Q : Option Value → Shared → Prop} (hh : A.handled = none) (hm : s.heap.get? m = some (mapO f tup)) (ht : s.heap.get? tup = some { cls := .type "tuple", data := .seq #[.ref it] }) (hit : s.heap.IsListIter it l i) (hl : s.heap.IsList l items)
    (hx : items[i]? = none) (h : ∀ h', Heap.ExtBut it s.heap h' → Q none { s with heap := h' }) :
    wpAny (model prog w) A (pyNext (.ref m)) Q E s := by
  have hT : s.TypeIs (.ref m) "map" := ⟨_, hm, rfl⟩
  unfold pyNext
  refine wpAny_bind (wpAny_attempt (wpAny_callSpecial?_slot (name := Str.ofString "__next__") hT mp_slot_next (wpAny_call_entry mp_slot_next hT mp_entry_next ?_ (mp_args_next _))))
  unfold Builtin.«map.__next__»
  refine wpAny_bind (wpAny_of_eq (a := (Value.ref m, [])) rfl ?_)
  refine wpAny_bind (wpAny_field hm rfl (x := .ref tup) rfl ?_)
  refine wpAny_bind (wpAny_seqItems ht rfl ?_)
  dsimp only
  refine wpAny_bind ?_
  simp only [List.forIn_cons, List.forIn_nil, Array.forIn_toList.symm]
  refine wpAny_bind (wpAny_bind (wpAny_holding (wpAny_nextOf_list_end hh hit hl hx fun h' e hs he => ?_)))
  obtain ⟨o, ho, hc⟩ := he
  refine wpAny_bind (wpAny_isInstance (T := "StopIteration") (b := true) ⟨o, ho, hc⟩ isSubtype_stop ?_)
  exact wpAny_pure (h _ hs)
end

-- list(..) of a map over a list: as for a generator, of another type
section
variable {prog : Program} {w : World} {A : Around} {s : Shared} {R : Result → Shared → Prop}
variable {I : Addr} {fp wr : List Addr} {G : Array GenState → Array GenState → Prop} {n : Nat} {P : Nat → Value → Prop} {St : Nat → Shared → Prop}
theorem mp_extend (W : WalksS prog w A.in1 I fp wr G n P St) (hT : ∀ i s, St i s → s.TypeIs (.ref I) "map") (S : Addr) (res : Value) (c₀ : Nat) (hst : St 0 s) (hSf : S ∉ fp) (hI : I ∈ fp)
    (hS : s.heap.get? S = some { cls := .type "list", data := .seq #[] c₀ })
    (hR : ∀ s' acc' c', Moved (S :: wr) G s s' → s'.heap.get? S = some { cls := .type "list", dict := none, data := .seq acc' c', slots := #[] } → ItemsOf P acc' n → R (.ok (.ret res)) s') (hn : n ≤ sizeLine) :
    wpAny (model prog w) A.in1 (Builtin.List.listExtendWith (.ref S) (.ref I) res)
      (fun fin s' => match fin with | .done f => R (.ok f) s' | .again c' => c'.quiet = true ∧ codeAny (model prog w) A c' R s') (fun e s' => R (.error e) s') s := by
  have hSI : S ≠ I := fun e => hSf (e ▸ hI)
  have same : Builtin.List.listSameRef (.ref S) (.ref I) = false := by simp [Builtin.List.listSameRef, hSI]
  unfold Builtin.List.listExtendWith
  refine wpAny_bind (wpAny_typeOf (hT 0 _ hst) ?_)
  simp only [same, show (Value.type "map" == Value.type "list") = false by decide, show (Value.type "map" == Value.type "tuple") = false by decide, Bool.or_false, Bool.false_eq_true, if_false]
  refine wpAny_bind (W.self 0 _ _ _ hst (wpAny_bind (wpAny_holding ?_)))
  unfold Builtin.List.listLengthHint
  refine wpAny_bind (wpAny_specialOf (hT 0 _ hst) mp_no_len ?_)
  show wpAny _ A.in1 (specialOf (Value.ref I) (Str.ofString "__length_hint__") >>= _) _ _ _
  refine wpAny_bind (wpAny_specialOf (hT 0 _ hst) mp_no_hint (wpAny_pure ?_))
  show wpAny _ A.in1 (rule "list.extend.makes-room" >>= fun _ => Builtin.List.listTouch (.ref S) >>= fun _ => again (.builtin "list.extend.loop" ⟨[.ref S, .ref I, res], []⟩)) _ _ _
  refine wpAny_bind (wpAny_rule (wpAny_bind ?_))
  show wpAny _ A.in1 (updateSeq S (·.push .none) >>= fun _ => updateSeq S (·.pop)) _ _ _
  refine wpAny_bind (wpAny_updateSeq hS rfl ?_)
  have h1 := Heap.get?_update_self (Obj.mapSeq (·.push Value.none)) hS rfl
  refine wpAny_updateSeq (hz := by seq_fits) h1 rfl ?_
  have h2 := Heap.get?_update_self (Obj.mapSeq (·.pop)) h1 rfl
  have oth : ∀ b o, b ≠ S → s.heap.get? b = some o → ((s.heap.update S (Obj.mapSeq (·.push Value.none))).update S (Obj.mapSeq (·.pop))).get? b = some o :=
    fun b o hb e => (Heap.get?_update_other _ _ (Ne.symm hb)).trans ((Heap.get?_update_other _ _ (Ne.symm hb)).trans e)
  refine wpAny_pure ⟨plainId_quiet F.plain_extend_loop _, codeAny_extend_loopS W hn _ hSf _ n 0 _ _ _ rfl (Nat.zero_le _)
    (W.frame 0 s _ s.toks hst (Nat.le_refl _) fun b hb o e => oth b o (fun h => hSf (h ▸ hb)) e) h2 (ItemsOf.nil P) fun s' acc' c' hm hS' hacc => ?_⟩
  exact hR s' acc' c' (Moved.trans W.gtrans ((Moved.refl W.grefl).then_heap (Nat.le_refl _) fun b o hb e => oth b o (fun h => hb (h ▸ List.mem_cons_self)) e) hm) hS' hacc
end
section
variable {prog : Program} {w : World} {A : Around} {E : Value → Shared → Prop} {s : Shared}
variable {I : Addr} {fp wr : List Addr} {G : Array GenState → Array GenState → Prop} {n : Nat} {P : Nat → Value → Prop} {St : Nat → Shared → Prop}
theorem mp_list {Q : Value → Shared → Prop} (W : WalksS prog w A.in1.in1 I fp wr G n P St) (hT : ∀ i s, St i s → s.TypeIs (.ref I) "map") (hst : St 0 s) (hfp : ∀ b ∈ fp, b < s.heap.objs.size) (hI : I ∈ fp)
    (hQ : ∀ s' acc' c', Moved (s.heap.objs.size :: wr) G { s with heap := s.heap.push { cls := .type "list", data := .seq #[] } } s' →
      s'.heap.get? s.heap.objs.size = some { cls := .type "list", dict := none, data := .seq acc' c', slots := #[] } → ItemsOf P acc' n → Q (.ref s.heap.objs.size) s') (hn : n ≤ sizeLine) :
    wpAny (model prog w) A (call (.type "list") [.ref I]) Q E s := by
  have hSf : s.heap.objs.size ∉ fp := fun hm => Nat.lt_irrefl _ (hfp _ hm)
  refine callType_codes (Q₁ := fun obj s₁ => obj = .ref s.heap.objs.size ∧ s₁ = { s with heap := s.heap.push { cls := .type "list", data := .seq #[] } }) F.called_list (F.typeCall_list_1 _) F.entry_list_init
    (code_list_new _ ⟨rfl, rfl⟩) fun obj s₁ h₁ => ?_
  obtain ⟨rfl, rfl⟩ := h₁
  have hS : (s.heap.push { cls := .type "list", data := .seq #[] }).get? s.heap.objs.size = some { cls := .type "list", data := .seq #[] } := Heap.get?_push_size _ rfl
  refine ⟨⟨_, hS, rfl⟩, F.args_list_init_2 _ _, ?_⟩
  show wpAny _ A.in1.in1 (do let old ← Builtin.List.listItems (.ref s.heap.objs.size); Builtin.List.listUpdate (.ref s.heap.objs.size) (fun _ => #[]); letGo old.toList.reverse; Builtin.List.listExtendWith (.ref s.heap.objs.size) (.ref I) .none) _ _ _
  refine wpAny_bind ?_
  unfold Builtin.List.listItems
  refine wpAny_bind (wpAny_seqItems hS rfl (wpAny_pure ?_))
  show wpAny _ A.in1.in1 (updateSeq s.heap.objs.size (fun _ => #[]) >>= fun _ => letGo (#[] : Array Value).toList.reverse >>= fun _ => Builtin.List.listExtendWith (.ref s.heap.objs.size) (.ref I) .none) _ _ _
  refine wpAny_bind (wpAny_updateSeq hS rfl ?_)
  have hS₂ := Heap.get?_update_self (Obj.mapSeq (fun _ => (#[] : Array Value))) hS rfl
  have oth : ∀ b o, b ≠ s.heap.objs.size → (s.heap.push { cls := .type "list", data := .seq #[] }).get? b = some o → ((s.heap.push { cls := .type "list", data := .seq #[] }).update s.heap.objs.size (Obj.mapSeq (fun _ => (#[] : Array Value)))).get? b = some o :=
    fun b o hb e => (Heap.get?_update_other _ _ (Ne.symm hb)).trans e
  refine wpAny_bind (wpAny_letGo ?_)
  have st' := W.frame 0 s ((s.heap.push { cls := .type "list", data := .seq #[] }).update s.heap.objs.size (Obj.mapSeq (fun _ => (#[] : Array Value)))) s.toks hst (Nat.le_refl _) fun b hb o e => oth b o (fun h => hSf (h ▸ hb)) (Heap.get?_push_of_some _ e)
  refine mp_extend (R := wants (fun r s₂ => r = .none ∧ Q (.ref s.heap.objs.size) s₂) E) W hT _ .none _ st' hSf hI hS₂ (fun s' acc' c' hm hS' hacc => ?_) hn
  exact ⟨rfl, hQ s' acc' c' (Moved.trans W.gtrans ((Moved.refl W.grefl).then_heap (Nat.le_refl _) fun b o hb e => oth b o (fun h => hb (h ▸ List.mem_cons_self)) e) hm) hS' hacc⟩
end
end
section
open PySem PySem.W PyProof.Rows PySem.Calls PySem.Spec PySem.Builtin PySem.Builtin.Str
set_option maxRecDepth 100000
set_option maxHeartbeats 8000000
def special (c : Nat) : Bool := [40, 41, 91, 93, 123, 125, 63, 42, 43, 45, 124, 94, 36, 92, 46, 38, 126, 35, 32, 9, 10, 13, 11, 12].contains c
def escL (l : List Nat) : List Nat := l.flatMap fun c => if special c then [92, c] else [c]
abbrev S (l : List Nat) : Str := ⟨l.toArray⟩
abbrev SPS : Str := Str.ofString "()[]{}?*+-|^$\\.&~# \t\n\r\x0b\x0c"
theorem sps_list : (Str.ofString "()[]{}?*+-|^$\\.&~# \t\n\r\x0b\x0c").cps.toList = [40, 41, 91, 93, 123, 125, 63, 42, 43, 45, 124, 94, 36, 92, 46, 38, 126, 35, 32, 9, 10, 13, 11, 12] := by decide +kernel
theorem inSp (c : Nat) : (!(Builtin.Str.occurrences (Str.ofString "()[]{}?*+-|^$\\.&~# \t\n\r\x0b\x0c") ⟨#[c]⟩ 0 (Str.ofString "()[]{}?*+-|^$\\.&~# \t\n\r\x0b\x0c").length 1).isEmpty) = special c := by
  rw [StrLaws.found_one, sps_list]
  unfold special
  rw [← List.elem_eq_contains, List.elem_eq_mem]
theorem isBack (c : Nat) : ((⟨#[c]⟩ : Str) == Str.ofString "\\") = decide (c = 92) := by
  rw [show Str.ofString "\\" = (⟨#[92]⟩ : Str) by decide +kernel]
  by_cases h : c = 92
  · subst h; decide
  · rw [decide_eq_false h]
    have : (⟨#[c]⟩ : Str) ≠ ⟨#[92]⟩ := fun e => h (by simpa using congrArg Str.cps e)
    simpa using this
theorem S_snoc (p : List Nat) (c : Nat) : S p ++ (⟨#[c]⟩ : Str) = S (p ++ [c]) := StrLaws.mk_of_toList (by simp [Str.cps_append])
theorem escL_cons (c : Nat) (r : List Nat) : escL (c :: r) = (if special c then [92, c] else [c]) ++ escL r := by simp [escL]
end
section
open PySem PySem.W PyProof.Rows PySem.Calls PySem.Spec PySem.Builtin PySem.Builtin.Str
set_option maxRecDepth 100000
set_option maxHeartbeats 1000000
section
variable {prog : Program} {w : World} {A : Around} {E : Value → Shared → Prop} {s : Shared} {d : Addr} {f : Int → Option Value} {c : Nat}
theorem lk_keep {Q : Mapped → Shared → Prop} (hm : s.heap.MapOf (intKind prog w) d f) (hd : (d == sysModules) = false) (hh : A.handled = none) (hn : f c = none)
    (h : ∀ h' tk, (∀ b o, s.heap.get? b = some o → h'.get? b = some o) → Q .keep { s with heap := h', toks := tk }) : wpAny (model prog w) A (tableLookup (.ref d) c) Q E s := by
  unfold tableLookup
  refine wpAny_bind (wpAny_attempt (wpAny_bind (wpAny_mkInt ?_)))
  refine wpAny_getItem_missing_of (knd := intKind prog w) (k := (c : Int)) (by simp [intKind, Value.isInt]) hd hh hm hn (fun h' e hx => ?_)
  obtain ⟨ob, t, ho, hc, hdt⟩ := hx.there
  refine wpAny_bind (wpAny_isInstance (T := "KeyError") (b := true) ⟨ob, ho, hc⟩ (by rw [isSubtype_type]; kernel_rfl) ?_)
  rw [if_pos rfl]
  exact wpAny_bind (wpAny_rule (wpAny_pure (h _ _ hx.keeps)))
theorem lk_text {Q : Mapped → Shared → Prop} {y : Str} {ty : Tok} (hm : s.heap.MapOf (intKind prog w) d f) (hv : f c = some (.str y ty))
    (h : ∀ tk, Q (.text y) { s with toks := tk }) : wpAny (model prog w) A (tableLookup (.ref d) c) Q E s := by
  unfold tableLookup
  refine wpAny_bind (wpAny_attempt (wpAny_bind (wpAny_mkInt ?_)))
  refine wpAny_getItem_of (knd := intKind prog w) (k := (c : Int)) (by simp [intKind, Value.isInt]) hm hv ?_
  refine wpAny_bind (show wpAny _ _ ((pure () : Sem Unit) >>= fun _ => pure none) _ _ _ from wpAny_bind (wpAny_pure (wpAny_pure ?_)))
  refine wpAny_bind (wpAny_pure ?_)
  exact wpAny_pure (h _)
end
theorem flat_rev (pieces : List Str) (p : Str) : ((p :: pieces).reverse.flatMap fun q => q.cps.toList) = (pieces.reverse.flatMap fun q => q.cps.toList) ++ p.cps.toList := by simp
theorem fold_flat : ∀ (l : List Str) (acc : Array Nat), (l.foldl (fun acc p => acc ++ p.cps) acc) = acc ++ (l.flatMap fun q => q.cps.toList).toArray
  | [], acc => by simp
  | p :: r, acc => by rw [List.foldl_cons, fold_flat r]; apply Array.toList_inj.mp; simp
def TInv (l : List Nat) (s : Shared) (rest : List Nat) (b : List Str × Nat × Bool × List (Nat × Option Nat) × Bool) (s' : Shared) : Prop :=
  ∃ pre, l = pre ++ rest ∧ (b.1.reverse.flatMap fun q => q.cps.toList) = escL pre ∧ b.2.1 = (escL pre).length ∧ b.2.2.2.2 = false ∧ (∀ c a, b.2.2.2.1.lookup c = some a → a = some c ∧ special c = false) ∧
    ∃ h tk, s' = { s with heap := h, toks := tk } ∧ ∀ b o, s.heap.get? b = some o → h.get? b = some o
theorem escL_snoc (pre : List Nat) (c : Nat) : escL (pre ++ [c]) = escL pre ++ if special c then [92, c] else [c] := by simp [escL]
theorem escL_len (pre : List Nat) : (escL pre).length ≤ 2 * pre.length := by
  induction pre with
  | nil => simp [escL]
  | cons c r ih => rw [escL_cons]; split <;> simp <;> omega
section
variable {prog : Program} {w : World} {A : Around} {E : Value → Shared → Prop} {s : Shared} {d : Addr} {f : Int → Option Value}
theorem trans_rule {l : List Nat} {t : Tok} {Q : Value → Shared → Prop} (hm : s.heap.MapOf (intKind prog w) d f) (hd : (d == sysModules) = false) (hh : A.handled = none)
    (hf : ∀ c : Nat, special c = false → f c = none) (hg : ∀ c : Nat, special c = true → ∃ ty, f c = some (.str (S [92, c]) ty)) (hl : l.length ≤ 100000)
    (h : ∀ h' t' k, (∀ b o, s.heap.get? b = some o → h'.get? b = some o) → Q (.str (S (escL l)) t') { s with heap := h', toks := k }) :
    wpAny (model prog w) A (call (.builtin "str.translate") [.str (S l) t, .ref d]) Q E s := by
  refine wpAny_call (codeAny_call_builtin F.slot_str_translate.plain F.entry_str_translate (F.slot_str_translate.check _ _ _ _ _ _ _ _ (typeIs_str _ _ _) (F.args_str_translate_2 _ _) ?_))
  unfold Builtin.«str.translate»
  dsimp only
  refine wpAny_bind (wpAny_of_eq (a := (Value.str (S l) t, S l, Value.ref d)) rfl ?_)
  dsimp only
  split
  · rename_i he
    have he' : l = [] := by
      have : (S l).length = 0 := by simpa using he
      simpa [S, Str.length] using this
    subst he'
    refine wpAny_bind (wpAny_rule (wpAny_bind (wpAny_of_eq (a := Value.str (S []) t) rfl ?_)))
    exact wpAny_pure (h s.heap t s.toks fun _ _ e => e)
  · refine wpAny_bind (forIn_array_ _ (TInv l s) _ ?_ ?_ (S l).cps _ ?_)
    · rintro c rest ⟨pieces, total, fast, known, ad⟩ s' ⟨pre, hpre, hp, htot, had, hkn, hs, tk, rfl, hst⟩
      dsimp only at hp htot had hkn ⊢
      subst had
      have hpl : pre.length < l.length := by rw [hpre]; simp
      have htl : tooLong total = false := by
        have := escL_len pre
        rw [htot]; unfold tooLong; simp; rw [PySem.sizeLine_eq]; omega
      have hm' : ∀ (h₂ : Heap), (∀ b o, s.heap.get? b = some o → h₂.get? b = some o) → h₂.MapOf (intKind prog w) d f := fun h₂ k => by
        obtain ⟨o, es, ep, ho, r⟩ := hm; exact ⟨o, es, ep, k _ _ ho, r⟩
      have next : ∀ (p : Str) (n : Nat) (fs : Bool) (kn : List (Nat × Option Nat)) (h₂ : Heap) (tk₂ : Nat), p.cps.toList = (if special c then [92, c] else [c]) → n = total + p.length → (∀ c a, kn.lookup c = some a → a = some c ∧ special c = false) →
          (∀ b o, s.heap.get? b = some o → h₂.get? b = some o) → TInv l s rest (p :: pieces, n, fs, kn, false) { s with heap := h₂, toks := tk₂ } := by
        intro p n fs kn h₂ tk₂ e1 e2 e3 e4
        refine ⟨pre ++ [c], by rw [hpre]; simp, ?_, ?_, rfl, e3, h₂, tk₂, rfl, e4⟩
        · rw [flat_rev, hp, e1, escL_snoc]
        · dsimp only
          rw [e2, htot, escL_snoc, ← e1]
          simp [Str.length]
      rw [htl]
      simp only [Bool.false_eq_true, if_false]
      have slow : ∀ {Q' : ForInStep (List Str × Nat × Bool × List (Nat × Option Nat) × Bool) → Shared → Prop} {E' : Value → Shared → Prop} (kn : List (Nat × Option Nat)) (h₂ : Heap) (tk₂ : Nat), (∀ b' s', TInv l s rest b' s' → Q' (.yield b') s') → (∀ c a, kn.lookup c = some a → a = some c ∧ special c = false) → (∀ b o, s.heap.get? b = some o → h₂.get? b = some o) →
          wpAny (model prog w) A.in1 (do
            let __do_lift ← tableLookup (Value.ref d) c
            match __do_lift with
              | Mapped.keep => pure (ForInStep.yield ((⟨#[c]⟩ : Str) :: pieces, total + 1, false, kn, false))
              | Mapped.drop => pure (ForInStep.yield (pieces, total, false, kn, true))
              | Mapped.char d => pure (ForInStep.yield ((⟨#[d]⟩ : Str) :: pieces, total + 1, false, kn, false))
              | Mapped.text t => pure (ForInStep.yield (t :: pieces, total + t.length, false, kn, false)))
            Q' E' { s with heap := h₂, toks := tk₂ } := by
        intro Q' E' kn h₂ tk₂ hq e3 e4
        cases hsp : special c with
        | false => 
          refine wpAny_bind (lk_keep (s := { s with heap := h₂, toks := tk₂ }) (hm' h₂ e4) hd hh (hf c hsp) fun h₃ tk₃ k₃ => wpAny_pure (hq _ _ ?_))
          exact next _ _ _ _ _ _ (by simp [hsp]) rfl e3 fun b o e => k₃ b o (e4 b o e)
        | true =>
          obtain ⟨ty, hty⟩ := hg c hsp
          refine wpAny_bind (lk_text (s := { s with heap := h₂, toks := tk₂ }) (hm' h₂ e4) hty fun tk₃ => wpAny_pure (hq _ _ ?_))
          exact next _ _ _ _ _ _ (by simp [hsp]) rfl e3 e4
      cases fast with
      | true =>
        simp only [if_true]
        cases hlk : known.lookup c with
        | some a =>
          obtain ⟨rfl, hsp⟩ := hkn c a hlk
          refine wpAny_bind (wpAny_pure (wpAny_pure ?_))
          exact next _ _ _ _ _ _ (by simp [hsp]) rfl hkn hst
        | none =>
          cases hsp : special c with
          | false =>
            refine wpAny_bind (lk_keep (s := { s with heap := hs, toks := tk }) (hm' hs hst) hd hh (hf c hsp) fun h₃ tk₃ k₃ => ?_)
            refine wpAny_bind (wpAny_pure (wpAny_pure ?_))
            refine next _ _ _ _ _ _ (by simp [hsp]) rfl ?_ (fun b o e => k₃ b o (hst b o e))
            intro c' a' e'
            rw [List.lookup_cons] at e'
            split at e'
            · rename_i e2
              cases e'
              rw [eq_of_beq e2]; exact ⟨rfl, hsp⟩
            · exact hkn c' a' e'
          | true =>
            obtain ⟨ty, hty⟩ := hg c hsp
            refine wpAny_bind (lk_text (s := { s with heap := hs, toks := tk }) (hm' hs hst) hty fun tk₃ => ?_)
            have hne : ((S [92, c]).length == 1 && (S [92, c]).cps.all fun x => decide (x < 128)) = false := by simp [S, Str.length]
            dsimp only
            rw [hne]
            simp only [Bool.false_eq_true, if_false]
            refine wpAny_bind (wpAny_pure (wpAny_bind (wpAny_rule ?_)))
            exact slow known hs _ (fun _ _ z => z) hkn hst
      | false =>
        simp only [Bool.false_eq_true, if_false]
        exact slow known hs tk (fun _ _ z => z) hkn hst
    · rintro ⟨pieces, total, fast, known, ad⟩ s' ⟨pre, hpre, hp, htot, had, hkn, hs, tk, rfl, hst⟩
      have hpr : pre = l := by rw [hpre]; simp
      subst hpr
      dsimp only at hp htot ⊢
      have htl : tooLong total = false := by
        have := escL_len pre
        rw [htot]; unfold tooLong; simp; rw [PySem.sizeLine_eq]; omega
      rw [htl]
      simp only [Bool.false_eq_true, if_false]
      have e : (⟨pieces.reverse.foldl (fun acc p => acc ++ p.cps) #[]⟩ : Str) = S (escL pre) := by rw [fold_flat, hp]; simp
      rw [e]
      refine wpAny_bind (wpAny_mkStr ?_ ?_)
      · exact wpAny_pure (h _ _ _ hst)
      · have := escL_len pre
        show (escL pre).toArray.size ≤ _
        rw [PySem.sizeLine_eq]; simp; omega
    · exact ⟨[], rfl, rfl, rfl, rfl, fun _ _ e => (by cases e), s.heap, s.toks, rfl, fun _ _ e => e⟩
end
end
section
open PySem PySem.W PyProof.Rows PySem.Calls PySem.Spec PySem.Builtin PySem.Builtin.Str
set_option maxRecDepth 100000
set_option maxHeartbeats 8000000
noncomputable def es23 (P : Params) : Array DictEntry := match (hd.heap_39 P).lookup 23 with
  | some o => (match o.data with | .dict es _ => es | _ => #[])
  | none => #[]
noncomputable def ep23 (P : Params) : Nat := match (hd.heap_39 P).lookup 23 with
  | some o => (match o.data with | .dict _ n => n | _ => 0)
  | none => 0
theorem ob23 (P : Params) : (hd.heap_39 P).lookup 23 = some ⟨.type "dict", none, .dict (es23 P) (ep23 P), #[]⟩ := by with_unfolding_all rfl
def keyOk (e : DictEntry) : Bool := match e.key with | .int k _ => (e.hash == hashInt k) && decide (0 ≤ k) && special k.toNat | _ => false
theorem keys23 (P : Params) : (es23 P).all keyOk = true := by kernel_rfl
noncomputable def valOk (P : Params) (c : Nat) : Bool := match findBy Value.isInt (es23 P) (c : Int) with | some (.str y _) => y == S [92, c] | _ => false
theorem vals23 (P : Params) : ([40, 41, 91, 93, 123, 125, 63, 42, 43, 45, 124, 94, 36, 92, 46, 38, 126, 35, 32, 9, 10, 13, 11, 12].all (valOk P)) = true := by kernel_rfl
theorem isInt_at {k : Int} {v : Value} : Value.isInt k v = true ↔ ∃ t, v = .int k t := by
  constructor
  · exact fun h => Value.isInt_shape h
  · rintro ⟨t, rfl⟩; simp [Value.isInt]
theorem map23 {prog : Program} {w : World} {h : Heap} (X : (hd.heap_39 w.params).In h) : h.MapOf (intKind prog w) 23 (findBy Value.isInt (es23 w.params)) := by
  refine ⟨_, es23 w.params, ep23 w.params, X _ _ (ob23 _), ⟨rfl, rfl, rfl⟩, rfl, ?_, fun k => rfl⟩
  intro e he
  have h1 := Array.all_eq_true'.mp (keys23 w.params) e he
  unfold keyOk at h1
  split at h1
  · rename_i k t hk
    simp only [Bool.and_eq_true, beq_iff_eq] at h1
    exact ⟨k, by rw [hk]; simp [intKind, Value.isInt], h1.1.1⟩
  · cases h1
theorem none23 (P : Params) (c : Nat) (hc : special c = false) : findBy Value.isInt (es23 P) (c : Int) = none := by
  unfold findBy
  rw [Option.map_eq_none_iff, Array.find?_eq_none]
  intro e he hk
  have h1 := Array.all_eq_true'.mp (keys23 P) e he
  obtain ⟨t, ht⟩ := isInt_at.mp hk
  unfold keyOk at h1
  rw [ht] at h1
  simp only [Bool.and_eq_true, beq_iff_eq] at h1
  have h2 := h1.2
  rw [show ((c : Int)).toNat = c from rfl, hc] at h2
  cases h2
theorem some23 (P : Params) (c : Nat) (hc : special c = true) : ∃ ty, findBy Value.isInt (es23 P) (c : Int) = some (.str (S [92, c]) ty) := by
  have h1 := List.all_eq_true.mp (vals23 P) c (by unfold special at hc; exact List.contains_iff_mem.mp hc)
  unfold valOk at h1
  split at h1
  · rename_i y ty e
    exact ⟨ty, by rw [e, eq_of_beq h1]⟩
  · cases h1
theorem tr_method {M : Model} {A : Around} {E : Value → Shared → Prop} {s : Shared} {x : Str} {t : Tok} {pl : Sem Bool} {Q : Value × List Value → Shared → Prop} (h : Q (.builtin "str.translate", [.str x t]) s) : wpAny M A (getMethod (.str x t) "translate" pl) Q E s := by
  with_reducible exact GM.of (.str x t) (typeIs_str _ _ _) F.slot_str_translate F.type_str_translate GM.noRef h
end
section
open PySem
def wrapM (y : Str) : Str := Str.ofString "(?>.*?" ++ y ++ Str.ofString ")"
def wrapped (ys : List Str) (i : Nat) : List Str := ys.take 1 ++ (((ys.drop 1).take i).map wrapM ++ (ys.drop 1).drop i)
theorem wrapped_zero (ys : List Str) : wrapped ys 0 = ys := by simp only [wrapped, List.take_zero, List.map_nil, List.nil_append, List.drop_zero]; exact List.take_append_drop 1 ys
theorem wrapped_len (ys : List Str) (i : Nat) : (wrapped ys i).length = ys.length := by simp [wrapped]; omega
theorem wrapped_at (a : Str) (r : List Str) (i j : Nat) : (wrapped (a :: r) i)[j + 1]? = if j < i then r[j]?.map wrapM else r[j]? := by
  have e : wrapped (a :: r) i = a :: ((r.take i).map wrapM ++ r.drop i) := by simp [wrapped]
  rw [e, List.getElem?_cons_succ, List.getElem?_append]
  simp only [List.length_map, List.length_take, List.getElem?_map, List.getElem?_take, List.getElem?_drop]
  by_cases h1 : j < i
  · rw [if_pos h1]
    by_cases h2 : j < min i r.length
    · rw [if_pos h2, if_pos h1]
    · rw [if_neg h2]
      have h3 : r.length ≤ j := by omega
      rw [List.getElem?_eq_none h3, List.getElem?_eq_none (by omega)]; simp
  · rw [if_neg (show ¬ j < min i r.length by omega), if_neg h1]
    by_cases h3 : i ≤ r.length
    · rw [show i + (j - min i r.length) = j by omega]
    · rw [List.getElem?_eq_none (by omega), List.getElem?_eq_none (by omega)]
theorem wrapped_get {ys : List Str} {i j : Nat} (hj : j < ys.length) (h1 : i < j) : (wrapped ys i).getD j Str.empty = ys.getD j Str.empty := by
  cases ys with
  | nil => simp at hj
  | cons a r =>
    cases j with
    | zero => omega
    | succ j => rw [List.getD_eq_getElem?_getD, wrapped_at, if_neg (by omega), List.getD_eq_getElem?_getD, List.getElem?_cons_succ]
theorem wrapM_len (y : Str) : (wrapM y).length = y.length + 7 := by
  unfold wrapM
  rw [Str.length_append, Str.length_append, show (Str.ofString "(?>.*?").length = 6 by decide +kernel, show (Str.ofString ")").length = 1 by decide +kernel]
  omega
theorem wrapped_mem {ys : List Str} {i : Nat} {B : Nat} (h : ∀ y ∈ ys, y.length ≤ B) : ∀ y ∈ wrapped ys i, y.length ≤ B + 8 := by
  intro y hy
  unfold wrapped at hy
  rcases List.mem_append.mp hy with h1 | h1
  · have := h y (List.mem_of_mem_take h1); omega
  · rcases List.mem_append.mp h1 with h2 | h2
    · obtain ⟨z, hz, rfl⟩ := List.mem_map.mp h2
      have := h z (List.mem_of_mem_drop (List.mem_of_mem_take hz))
      rw [wrapM_len]; omega
    · have := h y (List.mem_of_mem_drop (List.mem_of_mem_drop h2)); omega
theorem wrapped_succ {ys : List Str} {i : Nat} (hi : i + 1 < ys.length) : (wrapped ys i).set (1 + i) (wrapM (ys.getD (1 + i) Str.empty)) = wrapped ys (i + 1) := by
  cases ys with
  | nil => simp at hi
  | cons a r =>
    apply List.ext_getElem?
    intro j
    rw [List.getElem?_set]
    cases j with
    | zero => rw [if_neg (by omega)]; simp [wrapped]
    | succ j =>
      rw [wrapped_at, wrapped_at]
      by_cases h : 1 + i = j + 1
      · have : j = i := by omega
        subst this
        rw [if_pos h, if_pos (by rw [wrapped_len]; simp at hi ⊢; omega), if_pos (by omega)]
        have hr : j < r.length := by simpa using hi
        rw [List.getElem?_eq_getElem hr, Nat.add_comm 1 j, List.getD_eq_getElem?_getD, List.getElem?_cons_succ, List.getElem?_eq_getElem hr]
        rfl
      · rw [if_neg h]
        by_cases h2 : j < i
        · rw [if_pos h2, if_pos (by omega)]
        · rw [if_neg h2, if_neg (by omega)]
end
section
open PySem PySem.W PyProof.Rows PySem.Calls PySem.Spec
set_option maxRecDepth 100000
theorem S_len (l : List Nat) : (S l).length = l.length := by simp [S, Str.length]
theorem S_toList (l : List Nat) : (S l).cps.toList = l := rfl
theorem S_inj {a b : List Nat} (h : S a = S b) : a = b := by simpa [S] using h
theorem sliceTo (l : List Nat) (j : Nat) (h : j ≤ l.length) : Txt.slice (S l) none (some (j : Int)) = S (l.take j) := by
  have := eq_of_beq (slice_closes_toL (x := S l) (j := j) (by omega) (by rw [S_len]; omega))
  rw [this]; simp [S_toList, S]
theorem sliceFrom (l : List Nat) (i : Nat) (h : i ≤ l.length) : Txt.slice (S l) (some (i : Int)) none = S (l.drop i) := by
  rw [slice_from_eq (x := S l) (i := i) (b := l.length) (by omega) (by rw [S_len]; omega) (by rw [S_len])]
  simp only [S_toList, S, Int.toNat_natCast]
  rw [List.take_of_length_le (by rw [List.length_drop]; omega)]
theorem sliceBut (l : List Nat) (a : Nat) : Txt.slice (S (l ++ [a])) none (some (-1)) = S l := by
  rw [slice_to_neg (by decide), S_len, show max 0 (((l ++ [a]).length : Nat) + (-1 : Int)) = ((l.length : Nat) : Int) by simp; omega, sliceTo _ _ (by simp)]
  simp
theorem sliceLast (l : List Nat) (a : Nat) : Txt.slice (S (l ++ [a])) (some (-1)) none = S [a] := by
  rw [slice_from_neg (by decide), S_len, show max 0 (((l ++ [a]).length : Nat) + (-1 : Int)) = ((l.length : Nat) : Int) by simp; omega, sliceFrom _ _ (by simp)]
  simp
theorem S_append (a b : List Nat) : S a ++ S b = S (a ++ b) := by
  have h : (S a ++ S b).cps = (S (a ++ b)).cps := by rw [Str.cps_append]; simp
  show Str.mk (S a ++ S b).cps = _
  rw [h]
theorem ofS {x : Str} : S x.cps.toList = x := by simp [S]
end
section
open PySem PySem.W PyProof.Rows PySem.Calls PySem.Spec
local macro_rules | `(tactic| walk_at "call ref") => `(tactic| (k_here; k_dflt (refine con_str (fspathC _ _ _ _ _ _) (by k_asm) (by k_asm) (by k_asm) (by k_asm) (by k_asm) rfl trivial (by omega) (by omega) ?_); intro t' h' tk F' N'; try dsimp only))
local macro_rules | `(tactic| walk_at "call ref") => `(tactic| (k_here; k_dflt (refine con_str (get_sep _ _ _ _ _ _) (by k_asm) (by k_asm) (by k_asm) (by k_asm) (by k_asm) rfl trivial (by omega) (by omega) ?_); intro t' h' tk F' N'; try dsimp only))
local macro_rules | `(tactic| walk_at "ifs") => `(tactic| (repeat (first | (with_reducible rfl) | rw [if_pos (by first | assumption | omega)] | rw [if_neg (by first | assumption | omega | (rw [Bool.not_eq_true]; assumption))])))
local macro_rules | `(tactic| walk_at "call ref") => `(tactic| (k_here; k_dflt (refine con_str (dirnameC _ _ _ _ _ _ ?_) (by k_asm) (by k_asm) (by k_asm) (by k_asm) (by k_asm) rfl trivial (by omega) (by omega) ?_); rotate_left; (intro t' h' tk F' N'; try dsimp only); rotate_left; (walk_at "sz")))
local macro_rules | `(tactic| walk_at "call ref") => `(tactic| (k_here; k_dflt (refine con_str (joinC _ _ _ _ _ _ _ _ ?_ ?_) (by k_asm) (by k_asm) (by k_asm) (by k_asm) (by k_asm) rfl trivial (by omega) (by omega) ?_); rotate_left; rotate_left; (intro t' h' tk F' N'; try dsimp only); rotate_left; (walk_at "sz"); (walk_at "sz")))
local macro_rules | `(tactic| walk_at "call ref") => `(tactic| (k_here; k_dflt (refine con_obj (splitC _ _ _ _ _ _ ?_) (by k_asm) (by k_asm) (by k_asm) (by k_asm) (by k_asm) rfl trivial (by omega) (by omega) ?_); rotate_left; (intro q' o' h' tk F' N' l1 hp'; (obtain ⟨t1', t2', hp1⟩ := hp'); subst hp1; (replace l1 := allNe_of l1; simp only [AllNe, and_true] at l1); try dsimp only); rotate_left; (walk_at "sz")))
local macro_rules | `(tactic| walk_at "call ref") => `(tactic| (k_here; k_dflt (refine con_obj (splitrootC _ _ _ _ _ _ ?_) (by k_asm) (by k_asm) (by k_asm) (by k_asm) (by k_asm) rfl trivial (by omega) (by omega) ?_); rotate_left; (intro q' o' h' tk F' N' l1 hp'; (obtain ⟨t1', t2', t3', hp1⟩ := hp'); subst hp1; (replace l1 := allNe_of l1; simp only [AllNe, and_true] at l1); try dsimp only); rotate_left; (walk_at "sz")))
local macro_rules | `(tactic| walk_at "sz") => `(tactic| first | assumption | omega | exact Nat.le_of_ble_eq_true rfl | fail "sz")
local macro_rules | `(tactic| walk_at "exec For Name Name cons nil") => `(tactic| (k_here; (rename Fr _ _ _ _ => lF'); (with_unfolding_all refine' For_invVF lF' ?k1 ?k2 ?_; (case k1 => exact rfl); (case k2 => exact rfl); k_whole)))
local macro_rules | `(tactic| walk_at "exec For Name Call cons nil") => `(tactic| (k_here; (rename Fr _ _ _ _ => lF'); (with_unfolding_all refine' For_invVF lF' ?k1 ?k2 ?_; (case k1 => exact rfl); (case k2 => exact rfl); k_whole)))
local macro_rules | `(tactic| walk_at "exec For Name Subscript cons nil") => `(tactic| (k_here; (rename Fr _ _ _ _ => lF'); (with_unfolding_all refine' For_invVF lF' ?k1 ?k2 ?_; (case k1 => exact rfl); (case k2 => exact rfl); k_whole)))
local macro_rules | `(tactic| walk_at "exec While Compare cons nil") => `(tactic| (k_here; refine stop_intro ?_))
local macro_rules | `(tactic| walk_at "pyIter ref") => `(tactic| ((with_reducible show wpAny _ _ (pyIter (Value.ref _)) (fun it s₂ => LoopAtV _ _ _ _ _ _ _ _ _ it s₂) _ _); refine stop_intro ?_))
local macro_rules | `(tactic| walk_at "pyIter str") => `(tactic| ((with_reducible show wpAny _ _ (pyIter (Value.str _ _)) (fun it s₂ => LoopAtV _ _ _ _ _ _ _ _ _ it s₂) _ _); refine stop_intro ?_))
local macro_rules | `(tactic| walk_at "off") => `(tactic| (intro y h1 h2; (try dsimp only); (repeat (first | exact mp_out h1 h2 | refine (if_neg (by first | exact h1.1 | exact h1.2.1 | exact h1.2.2.1 | exact h1.2.2.2.1 | exact h1.2.2.2.2.1 | exact h1.2.2.2.2.2.1 | exact h1.2.2.2.2.2.2.1 | exact h2.1 | exact h2.2.1 | exact h2.2.2.1 | exact h2.2.2.2.1 | exact h2.2.2.2.2.1 | exact h2.2.2.2.2.2.1 | exact h2.2.2.2.2.2.2.1)).trans ?_ | refine (mp_out (by repeat (first | exact trivial | refine ⟨(by first | exact h1.1 | exact h1.2.1 | exact h1.2.2.1 | exact h1.2.2.2.1 | exact h1.2.2.2.2.1 | exact h1.2.2.2.2.2.1 | exact h1.2.2.2.2.2.2.1 | exact h2.1 | exact h2.2.1 | exact h2.2.2.1 | exact h2.2.2.2.1 | exact h2.2.2.2.2.1 | exact h2.2.2.2.2.2.1 | exact h2.2.2.2.2.2.2.1), ?_⟩)) (by repeat (first | exact trivial | refine ⟨(by first | exact h1.1 | exact h1.2.1 | exact h1.2.2.1 | exact h1.2.2.2.1 | exact h1.2.2.2.2.1 | exact h1.2.2.2.2.2.1 | exact h1.2.2.2.2.2.2.1 | exact h2.1 | exact h2.2.1 | exact h2.2.2.1 | exact h2.2.2.2.1 | exact h2.2.2.2.2.1 | exact h2.2.2.2.2.2.1 | exact h2.2.2.2.2.2.2.1), ?_⟩))).trans ?_))))
local macro_rules | `(tactic| walk_at "allin") => `(tactic| ((try dsimp only); (repeat (first | exact List.forall_mem_nil _ | (refine List.forall_mem_cons.mpr ⟨by k_mem, ?_⟩)))))
local macro_rules | `(tactic| walk_at "allne") => `(tactic| ((try dsimp only); (repeat (first | exact List.forall_mem_nil _ | (refine List.forall_mem_cons.mpr ⟨by k_ne, ?_⟩)))))
local macro_rules | `(tactic| walk_at "holds") => `(tactic| (repeat' (first | exact trivial | (with_unfolding_all rfl) | refine And.intro ?_ ?_)))
local macro_rules | `(tactic| walk_at "turn") => `(tactic| ((· walk_at "off"); (· walk_at "allin"); (· k_mem); (· walk_at "allne")))
local macro_rules | `(tactic| walk_at "turnW") => `(tactic| ((· walk_at "off"); (· walk_at "allin")))
local macro_rules | `(tactic| walk_at "callWith builtin:list.append") => `(tactic| (k_here; refine callWith_method1 ?_))
local macro_rules | `(tactic| walk_at "call builtin:str.rfind") => `(tactic| (k_here; (with_reducible show wpAny _ _ (call _ [_, _, _]) _ _ _); refine rfindK ?_))
local macro_rules | `(tactic| walk_at "call builtin:list.insert") => `(tactic| (k_here; (with_reducible show wpAny _ _ (call (Value.builtin _) [Value.ref _, Value.int _ _, _]) _ _ _); k_dflt (refine' kl_insert ?F ?N ?f (ins0 _ _) ?U ?z ?_; (case F => k_asm); (case N => k_asm); (case U => k_upd); (case f => rfl); (case z => (rw [PySem.sizeLine_eq]; simp only [Array.length_toList]; omega)); k_whole); intro h' F' N'))
local macro_rules | `(tactic| walk_at "subscriptTail Name UnaryOp ref int") => `(tactic| (k_here; (with_reducible show wpAny _ _ (subscriptTail _ _ (Value.ref _) (Value.int (-1) _)) _ _ _); (rename StrsAre _ _ => hs9); (refine itemNeg (News.isList (by k_asm) (by k_mem)) hs9 (by omega) (by omega) ?_); intro t9))
local macro_rules | `(tactic| walk_at "setItem ref int str") => `(tactic| (k_here; (with_reducible show wpAny _ _ (setItem (Value.ref _) (Value.int _ _) (Value.str _ _)) _ _ _); k_dflt (refine' setAt ?k1 ?k2 ?k3 ?k5 ?k6 ?k7 ?_; (case k1 => k_asm); (case k2 => k_asm); (case k3 => k_upd); (case k5 => omega); (case k6 => omega); (case k7 => omega); k_whole); intro h' F' N'))
local macro_rules | `(tactic| walk_at "setItem ref int str") => `(tactic| (k_here; (with_reducible show wpAny _ _ (setItem (Value.ref _) (Value.int (-1) _) (Value.str _ _)) _ _ _); k_dflt (refine' setBack ?k1 ?k2 ?k3 ?k5 ?k6 ?k7 ?_; (case k1 => k_asm); (case k2 => k_asm); (case k3 => k_upd); (case k5 => decide); (case k6 => omega); (case k7 => decide); k_whole); intro h' F' N'))
section
open PySem PySem.W PyProof.Rows PySem.Calls PySem.Spec
set_option maxRecDepth 100000
set_option maxHeartbeats 8000000
set_option linter.all false
def takeStep (x : Str) (o : Option Int) (p : Str) : Option Int := match o with
  | none => none
  | some here => if Txt.find3 x p here < 0 then none else some (Txt.find3 x p here + p.length)
def takenF (p0 : Str) (mids : List Str) (pl : Str) (x : Str) : Str :=
  if (Txt.slice x none (some p0.length) != p0) = true then (Str.ofString "") else
  match mids.foldl (takeStep x) (some p0.length) with
  | none => (Str.ofString "")
  | some here => if rfind3 x pl here < 0 then (Str.ofString "") else Txt.slice x none (some (rfind3 x pl here + pl.length))
theorem pick_mid (its : Array Value) (h : 2 ≤ its.size) : slicePick its (some 1) (some (-1)) none = ((its.toList.drop 1).take (its.size - 2)).toArray := by
  rw [slicePick_plain]
  have e1 : clipAt its.size 1 = 1 := by rw [show (1 : Int) = ((1 : Nat) : Int) from rfl, clipAt_nat]; omega
  have e2 : clipAt its.size (-1) = its.size - 1 := clipAt_neg its.size 1 (Nat.le_refl _)
  simp only [Option.elim, e1, e2]
  rw [show its.size - 1 - 1 = its.size - 2 by omega]
theorem strs_mid {vs : List Value} {p0 pl : Str} {mids : List Str} (hs : StrsAre vs (p0 :: (mids ++ [pl]))) : StrsAre (slicePick vs.toArray (some 1) (some (-1)) none).toList mids := by
  have hl := hs.length
  simp only [List.length_cons, List.length_append, List.length_nil] at hl
  rw [pick_mid _ (by simp; omega)]
  have h1 := (hs.drop' 1).take' (vs.toArray.size - 2)
  have e : vs.toArray.size - 2 = mids.length := by simp; omega
  rw [e] at h1 ⊢
  simpa using h1
theorem fold_none (x : Str) : ∀ l : List Str, l.foldl (takeStep x) none = none
  | [] => rfl
  | _ :: r => fold_none x r
theorem fold_take {x : Str} {mids : List Str} {i : Nat} {y : Str} {o : Option Int} (hy : mids[i]? = some y) : (mids.take (i + 1)).foldl (takeStep x) o = takeStep x ((mids.take i).foldl (takeStep x) o) y := by
  rw [List.take_add_one, hy]; simp
theorem fold_stop {x : Str} {mids : List Str} {i : Nat} {y : Str} {o : Option Int} (hy : mids[i]? = some y) (h : takeStep x ((mids.take i).foldl (takeStep x) o) y = none) : mids.foldl (takeStep x) o = none := by
  rw [← fold_take hy] at h
  have e : mids = mids.take (i + 1) ++ mids.drop (i + 1) := (List.take_append_drop _ _).symm
  rw [e, List.foldl_append, h, fold_none]
theorem takenC (w : World) (mean : ExcName → Option Value) (mg mb : Str → Option Value) (a : Addr) (vs : List Value) (p0 : Str) (mids : List Str) (pl : Str) (x : Str) (t : Tok) (hx : x.length ≤ 1000) (hs : StrsAre vs (p0 :: (mids ++ [pl]))) (hl : mids.length ≤ 100) (hb : ∀ y ∈ (p0 :: (mids ++ [pl])), y.length ≤ 1000) :
    Con w mean mg mb 223 1 [.ref a, .str x t] (fun h => h.IsList a vs.toArray) (RStr (takenF p0 mids pl x)) := by
  have hfst : ((p0 :: (mids ++ [pl])).getD (Int.toNat 0) Str.empty).length ≤ 1000 := hb p0 (.head _)
  have hmidsF : True → StrsAre (slicePick vs.toArray (some 1) (some (-1)) none).toList mids := fun _ => strs_mid hs
  have hlen : (p0 :: (mids ++ [pl])).length = mids.length + 2 := by simp
  have h99 : (p0 :: (mids ++ [pl])).getD (-1 + ((p0 :: (mids ++ [pl])).length : Int)).toNat Str.empty = pl := by
    rw [show (-1 + ((p0 :: (mids ++ [pl])).length : Int)).toNat = mids.length + 1 by simp; omega]
    simp [List.getD_eq_getElem?_getD]
  have hlst : ((p0 :: (mids ++ [pl])).getD (-1 + ((p0 :: (mids ++ [pl])).length : Int)).toNat Str.empty).length ≤ 1000 := by rw [h99]; exact hb pl (by simp)
  have h00 : (p0 :: (mids ++ [pl])).getD (Int.toNat 0) Str.empty = p0 := rfl
  have hfill := fill
  refine con_of (binds := [(Str.ofString "parts", .ref a), (Str.ofString "text", .str x t)]) (by with_unfolding_all rfl) (by with_unfolding_all rfl) (fun s => BindsTo.of_eq rfl) (locs rfl) (by decide) ?_
  revert hfill
  w_on
  k_fill
  intro hfill dp un gd outer A₀ base h₁ s B F X N T hpre hdp hun
  k_steps
  · exact End.mk' (by assumption) (strEq (by unfold takenF; rw [if_pos (by assumption)]))
  · (rename Fr _ _ _ _ => F1); (rename News _ _ _ _ => N1)
    refine Stop.mk ?_
    refine iter_listS [(Str.ofString "here")] (fun st : Int × Tok => [.int st.1 st.2]) [(Str.ofString "part"), (Str.ofString "found")] (fun _ => [(_, { cls := .type "list", data := .seq (slicePick vs.toArray (some 1) (some (-1)) none) })])
      (fun i st => 0 ≤ st.1 ∧ st.1 ≤ 2000 ∧ (mids.take i).foldl (takeStep x) (some (p0.length : Int)) = some st.1) (_, _) (fun _ => rfl) rfl F1 N1 (vs := (slicePick vs.toArray (some 1) (some (-1)) none).toList) (News.isList N1 (.head _)) (Ne.symm (N1 _ (.head _)).2.1.symm) (.inr ⟨_, fun _ => .head _⟩) ⟨by with_unfolding_all rfl, trivial⟩ (by walk_at "allin") ?_ ?_ ?_
    · refine ⟨by show (0 : Int) ≤ (_ : Nat); omega, ?_, rfl⟩
      have := hb p0 (.head _)
      show ((p0.length : Nat) : Int) ≤ 2000
      omega
    · rintro i v ⟨here, th⟩ u h tk oI hv ⟨hi0, hi1, hinv⟩ hI F2 N2
      obtain ⟨y, ty, rfl, hy⟩ := strsAt (hmidsF trivial) hv
      have hyb : y.length ≤ 1000 := hb y (.tail _ (List.mem_append_left _ (List.mem_of_getElem? hy)))
      have hf1 := find3_lt x y here
      replace hI := allNe_of hI; simp only [AllNe, and_true] at hI
      dsimp only [List.nil_append, List.cons_append] at F2 N2; have hlt2 := news_lt N2; simp only [AllLt, and_true] at hlt2
      dsimp only at hi0 hi1 hinv
      k_steps
      · show End s (RStr _ s.heap) _ _
        refine End.mk' (by assumption) (strEq ?_)
        unfold takenF
        rw [if_neg (by rw [Bool.not_eq_true]; assumption), fold_stop hy (by rw [hinv]; unfold takeStep; dsimp only; rw [if_pos (by assumption)])]
      · (rename Fr _ _ _ _ => Fz); (rename News _ _ _ _ => Nz)
        with_unfolding_all refine TurnS.mk' Fz Nz (_, _) ⟨rfl, trivial⟩ ?_ (mem1 (.head _)) ?_ ?_ ?_
        · walk_at "off"
        · k_mem
        · walk_at "allne"
        · refine ⟨?_, ?_, ?_⟩
          · show (0 : Int) ≤ Txt.find3 x y here + y.length
            omega
          · show Txt.find3 x y here + (y.length : Int) ≤ 2000
            omega
          · rw [fold_take hy, hinv]; unfold takeStep; dsimp only; rw [if_neg (by assumption)]
    · rintro ⟨here, th⟩ u h tk ⟨hi0, hi1, hinv⟩ F2 N2
      have hll := (hmidsF trivial).length
      dsimp only [List.nil_append, List.cons_append] at F2 N2; have hlt2 := news_lt N2; simp only [AllLt, and_true] at hlt2
      dsimp only at hi0 hi1 hinv
      rw [hll, List.take_length] at hinv
      have hr1 := rfind3_lt x ((p0 :: (mids ++ [pl])).getD (-1 + ((p0 :: (mids ++ [pl])).length : Int)).toNat Str.empty) here
      k_steps
      all_goals rw [h99] at *
      all_goals refine End.mk' (by assumption) (strEq ?_)
      all_goals (unfold takenF; rw [if_neg (by rw [Bool.not_eq_true]; assumption), hinv]; dsimp only)
      · rw [if_pos (by assumption)]
      · rw [if_neg (by assumption)]
end
section
open PySem PySem.W PyProof.Rows PySem.Calls PySem.Spec
set_option maxRecDepth 100000
set_option maxHeartbeats 8000000
set_option linter.all false
abbrev star : Str := (Str.ofString "*")
def fitsF (p : Str) (ns : List Str) : Bool :=
  if ((Txt.partition p (Str.ofString "*")).2.1 == (Str.ofString "")) = true then decide (ns = [p])
  else if ns.length = 1 ∧ (ns.getD (Int.toNat 0) Str.empty).length < (Txt.partition p (Str.ofString "*")).1.length + (Txt.partition p (Str.ofString "*")).2.2.length then false
  else if Txt.startswith (ns.getD (Int.toNat 0) Str.empty) (Txt.partition p (Str.ofString "*")).1 = true then Txt.endswith (ns.getD (-1 + (ns.length : Int)).toNat Str.empty) (Txt.partition p (Str.ofString "*")).2.2 else false
theorem getD_mem {xs : List Str} {i : Nat} (h : i < xs.length) : xs.getD i Str.empty ∈ xs := by
  rw [List.getD_eq_getElem?_getD, List.getElem?_eq_getElem h]; simp
theorem fitsC (w : World) (mean : ExcName → Option Value) (mg mb : Str → Option Value) (x : Str) (t : Tok) (a : Addr) (vs : List Value) (xs : List Str) (hx : x.length ≤ 1000) (hs : StrsAre vs xs) (hl : xs.length ≤ 100) (hpos : 0 < xs.length) (hb : ∀ y ∈ xs, y.length ≤ 1000) (hok : Oks xs) (hox : PyData.strOk x = true) :
    Con w mean mg mb 230 10 [.str x t, .ref a] (fun h => h.IsList a vs.toArray) (RBool (fitsF x xs)) := by
  have hfst := hb (xs.getD (Int.toNat 0) Str.empty) (getD_mem (by simpa using hpos))
  have hsF : True → StrsAre vs xs := fun _ => hs
  have hp1 := part_fst x (Str.ofString "*")
  have hp2 := part_snd x (Str.ofString "*")
  have hfill := fill
  refine con_of (binds := [(Str.ofString "piece", .str x t), (Str.ofString "names", .ref a)]) (by with_unfolding_all rfl) (by with_unfolding_all rfl) (fun s => BindsTo.of_eq rfl) (locs rfl) (by decide) ?_
  revert hfill
  w_on
  k_fill
  intro hfill dp un gd outer A₀ base h₁ s B F X N T hpre hdp hun
  k_steps
  · (rename Fr _ _ _ _ => Fz); (rename News _ _ _ _ => Nz)
    refine eqStrs (isList_fr hpre Fz) (hsF trivial) (News.isList Nz (.head _)) (.cons _ _ .nil) (by show un + 64 < cLine; omega) hok (fun y hy => by rw [List.mem_singleton.mp hy]; exact hox) ?_
    k_steps
    exact End.mk' (by assumption) (congrArg Value.bool (by unfold fitsF; rw [if_pos (by assumption)]))
  all_goals refine End.mk' (by assumption) (congrArg Value.bool (Eq.symm ?_))
  all_goals (unfold fitsF; rw [if_neg (by rw [Bool.not_eq_true]; assumption)])
  · rw [if_pos ⟨by omega, by omega⟩]
  all_goals rw [if_neg (by omega)]
  all_goals (first | (rw [if_pos (by assumption)]; done) | (rw [if_neg (by rw [Bool.not_eq_true]; assumption)]; symm; assumption))
end
section
open PySem PySem.W PyProof.Rows PySem.Calls PySem.Spec
set_option maxRecDepth 100000
set_option maxHeartbeats 8000000
set_option linter.all false
def stepJ (p : Str) (ns : List Str) (k : Nat) (fur : List Nat) (j : Nat) : List Nat := if j ∉ fur ∧ fitsF p ((ns.drop k).take (j - k)) = true then fur ++ [j] else fur
def loopJ (p : Str) (ns : List Str) (fur : List Nat) (k : Nat) : List Nat := (List.range (ns.length - k)).foldl (fun f i => stepJ p ns k f (k + 1 + i)) fur
def loopK (ns : List Str) (hd : List Nat) (p : Str) : List Nat := hd.foldl (loopJ p ns) []
def headsF (ps ns : List Str) : List Nat := ps.foldl (loopK ns) [0]
def Hd (n : Nat) (l : List Nat) : Prop := l.Nodup ∧ ∀ k ∈ l, k ≤ n
abbrev toI (l : List Nat) : List Int := l.map (fun k : Nat => (k : Int))
theorem nodup_bound : ∀ (n : Nat) (l : List Nat), l.Nodup → (∀ x ∈ l, x < n) → l.length ≤ n
  | 0, l, _, h => by
    cases l with
    | nil => exact Nat.le_refl _
    | cons a r => exact absurd (h a (.head _)) (Nat.not_lt_zero _)
  | n + 1, l, hn, h => by
    have h1 := nodup_bound n (l.erase n) (hn.erase n) (fun x hx => by
      have hx2 := (List.Nodup.mem_erase_iff hn).mp hx
      have := h x hx2.2
      have := hx2.1
      omega)
    have h2 := @List.length_erase _ _ _ n l
    split at h2 <;> omega
theorem Hd.len {n : Nat} {l : List Nat} (h : Hd n l) : l.length ≤ n + 1 := nodup_bound (n + 1) l h.1 (fun x hx => Nat.lt_succ_of_le (h.2 x hx))
theorem Hd.snoc {n j : Nat} {l : List Nat} (h : Hd n l) (hj : j ≤ n) (hm : j ∉ l) : Hd n (l ++ [j]) := by
  refine ⟨List.nodup_append.mpr ⟨h.1, by simp, ?_⟩, ?_⟩
  · intro a ha b hb e
    rw [List.mem_singleton.mp hb] at e
    exact hm (e ▸ ha)
  · intro k hk
    rcases List.mem_append.mp hk with h1 | h1
    · exact h.2 k h1
    · rw [List.mem_singleton.mp h1]; exact hj
theorem pick_run (its : Array Value) (a b : Nat) (h : a ≤ b) (hb : b ≤ its.size) : slicePick its (some (a : Int)) (some (b : Int)) none = ((its.toList.drop a).take (b - a)).toArray := slicePick_run its a b hb h
theorem strs_slice {us : List Value} {ns : List Str} {k i : Nat} (h : StrsAre us ns) (hb : k + 1 + i ≤ ns.length) : StrsAre (slicePick us.toArray (some (k : Int)) (some ((k : Int) + 1 + (i : Int))) none).toList ((ns.drop k).take (k + 1 + i - k)) := by
  have e : ((k : Int) + 1 + (i : Int)) = ((k + 1 + i : Nat) : Int) := by omega
  rw [e, pick_run _ _ _ (by omega) (by have := h.length; simp; omega)]
  exact (h.drop' k).take' _
theorem any_toI {l : List Nat} {z : Int} {j : Nat} (e : z = (j : Int)) : ((toI l).any fun x => x == z) = true ↔ j ∈ l := by
  subst e
  simp only [toI, List.any_map, List.any_eq_true, Function.comp_apply, beq_iff_eq]
  exact ⟨fun ⟨x, hx, e⟩ => by have : x = j := by omega
                              exact this ▸ hx, fun h => ⟨j, h, rfl⟩⟩
theorem toI_push {its : Array Value} {l : List Nat} {z : Int} {j : Nat} {t : Tok} (e : z = (j : Int)) (h : IntsAre its.toList (toI l)) : IntsAre (its.push (.int z t)).toList (toI (l ++ [j])) := by
  subst e
  rw [Array.toList_push]
  simp only [toI, List.map_append, List.map_cons, List.map_nil]
  exact h.append (.cons _ _ .nil)
theorem intsAt {vs : List Value} {l : List Nat} (h : IntsAre vs (toI l)) {i : Nat} {v : Value} (hv : vs[i]? = some v) : ∃ (k : Nat) (t : Tok), v = .int k t ∧ l[i]? = some k := by
  obtain ⟨n, t, rfl, hn⟩ := h.at i v hv
  simp only [toI, List.getElem?_map, Option.map_eq_some_iff] at hn
  obtain ⟨k, hk, rfl⟩ := hn
  exact ⟨k, t, rfl, hk⟩
theorem headsC (w : World) (mean : ExcName → Option Value) (mg mb : Str → Option Value) (a : Addr) (vs : List Value) (ps : List Str) (b : Addr) (us : List Value) (ns : List Str) (hs : StrsAre vs ps) (hr : StrsAre us ns) (hl : ps.length ≤ 100) (hn : ns.length ≤ 100) (hb : ∀ y ∈ ps, y.length ≤ 1000) (hc : ∀ y ∈ ns, y.length ≤ 1000) (hok : Oks ps) (hok' : Oks ns) :
    Con w mean mg mb 237 12 [.ref a, .ref b] (fun h => h.IsList a vs.toArray ∧ h.IsList b us.toArray) (RInts (toI (headsF ps ns))) := by
  have hsF : True → StrsAre vs ps := fun _ => hs
  have hrF : True → StrsAre us ns := fun _ => hr
  have hfill := fill
  refine con_of (binds := [(Str.ofString "pieces", .ref a), (Str.ofString "names", .ref b)]) (by with_unfolding_all rfl) (by with_unfolding_all rfl) (fun s => BindsTo.of_eq rfl) (locs rfl) (by decide) ?_
  revert hfill
  w_on
  k_fill
  intro hfill dp un gd outer A₀ base h₁ s B F X N T hpre hdp hun
  k_steps
  obtain ⟨hpa, hpb⟩ := hpre
  (rename Fr _ _ _ _ => F1); (rename News _ _ _ _ => N1)
  refine Stop.mk ?_
  refine iter_listS [(Str.ofString "heads")] (fun st : Addr × Array Value × Nat => [.ref st.1]) [(Str.ofString "piece"), (Str.ofString "further"), (Str.ofString "k"), (Str.ofString "j")] (fun st => [(st.1, W.listOf st.2.1 st.2.2)]) (fun i st => ∃ hd, hd = (ps.take i).foldl (loopK ns) [0] ∧ IntsAre st.2.1.toList (toI hd) ∧ Hd ns.length hd) (_, _, _) (fun _ => rfl) rfl F1 N1 (isList_fr hpa F1) (isList_ne hpa) (.inl (isList_get hpa)) ⟨by with_unfolding_all rfl, trivial⟩ (mem1 (.head _)) ⟨[0], rfl, .cons _ _ .nil, by simp, by simp⟩ ?_ ?_
  · rintro i v ⟨ha, hits, hnn⟩ u h tk oI hv ⟨hd, hhd, hints, hHd⟩ hI F2 N2
    obtain ⟨x, tx, rfl, hx⟩ := strsAt (hsF trivial) hv
    have hxb := hb x (List.mem_of_getElem? hx)
    have hxo := hok x (List.mem_of_getElem? hx)
    have hlb := hHd.len
    replace hI := allNe_of hI; simp only [AllNe, and_true] at hI
    dsimp only [List.nil_append, List.cons_append] at F2 N2; have hlt2 := news_lt N2; simp only [AllLt, and_true] at hlt2
    dsimp only at hints hI
    k_steps
    (rename Fr _ _ _ _ => F3); (rename News _ _ _ _ => N3)
    refine Stop.mk ?_
    have hstep : (ps.take (i + 1)).foldl (loopK ns) [0] = loopK ns hd x := by rw [List.take_add_one, hx, hhd]; simp
    refine iter_listS [] (fun _ : Array Value × Nat => []) [(Str.ofString "k"), (Str.ofString "j")] (fun st => [(_, W.listOf st.1 st.2), (_, W.listOf hits hnn), (_, oI)]) (fun i st => ∃ fur, fur = (hd.take i).foldl (loopJ x ns) [] ∧ IntsAre st.1.toList (toI fur) ∧ Hd ns.length fur) (_, _) (fun _ => rfl) rfl F3 N3 (vs := hits.toList) (News.isList N3 (.tail _ (.head _))) (N3 _ (.tail _ (.head _))).2.1 (.inr ⟨_, fun _ => .tail _ (.head _)⟩) trivial (mem3 (.head _) (.tail _ (.head _)) (.tail _ (.tail _ (.head _)))) ⟨[], rfl, .nil, by simp [Hd]⟩ ?_ ?_
    · rintro ik vk ⟨fits, fnn⟩ u2 h2 tk2 oI2 hvk ⟨fur, hfur, hfints, hHf⟩ hI2 F2 N2
      obtain ⟨k, tk', rfl, hk⟩ := intsAt hints hvk
      have hkn : k ≤ ns.length := hHd.2 k (List.mem_of_getElem? hk)
      have hlf := hHf.len
      replace hI2 := allNe_of hI2; simp only [AllNe, and_true] at hI2
      dsimp only [List.nil_append, List.cons_append] at F2 N2; have hlt2 := news_lt N2; simp only [AllLt, and_true] at hlt2
      dsimp only at hfints hI2
      k_steps
      (rename Fr _ _ _ _ => F5); (rename News _ _ _ _ => N5)
      refine Stop.mk ?_
      have hstep2 : (hd.take (ik + 1)).foldl (loopJ x ns) [] = loopJ x ns fur k := by rw [List.take_add_one, hk, hfur]; simp
      refine iter_rangeS (n := ns.length - k) [] (fun _ : Array Value × Nat => []) [(Str.ofString "j")] (fun st => [(_, W.listOf st.1 st.2), (_, W.listOf hits hnn), (_, oI), (_, oI2)]) (fun i st => ∃ fur', fur' = (List.range i).foldl (fun f i => stepJ x ns k f (k + 1 + i)) fur ∧ IntsAre st.1.toList (toI fur') ∧ Hd ns.length fur') (_, _) (fun _ => rfl) rfl F5 N5 (by assumption) (small_one (by omega) (by omega) (by omega) (by omega)) (by rw [rangeSize_nat]; omega) trivial (mem4 (.head _) (.tail _ (.head _)) (.tail _ (.tail _ (.head _))) (.tail _ (.tail _ (.tail _ (.head _))))) ⟨fur, rfl, hfints, hHf⟩ ?_ ?_
      · rintro ij tj ⟨jits, jnn⟩ u3 h3 tk3 oI3 hij ⟨fj, hfj, hjints, hHj⟩ hI3 F2 N2
        have hlj := hHj.len
        have hze : ((k : Int) + 1 + (ij : Int)) = ((k + 1 + ij : Nat) : Int) := by omega
        have hstep3 : (List.range (ij + 1)).foldl (fun f i => stepJ x ns k f (k + 1 + i)) fur = stepJ x ns k fj (k + 1 + ij) := by rw [List.range_succ, List.foldl_append, hfj]; rfl
        have hslice : StrsAre (slicePick us.toArray (some (k : Int)) (some ((k : Int) + 1 + (ij : Int))) none).toList ((ns.drop k).take (k + 1 + ij - k)) := strs_slice (hrF trivial) (by omega)
        replace hI3 := allNe_of hI3; simp only [AllNe, and_true] at hI3
        dsimp only [List.nil_append, List.cons_append] at F2 N2; have hlt2 := news_lt N2; simp only [AllLt, and_true] at hlt2
        dsimp only at hjints hI3
        k_steps
        · (rename Fr _ _ _ _ => Fz); (rename News _ _ _ _ => Nz)
          have hmem : k + 1 + ij ∈ fj := (any_toI hze).mp ‹((toI fj).any _) = true›
          with_unfolding_all refine TurnS.mk' Fz Nz (_, _) trivial ?_ (mem4 (.head _) (.tail _ (.head _)) (.tail _ (.tail _ (.head _))) (.tail _ (.tail _ (.tail _ (.head _))))) ?_ ?_ ?_
          · walk_at "off"
          · k_mem
          · walk_at "allne"
          · exact ⟨fj, by rw [hstep3, stepJ, if_neg (fun h => h.1 hmem)], hjints, hHj⟩
        · (rename Fr _ _ _ _ => Fz); (rename News _ _ _ _ => Nz)
          have hmem : k + 1 + ij ∉ fj := fun hm => by
            have h1 := (any_toI hze).mpr hm
            rw [‹((toI fj).any _) = false›] at h1; cases h1
          refine con_bool (fitsC _ _ _ _ x tx _ (slicePick us.toArray (some (k : Int)) (some ((k : Int) + 1 + (ij : Int))) none).toList ((ns.drop k).take (k + 1 + ij - k)) hxb hslice (by simp; omega) (by simp; omega) (fun y hy => hc y (List.mem_of_mem_drop (List.mem_of_mem_take hy))) (fun y hy => hok' y (List.mem_of_mem_drop (List.mem_of_mem_take hy))) hxo) B Fz X Nz T rfl (News.isList Nz (.head _)) (by omega) (by omega) ?_
          intro h' tk' F' N'
          k_steps
          · (rename Fr _ _ _ _ => Fz); (rename News _ _ _ _ => Nz)
            with_unfolding_all refine TurnS.mk' Fz Nz (_, _) trivial ?_ (mem4 (.tail _ (.head _)) (.tail _ (.tail _ (.head _))) (.tail _ (.tail _ (.tail _ (.head _)))) (.tail _ (.tail _ (.tail _ (.tail _ (.head _)))))) ?_ ?_ ?_
            · walk_at "off"
            · k_mem
            · walk_at "allne"
            · exact ⟨fj ++ [k + 1 + ij], by rw [hstep3, stepJ, if_pos ⟨hmem, by assumption⟩], toI_push hze hjints, hHj.snoc (by omega) hmem⟩
          · (rename Fr _ _ _ _ => Fz); (rename News _ _ _ _ => Nz)
            with_unfolding_all refine TurnS.mk' Fz Nz (_, _) trivial ?_ (mem4 (.tail _ (.head _)) (.tail _ (.tail _ (.head _))) (.tail _ (.tail _ (.tail _ (.head _)))) (.tail _ (.tail _ (.tail _ (.tail _ (.head _)))))) ?_ ?_ ?_
            · walk_at "off"
            · k_mem
            · walk_at "allne"
            · exact ⟨fj, by rw [hstep3, stepJ, if_neg (fun h => absurd h.2 (by rw [‹fitsF _ _ = false›]; decide))], hjints, hHj⟩
      · rintro ⟨jits, jnn⟩ u3 h3 tk3 ⟨fj, hfj, hjints, hHj⟩ F2 N2
        dsimp only [List.nil_append, List.cons_append] at F2 N2; have hlt2 := news_lt N2; simp only [AllLt, and_true] at hlt2
        dsimp only at hjints
        k_steps
        (rename Fr _ _ _ _ => Fz); (rename News _ _ _ _ => Nz)
        with_unfolding_all refine TurnS.mk' Fz Nz (_, _) trivial ?_ (mem3 (.head _) (.tail _ (.head _)) (.tail _ (.tail _ (.head _)))) ?_ ?_ ?_
        · walk_at "off"
        · k_mem
        · walk_at "allne"
        · exact ⟨fj, by rw [hstep2, loopJ, hfj], hjints, hHj⟩
    · rintro ⟨fits, fnn⟩ u2 h2 tk2 ⟨fur, hfur, hfints, hHf⟩ F2 N2
      dsimp only [List.nil_append, List.cons_append] at F2 N2; have hlt2 := news_lt N2; simp only [AllLt, and_true] at hlt2
      dsimp only at hfints
      k_steps
      (rename Fr _ _ _ _ => Fz); (rename News _ _ _ _ => Nz)
      with_unfolding_all refine TurnS.mk' Fz Nz (_, _, _) ⟨rfl, trivial⟩ ?_ (mem1 (.head _)) ?_ ?_ ?_
      · walk_at "off"
      · k_mem
      · walk_at "allne"
      · refine ⟨fur, ?_, hfints, hHf⟩
        rw [hstep, loopK, hfur, (show hits.toList.length = hd.length by have := hints.length; simpa using this), List.take_length]
  · rintro ⟨ha, hits, hnn⟩ u h tk ⟨hd, hhd, hints, hHd⟩ F2 N2
    dsimp only [List.nil_append, List.cons_append] at F2 N2; have hlt2 := news_lt N2; simp only [AllLt, and_true] at hlt2
    dsimp only at hints
    rw [(hsF trivial).length, List.take_length] at hhd
    k_steps
    all_goals exact endObj (by k_asm) (by k_asm) (by k_mem) ⟨_, _, rfl, by rw [headsF, ← hhd]; exact hints⟩
end
section
open PySem PySem.W PyProof.Rows PySem.Calls PySem.Spec
set_option maxRecDepth 100000
set_option maxHeartbeats 8000000
set_option linter.all false
def iterD : Nat → Str → Str
  | 0, x => x
  | k + 1, x => dirnameF (iterD k x)
theorem aboveC (w : World) (mean : ExcName → Option Value) (mg mb : Str → Option Value) (x : Str) (t : Tok) (n : Nat) (tn : Tok) (hn : n ≤ 1000) (hx : ∀ i, (iterD i x).length ≤ 100000) :
    Con w mean mg mb 204 3 [.str x t, .int n tn] (fun _ => True) (RStr (iterD n x)) := by
  have hfill := fill
  refine con_of (binds := [(Str.ofString "place", .str x t), (Str.ofString "steps", .int n tn)]) (by with_unfolding_all rfl) (by with_unfolding_all rfl) (fun s => BindsTo.of_eq rfl) (locs rfl) (by decide) ?_
  revert hfill
  w_on
  k_fill
  intro hfill dp un gd outer A₀ base h₁ s B F X N T hpre hdp hun
  k_steps
  (rename Fr _ _ _ _ => F1); (rename News _ _ _ _ => N1)
  refine Stop.mk ?_
  refine iter_rangeS [(Str.ofString "place")] (fun st : Str × Tok => [.str st.1 st.2]) [(Str.ofString "step")] (fun _ => []) (fun i st => st.1 = iterD i x) (x, _) (fun _ => rfl) rfl F1 N1 (by assumption) (small_one (by omega) (by omega) (by omega) (by omega)) (rangeSize_nat _ _) ⟨by with_unfolding_all rfl, trivial⟩ (by simp) rfl ?_ ?_
  · rintro i ti ⟨p, tp⟩ u h tk oI hv rfl hI F2 N2
    have hpl := hx i
    have hv' : i < n := by have := hv; omega
    replace hI := allNe_of hI; simp only [AllNe, and_true] at hI
    dsimp only [List.nil_append, List.cons_append] at F2 N2; have hlt2 := news_lt N2; simp only [AllLt, and_true] at hlt2
    k_steps
    (rename Fr _ _ _ _ => Fz); (rename News _ _ _ _ => Nz)
    with_unfolding_all refine TurnS.mk' Fz Nz (dirnameF (iterD i x), _) ⟨rfl, trivial⟩ ?_ ?_ ?_ ?_ ?_
    walk_at "turn"
    rfl
  · rintro ⟨p, tp⟩ u h tk rfl F2 N2
    dsimp only [List.nil_append, List.cons_append] at F2 N2; have hlt2 := news_lt N2; simp only [AllLt, and_true] at hlt2
    k_steps
    all_goals exact End.mk' (by assumption) (strEq (by rw [show ((n : Int) - 0).toNat = n by omega]))
end
section
open PySem PySem.W PyProof.Rows PySem.Calls PySem.Spec
set_option maxRecDepth 100000
set_option maxHeartbeats 8000000
set_option linter.all false
local macro_rules | `(tactic| walk_at "getMethod str") => `(tactic| (k_here; with_reducible refine tr_method ?_))
theorem escapeC (w : World) (mean : ExcName → Option Value) (mg mb : Str → Option Value) (l : List Nat) (t : Tok) (hl : l.length ≤ 10000) :
    Con w mean mg mb 33 2 [.str (S l) t] (fun _ => True) (RStr (S (escL l))) := by
  have hfill := fill
  refine con_of (binds := [(Str.ofString "pattern", .str (S l) t)]) (by with_unfolding_all rfl) (by with_unfolding_all rfl) (fun s => BindsTo.of_eq rfl) (locs rfl) (by decide) ?_
  revert hfill
  w_on
  k_fill
  intro hfill dp un gd outer A₀ base h₁ s B F X N T hpre hdp hun
  k_steps
  (rename Fr _ _ _ _ => F1); (rename News _ _ _ _ => N1)
  refine trans_rule (d := 23) (map23 (X.keeps F1.keep)) (by decide) rfl (none23 _) (some23 _) (by omega) ?_
  intro h' t' k hst
  have F2 := frOf F1 hst
  have N2 := newsOf N1 hst
  dsimp only
  k_steps
  all_goals exact End.mk' (by assumption) (strEq rfl)
end
section
open PySem PySem.W PyProof.Rows PySem.Calls PySem.Spec
set_option maxRecDepth 100000
set_option maxHeartbeats 8000000
set_option linter.all false
section
variable {w : World} {mean : ExcName → Option Value} {mg mb : Str → Option Value}
  {dp un : Nat} {gd : Option (List Code)} {cn : Str} {cs : Scope} {a : Addr} {ccd : Value} {cl : List (Str × Addr)} {outer : List Env} {A₀ : Around} {base h₀ : Heap} {L : Addr} {mm : Str → Option Value}
theorem map_walks {I tup it l : Addr} {vs : List Value} {xs : List (List Nat)} (B : Below A₀ base outer h₀) (X : (hd.heap_39 w.params).In h₀) (T : TT mean mg mb h₀) (hcs : cs.kind = .function) (hs : StrsAre vs (xs.map S)) (hxl : ∀ x ∈ xs, x.length ≤ 10000)
    (hdp : dp + 2 < recursionLimit) (hun : un + 1 + 8 * 2 < cLine) (hL0 : h₀.objs.size ≤ L) (hitL : it ≠ L) (hit0 : h₀.get? it = none) (hIit : I ≠ it) (htit : tup ≠ it) (hlit : l ≠ it) :
    Walks PR w (ktrTop dp un gd cn cs L a ccd cl outer) I (List.range h₀.objs.size ++ [L, I, tup, it, l]) [it] xs.length (fun i v => ∃ x t, xs[i]? = some x ∧ v = .str (S (escL x)) t)
      (fun i h => h.get? I = some (mapO 33 tup) ∧ h.get? tup = some { cls := .type "tuple", data := .seq #[.ref it] } ∧ h.IsListIter it l i ∧ h.IsList l vs.toArray ∧ Fr h₀ L h mm) where
  sub := fun b hb => by
    rw [List.mem_singleton.mp hb]; simp
  frame := fun i h h' ⟨s1, s2, s3, s4, F⟩ hk => by
    refine ⟨hk I (by simp) _ s1, hk tup (by simp) _ s2, s3.at fun o e => hk it (by simp) o e, s4.at fun o e => hk l (by simp) o e, ⟨F.ns.at' fun o e => hk L (by simp) o e, fun b o e => ?_, F.above⟩⟩
    exact hk b (List.mem_append_left _ (List.mem_range.mpr (Heap.lt_size e))) o (F.keep b o e)
  item := fun i s Q E hi ⟨s1, s2, s3, s4, F⟩ hQ => by
    obtain ⟨t, ht⟩ := hs.at (j := i) (y := S (xs[i])) (by simp [hi])
    refine mp_next s1 s2 s3 s4 (x := .str (S xs[i]) t) (by simpa using ht) hIit fun h' hit' hsb => ?_
    have F' : Fr h₀ L h' mm := ⟨F.ns.at' fun o e => (hsb.2 L (Ne.symm hitL)).trans e, fun b o e => (hsb.2 b (fun q => by rw [q, hit0] at e; cases e)).trans (F.keep b o e), F.above⟩
    refine escapeC w mean mg mb xs[i] t (hxl _ (List.getElem_mem _)) dp (un + 1) gd cn cs a ccd cl outer A₀ base h₀ L mm { s with heap := h' } _ _ B F' X T hcs trivial hdp (by omega) (fun v h2 tk k ⟨t2, e⟩ => ?_)
    subst e
    refine hQ _ h2 tk ⟨xs[i], t2, by simp [hi], rfl⟩ ⟨k _ _ ((hsb.2 I hIit).trans s1), k _ _ ((hsb.2 tup htit).trans s2), hit'.at fun o e => k _ _ e, ?_, frOf F' k⟩ ?_
    · obtain ⟨o, ho, r⟩ := s4
      exact ⟨o, k _ _ ((hsb.2 l hlit).trans ho), r⟩
    · intro b o hb e
      exact k _ _ ((hsb.2 b (fun q => hb (List.mem_singleton.mpr q))).trans e)
  done := fun s Q E ⟨s1, s2, s3, s4, F⟩ hQ => by
    refine mp_end rfl s1 s2 s3 s4 (by have := hs.length; simp at this; simp [this]) fun h' he => ?_
    exact hQ h' s.toks fun b o hb e => he b o (fun q => hb (List.mem_singleton.mpr q)) e
  self := fun i s Q E ⟨s1, _⟩ hQ => mp_iter s1 hQ
theorem list_map {E : Value → Shared → Prop} {s : Shared} {news : List (Addr × Obj)} {I tup it l : Addr} {vs : List Value} {xs : List (List Nat)} {Q : Value → Shared → Prop} (B : Below A₀ base outer h₀) (X : (hd.heap_39 w.params).In h₀) (T : TT mean mg mb h₀) (hcs : cs.kind = .function) (F : Fr h₀ L s.heap mm) (N : News h₀ L s.heap news) (hs : StrsAre vs (xs.map S)) (hxl : ∀ x ∈ xs, x.length ≤ 10000) (hn : xs.length ≤ 10000)
    (g2 : s.heap.get? I = some (mapO 33 tup)) (g1 : s.heap.get? tup = some { cls := .type "tuple", data := .seq #[.ref it] }) (g0 : s.heap.get? it = some (itO l 0)) (hl : s.heap.IsList l vs.toArray) (hnit : ∀ p ∈ news, p.1 ≠ it)
    (hdp : dp + 2 < recursionLimit) (hun : un + 3 + 8 * 2 < cLine) (hitL : it ≠ L) (hit0 : h₀.get? it = none) (hIit : I ≠ it) (htit : tup ≠ it) (hlit : l ≠ it)
    (h : ∀ q its n h' tk, Fr h₀ L h' mm → News h₀ L h' ((q, W.listOf its n) :: news) → (∀ p ∈ news, p.1 < q) → StrsAre its.toList (xs.map fun x => S (escL x)) → Q (.ref q) { s with heap := h', toks := tk }) :
    wpAny (model PR w) (ktrTop dp un gd cn cs L a ccd cl outer) (call (.type "list") [.ref I]) Q E s := by
  have W := (map_walks (w := w) (mm := mm) (dp := dp) (un := un + 2) (gd := gd) (cn := cn) (cs := cs) (a := a) (ccd := ccd) (cl := cl) (outer := outer) (I := I) (tup := tup) (l := l) B X T hcs hs hxl hdp (by omega) F.above hitL hit0 hIit htit hlit).toS
  obtain ⟨oL, _, _, hL, _⟩ := F.ns
  have hLlt := Heap.lt_size hL
  refine mp_list (A := ktrTop dp un gd cn cs L a ccd cl outer) W (fun i s' st => ⟨_, st.1, rfl⟩) ⟨g2, g1, ⟨_, g0, rfl, rfl⟩, hl, F⟩ ?_ (by simp) ?_ (by rw [PySem.sizeLine_eq]; omega)
  · intro b hb
    rcases List.mem_append.mp hb with h1 | h1
    · exact Nat.lt_trans (Nat.lt_of_lt_of_le (List.mem_range.mp h1) F.above) hLlt
    · simp only [List.mem_cons, List.not_mem_nil, or_false] at h1
      rcases h1 with rfl | rfl | rfl | rfl | rfl
      · exact hLlt
      · exact Heap.lt_size g2
      · exact Heap.lt_size g1
      · exact Heap.lt_size g0
      · exact isList_lt hl
  · intro s' acc' c' hm hS' hacc
    have up : ∀ b o, b ≠ s.heap.objs.size → b ≠ it → s.heap.get? b = some o → s'.heap.get? b = some o := fun b o h1 h2 e => hm.heap b o (by simp [h1, h2]) (Heap.get?_push_of_some _ e)
    have es : s' = { s with heap := s'.heap, toks := s'.toks } := by
      obtain ⟨h1, g1', d1, t1, o1⟩ := s'
      have e1 := hm.gens; have e2 := hm.drawn; have e3 := hm.os
      simp only at e1 e2 e3
      subst e1 e2 e3; rfl
    rw [es]
    have F' : Fr h₀ L s'.heap mm := ⟨F.ns.at' fun o e => up L o (Nat.ne_of_lt hLlt) (Ne.symm hitL) e, fun b o e => up b o (Nat.ne_of_lt (Heap.lt_size (F.keep b o e))) (fun q => by rw [q, hit0] at e; cases e) (F.keep b o e), F.above⟩
    refine h _ acc' c' s'.heap s'.toks F' ?_ (fun p hp => Heap.lt_size (N p hp).1) ?_
    · intro p hp
      rcases List.mem_cons.mp hp with rfl | hp
      · exact ⟨hS', Nat.ne_of_gt hLlt, Heap.get?_none_of_le (Nat.le_of_lt (Nat.lt_of_le_of_lt F.above hLlt))⟩
      · exact ⟨up _ _ (Nat.ne_of_lt (Heap.lt_size (N p hp).1)) (hnit p hp) (N p hp).1, (N p hp).2⟩
    · obtain ⟨hsz, hit⟩ := hacc
      have key : ∀ (vs : List Value) (ys : List (List Nat)), vs.length = ys.length → (∀ (j : Nat) (v : Value), vs[j]? = some v → ∃ (x : List Nat) (t : Tok), ys[j]? = some x ∧ v = Value.str (S (escL x)) t) → StrsAre vs (ys.map fun x => S (escL x)) := by
        intro vs
        induction vs with
        | nil => intro ys hl _; cases ys with | nil => exact .nil | cons _ _ => simp at hl
        | cons v r ih =>
          intro ys hl hh
          cases ys with
          | nil => simp at hl
          | cons y q =>
            obtain ⟨x, t, e1, rfl⟩ := hh 0 v rfl
            simp only [List.getElem?_cons_zero, Option.some.injEq] at e1
            subst e1
            exact .cons _ _ (ih q (by simpa using hl) (fun j v hv => hh (j + 1) v hv))
      exact key acc'.toList xs (by simpa using hsz) (fun j v hv => hit j v (by simpa using hv))
end
end
section
open PySem PySem.W PyProof.Rows PySem.Calls PySem.Spec
set_option maxRecDepth 100000
set_option maxHeartbeats 8000000
set_option linter.all false
def lastM (ys : List Str) : List Str := (wrapped ys (ys.length - 2)).set (ys.length - 1) (Str.empty ++ (Str.ofString ".*") ++ (wrapped ys (ys.length - 2)).getD (ys.length - 1) Str.empty)
def patF (ys : List Str) : Str := Txt.join (Str.ofString "") (lastM ys)
theorem translC (w : World) (mean : ExcName → Option Value) (mg mb : Str → Option Value) (l : List Nat) (t : Tok) (xs : List (List Nat)) (hsp : Txt.split (S l) (Str.ofString "*") = xs.map S) (hx : l.length ≤ 1000) (hxl : ∀ x ∈ xs, x.length ≤ 1000) (hn : xs.length ≤ 100) (hn2 : 2 ≤ xs.length) :
    Con w mean mg mb 40 12 [.str (S l) t] (fun _ => True) (RStr (patF (xs.map fun x => S (escL x)))) := by
  have hxb : (S l).length ≤ 1000 := by simpa [Str.length] using hx
  have hfill := fill
  refine con_of (binds := [(Str.ofString "path", .str (S l) t)]) (by with_unfolding_all rfl) (by with_unfolding_all rfl) (fun s => BindsTo.of_eq rfl) (locs rfl) (by decide) ?_
  revert hfill
  w_on
  k_fill
  intro hfill dp un gd outer A₀ base h₁ s B F X N T hpre hdp hun
  k_steps
  (rename StrsAre _ _ => hsl2)
  (rename (List.map _ _ = Txt.split _ _) => hsp2)
  rw [hsp2, hsp] at hsl2
  (rename Heap.IsList _ _ _ => hlist)
  (rename Fr _ _ _ _ => F1); (rename News _ _ _ _ => N1)
  refine mp_call hlist ?_
  intro h2 g2 g1 g0 hsz k2
  have F2 := frOf F1 k2
  have N2 := newsOf N1 k2
  dsimp only
  k_steps
  refine list_map (dp := dp) (un := un) B X T rfl F2 N2 hsl2 (fun x hx => Nat.le_trans (hxl x hx) (by omega)) (by omega) g2 g1 g0 ?c1 (ne_size_of_news N1) (by omega) (by omega) (Ne.symm (Nat.ne_of_lt F1.ns.lt)) (next_is_new F1) ?c2 ?c3 (isList_ne hlist) ?c4
  case c1 => exact hlist.at fun o e => k2 _ _ e
  case c2 => exact Nat.ne_of_gt (Nat.lt_add_of_pos_right (by decide))
  case c3 => exact Nat.ne_of_gt (Nat.lt_add_of_pos_right (by decide))
  intro q its inn h3 tk3 F3 N3 hq hits
  clear g0 g1 g2 k2
  have hisz : its.size = xs.length := by have := hits.length; simpa using this
  have hyl : ∀ y ∈ (xs.map fun x => S (escL x)), y.length ≤ 2000 := by
    intro y hy
    obtain ⟨x, hx1, rfl⟩ := List.mem_map.mp hy
    have := escL_len x; have := hxl x hx1
    show (escL x).toArray.size ≤ 2000
    simp; omega
  k_steps
  (rename Fr _ _ _ _ => F4); (rename News _ _ _ _ => N4)
  refine Stop.mk ?_
  refine iter_rangeS (n := xs.length - 2) [] (fun _ : Array Value × Nat => []) [(Str.ofString "i")] (fun st => [(_, W.listOf st.1 st.2)]) (fun i st => StrsAre st.1.toList (wrapped (xs.map fun x => S (escL x)) i)) (_, _) (fun _ => rfl) rfl F4 N4 (by assumption) (small_one (by omega) (by omega) (by omega) (by omega)) (by rw [rangeSize_nat]; omega) trivial (mem1 (.head _)) (by rw [wrapped_zero]; exact hits) ?_ ?_
  · rintro i ti ⟨jts, jnn⟩ u h5 tk5 oI hi hinv hI F2 N2
    dsimp only at hinv
    have hinvF : True → StrsAre jts.toList _ := fun _ => hinv
    have hjsz : jts.size = xs.length := by have := (hinvF trivial).length; rw [wrapped_len] at this; simpa using this
    have hjl : h5.IsList q jts.toList.toArray := News.isList N2 (.head _)
    have hwl : (wrapped (xs.map fun x => S (escL x)) i).length = xs.length := by rw [wrapped_len]; simp
    have hgl : ((wrapped (xs.map fun x => S (escL x)) i).getD ((1 : Int) + (i : Int)).toNat Str.empty).length ≤ 3000 := Nat.le_trans (wrapped_mem (B := 2000) hyl _ (getD_mem (by omega))) (by omega)
    replace hI := allNe_of hI; simp only [AllNe, and_true] at hI
    dsimp only [List.nil_append, List.cons_append] at F2 N2; have hlt2 := news_lt N2; simp only [AllLt, and_true] at hlt2
    k_steps
    (rename Fr _ _ _ _ => Fz); (rename News _ _ _ _ => Nz)
    with_unfolding_all refine TurnS.mk' Fz Nz (_, _) trivial ?_ (mem1 (.head _)) ?_ ?_ ?_
    · walk_at "off"
    · k_mem
    · walk_at "allne"
    · show StrsAre _ (wrapped (xs.map fun x => S (escL x)) (i + 1))
      rw [← wrapped_succ (by simp; omega), show ((1 : Int) + (i : Int)).toNat = 1 + i by omega]
      rw [wrapped_get (by simp; omega) (by omega)]
      exact strs_set (hinvF trivial)
  · rintro ⟨jts, jnn⟩ u h5 tk5 hinv F2 N2
    dsimp only at hinv
    have hinvF : True → StrsAre jts.toList _ := fun _ => hinv
    have hjsz : jts.size = xs.length := by have := (hinvF trivial).length; rw [wrapped_len] at this; simpa using this
    have hwl : (wrapped (xs.map fun x => S (escL x)) (xs.length - 2)).length = xs.length := by rw [wrapped_len]; simp
    have hgl : ((wrapped (xs.map fun x => S (escL x)) (xs.length - 2)).getD ((wrapped (xs.map fun x => S (escL x)) (xs.length - 2)).length - 1) Str.empty).length ≤ 3000 := Nat.le_trans (wrapped_mem (B := 2000) hyl _ (getD_mem (by omega))) (by omega)
    dsimp only [List.nil_append, List.cons_append] at F2 N2; have hlt2 := news_lt N2; simp only [AllLt, and_true] at hlt2
    k_steps
    (rename Fr _ _ _ _ => Fz); (rename News _ _ _ _ => Nz)
    refine joinStrs (ys := lastM (xs.map fun x => S (escL x))) (News.isList Nz (.head _)) ?_ (Nat.le_of_ble_eq_true rfl) (by unfold lastM; simp [wrapped_len]; omega) ?_ ?_
    · have e : (-1 + ((jts.size : Nat) : Int)).toNat = (xs.map fun x => S (escL x)).length - 1 := by simp; omega
      rw [e]
      unfold lastM
      have e2 : (xs.map fun x => S (escL x)).length = xs.length := by simp
      rw [e2, hwl]
      exact strs_set (hinvF trivial)
    · intro y hy
      unfold lastM at hy
      rcases List.mem_or_eq_of_mem_set hy with h1 | h1
      · exact Nat.le_trans (wrapped_mem hyl y h1) (by omega)
      · have e2 : (xs.map fun x => S (escL x)).length = xs.length := by simp
        rw [hwl] at hgl
        rw [h1, e2, Str.length_append, Str.length_append, show (Str.ofString ".*").length = 2 by decide +kernel, show Str.empty.length = 0 from rfl]
        omega
    · intro t9 k9
      k_steps
      all_goals exact End.mk' (by assumption) (strEq rfl)
end
section
open PySem PySem.W PyProof.Rows PySem.Calls PySem.Spec
set_option maxRecDepth 100000
set_option maxHeartbeats 8000000
set_option linter.all false
def foldJ (p : Str) (xs : List Str) : Str := xs.foldl joinF p
theorem foldJ_take {p x : Str} {xs : List Str} {i : Nat} (h : xs[i]? = some x) : foldJ p (xs.take (i + 1)) = joinF (foldJ p (xs.take i)) x := by
  unfold foldJ; rw [List.take_add_one, h]; simp
theorem hungC (w : World) (mean : ExcName → Option Value) (mg mb : Str → Option Value) (a : Addr) (vs : List Value) (xs : List Str) (hs : StrsAre vs xs) (hb : ∀ x ∈ xs, x.length ≤ 1000)
    (hlen : ∀ i, (foldJ (Str.ofString "/") (xs.take i)).length ≤ 100000) :
    Con w mean mg mb 197 3 [.ref a] (fun h => h.IsList a vs.toArray) (RStr (joinF (foldJ (Str.ofString "/") xs) (Str.ofString ""))) := by
  have hfill := fill
  refine con_of (binds := [(Str.ofString "pieces", .ref a)]) (by with_unfolding_all rfl) (by with_unfolding_all rfl) (fun s => BindsTo.of_eq rfl) (locs rfl) (by decide) ?_
  revert hfill
  w_on
  k_fill
  intro hfill dp un gd outer A₀ base h₁ s B F X N T hpre hdp hun
  k_steps
  (rename Fr _ _ _ _ => F1); (rename News _ _ _ _ => N1)
  refine Stop.mk ?_
  refine iter_listS [Str.ofString "path"] (fun st : Str × Tok => [.str st.1 st.2]) [Str.ofString "piece"] (fun _ => []) (fun i st => st.1 = foldJ (Str.ofString "/") (xs.take i)) (Str.ofString "/", _) (fun _ => rfl) rfl F1 N1 (isList_fr hpre F1) (isList_ne hpre) (.inl (isList_get hpre)) ⟨by with_unfolding_all rfl, trivial⟩ (by simp) rfl ?_ ?_
  · rintro i v ⟨p, t⟩ u h tk oI hv rfl hI F2 N2
    obtain ⟨x, tx, rfl, hx⟩ := strsAt hs hv
    have hpl := hlen i
    have hxl := hb x (List.mem_of_getElem? hx)
    replace hI := allNe_of hI; simp only [AllNe, and_true] at hI
    dsimp only [List.nil_append, List.cons_append] at F2 N2 hI
    k_steps
    (rename Fr _ _ _ _ => Fz); (rename News _ _ _ _ => Nz)
    with_unfolding_all refine TurnS.mk' Fz Nz (joinF (foldJ (Str.ofString "/") (xs.take i)) x, _) ⟨rfl, trivial⟩ ?_ ?_ ?_ ?_ ?_
    walk_at "turn"
    exact (foldJ_take hx).symm
  · rintro ⟨p, t⟩ u h tk rfl F2 N2
    dsimp only [List.nil_append, List.cons_append] at F2 N2
    rw [hs.length, List.take_length] at F2
    have hpl := hlen xs.length
    rw [List.take_length] at hpl
    k_steps
    all_goals exact End.mk' (by assumption) ⟨_, rfl⟩
end
section
open PySem PySem.W PyProof.Rows PySem.Calls PySem.Spec
set_option maxRecDepth 100000
set_option maxHeartbeats 8000000
set_option linter.all false
def figs : Nat → Nat → List Nat
  | 0, _ => []
  | k + 1, n => if n = 0 then [] else n % 8 :: figs k (n / 8)
def spellOf (d : Nat) : Str := [(Str.ofString "."), (Str.ofString "a"), (Str.ofString "b"), (Str.ofString ".."), (Str.ofString "a.b"), (Str.ofString "ab"), (Str.ofString "bb"), (Str.ofString "[b")].getD d Str.empty
def ruleOf (d : Nat) : Str := [(Str.ofString "*"), (Str.ofString "a"), (Str.ofString "b"), (Str.ofString "a*"), (Str.ofString "*b"), (Str.ofString "a.b"), (Str.ofString "b*b"), (Str.ofString "[b")].getD d Str.empty
theorem figs_len : ∀ (k n : Nat), (figs k n).length ≤ k
  | 0, _ => Nat.le_refl _
  | k + 1, n => by unfold figs; split <;> simp [figs_len k]
theorem figs_turn {g : Nat → Str} {ps tot : List Str} {f : Nat} (hf : 0 < f) (h3 : ps.length ≤ 4) (h4 : f < 8 ^ (4 - ps.length)) (h5 : ps ++ (figs (4 - ps.length) f).map g = tot) :
    (ps ++ [g (f % 8)]).length ≤ 4 ∧ f / 8 < 8 ^ (4 - (ps ++ [g (f % 8)]).length) ∧ (ps ++ [g (f % 8)]) ++ (figs (4 - (ps ++ [g (f % 8)]).length) (f / 8)).map g = tot := by
  have hl : ps.length ≠ 4 := by intro e; rw [e] at h4; simp at h4; omega
  obtain ⟨k, hk⟩ : ∃ k, 4 - ps.length = k + 1 := ⟨3 - ps.length, by omega⟩
  have e : 4 - (ps ++ [g (f % 8)]).length = k := by simp; omega
  refine ⟨by simp; omega, ?_, ?_⟩
  · rw [e]; rw [hk, Nat.pow_succ] at h4; omega
  · rw [e, ← h5, hk]
    conv => rhs; unfold figs
    rw [if_neg (by omega)]; simp
theorem fmod_nat (f : Nat) : ((f : Int).fmod 8).toNat = f % 8 := by
  rw [Int.fmod_eq_emod_of_nonneg _ (by decide)]; omega
theorem fdiv_nat (f : Nat) : (f : Int).fdiv 8 = ((f / 8 : Nat) : Int) := by
  rw [Int.fdiv_eq_ediv_of_nonneg _ (by decide)]; omega
theorem figs_zero (k : Nat) : figs k 0 = [] := by cases k <;> simp [figs]
abbrev FigS := Int × Tok × List Str × Array Value × Nat
def FigInv (g : Nat → Str) (tot : List Str) (st : FigS) : Prop := ∃ f : Nat, st.1 = f ∧ f < 4096 ∧ StrsAre st.2.2.2.1.toList st.2.2.1 ∧ st.2.2.1.length ≤ 4 ∧ f < 8 ^ (4 - st.2.2.1.length) ∧ st.2.2.1 ++ (figs (4 - st.2.2.1.length) f).map g = tot
theorem spelledC (w : World) (mean : ExcName → Option Value) (mg mb : Str → Option Value) (n : Nat) (tn : Tok) (hn : n < 4096) :
    Con w mean mg mb 176 1 [.int n tn] (fun _ => True) (RStrs ((figs 4 n).map spellOf)) := by
  have hfill := fill
  refine con_of (binds := [(Str.ofString "figures", .int n tn)]) (by with_unfolding_all rfl) (by with_unfolding_all rfl) (fun s => BindsTo.of_eq rfl) (locs rfl) (by decide) ?_
  revert hfill
  w_on
  k_fill
  intro hfill dp un gd outer A₀ base h₁ s B F X N T hpre hdp hun
  k_steps
  (rename Fr _ _ _ _ => F1); (rename News _ _ _ _ => N1)
  refine Stop.mk ?_
  refine while_S [(Str.ofString "figures"), (Str.ofString "pieces")] (fun st : FigS => [.int st.1 st.2.1, .ref _]) [] (fun st => [(_, W.listOf st.2.2.2.1 st.2.2.2.2)]) (FigInv spellOf ((figs 4 n).map spellOf)) (fun st => st.1.toNat) (n, _, [], #[], _) (fun _ => rfl) F1 N1 ⟨by with_unfolding_all rfl, by with_unfolding_all rfl, trivial⟩ (by walk_at "allin") ⟨n, rfl, hn, StrsAre.nil, Nat.zero_le _, by simpa using hn, by simp⟩ ?_
  rintro ⟨z, tf, ps, pvs, pn⟩ u h tk ⟨f, rfl, h1, h2, h3, h4, h5⟩ F2 N2
  dsimp only [List.nil_append, List.cons_append] at F2 N2; have hlt2 := news_lt N2; simp only [AllLt, and_true] at hlt2
  dsimp only at h1 h2 h3 h4 h5
  have hsz : pvs.size = ps.length := by rw [← h2.length]; simp
  k_with "table" => skip
  k_steps
  · (rename Fr _ _ _ _ => Fz); (rename News _ _ _ _ => Nz)
    have hf : 0 < f := by omega
    have ht := figs_turn (g := spellOf) hf h3 h4 h5
    with_unfolding_all refine TurnW.mk' Fz Nz (_, _, ps ++ [spellOf (f % 8)], _, _) ⟨rfl, rfl, trivial⟩ ?hm (mem1 (.tail _ (.head _))) ?hlt ?hinv
    case hm => walk_at "off"
    case hlt => show ((f : Int).fdiv 8).toNat < (f : Int).toNat; rw [fdiv_nat]; omega
    case hinv =>
      refine ⟨f / 8, fdiv_nat f, by omega, ?_, ht.1, ht.2.1, ht.2.2⟩
      have := strs_push h2 (x := spellOf (f % 8)) (t := 0)
      rw [← fmod_nat] 
      exact strs_push h2
  · have hf : f = 0 := by omega
    subst hf
    rw [figs_zero] at h5
    simp only [List.map_nil, List.append_nil] at h5
    subst h5
    exact endObj (by k_asm) (by k_asm) (by k_mem) ⟨_, _, rfl, h2⟩
end
section
open PySem PySem.W PyProof.Rows PySem.Calls PySem.Spec
set_option maxRecDepth 100000
set_option maxHeartbeats 8000000
set_option linter.all false
def ruleF (n : Nat) : List Str := let ps := (figs 4 n).map ruleOf; if Txt.contains (Txt.join (Str.ofString "") ps) (Str.ofString "*") = true then ps else ps ++ [(Str.ofString "*")]
theorem ruleOf_len (d : Nat) : (ruleOf d).length ≤ 3 := by
  match d with
  | 0 | 1 | 2 | 3 | 4 | 5 | 6 | 7 => decide +kernel
  | k + 8 => exact Nat.zero_le _
theorem ruleC (w : World) (mean : ExcName → Option Value) (mg mb : Str → Option Value) (n : Nat) (tn : Tok) (hn : n < 4096) :
    Con w mean mg mb 169 1 [.int n tn] (fun _ => True) (RStrs (ruleF n)) := by
  have hfill := fill
  refine con_of (binds := [(Str.ofString "figures", .int n tn)]) (by with_unfolding_all rfl) (by with_unfolding_all rfl) (fun s => BindsTo.of_eq rfl) (locs rfl) (by decide) ?_
  revert hfill
  w_on
  k_fill
  intro hfill dp un gd outer A₀ base h₁ s B F X N T hpre hdp hun
  k_steps
  (rename Fr _ _ _ _ => F1); (rename News _ _ _ _ => N1)
  refine Stop.mk ?_
  refine while_S [(Str.ofString "figures"), (Str.ofString "pieces")] (fun st : FigS => [.int st.1 st.2.1, .ref _]) [] (fun st => [(_, W.listOf st.2.2.2.1 st.2.2.2.2)]) (FigInv ruleOf ((figs 4 n).map ruleOf)) (fun st => st.1.toNat) (n, _, [], #[], _) (fun _ => rfl) F1 N1 ⟨by with_unfolding_all rfl, by with_unfolding_all rfl, trivial⟩ (by walk_at "allin") ⟨n, rfl, hn, StrsAre.nil, Nat.zero_le _, by simpa using hn, by simp⟩ ?_
  rintro ⟨z, tf, ps, pvs, pn⟩ u h tk ⟨f, rfl, h1, h2, h3, h4, h5⟩ F2 N2
  dsimp only [List.nil_append, List.cons_append] at F2 N2; have hlt2 := news_lt N2; simp only [AllLt, and_true] at hlt2
  dsimp only at h1 h2 h3 h4 h5
  have hsz : pvs.size = ps.length := by rw [← h2.length]; simp
  have hlist : h.IsList _ pvs.toList.toArray := News.isList N2 (.head _)
  k_with "table" => skip
  k_steps
  · (rename Fr _ _ _ _ => Fz); (rename News _ _ _ _ => Nz)
    have hf : 0 < f := by omega
    have ht := figs_turn (g := ruleOf) hf h3 h4 h5
    with_unfolding_all refine TurnW.mk' Fz Nz (_, _, ps ++ [ruleOf (f % 8)], _, _) ⟨rfl, rfl, trivial⟩ ?hm (mem1 (.tail _ (.head _))) ?hlt ?hinv
    case hm => walk_at "off"
    case hlt => show ((f : Int).fdiv 8).toNat < (f : Int).toNat; rw [fdiv_nat]; omega
    case hinv =>
      refine ⟨f / 8, fdiv_nat f, by omega, ?_, ht.1, ht.2.1, ht.2.2⟩
      rw [← fmod_nat] 
      exact strs_push h2
  · have hf : f = 0 := by omega
    subst hf
    rw [figs_zero] at h5
    simp only [List.map_nil, List.append_nil] at h5
    subst h5
    (rename Fr _ _ _ _ => Fz); (rename News _ _ _ _ => Nz)
    refine joinStrs (News.isList Nz (.head _)) h2 (Nat.le_of_ble_eq_true rfl) (by omega) (fun y hy => by obtain ⟨d, _, rfl⟩ := List.mem_map.mp hy; have := ruleOf_len d; omega) ?_
    intro tj kj
    k_steps
    · refine endObj (by k_asm) (by k_asm) (by k_mem) ⟨_, _, rfl, ?_⟩
      unfold ruleF; dsimp only
      rw [if_neg (by unfold Txt.contains; rw [‹(Builtin.Str.occurrences _ _ _ _ _).isEmpty = true›]; decide)]
      exact strs_push h2
    · refine endObj (by k_asm) (by k_asm) (by k_mem) ⟨_, _, rfl, ?_⟩
      unfold ruleF; dsimp only
      rw [if_pos (by unfold Txt.contains; rw [‹(Builtin.Str.occurrences _ _ _ _ _).isEmpty = false›]; rfl)]
      exact h2
end
section
open PySem PySem.W PyProof.Rows PySem.Calls PySem.Spec
set_option maxRecDepth 100000
set_option maxHeartbeats 8000000
set_option linter.all false
def walkStep (ns : List Str) (p : Str) : List Str := if (p == (Str.ofString "..")) = true then ns.dropLast else if (p != (Str.ofString ".")) = true then ns ++ [p] else ns
theorem walkedC (w : World) (mean : ExcName → Option Value) (mg mb : Str → Option Value) (a : Addr) (vs : List Value) (xs : List Str) (hs : StrsAre vs xs) (hl : xs.length ≤ 100) :
    Con w mean mg mb 183 1 [.ref a] (fun h => h.IsList a vs.toArray) (RStrs (xs.foldl walkStep [])) := by
  have hfill := fill
  refine con_of (binds := [(Str.ofString "pieces", .ref a)]) (by with_unfolding_all rfl) (by with_unfolding_all rfl) (fun s => BindsTo.of_eq rfl) (locs rfl) (by decide) ?_
  revert hfill
  w_on
  k_fill
  intro hfill dp un gd outer A₀ base h₁ s B F X N T hpre hdp hun
  k_steps
  (rename Fr _ _ _ _ => F1); (rename News _ _ _ _ => N1)
  refine Stop.mk ?_
  refine iter_listS [(Str.ofString "names")] (fun st : Addr × Array Value × Nat => [.ref st.1]) [(Str.ofString "piece")] (fun st => [(st.1, W.listOf st.2.1 st.2.2)]) (fun i st => StrsAre st.2.1.toList ((xs.take i).foldl walkStep []) ∧ st.2.1.size ≤ i) (_, #[], _) (fun _ => rfl) rfl F1 N1 (isList_fr hpre F1) (isList_ne hpre) (.inl (isList_get hpre)) ⟨by with_unfolding_all rfl, trivial⟩ (by walk_at "allin") ⟨StrsAre.nil, Nat.le_refl _⟩ ?_ ?_
  · rintro i v ⟨q, its, nn⟩ u h tk oI hv ⟨hinv, hnl⟩ hI F2 N2
    obtain ⟨x, tx, rfl, hx⟩ := strsAt hs hv
    replace hI := allNe_of hI; simp only [AllNe, and_true] at hI
    dsimp only [List.nil_append, List.cons_append] at F2 N2; have hlt2 := news_lt N2; simp only [AllLt, and_true] at hlt2
    dsimp only at hinv hnl hI
    have hil : i < xs.length := (List.getElem?_eq_some_iff.mp hx).1
    have hst : (xs.take (i + 1)).foldl walkStep [] = walkStep ((xs.take i).foldl walkStep []) x := by rw [List.take_add_one, hx]; simp
    k_steps
    · (rename Fr _ _ _ _ => Fz); (rename News _ _ _ _ => Nz)
      with_unfolding_all refine TurnS.mk' Fz Nz (_, slicePick its none (some (-1)) none, 0) ⟨rfl, trivial⟩ ?_ ?_ ?_ ?_ ?_
      walk_at "turn"
      refine ⟨?_, ?_⟩
      · rw [hst, walkStep, if_pos (by assumption)]; exact strs_butLast hinv
      · exact Nat.le_trans (slicePick_size_le ..) (Nat.le_succ_of_le hnl)
    · (rename Fr _ _ _ _ => Fz); (rename News _ _ _ _ => Nz)
      with_unfolding_all refine TurnS.mk' Fz Nz (q, its.push (.str x tx), nn + 1) ⟨rfl, trivial⟩ ?_ ?_ ?_ ?_ ?_
      walk_at "turn"
      refine ⟨?_, ?_⟩
      · rw [hst, walkStep, if_neg (by rw [Bool.not_eq_true]; assumption), if_pos (by assumption)]; exact strs_push hinv
      · simp only [Array.size_push]; omega
    · (rename Fr _ _ _ _ => Fz); (rename News _ _ _ _ => Nz)
      with_unfolding_all refine TurnS.mk' Fz Nz (q, its, nn) ⟨rfl, trivial⟩ ?_ ?_ ?_ ?_ ?_
      walk_at "turn"
      refine ⟨?_, ?_⟩
      · rw [hst, walkStep, if_neg (by rw [Bool.not_eq_true]; assumption), if_neg (by rw [Bool.not_eq_true]; assumption)]; exact hinv
      · exact Nat.le_succ_of_le hnl
  · rintro ⟨q, its, nn⟩ u h tk ⟨hinv, hnl⟩ F2 N2
    dsimp only [List.nil_append, List.cons_append] at F2 N2; have hlt2 := news_lt N2; simp only [AllLt, and_true] at hlt2
    dsimp only at hinv hnl
    rw [hs.length, List.take_length] at hinv
    k_steps
    all_goals exact endObj (by k_asm) (by k_asm) (by k_mem) ⟨_, _, rfl, hinv⟩
end
section
open PySem PySem.W PyProof.Rows PySem.Calls PySem.Spec
set_option maxRecDepth 100000
set_option maxHeartbeats 8000000
set_option linter.all false
theorem namesC (w : World) (mean : ExcName → Option Value) (mg mb : Str → Option Value) (pl : Nat → Str) (nm : List Str) (t : Tok) (hn : nm.length ≤ 100) (hp : ∀ k, (pl k).length ≤ 1000) (hz : tailF (pl 0) = (Str.ofString "")) (hstep : ∀ k y, nm[k]? = some y → dirnameF (pl (k + 1)) = pl k ∧ tailF (pl (k + 1)) = y ∧ (y != (Str.ofString "")) = true) :
    Con w mean mg mb 190 12 [.str (pl nm.length) t] (fun _ => True) (RStrs nm) := by
  have hfill := fill
  refine con_of (binds := [(Str.ofString "place", .str (pl nm.length) t)]) (by with_unfolding_all rfl) (by with_unfolding_all rfl) (fun s => BindsTo.of_eq rfl) (locs rfl) (by decide) ?_
  revert hfill
  w_on
  k_fill
  intro hfill dp un gd outer A₀ base h₁ s B F X N T hpre hdp hun
  k_steps
  (rename Fr _ _ _ _ => F1); (rename News _ _ _ _ => N1)
  refine Stop.mk ?_
  refine while_S [(Str.ofString "place"), (Str.ofString "names")] (fun st : Str × Tok × Array Value × Nat => [.str st.1 st.2.1, .ref _]) [(Str.ofString "name")] (fun st => [(_, W.listOf st.2.2.1 st.2.2.2)]) (fun st => ∃ k, k ≤ nm.length ∧ st.1 = pl k ∧ StrsAre st.2.2.1.toList (nm.drop k)) (fun st => 1000 - st.2.2.1.size) (pl nm.length, _, #[], _) (fun _ => rfl) F1 N1 ⟨by with_unfolding_all rfl, by with_unfolding_all rfl, trivial⟩ (by walk_at "allin") ⟨nm.length, Nat.le_refl _, rfl, by simp; exact .nil⟩ ?_
  rintro ⟨p, tp, its, inn⟩ u h tk ⟨k, hk, rfl, hits⟩ F2 N2
  dsimp only [List.nil_append, List.cons_append] at F2 N2; have hlt2 := news_lt N2; simp only [AllLt, and_true] at hlt2
  dsimp only at hits
  have hpk := hp k
  have hsz : its.size ≤ 100 := by have := hits.length; simp at this; omega
  rcases k with _ | k
  · k_steps
    · exfalso
      have hA := ‹(tailF (pl 0) != _) = true›
      rw [hz] at hA
      revert hA; decide +kernel
    · exact endObj (by k_asm) (by k_asm) (by k_mem) ⟨_, _, rfl, by simpa using hits⟩
  · obtain ⟨y, hy⟩ : ∃ y, nm[k]? = some y := ⟨nm[k]'(by omega), by simp⟩
    obtain ⟨e1, e2, e3⟩ := hstep k y hy
    k_steps
    · (rename Fr _ _ _ _ => Fz); (rename News _ _ _ _ => Nz)
      rw [e1] at Fz
      with_unfolding_all refine TurnW.mk' Fz Nz (pl k, _, _, _) ⟨rfl, rfl, trivial⟩ ?hm (mem1 (.tail _ (.tail _ (.head _)))) ?hlt ?hinv
      case hm => walk_at "off"
      case hlt => show 1000 - (its.toList.length + 1) < 1000 - its.size; rw [Array.length_toList]; omega
      case hinv =>
        have ed : nm.drop k = y :: nm.drop (k + 1) := by
          rw [List.drop_eq_getElem_cons (by omega)]
          have : nm[k]'(by omega) = y := by rw [List.getElem?_eq_getElem (by omega)] at hy; exact Option.some.inj hy
          rw [this]
        refine ⟨k, by omega, rfl, ?_⟩
        rw [ed, ← e2]
        exact .cons _ _ (by simpa using hits)
    · exfalso
      have hA := ‹(tailF (pl (k + 1)) != _) = false›
      rw [e2, e3] at hA
      cases hA
end
section
open PySem PySem.W PyProof.Rows PySem.Calls PySem.Spec
set_option maxRecDepth 100000
set_option maxHeartbeats 8000000
set_option linter.all false
theorem strs_last {us : List Value} {xs : List Str} (hi : StrsAre us xs) : 0 < us.length → ∃ y, us = us.dropLast ++ [y] ∧ StrsAre us.dropLast xs.dropLast := by
  induction hi with
  | nil => intro h; exact absurd h (Nat.lt_irrefl 0)
  | cons k t r ih =>
    intro _
    cases r with
    | nil => exact ⟨_, rfl, .nil⟩
    | cons k' t' r' =>
      obtain ⟨y, h1, h3⟩ := ih (Nat.succ_pos _)
      exact ⟨y, congrArg (List.cons _) h1, .cons _ _ h3⟩
section
variable {prog : Program} {w : World} {A : Around} {E : Value → Shared → Prop} {s : Shared} {h₀ : Heap} {L D : Addr} {m : Str → Option Value} {news news' : List (Addr × Obj)} {n : Nat}
theorem popStrs {its : Array Value} {l : List Str} {Q : Value → Shared → Prop} (F : Fr h₀ L s.heap m) (N : News h₀ L s.heap news) (U : Upd D (W.listOf its n) (W.listOf its.toList.dropLast.toArray (n + 1)) news news') (hi : StrsAre its.toList l) (hne : 0 < its.size)
    (hz : its.size ≤ 1000000) (h : ∀ h' y, Fr h₀ L h' m → News h₀ L h' news' → Q y { s with heap := h' }) : wpAny (model prog w) A (call (.builtin "list.pop") [.ref D]) Q E s := by
  obtain ⟨y, h1, h3⟩ := strs_last hi (by simpa using hne)
  refine kl_pop F N (p := its.toList.dropLast) (y := y) ?_ U (by rw [PySem.sizeLine_eq]; simp only [Array.length_toList]; omega) fun h' F' N' => h h' y F' N'
  have e := W.kpa_last y its.toList.dropLast
  rw [← h1] at e
  exact e
end
local macro_rules | `(tactic| walk_at "call builtin:list.pop") => `(tactic| (k_here; (with_reducible show wpAny _ _ (call (Value.builtin _) [Value.ref _]) _ _ _); k_dflt (refine' popStrs ?F ?N ?U ?i ?l ?z ?_; (case F => k_asm); (case N => k_asm); (case U => k_upd); (case i => (rename StrsAre _ _ => hs9; exact hs9)); (case l => omega); (case z => omega)); (intro h' t' F' N'; (try dsimp only [List.nil_append, List.cons_append] at N'))))
local macro_rules | `(tactic| walk_at "subscriptTail Name UnaryOp ref int") => `(tactic| (k_here; refine stop_intro ?_))
def normStep (new : List Str) (c : Str) : List Str :=
  if c.length = 0 then new else if (c == (Str.ofString ".")) = true then new else if (c != (Str.ofString "..")) = true then new ++ [c]
  else if new.length = 0 then new else if (new.getD (new.length - 1) Str.empty == (Str.ofString "..")) = true then new ++ [c] else new.dropLast
def normF (x : Str) : Str := (splitrootF x).2.1 ++ Txt.join (Str.ofString "/") ((Txt.split (splitrootF x).2.2 (Str.ofString "/")).foldl normStep [])
theorem normC (w : World) (mean : ExcName → Option Value) (mg mb : Str → Option Value) (x : Str) (t : Tok) (hx : x.length ≤ 1000) (h0 : x.length ≠ 0) (hh : (splitrootF x).2.2.length ≤ 1000) (hi : (splitrootF x).2.1 = (Str.ofString "/")) (hsl : (Txt.split (splitrootF x).2.2 (Str.ofString "/")).length ≤ 100) (hj : (Txt.join (Str.ofString "/") ((Txt.split (splitrootF x).2.2 (Str.ofString "/")).foldl normStep [])).length ≤ 2000) :
    Con w mean mg mb 162 12 [.str x t] (fun _ => True) (RStr (normF x)) := by
  have hil : (splitrootF x).2.1.length = 1 := by rw [hi]; decide +kernel
  have hfill := fill
  refine con_of (binds := [(Str.ofString "path", .str x t)]) (by with_unfolding_all rfl) (by with_unfolding_all rfl) (fun s => BindsTo.of_eq rfl) (locs rfl) (by decide) ?_
  revert hfill
  w_on
  k_fill
  intro hfill dp un gd outer A₀ base h₁ s B F X N T hpre hdp hun
  k_steps
  rotate_left
  · exfalso; omega
  (rename StrsAre _ _ => hsl2)
  (rename (List.map _ _ = Txt.split _ _) => hsp)
  (rename (∀ a ∈ List.map _ _, _) => hbd)
  have hslF : True → StrsAre _ _ := fun _ => hsl2
  rw [hsp] at hslF hbd
  have hll := (hslF trivial).length
  (rename Fr _ _ _ _ => F1); (rename News _ _ _ _ => N1)
  refine Stop.mk ?_
  refine iter_listS [] (fun _ : Array Value × Nat => []) [(Str.ofString "comp")] (fun st => [(_, W.listOf st.1 st.2), (_, _)]) (fun i st => ∃ cur, cur = ((Txt.split (splitrootF x).2.2 (Str.ofString "/")).take i).foldl normStep [] ∧ StrsAre st.1.toList cur ∧ st.1.size ≤ i ∧ ∀ y ∈ cur, y.length ≤ 1000) (_, _) (fun _ => rfl) rfl F1 N1 (News.isList N1 (.tail _ (.head _))) (N1 _ (.tail _ (.head _))).2.1 (.inr ⟨_, fun _ => .tail _ (.head _)⟩) trivial (mem2 (.head _) (.tail _ (.head _))) ⟨[], rfl, .nil, Nat.le_refl _, by simp⟩ ?_ ?_
  · rintro i v ⟨its, inn⟩ u h tk oI hv ⟨cur, hcur, hits, hsz, hbi⟩ hI F2 N2
    obtain ⟨y, ty, rfl, hy⟩ := strsAt (hslF trivial) hv
    have hyb := hbd y (List.mem_of_getElem? hy)
    have hil2 : i < (Txt.split (splitrootF x).2.2 (Str.ofString "/")).length := (List.getElem?_eq_some_iff.mp hy).1
    have hst : ((Txt.split (splitrootF x).2.2 (Str.ofString "/")).take (i + 1)).foldl normStep [] = normStep cur y := by rw [List.take_add_one, hy, hcur]; simp
    replace hI := allNe_of hI; simp only [AllNe, and_true] at hI
    dsimp only [List.nil_append, List.cons_append] at F2 N2; have hlt2 := news_lt N2; simp only [AllLt, and_true] at hlt2
    dsimp only at hits hsz hbi hI
    have hcl := hits.length
    have hitsF : True → StrsAre its.toList cur := fun _ => hits
    have hcl2 : its.size = cur.length := by simpa using hcl
    have hlast : (cur.getD (cur.length - 1) Str.empty).length ≤ 1000 := by
      rcases Nat.lt_or_ge (cur.length - 1) cur.length with hlt | hge
      · exact hbi _ (getD_mem hlt)
      · rw [List.getD_eq_getElem?_getD, List.getElem?_eq_none hge]; exact Nat.zero_le _
    have hlist : h.IsList _ its.toList.toArray := News.isList N2 (.head _)
    have hce : its.toList.isEmpty = true → cur.length = 0 := fun h => by rw [List.isEmpty_iff] at h; rw [← hcl, h]; rfl
    have hcn : its.toList.isEmpty = false → 0 < cur.length := fun h => by rw [← hcl]; exact List.length_pos_iff.mpr (fun e => by rw [e] at h; cases h)
    have happ : ∀ tz, StrsAre (its.push (.str y tz)).toList (cur ++ [y]) := fun _ => strs_push (hitsF trivial)
    have hbi2 : ∀ z ∈ cur ++ [y], z.length ≤ 1000 := fun z hz => by rcases List.mem_append.mp hz with h | h; exact hbi z h; rw [List.mem_singleton.mp h]; omega
    have hbd2 : ∀ z ∈ cur.dropLast, z.length ≤ 1000 := fun z hz => hbi z (List.dropLast_subset _ hz)
    have hdrop : 0 < its.size → StrsAre its.toList.dropLast.toArray.toList cur.dropLast := fun hp => by obtain ⟨_, _, h3⟩ := strs_last (hitsF trivial) (by simpa using hp); simpa using h3
    k_steps
    · skip
      with_unfolding_all refine TurnS.mkc F2 N2 (its, _) trivial ?_ (mem2 (.head _) (.tail _ (.head _))) ?_ ?_ ?_
      · walk_at "off"
      · k_mem
      · walk_at "allne"
      · exact ⟨cur, by rw [hst, normStep, if_neg (by omega), if_pos (by assumption)], hitsF trivial, Nat.le_succ_of_le hsz, hbi⟩
    · (rename Fr _ _ _ _ => Fz); (rename News _ _ _ _ => Nz)
      with_unfolding_all refine TurnS.mk' Fz Nz (its.push (.str y ty), _) trivial ?_ (mem2 (.head _) (.tail _ (.head _))) ?_ ?_ ?_
      · walk_at "off"
      · k_mem
      · walk_at "allne"
      · skip
        refine ⟨_, rfl, ?_, ?_, ?_⟩
        · rw [hst, normStep, if_neg (by omega), if_neg (by simp only [*]; decide), if_pos (by assumption)]; exact happ _
        · first | (simp only [Array.size_push]; omega) | (simp; omega)
        · rw [hst, normStep, if_neg (by omega), if_neg (by simp only [*]; decide), if_pos (by assumption)]; exact hbi2
    · skip
      with_unfolding_all refine TurnS.mk' F2 N2 (its, _) trivial ?_ (mem2 (.head _) (.tail _ (.head _))) ?_ ?_ ?_
      · walk_at "off"
      · k_mem
      · walk_at "allne"
      · skip
        refine ⟨_, rfl, ?_, ?_, ?_⟩
        · rw [hst, normStep, if_neg (by omega), if_neg (by simp only [*]; decide), if_neg (by simp only [*]; decide), if_pos (hce (by assumption))]; exact hitsF trivial
        · first | (simp only [Array.size_push]; omega) | (simp; omega)
        · rw [hst, normStep, if_neg (by omega), if_neg (by simp only [*]; decide), if_neg (by simp only [*]; decide), if_pos (hce (by assumption))]; exact hbi
    · have hcp := hcn (by assumption)
      refine itemNeg hlist (hitsF trivial) hcp (by omega) ?_
      intro t9
      k_steps
      · (rename Fr _ _ _ _ => Fz); (rename News _ _ _ _ => Nz)
        with_unfolding_all refine TurnS.mk' Fz Nz (its.push (.str y ty), _) trivial ?_ (mem2 (.head _) (.tail _ (.head _))) ?_ ?_ ?_
        · walk_at "off"
        · k_mem
        · walk_at "allne"
        · skip
          refine ⟨_, rfl, ?_, ?_, ?_⟩
          · rw [hst, normStep, if_neg (by omega), if_neg (by simp only [*]; decide), if_neg (by simp only [*]; decide), if_neg (by omega), if_pos (by assumption)]; exact happ _
          · first | (simp only [Array.size_push]; omega) | (simp; omega)
          · rw [hst, normStep, if_neg (by omega), if_neg (by simp only [*]; decide), if_neg (by simp only [*]; decide), if_neg (by omega), if_pos (by assumption)]; exact hbi2
      · (rename Fr _ _ _ _ => Fz); (rename News _ _ _ _ => Nz)
        with_unfolding_all refine TurnS.mk' Fz Nz (its.toList.dropLast.toArray, _) trivial ?_ (mem2 (.head _) (.tail _ (.head _))) ?_ ?_ ?_
        · walk_at "off"
        · k_mem
        · walk_at "allne"
        · skip
          refine ⟨_, rfl, ?_, ?_, ?_⟩
          · rw [hst, normStep, if_neg (by omega), if_neg (by simp only [*]; decide), if_neg (by simp only [*]; decide), if_neg (by omega), if_neg (by rw [‹(cur.getD _ _ == _) = false›]; decide)]; exact hdrop (by omega)
          · first | (simp only [Array.size_push]; omega) | (simp; omega)
          · rw [hst, normStep, if_neg (by omega), if_neg (by simp only [*]; decide), if_neg (by simp only [*]; decide), if_neg (by omega), if_neg (by rw [‹(cur.getD _ _ == _) = false›]; decide)]; exact hbd2
    · exact absurd ‹_ = _› (by omega)
    · skip
      with_unfolding_all refine TurnS.mkc F2 N2 (its, _) trivial ?_ (mem2 (.head _) (.tail _ (.head _))) ?_ ?_ ?_
      · walk_at "off"
      · k_mem
      · walk_at "allne"
      · exact ⟨cur, by rw [hst, normStep, if_pos (by omega)], hitsF trivial, Nat.le_succ_of_le hsz, hbi⟩
  · rintro ⟨its, inn⟩ u h tk ⟨cur, hcur, hits, hsz, hbi⟩ F2 N2
    rw [hll, List.take_length] at hcur
    have hj' : (Txt.join (Str.ofString "/") cur).length ≤ 2000 := by rw [hcur]; exact hj
    dsimp only [List.nil_append, List.cons_append] at F2 N2; have hlt2 := news_lt N2; simp only [AllLt, and_true] at hlt2
    dsimp only at hits hsz hbi
    have hcl2 : its.size = cur.length := by simpa using hits.length
    have hlist : h.IsList _ its.toList.toArray := News.isList N2 (.head _)
    k_steps
    (rename Fr _ _ _ _ => Fz); (rename News _ _ _ _ => Nz)
    refine joinStrs (News.isList Nz (.head _)) hits (Nat.le_of_ble_eq_true rfl) (by omega) (fun z hz => Nat.le_trans (hbi z hz) (by omega)) ?_
    intro tj kj
    k_steps
    · exact End.mk' (by k_asm) ⟨_, by rw [hcur]; rfl⟩
    · exfalso
      have := ‹((_ : Nat) : Int) = 0›
      rw [Str.length_append] at this
      omega
end
section
open PySem PySem.W PyProof.Rows PySem.Calls PySem.Spec
set_option maxRecDepth 100000
set_option maxHeartbeats 8000000
set_option linter.all false
/-- where the reader stands: what is plain so far, what is to come -/
def PlainAt (l : List Nat) (i : Nat) (p : List Nat) (b : Bool) : Prop := ∃ suf, l = p ++ suf ∧
  (if b then (escL l).drop i = escL suf else ∃ c r, suf = c :: r ∧ special c = true ∧ (escL l).drop i = c :: escL r)
theorem plain_turn {l : List Nat} {i : Nat} {p : List Nat} {b : Bool} {c : Nat} (h : PlainAt l i p b) (hc : (escL l)[i]? = some c) :
    (b = true → (c = 92 ∧ PlainAt l (i + 1) p false) ∨ (special c = false ∧ c ≠ 92 ∧ PlainAt l (i + 1) (p ++ [c]) true)) ∧ (b = false → special c = true ∧ PlainAt l (i + 1) (p ++ [c]) true) := by
  obtain ⟨suf, hl, h⟩ := h
  have hil : i < (escL l).length := (List.getElem?_eq_some_iff.mp hc).1
  have hd : (escL l).drop i = c :: (escL l).drop (i + 1) := by
    rw [List.drop_eq_getElem_cons hil]
    rw [(List.getElem?_eq_some_iff.mp hc).2]
  constructor
  · rintro rfl
    simp only [if_true] at h
    cases suf with
    | nil => rw [hd] at h; simp [escL] at h
    | cons d r =>
      rw [escL_cons, hd] at h
      by_cases hs : special d = true
      · rw [if_pos hs] at h
        simp only [List.cons_append, List.nil_append, List.cons.injEq] at h
        exact .inl ⟨h.1, d :: r, hl, by simp only [Bool.false_eq_true, if_false]; exact ⟨d, r, rfl, hs, h.2⟩⟩
      · rw [if_neg hs] at h
        simp only [List.cons_append, List.nil_append, List.cons.injEq] at h
        obtain ⟨rfl, h⟩ := h
        refine .inr ⟨by simpa using hs, fun e => hs (by rw [e]; decide), r, by simp [hl], by simpa using h⟩
  · rintro rfl
    simp only [Bool.false_eq_true, if_false] at h
    obtain ⟨d, r, rfl, hs, h⟩ := h
    rw [hd] at h
    simp only [List.cons.injEq] at h
    obtain ⟨rfl, h⟩ := h
    exact ⟨hs, r, by simp [hl], by simpa using h⟩
theorem plain_done {l p : List Nat} {b : Bool} (h : PlainAt l (escL l).length p b) : b = true ∧ p = l := by
  obtain ⟨suf, hl, h⟩ := h
  rw [List.drop_length] at h
  cases b with
  | false => simp only [Bool.false_eq_true, if_false] at h; obtain ⟨_, _, _, _, h⟩ := h; cases h
  | true =>
    simp only [if_true] at h
    cases suf with
    | nil => exact ⟨rfl, by simp [hl]⟩
    | cons d r => rw [escL_cons] at h; split at h <;> cases h
theorem plainC (w : World) (mean : ExcName → Option Value) (mg mb : Str → Option Value) (l : List Nat) (t : Tok) (hx : (S (escL l)).length ≤ 1000) :
    Con w mean mg mb 211 1 [.str (S (escL l)) t] (fun _ => True) (RStr (S l)) := by
  have hfill := fill
  refine con_of (binds := [(Str.ofString "written", .str (S (escL l)) t)]) (by with_unfolding_all rfl) (by with_unfolding_all rfl) (fun s => BindsTo.of_eq rfl) (locs rfl) (by decide) ?_
  revert hfill
  w_on
  k_fill
  intro hfill dp un gd outer A₀ base h₁ s B F X N T hpre hdp hun
  k_steps
  (rename Fr _ _ _ _ => F1); (rename News _ _ _ _ => N1)
  refine Stop.mk ?_
  refine iter_strS [(Str.ofString "plain"), (Str.ofString "bare")] (fun st : List Nat × Tok × Bool => [.str (S st.1) st.2.1, .bool st.2.2]) [(Str.ofString "sign")] (fun _ => []) (fun i st => st.1.length ≤ i ∧ PlainAt l i st.1 st.2.2) ([], _, true) (fun _ => rfl) rfl F1 N1 ⟨by with_unfolding_all rfl, by with_unfolding_all rfl, trivial⟩ (by simp) ⟨Nat.le_refl _, l, rfl, rfl⟩ ?_ ?_
  · rintro i c tc ⟨p, tp, b⟩ u h tk oI hv ⟨hpl, hpa⟩ hI F2 N2
    have hil : i < (S (escL l)).cps.size := (Array.getElem?_eq_some_iff.mp hv).1
    have hxl : (S (escL l)).cps.size ≤ 1000 := hx
    have hpl2 : (S p).length ≤ 1000 := by have : p.length ≤ i := hpl; show p.toArray.size ≤ 1000; simp; omega
    have hpl3 : p.length ≤ i := hpl
    replace hI := allNe_of hI; simp only [AllNe, and_true] at hI
    dsimp only [List.nil_append, List.cons_append] at F2 N2; have hlt2 := news_lt N2; simp only [AllLt, and_true] at hlt2
    have hcl : (escL l)[i]? = some c := by simpa using hv
    have ht := plain_turn hpa hcl
    dsimp only at hpa ht
    k_steps
    · (rename Fr _ _ _ _ => Fz); (rename News _ _ _ _ => Nz)
      have hbt : b = true := by assumption
      have h1 := ‹((⟨#[c]⟩ : Str) == _) = true›
      rw [isBack] at h1
      have hc92 : c = 92 := of_decide_eq_true h1
      rcases ht.1 hbt with h3 | h3
      · with_unfolding_all refine TurnS.mk' Fz Nz (p, _, false) ⟨rfl, rfl, trivial⟩ ?_ mem0 ?_ ?_ ⟨Nat.le_succ_of_le hpl3, h3.2⟩
        · walk_at "off"
        · k_mem
        · walk_at "allne"
      · exact absurd hc92 h3.2.1
    · exfalso
      have hbt : b = true := by assumption
      have h1 := ‹((⟨#[c]⟩ : Str) == _) = false›
      rw [isBack] at h1
      have h2 := ‹(b == _) = true›
      rw [inSp, hbt] at h2
      rcases ht.1 hbt with h3 | h3
      · exact of_decide_eq_false h1 h3.1
      · rw [h3.1] at h2; cases h2
    · (rename Fr _ _ _ _ => Fz); (rename News _ _ _ _ => Nz)
      have hbt : b = true := by assumption
      have h1 := ‹((⟨#[c]⟩ : Str) == _) = false›
      rw [isBack] at h1
      rcases ht.1 hbt with h3 | h3
      · exact absurd h3.1 (of_decide_eq_false h1)
      · rw [S_snoc] at Fz
        with_unfolding_all refine TurnS.mk' Fz Nz (p ++ [c], _, true) ⟨rfl, rfl, trivial⟩ ?_ mem0 ?_ ?_ ⟨by simp; omega, h3.2.2⟩
        · walk_at "off"
        · k_mem
        · walk_at "allne"
    · exfalso
      have hbt : b = false := by assumption
      have h2 := ‹(b == _) = true›
      rw [inSp, hbt, (ht.2 hbt).1] at h2
      cases h2
    · (rename Fr _ _ _ _ => Fz); (rename News _ _ _ _ => Nz)
      have hbt : b = false := by assumption
      rw [S_snoc] at Fz
      with_unfolding_all refine TurnS.mk' Fz Nz (p ++ [c], _, true) ⟨rfl, rfl, trivial⟩ ?_ mem0 ?_ ?_ ⟨by simp; omega, (ht.2 hbt).2⟩
      · walk_at "off"
      · k_mem
      · walk_at "allne"
  · rintro ⟨p, tp, b⟩ u h tk ⟨hpl, hpa⟩ F2 N2
    dsimp only [List.nil_append, List.cons_append] at F2 N2; have hlt2 := news_lt N2; simp only [AllLt, and_true] at hlt2
    have hpa2 : PlainAt l (escL l).length p b := by simpa using hpa
    obtain ⟨rfl, rfl⟩ := plain_done hpa2
    k_steps
    all_goals first | exact End.mk' (by assumption) (strEq rfl) | (exfalso; simp_all; done)
end
section
open PySem PySem.W PyProof.Rows PySem.Calls PySem.Spec
set_option maxRecDepth 100000
set_option maxHeartbeats 8000000
set_option linter.all false
local macro_rules | `(tactic| walk_at "eval ListComp") => `(tactic| (k_here; refine stop_intro ?_))
local macro_rules | `(tactic| walk_at "exec Assign cons ListComp") => `(tactic| (k_here; refine stop_intro ?_))
local macro_rules | `(tactic| walk_at "CompPack") => `(tactic| (refine stop_intro ?_))
local macro_rules | `(tactic| walk_at "subscriptTail Name Slice str ref") => `(tactic| (k_here; (with_reducible show wpAny _ _ (subscriptTail _ (Expr.Slice (some _) none none _) _ _) _ _ _); (refine sliceK_sn (s := ⟨_, _, _, _, _⟩) (by omega) ?_); intro h' t' k' st'))
local macro_rules | `(tactic| walk_at "subscriptTail Name Slice str ref") => `(tactic| (k_here; (with_reducible show wpAny _ _ (subscriptTail _ (Expr.Slice none (some _) none _) _ _) _ _ _); (refine sliceK_ns (s := ⟨_, _, _, _, _⟩) (by omega) ?_); intro h' t' k' st'))
local macro_rules | `(tactic| walk_at "subscriptTail Name Slice ref ref") => `(tactic| (k_here; refine slice_list (by k_asm) (by k_asm) (News.isList (by k_asm) (by k_mem)) (by first | exact .none | exact .int _ _) (by first | exact .none | exact .int _ _) ?_; intro _ _ _))
local macro_rules | `(tactic| walk_at "binaryOp Add ref ref") => `(tactic| (k_here; refine stop_intro ?_))
def decL : List Nat → List Nat
  | [] => []
  | [c] => [c]
  | c :: d :: r => if c = 92 then d :: decL r else c :: decL (d :: r)
theorem decL_ne {c : Nat} (h : c ≠ 92) (r : List Nat) : decL (c :: r) = c :: decL r := by cases r with
  | nil => simp [decL]
  | cons d r => rw [decL, if_neg h]
theorem decL_escL (l : List Nat) : decL (escL l) = l := by
  induction l with
  | nil => rfl
  | cons c r ih =>
    rw [escL_cons]
    by_cases h : special c = true
    · rw [if_pos h]; show decL (92 :: c :: escL r) = _; rw [decL, if_pos rfl, ih]
    · rw [if_neg h]; show decL (c :: escL r) = _; rw [decL_ne (fun e => h (by rw [e]; decide)), ih]
def decS (x : Str) : Str := S (decL x.cps.toList)
theorem decS_S (l : List Nat) : decS (S (escL l)) = S l := by rw [decS]; show S (decL (escL l).toArray.toList) = _; rw [List.toList_toArray, decL_escL]
local macro_rules | `(tactic| walk_at "compareOp In none ref") => `(tactic| (k_here; refine stop_intro ?_))
local macro_rules | `(tactic| walk_at "call ref") => `(tactic| (k_here; refine stop_intro ?_))
def notClosed (g : Str) : Bool := (Txt.slice g (some (-1)) none != (Str.ofString ")"))
theorem partsC (w : World) (mean : ExcName → Option Value) (mg mb : Str → Option Value) (x : Str) (t : Tok) (hdx : Str) (x0 : List Nat) (mids : List (List Nat)) (xl : List Nat) (hx : x.length ≤ 1000) (hrp : Txt.rpartition x (Str.ofString ".*") = (hdx, (Str.ofString ".*"), S (escL xl))) (hls : (S (escL xl)).length ≤ 1000) (hhd : hdx.length ≤ 1000)
    (hsp : Txt.split hdx (Str.ofString "(?>.*?") = S (escL x0) :: mids.map fun m => S (escL m ++ [41])) (hgs : mids.length ≤ 100) (h0 : (S (escL x0)).length ≤ 1000) (hmd : ∀ m ∈ mids, (S (escL m ++ [41])).length ≤ 1000) :
    Con w mean mg mb 216 12 [.str x t] (fun _ => True) (RStrs ((x0 :: mids ++ [xl]).map S)) := by
  have hp1 := rpart_fst x (Str.ofString ".*")
  have hp2 := rpart_snd x (Str.ofString ".*")
  have e2 : (Txt.rpartition x (Str.ofString ".*")).2.2 = S (escL xl) := by rw [hrp]
  have hcut : ∀ md : List Nat, Txt.slice (S (escL md ++ [41])) none (some (-1)) = S (escL md) := fun _ => sliceBut _ _
  have hend : ∀ md : List Nat, Txt.slice (S (escL md ++ [41])) (some (-1)) none = (Str.ofString ")") := fun _ => (sliceLast _ _).trans (by decide +kernel)
  have e1 : (Txt.rpartition x (Str.ofString ".*")).1 = hdx := by rw [hrp]
  have hfill := fill
  refine con_of (binds := [(Str.ofString "pattern", .str x t)]) (by with_unfolding_all rfl) (by with_unfolding_all rfl) (fun s => BindsTo.of_eq rfl) (locs rfl) (by decide) ?_
  revert hfill
  w_on
  k_fill
  intro hfill dp un gd outer A₀ base h₁ s B F X N T hpre hdp hun
  k_steps
  · exfalso
    rename (_ == _) = true => hq
    rw [show (Txt.rpartition x (Str.ofString ".*")).2.1 = (Str.ofString ".*") by rw [hrp]] at hq
    exact absurd hq (by decide +kernel)
  rename StrsAre _ _ => hg
  rename List.map _ _ = Txt.split _ _ => hlook'
  rw [hlook', e1, hsp] at hg
  have hlF : True → List.map _ _ = S (escL x0) :: mids.map fun m => S (escL m ++ [41]) := fun _ => by rw [hlook', e1, hsp]
  have hgF : True → StrsAre _ _ := fun _ => hg
  have hlt2 := news_lt (by assumption : News _ _ _ _)
  (refine Stop.mk ?_; (refine' listComp_fr ItemKind.str notClosed PyData.str (by assumption) ?hh ?hclos ?hcell ?hkind ?hnames ?hx ?_ ?hs); (case hh => with_unfolding_all rfl); (case hclos => with_unfolding_all rfl); (case hcell => decide); (case hkind => with_unfolding_all rfl); (case hnames => decide); (case hx => with_unfolding_all rfl); (case hs => intro _; with_unfolding_all rfl))
  k_steps
  (rename Fr _ _ _ _ => F1); (rename News _ _ _ _ => N1)
  refine Stop.mk ?_
  refine CompPack.intro ?_
  with_unfolding_all refine ⟨_, _, _, _, rfl, News.isList N1 (.head _), StrsAre.areOf (strs_from1 (hgF trivial)), ?hsz, F1, N1, ?tst, ?el, ?done⟩
  case hsz => rw [PySem.sizeLine_eq]; simp; omega
  case tst =>
    intro C a v s₂ m₂ E' hc ha hv hn hm hk
    have F2 := compFr F1 hc hn hk
    obtain ⟨ta, rfl⟩ := hv
    have hal : a.length ≤ 1000 := by obtain ⟨md, hm9, rfl⟩ := List.mem_map.mp ha; exact hmd md hm9
    clear F1 N1
    k_steps
    all_goals exact ⟨_, _, rfl, by assumption⟩
  case el =>
    intro C a v s₂ m₂ E' hc ha hv hp hn hm hk
    exfalso
    obtain ⟨md, hm9, rfl⟩ := List.mem_map.mp ha
    rw [notClosed, hend] at hp
    exact absurd hp (by decide +kernel)
  case done =>
    intro D ys h' tk F' N' hD hlD hpl hc
    rw [List.filter_eq_nil_iff.mpr (fun a ha => by obtain ⟨md, hm9, rfl⟩ := List.mem_map.mp ha; rw [notClosed, hend]; decide +kernel)] at hc
    cases hc
    obtain ⟨n, N3⟩ := compNews F' N' hD hpl
    k_steps
    (rename Fr _ _ _ _ => F4); (rename News _ _ _ _ => N4)
    (refine Stop.mk ?_; (refine' listComp_fr ItemKind.str (fun _ => true) (fun g => PyData.str (Txt.slice g none (some (-1)))) (by assumption) ?hh ?hclos ?hcell ?hkind ?hnames ?hx ?_ ?hs); (case hh => with_unfolding_all rfl); (case hclos => with_unfolding_all rfl); (case hcell => decide); (case hkind => with_unfolding_all rfl); (case hnames => decide); (case hx => with_unfolding_all rfl); (case hs => intro _; with_unfolding_all rfl))
    k_steps
    (rename Fr _ _ _ _ => F5); (rename News _ _ _ _ => N5)
    refine Stop.mk ?_
    refine CompPack.intro ?_
    with_unfolding_all refine ⟨_, _, _, _, rfl, News.isList N5 (.head _), StrsAre.areOf (strs_from1 (hgF trivial)), ?hsz2, F5, N5, ?tst2, ?el2, ?done2⟩
    case hsz2 => rw [PySem.sizeLine_eq]; simp; omega
    case tst2 =>
      intro C a v s₂ m₂ E' hc ha hv hn hm hk
      k_steps
      all_goals exact ⟨_, _, rfl, fun _ _ e => e⟩
    case el2 =>
      intro C a v s₂ m₂ E' hc ha hv hp hn hm hk
      have F2 := compFr F5 hc hn hk
      obtain ⟨ta, rfl⟩ := hv
      have hal : a.length ≤ 1000 := by obtain ⟨md, hm9, rfl⟩ := List.mem_map.mp ha; exact hmd md hm9
      clear F4 N4 F5 N5
      k_steps
      · exact .str _ _
      all_goals exact ⟨_, _, rfl, by assumption⟩
    case done2 =>
      intro D2 ys2 h2 tk2 F' N' hD hlD hpl hc
      (rename (List.map _ _)[Int.toNat 0]? = some _ => hy0)
      rw [hlF trivial] at hy0
      simp only [Int.toNat_zero, List.getElem?_cons_zero, Option.some.injEq] at hy0
      subst hy0
      have hc2 := StrsAre.of_carried (ys := mids.map fun m => S (escL m)) (by
        rw [List.filter_eq_self.mpr (by intros; rfl)] at hc
        simpa [hcut, Function.comp_def] using hc)
      obtain ⟨n2, N6⟩ := compNews F' N' hD hpl
      clear N'
      k_steps
      (rename Fr _ _ _ _ => F7); (rename News _ _ _ _ => N7)
      refine Stop.mk ?_
      refine addLists (vs := [_]) (ws := ys2) F7 N7 (News.isList N7 (by k_mem)) (News.isList N7 (by k_mem)) (by rw [hc2.length]; simp; omega) ?_
      intro D3 h3 F8 N8 l8
      k_steps
      (rename Fr _ _ _ _ => F9); (rename News _ _ _ _ => N9)
      refine Stop.mk ?_
      refine addLists (vs := [_] ++ ys2) (ws := [_]) F9 N9 (News.isList N9 (by k_mem)) (News.isList N9 (by k_mem)) (by simp [hc2.length]; omega) ?_
      intro D4 h4 F10 N10 l10
      k_steps
      (rename Fr _ _ _ _ => F11); (rename News _ _ _ _ => N11)
      (refine Stop.mk ?_; (refine' assignComp_fr ItemKind.str (fun _ => true) (fun g => PyData.str (decS g)) (by assumption) ?hsw ?hL ?hh ?hclos ?hcell ?hkind ?hnames ?hx ?hy ?hp ?_ ?hs); (case hsw => with_unfolding_all rfl); (case hL => with_unfolding_all rfl); (case hh => with_unfolding_all rfl); (case hclos => with_unfolding_all rfl); (case hcell => decide); (case hkind => with_unfolding_all rfl); (case hnames => decide); (case hx => with_unfolding_all rfl); (case hy => with_unfolding_all rfl); (case hp => with_unfolding_all rfl); (case hs => intro _; with_unfolding_all rfl))
      k_steps
      refine Stop.mk ?_
      refine CompPack.intro ?_
      have hwr : ∀ ta9 tb9, StrsAre ([Value.str (S (escL x0)) ta9] ++ ys2 ++ [Value.str (Txt.rpartition x (Str.ofString ".*")).2.2 tb9]) ((x0 :: mids ++ [xl]).map fun m => S (escL m)) := by
        intro ta9 tb9
        rw [e2]
        simp only [List.cons_append, List.nil_append, List.map_append, List.map_cons, List.map_nil]
        exact .cons _ _ (hc2.append' (.cons _ _ .nil))
      have hbd : ∀ a ∈ (x0 :: mids ++ [xl]).map (fun m => S (escL m)), a.length ≤ 1000 ∧ ∃ l, a = S (escL l) := by
        intro a ha
        obtain ⟨l, hl, rfl⟩ := List.mem_map.mp ha
        refine ⟨?_, l, rfl⟩
        rcases List.mem_append.mp hl with hl | hl
        · rcases List.mem_cons.mp hl with rfl | hl
          · exact h0
          · refine Nat.le_trans ?_ (hmd l hl)
            simp [S, Str.length]
        · rw [List.mem_singleton.mp hl]; exact hls
      with_unfolding_all refine ⟨_, _, _, _, rfl, News.isList N11 (.head _), StrsAre.areOf (hwr _ _), ?hsz3, F11, N11, ?tst3, ?el3, ?done3⟩
      case hsz3 => rw [PySem.sizeLine_eq]; simp; omega
      case tst3 =>
        intro C a v s₂ m₂ E' hc ha hv hn hm hk
        k_steps
        all_goals exact ⟨_, _, rfl, fun _ _ e => e⟩
      case el3 =>
        intro C a v s₂ m₂ E' hc ha hv hp hn hm hk
        have F2 := compFr F11 hc hn hk
        obtain ⟨ta, rfl⟩ := hv
        obtain ⟨hal, l, rfl⟩ := hbd a ha
        rw [decS_S]
        k_steps
        refine Stop.mk ?_
        refine con_use (plainC w mean mg mb l ta hal) B (frOf F11 hk) X (newsOf N11 hk) T rfl trivial (by omega) (by omega) ?_
        rintro v h9 tk9 F9' N9' st9 ⟨t9, rfl⟩
        exact ⟨.str _ _, _, _, rfl, st9⟩
      case done3 =>
        intro D5 ys3 h5 tk5 F' N' hD hlD hpl hc
        rw [List.filter_eq_self.mpr (by intros; rfl)] at hc
        have hc3 := StrsAre.of_carried (ys := (x0 :: mids ++ [xl]).map S) (by simpa [decS_S, Function.comp_def] using hc)
        have hc3F : True → StrsAre _ _ := fun _ => hc3
        obtain ⟨n3, N12⟩ := compNews F' N' hD hpl
        clear N'
        k_steps
        (rename Fr _ _ _ _ => F13); (rename News _ _ _ _ => N13)
        refine Stop.mk ?_
        refine noneIn_strs (News.isList N13 (by k_mem)) (hc3F trivial) ?_
        k_steps
        exact endObj (by k_asm) (by k_asm) (by k_mem) ⟨_, _, rfl, hc3F trivial⟩
end
section
open PySem PySem.W PyProof.Rows PySem.Calls PySem.Spec
set_option maxRecDepth 100000
set_option maxHeartbeats 8000000
set_option linter.all false
def wayOf (n : Nat) : List Str := (figs 4 (n / 4096)).map spellOf
def namesOf (n : Nat) : List Str := (wayOf n).foldl walkStep []
def rawOf (n : Nat) : Str := joinF (Str.ofString "/") (Txt.join (Str.ofString "/") (wayOf n))
def placeOf (n : Nat) : Str := normF (rawOf n)
structure PlaceOk (n : Nat) : Prop where
  way : (wayOf n).length ≤ 100 ∧ ∀ y ∈ wayOf n, y.length ≤ 1000
  jn : (Txt.join (Str.ofString "/") (wayOf n)).length ≤ 100000
  raw : (rawOf n).length ≤ 1000 ∧ (rawOf n).length ≠ 0
  root : (splitrootF (rawOf n)).2.2.length ≤ 1000 ∧ (splitrootF (rawOf n)).2.1 = (Str.ofString "/") ∧ (Txt.split (splitrootF (rawOf n)).2.2 (Str.ofString "/")).length ≤ 100
    ∧ (Txt.join (Str.ofString "/") ((Txt.split (splitrootF (rawOf n)).2.2 (Str.ofString "/")).foldl normStep [])).length ≤ 2000
  pl : ∃ pl : Nat → Str, pl (namesOf n).length = placeOf n ∧ (∀ k, (pl k).length ≤ 1000) ∧ tailF (pl 0) = (Str.ofString "") ∧
    ∀ k y, (namesOf n)[k]? = some y → dirnameF (pl (k + 1)) = pl k ∧ tailF (pl (k + 1)) = y ∧ (y != (Str.ofString "")) = true
  oks : Oks (namesOf n)
  names : (namesOf n).length ≤ 100 ∧ ∀ y ∈ namesOf n, y.length ≤ 1000
  gr : (joinF (placeOf n) (Str.ofString "")).length ≤ 1000
  place : (placeOf n).length ≤ 1000 ∧ ∀ i, (iterD i (placeOf n)).length ≤ 900
structure RuleOk (r : Nat) : Prop where
  rule : (ruleF r).length ≤ 100 ∧ (∀ y ∈ ruleF r, y.length ≤ 1000) ∧ Oks (ruleF r)
  hung : ∀ i, (foldJ (Str.ofString "/") ((ruleF r).take i)).length ≤ 100000
  parts : ∃ (l x0 : List Nat) (mids : List (List Nat)) (xl : List Nat) (hdx : Str), joinF (foldJ (Str.ofString "/") (ruleF r)) (Str.ofString "") = S l ∧ l.length ≤ 1000 ∧ Txt.split (S l) (Str.ofString "*") = (x0 :: mids ++ [xl]).map S ∧ mids.length ≤ 90 ∧ (∀ x ∈ x0 :: mids ++ [xl], x.length ≤ 400) ∧
    (patF ((x0 :: mids ++ [xl]).map fun x => S (escL x))).length ≤ 1000 ∧ Txt.rpartition (patF ((x0 :: mids ++ [xl]).map fun x => S (escL x))) (Str.ofString ".*") = (hdx, (Str.ofString ".*"), S (escL xl)) ∧ hdx.length ≤ 1000 ∧
    Txt.split hdx (Str.ofString "(?>.*?") = S (escL x0) :: mids.map (fun m => S (escL m ++ [41])) ∧
    ∀ n, n < 16777216 → (headsF (ruleF r) (namesOf n) = [] → takenF (S x0) (mids.map S) (S xl) (joinF (placeOf n) (Str.ofString "")) = (Str.ofString "")) ∧
      ∀ hs : headsF (ruleF r) (namesOf n) ≠ [], (∀ h ∈ headsF (ruleF r) (namesOf n), h ≤ (namesOf n).length) ∧
        ∀ M, M ∈ headsF (ruleF r) (namesOf n) → (∀ h ∈ headsF (ruleF r) (namesOf n), h ≤ M) → takenF (S x0) (mids.map S) (S xl) (joinF (placeOf n) (Str.ofString "")) = joinF (iterD ((namesOf n).length - M) (placeOf n)) (Str.ofString "")
inductive Places (ex : List (Addr × Obj)) : List Value → List Nat → Prop
  | nil : Places ex [] []
  | cons {T l : Addr} {t : Tok} {vs : List Value} {k n : Nat} {its : List Value} {ns : List Nat} : (T, tupO [.str (placeOf n) t, .ref l]) ∈ ex → (l, lstO vs k) ∈ ex → StrsAre vs (namesOf n) → Places ex its ns → Places ex (.ref T :: its) (n :: ns)
theorem Places.more {ex ex' : List (Addr × Obj)} (h : ∀ p ∈ ex, p ∈ ex') {its : List Value} {ns : List Nat} (P : Places ex its ns) : Places ex' its ns := by
  induction P with
  | nil => exact .nil
  | cons a b c _ ih => exact .cons (h _ a) (h _ b) c ih
theorem Places.snoc {ex : List (Addr × Obj)} {T l : Addr} {t : Tok} {vs : List Value} {k n : Nat} (a : (T, tupO [.str (placeOf n) t, .ref l]) ∈ ex) (b : (l, lstO vs k) ∈ ex) (c : StrsAre vs (namesOf n)) {its : List Value} {ns : List Nat} (P : Places ex its ns) : Places ex (its ++ [.ref T]) (ns ++ [n]) := by
  induction P with
  | nil => exact .cons a b c .nil
  | cons a' b' c' _ ih => exact .cons a' b' c' ih
theorem Places.item {ex : List (Addr × Obj)} {its : List Value} {ns : List Nat} (P : Places ex its ns) : ∀ {i : Nat} {v : Value}, its[i]? = some v → ∃ n T l t vs k, n ∈ ns ∧ v = .ref T ∧ (T, tupO [.str (placeOf n) t, .ref l]) ∈ ex ∧ (l, lstO vs k) ∈ ex ∧ StrsAre vs (namesOf n) := by
  induction P with
  | nil => intro i v h; simp at h
  | cons a b c _ ih =>
    intro i v h
    cases i with
    | zero => simp at h; subst h; exact ⟨_, _, _, _, _, _, .head _, rfl, a, b, c⟩
    | succ i => obtain ⟨n, T, l, t, vs, k, h0, h⟩ := ih (by simpa using h); exact ⟨n, T, l, t, vs, k, .tail _ h0, h⟩
theorem Places.length {ex : List (Addr × Obj)} {its : List Value} {ns : List Nat} (P : Places ex its ns) : its.length = ns.length := by
  induction P with
  | nil => rfl
  | cons _ _ _ _ ih => simp [ih]
theorem fdiv4096 (n : Nat) : (n : Int).fdiv 4096 = ((n / 4096 : Nat) : Int) := by rw [Int.fdiv_eq_ediv_of_nonneg _ (by decide)]; rfl
theorem fmod4096 (n : Nat) : (n : Int).fmod 4096 = ((n % 4096 : Nat) : Int) := by rw [Int.fmod_eq_emod_of_nonneg _ (by decide)]; rfl
theorem allLt_mem {d : Addr} : ∀ {l : List (Addr × Obj)}, AllLt d l → ∀ p ∈ l, p.1 < d := by
  intro l
  induction l with
  | nil => intro _ p hp; cases hp
  | cons q r ih =>
    intro h p hp
    rcases List.mem_cons.mp hp with rfl | hp
    · exact h.1
    · exact ih h.2 p hp
end
section
open PySem PySem.W PyProof.Rows PySem.Calls PySem.Spec
set_option maxRecDepth 100000
set_option maxHeartbeats 8000000
set_option linter.all false
local macro_rules | `(tactic| walk_at "eval ListComp") => `(tactic| (k_here; refine stop_intro ?_))
local macro_rules | `(tactic| walk_at "CompPack") => `(tactic| (refine stop_intro ?_))
local macro_rules | `(tactic| walk_at "binaryOp Add ref ref") => `(tactic| (k_here; refine stop_intro ?_))
local macro_rules | `(tactic| walk_at "call ref") => `(tactic| (k_here; refine stop_intro ?_))
local macro_rules | `(tactic| walk_at "compareOp NotEq ref ref") => `(tactic| (k_here; refine stop_intro ?_))
local macro_rules | `(tactic| walk_at "exec For Tuple Name cons nil") => `(tactic| (k_here; refine stop_intro ?_))
local macro_rules | `(tactic| walk_at "pyIter ref") => `(tactic| ((with_reducible show wpAny _ _ (pyIter (Value.ref _)) (fun it s₂ => LoopAtT _ _ _ _ _ _ _ _ _ it s₂) _ _); refine stop_intro ?_))
theorem absmod (a : Int) : ((if a < 0 then -a else a).fmod 16777216) = ((a.natAbs % 16777216 : Nat) : Int) := by
  rw [Int.fmod_eq_emod_of_nonneg _ (by decide)]
  have : (if a < 0 then -a else a) = ((a.natAbs : Nat) : Int) := by split <;> omega
  rw [this]; rfl
theorem headAddr {h₀ h : Heap} {L : Addr} {p : Addr × Obj} {r : List (Addr × Obj)} (_N : News h₀ L h (p :: r)) : ∃ a, a = p.1 := ⟨_, rfl⟩
theorem newsPut {h₀ h : Heap} {L : Addr} {p : Addr × Obj} {r : List (Addr × Obj)} (N : News h₀ L h r) (hp : p ∈ r) : News h₀ L h (p :: r) := fun q hq => by
  rcases List.mem_cons.mp hq with rfl | hq
  · exact N _ hp
  · exact N _ hq
theorem offN {fg : List Str} {m' m₀ : Str → Option Value} (h : ∀ y, Off y [] → Off y fg → m' y = m₀ y) : ∀ y, Off y fg → m' y = m₀ y := fun y h2 => h y trivial h2
theorem natAt {vs : List Value} {Ns : List Nat} (h : IntsAre vs (Ns.map fun (n : Nat) => (n : Int))) {i : Nat} {v : Value} (hv : vs[i]? = some v) : ∃ n t, Ns[i]? = some n ∧ v = .int (n : Int) t := by
  obtain ⟨k, t, rfl, hk⟩ := h.at i v hv
  rw [List.getElem?_map] at hk
  cases e : Ns[i]? with
  | none => rw [e] at hk; cases hk
  | some n => rw [e] at hk; cases hk; exact ⟨n, t, rfl, rfl⟩
theorem lawWalk (hP : ∀ n, n < 16777216 → PlaceOk n) (hR : ∀ r, r < 4096 → RuleOk r) : PySem.Challenge.rw_rt0030_01.Holds := hd (by rfl) (by rfl) (by rfl) (by
  k_go0
  (rename Below _ _ _ _ => hB); (rename Top _ _ _ _ _ _ => hT); (rename Frag.In _ _ => hX)
  k_steps
  rename IntsAre _ _ => hI0
  rename List Int => ns
  (refine Stop.mk ?_; (refine' listComp_fr ItemKind.int (fun _ => true) (fun x => PyData.int (x.natAbs % 16777216 : Nat)) (by assumption) ?hh ?hclos ?hcell ?hkind ?hnames ?hx ?_ ?hs); (case hh => with_unfolding_all rfl); (case hclos => with_unfolding_all rfl); (case hcell => decide); (case hkind => with_unfolding_all rfl); (case hnames => decide); (case hx => with_unfolding_all rfl); (case hs => intro _; with_unfolding_all rfl))
  k_steps
  (rename Fr _ _ _ _ => F1); (rename News _ _ _ _ => N1)
  (rename IntsAre _ (List.take 3 _) => hI3)
  refine Stop.mk ?_
  refine CompPack.intro ?_
  have hlen3 : (List.take 3 ns).length ≤ 3 := by rw [List.length_take]; omega
  with_unfolding_all refine ⟨_, _, _, _, rfl, News.isList N1 (.head _), hI3.areOf, ?hsz, F1, N1, ?tst, ?el, ?done⟩
  case hsz => rw [PySem.sizeLine_eq]; omega
  case tst =>
    intro C a v s₂ m₂ E' hc ha hv hn hm hk
    k_steps
    all_goals exact ⟨_, _, rfl, fun _ _ e => e⟩
  case el =>
    intro C a v s₂ m₂ E' hc ha hv hp hn hm hk
    have F2 := compFr F1 hc hn hk
    obtain ⟨ta, rfl⟩ := hv
    k_steps
    · rw [absmod]
      exact .int _ _
    all_goals exact ⟨_, _, rfl, fun _ _ e => e⟩
  case done =>
    intro D ys h' tk F' N' hD hlD hpl hc
    rw [List.filter_eq_self.mpr (by intros; rfl)] at hc
    have hNs : ∀ ta tb, ∃ Ns : List Nat, IntsAre ([Value.int 692243 ta, Value.int 9314344 tb] ++ ys) (Ns.map fun (n : Nat) => (n : Int)) ∧ (∀ n ∈ Ns, n < 16777216) ∧ Ns.length ≤ 5 := by
      intro ta tb
      refine ⟨692243 :: 9314344 :: (List.take 3 ns).map (fun x => x.natAbs % 16777216), .cons _ _ (.cons _ _ (by simpa [Function.comp_def] using CarriedAll.intsOf hc)), ?_, by simp only [List.length_cons, List.length_map]; omega⟩
      intro n hn
      rcases List.mem_cons.mp hn with rfl | hn
      · decide
      rcases List.mem_cons.mp hn with rfl | hn
      · decide
      obtain ⟨x, _, rfl⟩ := List.mem_map.mp hn
      exact Nat.mod_lt _ (by decide)
    have hysl : ys.length ≤ 3 := by rw [hc.length_eq]; simpa using hlen3
    obtain ⟨n, N3⟩ := compNews F' N' hD hpl
    clear N' hc hI3 hI0 F1 N1 hpl hlD
    k_steps
    (rename Fr _ _ _ _ => F4); (rename News _ _ _ _ => N4)
    refine Stop.mk ?_
    refine addLists (vs := [_, _]) (ws := ys) F4 N4 (News.isList N4 (by k_mem)) (News.isList N4 (by k_mem)) (by simp; omega) ?_
    intro D4 h4 F5 N5 l5
    obtain ⟨Ns, hNi, hNlt, hNl⟩ := hNs _ _
    k_steps
    (rename Fr _ _ _ _ => F6); (rename News _ _ _ _ => N6)
    obtain ⟨lp, hlp⟩ := headAddr N6
    dsimp only at hlp
    subst hlp
    have hlpD : D4 ≠ lp := by (rename (_ < lp ∧ _) => hl1); exact Nat.ne_of_lt hl1.1
    refine Stop.mk ?_
    refine iter_listS [] (fun _ : Array Value × Nat × List (Addr × Obj) => []) [(Str.ofString "n"), (Str.ofString "way"), (Str.ofString "place"), (Str.ofString "names")] (fun st => (lp, W.listOf st.1 st.2.1) :: (_, _) :: st.2.2) (fun i st => Places st.2.2 st.1.toList (Ns.take i) ∧ ∀ p ∈ st.2.2, p.1 ≠ lp) (#[], 0, []) (fun _ => rfl) rfl F6 N6 (News.isList N6 (.tail _ (.head _))) (N6 _ (.tail _ (.head _))).2.1 (.inr ⟨_, fun _ => .tail _ (.head _)⟩) trivial (mem2 (.head _) (.tail _ (.head _))) ⟨.nil, fun _ h => nomatch h⟩ ?_ ?_
    · rintro i v ⟨its, inn, ex⟩ u h tk oI hv ⟨hpl, hex⟩ hI F2 N2
      obtain ⟨n, tn, hnm, rfl⟩ := natAt hNi hv
      have hnlt := hNlt n (List.mem_of_getElem? hnm)
      have hok := hP n hnlt
      dsimp only [List.nil_append, List.cons_append] at F2 N2
      k_steps
      refine Stop.mk ?_
      rw [fdiv4096]
      refine con_obj (spelledC _ _ _ _ (n / 4096) _ (by omega)) hB (by k_asm) hX (by k_asm) hT rfl trivial (by decide) (by decide) ?_
      rintro q1 o1 h1 tk1 F7 N7 l7 ⟨vs1, k1, rfl, hs1⟩
      k_steps
      (rename News _ _ _ _ => N8)
      have hs1F : True → StrsAre vs1 (wayOf n) := fun _ => hs1
      refine joinStrs (News.isList N8 (.head _)) (hs1F trivial) (Nat.le_of_ble_eq_true rfl) (Nat.le_trans hok.way.1 (by decide)) (fun z hz => Nat.le_trans (hok.way.2 z hz) (by decide)) ?_
      intro tj kj
      k_steps
      refine Stop.mk ?_
      refine con_str (joinC _ _ _ _ _ _ _ _ (by decide +kernel) hok.jn) hB (by k_asm) hX (by k_asm) hT rfl trivial (by decide) (by decide) ?_
      intro t2 h2 tk2 F9 N9
      k_steps
      refine Stop.mk ?_
      refine con_str (normC _ _ _ _ (rawOf n) _ hok.raw.1 hok.raw.2 hok.root.1 hok.root.2.1 hok.root.2.2.1 hok.root.2.2.2) hB (by k_asm) hX (by k_asm) hT rfl trivial (by decide) (by decide) ?_
      intro t3 h3 tk3 F10 N10
      k_steps
      refine Stop.mk ?_
      obtain ⟨pl, hpl1, hpl2, hpl3, hpl4⟩ := hok.pl
      rw [show normF (rawOf n) = pl (namesOf n).length from hpl1.symm]
      refine con_obj (namesC _ _ _ _ pl (namesOf n) _ hok.names.1 hpl2 hpl3 hpl4) hB (by k_asm) hX (by k_asm) hT rfl trivial (by decide) (by decide) ?_
      rintro q2 o2 h4 tk4 F11 N11 l11 ⟨vs2, k2, rfl, hs2⟩
      have hs2F : True → StrsAre vs2 (namesOf n) := fun _ => hs2
      k_steps
      refine Stop.mk ?_
      refine con_obj (walkedC _ _ _ _ _ vs1 (wayOf n) (hs1F trivial) hok.way.1) hB (by k_asm) hX (by k_asm) hT rfl ?_ (by decide) (by decide) ?_
      · exact News.isList (by k_asm) (by k_mem)
      rintro q3 o3 h5 tk5 F12 N12 l12 ⟨vs3, k3, rfl, hs3⟩
      have hs3F : True → StrsAre vs3 (namesOf n) := fun _ => hs3
      k_steps
      (rename News _ _ _ _ => N13)
      refine Stop.mk ?_
      refine neStrs (News.isList N13 (by k_mem)) (hs2F trivial) (News.isList N13 (by k_mem)) (hs3F trivial) (by show (7 : Nat) + 64 < cLine; decide) hok.oks hok.oks ?_
      rw [decide_eq_true rfl]
      k_steps
      (rename Fr _ _ _ _ => F14); (rename News _ _ _ _ => N14)
      obtain ⟨T9, hT9⟩ := headAddr N14
      dsimp only at hT9
      subst hT9
      have e7 := l7 _ (.head _)
      have e11 := l11 _ (.tail _ (.head _))
      have e12 := l12 _ (.tail _ (.tail _ (.head _)))
      (rename (_ < T9 ∧ _) => l14)
      have hexI : ∀ p ∈ ex ++ [(_, oI)], p.1 ≠ lp := fun p hp => by
        rcases List.mem_append.mp hp with h | h
        · exact hex p h
        · rw [List.mem_singleton.mp h]; exact (hI _ (.head _)).symm
      refine append_K F14 N14 (.tail (Nat.ne_of_gt l14.2.2.2.1) (.tail e12.symm (.tail e11.symm (.tail e7.symm (.head (List.forall_mem_cons.mpr ⟨hlpD, hexI⟩)))))) ?_ ?hz9
      case hz9 => rw [PySem.sizeLine_eq]; have := hpl.length; rw [List.length_take] at this; simp only [Array.length_toList] at this; omega
      intro h9 F15 N15
      k_steps
      have iq := l11 _ (.tail _ (.tail _ (.tail _ (List.mem_append_right ex (.head _)))))
      have iT := allLt_mem l14.2.2.2.2.2 _ (List.mem_append_right ex (.head _))
      with_unfolding_all refine TurnS.mk' F15 N15 (its.push (.ref T9), inn + 1, (T9, tupO [.str (placeOf n) t3, .ref q2]) :: (q2, lstO vs2 k2) :: ex) trivial ?_ ?_ ?_ ?_ ?_
      · walk_at "off"
      · intro p hp
        rcases List.mem_cons.mp hp with rfl | hp
        · exact .tail _ (.tail _ (.tail _ (.tail _ (.head _))))
        rcases List.mem_cons.mp hp with rfl | hp
        · exact .tail _ (.tail _ (.tail _ (.tail _ (.tail _ (.head _)))))
        rcases List.mem_cons.mp hp with rfl | hp
        · exact .head _
        rcases List.mem_cons.mp hp with rfl | hp
        · exact .tail _ (.tail _ (.head _))
        exact .tail _ (.tail _ (.tail _ (.tail _ (.tail _ (.tail _ (List.mem_append_left _ hp))))))
      · exact .tail _ (.tail _ (.tail _ (.tail _ (.tail _ (.tail _ (List.mem_append_right _ (.head _)))))))
      · intro p hp
        rcases List.mem_cons.mp hp with rfl | hp
        · exact (hI (lp, W.listOf its inn) (.head _) : lp ≠ _)
        rcases List.mem_cons.mp hp with rfl | hp
        · exact hI (D4, _) (.tail _ (.head _))
        rcases List.mem_cons.mp hp with rfl | hp
        · exact Nat.ne_of_gt iT
        rcases List.mem_cons.mp hp with rfl | hp
        · exact Ne.symm iq
        exact hI _ (.tail _ (.tail _ hp))
      · refine ⟨?_, ?_⟩
        · rw [Array.toList_push, List.take_add_one, hnm]
          refine Places.snoc (t := t3) (.head _) (.tail _ (.head _)) (hs2F trivial) (hpl.more fun p hp => .tail _ (.tail _ hp))
        · intro p hp
          rcases List.mem_cons.mp hp with rfl | hp
          · exact Nat.ne_of_gt l14.2.2.2.1
          rcases List.mem_cons.mp hp with rfl | hp
          · exact Ne.symm e11
          exact hex p hp
    · rintro ⟨its, inn, ex⟩ u h tk ⟨hpl, hex⟩ F2 N2
      dsimp only at hpl hex
      have hpl' : Places ex its.toList Ns := by
        have e := hNi.length
        rw [List.length_map] at e
        rw [← List.take_length (l := Ns), ← e]
        exact hpl
      k_steps
      (rename Fr _ _ _ _ => F6); (rename News _ _ _ _ => N6)
      refine Stop.mk ?_
      refine iter_listS [] (fun _ : Unit => []) [(Str.ofString "number"), (Str.ofString "pieces"), (Str.ofString "parts"), (Str.ofString "ground"), (Str.ofString "called"), (Str.ofString "due"), (Str.ofString "heads")] (fun _ => (lp, W.listOf its inn) :: (D4, _) :: ex) (fun _ _ => True) () (fun _ => rfl) rfl F6 N6 (News.isList N6 (.tail _ (.head _))) (N6 _ (.tail _ (.head _))).2.1 (.inr ⟨_, fun _ => .tail _ (.head _)⟩) trivial (fun p hp => hp) trivial ?_ ?_
      · rintro i v st u h tk oI hv - hI F2 N2
        obtain ⟨n, tn, hnm, rfl⟩ := natAt hNi hv
        have hok := hR (n % 4096) (Nat.mod_lt _ (by decide))
        dsimp only [List.nil_append, List.cons_append] at F2 N2
        k_steps
        refine Stop.mk ?_
        rw [fmod4096]
        refine con_obj (ruleC _ _ _ _ (n % 4096) _ (Nat.mod_lt _ (by decide))) hB (by k_asm) hX (by k_asm) hT rfl trivial (by decide) (by decide) ?_
        rintro q1 o1 h1 tk1 F7 N7 l7 ⟨vs1, k1, rfl, hs1⟩
        have hs1F : True → StrsAre vs1 (ruleF (n % 4096)) := fun _ => hs1
        obtain ⟨l, x0, mids, xl, hdx, hl1, hl2, hl3, hl4, hl5, hl6, hl7, hl8, hl9, hl10⟩ := hok.parts
        k_steps
        refine Stop.mk ?_
        refine con_str (hungC _ _ _ _ _ vs1 _ (hs1F trivial) hok.rule.2.1 hok.hung) hB (by k_asm) hX (by k_asm) hT rfl ?_ (by decide) (by decide) ?_
        · exact News.isList (by k_asm) (by k_mem)
        intro t2 h2 tk2 F9 N9
        rw [hl1]
        k_steps
        refine Stop.mk ?_
        have hxs : ∀ x ∈ x0 :: mids ++ [xl], (S (escL x)).length ≤ 900 := fun x hx => by rw [S_len]; have := escL_len x; have := hl5 x hx; omega
        refine con_str (translC _ _ _ _ l _ (x0 :: mids ++ [xl]) hl3 hl2 (fun x hx => Nat.le_trans (hl5 x hx) (by decide)) (by simp; omega) (by simp)) hB (by k_asm) hX (by k_asm) hT rfl trivial (by decide) (by decide) ?_
        intro t3 h3 tk3 F10 N10
        k_steps
        refine Stop.mk ?_
        refine con_obj (partsC _ _ _ _ _ _ hdx x0 mids xl hl6 hl7 (Nat.le_trans (hxs xl (by simp)) (by decide)) hl8 hl9 (Nat.le_trans hl4 (by decide)) (Nat.le_trans (hxs x0 (by simp)) (by decide)) (fun m hm => by have := hxs m (by simp [hm]); rw [S_len] at this ⊢; rw [List.length_append]; simp; omega)) hB (by k_asm) hX (by k_asm) hT rfl trivial (by decide) (by decide) ?_
        rintro q2 o2 h4 tk4 F11 N11 l11 ⟨vs2, k2, rfl, hs2⟩
        have hs2F : True → StrsAre vs2 ((x0 :: mids ++ [xl]).map S) := fun _ => hs2
        k_steps
        (rename Fr _ _ _ _ => F12)
        refine Stop.mk ?_
        refine For_invTF F12 ?lit ?lhs
        case lhs => intro _; exact rfl
        k_steps
        (rename News _ _ _ _ => N12)
        refine Stop.mk ?_
        (rename Fr _ _ _ _ => F12)
        refine iter_listT (news := _) [(Str.ofString "ground"), (Str.ofString "called"), (Str.ofString "due"), (Str.ofString "heads")] _ rfl F12 N12 (News.isList N12 (.tail _ (.tail _ (.head _)))) (N12 (lp, W.listOf its inn) (.tail _ (.tail _ (.head _)))).2.1 (.inr ⟨W.listOf its inn, .tail _ (.tail _ (.head _))⟩) (fun p hp => hp) ?_ ?_
        · intro i2 v2 u2 s₁ oI2 hv2 hI2 F13 N13
          obtain ⟨n2, T, lc, tt, vs3, k3, hn2, rfl, hT1, hT2, hs3⟩ := hpl'.item hv2
          have hs3F : True → StrsAre vs3 (namesOf n2) := fun _ => hs3
          have hn2lt := hNlt n2 hn2
          have hok2 := hP n2 hn2lt
          obtain ⟨hd1, hd2⟩ := hl10 n2 hn2lt
          dsimp only [List.nil_append, List.cons_append] at N13
          have N14 : News _ _ _ ((T, tupO [.str (placeOf n2) tt, .ref lc]) :: (lc, lstO vs3 k3) :: _) := newsPut (newsPut N13 (.tail _ (.tail _ (.tail _ (.tail _ (List.mem_append_left _ (List.mem_append_left _ hT2))))))) (.tail _ (.tail _ (.tail _ (.tail _ (.tail _ (List.mem_append_left _ (List.mem_append_left _ hT1)))))))
          clear N13 F12 N12
          k_steps
          refine Stop.mk ?_
          refine con_obj (headsC _ _ _ _ _ vs1 _ _ vs3 _ (hs1F trivial) (hs3F trivial) hok.rule.1 hok2.names.1 hok.rule.2.1 hok2.names.2 hok.rule.2.2 hok2.oks) hB (by k_asm) hX (by k_asm) hT rfl ?_ (by decide) (by decide) ?_
          · exact ⟨News.isList (by k_asm) (by k_mem), News.isList (by k_asm) (by k_mem)⟩
          rintro q4 o4 h5 tk5 F15 N15 l15 ⟨vs4, k4, rfl, hs4⟩
          have hs4F : True → IntsAre vs4 (toI (headsF (ruleF (n % 4096)) (namesOf n2))) := fun _ => hs4
          k_steps
          (rename News _ _ _ _ => N16)
          refine Stop.mk ?_
          refine ke_ne_ints (ms := []) (News.isList N16 (by k_mem)) (News.isList N16 (by k_mem)) (hs4F trivial) .nil (by show (7 : Nat) + 64 < cLine; decide) ?_
          have hs2G : True → StrsAre vs2 (S x0 :: (mids.map S ++ [S xl])) := fun _ => by simpa using hs2F trivial
          have hb2 : ∀ y ∈ S x0 :: (mids.map S ++ [S xl]), y.length ≤ 1000 := fun y hy => by
            have : y ∈ (x0 :: mids ++ [xl]).map S := by simpa using hy
            obtain ⟨z, hz, rfl⟩ := List.mem_map.mp this
            rw [S_len]; exact Nat.le_trans (hl5 z hz) (by decide)
          by_cases hz : headsF (ruleF (n % 4096)) (namesOf n2) = []
          · rw [hz, show (!decide (toI ([] : List Nat) = [])) = false from rfl]
            k_steps
            refine Stop.mk ?_
            refine con_str (joinC _ _ _ _ _ _ _ _ (Nat.le_trans hok2.place.1 (by decide)) (by decide +kernel)) hB (by k_asm) hX (by k_asm) hT rfl trivial (by decide) (by decide) ?_
            intro t6 h6 tk6 F17 N17
            k_steps
            refine Stop.mk ?_
            refine con_str (takenC _ _ _ _ _ vs2 (S x0) (mids.map S) (S xl) _ _ hok2.gr (hs2G trivial) (by simpa using Nat.le_trans hl4 (by decide)) hb2) hB (by k_asm) hX (by k_asm) hT rfl ?_ (by decide) (by decide) ?_
            · exact News.isList (by k_asm) (by k_mem)
            intro t7 h7 tk7 F18 N18
            rw [hd1 hz]
            k_steps
            (rename Fr _ _ _ _ => F19); (rename News _ _ _ _ => N19)
            refine TurnN.mk' F19 N19 ?_ ?_ ?_
            · exact offN (by walk_at "off")
            · intro p hp
              repeat (first | exact List.mem_append_left _ hp | refine List.Mem.tail _ ?_)
            · repeat (first | exact List.mem_append_right _ (.head _) | refine List.Mem.tail _ ?_)
          · rw [show (!decide (toI (headsF (ruleF (n % 4096)) (namesOf n2)) = [])) = true by simp [toI, hz]]
            (rename News _ _ _ _ => N17)
            have hcl : Heap.IsList _ lc vs3.toArray := News.isList N17 (by k_mem)
            have hcl3 : vs3.length = (namesOf n2).length := (hs3F trivial).length
            have hcl4 := hok2.names.1
            have hq4 : Heap.IsList _ q4 vs4.toArray := News.isList N17 (by k_mem)
            have hpos : 0 < (toI (headsF (ruleF (n % 4096)) (namesOf n2))).length := by rw [toI, List.length_map]; exact List.length_pos_iff.mpr hz
            have hi4 := hs4F trivial
            k_steps
            (rename _ ∈ toI _ => hM1); (rename ∀ a, a ∈ toI _ → _ => hM2)
            obtain ⟨M, hM, rfl⟩ := List.mem_map.mp hM1
            have hMl := (hd2 hz).1 M hM
            have hMx : ∀ h ∈ headsF (ruleF (n % 4096)) (namesOf n2), h ≤ M := fun h hh => by have := hM2 _ (List.mem_map.mpr ⟨h, hh, rfl⟩); omega
            have hdue := (hd2 hz).2 M hM hMx
            refine Stop.mk ?_
            rw [show (((namesOf n2).length : Nat) : Int) - (M : Int) = (((namesOf n2).length - M : Nat) : Int) by omega]
            refine con_str (aboveC _ _ _ _ (placeOf n2) _ _ _ (by omega) (fun i => Nat.le_trans (hok2.place.2 i) (by decide))) hB (by k_asm) hX (by k_asm) hT rfl trivial (by decide) (by decide) ?_
            intro t5 h55 tk5 F20 N20
            k_steps
            refine Stop.mk ?_
            refine con_str (joinC _ _ _ _ _ _ _ _ (Nat.le_trans (hok2.place.2 _) (by decide)) (by decide +kernel)) hB (by k_asm) hX (by k_asm) hT rfl trivial (by decide) (by decide) ?_
            intro t6 h6 tk6 F17 N17
            k_steps
            refine Stop.mk ?_
            refine con_str (joinC _ _ _ _ _ _ _ _ (Nat.le_trans hok2.place.1 (by decide)) (by decide +kernel)) hB (by k_asm) hX (by k_asm) hT rfl trivial (by decide) (by decide) ?_
            intro t8 h8 tk8 F21 N21
            k_steps
            refine Stop.mk ?_
            refine con_str (takenC _ _ _ _ _ vs2 (S x0) (mids.map S) (S xl) _ _ hok2.gr (hs2G trivial) (by simpa using Nat.le_trans hl4 (by decide)) hb2) hB (by k_asm) hX (by k_asm) hT rfl ?_ (by decide) (by decide) ?_
            · exact News.isList (by k_asm) (by k_mem)
            intro t7 h7 tk7 F18 N18
            rw [hdue]
            k_steps
            · exact absurd ‹(_ != _) = true› (by simp)
            (rename Fr _ _ _ _ => F19); (rename News _ _ _ _ => N19)
            refine TurnN.mk' F19 N19 ?_ ?_ ?_
            · exact offN (by walk_at "off")
            · intro p hp
              repeat (first | exact List.mem_append_left _ hp | refine List.Mem.tail _ ?_)
            · repeat (first | exact List.mem_append_right _ (.head _) | refine List.Mem.tail _ ?_)
        · intro u3 h9 tk9 F22 N22
          k_steps
          (rename Fr _ _ _ _ => F23); (rename News _ _ _ _ => N23)
          with_unfolding_all refine TurnS.mk' F23 N23 () trivial ?_ ?_ ?_ ?_ trivial
          · walk_at "off"
          · intro p hp
            exact .tail _ (.tail _ (List.mem_append_left _ hp))
          · exact .tail _ (.tail _ (.tail _ (.tail _ (List.mem_append_right ex (.head _)))))
          · exact hI
      · rintro st u h tk - F2 N2
        k_steps)
end
end
section

inductive G : List Nat → List Nat → Prop
  | nil : G [] []
  | chr {c : Nat} {p u : List Nat} : c ≠ 42 → G p u → G (c :: p) (c :: u)
  | star {p u : List Nat} (g : List Nat) : G p u → G (42 :: p) (g ++ u)
theorem G.append {p u : List Nat} (h : G p u) {q v : List Nat} (h' : G q v) : G (p ++ q) (u ++ v) := by
  induction h with
  | nil => exact h'
  | chr hc _ ih => exact .chr hc ih
  | star g _ ih => rw [List.append_assoc]; exact .star g ih
theorem G.split : ∀ {p q : List Nat} {U : List Nat}, G (p ++ q) U → ∃ u v, U = u ++ v ∧ G p u ∧ G q v := by
  intro p
  induction p with
  | nil => intro q U h; exact ⟨[], U, rfl, .nil, h⟩
  | cons c p ih =>
    intro q U h
    cases h with
    | chr hc h => obtain ⟨u, v, rfl, a, b⟩ := ih h; exact ⟨_ :: u, v, rfl, .chr hc a, b⟩
    | star g h => obtain ⟨u, v, rfl, a, b⟩ := ih h; exact ⟨g ++ u, v, by rw [List.append_assoc], .star g a, b⟩
theorem G.plain {p : List Nat} (hp : 42 ∉ p) : ∀ {u : List Nat}, G p u ↔ u = p := by
  induction p with
  | nil => intro u; constructor
           · intro h; cases h; rfl
           · rintro rfl; exact .nil
  | cons c p ih =>
    intro u
    have hc : c ≠ 42 := fun e => hp (by simp [e])
    have hp' : 42 ∉ p := fun h => hp (.tail _ h)
    constructor
    · intro h
      cases h with
      | chr _ h => rw [(ih hp').mp h]
      | star => exact absurd rfl hc
    · rintro rfl; exact .chr hc ((ih hp').mpr rfl)
/-- `*m1*m2*..*xl` -/
def Tail (xl : List Nat) : List (List Nat) → List Nat → Prop
  | [], V => ∃ g, V = g ++ xl
  | m :: ms, V => ∃ g V', V = g ++ (m ++ V') ∧ Tail xl ms V'
def starPat (xl : List Nat) : List (List Nat) → List Nat
  | [] => 42 :: xl
  | m :: ms => 42 :: (m ++ starPat xl ms)
theorem G_starPat {xl : List Nat} (hx : 42 ∉ xl) : ∀ {ms : List (List Nat)}, (∀ m ∈ ms, 42 ∉ m) → ∀ {V : List Nat}, G (starPat xl ms) V ↔ Tail xl ms V := by
  intro ms
  induction ms with
  | nil =>
    intro _ V
    constructor
    · intro h
      cases h with
      | chr hc => exact absurd rfl hc
      | star g h => exact ⟨g, by rw [(G.plain hx).mp h]⟩
    · rintro ⟨g, rfl⟩; exact .star g ((G.plain hx).mpr rfl)
  | cons m ms ih =>
    intro hm V
    have h1 := hm m (.head _)
    have h2 := fun x hx => hm x (.tail _ hx)
    constructor
    · intro h
      cases h with
      | chr hc => exact absurd rfl hc
      | star g h =>
        obtain ⟨u, v, rfl, a, b⟩ := G.split h
        rw [(G.plain h1).mp a]
        exact ⟨g, v, rfl, (ih h2).mp b⟩
    · rintro ⟨g, V', rfl, h⟩
      exact .star g (G.append ((G.plain h1).mpr rfl) ((ih h2).mpr h))
theorem Tail.more {xl : List Nat} (g : List Nat) : ∀ {ms : List (List Nat)} {V : List Nat}, Tail xl ms V → Tail xl ms (g ++ V)
  | [], _, ⟨g', e⟩ => ⟨g ++ g', by rw [e, List.append_assoc]⟩
  | _ :: _, _, ⟨g', V', e, h⟩ => ⟨g ++ g', V', by rw [e, List.append_assoc], h⟩
/-- the first place of m in W is g -/
def First (m W g R : List Nat) : Prop := W = g ++ (m ++ R) ∧ ∀ g' R', W = g' ++ (m ++ R') → g.length ≤ g'.length
theorem Tail.first {xl m W g R : List Nat} (hf : First m W g R) {ms : List (List Nat)} {V : List Nat} (hV : V <+: W) :
    Tail xl (m :: ms) V ↔ ∃ V', V = g ++ (m ++ V') ∧ V' <+: R ∧ Tail xl ms V' := by
  obtain ⟨hW, hmin⟩ := hf
  obtain ⟨rest, hrest⟩ := hV
  constructor
  · rintro ⟨g', V', rfl, h⟩
    have hle := hmin g' (V' ++ rest) (by rw [← hrest]; simp)
    have e : g ++ (m ++ R) = g' ++ (m ++ (V' ++ rest)) := by rw [← hW, ← hrest]; simp
    -- lengths
    have hlen : g.length + (m.length + R.length) = g'.length + (m.length + (V'.length + rest.length)) := by
      have := congrArg List.length e; simpa using this
    have hpre : g ++ (m ++ R) = (g ++ m) ++ R := by simp
    let U := g' ++ (m ++ V')
    have hU : (g ++ m) <+: U := by
      apply List.prefix_of_prefix_length_le (l₃ := W)
      · rw [hW, hpre]; exact List.prefix_append _ _
      · exact ⟨rest, hrest⟩
      · simp [U]; omega
    obtain ⟨X, hX⟩ := hU
    have hXl : X.length = (g'.length - g.length) + V'.length := by
      have := congrArg List.length hX; simp [U] at this; omega
    have hsuf : V' <:+ X := by
      apply List.suffix_of_suffix_length_le (l₃ := U)
      · exact ⟨g' ++ m, by simp [U]⟩
      · exact ⟨g ++ m, hX⟩
      · omega
    obtain ⟨Y, hY⟩ := hsuf
    refine ⟨X, (by rw [List.append_assoc] at hX; exact hX.symm), ?_, ?_⟩
    · refine ⟨rest, ?_⟩
      have : (g ++ m) ++ (X ++ rest) = (g ++ m) ++ R := by
        rw [← List.append_assoc, hX, ← hpre, e]; simp [U]
      exact List.append_cancel_left this
    · rw [← hY]; exact Tail.more Y h
  · rintro ⟨V', rfl, _, h⟩
    exact ⟨g, V', rfl, h⟩
end
section

def flat (ns : List (List Nat)) : List Nat := ns.flatMap fun n => n ++ [47]
theorem flat_cons (n : List Nat) (r : List (List Nat)) : flat (n :: r) = n ++ (47 :: flat r) := by simp [flat]
theorem flat_append (a b : List (List Nat)) : flat (a ++ b) = flat a ++ flat b := by simp [flat]
theorem slash_prefix : ∀ {ns : List (List Nat)}, (∀ n ∈ ns, 47 ∉ n) → ∀ {X : List Nat}, X ++ [47] <+: flat ns → ∃ k, 0 < k ∧ k ≤ ns.length ∧ X ++ [47] = flat (ns.take k) := by
  intro ns
  induction ns with
  | nil =>
    intro _ X h
    have := h.length_le
    simp [flat] at this
  | cons n r ih =>
    intro hn X h
    rw [flat_cons] at h
    rcases Nat.lt_or_ge X.length n.length with hlt | hge
    · exfalso
      have hX : X ++ [47] <+: n := List.prefix_of_prefix_length_le h (List.prefix_append _ _) (by simp; omega)
      exact hn n (.head _) (hX.subset (by simp))
    · obtain ⟨Y, rfl⟩ : n <+: X := List.prefix_of_prefix_length_le (List.prefix_append n (47 :: flat r)) ((List.prefix_append X [47]).trans h) hge
      obtain ⟨t, ht⟩ := h
      rw [List.append_assoc, List.append_assoc] at ht
      have ht := List.append_cancel_left ht
      cases Y with
      | nil => exact ⟨1, by omega, by simp, by simp [flat]⟩
      | cons c Y =>
        simp only [List.cons_append, List.cons.injEq] at ht
        obtain ⟨rfl, ht⟩ := ht
        obtain ⟨k, hk, hk2, e⟩ := ih (fun x hx => hn x (.tail _ hx)) (X := Y) ⟨t, by simpa using ht⟩
        refine ⟨k + 1, by omega, by simp; omega, ?_⟩
        rw [List.take_succ_cons, flat_cons, ← e]; simp
/-- the pieces take the names up to j, from the first -/
def Reach : List (List Nat) → List (List Nat) → Nat → Prop
  | [], _, j => j = 0
  | p :: ps, ns, j => ∃ k u, 0 < k ∧ k ≤ ns.length ∧ u ++ [47] = flat (ns.take k) ∧ G p u ∧ ∃ j', j = k + j' ∧ Reach ps (ns.drop k) j'
theorem G_flat : ∀ {ps ns : List (List Nat)}, (∀ n ∈ ns, 47 ∉ n) → ∀ {U : List Nat}, U <+: flat ns → (G (flat ps) U ↔ ∃ j, j ≤ ns.length ∧ U = flat (ns.take j) ∧ Reach ps ns j) := by
  intro ps
  induction ps with
  | nil =>
    intro ns _ U _
    constructor
    · intro h; cases h; exact ⟨0, by omega, by simp [flat], rfl⟩
    · rintro ⟨j, _, rfl, rfl⟩; simp [flat]; exact .nil
  | cons p ps ih =>
    intro ns hn U hU
    rw [flat_cons]
    constructor
    · intro h
      obtain ⟨u, w, rfl, a, b⟩ := G.split h
      cases b with
      | @chr _ _ v hc b =>
        obtain ⟨t, ht⟩ := hU
        have hp : u ++ [47] <+: flat ns := ⟨v ++ t, by rw [← ht]; simp⟩
        obtain ⟨k, hk, hk2, e⟩ := slash_prefix hn hp
        have hns : flat ns = flat (ns.take k) ++ flat (ns.drop k) := by rw [← flat_append, List.take_append_drop]
        have hv : v <+: flat (ns.drop k) := by
          refine ⟨t, ?_⟩
          rw [hns, ← e] at ht
          have : (u ++ [47]) ++ (v ++ t) = (u ++ [47]) ++ flat (ns.drop k) := by rw [← ht]; simp
          exact List.append_cancel_left this
        obtain ⟨j, hj, rfl, hr⟩ := (ih (fun n h => hn n (List.mem_of_mem_drop h)) hv).mp b
        rw [List.length_drop] at hj
        refine ⟨k + j, by omega, ?_, k, u, hk, hk2, e, a, j, rfl, hr⟩
        rw [List.take_add, flat_append, ← e]; simp
    · rintro ⟨j, hj, rfl, k, u, hk, hk2, e, a, j', rfl, hr⟩
      have hns : flat (ns.take (k + j')) = u ++ 47 :: flat ((ns.drop k).take j') := by rw [List.take_add, flat_append, ← e]; simp
      rw [hns]
      refine G.append a (.chr (by decide) ?_)
      refine (ih (fun n h => hn n (List.mem_of_mem_drop h)) ?_).mpr ⟨j', by rw [List.length_drop]; omega, rfl, hr⟩
      refine ⟨flat ((ns.drop k).drop j'), ?_⟩
      rw [← flat_append, List.take_append_drop]
end
section
open PySem PySem.W PyProof.Rows PySem.Calls PySem.Spec
set_option maxRecDepth 100000
set_option maxHeartbeats 8000000
set_option linter.all false
open PySem.StrLaws PySem.Builtin PySem.Builtin.Str
theorem at_iff (T m : List Nat) (i : Nat) : At (S T) (S m) (S T).length i ↔ ∃ g R, T = g ++ (m ++ R) ∧ g.length = i := by
  unfold At
  rw [subAt_eq, S_len, S_len]
  simp only [beq_iff_eq]
  show i + m.length ≤ T.length ∧ (T.drop i).take m.length = m ↔ _
  constructor
  · rintro ⟨h1, h2⟩
    refine ⟨T.take i, (T.drop i).drop m.length, ?_, by rw [List.length_take]; omega⟩
    conv => lhs; rw [← List.take_append_drop i T, ← List.take_append_drop m.length (T.drop i), h2]
  · rintro ⟨g, R, rfl, rfl⟩
    refine ⟨by simp only [List.length_append]; omega, by simp⟩
theorem shift {A W m g R : List Nat} (h : A ++ W = g ++ (m ++ R)) (hl : A.length ≤ g.length) : ∃ g', g = A ++ g' ∧ W = g' ++ (m ++ R) := by
  obtain ⟨g', rfl⟩ : A <+: g := List.prefix_of_prefix_length_le (l₃ := A ++ W) (List.prefix_append _ _) (h ▸ List.prefix_append _ _) hl
  rw [List.append_assoc] at h
  exact ⟨g', rfl, List.append_cancel_left h⟩
theorem from_nat (n i : Nat) (h : i ≤ n) : fromIndex n (i : Int) = i := by
  unfold fromIndex
  omega
theorem find_first (A W m : List Nat) : (Txt.find3 (S (A ++ W)) (S m) (A.length : Int) < 0 ∧ ∀ g R, W ≠ g ++ (m ++ R)) ∨
    ∃ g R, First m W g R ∧ Txt.find3 (S (A ++ W)) (S m) (A.length : Int) = ((A.length + g.length : Nat) : Int) := by
  have hf := from_nat (S (A ++ W)).length A.length (by rw [S_len]; simp)
  unfold Txt.find3
  rw [hf]
  rcases occ_head_from (S (A ++ W)) (S m) A.length 1 (Nat.le_refl _) with ⟨e, hn⟩ | ⟨k, r, e, hk, hA, hn⟩
  · rw [e]
    refine .inl ⟨by simp, fun g R h => ?_⟩
    exact hn (A.length + g.length) (by omega) ((at_iff _ _ _).mpr ⟨A ++ g, R, by rw [h]; simp, by simp⟩)
  · rw [e]
    obtain ⟨g, R, h1, h2⟩ := (at_iff _ _ _).mp hA
    obtain ⟨g', rfl, h3⟩ := shift h1 (by omega)
    refine .inr ⟨g', R, ⟨h3, fun g2 R2 h => ?_⟩, by simp only [← h2]; simp⟩
    rcases Nat.lt_or_ge g2.length g'.length with hlt | hge
    · exact absurd ((at_iff _ _ _).mpr ⟨A ++ g2, R2, by rw [h]; simp, rfl⟩) (hn _ (by simp) (by rw [← h2]; simp; omega))
    · exact hge
theorem rfind_last (A W m : List Nat) : (rfind3 (S (A ++ W)) (S m) (A.length : Int) < 0 ∧ ∀ g R, W ≠ g ++ (m ++ R)) ∨
    ∃ g R, W = g ++ (m ++ R) ∧ (∀ g' R', W = g' ++ (m ++ R') → g'.length ≤ g.length) ∧ rfind3 (S (A ++ W)) (S m) (A.length : Int) = ((A.length + g.length : Nat) : Int) := by
  have hf := from_nat (S (A ++ W)).length A.length (by rw [S_len]; simp)
  unfold rfind3
  rw [hf]
  rcases last_from (S (A ++ W)) (S m) A.length with ⟨e, hn⟩ | ⟨k, e, hk, hA, hn⟩
  · rw [e]
    refine .inl ⟨by simp, fun g R h => ?_⟩
    exact hn (A.length + g.length) (by omega) ((at_iff _ _ _).mpr ⟨A ++ g, R, by rw [h]; simp, by simp⟩)
  · rw [e]
    obtain ⟨g, R, h1, h2⟩ := (at_iff _ _ _).mp hA
    obtain ⟨g', rfl, h3⟩ := shift h1 (by omega)
    refine .inr ⟨g', R, h3, fun g2 R2 h => ?_, by simp only [← h2]; simp⟩
    rcases Nat.lt_or_ge g'.length g2.length with hlt | hge
    · exact absurd ((at_iff _ _ _).mpr ⟨A ++ g2, R2, by rw [h]; simp, rfl⟩) (hn _ (by rw [← h2]; simp; omega))
    · exact hge
theorem greedy (xl T : List Nat) : ∀ (mids : List (List Nat)) (A W : List Nat), T = A ++ W →
    ((mids.map S).foldl (takeStep (S T)) (some (A.length : Int)) = none ∧ ∀ V, V <+: W → ¬ Tail xl mids V) ∨
    ∃ B R, W = B ++ R ∧ (mids.map S).foldl (takeStep (S T)) (some (A.length : Int)) = some (((A ++ B).length : Nat) : Int) ∧
      ∀ V, V <+: W → (Tail xl mids V ↔ ∃ V', V = B ++ V' ∧ V' <+: R ∧ Tail xl [] V') := by
  intro mids
  induction mids with
  | nil =>
    intro A W hT
    exact .inr ⟨[], W, rfl, by simp, fun V hV => ⟨fun h => ⟨V, rfl, hV, h⟩, fun ⟨V', e, _, h⟩ => by rw [e]; exact h⟩⟩
  | cons m ms ih =>
    intro A W hT
    subst hT
    simp only [List.map_cons, List.foldl_cons, takeStep]
    rcases find_first A W m with ⟨h1, h2⟩ | ⟨g, R, hf, he⟩
    · rw [if_pos h1]
      refine .inl ⟨fold_none _ _, fun V hV hTl => ?_⟩
      obtain ⟨g, V', rfl, _⟩ := hTl
      obtain ⟨r, hr⟩ := hV
      exact h2 g (V' ++ r) (by rw [← hr]; simp)
    · rw [he, if_neg (by omega)]
      have hW := hf.1
      have e1 : ((A.length + g.length : Nat) : Int) + (S m).length = (((A ++ (g ++ m)).length : Nat) : Int) := by rw [S_len]; simp; omega
      rw [e1]
      have hT2 : A ++ W = (A ++ (g ++ m)) ++ R := by rw [hW]; simp
      rcases ih (A ++ (g ++ m)) R hT2 with ⟨h1, h2⟩ | ⟨B, R', hR, hfo, hiff⟩
      · refine .inl ⟨h1, fun V hV hTl => ?_⟩
        obtain ⟨V', _, hV', hT'⟩ := (Tail.first hf hV).mp hTl
        exact h2 V' hV' hT'
      · refine .inr ⟨(g ++ m) ++ B, R', by rw [hW, hR]; simp, by rw [hfo]; simp, fun V hV => ?_⟩
        rw [Tail.first hf hV]
        constructor
        · rintro ⟨V', rfl, hV', h⟩
          obtain ⟨V'', rfl, h3, h4⟩ := (hiff V' hV').mp h
          exact ⟨V'', by simp, h3, h4⟩
        · rintro ⟨V'', rfl, h3, h4⟩
          have hp : B ++ V'' <+: R := by obtain ⟨r, hr⟩ := h3; exact ⟨r, by rw [hR, ← hr]; simp⟩
          exact ⟨B ++ V'', by simp, hp, (hiff _ hp).mpr ⟨V'', rfl, h3, h4⟩⟩
def Glob (x0 : List Nat) (mids : List (List Nat)) (xl U : List Nat) : Prop := ∃ V, U = x0 ++ V ∧ Tail xl mids V
theorem taken_spec (x0 : List Nat) (mids : List (List Nat)) (xl T : List Nat) :
    (takenF (S x0) (mids.map S) (S xl) (S T) = (Str.ofString "") ∧ ∀ U, U <+: T → ¬ Glob x0 mids xl U) ∨
    ∃ U, U <+: T ∧ Glob x0 mids xl U ∧ (∀ U', U' <+: T → Glob x0 mids xl U' → U'.length ≤ U.length) ∧ takenF (S x0) (mids.map S) (S xl) (S T) = S U := by
  unfold takenF
  by_cases hp : x0 <+: T
  · obtain ⟨W, rfl⟩ := hp
    rw [if_neg (by rw [S_len, sliceTo _ _ (by simp)]; simp)]
    rw [S_len]
    rcases greedy xl (x0 ++ W) mids x0 W rfl with ⟨h1, h2⟩ | ⟨B, R, hW, hfo, hiff⟩
    · rw [h1]
      refine .inl ⟨rfl, ?_⟩
      rintro U ⟨r, hr⟩ ⟨V, rfl, hV⟩
      rw [List.append_assoc] at hr
      exact h2 V ⟨r, List.append_cancel_left hr⟩ hV
    · rw [hfo]
      subst hW
      simp only
      have e : x0 ++ (B ++ R) = (x0 ++ B) ++ R := by simp
      have hU : ∀ U, U <+: x0 ++ (B ++ R) → (Glob x0 mids xl U ↔ ∃ g, U = x0 ++ (B ++ (g ++ xl)) ∧ g ++ xl <+: R) := by
        rintro U ⟨r, hr⟩
        constructor
        · rintro ⟨V, rfl, hV⟩
          rw [List.append_assoc] at hr
          obtain ⟨V', rfl, h3, g, rfl⟩ := (hiff V ⟨r, List.append_cancel_left hr⟩).mp hV
          exact ⟨g, rfl, h3⟩
        · rintro ⟨g, rfl, h3⟩
          refine ⟨B ++ (g ++ xl), rfl, (hiff _ ?_).mpr ⟨g ++ xl, rfl, h3, g, rfl⟩⟩
          obtain ⟨r2, hr2⟩ := h3
          exact ⟨r2, by rw [← hr2]; simp⟩
      have hr3 := rfind_last (x0 ++ B) R xl
      rw [← e] at hr3
      rcases hr3 with ⟨h1, h2⟩ | ⟨g, R2, h1, h2, h3⟩
      · rw [if_pos h1]
        refine .inl ⟨rfl, fun U hUp hG => ?_⟩
        obtain ⟨g, _, r, hr⟩ := (hU U hUp).mp hG
        exact h2 g r (by rw [← hr]; simp)
      · rw [h3, if_neg (by omega)]
        have hpre : x0 ++ (B ++ (g ++ xl)) <+: x0 ++ (B ++ R) := ⟨R2, by rw [h1]; simp⟩
        refine .inr ⟨x0 ++ (B ++ (g ++ xl)), hpre, (hU _ hpre).mpr ⟨g, rfl, R2, by rw [h1]; simp⟩, ?_, ?_⟩
        · intro U' hU' hG
          obtain ⟨g', rfl, r, hr⟩ := (hU U' hU').mp hG
          have := h2 g' r (by rw [← hr]; simp)
          simp; omega
        · rw [show (((x0 ++ B).length + g.length : Nat) : Int) + (S xl).length = ((x0 ++ (B ++ (g ++ xl))).length : Nat) by rw [S_len]; simp; omega, sliceTo _ _ hpre.length_le]
          obtain ⟨r, hr⟩ := hpre
          rw [← hr, List.take_append_of_le_length (Nat.le_refl _), List.take_length]
  · refine .inl ⟨if_pos ?_, fun U hUp hG => hp ?_⟩
    · rw [bne_iff_ne]
      intro h
      rw [S_len] at h
      rcases Nat.lt_or_ge T.length x0.length with hlt | hge
      · have h3 := congrArg Str.length h
        have := PySem.Txt.slice_le (S T) none (some ((x0.length : Nat) : Int))
        have l1 := S_len x0
        have l2 := S_len T
        omega
      · rw [sliceTo _ _ hge] at h
        exact hp (S_inj h ▸ List.take_prefix _ _)
    · obtain ⟨V, rfl, _⟩ := hG
      exact (List.prefix_append _ _).trans hUp
end
section
open PySem PySem.W PyProof.Rows PySem.Calls PySem.Spec
set_option maxRecDepth 100000
set_option maxHeartbeats 8000000
set_option linter.all false
theorem mem_stepJ {p : Str} {ns : List Str} {k : Nat} {fur : List Nat} {j x : Nat} : x ∈ stepJ p ns k fur j ↔ x ∈ fur ∨ (x = j ∧ fitsF p ((ns.drop k).take (j - k)) = true) := by
  unfold stepJ
  split
  · rename_i h
    rw [List.mem_append, List.mem_singleton]
    exact or_congr_right ⟨fun e => ⟨e, h.2⟩, fun e => e.1⟩
  · rename_i h
    constructor
    · exact .inl
    · rintro (h1 | ⟨rfl, h1⟩)
      · exact h1
      · exact Classical.byContradiction fun hx => h ⟨hx, h1⟩
theorem mem_loopJ {p : Str} {ns : List Str} {k : Nat} {x : Nat} : ∀ (l : List Nat) (fur : List Nat), x ∈ l.foldl (fun f i => stepJ p ns k f (k + 1 + i)) fur ↔ x ∈ fur ∨ ∃ i ∈ l, x = k + 1 + i ∧ fitsF p ((ns.drop k).take (x - k)) = true
  | [], fur => by simp
  | i :: l, fur => by
    rw [List.foldl_cons, mem_loopJ l, mem_stepJ]
    constructor
    · rintro ((h | ⟨rfl, h⟩) | ⟨i', hi, e, h⟩)
      · exact .inl h
      · exact .inr ⟨i, .head _, rfl, h⟩
      · exact .inr ⟨i', .tail _ hi, e, h⟩
    · rintro (h | ⟨i', hi, e, h⟩)
      · exact .inl (.inl h)
      · rcases List.mem_cons.mp hi with rfl | hi
        · exact .inl (.inr ⟨e, by rw [← e]; exact h⟩)
        · exact .inr ⟨i', hi, e, h⟩
theorem mem_loopK {p : Str} {ns : List Str} {x : Nat} : ∀ (hd : List Nat) (fur : List Nat), x ∈ hd.foldl (loopJ p ns) fur ↔ x ∈ fur ∨ ∃ k ∈ hd, k < x ∧ x ≤ ns.length ∧ fitsF p ((ns.drop k).take (x - k)) = true
  | [], fur => by simp
  | k :: hd, fur => by
    rw [List.foldl_cons, mem_loopK hd, loopJ, mem_loopJ]
    constructor
    · rintro ((h | ⟨i, hi, e, h⟩) | ⟨k', hk, h⟩)
      · exact .inl h
      · rw [List.mem_range] at hi
        exact .inr ⟨k, .head _, by omega, by omega, h⟩
      · exact .inr ⟨k', .tail _ hk, h⟩
    · rintro (h | ⟨k', hk, h1, h2, h⟩)
      · exact .inl (.inl h)
      · rcases List.mem_cons.mp hk with rfl | hk
        · exact .inl (.inr ⟨x - (k' + 1), by rw [List.mem_range]; omega, by omega, h⟩)
        · exact .inr ⟨k', hk, h1, h2, h⟩
def RF (ns : List Str) : List Str → Nat → Nat → Prop
  | [], k, j => j = k
  | p :: ps, k, j => ∃ k', k < k' ∧ k' ≤ ns.length ∧ fitsF p ((ns.drop k).take (k' - k)) = true ∧ RF ns ps k' j
theorem mem_heads {ns : List Str} {j : Nat} : ∀ (ps : List Str) (hd : List Nat), j ∈ ps.foldl (loopK ns) hd ↔ ∃ k ∈ hd, RF ns ps k j
  | [], hd => by simp [RF]
  | p :: ps, hd => by
    rw [List.foldl_cons, mem_heads ps]
    constructor
    · rintro ⟨k, hk, h⟩
      rcases (mem_loopK hd []).mp hk with hk | ⟨k0, h0, h1, h2, h3⟩
      · cases hk
      · exact ⟨k0, h0, k, h1, h2, h3, h⟩
    · rintro ⟨k0, h0, k, h1, h2, h3, h⟩
      exact ⟨k, (mem_loopK hd []).mpr (.inr ⟨k0, h0, h1, h2, h3⟩), h⟩
end
section
open PySem PySem.W PyProof.Rows PySem.Calls PySem.Spec
set_option maxRecDepth 100000
set_option maxHeartbeats 8000000
set_option linter.all false
inductive Piece : List Nat → Prop
  | plain {p : List Nat} : (Txt.partition (S p) (Str.ofString "*")).2.1 = (Str.ofString "") → 42 ∉ p → 47 ∉ p → Piece p
  | star {f b : List Nat} : (Txt.partition (S (f ++ 42 :: b)) (Str.ofString "*")).1 = S f → (Txt.partition (S (f ++ 42 :: b)) (Str.ofString "*")).2.1 = (Str.ofString "*") → (Txt.partition (S (f ++ 42 :: b)) (Str.ofString "*")).2.2 = S b → 42 ∉ f → 42 ∉ b → 47 ∉ f → 47 ∉ b → Piece (f ++ 42 :: b)
def pieceL (d : Nat) : List Nat := (ruleOf d).cps.toList
theorem piece_rule (d : Nat) (h : d < 8) : Piece (pieceL d) := by
  match d, h with
  | 0, _ => exact .star (f := []) (b := []) (by decide +kernel) (by decide +kernel) (by decide +kernel) (by decide) (by decide) (by decide) (by decide)
  | 1, _ => exact .plain (by decide +kernel) (by decide +kernel) (by decide +kernel)
  | 2, _ => exact .plain (by decide +kernel) (by decide +kernel) (by decide +kernel)
  | 3, _ => exact .star (f := [97]) (b := []) (by decide +kernel) (by decide +kernel) (by decide +kernel) (by decide) (by decide) (by decide) (by decide)
  | 4, _ => exact .star (f := []) (b := [98]) (by decide +kernel) (by decide +kernel) (by decide +kernel) (by decide) (by decide) (by decide) (by decide)
  | 5, _ => exact .plain (by decide +kernel) (by decide +kernel) (by decide +kernel)
  | 6, _ => exact .star (f := [98]) (b := [98]) (by decide +kernel) (by decide +kernel) (by decide +kernel) (by decide) (by decide) (by decide) (by decide)
  | 7, _ => exact .plain (by decide +kernel) (by decide +kernel) (by decide +kernel)
theorem starts_iff (T m : List Nat) : Txt.startswith (S T) (S m) = true ↔ m <+: T := by
  unfold Txt.startswith
  rw [StrLaws.subAt_eq, S_len, S_len]
  simp only [Bool.and_eq_true, decide_eq_true_eq, beq_iff_eq, List.drop_zero]
  show 0 + m.length ≤ T.length ∧ T.take m.length = m ↔ _
  constructor
  · rintro ⟨_, h⟩; exact h ▸ List.take_prefix _ _
  · rintro ⟨t, rfl⟩; exact ⟨by simp, by simp⟩
theorem ends_iff (T m : List Nat) : Txt.endswith (S T) (S m) = true ↔ m <:+ T := by
  unfold Txt.endswith
  rw [StrLaws.subAt_eq, S_len, S_len]
  simp only [Bool.and_eq_true, decide_eq_true_eq, beq_iff_eq]
  show 0 + m.length ≤ T.length ∧ (T.drop (T.length - m.length)).take m.length = m ↔ _
  constructor
  · rintro ⟨h1, h⟩
    rw [List.take_of_length_le (by rw [List.length_drop]; omega)] at h
    exact ⟨T.take (T.length - m.length), by rw [← h]; rw [show T.length - (T.drop (T.length - m.length)).length = T.length - m.length by rw [List.length_drop]; omega]; exact List.take_append_drop _ _⟩
  · rintro ⟨t, rfl⟩; exact ⟨by simp, by simp⟩
end
section
open PySem PySem.W PyProof.Rows PySem.Calls PySem.Spec
set_option maxRecDepth 100000
set_option maxHeartbeats 8000000
set_option linter.all false
theorem G_star {f b u : List Nat} (hf : 42 ∉ f) (hb : 42 ∉ b) : G (f ++ 42 :: b) u ↔ ∃ x, u = f ++ (x ++ b) := by
  constructor
  · intro h
    obtain ⟨a, c, rfl, h1, h2⟩ := G.split h
    rw [(G.plain hf).mp h1]
    cases h2 with
    | chr hc => exact absurd rfl hc
    | star x h3 => exact ⟨x, by rw [(G.plain hb).mp h3]⟩
  · rintro ⟨x, rfl⟩
    exact G.append ((G.plain hf).mpr rfl) (.star x ((G.plain hb).mpr rfl))
theorem flat_snoc (r : List (List Nat)) (n : List Nat) : flat (r ++ [n]) = (flat r ++ n) ++ [47] := by rw [flat_append, flat_cons]; simp [flat]
theorem pre_slash {f n Y : List Nat} (hf : 47 ∉ f) (h : f <+: n ++ 47 :: Y) : f <+: n := by
  rcases Nat.lt_or_ge n.length f.length with hlt | hge
  · exfalso
    have : n ++ [47] <+: f := List.prefix_of_prefix_length_le (l₃ := n ++ 47 :: Y) ⟨Y, by simp⟩ h (by simp; omega)
    exact hf (this.subset (by simp))
  · exact List.prefix_of_prefix_length_le h (List.prefix_append _ _) hge
theorem suf_slash {b n Y : List Nat} (hb : 47 ∉ b) (h : b <:+ Y ++ 47 :: n) : b <:+ n := by
  rcases Nat.lt_or_ge n.length b.length with hlt | hge
  · exfalso
    have : 47 :: n <:+ b := List.suffix_of_suffix_length_le (l₃ := Y ++ 47 :: n) ⟨Y, rfl⟩ h (by simp; omega)
    exact hb (this.subset (by simp))
  · exact List.suffix_of_suffix_length_le h ⟨Y ++ [47], by simp⟩ hge
theorem flat_one {g : List (List Nat)} {p : List Nat} (hg : ∀ n ∈ g, 47 ∉ n) (hp : 47 ∉ p) (h : flat g = p ++ [47]) : g = [p] := by
  cases g with
  | nil => simp [flat] at h
  | cons n r =>
    rw [flat_cons] at h
    have h1 : n <+: p := pre_slash (Y := []) (hg n (.head _)) (by rw [← h]; exact List.prefix_append _ _)
    have h2 : p <+: n := pre_slash (Y := flat r) hp (by rw [h]; exact List.prefix_append _ _)
    have e : n = p := h1.eq_of_length_le h2.length_le
    subst e
    have h3 := List.append_cancel_left h
    simp only [List.cons.injEq, true_and] at h3
    cases r with
    | nil => rfl
    | cons a r => rw [flat_cons] at h3; simp at h3
theorem fits_iff {p u : List Nat} {g : List (List Nat)} (hp : Piece p) (hg : ∀ n ∈ g, 47 ∉ n) (hne : g ≠ []) (hu : u ++ [47] = flat g) : fitsF (S p) (g.map S) = true ↔ G p u := by
  cases hp with
  | plain h1 h2 h3 =>
    unfold fitsF
    rw [if_pos (by rw [h1]; decide +kernel), decide_eq_true_eq, G.plain h2]
    constructor
    · intro h
      have e : g = [p] := by
        have := congrArg (List.map fun x : Str => x.cps.toList) h
        simpa [Function.comp_def] using this
      subst e
      rw [flat_cons] at hu
      exact List.append_cancel_right (hu.trans (by simp [flat]))
    · rintro rfl
      rw [flat_one hg h3 hu.symm]; rfl
  | @star f b h1 h2 h3 h4 h5 h6 h7 =>
    unfold fitsF
    rw [if_neg (by rw [h2]; decide +kernel), h1, h3, G_star h4 h5]
    obtain ⟨n, r, rfl⟩ : ∃ n r, g = n :: r := by cases g with
      | nil => exact absurd rfl hne
      | cons n r => exact ⟨n, r, rfl⟩
    have e0 : ((n :: r).map S).getD (Int.toNat 0) Str.empty = S n := rfl
    rw [e0]
    rcases List.eq_nil_or_concat r with rfl | ⟨r', z, rfl⟩
    · have hun : u = n := by rw [flat_cons] at hu; exact List.append_cancel_right (hu.trans (by simp [flat]))
      subst hun
      have e1 : (([u]).map S).getD (-1 + ((([u]).map S).length : Int)).toNat Str.empty = S u := rfl
      rw [e1]
      constructor
      · intro h
        split at h
        · cases h
        · rename_i hl
          split at h
          · rename_i hs
            obtain ⟨y, rfl⟩ := (starts_iff _ _).mp hs
            have he := (ends_iff _ _).mp h
            have hlen : b.length ≤ y.length := by
              simp only [List.map_cons, List.map_nil, List.length_cons, List.length_nil, true_and, S_len, List.length_append] at hl; omega
            obtain ⟨x, rfl⟩ := List.suffix_of_suffix_length_le he (List.suffix_append f y) hlen
            exact ⟨x, rfl⟩
          · cases h
      · rintro ⟨x, rfl⟩
        rw [if_neg (by rw [S_len, S_len, S_len]; simp only [List.length_append]; omega), if_pos ((starts_iff _ _).mpr (List.prefix_append _ _)), ends_iff]
        exact ⟨f ++ x, by simp⟩
    · rw [List.concat_eq_append] at hu hg ⊢
      have hz : 47 ∉ z := hg z (by simp)
      have hun : u = n ++ 47 :: (flat r' ++ z) := by
        rw [flat_cons, flat_snoc] at hu
        exact List.append_cancel_right (hu.trans (by simp))
      have e1 : ((n :: (r' ++ [z])).map S).getD (-1 + (((n :: (r' ++ [z])).map S).length : Int)).toNat Str.empty = S z := by
        rw [show (-1 + (((n :: (r' ++ [z])).map S).length : Int)).toNat = r'.length + 1 by simp; omega]
        simp
      rw [e1, if_neg (by simp)]
      constructor
      · intro h
        split at h
        · rename_i hs
          obtain ⟨y, hy⟩ := (starts_iff _ _).mp hs
          obtain ⟨w, hw⟩ := (ends_iff _ _).mp h
          exact ⟨y ++ 47 :: (flat r' ++ w), by rw [hun, ← hy, ← hw]; simp⟩
        · cases h
      · rintro ⟨x, hx⟩
        have hf : f <+: n := pre_slash (Y := flat r' ++ z) h6 (by rw [← hun, hx]; exact List.prefix_append _ _)
        have hb : b <:+ z := by
          rcases List.eq_nil_or_concat r' with rfl | ⟨r2, z2, rfl⟩
          · exact suf_slash (Y := n) h7 (by rw [show n ++ 47 :: z = u by rw [hun]; simp [flat], hx]; exact ⟨f ++ x, by simp⟩)
          · rw [List.concat_eq_append, flat_snoc] at hun
            exact suf_slash (Y := n ++ 47 :: (flat r2 ++ z2)) h7 (by rw [show n ++ 47 :: (flat r2 ++ z2) ++ 47 :: z = u by rw [hun]; simp, hx]; exact ⟨f ++ x, by simp⟩)
        rw [if_pos ((starts_iff _ _).mpr hf), ends_iff]; exact hb
end
section
open PySem PySem.W PyProof.Rows PySem.Calls PySem.Spec
set_option maxRecDepth 100000
set_option maxHeartbeats 8000000
set_option linter.all false
theorem flat_ends {g : List (List Nat)} (h : g ≠ []) : ∃ u, u ++ [47] = flat g := by
  rcases List.eq_nil_or_concat g with rfl | ⟨r, n, rfl⟩
  · exact absurd rfl h
  · exact ⟨flat r ++ n, by rw [List.concat_eq_append, flat_snoc]⟩
theorem RF_reach {ns : List (List Nat)} (hn : ∀ n ∈ ns, 47 ∉ n) : ∀ {ps : List (List Nat)}, (∀ p ∈ ps, Piece p) → ∀ {k j : Nat}, RF (ns.map S) (ps.map S) k j ↔ ∃ j', j = k + j' ∧ Reach ps (ns.drop k) j' := by
  intro ps
  induction ps with
  | nil =>
    intro _ k j
    simp only [List.map_nil, RF, Reach]
    constructor
    · rintro rfl; exact ⟨0, rfl, rfl⟩
    · rintro ⟨_, rfl, rfl⟩; rfl
  | cons p ps ih =>
    intro hp k j
    have ih' := fun {k j} => @ih (fun q h => hp q (.tail _ h)) k j
    simp only [List.map_cons, RF, Reach]
    have key : ∀ k', k < k' → k' ≤ ns.length → ∀ u, u ++ [47] = flat ((ns.drop k).take (k' - k)) → (fitsF (S p) (((ns.map S).drop k).take (k' - k)) = true ↔ G p u) := by
      intro k' h1 h2 u hu
      rw [← List.map_drop, ← List.map_take]
      refine fits_iff (hp p (.head _)) (fun n h => hn n (List.mem_of_mem_drop (List.mem_of_mem_take h))) ?_ hu
      intro e
      have := congrArg List.length e
      simp at this
      omega
    constructor
    · rintro ⟨k', h1, h2, h3, h4⟩
      rw [List.length_map] at h2
      obtain ⟨u, hu⟩ := flat_ends (g := (ns.drop k).take (k' - k)) (by intro e; have := congrArg List.length e; simp at this; omega)
      obtain ⟨j', rfl, hr⟩ := ih'.mp h4
      refine ⟨(k' - k) + j', by omega, k' - k, u, by omega, by rw [List.length_drop]; omega, hu, (key k' h1 h2 u hu).mp h3, j', rfl, ?_⟩
      rw [List.drop_drop, show k + (k' - k) = k' by omega]
      exact hr
    · rintro ⟨_, rfl, d, u, h1, h2, h3, h4, j', rfl, hr⟩
      rw [List.length_drop] at h2
      refine ⟨k + d, by omega, by rw [List.length_map]; omega, (key (k + d) (by omega) (by omega) u (by rw [show k + d - k = d by omega]; exact h3)).mpr h4, ih'.mpr ⟨j', by omega, ?_⟩⟩
      rw [List.drop_drop] at hr
      exact hr
theorem heads_iff {ns ps : List (List Nat)} (hn : ∀ n ∈ ns, 47 ∉ n) (hp : ∀ p ∈ ps, Piece p) {j : Nat} : j ∈ headsF (ps.map S) (ns.map S) ↔ Reach ps ns j := by
  unfold headsF
  rw [mem_heads]
  constructor
  · rintro ⟨k, hk, h⟩
    rw [List.mem_singleton.mp hk] at h
    obtain ⟨j', rfl, hr⟩ := (RF_reach hn hp).mp h
    simpa using hr
  · intro h
    exact ⟨0, .head _, (RF_reach hn hp).mpr ⟨j, by omega, by simpa using h⟩⟩
theorem reach_le : ∀ {ps ns : List (List Nat)} {j : Nat}, Reach ps ns j → j ≤ ns.length := by
  intro ps
  induction ps with
  | nil => intro ns j h; have : j = 0 := h; omega
  | cons p ps ih =>
    rintro ns j ⟨k, u, h1, h2, h3, h4, j', rfl, hr⟩
    have := ih hr
    rw [List.length_drop] at this
    omega
end
section
open PySem PySem.W PyProof.Rows PySem.Calls PySem.Spec
set_option maxRecDepth 100000
set_option maxHeartbeats 8000000
set_option linter.all false
/-- the pair condition, on lists -/
theorem pair_law {ns ps mids : List (List Nat)} {x0 xl : List Nat} (hn : ∀ n ∈ ns, 47 ∉ n) (hp : ∀ p ∈ ps, Piece p) (hpat : 47 :: flat ps = x0 ++ starPat xl mids) (hx0 : 42 ∉ x0) (hm : ∀ m ∈ mids, 42 ∉ m) (hxl : 42 ∉ xl) :
    (headsF (ps.map S) (ns.map S) = [] → takenF (S x0) (mids.map S) (S xl) (S (47 :: flat ns)) = (Str.ofString "")) ∧
    (∀ h ∈ headsF (ps.map S) (ns.map S), h ≤ ns.length) ∧
    ∀ M, M ∈ headsF (ps.map S) (ns.map S) → (∀ h ∈ headsF (ps.map S) (ns.map S), h ≤ M) → takenF (S x0) (mids.map S) (S xl) (S (47 :: flat ns)) = S (47 :: flat (ns.take M)) := by
  have hglob : ∀ U, U <+: 47 :: flat ns → (Glob x0 mids xl U ↔ ∃ j, j ∈ headsF (ps.map S) (ns.map S) ∧ U = 47 :: flat (ns.take j)) := by
    intro U hU
    have h1 : Glob x0 mids xl U ↔ G (47 :: flat ps) U := by
      rw [hpat]
      constructor
      · rintro ⟨V, rfl, hV⟩
        exact G.append ((G.plain hx0).mpr rfl) ((G_starPat hxl hm).mpr hV)
      · intro h
        obtain ⟨u, v, rfl, a, b⟩ := G.split h
        rw [(G.plain hx0).mp a]
        exact ⟨v, rfl, (G_starPat hxl hm).mp b⟩
    rw [h1]
    constructor
    · intro h
      cases h with
      | @chr _ _ v _ h =>
        have hv : v <+: flat ns := by obtain ⟨t, ht⟩ := hU; exact ⟨t, by simpa using ht⟩
        obtain ⟨j, hj, rfl, hr⟩ := (G_flat hn hv).mp h
        exact ⟨j, (heads_iff hn hp).mpr hr, rfl⟩
    · rintro ⟨j, hj, rfl⟩
      have hr := (heads_iff hn hp).mp hj
      refine .chr (by decide) ((G_flat hn ?_).mpr ⟨j, reach_le hr, rfl, hr⟩)
      exact ⟨flat (ns.drop j), by rw [← flat_append, List.take_append_drop]⟩
  have hpre : ∀ j, 47 :: flat (ns.take j) <+: 47 :: flat ns := fun j => ⟨flat (ns.drop j), by rw [List.cons_append, ← flat_append, List.take_append_drop]⟩
  refine ⟨fun h0 => ?_, fun h hh => reach_le ((heads_iff hn hp).mp hh), fun M hM hmax => ?_⟩
  · rcases taken_spec x0 mids xl (47 :: flat ns) with ⟨h, _⟩ | ⟨U, h1, h2, _, _⟩
    · exact h
    · obtain ⟨j, hj, _⟩ := (hglob U h1).mp h2
      rw [h0] at hj; cases hj
  · rcases taken_spec x0 mids xl (47 :: flat ns) with ⟨_, h⟩ | ⟨U, h1, h2, h3, h4⟩
    · exact absurd ((hglob _ (hpre M)).mpr ⟨M, hM, rfl⟩) (h _ (hpre M))
    · obtain ⟨j, hj, rfl⟩ := (hglob U h1).mp h2
      rw [h4]
      have hle := h3 _ (hpre M) ((hglob _ (hpre M)).mpr ⟨M, hM, rfl⟩)
      have hjM := hmax j hj
      have hpp : 47 :: flat (ns.take j) <+: 47 :: flat (ns.take M) := by
        refine ⟨flat ((ns.take M).drop j), ?_⟩
        rw [List.cons_append]
        conv => rhs; rw [← List.take_append_drop j (ns.take M), flat_append]
        rw [List.take_take, Nat.min_eq_left hjM]
      rw [hpp.eq_of_length_le hle]
end
section
open PySem PySem.W PyProof.Rows PySem.Calls PySem.Spec
set_option maxRecDepth 100000
set_option maxHeartbeats 8000000
set_option linter.all false
theorem slashS : (Str.ofString "/") = S [47] := by decide +kernel
theorem emptyS : (Str.ofString "") = S [] := by decide +kernel
theorem joinF_ne {a b : List Nat} (hb : ¬ [47] <+: b) (ha : a ≠ []) (he : ¬ [47] <:+ a) : joinF (S a) (S b) = S (a ++ 47 :: b) := by
  unfold joinF
  rw [slashS, if_neg (fun h => hb ((starts_iff _ _).mp h)), if_neg (by rw [S_len]; intro h; exact ha (List.length_eq_zero_iff.mp h)), if_neg (fun h => he ((ends_iff _ _).mp h)), S_append, S_append]
  rfl
theorem joinF_root {b : List Nat} (hb : ¬ [47] <+: b) : joinF (Str.ofString "/") (S b) = S (47 :: b) := by
  unfold joinF
  rw [slashS, if_neg (fun h => hb ((starts_iff _ _).mp h)), if_neg (by rw [S_len]; simp), if_pos ((ends_iff _ _).mpr (List.suffix_refl _)), S_append]
  rfl
/-- a name: not empty, no slash in it -/
def Nm (n : List Nat) : Prop := n ≠ [] ∧ 47 ∉ n
theorem Nm.starts {n : List Nat} (h : Nm n) : ¬ [47] <+: n := fun hp => h.2 (hp.subset (by simp))
theorem Nm.ends {n : List Nat} (h : Nm n) : ¬ [47] <:+ n := fun hp => h.2 (hp.subset (by simp))
def slashed : List (List Nat) → List Nat
  | [] => []
  | n :: r => 47 :: (n ++ slashed r)
theorem slashed_append : ∀ (a b : List (List Nat)), slashed (a ++ b) = slashed a ++ slashed b
  | [], _ => rfl
  | n :: a, b => by simp [slashed, slashed_append a b]
theorem slashed_flat : ∀ ns : List (List Nat), slashed ns ++ [47] = 47 :: flat ns
  | [] => rfl
  | n :: r => by rw [flat_cons]; simp only [slashed, List.cons_append, List.append_assoc]; rw [slashed_flat r]
/-- the place of names -/
def placeL (ns : List (List Nat)) : List Nat := if ns = [] then [47] else slashed ns
theorem slashed_ends {ns : List (List Nat)} (h : ∀ n ∈ ns, Nm n) (hne : ns ≠ []) : slashed ns ≠ [] ∧ ¬ [47] <:+ slashed ns := by
  rcases List.eq_nil_or_concat ns with rfl | ⟨r, n, rfl⟩
  · exact absurd rfl hne
  · rw [List.concat_eq_append] at h ⊢
    have hn := h n (by simp)
    rw [slashed_append]
    simp only [slashed, List.append_nil]
    refine ⟨by simp, fun hs => hn.ends ?_⟩
    rw [show slashed r ++ 47 :: n = (slashed r ++ [47]) ++ n by simp] at hs
    refine List.suffix_of_suffix_length_le hs (List.suffix_append _ _) ?_
    have : n.length ≠ 0 := fun e => hn.1 (List.length_eq_zero_iff.mp e)
    simp; omega
theorem joinF_place {ns : List (List Nat)} (h : ∀ n ∈ ns, Nm n) : joinF (S (placeL ns)) (Str.ofString "") = S (47 :: flat ns) := by
  by_cases hne : ns = []
  · subst hne; decide +kernel
  · rw [placeL, if_neg hne, emptyS, joinF_ne (by simp) (slashed_ends h hne).1 (slashed_ends h hne).2, slashed_flat]
theorem foldJ_slashed {ns : List (List Nat)} : ∀ {ps : List (List Nat)}, (∀ n ∈ ns, Nm n) → (∀ p ∈ ps, Nm p) → foldJ (S (placeL ns)) (ps.map S) = S (placeL (ns ++ ps)) := by
  intro ps
  induction ps generalizing ns with
  | nil => intro _ _; simp [foldJ]
  | cons p ps ih =>
    intro h1 h2
    have hp := h2 p (.head _)
    have e : joinF (S (placeL ns)) (S p) = S (placeL (ns ++ [p])) := by
      by_cases hne : ns = []
      · subst hne
        rw [show S (placeL []) = (Str.ofString "/") by decide +kernel, joinF_root hp.starts]
        simp [placeL, slashed]
      · rw [placeL, if_neg hne, joinF_ne hp.starts (slashed_ends h1 hne).1 (slashed_ends h1 hne).2]
        rw [placeL, if_neg (by simp), slashed_append]; simp [slashed]
    have := ih (ns := ns ++ [p]) (fun n hn => by
      rcases List.mem_append.mp hn with h | h
      · exact h1 n h
      · rw [List.mem_singleton.mp h]; exact hp) (fun q hq => h2 q (.tail _ hq))
    simp only [foldJ, List.map_cons, List.foldl_cons] at this ⊢
    rw [e, this]
    simp
theorem hung_text {ps : List (List Nat)} (h : ∀ p ∈ ps, Nm p) : joinF (foldJ (Str.ofString "/") (ps.map S)) (Str.ofString "") = S (47 :: flat ps) := by
  rw [show (Str.ofString "/") = S (placeL []) by decide +kernel, foldJ_slashed (ns := []) (fun _ hn => nomatch hn) h, List.nil_append, joinF_place h]
end
section
open PySem PySem.W PyProof.Rows PySem.Calls PySem.Spec
set_option maxRecDepth 100000
set_option maxHeartbeats 8000000
set_option linter.all false
def jnC (c : Nat) : List (List Nat) → List Nat
  | [] => []
  | [x] => x
  | x :: y :: r => x ++ c :: jnC c (y :: r)
theorem jnC_cons {c : Nat} {x : List Nat} {r : List (List Nat)} (h : r ≠ []) : jnC c (x :: r) = x ++ c :: jnC c r := by
  cases r with
  | nil => exact absurd rfl h
  | cons y r => rfl
theorem join_S (c : Nat) : ∀ xs : List (List Nat), Str.join (S [c]) (xs.map S) = S (jnC c xs)
  | [] => rfl
  | [x] => rfl
  | x :: y :: r => by
    have ih := join_S c (y :: r)
    simp only [List.map_cons] at ih ⊢
    show S x ++ S [c] ++ Str.join (S [c]) (S y :: r.map S) = _
    rw [ih, S_append, S_append]
    simp [jnC]
theorem txtJoin_S (c : Nat) (xs : List (List Nat)) : Txt.join (S [c]) (xs.map S) = S (jnC c xs) := by
  show Builtin.Str.glued _ _ = _
  rw [StrLaws.glued_eq_join, join_S]
theorem jnC_inj {c : Nat} : ∀ {xs ys : List (List Nat)}, (∀ x ∈ xs, c ∉ x) → (∀ y ∈ ys, c ∉ y) → xs ≠ [] → ys ≠ [] → jnC c xs = jnC c ys → xs = ys := by
  have pre : ∀ {x y X Y : List Nat}, c ∉ x → c ∉ y → x ++ c :: X = y ++ c :: Y → x = y ∧ X = Y := by
    intro x
    induction x with
    | nil =>
      intro y X Y hx hy h
      cases y with
      | nil => simp at h; exact ⟨rfl, h⟩
      | cons d y => simp at h; exact absurd (by simp [h.1]) hy
    | cons a x ih =>
      intro y X Y hx hy h
      cases y with
      | nil => simp at h; exact absurd (by simp [h.1]) hx
      | cons d y =>
        simp only [List.cons_append, List.cons.injEq] at h
        obtain ⟨h1, h2⟩ := ih (fun hm => hx (.tail _ hm)) (fun hm => hy (.tail _ hm)) h.2
        exact ⟨by rw [h.1, h1], h2⟩
  intro xs
  induction xs with
  | nil => intro ys _ _ h; exact absurd rfl h
  | cons x r ih =>
    intro ys hx hy _ hys h
    cases ys with
    | nil => exact absurd rfl hys
    | cons y s =>
      have hx0 := hx x (.head _)
      have hy0 := hy y (.head _)
      by_cases hr : r = []
      · by_cases hs : s = []
        · subst hr hs; simpa [jnC] using h
        · subst hr
          rw [jnC_cons hs] at h
          exact absurd (by rw [show x = y ++ c :: jnC c s from h]; simp) hx0
      · by_cases hs : s = []
        · subst hs
          rw [jnC_cons hr] at h
          exact absurd (by rw [show y = x ++ c :: jnC c r from h.symm]; simp) hy0
        · rw [jnC_cons hr, jnC_cons hs] at h
          obtain ⟨h1, h2⟩ := pre hx0 hy0 h
          rw [h1, ih (fun z hz => hx z (.tail _ hz)) (fun z hz => hy z (.tail _ hz)) hr hs h2]
theorem map_toL (l : List Str) : (l.map fun x => x.cps.toList).map S = l := by
  rw [List.map_map]
  conv => rhs; rw [← List.map_id l]
  exact List.map_congr_left fun x _ => ofS
theorem split_S {c : Nat} {xs : List (List Nat)} (hx : ∀ x ∈ xs, c ∉ x) (hne : xs ≠ []) : Txt.split (S (jnC c xs)) (S [c]) = xs.map S := by
  have h1 := StrLaws.join_split (S (jnC c xs)) (S [c])
  have h2 := StrLaws.split_free (S (jnC c xs)) c
  have h3 := map_toL (Txt.split (S (jnC c xs)) (S [c]))
  have h4 : Txt.split (S (jnC c xs)) (S [c]) ≠ [] := by
    intro e
    have := (fact_split (S (jnC c xs)) (S [c])).1
    rw [e] at this; simp at this
  rw [← h3, join_S] at h1
  have h5 := jnC_inj (c := c) (fun y hy => by obtain ⟨z, hz, rfl⟩ := List.mem_map.mp hy; exact h2 z hz) hx (by simpa using h4) hne (S_inj h1)
  rw [← h3, h5]
end
section
open PySem PySem.W PyProof.Rows PySem.Calls PySem.Spec
set_option maxRecDepth 100000
set_option maxHeartbeats 8000000
set_option linter.all false
open PySem.StrLaws PySem.Builtin PySem.Builtin.Str
/-- pieces with the mark m between -/
def glue (m : List Nat) : List (List Nat) → List Nat
  | [] => []
  | [g] => g
  | g :: h :: r => g ++ (m ++ glue m (h :: r))
theorem glue_cons {m g : List Nat} {r : List (List Nat)} (h : r ≠ []) : glue m (g :: r) = g ++ (m ++ glue m r) := by
  cases r with
  | nil => exact absurd rfl h
  | cons y r => rfl
/-- the mark m stands in g ++ m ++ .. first at its own place, and nowhere in g -/
structure Clean (m g : List Nat) : Prop where
  mid : ∀ X a R, g ++ (m ++ X) = a ++ (m ++ R) → a.length < g.length + m.length → a.length = g.length
  last : ∀ a R, g ≠ a ++ (m ++ R)
theorem sub_piece (A g R : List Nat) : strSub (S (A ++ (g ++ R))) A.length (A.length + g.length) = S g := by
  apply Str.ext'
  apply Array.toList_inj.mp
  rw [strSub_toList, Nat.add_sub_cancel_left]
  show ((A ++ (g ++ R)).drop A.length).take g.length = g
  simp
theorem parts_glue {m : List Nat} (hm : m ≠ []) : ∀ {gs : List (List Nat)} {A : List Nat} {cuts : List Nat} {f : Nat}, gs ≠ [] → (∀ g ∈ gs, Clean m g) →
    ChainG (S (A ++ glue m gs)) (S m) (S (A ++ glue m gs)).length A.length cuts f → (∀ k, f ≤ k → ¬ At (S (A ++ glue m gs)) (S m) (S (A ++ glue m gs)).length k) →
    partsFrom (S (A ++ glue m gs)) (S m).length A.length cuts = gs.map S := by
  intro gs
  induction gs with
  | nil => intro A cuts f h; exact absurd rfl h
  | cons g r ih =>
    intro A cuts f _ hc hG hn
    have hg := hc g (.head _)
    by_cases hr : r = []
    · subst hr
      simp only [glue] at hG hn ⊢
      cases cuts with
      | nil =>
        simp only [partsFrom, List.map_cons, List.map_nil]
        have := sub_piece A g []
        rw [List.append_nil] at this
        rw [S_len, List.length_append, this]
      | cons c r =>
        exfalso
        obtain ⟨a, R, h1, h2⟩ := (at_iff _ _ _).mp hG.2.1
        obtain ⟨a', rfl, h3⟩ := shift h1 (by rw [h2]; exact hG.1)
        exact hg.last a' R h3
    · rw [glue_cons hr] at hG hn ⊢
      have hat : At (S (A ++ (g ++ (m ++ glue m r)))) (S m) (S (A ++ (g ++ (m ++ glue m r)))).length (A.length + g.length) := (at_iff _ _ _).mpr ⟨A ++ g, glue m r, by simp, by simp⟩
      cases cuts with
      | nil =>
        have e : f = A.length := hG
        exact absurd hat (hn _ (by omega))
      | cons c cs =>
        have hle : c ≤ A.length + g.length := by
          rcases Nat.lt_or_ge (A.length + g.length) c with h | h
          · exact absurd hat (hG.2.2.1 _ (by omega) h)
          · exact h
        have hce : c = A.length + g.length := by
          obtain ⟨a, R, h1, h2⟩ := (at_iff _ _ _).mp hG.2.1
          obtain ⟨a', rfl, h3⟩ := shift h1 (by rw [h2]; exact hG.1)
          have hml : m.length ≠ 0 := fun e => hm (List.length_eq_zero_iff.mp e)
          rw [List.length_append] at h2
          have := hg.mid _ _ _ h3 (by omega)
          omega
        subst hce
        have e : A ++ (g ++ (m ++ glue m r)) = (A ++ (g ++ m)) ++ glue m r := by simp
        have hG4 := hG.2.2.2
        have hl : A.length + g.length + (S m).length = (A ++ (g ++ m)).length := by rw [S_len]; simp; omega
        simp only [partsFrom, List.map_cons]
        rw [sub_piece, hl]
        rw [hl] at hG4
        rw [e] at hG4 hn ⊢
        rw [ih hr (fun x hx => hc x (.tail _ hx)) hG4 hn]
theorem kind_small {m x : List Nat} (h : ∀ c ∈ m, c < 256) : ¬ PySem.Builtin.Str.strKind (S x) < PySem.Builtin.Str.strKind (S m) := by
  have h1 : PySem.Builtin.Str.strKind (S m) = 1 := by
    unfold PySem.Builtin.Str.strKind
    rw [if_pos]
    rw [← Array.all_toList]
    exact List.all_eq_true.mpr fun c hc => decide_eq_true (h c hc)
  rw [h1]
  unfold PySem.Builtin.Str.strKind
  split
  · omega
  · split <;> omega
theorem split_glue {m : List Nat} {gs : List (List Nat)} (hm : m ≠ []) (hs : ∀ c ∈ m, c < 256) (hne : gs ≠ []) (hc : ∀ g ∈ gs, Clean m g) : Txt.split (S (glue m gs)) (S m) = gs.map S := by
  have hml : m.length ≠ 0 := fun e => hm (List.length_eq_zero_iff.mp e)
  obtain ⟨f, hG, hn⟩ := occ_tight (S (glue m gs)) (S m) (by rw [S_len]; omega)
  have key := parts_glue hm (A := []) hne hc (by simpa using hG) (by simpa using hn)
  simp only [List.nil_append, List.length_nil] at key
  unfold Txt.split
  by_cases he : (occurrences (S (glue m gs)) (S m) 0 (S (glue m gs)).length ((S (glue m gs)).length + 1)) = []
  · rw [he] at key ⊢
    simp only [partsFrom, sub_whole] at key
    rw [key]; simp
  · rw [if_neg, if_neg (by simpa using he), partsBetween_eq, key]
    rw [Bool.or_eq_true, decide_eq_true_eq, decide_eq_true_eq]
    rintro (h | h)
    · revert he hG
      cases occurrences (S (glue m gs)) (S m) 0 (S (glue m gs)).length ((S (glue m gs)).length + 1) with
      | nil => intro _ h; exact h rfl
      | cons c r =>
        intro hG _
        have := hG.2.1.1
        omega
    · exact kind_small hs h
/-- the mark of a closed group -/
abbrev MK : List Nat := [40, 63, 62, 46, 42, 63]
theorem clean_mk {g : List Nat} (h : 42 ∉ g) : Clean MK g := by
  constructor
  · intro X a R e hl
    have e4 := congrArg (fun l => l[a.length + 4]?) e
    have e0 := congrArg (fun l => l[a.length]?) e
    have r4 : (a ++ (MK ++ R))[a.length + 4]? = some 42 := by
      rw [List.getElem?_append_right (by omega), List.getElem?_append_left (by simp)]
      rw [show a.length + 4 - a.length = 4 by omega]; rfl
    have r0 : (a ++ (MK ++ R))[a.length]? = some 40 := by
      rw [List.getElem?_append_right (by omega), List.getElem?_append_left (by simp)]
      rw [show a.length - a.length = 0 by omega]; rfl
    simp only [r4, r0] at e4 e0
    have hl6 : a.length < g.length + 6 := hl
    rcases Nat.lt_or_ge (a.length + 4) g.length with h1 | h1
    · rw [List.getElem?_append_left h1] at e4
      exact absurd (List.mem_of_getElem? e4) h
    · rw [List.getElem?_append_right h1] at e4
      rcases Nat.lt_or_ge a.length g.length with h2 | h2
      · obtain ⟨d, hd, hd4⟩ : ∃ d, a.length + 4 - g.length = d ∧ d < 4 := ⟨_, rfl, by omega⟩
        rw [hd, List.getElem?_append_left (by simp; omega)] at e4
        match d, hd4, e4 with
        | 0, _, e4 => exact absurd e4 (by decide)
        | 1, _, e4 => exact absurd e4 (by decide)
        | 2, _, e4 => exact absurd e4 (by decide)
        | 3, _, e4 => exact absurd e4 (by decide)
      · rw [List.getElem?_append_right h2] at e0
        obtain ⟨d, hd, hd4⟩ : ∃ d, a.length - g.length = d ∧ d < 6 := ⟨_, rfl, by omega⟩
        rw [hd, List.getElem?_append_left (by simpa using hd4)] at e0
        match d, hd4, e0 with
        | 0, _, _ => omega
        | 1, _, e0 => exact absurd e0 (by decide)
        | 2, _, e0 => exact absurd e0 (by decide)
        | 3, _, e0 => exact absurd e0 (by decide)
        | 4, _, e0 => exact absurd e0 (by decide)
        | 5, _, e0 => exact absurd e0 (by decide)
  · intro a R e
    exact h (by rw [e]; simp)
/-- the last ".*" -/
theorem rpart_mark {h xl : List Nat} (hx : 42 ∉ xl) : Txt.rpartition (S (h ++ (46 :: 42 :: xl))) (S [46, 42]) = (S h, S [46, 42], S xl) := by
  have hat : At (S (h ++ (46 :: 42 :: xl))) (S [46, 42]) (S (h ++ (46 :: 42 :: xl))).length h.length := (at_iff _ _ _).mpr ⟨h, xl, by simp, rfl⟩
  have hno : ∀ k, h.length < k → ¬ At (S (h ++ (46 :: 42 :: xl))) (S [46, 42]) (S (h ++ (46 :: 42 :: xl))).length k := by
    intro k hk hA
    obtain ⟨a, R, h1, h2⟩ := (at_iff _ _ _).mp hA
    have e := congrArg (fun l => l[a.length + 1]?) h1
    have r1 : (a ++ ([46, 42] ++ R))[a.length + 1]? = some 42 := by
      rw [List.getElem?_append_right (by omega), show a.length + 1 - a.length = 1 by omega]; rfl
    simp only [r1] at e
    rw [List.getElem?_append_right (by omega)] at e
    obtain ⟨d, hd⟩ : ∃ d, a.length + 1 - h.length = d + 2 := ⟨a.length - h.length - 1, by omega⟩
    rw [hd] at e
    exact hx (List.mem_of_getElem? (by simpa using e))
  unfold Txt.rpartition
  rcases last_spec (S (h ++ (46 :: 42 :: xl))) (S [46, 42]) with ⟨h0, hn⟩ | ⟨i, h0, hi, hn⟩
  · exact absurd hat (hn _)
  · have hi2 : i = h.length := by
      rcases Nat.lt_trichotomy i h.length with hl | hl | hl
      · exact absurd hat (hn _ hl)
      · exact hl
      · exact absurd hi (hno _ hl)
    subst hi2
    rw [h0]
    simp only
    have e1 := sub_piece [] h (46 :: 42 :: xl)
    have e2 := sub_piece (h ++ [46, 42]) xl []
    simp only [List.nil_append, List.length_nil, Nat.zero_add, List.append_nil, List.append_assoc, List.cons_append] at e1 e2
    rw [e1]
    rw [show (S (h ++ (46 :: 42 :: xl))).length = (h ++ 46 :: [42]).length + xl.length by rw [S_len]; simp; omega, show h.length + (S [46, 42]).length = (h ++ 46 :: [42]).length by rw [S_len]; simp, e2]
end
section
open PySem PySem.W PyProof.Rows PySem.Calls PySem.Spec
set_option maxRecDepth 100000
set_option maxHeartbeats 8000000
set_option linter.all false
open PySem.StrLaws PySem.Builtin PySem.Builtin.Str
theorem escL_free {x : List Nat} (h : 42 ∉ x) : 42 ∉ escL x := by
  intro hm
  unfold escL at hm
  obtain ⟨c, hc, h2⟩ := List.mem_flatMap.mp hm
  have hne : (42 : Nat) ≠ c := fun e => h (e ▸ hc)
  split at h2
  · rcases List.mem_cons.mp h2 with e | h3
    · exact absurd e (by decide)
    · exact hne (List.mem_singleton.mp h3)
  · exact hne (List.mem_singleton.mp h2)
/-- the segments at the stars -/
theorem segs {l : List Nat} : 42 ∈ l → ∃ (x0 : List Nat) (mids : List (List Nat)) (xl : List Nat), l = x0 ++ starPat xl mids ∧ 42 ∉ x0 ∧ (∀ m ∈ mids, 42 ∉ m) ∧ 42 ∉ xl := by
  induction l with
  | nil => intro h; cases h
  | cons c r ih =>
    intro h
    by_cases hr : 42 ∈ r
    · obtain ⟨x0, mids, xl, rfl, h0, hm, hx⟩ := ih hr
      by_cases hc : c = 42
      · subst hc
        exact ⟨[], x0 :: mids, xl, rfl, (by simp), (fun m hm' => by rcases List.mem_cons.mp hm' with rfl | h'; exact h0; exact hm m h'), hx⟩
      · exact ⟨c :: x0, mids, xl, rfl, (fun h' => by rcases List.mem_cons.mp h' with e | h''; exact hc e.symm; exact h0 h''), hm, hx⟩
    · rcases List.mem_cons.mp h with rfl | h'
      · exact ⟨[], [], r, rfl, (by simp), (by simp), hr⟩
      · exact absurd h' hr
theorem jn_star {xl : List Nat} : ∀ (mids : List (List Nat)) (x0 : List Nat), jnC 42 (x0 :: mids ++ [xl]) = x0 ++ starPat xl mids
  | [], _ => rfl
  | m :: ms, x0 => by
    show x0 ++ 42 :: jnC 42 (m :: ms ++ [xl]) = _
    rw [jn_star ms m]; rfl
theorem star_len {xl : List Nat} : ∀ (mids : List (List Nat)), mids.length + xl.length + 1 ≤ (starPat xl mids).length ∧ ∀ m ∈ mids, m.length ≤ (starPat xl mids).length
  | [] => ⟨by simp [starPat], fun _ h => nomatch h⟩
  | m :: ms => by
    obtain ⟨h1, h2⟩ := star_len (xl := xl) ms
    refine ⟨by simp only [starPat, List.length_cons, List.length_append]; omega, fun x hx => ?_⟩
    simp only [starPat, List.length_cons, List.length_append]
    rcases List.mem_cons.mp hx with rfl | h
    · omega
    · have := h2 x h; omega
theorem join_glue (m : List Nat) : ∀ xs : List (List Nat), Str.join (S m) (xs.map S) = S (glue m xs)
  | [] => rfl
  | [x] => rfl
  | x :: y :: r => by
    have ih := join_glue m (y :: r)
    simp only [List.map_cons] at ih ⊢
    show S x ++ S m ++ Str.join (S m) (S y :: r.map S) = _
    rw [ih, S_append, S_append]
    simp [glue]
theorem glue_nil : ∀ xs : List (List Nat), glue [] xs = xs.flatten
  | [] => rfl
  | [x] => by simp [glue]
  | x :: y :: r => by
    have ih := glue_nil (y :: r)
    simp only [glue, List.nil_append, List.flatten_cons] at ih ⊢
    rw [ih]
theorem glue_flat (m : List Nat) : ∀ (bs : List (List Nat)) (a : List Nat), glue m (a :: bs) = a ++ (bs.map (m ++ ·)).flatten
  | [], _ => by simp [glue]
  | b :: bs, a => by
    show a ++ (m ++ glue m (b :: bs)) = _
    rw [glue_flat m bs b]; simp
theorem wrapM_S (y : List Nat) : wrapM (S y) = S (MK ++ (y ++ [41])) := by
  unfold wrapM
  rw [show Str.ofString "(?>.*?" = S MK by decide +kernel, show Str.ofString ")" = S [41] by decide +kernel, S_append, S_append, List.append_assoc]
theorem lastM_S (y0 : List Nat) (ms : List (List Nat)) (yl : List Nat) : lastM ((y0 :: ms ++ [yl]).map S) = ([y0] ++ ms.map (fun m => MK ++ (m ++ [41])) ++ [46 :: 42 :: yl]).map S := by
  have hl : ((y0 :: ms ++ [yl]).map S).length = ms.length + 2 := by simp
  have hw : wrapped ((y0 :: ms ++ [yl]).map S) ms.length = ([y0] ++ ms.map (fun m => MK ++ (m ++ [41])) ++ [yl]).map S := by
    unfold wrapped
    simp [List.map_append]
    exact fun a _ => wrapM_S a
  have hset : ∀ (L : List (List Nat)) (z : Str), ((L ++ [yl]).map S).set L.length z = L.map S ++ [z] := fun L z => by simp
  unfold lastM
  rw [hl, show ms.length + 2 - 2 = ms.length by omega, hw]
  have hk : ms.length + 2 - 1 = ([y0] ++ ms.map (fun m => MK ++ (m ++ [41]))).length := by simp
  rw [hk, hset]
  have hg : ((([y0] ++ ms.map (fun m => MK ++ (m ++ [41]))) ++ [yl]).map S).getD ([y0] ++ ms.map (fun m => MK ++ (m ++ [41]))).length Str.empty = S yl := by
    rw [List.getD_eq_getElem?_getD, List.map_append, List.getElem?_append_right (by simp)]; simp
  rw [hg, show Str.empty = S [] from rfl, show (Str.ofString ".*") = S [46, 42] by decide +kernel, S_append, S_append]
  simp [List.map_append]
/-- the text of the pattern -/
theorem pat_text (x0 : List Nat) (mids : List (List Nat)) (xl : List Nat) :
    patF ((x0 :: mids ++ [xl]).map fun x => S (escL x)) = S (glue MK (escL x0 :: mids.map fun m => escL m ++ [41]) ++ 46 :: 42 :: escL xl) := by
  have e : ((x0 :: mids ++ [xl]).map fun x => S (escL x)) = (escL x0 :: mids.map escL ++ [escL xl]).map S := by simp
  unfold patF
  rw [e, lastM_S, emptyS]
  show Builtin.Str.glued _ _ = _
  rw [StrLaws.glued_eq_join, join_glue, glue_nil, glue_flat]
  simp [List.map_map, Function.comp_def]
theorem grp_len {xl : List Nat} : ∀ (mids : List (List Nat)), ((mids.map fun m => escL m ++ [41]).map (MK ++ ·)).flatten.length ≤ 9 * (starPat xl mids).length
  | [] => by simp
  | m :: ms => by
    have ih := grp_len (xl := xl) ms
    have := escL_len m
    simp only [List.map_cons, List.flatten_cons, List.length_append, starPat, List.length_cons, List.length_nil] at ih ⊢
    omega
/-- everything of the single rule that the pattern needs -/
theorem rule_parts {l : List Nat} (hl : l.length ≤ 30) (hs : 42 ∈ l) : ∃ (x0 : List Nat) (mids : List (List Nat)) (xl : List Nat) (hdx : Str), l = x0 ++ starPat xl mids ∧ 42 ∉ x0 ∧ (∀ m ∈ mids, 42 ∉ m) ∧ 42 ∉ xl ∧
    Txt.split (S l) (Str.ofString "*") = (x0 :: mids ++ [xl]).map S ∧ mids.length ≤ 90 ∧ (∀ x ∈ x0 :: mids ++ [xl], x.length ≤ 400) ∧
    (patF ((x0 :: mids ++ [xl]).map fun x => S (escL x))).length ≤ 1000 ∧ Txt.rpartition (patF ((x0 :: mids ++ [xl]).map fun x => S (escL x))) (Str.ofString ".*") = (hdx, (Str.ofString ".*"), S (escL xl)) ∧ hdx.length ≤ 1000 ∧
    Txt.split hdx (Str.ofString "(?>.*?") = S (escL x0) :: mids.map (fun m => S (escL m ++ [41])) := by
  obtain ⟨x0, mids, xl, rfl, h0, hm, hx⟩ := segs hs
  have hlen := star_len (xl := xl) mids
  have hb : ∀ x ∈ x0 :: mids ++ [xl], x.length ≤ 30 ∧ 42 ∉ x := by
    rw [List.length_append] at hl
    intro x hx'
    simp only [List.cons_append, List.mem_cons, List.mem_append, List.mem_singleton] at hx'
    rcases hx' with rfl | h | rfl | h
    · exact ⟨by omega, h0⟩
    · exact ⟨by have := hlen.2 x h; omega, hm x h⟩
    · exact ⟨by omega, hx⟩
    · cases h
  have h0l : x0.length ≤ 30 := (hb x0 (by simp)).1
  have hxl : xl.length ≤ 30 := (hb xl (by simp)).1
  have hjn := jn_star (xl := xl) mids x0
  have hglen : (glue MK (escL x0 :: mids.map fun m => escL m ++ [41])).length ≤ 400 := by
    rw [glue_flat, List.length_append]
    have := escL_len x0
    have := grp_len (xl := xl) mids
    rw [List.length_append] at hl
    omega
  refine ⟨x0, mids, xl, S (glue MK (escL x0 :: mids.map fun m => escL m ++ [41])), rfl, h0, hm, hx, ?_, ?_, fun x hx' => Nat.le_trans (hb x hx').1 (by omega), ?_, ?_, ?_, ?_⟩
  · rw [← hjn, show (Str.ofString "*") = S [42] by decide +kernel]
    exact split_S (fun x hx' => (hb x hx').2) (by simp)
  · rw [List.length_append] at hl; omega
  · rw [pat_text, S_len, List.length_append]
    have := escL_len xl
    simp only [List.length_cons]
    omega
  · rw [pat_text, show (Str.ofString ".*") = S [46, 42] by decide +kernel]
    exact rpart_mark (escL_free hx)
  · rw [S_len]; omega
  · rw [show (Str.ofString "(?>.*?") = S MK by decide +kernel, split_glue (by simp) (by decide) (by simp)]
    · simp
    · intro g hg
      rcases List.mem_cons.mp hg with rfl | hg
      · exact clean_mk (escL_free h0)
      · obtain ⟨m, hm', rfl⟩ := List.mem_map.mp hg
        refine clean_mk (fun h => ?_)
        rcases List.mem_append.mp h with h | h
        · exact escL_free (hm m hm') h
        · exact absurd (List.mem_singleton.mp h) (by decide)
end
section
open PySem PySem.W PyProof.Rows PySem.Calls PySem.Spec
set_option maxRecDepth 100000
set_option maxHeartbeats 8000000
set_option linter.all false
open PySem.StrLaws PySem.Builtin PySem.Builtin.Str
theorem rfind_slash {a b : List Nat} (hb : 47 ∉ b) : Txt.rfind (S (a ++ 47 :: b)) (Str.ofString "/") = (a.length : Int) := by
  rw [slashS]
  have hat : At (S (a ++ 47 :: b)) (S [47]) (S (a ++ 47 :: b)).length a.length := (at_iff _ _ _).mpr ⟨a, b, by simp, rfl⟩
  have hno : ∀ k, a.length < k → ¬ At (S (a ++ 47 :: b)) (S [47]) (S (a ++ 47 :: b)).length k := by
    intro k hk hA
    obtain ⟨g, R, h1, h2⟩ := (at_iff _ _ _).mp hA
    have e := congrArg (fun l => l[g.length]?) h1
    have r1 : (g ++ ([47] ++ R))[g.length]? = some 47 := by
      rw [List.getElem?_append_right (by omega), show g.length - g.length = 0 by omega]; rfl
    simp only [r1] at e
    rw [List.getElem?_append_right (by omega)] at e
    obtain ⟨d, hd⟩ : ∃ d, g.length - a.length = d + 1 := ⟨g.length - a.length - 1, by omega⟩
    rw [hd] at e
    exact hb (List.mem_of_getElem? (by simpa using e))
  rcases rfind_whole (S (a ++ 47 :: b)) (S [47]) with ⟨_, hn⟩ | ⟨i, h0, hi, hn⟩
  · exact absurd hat (hn _)
  · rw [h0]
    have hi2 : i = a.length := by
      rcases Nat.lt_trichotomy i a.length with hl | hl | hl
      · exact absurd hat (hn _ hl)
      · exact hl
      · exact absurd hi (hno _ hl)
    rw [hi2]
theorem mul_slash (n : Int) : ∀ c ∈ (Txt.mul (Str.ofString "/") n).cps.toList, c = 47 := by
  have hf : ∀ (k : Nat) (acc : Array Nat), (∀ c ∈ acc.toList, c = 47) → ∀ c ∈ ((List.replicate k (Str.ofString "/").cps).foldl (· ++ ·) acc).toList, c = 47 := by
    intro k
    induction k with
    | zero => intro acc h; simpa using h
    | succ k ih =>
      intro acc h
      rw [List.replicate_succ, List.foldl_cons]
      refine ih _ (fun c hc => ?_)
      rw [slashS] at hc
      rw [Array.toList_append] at hc
      rcases List.mem_append.mp hc with h' | h'
      · exact h c h'
      · exact List.mem_singleton.mp h'
  intro c hc
  unfold Txt.mul at hc
  split at hc
  · cases hc
  · split at hc
    · rw [slashS] at hc; exact List.mem_singleton.mp hc
    · exact hf _ _ (fun c hc => by cases hc) c hc
theorem rstrip_slash {a : List Nat} (h : ¬ [47] <:+ a) : Txt.rstripChars (S (a ++ [47])) (Str.ofString "/") = S a := by
  rw [slashS]
  have htw : ((S (a ++ [47])).cps.toList.drop 0).reverse.takeWhile (S [47]).cps.contains = [47] := by
    show ((a ++ [47]).drop 0).reverse.takeWhile _ = _
    rw [List.drop_zero, List.reverse_append]
    show List.takeWhile _ (47 :: a.reverse) = _
    rw [List.takeWhile_cons, if_pos (by simp)]
    rcases List.eq_nil_or_concat a with rfl | ⟨b, c, rfl⟩
    · rfl
    · rw [List.concat_eq_append, List.reverse_append]
      show 47 :: List.takeWhile _ (c :: b.reverse) = _
      rw [List.takeWhile_cons, if_neg]
      simp
      intro hc
      refine h ?_
      rw [List.concat_eq_append, hc]
      exact List.suffix_append _ _
  have hhi : stripHi (S [47]).cps.contains true (S (a ++ [47])) 0 = a.length := by
    unfold stripHi
    rw [if_pos rfl, htw, S_len]; simp
  unfold Txt.rstripChars Txt.stripBy
  rw [if_neg]
  · unfold PySem.stripped
    rw [show stripLo (S [47]).cps.contains false (S (a ++ [47])) = 0 from rfl, hhi]
    have := sub_piece [] a [47]
    simpa using this
  · unfold stripSame
    rw [show stripLo (S [47]).cps.contains false (S (a ++ [47])) = 0 from rfl, hhi, S_len]
    simp
theorem dirname_root : dirnameF (S [47]) = S [47] := by decide +kernel
theorem tail_root : tailF (S [47]) = (Str.ofString "") := by decide +kernel
theorem placeL_snoc (ns : List (List Nat)) (n : List Nat) : placeL (ns ++ [n]) = slashed ns ++ 47 :: n := by
  rw [placeL, if_neg (by simp), slashed_append]; simp [slashed]
theorem tail_place {ns : List (List Nat)} {n : List Nat} (hn : Nm n) : tailF (S (placeL (ns ++ [n]))) = S n := by
  unfold tailF
  rw [placeL_snoc, rfind_slash hn.2]
  have := sliceFrom (slashed ns ++ 47 :: n) ((slashed ns).length + 1) (by simp)
  rw [show (((slashed ns).length : Int) + 1) = (((slashed ns).length + 1 : Nat) : Int) by omega, this]
  congr 1
  rw [List.drop_append, List.drop_of_length_le (by omega)]
  simp
theorem dirname_place {ns : List (List Nat)} {n : List Nat} (h : ∀ x ∈ ns, Nm x) (hn : Nm n) : dirnameF (S (placeL (ns ++ [n]))) = S (placeL ns) := by
  unfold dirnameF
  rw [placeL_snoc, rfind_slash hn.2]
  have := sliceTo (slashed ns ++ 47 :: n) ((slashed ns).length + 1) (by simp)
  rw [show (((slashed ns).length : Int) + 1) = (((slashed ns).length + 1 : Nat) : Int) by omega, this]
  have e : (slashed ns ++ 47 :: n).take ((slashed ns).length + 1) = slashed ns ++ [47] := by
    rw [List.take_append, List.take_of_length_le (by omega)]
    simp
  rw [e]
  by_cases hne : ns = []
  · subst hne; decide +kernel
  · unfold headOf
    rw [if_neg (by rw [S_len]; simp), if_pos, rstrip_slash (slashed_ends h hne).2, placeL, if_neg hne]
    rw [bne_iff_ne]
    intro he
    have hall := mul_slash ((S (slashed ns ++ [47])).length : Int)
    rw [← he] at hall
    obtain ⟨x, r, rfl⟩ := List.exists_cons_of_ne_nil hne
    have hx := h x (.head _)
    obtain ⟨c, y, rfl⟩ := List.exists_cons_of_ne_nil hx.1
    have hc := hall c (by show c ∈ slashed ((c :: y) :: r) ++ [47]; simp [slashed])
    exact hx.2 (by rw [hc]; exact .head _)
theorem take_succ_snoc {α : Type} {l : List α} {k : Nat} {y : α} (h : l[k]? = some y) : l.take (k + 1) = l.take k ++ [y] := by
  rw [List.take_add_one, h]; rfl
theorem iterD_place {ns : List (List Nat)} (h : ∀ x ∈ ns, Nm x) : ∀ i, iterD i (S (placeL ns)) = S (placeL (ns.take (ns.length - i)))
  | 0 => by simp [iterD]
  | k + 1 => by
    rw [iterD, iterD_place h k]
    rcases Nat.lt_or_ge k ns.length with hk | hk
    · obtain ⟨j, hj⟩ : ∃ j, ns.length - k = j + 1 := ⟨ns.length - k - 1, by omega⟩
      obtain ⟨y, hy⟩ : ∃ y, ns[j]? = some y := ⟨_, List.getElem?_eq_getElem (by omega)⟩
      rw [hj, take_succ_snoc hy, dirname_place (fun x hx => h x (List.mem_of_mem_take hx)) (h y (List.mem_of_getElem? hy)), show ns.length - (k + 1) = j by omega]
    · rw [show ns.length - k = 0 by omega, show ns.length - (k + 1) = 0 by omega]
      exact dirname_root
theorem slashed_len {B : Nat} : ∀ {ns : List (List Nat)}, (∀ n ∈ ns, n.length ≤ B) → (slashed ns).length ≤ ns.length * (B + 1)
  | [], _ => Nat.zero_le _
  | n :: r, h => by
    have h1 := h n (.head _)
    have h2 := slashed_len (ns := r) (fun x hx => h x (.tail _ hx))
    simp only [slashed, List.length_cons, List.length_append, Nat.succ_mul]
    omega
theorem placeL_len {B : Nat} {ns : List (List Nat)} (h : ∀ n ∈ ns, n.length ≤ B) : (placeL ns).length ≤ ns.length * (B + 1) + 1 := by
  unfold placeL
  split
  · simp
  · have := slashed_len h; omega
end
section
open PySem PySem.W PyProof.Rows PySem.Calls PySem.Spec
set_option maxRecDepth 100000
set_option maxHeartbeats 8000000
set_option linter.all false
open PySem.StrLaws PySem.Builtin PySem.Builtin.Str
theorem figs_lt : ∀ (k n : Nat), ∀ d ∈ figs k n, d < 8
  | 0, _, _, h => by cases h
  | k + 1, n, d, h => by
    unfold figs at h
    split at h
    · cases h
    · rcases List.mem_cons.mp h with rfl | h
      · omega
      · exact figs_lt k _ d h
def spellL (d : Nat) : List Nat := (spellOf d).cps.toList
theorem spell_facts (d : Nat) (h : d < 8) : Nm (spellL d) ∧ (spellL d).length ≤ 3 ∧ PyData.strOk (spellOf d) = true := by
  match d, h with
  | 0, _ | 1, _ | 2, _ | 3, _ | 4, _ | 5, _ | 6, _ | 7, _ => exact ⟨⟨by decide +kernel, by decide +kernel⟩, by decide +kernel, by decide +kernel⟩
theorem rule_facts (d : Nat) (h : d < 8) : Nm (pieceL d) ∧ (pieceL d).length ≤ 3 ∧ PyData.strOk (ruleOf d) = true := by
  match d, h with
  | 0, _ | 1, _ | 2, _ | 3, _ | 4, _ | 5, _ | 6, _ | 7, _ => exact ⟨⟨by decide +kernel, by decide +kernel⟩, by decide +kernel, by decide +kernel⟩
theorem spell_S (d : Nat) : spellOf d = S (spellL d) := ofS.symm
theorem rule_S (d : Nat) : ruleOf d = S (pieceL d) := ofS.symm
theorem starS : (Str.ofString "*") = S [42] := by decide +kernel
theorem contains_star (xs : List (List Nat)) : Txt.contains (Txt.join (Str.ofString "") (xs.map S)) (Str.ofString "*") = decide (42 ∈ xs.flatten) := by
  have e : Txt.join (Str.ofString "") (xs.map S) = S xs.flatten := by
    rw [emptyS]
    show Builtin.Str.glued _ _ = _
    rw [StrLaws.glued_eq_join, join_glue, glue_nil]
  rw [e, starS]
  exact StrLaws.found_one _ _
theorem flat_mem {ps : List (List Nat)} {p : List Nat} {c : Nat} (hp : p ∈ ps) (hc : c ∈ p) : c ∈ flat ps := List.mem_flatMap.mpr ⟨p, hp, List.mem_append_left _ hc⟩
theorem flat_len {B : Nat} : ∀ {ns : List (List Nat)}, (∀ n ∈ ns, n.length ≤ B) → (flat ns).length ≤ ns.length * (B + 1)
  | [], _ => Nat.zero_le _
  | n :: r, h => by
    have h1 := h n (.head _)
    have h2 := flat_len (ns := r) (fun x hx => h x (.tail _ hx))
    rw [flat_cons]
    simp only [List.length_append, List.length_cons, Nat.succ_mul]
    omega
/-- the rule's pieces -/
theorem rule_pieces (r : Nat) : ∃ ps : List (List Nat), ruleF r = ps.map S ∧ ps.length ≤ 5 ∧ (∀ p ∈ ps, Piece p) ∧ (∀ p ∈ ps, Nm p) ∧ (∀ p ∈ ps, p.length ≤ 3) ∧ (∀ p ∈ ps, PyData.strOk (S p) = true) ∧ 42 ∈ flat ps := by
  have hd := figs_lt 4 r
  have hl := figs_len 4 r
  have e : (figs 4 r).map ruleOf = ((figs 4 r).map pieceL).map S := by
    rw [List.map_map]; exact List.map_congr_left fun d _ => rule_S d
  have h0 : ∀ p ∈ (figs 4 r).map pieceL, Piece p ∧ Nm p ∧ p.length ≤ 3 ∧ PyData.strOk (S p) = true := by
    intro p hp
    obtain ⟨d, hd1, rfl⟩ := List.mem_map.mp hp
    have h1 := rule_facts d (hd d hd1)
    exact ⟨piece_rule d (hd d hd1), h1.1, h1.2.1, by rw [← rule_S]; exact h1.2.2⟩
  unfold ruleF
  dsimp only
  rw [e, contains_star]
  have hl2 : ((figs 4 r).map pieceL).length ≤ 4 := by rw [List.length_map]; exact hl
  generalize (figs 4 r).map pieceL = qs at h0 hl2
  by_cases hs : 42 ∈ qs.flatten
  · rw [decide_eq_true hs, if_pos rfl]
    obtain ⟨p, hp, hc⟩ := List.mem_flatten.mp hs
    exact ⟨qs, rfl, by omega, fun p hp => (h0 p hp).1, fun p hp => (h0 p hp).2.1, fun p hp => (h0 p hp).2.2.1, fun p hp => (h0 p hp).2.2.2, flat_mem hp hc⟩
  · rw [decide_eq_false hs, if_neg (by decide)]
    have hstar : pieceL 0 = [42] := by decide +kernel
    have h1 := rule_facts 0 (by decide)
    have h2 := piece_rule 0 (by decide)
    rw [hstar] at h1 h2
    have h3 : ∀ p ∈ qs ++ [[42]], Piece p ∧ Nm p ∧ p.length ≤ 3 ∧ PyData.strOk (S p) = true := by
      intro p hp
      rcases List.mem_append.mp hp with hp | hp
      · exact h0 p hp
      · rw [List.mem_singleton.mp hp]
        refine ⟨h2, h1.1, h1.2.1, ?_⟩
        have := h1.2.2
        rw [rule_S, hstar] at this
        exact this
    refine ⟨qs ++ [[42]], by rw [starS]; simp, by simp; omega, fun p hp => (h3 p hp).1, fun p hp => (h3 p hp).2.1, fun p hp => (h3 p hp).2.2.1, fun p hp => (h3 p hp).2.2.2, flat_mem (p := [42]) (by simp) (by simp)⟩
/-- one turn of the walk, on lists -/
def walkL (ns : List (List Nat)) (p : List Nat) : List (List Nat) := if p = [46, 46] then ns.dropLast else if p = [46] then ns else ns ++ [p]
theorem dotS : (Str.ofString ".") = S [46] := by decide +kernel
theorem dotsS : (Str.ofString "..") = S [46, 46] := by decide +kernel
theorem S_beq (a b : List Nat) : (S a == S b) = decide (a = b) := by
  by_cases h : a = b
  · subst h; simp
  · rw [decide_eq_false h]; exact beq_eq_false_iff_ne.mpr fun e => h (S_inj e)
theorem walk_S (ns : List (List Nat)) (p : List Nat) : walkStep (ns.map S) (S p) = (walkL ns p).map S := by
  unfold walkStep walkL
  rw [dotS, dotsS, bne, S_beq, S_beq]
  by_cases h1 : p = [46, 46]
  · rw [decide_eq_true h1, if_pos rfl, if_pos h1, List.map_dropLast]
  · rw [decide_eq_false h1, if_neg (by decide), if_neg h1]
    by_cases h2 : p = [46]
    · rw [decide_eq_true h2, if_neg (by decide), if_pos h2]
    · rw [decide_eq_false h2, if_pos (by decide), if_neg h2]; simp
theorem walks_S : ∀ (ws ns : List (List Nat)), (ws.map S).foldl walkStep (ns.map S) = (ws.foldl walkL ns).map S
  | [], _ => rfl
  | w :: r, ns => by
    simp only [List.map_cons, List.foldl_cons]
    rw [walk_S, walks_S r]
theorem walkL_inv (P : List Nat → Prop) {ns : List (List Nat)} {p : List Nat} (h : ∀ n ∈ ns, P n ∧ n ≠ [46, 46]) (hp : P p) : (∀ n ∈ walkL ns p, P n ∧ n ≠ [46, 46]) ∧ (walkL ns p).length ≤ ns.length + 1 := by
  unfold walkL
  split
  · exact ⟨fun n hn => h n (List.dropLast_subset _ hn), by simp; omega⟩
  · rename_i h1
    split
    · exact ⟨h, by omega⟩
    · refine ⟨fun n hn => ?_, by simp⟩
      rcases List.mem_append.mp hn with hn | hn
      · exact h n hn
      · rw [List.mem_singleton.mp hn]; exact ⟨hp, h1⟩
theorem walks_inv (P : List Nat → Prop) : ∀ {ws ns : List (List Nat)}, (∀ n ∈ ns, P n ∧ n ≠ [46, 46]) → (∀ w ∈ ws, P w) → (∀ n ∈ ws.foldl walkL ns, P n ∧ n ≠ [46, 46]) ∧ (ws.foldl walkL ns).length ≤ ns.length + ws.length
  | [], ns, h, _ => ⟨h, by simp⟩
  | w :: r, ns, h, hw => by
    have h1 := walkL_inv P h (hw w (.head _))
    have h2 := walks_inv P (ws := r) h1.1 (fun x hx => hw x (.tail _ hx))
    refine ⟨h2.1, ?_⟩
    have h3 := h2.2
    have h4 := h1.2
    simp only [List.foldl_cons, List.length_cons]
    omega
theorem norm_S {ns : List (List Nat)} {p : List Nat} (h : ∀ n ∈ ns, n ≠ [46, 46]) (hp : p ≠ []) : normStep (ns.map S) (S p) = (walkL ns p).map S := by
  unfold normStep walkL
  rw [dotS, dotsS, bne, S_beq, S_beq, if_neg (by rw [S_len]; exact fun e => hp (List.length_eq_zero_iff.mp e))]
  by_cases h1 : p = [46, 46]
  · subst h1
    rw [decide_eq_false (by decide), if_neg (by decide), decide_eq_true rfl, if_neg (by decide), if_pos rfl]
    rcases List.eq_nil_or_concat ns with rfl | ⟨r, x, rfl⟩
    · rfl
    · rw [List.concat_eq_append] at h ⊢
      rw [if_neg (by simp)]
      have hx : ((r ++ [x]).map S).getD (((r ++ [x]).map S).length - 1) Str.empty = S x := by
        rw [List.getD_eq_getElem?_getD]; simp
      rw [hx, S_beq, decide_eq_false (h x (by simp)), if_neg (by decide)]
      simp
  · by_cases h2 : p = [46]
    · rw [decide_eq_true h2, if_pos rfl, if_neg h1, if_pos h2]
    · rw [decide_eq_false h2, if_neg (by decide), decide_eq_false h1, if_pos (by decide), if_neg h1, if_neg h2]; simp
theorem norms_S : ∀ {ws ns : List (List Nat)}, (∀ n ∈ ns, n ≠ [46, 46]) → (∀ w ∈ ws, w ≠ []) → (ws.map S).foldl normStep (ns.map S) = (ws.foldl walkL ns).map S
  | [], _, _, _ => rfl
  | w :: r, ns, h, hw => by
    simp only [List.map_cons, List.foldl_cons]
    rw [norm_S h (hw w (.head _))]
    have h1 := walkL_inv (fun _ => True) (ns := ns) (p := w) (fun n hn => ⟨trivial, h n hn⟩) trivial
    exact norms_S (fun n hn => (h1.1 n hn).2) (fun x hx => hw x (.tail _ hx))
theorem slashed_jn : ∀ {ns : List (List Nat)}, ns ≠ [] → slashed ns = 47 :: jnC 47 ns
  | [], h => absurd rfl h
  | [x], _ => by simp [slashed, jnC]
  | x :: y :: r, _ => by
    have ih := slashed_jn (ns := y :: r) (by simp)
    show 47 :: (x ++ slashed (y :: r)) = 47 :: (x ++ 47 :: jnC 47 (y :: r))
    rw [ih]
theorem placeL_jn (ns : List (List Nat)) : placeL ns = 47 :: jnC 47 ns := by
  unfold placeL
  split
  · rename_i h; subst h; rfl
  · rename_i h; exact slashed_jn h
theorem splitroot_S {l : List Nat} (h : ¬ [47] <+: l) : splitrootF (S (47 :: l)) = (S [], S [47], S l) := by
  cases l with
  | nil => decide +kernel
  | cons c r =>
    have hc : c ≠ 47 := fun e => h (by rw [e]; exact ⟨r, rfl⟩)
    have h1 := sliceTo (47 :: c :: r) 1 (by simp)
    have h2 := eq_of_beq (slice_one_closes (x := S (47 :: c :: r)) (n := 1) (by decide) (by rw [S_len]; simp only [List.length_cons]; omega))
    have h3 := sliceFrom (47 :: c :: r) 1 (by simp)
    unfold splitrootF
    rw [slashS, emptyS]
    rw [show Txt.slice (S (47 :: c :: r)) none (some 1) = S [47] from h1, if_neg (by simp)]
    rw [show Txt.slice (S (47 :: c :: r)) (some 1) (some 2) = S [c] from h2, bne, S_beq, if_pos (by simp [hc]), show Txt.slice (S (47 :: c :: r)) (some 1) none = S (c :: r) from h3]
theorem jn_starts {ws : List (List Nat)} (h : ∀ w ∈ ws, Nm w) : ¬ [47] <+: jnC 47 ws := by
  intro hp
  cases ws with
  | nil => obtain ⟨t, ht⟩ := hp; simp [jnC] at ht
  | cons x r =>
    have hx := h x (.head _)
    obtain ⟨c, y, rfl⟩ := List.exists_cons_of_ne_nil hx.1
    obtain ⟨t, ht⟩ := hp
    have : 47 = c := by
      cases r with
      | nil => simp [jnC] at ht; exact ht.1
      | cons z r => simp [jnC] at ht; exact ht.1
    exact hx.2 (by rw [this]; exact .head _)
/-- everything of the spelling, on lists -/
theorem place_lists (n : Nat) : ∃ ws ns : List (List Nat), wayOf n = ws.map S ∧ ws.length ≤ 4 ∧ (∀ w ∈ ws, Nm w ∧ w.length ≤ 3 ∧ PyData.strOk (S w) = true) ∧ ns = ws.foldl walkL [] ∧ namesOf n = ns.map S ∧ ns.length ≤ 4 ∧ (∀ w ∈ ns, Nm w ∧ w.length ≤ 3 ∧ PyData.strOk (S w) = true) := by
  have hd := figs_lt 4 (n / 4096)
  have hl := figs_len 4 (n / 4096)
  have e : wayOf n = ((figs 4 (n / 4096)).map spellL).map S := by
    unfold wayOf
    rw [List.map_map]; exact List.map_congr_left fun d _ => spell_S d
  have h0 : ∀ w ∈ (figs 4 (n / 4096)).map spellL, Nm w ∧ w.length ≤ 3 ∧ PyData.strOk (S w) = true := by
    intro w hw
    obtain ⟨d, hd1, rfl⟩ := List.mem_map.mp hw
    have := spell_facts d (hd d hd1)
    rw [spell_S] at this
    exact this
  have hi := walks_inv (fun w => Nm w ∧ w.length ≤ 3 ∧ PyData.strOk (S w) = true) (ws := (figs 4 (n / 4096)).map spellL) (ns := []) (by simp) h0
  refine ⟨_, _, e, by simpa using hl, h0, rfl, ?_, ?_, fun w hw => (hi.1 w hw).1⟩
  · unfold namesOf
    rw [e, ← walks_S _ []]; rfl
  · have := hi.2
    rw [List.length_map, List.length_nil] at this
    omega
theorem jnC_len {c B : Nat} : ∀ {ws : List (List Nat)}, (∀ w ∈ ws, w.length ≤ B) → (jnC c ws).length ≤ ws.length * (B + 1)
  | [], _ => Nat.zero_le _
  | [x], h => by have := h x (.head _); simp [jnC]; omega
  | x :: y :: r, h => by
    have h1 := h x (.head _)
    have h2 := jnC_len (c := c) (ws := y :: r) (fun w hw => h w (.tail _ hw))
    simp only [jnC, List.length_append, List.length_cons, Nat.succ_mul] at h2 ⊢
    omega
end
section
open PySem PySem.W PyProof.Rows PySem.Calls PySem.Spec
set_option maxRecDepth 100000
set_option maxHeartbeats 8000000
set_option linter.all false
theorem place_text {n : Nat} {ws ns : List (List Nat)} (e : wayOf n = ws.map S) (hl : ws.length ≤ 4) (hw : ∀ w ∈ ws, Nm w ∧ w.length ≤ 3 ∧ PyData.strOk (S w) = true) (hns : ns = ws.foldl walkL []) (hnm : ∀ w ∈ ns, Nm w ∧ w.length ≤ 3 ∧ PyData.strOk (S w) = true) :
    Txt.join (Str.ofString "/") (wayOf n) = S (jnC 47 ws) ∧ rawOf n = S (47 :: jnC 47 ws) ∧ splitrootF (rawOf n) = (S [], S [47], S (jnC 47 ws)) ∧
    (Txt.split (splitrootF (rawOf n)).2.2 (Str.ofString "/")).length ≤ 100 ∧ (Txt.split (splitrootF (rawOf n)).2.2 (Str.ofString "/")).foldl normStep [] = ns.map S ∧ placeOf n = S (placeL ns) := by
  have h1 : Txt.join (Str.ofString "/") (wayOf n) = S (jnC 47 ws) := by rw [e, slashS, txtJoin_S]
  have h2 : rawOf n = S (47 :: jnC 47 ws) := by
    unfold rawOf
    rw [h1, joinF_root (jn_starts fun w h => (hw w h).1)]
  have h3 : splitrootF (rawOf n) = (S [], S [47], S (jnC 47 ws)) := by rw [h2, splitroot_S (jn_starts fun w h => (hw w h).1)]
  have h4 : (Txt.split (S (jnC 47 ws)) (Str.ofString "/")).length ≤ 100 ∧ (Txt.split (S (jnC 47 ws)) (Str.ofString "/")).foldl normStep [] = ns.map S := by
    rw [slashS]
    by_cases hne : ws = []
    · subst hne hns; exact ⟨by decide +kernel, by decide +kernel⟩
    · rw [split_S (fun w h => (hw w h).1.2) hne]
      refine ⟨by rw [List.length_map]; omega, ?_⟩
      rw [hns, ← norms_S (ns := []) (by simp) (fun w h => (hw w h).1.1)]; rfl
  refine ⟨h1, h2, h3, by rw [h3]; exact h4.1, by rw [h3]; exact h4.2, ?_⟩
  unfold placeOf normF
  rw [h3]
  dsimp only
  rw [h4.2, slashS, txtJoin_S, S_append, placeL_jn]
  rfl
theorem placeOk (n : Nat) : PlaceOk n := by
  obtain ⟨ws, ns, e, hl, hw, hns, hN, hnl, hnm⟩ := place_lists n
  obtain ⟨h1, h2, h3, h4, h5, h6⟩ := place_text e hl hw hns hnm
  have hj : (jnC 47 ws).length ≤ 16 := by
    have := jnC_len (c := 47) (ws := ws) (B := 3) (fun w h => (hw w h).2.1)
    omega
  have hpl : ∀ ms : List (List Nat), (∀ w ∈ ms, w.length ≤ 3) → ms.length ≤ 4 → (placeL ms).length ≤ 17 := fun ms h h' => by
    have := placeL_len (B := 3) h
    omega
  have hN1 : ∀ w ∈ ns, Nm w := fun w h => (hnm w h).1
  have hN2 : ∀ w ∈ ns, w.length ≤ 3 := fun w h => (hnm w h).2.1
  have htk : ∀ k, (placeL (ns.take k)).length ≤ 17 := fun k => hpl _ (fun w h => hN2 w (List.mem_of_mem_take h)) (by rw [List.length_take]; omega)
  constructor
  · rw [e]
    refine ⟨by rw [List.length_map]; omega, fun y hy => ?_⟩
    obtain ⟨w, h, rfl⟩ := List.mem_map.mp hy
    have := (hw w h).2.1
    rw [S_len]; omega
  · rw [h1, S_len]; omega
  · rw [h2, S_len, List.length_cons]; omega
  · rw [h5]
    refine ⟨by rw [h3]; dsimp only; rw [S_len]; omega, by rw [h3, slashS], h4, ?_⟩
    rw [slashS, txtJoin_S, S_len]
    have := jnC_len (c := 47) (ws := ns) (B := 3) hN2
    omega
  · refine ⟨fun k => S (placeL (ns.take k)), ?_, fun k => by dsimp only; rw [S_len]; have := htk k; omega, tail_root, fun k y hy => ?_⟩
    · rw [hN, h6, List.length_map]; dsimp only; rw [List.take_length]
    · rw [hN, List.getElem?_map] at hy
      cases hx : ns[k]? with
      | none => rw [hx] at hy; cases hy
      | some x =>
        rw [hx] at hy
        have hy' : y = S x := (Option.some.inj hy).symm
        subst hy'
        have hxn := hN1 x (List.mem_of_getElem? hx)
        dsimp only
        rw [take_succ_snoc hx]
        refine ⟨dirname_place (fun w h => hN1 w (List.mem_of_mem_take h)) hxn, tail_place hxn, ?_⟩
        rw [emptyS, bne, S_beq, decide_eq_false hxn.1]; rfl
  · rw [hN]
    intro y hy
    obtain ⟨w, h, rfl⟩ := List.mem_map.mp hy
    exact (hnm w h).2.2
  · rw [hN]
    refine ⟨by rw [List.length_map]; omega, fun y hy => ?_⟩
    obtain ⟨w, h, rfl⟩ := List.mem_map.mp hy
    have := hN2 w h
    rw [S_len]; omega
  · rw [h6, joinF_place hN1, S_len, List.length_cons]
    have := flat_len (B := 3) hN2
    omega
  · rw [h6]
    refine ⟨by rw [S_len]; have := hpl ns hN2 hnl; omega, fun i => ?_⟩
    rw [iterD_place hN1, S_len]
    have := htk (ns.length - i); omega
theorem ruleOk (r : Nat) : RuleOk r := by
  obtain ⟨ps, e, hl, hp, hn, hb, hs, h42⟩ := rule_pieces r
  have hfl : (47 :: flat ps).length ≤ 30 := by
    have := flat_len (B := 3) hb
    rw [List.length_cons]; omega
  constructor
  · rw [e]
    refine ⟨by rw [List.length_map]; omega, fun y hy => ?_, fun y hy => ?_⟩
    · obtain ⟨w, h, rfl⟩ := List.mem_map.mp hy
      have := hb w h
      rw [S_len]; omega
    · obtain ⟨w, h, rfl⟩ := List.mem_map.mp hy
      exact hs w h
  · intro i
    rw [e, ← List.map_take, show (Str.ofString "/") = S (placeL []) by decide +kernel, foldJ_slashed (ns := []) (fun _ hn => nomatch hn) (fun p h => hn p (List.mem_of_mem_take h)), List.nil_append, S_len]
    have := placeL_len (B := 3) (ns := ps.take i) (fun p h => hb p (List.mem_of_mem_take h))
    rw [List.length_take] at this
    omega
  · obtain ⟨x0, mids, xl, hdx, hpat, hx0, hm, hxl, q1, q2, q3, q4, q5, q6, q7⟩ := rule_parts hfl (.tail _ h42)
    refine ⟨47 :: flat ps, x0, mids, xl, hdx, by rw [e, hung_text hn], by omega, q1, q2, q3, q4, q5, q6, q7, fun n _ => ?_⟩
    obtain ⟨ws, ns, ew, hwl, hw, hns, hN, hnl, hnm⟩ := place_lists n
    obtain ⟨_, _, _, _, _, h6⟩ := place_text ew hwl hw hns hnm
    have hN1 : ∀ w ∈ ns, Nm w := fun w h => (hnm w h).1
    obtain ⟨k1, k2, k3⟩ := pair_law (ns := ns) (fun w h => (hN1 w h).2) hp hpat hx0 hm hxl
    rw [e, hN, h6, joinF_place hN1, List.length_map]
    refine ⟨k1, fun _ => ⟨k2, fun M hM hmax => ?_⟩⟩
    have hMle := k2 M hM
    rw [k3 M hM hmax, iterD_place hN1, show ns.length - (ns.length - M) = M by omega, joinF_place (fun w h => hN1 w (List.mem_of_mem_take h))]
end
end Mine
open PySem PySem.W PyProof.Rows
set_option maxRecDepth 100000 in
set_option maxHeartbeats 8000000 in
theorem PySem.Challenge.cw_rt0030_01_holds : PySem.Challenge.rw_rt0030_01.Holds :=
  Mine.lawWalk (fun n _ => Mine.placeOk n) (fun r _ => Mine.ruleOk r)

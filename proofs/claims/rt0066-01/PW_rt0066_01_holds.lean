import PyProof.Rows.All
import Wide.All
import OpenK.AllK
import Wide.FinOn
import PySem.Challenge.RW_rt0066_01
open PySem PySem.W PySem.Calls PyProof.Rows
set_option Elab.async false
set_option maxRecDepth 100000
set_option compiler.extract_closed false
namespace Mine
section
noncomputable abbrev lawP : Program := PySem.Challenge.rw_rt0066_01.row.prog
/-- a def of the top, as the heap holds it -/
noncomputable def fnObj (i : Nat) (pm : Str) (t c : Nat) : Obj := match lawP.main.body[i]? with
  | some (.FunctionDef name params body _ _ _ scope _ _ _) => { cls := Value.type "function", data := Data.func { name := name, qualname := name, params := params, body := .stmts body, scope := scope, globals := 3, closure := [], defaults := Value.none, kwdefaults := Value.none, pyModule := Value.str pm t, code := Value.ref c } }
  | _ => { cls := Value.none, data := Data.plain }
noncomputable def lawK (P : Params) : Frag := [
  (3, { cls := Value.type "dict", data := Data.dict #[{ hash := PyData.keyHash P (Str.ofString "__name__"), key := Value.str (Str.ofString "__name__") 165, val := Value.str (Str.ofString "law_rt0066_01") 453 }, { hash := PyData.keyHash P (Str.ofString "__doc__"), key := Value.str (Str.ofString "__doc__") 166, val := Value.none }, { hash := PyData.keyHash P (Str.ofString "__package__"), key := Value.str (Str.ofString "__package__") 167, val := Value.none }, { hash := PyData.keyHash P (Str.ofString "__loader__"), key := Value.str (Str.ofString "__loader__") 168, val := Value.builtin "__main__.__loader__#opaque" }, { hash := PyData.keyHash P (Str.ofString "__spec__"), key := Value.str (Str.ofString "__spec__") 169, val := Value.none }, { hash := PyData.keyHash P (Str.ofString "__annotations__"), key := Value.str (Str.ofString "__annotations__") 170, val := Value.ref 6 }, { hash := PyData.keyHash P (Str.ofString "__builtins__"), key := Value.str (Str.ofString "__builtins__") 171, val := Value.ref 4 }, { hash := PyData.keyHash P (Str.ofString "__file__"), key := Value.str (Str.ofString "__file__") 173, val := Value.str (Str.ofString "/claim/cut.py") 172 }, { hash := PyData.keyHash P (Str.ofString "__cached__"), key := Value.str (Str.ofString "__cached__") 174, val := Value.none }, { hash := PyData.keyHash P (Str.ofString "_wall"), key := Value.str (Str.ofString "_wall") 193, val := Value.ref 21 }, { hash := PyData.keyHash P (Str.ofString "_plain_name"), key := Value.str (Str.ofString "_plain_name") 204, val := Value.ref 28 }, { hash := PyData.keyHash P (Str.ofString "ABCMeta"), key := Value.str (Str.ofString "ABCMeta") 230, val := Value.ref 45 }, { hash := PyData.keyHash P (Str.ofString "_ABCLike"), key := Value.str (Str.ofString "_ABCLike") 273, val := Value.ref 78 }, { hash := PyData.keyHash P (Str.ofString "_abc_plain_meta"), key := Value.str (Str.ofString "_abc_plain_meta") 280, val := Value.ref 87 }, { hash := PyData.keyHash P (Str.ofString "fspath"), key := Value.str (Str.ofString "fspath") 292, val := Value.ref 94 }, { hash := PyData.keyHash P (Str.ofString "_check_arg_types"), key := Value.str (Str.ofString "_check_arg_types") 305, val := Value.ref 101 }, { hash := PyData.keyHash P (Str.ofString "_get_sep"), key := Value.str (Str.ofString "_get_sep") 314, val := Value.ref 108 }, { hash := PyData.keyHash P (Str.ofString "join"), key := Value.str (Str.ofString "join") 325, val := Value.ref 115 }, { hash := PyData.keyHash P (Str.ofString "dirname"), key := Value.str (Str.ofString "dirname") 335, val := Value.ref 122 }, { hash := PyData.keyHash P (Str.ofString "commonpath"), key := Value.str (Str.ofString "commonpath") 341, val := Value.ref 127 }, { hash := PyData.keyHash P (Str.ofString "read_uint1"), key := Value.str (Str.ofString "read_uint1") 351, val := Value.ref 134 }, { hash := PyData.keyHash P (Str.ofString "read_string1"), key := Value.str (Str.ofString "read_string1") 360, val := Value.ref 141 }, { hash := PyData.keyHash P (Str.ofString "S_IMODE"), key := Value.str (Str.ofString "S_IMODE") 369, val := Value.ref 148 }, { hash := PyData.keyHash P (Str.ofString "S_IFMT"), key := Value.str (Str.ofString "S_IFMT") 376, val := Value.ref 155 }, { hash := PyData.keyHash P (Str.ofString "S_IFDIR"), key := Value.str (Str.ofString "S_IFDIR") 378, val := Value.int 16384 377 }, { hash := PyData.keyHash P (Str.ofString "S_IFCHR"), key := Value.str (Str.ofString "S_IFCHR") 380, val := Value.int 8192 379 }, { hash := PyData.keyHash P (Str.ofString "S_IFBLK"), key := Value.str (Str.ofString "S_IFBLK") 382, val := Value.int 24576 381 }, { hash := PyData.keyHash P (Str.ofString "S_IFREG"), key := Value.str (Str.ofString "S_IFREG") 384, val := Value.int 32768 383 }, { hash := PyData.keyHash P (Str.ofString "S_IFIFO"), key := Value.str (Str.ofString "S_IFIFO") 386, val := Value.int 4096 385 }, { hash := PyData.keyHash P (Str.ofString "S_IFLNK"), key := Value.str (Str.ofString "S_IFLNK") 388, val := Value.int 40960 387 }, { hash := PyData.keyHash P (Str.ofString "S_IFSOCK"), key := Value.str (Str.ofString "S_IFSOCK") 390, val := Value.int 49152 389 }, { hash := PyData.keyHash P (Str.ofString "S_ISUID"), key := Value.str (Str.ofString "S_ISUID") 392, val := Value.int 2048 391 }, { hash := PyData.keyHash P (Str.ofString "S_ISGID"), key := Value.str (Str.ofString "S_ISGID") 394, val := Value.int 1024 393 }, { hash := PyData.keyHash P (Str.ofString "S_ISVTX"), key := Value.str (Str.ofString "S_ISVTX") 396, val := Value.int 512 395 }, { hash := PyData.keyHash P (Str.ofString "S_IRUSR"), key := Value.str (Str.ofString "S_IRUSR") 398, val := Value.int 256 397 }, { hash := PyData.keyHash P (Str.ofString "S_IWUSR"), key := Value.str (Str.ofString "S_IWUSR") 400, val := Value.int 128 399 }, { hash := PyData.keyHash P (Str.ofString "S_IXUSR"), key := Value.str (Str.ofString "S_IXUSR") 402, val := Value.int 64 401 }, { hash := PyData.keyHash P (Str.ofString "S_IRGRP"), key := Value.str (Str.ofString "S_IRGRP") 404, val := Value.int 32 403 }, { hash := PyData.keyHash P (Str.ofString "S_IWGRP"), key := Value.str (Str.ofString "S_IWGRP") 406, val := Value.int 16 405 }, { hash := PyData.keyHash P (Str.ofString "S_IXGRP"), key := Value.str (Str.ofString "S_IXGRP") 408, val := Value.int 8 407 }, { hash := PyData.keyHash P (Str.ofString "S_IROTH"), key := Value.str (Str.ofString "S_IROTH") 410, val := Value.int 4 409 }, { hash := PyData.keyHash P (Str.ofString "S_IWOTH"), key := Value.str (Str.ofString "S_IWOTH") 412, val := Value.int 2 411 }, { hash := PyData.keyHash P (Str.ofString "S_IXOTH"), key := Value.str (Str.ofString "S_IXOTH") 414, val := Value.int 1 413 }, { hash := PyData.keyHash P (Str.ofString "_filemode_table"), key := Value.str (Str.ofString "_filemode_table") 440, val := Value.ref 188 }, { hash := PyData.keyHash P (Str.ofString "filemode"), key := Value.str (Str.ofString "filemode") 452, val := Value.ref 195 }, { hash := PyData.keyHash P (Str.ofString "_law_stream"), key := Value.str (Str.ofString "_law_stream") 465, val := Value.ref 202 }, { hash := PyData.keyHash P (Str.ofString "_law_tree"), key := Value.str (Str.ofString "_law_tree") 478, val := Value.ref 209 }, { hash := PyData.keyHash P (Str.ofString "_law_orders"), key := Value.str (Str.ofString "_law_orders") 491, val := Value.ref 216 }, { hash := PyData.keyHash P (Str.ofString "_law_tape"), key := Value.str (Str.ofString "_law_tape") 497, val := Value.ref 221 }, { hash := PyData.keyHash P (Str.ofString "_law_listing"), key := Value.str (Str.ofString "_law_listing") 509, val := Value.ref 228 }, { hash := PyData.keyHash P (Str.ofString "_law_ways"), key := Value.str (Str.ofString "_law_ways") 521, val := Value.ref 235 }, { hash := PyData.keyHash P (Str.ofString "_law_climb"), key := Value.str (Str.ofString "_law_climb") 529, val := Value.ref 242 }, { hash := PyData.keyHash P (Str.ofString "_law_signs"), key := Value.str (Str.ofString "_law_signs") 535, val := Value.ref 247 }, { hash := PyData.keyHash P (Str.ofString "law"), key := Value.str (Str.ofString "law") 541, val := Value.ref 252 }] 54 }),
  (93, { cls := Value.type "code", data := Data.fields #[Value.str (Str.ofString "fspath") 283, Value.str (Str.ofString "fspath") 284, Value.str (Str.ofString "/claim/cut.py") 285, Value.int 35 0, Value.int 1 0, Value.int 0 0, Value.int 0 0, Value.int 3 0, Value.ref 88, Value.bool true, Value.int 181 0, Value.ref 89, Value.none, Value.ref 90, Value.ref 91, Value.ref 92, Value.int 290 0, Value.int 35 0, Value.str (Str.ofString "/claim/cut.py") 291] }),
  (94, fnObj 9 "os" 281 93),
  (107, { cls := Value.type "code", data := Data.fields #[Value.str (Str.ofString "_get_sep") 308, Value.str (Str.ofString "_get_sep") 309, Value.str (Str.ofString "/claim/cut.py") 310, Value.int 64 0, Value.int 1 0, Value.int 0 0, Value.int 0 0, Value.int 3 0, Value.ref 102, Value.bool true, Value.int 181 0, Value.ref 103, Value.none, Value.ref 104, Value.ref 105, Value.ref 106, Value.int 312 0, Value.int 64 0, Value.str (Str.ofString "/claim/cut.py") 313] }),
  (108, fnObj 13 "cpy313.posixpath" 306 107),
  (114, { cls := Value.type "code", data := Data.fields #[Value.str (Str.ofString "join") 315, Value.str (Str.ofString "join") 316, Value.str (Str.ofString "/claim/cut.py") 317, Value.int 69 0, Value.int 1 0, Value.int 0 0, Value.int 0 0, Value.int 7 0, Value.ref 109, Value.bool true, Value.int 181 0, Value.ref 110, Value.none, Value.ref 111, Value.ref 112, Value.ref 113, Value.int 323 0, Value.int 69 0, Value.str (Str.ofString "/claim/cut.py") 324] }),
  (115, fnObj 14 "cpy313.posixpath" 306 114),
  (121, { cls := Value.type "code", data := Data.fields #[Value.str (Str.ofString "dirname") 326, Value.str (Str.ofString "dirname") 327, Value.str (Str.ofString "/claim/cut.py") 328, Value.int 86 0, Value.int 1 0, Value.int 0 0, Value.int 0 0, Value.int 3 0, Value.ref 116, Value.bool true, Value.int 181 0, Value.ref 117, Value.none, Value.ref 118, Value.ref 119, Value.ref 120, Value.int 333 0, Value.int 86 0, Value.str (Str.ofString "/claim/cut.py") 334] }),
  (122, fnObj 15 "cpy313.posixpath" 306 121),
  (126, { cls := Value.type "code", data := Data.fields #[Value.str (Str.ofString "commonpath") 336, Value.str (Str.ofString "commonpath") 337, Value.str (Str.ofString "/claim/cut.py") 338, Value.int 94 0, Value.int 1 0, Value.int 0 0, Value.int 0 0, Value.int 3 0, Value.ref 123, Value.bool true, Value.int 181 0, Value.ref 124, Value.none, Value.none, Value.none, Value.ref 125, Value.int 339 0, Value.int 94 0, Value.str (Str.ofString "/claim/cut.py") 340] }),
  (127, fnObj 16 "cpy313.posixpath" 306 126),
  (133, { cls := Value.type "code", data := Data.fields #[Value.str (Str.ofString "read_uint1") 344, Value.str (Str.ofString "read_uint1") 345, Value.str (Str.ofString "/claim/cut.py") 346, Value.int 124 0, Value.int 1 0, Value.int 0 0, Value.int 0 0, Value.int 3 0, Value.ref 128, Value.bool true, Value.int 181 0, Value.ref 129, Value.none, Value.ref 130, Value.ref 131, Value.ref 132, Value.int 349 0, Value.int 124 0, Value.str (Str.ofString "/claim/cut.py") 350] }),
  (134, fnObj 18 "cpy313.pickletools" 342 133),
  (140, { cls := Value.type "code", data := Data.fields #[Value.str (Str.ofString "read_string1") 352, Value.str (Str.ofString "read_string1") 353, Value.str (Str.ofString "/claim/cut.py") 354, Value.int 129 0, Value.int 1 0, Value.int 0 0, Value.int 0 0, Value.int 3 0, Value.ref 135, Value.bool true, Value.int 181 0, Value.ref 136, Value.none, Value.ref 137, Value.ref 138, Value.ref 139, Value.int 358 0, Value.int 129 0, Value.str (Str.ofString "/claim/cut.py") 359] }),
  (141, fnObj 19 "cpy313.pickletools" 342 140),
  (147, { cls := Value.type "code", data := Data.fields #[Value.str (Str.ofString "S_IMODE") 363, Value.str (Str.ofString "S_IMODE") 364, Value.str (Str.ofString "/claim/cut.py") 365, Value.int 137 0, Value.int 1 0, Value.int 0 0, Value.int 0 0, Value.int 3 0, Value.ref 142, Value.bool true, Value.int 181 0, Value.ref 143, Value.none, Value.ref 144, Value.ref 145, Value.ref 146, Value.int 367 0, Value.int 137 0, Value.str (Str.ofString "/claim/cut.py") 368] }),
  (148, fnObj 21 "cpy313.stat" 361 147),
  (154, { cls := Value.type "code", data := Data.fields #[Value.str (Str.ofString "S_IFMT") 370, Value.str (Str.ofString "S_IFMT") 371, Value.str (Str.ofString "/claim/cut.py") 372, Value.int 139 0, Value.int 1 0, Value.int 0 0, Value.int 0 0, Value.int 3 0, Value.ref 149, Value.bool true, Value.int 181 0, Value.ref 150, Value.none, Value.ref 151, Value.ref 152, Value.ref 153, Value.int 374 0, Value.int 139 0, Value.str (Str.ofString "/claim/cut.py") 375] }),
  (155, fnObj 22 "cpy313.stat" 361 154),
  (156, { cls := Value.type "tuple", data := Data.seq #[Value.int 40960 387, Value.str (Str.ofString "l") 415] }),
  (157, { cls := Value.type "tuple", data := Data.seq #[Value.int 49152 389, Value.str (Str.ofString "s") 416] }),
  (158, { cls := Value.type "tuple", data := Data.seq #[Value.int 32768 383, Value.str (Str.ofString "-") 417] }),
  (159, { cls := Value.type "tuple", data := Data.seq #[Value.int 24576 381, Value.str (Str.ofString "b") 418] }),
  (160, { cls := Value.type "tuple", data := Data.seq #[Value.int 16384 377, Value.str (Str.ofString "d") 419] }),
  (161, { cls := Value.type "tuple", data := Data.seq #[Value.int 8192 379, Value.str (Str.ofString "c") 420] }),
  (162, { cls := Value.type "tuple", data := Data.seq #[Value.int 4096 385, Value.str (Str.ofString "p") 421] }),
  (163, { cls := Value.type "tuple", data := Data.seq #[Value.ref 156, Value.ref 157, Value.ref 158, Value.ref 159, Value.ref 160, Value.ref 161, Value.ref 162] }),
  (164, { cls := Value.type "tuple", data := Data.seq #[Value.int 256 397, Value.str (Str.ofString "r") 422] }),
  (165, { cls := Value.type "tuple", data := Data.seq #[Value.ref 164] }),
  (166, { cls := Value.type "tuple", data := Data.seq #[Value.int 128 399, Value.str (Str.ofString "w") 423] }),
  (167, { cls := Value.type "tuple", data := Data.seq #[Value.ref 166] }),
  (168, { cls := Value.type "tuple", data := Data.seq #[Value.int 2112 424, Value.str (Str.ofString "s") 425] }),
  (169, { cls := Value.type "tuple", data := Data.seq #[Value.int 2048 391, Value.str (Str.ofString "S") 426] }),
  (170, { cls := Value.type "tuple", data := Data.seq #[Value.int 64 401, Value.str (Str.ofString "x") 427] }),
  (171, { cls := Value.type "tuple", data := Data.seq #[Value.ref 168, Value.ref 169, Value.ref 170] }),
  (172, { cls := Value.type "tuple", data := Data.seq #[Value.int 32 403, Value.str (Str.ofString "r") 428] }),
  (173, { cls := Value.type "tuple", data := Data.seq #[Value.ref 172] }),
  (174, { cls := Value.type "tuple", data := Data.seq #[Value.int 16 405, Value.str (Str.ofString "w") 429] }),
  (175, { cls := Value.type "tuple", data := Data.seq #[Value.ref 174] }),
  (176, { cls := Value.type "tuple", data := Data.seq #[Value.int 1032 430, Value.str (Str.ofString "s") 431] }),
  (177, { cls := Value.type "tuple", data := Data.seq #[Value.int 1024 393, Value.str (Str.ofString "S") 432] }),
  (178, { cls := Value.type "tuple", data := Data.seq #[Value.int 8 407, Value.str (Str.ofString "x") 433] }),
  (179, { cls := Value.type "tuple", data := Data.seq #[Value.ref 176, Value.ref 177, Value.ref 178] }),
  (180, { cls := Value.type "tuple", data := Data.seq #[Value.int 4 409, Value.str (Str.ofString "r") 434] }),
  (181, { cls := Value.type "tuple", data := Data.seq #[Value.ref 180] }),
  (182, { cls := Value.type "tuple", data := Data.seq #[Value.int 2 411, Value.str (Str.ofString "w") 435] }),
  (183, { cls := Value.type "tuple", data := Data.seq #[Value.ref 182] }),
  (184, { cls := Value.type "tuple", data := Data.seq #[Value.int 513 436, Value.str (Str.ofString "t") 437] }),
  (185, { cls := Value.type "tuple", data := Data.seq #[Value.int 512 395, Value.str (Str.ofString "T") 438] }),
  (186, { cls := Value.type "tuple", data := Data.seq #[Value.int 1 413, Value.str (Str.ofString "x") 439] }),
  (187, { cls := Value.type "tuple", data := Data.seq #[Value.ref 184, Value.ref 185, Value.ref 186] }),
  (188, { cls := Value.type "tuple", data := Data.seq #[Value.ref 163, Value.ref 165, Value.ref 167, Value.ref 171, Value.ref 173, Value.ref 175, Value.ref 179, Value.ref 181, Value.ref 183, Value.ref 187] }),
  (194, { cls := Value.type "code", data := Data.fields #[Value.str (Str.ofString "filemode") 441, Value.str (Str.ofString "filemode") 442, Value.str (Str.ofString "/claim/cut.py") 443, Value.int 161 0, Value.int 1 0, Value.int 0 0, Value.int 0 0, Value.int 3 0, Value.ref 189, Value.bool true, Value.int 181 0, Value.ref 190, Value.none, Value.ref 191, Value.ref 192, Value.ref 193, Value.int 450 0, Value.int 161 0, Value.str (Str.ofString "/claim/cut.py") 451] }),
  (195, fnObj 43 "cpy313.stat" 361 194),
  (201, { cls := Value.type "code", data := Data.fields #[Value.str (Str.ofString "_law_stream") 455, Value.str (Str.ofString "_law_stream") 456, Value.str (Str.ofString "/claim/cut.py") 457, Value.int 179 0, Value.int 1 0, Value.int 0 0, Value.int 0 0, Value.int 3 0, Value.ref 196, Value.bool true, Value.int 181 0, Value.ref 197, Value.none, Value.ref 198, Value.ref 199, Value.ref 200, Value.int 463 0, Value.int 179 0, Value.str (Str.ofString "/claim/cut.py") 464] }),
  (202, fnObj 45 "law_rt0066_01" 453 201),
  (208, { cls := Value.type "code", data := Data.fields #[Value.str (Str.ofString "_law_tree") 466, Value.str (Str.ofString "_law_tree") 467, Value.str (Str.ofString "/claim/cut.py") 468, Value.int 189 0, Value.int 1 0, Value.int 0 0, Value.int 0 0, Value.int 3 0, Value.ref 203, Value.bool true, Value.int 181 0, Value.ref 204, Value.none, Value.ref 205, Value.ref 206, Value.ref 207, Value.int 476 0, Value.int 189 0, Value.str (Str.ofString "/claim/cut.py") 477] }),
  (209, fnObj 46 "law_rt0066_01" 453 208),
  (215, { cls := Value.type "code", data := Data.fields #[Value.str (Str.ofString "_law_orders") 479, Value.str (Str.ofString "_law_orders") 480, Value.str (Str.ofString "/claim/cut.py") 481, Value.int 198 0, Value.int 2 0, Value.int 0 0, Value.int 0 0, Value.int 3 0, Value.ref 210, Value.bool true, Value.int 181 0, Value.ref 211, Value.none, Value.ref 212, Value.ref 213, Value.ref 214, Value.int 489 0, Value.int 198 0, Value.str (Str.ofString "/claim/cut.py") 490] }),
  (216, fnObj 47 "law_rt0066_01" 453 215),
  (220, { cls := Value.type "code", data := Data.fields #[Value.str (Str.ofString "_law_tape") 492, Value.str (Str.ofString "_law_tape") 493, Value.str (Str.ofString "/claim/cut.py") 494, Value.int 207 0, Value.int 2 0, Value.int 0 0, Value.int 0 0, Value.int 3 0, Value.ref 217, Value.bool true, Value.int 181 0, Value.ref 218, Value.none, Value.none, Value.none, Value.ref 219, Value.int 495 0, Value.int 207 0, Value.str (Str.ofString "/claim/cut.py") 496] }),
  (221, fnObj 48 "law_rt0066_01" 453 220),
  (227, { cls := Value.type "code", data := Data.fields #[Value.str (Str.ofString "_law_listing") 498, Value.str (Str.ofString "_law_listing") 499, Value.str (Str.ofString "/claim/cut.py") 500, Value.int 214 0, Value.int 1 0, Value.int 0 0, Value.int 0 0, Value.int 3 0, Value.ref 222, Value.bool true, Value.int 181 0, Value.ref 223, Value.none, Value.ref 224, Value.ref 225, Value.ref 226, Value.int 507 0, Value.int 214 0, Value.str (Str.ofString "/claim/cut.py") 508] }),
  (228, fnObj 49 "law_rt0066_01" 453 227),
  (234, { cls := Value.type "code", data := Data.fields #[Value.str (Str.ofString "_law_ways") 510, Value.str (Str.ofString "_law_ways") 511, Value.str (Str.ofString "/claim/cut.py") 512, Value.int 225 0, Value.int 1 0, Value.int 0 0, Value.int 0 0, Value.int 3 0, Value.ref 229, Value.bool true, Value.int 181 0, Value.ref 230, Value.none, Value.ref 231, Value.ref 232, Value.ref 233, Value.int 519 0, Value.int 225 0, Value.str (Str.ofString "/claim/cut.py") 520] }),
  (235, fnObj 50 "law_rt0066_01" 453 234),
  (241, { cls := Value.type "code", data := Data.fields #[Value.str (Str.ofString "_law_climb") 522, Value.str (Str.ofString "_law_climb") 523, Value.str (Str.ofString "/claim/cut.py") 524, Value.int 233 0, Value.int 1 0, Value.int 0 0, Value.int 0 0, Value.int 3 0, Value.ref 236, Value.bool true, Value.int 181 0, Value.ref 237, Value.none, Value.ref 238, Value.ref 239, Value.ref 240, Value.int 527 0, Value.int 233 0, Value.str (Str.ofString "/claim/cut.py") 528] }),
  (242, fnObj 51 "law_rt0066_01" 453 241),
  (246, { cls := Value.type "code", data := Data.fields #[Value.str (Str.ofString "_law_signs") 530, Value.str (Str.ofString "_law_signs") 531, Value.str (Str.ofString "/claim/cut.py") 532, Value.int 239 0, Value.int 1 0, Value.int 0 0, Value.int 0 0, Value.int 3 0, Value.ref 243, Value.bool true, Value.int 181 0, Value.ref 244, Value.none, Value.none, Value.none, Value.ref 245, Value.int 533 0, Value.int 239 0, Value.str (Str.ofString "/claim/cut.py") 534] }),
  (247, fnObj 52 "law_rt0066_01" 453 246),
  (251, { cls := Value.type "code", data := Data.fields #[Value.str (Str.ofString "law") 536, Value.str (Str.ofString "law") 537, Value.str (Str.ofString "/claim/cut.py") 538, Value.int 247 0, Value.int 1 0, Value.int 0 0, Value.int 0 0, Value.int 3 0, Value.ref 248, Value.bool true, Value.int 181 0, Value.ref 249, Value.none, Value.none, Value.none, Value.ref 250, Value.int 539 0, Value.int 247 0, Value.str (Str.ofString "/claim/cut.py") 540] }),
  (252, fnObj 53 "law_rt0066_01" 453 251)]
noncomputable def lawAddrs : List Addr := [3, 93, 94, 107, 108, 114, 115, 121, 122, 126, 127, 133, 134, 140, 141, 147, 148, 154, 155, 156, 157, 158, 159, 160, 161, 162, 163, 164, 165, 166, 167, 168, 169, 170, 171, 172, 173, 174, 175, 176, 177, 178, 179, 180, 181, 182, 183, 184, 185, 186, 187, 188, 194, 195, 201, 202, 208, 209, 215, 216, 220, 221, 227, 228, 234, 235, 241, 242, 246, 247, 251, 252]
noncomputable def lawHook : Hook := kmHook lawK lawAddrs (fun _ => by kernel_rfl) [197]
noncomputable def qKeep : List Nat := [0, 2, 4, 6, 7, 9, 11, 13, 14, 15, 16, 18, 19, 21, 22, 23, 24, 25, 26, 27, 28, 29, 30, 31, 32, 33, 34, 35, 36, 37, 38, 39, 40, 41, 42, 43, 45, 46, 47, 48, 49, 50, 51, 52, 53]
noncomputable def lawQ : Program := { lawP with main := { lawP.main with body := qKeep.filterMap (lawP.main.body[·]?) } }
noncomputable def lawLoose : List Str := ["_filemode_table"]
theorem left1 : LeftO lawP lawQ lawLoose (fun s => recOk (RowW.records PySem.Challenge.rw_rt0066_01.row.toRowW) s) (Hook.obs lawHook) (Hook.val lawHook) 3400 := by
  intro w
  kernel_rfl
end

section
/-- a list, written out -/
noncomputable def PlL (h : Heap) (a : Addr) (items : Array Value) : Prop := ∃ o n, h.get? a = some o ∧ o = { cls := .type "list", dict := none, data := .seq items n, slots := #[] }
theorem PlL.isList {h : Heap} {a : Addr} {items : Array Value} (x : PlL h a items) : h.IsList a items := let ⟨_, n, e, q⟩ := x; ⟨_, e, by rw [q], n, by rw [q]⟩
theorem PlL.plain {h : Heap} {a : Addr} {items : Array Value} (x : PlL h a items) : h.PlainList a items := let ⟨_, n, e, q⟩ := x; ⟨n, by rw [e, q]⟩
theorem PlL.of {h : Heap} {a : Addr} {items : Array Value} (x : h.PlainList a items) : PlL h a items := let ⟨n, e⟩ := x; ⟨_, n, e, rfl⟩

/-- plain data, as trees -/
inductive V where
  | none
  | bool (b : Bool)
  | int (i : Int)
  | str (x : Str)
  | bytes (b : List UInt8)
  | type (n : String)
  | list (xs : List V)
  | tuple (xs : List V)
  | obj (a : Addr)

mutual
/-- the value reads, in the heap, as the datum; no list of O lies in it -/
noncomputable def VR (h : Heap) (O : List Addr) : V → Value → Prop
  | .none, v => v = .none
  | .bool b, v => v = .bool b
  | .int i, v => ∃ t, v = .int i t
  | .str x, v => ∃ t, v = .str x t
  | .bytes b, v => ∃ t, v = .bytes b.toArray t
  | .type n, v => v = .type n
  | .list xs, v => ∃ a items, v = .ref a ∧ a ∉ O ∧ PlL h a items ∧ VRs h O xs items.toList
  | .tuple xs, v => ∃ a items, v = .ref a ∧ IsTup h a items ∧ VRs h O xs items.toList
  | .obj a, v => v = .ref a
noncomputable def VRs (h : Heap) (O : List Addr) : List V → List Value → Prop
  | [], vs => vs = []
  | x :: xs, vs => ∃ v r, vs = v :: r ∧ VR h O x v ∧ VRs h O xs r
end

/-- a datum and whether it is a list that the frame itself holds alone -/
noncomputable abbrev VV := V × Bool
noncomputable def VVR (h : Heap) (O : List Addr) : VV → Value → Prop
  | (d, false), v => VR h O d v
  | (d, true), v => ∃ xs a items, d = .list xs ∧ v = .ref a ∧ a ∈ O ∧ PlL h a items ∧ VRs h O xs items.toList

/-- the code that the stream's reader has, once it is made -/
noncomputable abbrev readQ : Str := "_law_stream.<locals>._law_read"
noncomputable def CodeAt (h : Heap) (c : Addr) : Prop := ∃ o vs t, h.get? c = some o ∧ o.data = .fields vs ∧ vs[1]? = some (.str readQ t)
/-- what the stream's table may hold -/
noncomputable def TabOk (t : Addr) (h : Heap) : Prop := ∃ ps, h.get? t = some (tabObj ps) ∧ TriplesOk ps.toList ∧ ∀ p cv, p.line = 183 → p.col = 4 → codeAmong p ps.toList = some cv → ∃ c', cv = .ref c' ∧ CodeAt h c'
theorem TabOk.get {t : Addr} {h : Heap} (x : TabOk t h) : ∃ ps, h.get? t = some (tabObj ps) := let ⟨ps, e, _⟩ := x; ⟨ps, e⟩
theorem TabOk.at {t : Addr} {h h' : Heap} (x : TabOk t h) (k : ∀ b o vs, h.get? b = some o → o.data = .fields vs → (o.cls = .none ∨ ∃ q t, vs[1]? = some (.str q t)) → h'.get? b = some o) : TabOk t h' := by
  obtain ⟨ps, e, r1, r2⟩ := x
  refine ⟨ps, k t _ _ e rfl (.inl rfl), r1, fun p cv h1 h2 h3 => ?_⟩
  obtain ⟨c', r, o, vs, tk, e1, e3, e4⟩ := r2 p cv h1 h2 h3
  exact ⟨c', r, o, vs, tk, k c' o vs e1 e3 (.inr ⟨_, _, e4⟩), e3, e4⟩

/-- the state goes on: all objects stand but the tables T -/
structure KS (T : List Addr) (s s' : Shared) : Prop where
  same : ∃ h tk, s' = { s with heap := h, toks := tk }
  keep : ∀ b o, b ∉ T → s.heap.get? b = some o → s'.heap.get? b = some o
  grown : ∀ t ∈ T, TabOk t s.heap → TabOk t s'.heap

section
variable {T : List Addr}
theorem KS.refl (s : Shared) : KS T s s := ⟨⟨_, _, rfl⟩, fun _ _ _ e => e, fun _ _ g => g⟩
theorem KS.trans {a b c : Shared} (x : KS T a b) (y : KS T b c) : KS T a c := by
  obtain ⟨⟨h, t, rfl⟩, k, g⟩ := x
  obtain ⟨⟨h', t', rfl⟩, k', g'⟩ := y
  exact ⟨⟨h', t', rfl⟩, fun q o n e => k' q o n (k q o n e), fun t ht z => g' t ht (g t ht z)⟩
theorem KS.of {s : Shared} {h : Heap} {tk : Nat} (k : ∀ b o, s.heap.get? b = some o → h.get? b = some o) : KS T s { s with heap := h, toks := tk } :=
  ⟨⟨_, _, rfl⟩, fun b o _ e => k b o e, fun _ _ x => x.at fun b o _ e _ _ => k b o e⟩
theorem KS.toks (s : Shared) (tk : Nat) : KS T s { s with toks := tk } := KS.of fun _ _ e => e
theorem KS.of_keeps {s s' : Shared} (x : Keeps s s') : KS T s s' := by
  obtain ⟨h, tk, rfl, k⟩ := x
  exact KS.of k
theorem KS.keeps {s s' : Shared} (x : KS [] s s') : Keeps s s' := by
  obtain ⟨⟨h, tk, rfl⟩, k, _⟩ := x
  exact ⟨h, tk, rfl, fun b o e => k b o (by simp) e⟩
theorem KS.lift {s s' : Shared} (x : KS [] s s') : KS T s s' := KS.of_keeps x.keeps
theorem KS.push (s : Shared) (o : Obj) (tk : Nat) : KS T s { s with heap := s.heap.push o, toks := tk } := KS.of fun _ _ e => Heap.get?_push_of_some _ e
end

noncomputable abbrev GrownT (T : List Addr) (h : Heap) : Prop := ∀ t ∈ T, TabOk t h
section
variable {T : List Addr} {h h' : Heap} {a : Addr}
theorem grown_ne {o : Obj} (g : GrownT T h) (e : h.get? a = some o) (hn : o.cls ≠ .none ∨ ∀ vs, o.data ≠ .fields vs) : a ∉ T := by
  intro ht
  obtain ⟨ps, e'⟩ := (g a ht).get
  rw [e] at e'
  cases e'
  rcases hn with hn | hn
  · exact hn rfl
  · exact hn _ rfl
theorem nt_list {items : Array Value} (g : GrownT T h) (x : h.IsList a items) : a ∉ T := by
  obtain ⟨o, e, hc, _⟩ := x
  exact grown_ne g e (.inl (by rw [hc]; nofun))
theorem nt_tup {items : Array Value} (g : GrownT T h) (x : IsTup h a items) : a ∉ T := by
  obtain ⟨o, e, hc, _⟩ := x
  exact grown_ne g e (.inl (by rw [hc]; nofun))
theorem nt_ns {m : Str → Option Value} (g : GrownT T h) (x : h.Ns a m) : a ∉ T := by
  obtain ⟨o, es, ep, e, hd, _⟩ := x
  exact grown_ne g e (.inr (by rw [hd]; nofun))
theorem nt_cell {v : Option Value} (g : GrownT T h) (x : h.IsCell a v) : a ∉ T := by
  obtain ⟨o, e, hd⟩ := x
  exact grown_ne g e (.inr (by rw [hd]; nofun))
theorem list_not_tup {i j : Array Value} (x : h.IsList a i) (y : IsTup h a j) : False := by
  obtain ⟨o, e, hc, _⟩ := x
  obtain ⟨o', e', hc', _⟩ := y
  rw [e] at e'; cases e'; rw [hc] at hc'; exact absurd hc' (by decide)
theorem list_not_ns {i : Array Value} {m : Str → Option Value} (x : h.IsList a i) (y : h.Ns a m) : False := by
  obtain ⟨o, e, _, n, hd⟩ := x
  obtain ⟨o', es, ep, e', hd', _⟩ := y
  rw [e] at e'; cases e'; rw [hd] at hd'; cases hd'
theorem tup_not_ns {i : Array Value} {m : Str → Option Value} (x : IsTup h a i) (y : h.Ns a m) : False := by
  obtain ⟨o, e, _, n, hd⟩ := x
  obtain ⟨o', es, ep, e', hd', _⟩ := y
  rw [e] at e'; cases e'; rw [hd] at hd'; cases hd'
theorem list_not_cell {i : Array Value} {v : Option Value} (x : h.IsList a i) (y : h.IsCell a v) : False := by
  obtain ⟨o, e, _, n, hd⟩ := x
  obtain ⟨o', e', hd'⟩ := y
  rw [e] at e'; cases e'; rw [hd] at hd'; cases hd'
theorem tup_not_cell {i : Array Value} {v : Option Value} (x : IsTup h a i) (y : h.IsCell a v) : False := by
  obtain ⟨o, e, _, n, hd⟩ := x
  obtain ⟨o', e', hd'⟩ := y
  rw [e] at e'; cases e'; rw [hd] at hd'; cases hd'
theorem isList_at {items : Array Value} (x : h.IsList a items) (k : ∀ o, h.get? a = some o → h'.get? a = some o) : h'.IsList a items :=
  let ⟨o, e, r⟩ := x; ⟨o, k o e, r⟩
theorem plL_at {items : Array Value} (x : PlL h a items) (k : ∀ o, h.get? a = some o → h'.get? a = some o) : PlL h' a items :=
  let ⟨o, n, e, r⟩ := x; ⟨o, n, k o e, r⟩
theorem isTup_at {items : Array Value} (x : IsTup h a items) (k : ∀ o, h.get? a = some o → h'.get? a = some o) : IsTup h' a items :=
  let ⟨o, e, r⟩ := x; ⟨o, k o e, r⟩
theorem isCell_at {v : Option Value} (x : h.IsCell a v) (k : ∀ o, h.get? a = some o → h'.get? a = some o) : h'.IsCell a v :=
  let ⟨o, e, r⟩ := x; ⟨o, k o e, r⟩
end

section
variable {h h' : Heap} {O O' : List Addr}
mutual
/-- the one transport -/
theorem VR.tr (hl : ∀ a items, a ∉ O → PlL h a items → a ∉ O' ∧ PlL h' a items) (ht : ∀ a items, IsTup h a items → IsTup h' a items) : ∀ {d : V} {v : Value}, VR h O d v → VR h' O' d v
  | .none, _, x => by simpa only [VR] using x
  | .bool _, _, x => by simpa only [VR] using x
  | .int _, _, x => by simpa only [VR] using x
  | .str _, _, x => by simpa only [VR] using x
  | .bytes _, _, x => by simpa only [VR] using x
  | .type _, _, x => by simpa only [VR] using x
  | .obj _, _, x => by simpa only [VR] using x
  | .list xs, _, x => by
    simp only [VR] at x ⊢
    obtain ⟨a, items, rfl, ha, hx, hr⟩ := x
    exact ⟨a, items, rfl, (hl a items ha hx).1, (hl a items ha hx).2, VRs.tr hl ht hr⟩
  | .tuple xs, _, x => by
    simp only [VR] at x ⊢
    obtain ⟨a, items, rfl, hx, hr⟩ := x
    exact ⟨a, items, rfl, ht a items hx, VRs.tr hl ht hr⟩
theorem VRs.tr (hl : ∀ a items, a ∉ O → PlL h a items → a ∉ O' ∧ PlL h' a items) (ht : ∀ a items, IsTup h a items → IsTup h' a items) : ∀ {ds : List V} {vs : List Value}, VRs h O ds vs → VRs h' O' ds vs
  | [], _, x => by simpa only [VRs] using x
  | _ :: _, _, x => by
    simp only [VRs] at x ⊢
    obtain ⟨v, r, rfl, h1, h2⟩ := x
    exact ⟨v, r, rfl, VR.tr hl ht h1, VRs.tr hl ht h2⟩
end
end
section
variable {T : List Addr} {h h' : Heap} {O O' : List Addr}
theorem VR.keep (g : GrownT T h) (k : ∀ b o, b ∉ T → h.get? b = some o → h'.get? b = some o) {d : V} {v : Value} (x : VR h O d v) : VR h' O d v :=
  VR.tr (fun a _ ha hl => ⟨ha, plL_at hl fun o e => k a o (nt_list g hl.isList) e⟩) (fun a _ ht => isTup_at ht fun o e => k a o (nt_tup g ht) e) x
theorem VRs.keep (g : GrownT T h) (k : ∀ b o, b ∉ T → h.get? b = some o → h'.get? b = some o) {d : List V} {v : List Value} (x : VRs h O d v) : VRs h' O d v :=
  VRs.tr (fun a _ ha hl => ⟨ha, plL_at hl fun o e => k a o (nt_list g hl.isList) e⟩) (fun a _ ht => isTup_at ht fun o e => k a o (nt_tup g ht) e) x
theorem VR.sub (hs : ∀ a ∈ O', a ∈ O) {d : V} {v : Value} (x : VR h O d v) : VR h O' d v := VR.tr (fun a _ ha hl => ⟨fun q => ha (hs a q), hl⟩) (fun _ _ ht => ht) x
theorem VRs.sub (hs : ∀ a ∈ O', a ∈ O) {d : List V} {v : List Value} (x : VRs h O d v) : VRs h O' d v := VRs.tr (fun a _ ha hl => ⟨fun q => ha (hs a q), hl⟩) (fun _ _ ht => ht) x
end
theorem VRs.length {h : Heap} {O : List Addr} : ∀ {ds : List V} {vs : List Value}, VRs h O ds vs → vs.length = ds.length
  | [], _, x => by simp only [VRs] at x; subst x; rfl
  | _ :: _, _, x => by
    simp only [VRs] at x
    obtain ⟨v, r, rfl, _, h2⟩ := x
    simp [VRs.length h2]
theorem VRs.get {h : Heap} {O : List Addr} : ∀ {ds : List V} {vs : List Value} {i : Nat} {d : V}, VRs h O ds vs → ds[i]? = some d → ∃ v, vs[i]? = some v ∧ VR h O d v
  | [], _, i, d, _, e => by simp at e
  | x :: xs, _, i, d, y, e => by
    simp only [VRs] at y
    obtain ⟨v, r, rfl, h1, h2⟩ := y
    cases i with
    | zero => simp at e; subst e; exact ⟨v, rfl, h1⟩
    | succ i => simp at e; simpa using VRs.get h2 e
theorem VRs.get' {h : Heap} {O : List Addr} : ∀ {ds : List V} {vs : List Value} {i : Nat} {v : Value}, VRs h O ds vs → vs[i]? = some v → ∃ d, ds[i]? = some d ∧ VR h O d v
  | [], _, i, v, x, e => by simp only [VRs] at x; subst x; simp at e
  | x :: xs, _, i, v, y, e => by
    simp only [VRs] at y
    obtain ⟨v', r, rfl, h1, h2⟩ := y
    cases i with
    | zero => simp at e; subst e; exact ⟨x, rfl, h1⟩
    | succ i => simp at e; simpa using VRs.get' h2 e
theorem VRs.append {h : Heap} {O : List Addr} : ∀ {ds es : List V} {vs ws : List Value}, VRs h O ds vs → VRs h O es ws → VRs h O (ds ++ es) (vs ++ ws)
  | [], _, _, _, x, y => by simp only [VRs] at x; subst x; exact y
  | _ :: _, _, _, _, x, y => by
    simp only [VRs] at x
    obtain ⟨v, r, rfl, h1, h2⟩ := x
    simp only [List.cons_append, VRs]
    exact ⟨v, _, rfl, h1, VRs.append h2 y⟩
theorem VRs.one {h : Heap} {O : List Addr} {d : V} {v : Value} (x : VR h O d v) : VRs h O [d] [v] := by simp only [VRs]; exact ⟨v, [], rfl, x, rfl⟩
theorem VRs.nil {h : Heap} {O : List Addr} : VRs h O [] [] := by simp only [VRs]
theorem VRs.cons {h : Heap} {O : List Addr} {d : V} {v : Value} {ds : List V} {vs : List Value} (x : VR h O d v) (y : VRs h O ds vs) : VRs h O (d :: ds) (v :: vs) := by simp only [VRs]; exact ⟨v, vs, rfl, x, y⟩
/-- Values paired with data, by places -/
theorem VRs.of_get {h : Heap} {O : List Addr} : ∀ {ds : List V} {vs : List Value}, vs.length = ds.length → (∀ (i : Nat) d v, ds[i]? = some d → vs[i]? = some v → VR h O d v) → VRs h O ds vs
  | [], vs, e, _ => by simp at e; subst e; exact VRs.nil
  | d :: ds, [], e, _ => by simp at e
  | d :: ds, v :: vs, e, k => VRs.cons (k 0 d v rfl rfl) (VRs.of_get (by simpa using e) fun i d' v' h1 h2 => k (i + 1) d' v' (by simpa using h1) (by simpa using h2))
end

section
/-- what stands under the whole call -/
structure Ctx where
  prog : Program
  w : World
  G : Heap
  T : List Addr
  mg : Str → Option Value
  mb : Str → Option Value
  g : G.Ns mainGlobals mg
  b : G.Ns builtinsNs mb
  lim : G.NoLimit
  notab : ∀ t ∈ T, G.get? t = none

noncomputable def Ctx.calm (C : Ctx) : Ctx := { C with T := [], notab := fun _ h => nomatch h }

structure Base (C : Ctx) (h : Heap) : Prop where
  keep : ∀ b o, C.G.get? b = some o → h.get? b = some o
  grown : GrownT C.T h

theorem Base.ks {C : Ctx} {s s' : Shared} (B : Base C s.heap) (k : KS C.T s s') : Base C s'.heap :=
  ⟨fun b o e => k.keep b o (fun q => by rw [C.notab b q] at e; cases e) (B.keep b o e), fun t ht => k.grown t ht (B.grown t ht)⟩
theorem Base.calm {C : Ctx} {h : Heap} (B : Base C h) : Base C.calm h := ⟨B.keep, fun _ h => nomatch h⟩

structure Room (l : Nat) (A : Around) : Prop where
  handled : A.handled = none
  depth : A.depth + l < recursionLimit
  units : A.units + 8 * l + 200 < cLine
theorem Room.deeper {l : Nat} {A : Around} (R : Room (l + 1) A) (env : Env) : Room l (A.deeper env) :=
  ⟨R.handled, by have := R.depth; simp only [Around.deeper]; omega, by have := R.units; simp only [Around.deeper]; omega⟩
theorem Room.in1 {l : Nat} {A : Around} (R : Room (l + 1) A) : Room l A.in1 :=
  ⟨R.handled, by have := R.depth; simp only; omega, by have := R.units; simp only; omega⟩
theorem Room.le {l k : Nat} {A : Around} (R : Room l A) (h : k ≤ l) : Room k A :=
  ⟨R.handled, by have := R.depth; omega, by have := R.units; omega⟩
theorem Room.room {l : Nat} {A : Around} (R : Room l A) : A.depth < recursionLimit := by have := R.depth; omega
theorem Room.unit {l : Nat} {A : Around} (R : Room l A) : A.units < cLine := by have := R.units; omega
theorem Room.unit1 {l : Nat} {A : Around} (R : Room l A) : A.in1.units < cLine := by have := R.units; simp only; omega
theorem Room.unit64 {l : Nat} {A : Around} (R : Room l A) : A.units + 64 < cLine := by have := R.units; omega

noncomputable abbrev Rho := List (Str × VV)

/-- where the frame holds a name's value -/
noncomputable def Loads (env : Env) (h : Heap) (x : Str) (v : Value) : Prop :=
  (env.kindOf x = some .local ∧ ∃ m, h.Ns env.locals m ∧ m x = some v) ∨
  ((env.kindOf x = some .cell ∨ env.kindOf x = some .free) ∧ ∃ c, env.cells.lookup x = some c ∧ h.IsCell c (some v))

/-- lists of O stand -/
noncomputable def Lists (h : Heap) (O : List Addr) : Prop := ∀ a ∈ O, ∃ items, PlL h a items

structure ER (C : Ctx) (env : Env) (ρ : Rho) (O : List Addr) (s : Shared) : Prop where
  base : Base C s.heap
  kind : env.scope.kind = .function
  glob : env.globals = mainGlobals
  blt : env.builtins = builtinsNs
  lists : Lists s.heap O
  vars : ∀ x d, ρ.lookup x = some d → ∃ v, Loads env s.heap x v ∧ VVR s.heap O d v
  cells : ∀ n, env.kindOf n = some .cell → (env.cells.lookup n).isSome = true

theorem Lists.ks {C : Ctx} {s s' : Shared} {O : List Addr} (B : Base C s.heap) (L : Lists s.heap O) (k : KS C.T s s') : Lists s'.heap O := fun a ha => by
  obtain ⟨its, x⟩ := L a ha
  exact ⟨its, plL_at x fun o e => k.keep a o (nt_list B.grown x.isList) e⟩
theorem VR.ks {C : Ctx} {s s' : Shared} {O : List Addr} {d : V} {v : Value} (B : Base C s.heap) (x : VR s.heap O d v) (k : KS C.T s s') : VR s'.heap O d v := VR.keep B.grown k.keep x
theorem VRs.ks {C : Ctx} {s s' : Shared} {O : List Addr} {d : List V} {v : List Value} (B : Base C s.heap) (x : VRs s.heap O d v) (k : KS C.T s s') : VRs s'.heap O d v := VRs.keep B.grown k.keep x
theorem VVR.ks {C : Ctx} {s s' : Shared} {O : List Addr} : ∀ {d : VV} {v : Value} (_ : Base C s.heap) (_ : VVR s.heap O d v) (_ : KS C.T s s'), VVR s'.heap O d v
  | (_, false), _, B, x, k => VR.ks B x k
  | (_, true), _, B, ⟨xs, a, items, h1, h2, h3, h4, h5⟩, k => ⟨xs, a, items, h1, h2, h3, plL_at h4 fun o e => k.keep a o (nt_list B.grown h4.isList) e, VRs.ks B h5 k⟩
theorem Loads.ks {C : Ctx} {s s' : Shared} {env : Env} {x : Str} {v : Value} (B : Base C s.heap) (y : Loads env s.heap x v) (k : KS C.T s s') : Loads env s'.heap x v := by
  rcases y with ⟨h1, m, h2, h3⟩ | ⟨h1, c, h2, h3⟩
  · exact .inl ⟨h1, m, h2.at' fun o e => k.keep _ o (nt_ns B.grown h2) e, h3⟩
  · exact .inr ⟨h1, c, h2, isCell_at h3 fun o e => k.keep _ o (nt_cell B.grown h3) e⟩
theorem ER.ks {C : Ctx} {env : Env} {ρ : Rho} {O : List Addr} {s s' : Shared} (er : ER C env ρ O s) (k : KS C.T s s') : ER C env ρ O s' :=
  ⟨er.base.ks k, er.kind, er.glob, er.blt, er.lists.ks er.base k, fun x d hx => let ⟨v, h1, h2⟩ := er.vars x d hx; ⟨v, h1.ks er.base k, h2.ks er.base k⟩, er.cells⟩
theorem ER.calm {C : Ctx} {env : Env} {ρ : Rho} {O : List Addr} {s : Shared} (er : ER C env ρ O s) : ER C.calm env ρ O s :=
  ⟨er.base.calm, er.kind, er.glob, er.blt, er.lists, er.vars, er.cells⟩

noncomputable def VVRs (h : Heap) (O : List Addr) : List VV → List Value → Prop
  | [], vs => vs = []
  | x :: xs, vs => ∃ v r, vs = v :: r ∧ VVR h O x v ∧ VVRs h O xs r

section
variable (C : Ctx) (l : Nat)
/-- the expression comes to the datum -/
noncomputable def Ev (sc : Scope) (ρ : Rho) (e : Expr) (d : VV) : Prop :=
  ∀ ⦃A : Around⦄ ⦃s : Shared⦄ ⦃env : Env⦄ ⦃O : List Addr⦄ ⦃Q : Value → Shared → Prop⦄ ⦃E : Value → Shared → Prop⦄, Room l A → env.scope = sc → ER C env ρ O s →
    (∀ v s', KS C.T s s' → VVR s'.heap O d v → Q v s') → wpAny (model C.prog C.w) A (eval e env) Q E s
/-- a test comes to the bool -/
noncomputable def Tr (sc : Scope) (ρ : Rho) (e : Expr) (b : Bool) : Prop :=
  ∀ ⦃A : Around⦄ ⦃s : Shared⦄ ⦃env : Env⦄ ⦃O : List Addr⦄ ⦃Q : Bool → Shared → Prop⦄ ⦃E : Value → Shared → Prop⦄, Room l A → env.scope = sc → ER C env ρ O s →
    (∀ s', KS C.T s s' → Q b s') → wpAny (model C.prog C.w) A (isTrue e env (eval e env)) Q E s
/-- an operation on two values -/
noncomputable def Op2 (t : Value → Value → Sem Value) (d₁ d₂ d : VV) : Prop :=
  ∀ ⦃A : Around⦄ ⦃s : Shared⦄ ⦃O : List Addr⦄ ⦃Q : Value → Shared → Prop⦄ ⦃E : Value → Shared → Prop⦄ ⦃v₁ v₂ : Value⦄, Room l A → Base C s.heap → Lists s.heap O → VVR s.heap O d₁ v₁ → VVR s.heap O d₂ v₂ →
    (∀ v s', KS C.T s s' → VVR s'.heap O d v → Q v s') → wpAny (model C.prog C.w) A (t v₁ v₂) Q E s
noncomputable def Op1 (t : Value → Sem Value) (d₁ d : VV) : Prop :=
  ∀ ⦃A : Around⦄ ⦃s : Shared⦄ ⦃O : List Addr⦄ ⦃Q : Value → Shared → Prop⦄ ⦃E : Value → Shared → Prop⦄ ⦃v₁ : Value⦄, Room l A → Base C s.heap → Lists s.heap O → VVR s.heap O d₁ v₁ →
    (∀ v s', KS C.T s s' → VVR s'.heap O d v → Q v s') → wpAny (model C.prog C.w) A (t v₁) Q E s
noncomputable def Truth (d : VV) (b : Bool) : Prop :=
  ∀ ⦃A : Around⦄ ⦃s : Shared⦄ ⦃O : List Addr⦄ ⦃Q : Bool → Shared → Prop⦄ ⦃E : Value → Shared → Prop⦄ ⦃v : Value⦄, Room l A → Base C s.heap → Lists s.heap O → VVR s.heap O d v →
    (∀ s', KS C.T s s' → Q b s') → wpAny (model C.prog C.w) A (truthy v) Q E s
/-- a call of a value -/
noncomputable def Calls (f : Value) (ds : List VV) (d : VV) : Prop :=
  ∀ ⦃A : Around⦄ ⦃s : Shared⦄ ⦃O : List Addr⦄ ⦃Q : Value → Shared → Prop⦄ ⦃E : Value → Shared → Prop⦄ ⦃vs : List Value⦄, Room l A → Base C s.heap → Lists s.heap O → VVRs s.heap O ds vs →
    (∀ v s', KS C.T s s' → VVR s'.heap O d v → Q v s') → wpAny (model C.prog C.w) A (call f vs) Q E s
/-- the arguments -/
noncomputable def EvA (sc : Scope) (ρ : Rho) (es : List Expr) (ds : List VV) : Prop :=
  ∀ ⦃A : Around⦄ ⦃s : Shared⦄ ⦃env : Env⦄ ⦃O : List Addr⦄ ⦃pos : Pos⦄ ⦃Q : List Value → Shared → Prop⦄ ⦃E : Value → Shared → Prop⦄, Room l A → env.scope = sc → ER C env ρ O s →
    (∀ vs s', KS C.T s s' → VVRs s'.heap O ds vs → Q vs s') → wpAny (model C.prog C.w) A (spliced (backTo pos (starEach es env))) Q E s
/-- a name's own value, one that no datum tells -/
noncomputable def EvN (sc : Scope) (e : Expr) (v : Value) : Prop :=
  ∀ ⦃A : Around⦄ ⦃s : Shared⦄ ⦃env : Env⦄ ⦃ρ : Rho⦄ ⦃O : List Addr⦄ ⦃Q : Value → Shared → Prop⦄ ⦃E : Value → Shared → Prop⦄, env.scope = sc → ER C env ρ O s → Q v s → wpAny (model C.prog C.w) A (eval e env) Q E s
end

theorem VVRs.ks {C : Ctx} {s s' : Shared} {O : List Addr} (B : Base C s.heap) (k : KS C.T s s') : ∀ {ds : List VV} {vs : List Value}, VVRs s.heap O ds vs → VVRs s'.heap O ds vs
  | [], _, x => x
  | _ :: _, _, ⟨v, r, e, h1, h2⟩ => ⟨v, r, e, h1.ks B k, VVRs.ks B k h2⟩

section
variable {C : Ctx} {l k : Nat} {sc : Scope} {ρ : Rho}

theorem Ev.mono {e : Expr} {d : VV} (x : Ev C k sc ρ e d) (h : k ≤ l) : Ev C l sc ρ e d := fun _ _ _ _ _ _ R => x (R.le h)
theorem Calls.mono {f : Value} {ds : List VV} {d : VV} (x : Calls C k f ds d) (h : k ≤ l) : Calls C l f ds d := fun _ _ _ _ _ _ R => x (R.le h)
theorem Ev.lift {e : Expr} {d : VV} (x : Ev C.calm l sc ρ e d) : Ev C l sc ρ e d := fun _ _ _ _ _ _ R hs er h => x R hs er.calm fun v s' k r => h v s' k.lift r
theorem Tr.lift {e : Expr} {b : Bool} (x : Tr C.calm l sc ρ e b) : Tr C l sc ρ e b := fun _ _ _ _ _ _ R hs er h => x R hs er.calm fun s' k => h s' k.lift
theorem Calls.lift {f : Value} {ds : List VV} {d : VV} (x : Calls C.calm l f ds d) : Calls C l f ds d := fun _ _ _ _ _ _ R B L a h => x R B.calm L a fun v s' k r => h v s' k.lift r

theorem Ev.const_int {i : Int} {k pos} : Ev C l sc ρ (.Constant (.int i) k pos) (.int i, false) := fun _ _ _ _ _ _ _ _ _ h => wpAny_Constant_int (h _ _ (KS.toks _ _) ⟨_, rfl⟩)
theorem Ev.const_str {x : Str} {k pos} : Ev C l sc ρ (.Constant (.str x) k pos) (.str x, false) := fun _ _ _ _ _ _ _ _ _ h => wpAny_Constant_str (h _ _ (KS.toks _ _) ⟨_, rfl⟩)
theorem Ev.const_bool {x : Bool} {k pos} : Ev C l sc ρ (.Constant (.bool x) k pos) (.bool x, false) := fun _ _ _ _ _ _ _ _ _ h => wpAny_Constant_bool (h _ _ (KS.refl _) rfl)
theorem Ev.name {x : Str} {pos : Pos} {d : VV} (hx : ρ.lookup x = some d) (hd : (x == ("__debug__" : Str)) = false := by decide +kernel) (hc : (x == ("__classdict__" : Str)) = false := by decide +kernel) : Ev C l sc ρ (.Name x pos) d := by
  intro A s env O Q E R hs er h
  obtain ⟨v, hl, hv⟩ := er.vars x d hx
  refine wpAny_Name ?_ hd
  rcases hl with ⟨h1, m, h2, h3⟩ | ⟨h1, c, h2, h3⟩
  · exact wpAny_loadName_local er.kind h1 h2 h3 (h v s (KS.refl s) hv)
  · rcases h1 with h1 | h1
    · exact wpAny_loadName_cell er.kind h1 h2 h3 (h v s (KS.refl s) hv)
    · exact wpAny_loadName_free er.kind h1 h2 h3 (h v s (KS.refl s) hv) hc

theorem EvN.global {x : Str} {pos : Pos} {v : Value} (hk : sc.names.lookup x = some .globalImplicit) (hv : C.mg x = some v) (hd : (x == ("__debug__" : Str)) = false := by decide +kernel) : EvN C sc (.Name x pos) v := by
  intro A s env ρ O Q E hs er h
  refine Name_function_global er.kind (by rw [Env.kindOf, hs]; exact hk) ?_ hd
  exact loadGlobal_global (mg := C.mg) (by rw [er.glob]; exact C.g.keeps er.base.keep) hv h
theorem EvN.builtin {x : Str} {pos : Pos} {v : Value} (hk : sc.names.lookup x = some .globalImplicit) (hn : C.mg x = none) (hv : C.mb x = some v) (hd : (x == ("__debug__" : Str)) = false := by decide +kernel) : EvN C sc (.Name x pos) v := by
  intro A s env ρ O Q E hs er h
  refine Name_function_global er.kind (by rw [Env.kindOf, hs]; exact hk) ?_ hd
  exact loadGlobal_builtin (mg := C.mg) (mb := C.mb) (by rw [er.glob]; exact C.g.keeps er.base.keep) hn (by rw [er.blt]; exact C.b.keeps er.base.keep) hv h
/-- a global name whose value a datum tells -/
theorem Ev.ofN {e : Expr} {v : Value} {d : V} (x : EvN C sc e v) (hv : ∀ h O, Base C h → Lists h O → VR h O d v) : Ev C l sc ρ e (d, false) :=
  fun _ _ _ _ _ _ _ hs er h => x hs er (h _ _ (KS.refl _) (hv _ _ er.base er.lists))

theorem Ev.bin {e₁ e₂ : Expr} {op : Operator} {pos : Pos} {d₁ d₂ d : VV} (h₁ : Ev C l sc ρ e₁ d₁) (h₂ : Ev C l sc ρ e₂ d₂) (ho : Op2 C l (binaryOp op) d₁ d₂ d) : Ev C l sc ρ (.BinOp e₁ op e₂ pos) d := by
  intro A s env O Q E R hs er h
  refine wpAny_BinOp (h₁ R hs er fun v₁ s₁ k₁ r₁ => h₂ R hs (er.ks k₁) fun v₂ s₂ k₂ r₂ => ?_)
  exact ho R ((er.ks k₁).ks k₂).base ((er.ks k₁).ks k₂).lists (r₁.ks (er.ks k₁).base k₂) r₂ fun v s' k' r' => h v s' (k₁.trans (k₂.trans k')) r'
theorem Tr.cmp {e₁ e₂ : Expr} {op : CmpOp} {pos : Pos} {d₁ d₂ : VV} {b : Bool} (h₁ : Ev C l sc ρ e₁ d₁) (h₂ : Ev C l sc ρ e₂ d₂) (ho : Op2 C l (compareOp op) d₁ d₂ (.bool b, false)) (hm : behindInMarks op e₂ = false := by rfl) : Tr C l sc ρ (.Compare e₁ [op] [e₂] pos) b := by
  intro A s env O Q E R hs er h
  refine PySem.wpAny_isTrue_Compare1 (h₁ R hs er fun v₁ s₁ k₁ r₁ => h₂ R hs (er.ks k₁) fun v₂ s₂ k₂ r₂ => ?_) (by first | exact hm | skip)
  refine ho R ((er.ks k₁).ks k₂).base ((er.ks k₁).ks k₂).lists (r₁.ks (er.ks k₁).base k₂) r₂ fun v s' k' r' => ?_
  have : v = .bool b := r'
  subst this
  exact wpAny_truthy_bool (h s' (k₁.trans (k₂.trans k')))
theorem Ev.unary {e : Expr} {op : UnaryOp} {pos : Pos} {d₁ d : VV} (h₁ : Ev C l sc ρ e d₁) (ho : Op1 C l (unaryOp op) d₁ d) : Ev C l sc ρ (.UnaryOp op e pos) d := by
  intro A s env O Q E R hs er h
  exact UnaryOp_ (h₁ R hs er fun v s₁ k₁ r₁ => ho R (er.ks k₁).base (er.ks k₁).lists r₁ fun v s' k' r' => h _ _ (k₁.trans k') r')
theorem Ev.ite {t e₁ e₂ : Expr} {pos : Pos} {d : VV} {b : Bool} (ht : Tr C l sc ρ t b) (h₁ : b = true → Ev C l sc ρ e₁ d) (h₂ : b = false → Ev C l sc ρ e₂ d) : Ev C l sc ρ (.IfExp t e₁ e₂ pos) d := by
  intro A s env O Q E R hs er h
  refine IfExp_ (ht R hs er fun s' k' => ?_)
  cases b with
  | true => rw [if_pos rfl]; exact h₁ rfl R hs (er.ks k') fun v s'' k'' r'' => h v s'' (k'.trans k'') r''
  | false => rw [if_neg Bool.false_ne_true]; exact h₂ rfl R hs (er.ks k') fun v s'' k'' r'' => h v s'' (k'.trans k'') r''

theorem Tr.plain {e : Expr} {d : VV} {b : Bool} (h₁ : Ev C l sc ρ e d) (ht : Truth C l d b) (he : ∀ env, isTrue e env (eval e env) = (do let v ← eval e env; standAt e.pos; holding [v] (truthy v)) := by intro _; rfl) : Tr C l sc ρ e b := by
  intro A s env O Q E R hs er h
  exact isTrue_plain (h₁ R hs er fun v s₁ k₁ r₁ => ht R (er.ks k₁).base (er.ks k₁).lists r₁ fun s' k' => h _ (k₁.trans k')) (he env)
theorem Tr.not {e : Expr} {pos : Pos} {b : Bool} (h₁ : Tr C l sc ρ e b) : Tr C l sc ρ (.UnaryOp .Not e pos) (!b) := fun _ _ _ _ _ _ R hs er h => isTrue_not (h₁ R hs er fun s' k' => h s' k')
theorem Tr.and_nil {pos : Pos} : Tr C l sc ρ (.BoolOp .And [] pos) true := fun _ _ _ _ _ _ _ _ _ h => isTrue_and_nil (h _ (KS.refl _))
theorem Tr.or_nil {pos : Pos} : Tr C l sc ρ (.BoolOp .Or [] pos) false := fun _ _ _ _ _ _ _ _ _ h => isTrue_or_nil (h _ (KS.refl _))
theorem Tr.and {e : Expr} {es : List Expr} {pos : Pos} {b c : Bool} (h₁ : Tr C l sc ρ e b) (h₂ : b = true → Tr C l sc ρ (.BoolOp .And es pos) c) : Tr C l sc ρ (.BoolOp .And (e :: es) pos) (b && c) := by
  intro A s env O Q E R hs er h
  refine isTrue_and (h₁ R hs er fun s' k' => ?_)
  cases b with
  | true => rw [if_pos rfl]; exact h₂ rfl R hs (er.ks k') fun s'' k'' => h s'' (k'.trans k'')
  | false => rw [if_neg Bool.false_ne_true]; exact h s' k'
theorem Tr.or {e : Expr} {es : List Expr} {pos : Pos} {b c : Bool} (h₁ : Tr C l sc ρ e b) (h₂ : b = false → Tr C l sc ρ (.BoolOp .Or es pos) c) : Tr C l sc ρ (.BoolOp .Or (e :: es) pos) (b || c) := by
  intro A s env O Q E R hs er h
  refine isTrue_or (h₁ R hs er fun s' k' => ?_)
  cases b with
  | true => rw [if_pos rfl]; exact h s' k'
  | false => rw [if_neg Bool.false_ne_true]; exact h₂ rfl R hs (er.ks k') fun s'' k'' => h s'' (k'.trans k'')

theorem EvA.nil : EvA C l sc ρ [] [] := fun _ _ _ _ _ _ _ _ _ _ h => spliced_nil (h _ _ (KS.refl _) rfl)
theorem EvA.cons {e : Expr} {es : List Expr} {d : VV} {ds : List VV} (h₁ : Ev C l sc ρ e d) (h₂ : EvA C l sc ρ es ds) (hn : ∀ env, starEach (e :: es) env = (false, eval e env) :: starEach es env := by intro _; rfl) : EvA C l sc ρ (e :: es) (d :: ds) := by
  intro A s env O pos Q E R hs er h
  rw [hn env]
  refine spliced_cons ?_
  show wpAny _ _ (eval e env) _ _ _
  exact h₁ R hs er fun v s₁ k₁ r₁ => h₂ R hs (er.ks k₁) fun vs s₂ k₂ r₂ => h (v :: vs) s₂ (k₁.trans k₂) ⟨v, vs, rfl, r₁.ks (er.ks k₁).base k₂, r₂⟩

/-- calls: a def of the text -/
theorem Ev.callDef {f : Expr} {e : Expr} {es : List Expr} {pos : Pos} {a : Addr} {o : Obj} {fd : FuncData} {ds : List VV} {d : VV} (hf : EvN C sc f (.ref a)) (ho : C.G.get? a = some o) (hfd : o.data = .func fd)
    (ha : EvA C l sc ρ (e :: es) ds) (hc : Calls C l (.ref a) ds d)
    (hn : ∀ env, starEach (e :: es) env = (false, eval e env) :: starEach es env := by intro _; rfl)
    (he : ∀ env, eval (.Call f (e :: es) [] pos) env = (do callWith pos (← eval f env) [] (backTo pos (starEach (e :: es) env)) (backToKw pos (keywordEach [] env))) := by intro _; rfl) :
    Ev C l sc ρ (.Call f (e :: es) [] pos) d := by
  intro A s env O Q E R hs er h
  refine Call_ (hf hs er ?_) (he env)
  refine callWith_function (o := o) (fd := fd) ?_
  rw [hn env]
  refine evalArgs_plain ?_
  have h1 := ha (pos := pos) (E := E) (Q := fun vs s' => (s'.heap.get? a = some o ∧ o.data = .func fd) ∧ wpAny (model C.prog C.w) A (call (.ref a) ([] ++ vs) []) Q E s') R hs er (fun vs s' k r =>
    ⟨⟨(er.ks k).base.keep _ _ ho, hfd⟩, hc R (er.ks k).base (er.ks k).lists r fun v s'' k'' r'' => h v s'' (k.trans k'') r''⟩)
  rw [hn env] at h1
  exact h1
theorem Ev.callBuiltin {f : Expr} {e : Expr} {es : List Expr} {pos : Pos} {id : String} {ds : List VV} {d : VV} (hf : EvN C sc f (.builtin id))
    (ha : EvA C l sc ρ (e :: es) ds) (hc : Calls C l (.builtin id) ds d)
    (hn : ∀ env, starEach (e :: es) env = (false, eval e env) :: starEach es env := by intro _; rfl)
    (hp : ∀ env pos, (backTo pos (starEach es env)).any (·.1) = false := by intro _ _; rfl)
    (he : ∀ env, eval (.Call f (e :: es) [] pos) env = (do callWith pos (← eval f env) [] (backTo pos (starEach (e :: es) env)) (backToKw pos (keywordEach [] env))) := by intro _; rfl) :
    Ev C l sc ρ (.Call f (e :: es) [] pos) d := by
  intro A s env O Q E R hs er h
  refine Call_ (hf hs er ?_) (he env)
  exact callWith_method1 (first := []) (ha R hs er fun vs s' k r => hc R (er.ks k).base (er.ks k).lists r fun v s'' k'' r'' => h v s'' (k.trans k'') r'') (hn env) (hp env pos)
theorem Ev.callType {f : Expr} {e : Expr} {es : List Expr} {pos : Pos} {T : String} {ds : List VV} {d : VV} (hf : EvN C sc f (.type T))
    (ha : EvA C l sc ρ (e :: es) ds) (hc : Calls C l (.type T) ds d)
    (hn : ∀ env, starEach (e :: es) env = (false, eval e env) :: starEach es env := by intro _; rfl)
    (hp : ∀ env pos, (backTo pos (starEach es env)).any (·.1) = false := by intro _ _; rfl)
    (he : ∀ env, eval (.Call f (e :: es) [] pos) env = (do callWith pos (← eval f env) [] (backTo pos (starEach (e :: es) env)) (backToKw pos (keywordEach [] env))) := by intro _; rfl) :
    Ev C l sc ρ (.Call f (e :: es) [] pos) d := by
  intro A s env O Q E R hs er h
  refine Call_ (hf hs er ?_) (he env)
  exact PyProof.Rows.callWith_type1 (ha R hs er fun vs s' k r => hc R (er.ks k).base (er.ks k).lists r fun v s'' k'' r'' => h v s'' (k.trans k'') r'') (hn env) (hp env pos)
/-- a method of a value of a built-in type -/
theorem Ev.meth {o : Expr} {name : Str} {apos pos : Pos} {e : Expr} {es : List Expr} {T id : String} {d₁ : VV} {ds : List VV} {d : VV} (h₁ : Ev C l sc ρ o d₁)
    (pa : PlainAttrs T) (slot : Slot T name id) (hty : typeOf (.builtin id) = pure (.type "method_descriptor"))
    (hT : ∀ (s : Shared) O v, VVR s.heap O d₁ v → s.TypeIs v T ∧ ∀ a, v = .ref a → ∃ o, s.heap.get? a = some o ∧ o.dict = none)
    (ha : EvA C l sc ρ (e :: es) ds) (hc : Calls C l (.builtin id) (d₁ :: ds) d)
    (hn : ∀ env, starEach (e :: es) env = (false, eval e env) :: starEach es env := by intro _; rfl)
    (hp : ∀ env pos, (backTo pos (starEach es env)).any (·.1) = false := by intro _ _; rfl)
    {pl : Env → Sem Bool}
    (he : ∀ env, eval (.Call (.Attribute o name apos) (e :: es) [] pos) env = (do
      let ov ← eval o env
      standAt apos.atName
      let (f, first) ← holding [ov] (getMethod ov name (pl env))
      callWith pos f first (backTo pos (starEach (e :: es) env)) []) := by intro _; rfl) : Ev C l sc ρ (.Call (.Attribute o name apos) (e :: es) [] pos) d := by
  intro A s env O Q E R hs er h
  refine MethodCall_ (pl := pl env) (h₁ R hs er fun v s₁ k₁ r₁ => ?_) (he env)
  refine getMethod_builtin (hT _ _ _ r₁).1 pa slot hty (hT _ _ _ r₁).2 ?_
  refine callWith_method1 (first := [v]) (ha R hs (er.ks k₁) fun vs s' k r => ?_) (hn env) (hp env pos)
  exact hc R ((er.ks k₁).ks k).base ((er.ks k₁).ks k).lists ⟨_, _, rfl, r₁.ks (er.ks k₁).base k, r⟩ fun v s'' k'' r'' => h v s'' (k₁.trans (k.trans k'')) r''
end
end

section
theorem VR.but_new {h h' : Heap} {O O' : List Addr} {d : V} {v : Value} (hl : ∀ a items, a ∉ O → PlL h a items → a ∉ O' ∧ PlL h' a items) (ht : ∀ a items, IsTup h a items → IsTup h' a items) (x : VR h O d v) : VR h' O' d v := VR.tr hl ht x

noncomputable abbrev ownO (own : List (Str × Addr)) (O₀ : List Addr) : List Addr := own.map (·.2) ++ O₀

/-- how a name stands in the frame -/
noncomputable def Stands (env : Env) (m cm : Str → Option Value) (x : Str) (v : Value) : Prop :=
  (env.kindOf x = some .local ∧ m x = some v) ∨ (env.kindOf x = some .cell ∧ cm x = some v)

/-- the frame's own state -/
structure FR (C : Ctx) (s₀ : Shared) (env : Env) (O₀ : List Addr) (own : List (Str × Addr)) (ρ : Rho) (s : Shared) : Prop where
  base : Base C s.heap
  kind : env.scope.kind = .function
  glob : env.globals = mainGlobals
  blt : env.builtins = builtinsNs
  cells : ∀ n, env.kindOf n = some .cell → (env.cells.lookup n).isSome = true
  notab : ∀ t ∈ C.T, s₀.heap.get? t = none
  under : ∀ b o, C.G.get? b = some o → s₀.heap.get? b = some o
  outer : ∀ a ∈ O₀, ∃ items, PlL s₀.heap a items
  lists : Lists s.heap (own.map (·.2))
  ownNew : ∀ p ∈ own, s₀.heap.get? p.2 = none
  apart : own.Pairwise fun p q => p.1 ≠ q.1 ∧ p.2 ≠ q.2
  call : ∃ m cm, InCallC s₀ env.locals m env.cells cm s ∧ ∀ x d, ρ.lookup x = some d → ∃ v, Stands env m cm x v ∧ (d.2 = true → ∃ a, (x, a) ∈ own ∧ v = .ref a) ∧ VVR s.heap (ownO own O₀) d v

section
variable {C : Ctx} {s₀ s s' : Shared} {env : Env} {O₀ : List Addr} {own : List (Str × Addr)} {ρ : Rho}

theorem FR.listsAll (F : FR C s₀ env O₀ own ρ s) : Lists s.heap (ownO own O₀) := fun a ha => by
  rcases List.mem_append.mp ha with h | h
  · exact F.lists a h
  · obtain ⟨m, cm, x, _⟩ := F.call
    obtain ⟨its, y⟩ := F.outer a h
    exact ⟨its, plL_at y fun o e => x.toInCall.keep a o e⟩

theorem FR.er (F : FR C s₀ env O₀ own ρ s) : ER C env ρ (ownO own O₀) s := by
  refine ⟨F.base, F.kind, F.glob, F.blt, F.listsAll, fun x d hx => ?_, F.cells⟩
  obtain ⟨m, cm, X, hv⟩ := F.call
  obtain ⟨v, h1, _, h2⟩ := hv x d hx
  refine ⟨v, ?_, h2⟩
  rcases h1 with ⟨hk, hm⟩ | ⟨hk, hm⟩
  · exact .inl ⟨hk, m, X.toInCall.ns, hm⟩
  · obtain ⟨c, hc⟩ := Option.isSome_iff_exists.mp (F.cells x hk)
    exact .inr ⟨.inl hk, c, hc, hm ▸ X.cell x c hc⟩

theorem inCallC_ks {T : List Addr} {L : Addr} {m cm : Str → Option Value} {cs : List (Str × Addr)} (g : GrownT T s.heap) (hn : ∀ t ∈ T, s₀.heap.get? t = none) (x : InCallC s₀ L m cs cm s) (k : KS T s s') : InCallC s₀ L m cs cm s' := by
  refine ⟨⟨?_, x.toInCall.ns.at' fun o e => k.keep _ o (nt_ns g x.toInCall.ns) e, fun b o e => k.keep b o (fun q => by rw [hn b q] at e; cases e) (x.toInCall.keep b o e), x.toInCall.fresh⟩,
    fun n c hc => isCell_at (x.cell n c hc) fun o e => k.keep _ o (nt_cell g (x.cell n c hc)) e, x.apart, x.above⟩
  obtain ⟨h, tk, rfl⟩ := x.toInCall.same
  obtain ⟨h', tk', rfl⟩ := k.same
  exact ⟨h', tk', rfl⟩

theorem FR.ks (F : FR C s₀ env O₀ own ρ s) (k : KS C.T s s') : FR C s₀ env O₀ own ρ s' := by
  refine ⟨F.base.ks k, F.kind, F.glob, F.blt, F.cells, F.notab, F.under, F.outer, F.lists.ks F.base k, F.ownNew, F.apart, ?_⟩
  obtain ⟨m, cm, X, hv⟩ := F.call
  refine ⟨m, cm, inCallC_ks F.base.grown F.notab X k, fun x d hx => ?_⟩
  obtain ⟨v, h1, h2, h3⟩ := hv x d hx
  exact ⟨v, h1, h2, h3.ks F.base k⟩

/-- what a piece of the frame's code may have changed -/
structure Go (C : Ctx) (env : Env) (own own' : List (Str × Addr)) (s s' : Shared) : Prop where
  keep : ∀ b o, b ∉ C.T → b ≠ env.locals → (∀ n c, env.cells.lookup n = some c → b ≠ c) → (∀ p ∈ own, b ≠ p.2) → s.heap.get? b = some o → s'.heap.get? b = some o
  news : ∀ p ∈ own', (∃ q ∈ own, p.2 = q.2) ∨ s.heap.get? p.2 = none

theorem Go.refl : Go C env own own s s := ⟨fun _ _ _ _ _ _ e => e, fun p hp => .inl ⟨p, hp, rfl⟩⟩
theorem Go.ks (k : KS C.T s s') : Go C env own own s s' := ⟨fun b o h _ _ _ e => k.keep b o h e, fun p hp => .inl ⟨p, hp, rfl⟩⟩
theorem Go.trans {own' own'' : List (Str × Addr)} {s'' : Shared} (x : Go C env own own' s s') (y : Go C env own' own'' s' s'') (hs : ∀ b, s'.heap.get? b = none → s.heap.get? b = none) : Go C env own own'' s s'' := by
  refine ⟨fun b o h1 h2 h3 h4 e => y.keep b o h1 h2 h3 (fun p hp q => ?_) (x.keep b o h1 h2 h3 h4 e), fun p hp => ?_⟩
  · rcases x.news p hp with ⟨r, hr, e'⟩ | e'
    · exact h4 r hr (q.trans e')
    · rw [← q, e] at e'; cases e'
  · rcases y.news p hp with ⟨r, hr, e'⟩ | e'
    · rcases x.news r hr with ⟨r', hr', e''⟩ | e''
      · exact .inl ⟨r', hr', e'.trans e''⟩
      · exact .inr (e' ▸ e'')
    · exact .inr (hs _ e')
end

inductive Out where
  | next (ρ : Rho)
  | brk (ρ : Rho)
  | cont (ρ : Rho)
  | ret (d : V)

/-- the heap loses no address -/
noncomputable def Grows (s s' : Shared) : Prop := ∀ b, s'.heap.get? b = none → s.heap.get? b = none
theorem Grows.refl (s : Shared) : Grows s s := fun _ h => h
theorem Grows.trans {s s' s'' : Shared} (x : Grows s s') (y : Grows s' s'') : Grows s s'' := fun b h => x b (y b h)

noncomputable def OutOk (C : Ctx) (s₀ : Shared) (env : Env) (O₀ : List Addr) (own : List (Str × Addr)) (s : Shared) (o : Out) (f : Flow) (s' : Shared) : Prop :=
  match o with
  | .next ρ => f = .next ∧ ∃ own', FR C s₀ env O₀ own' ρ s' ∧ Go C env own own' s s' ∧ Grows s s'
  | .brk ρ => f = .brk ∧ ∃ own', FR C s₀ env O₀ own' ρ s' ∧ Go C env own own' s s' ∧ Grows s s'
  | .cont ρ => f = .cont ∧ ∃ own', FR C s₀ env O₀ own' ρ s' ∧ Go C env own own' s s' ∧ Grows s s'
  | .ret d => ∃ v own', f = .ret v ∧ FR C s₀ env O₀ own' [] s' ∧ Go C env own own' s s' ∧ Grows s s' ∧ VR s'.heap O₀ d v

theorem OutOk.behind {C : Ctx} {s₀ : Shared} {env : Env} {O₀ : List Addr} {own own' : List (Str × Addr)} {s s₁ s' : Shared} {o : Out} {f : Flow} (g : Go C env own own' s s₁) (hs : Grows s s₁) (x : OutOk C s₀ env O₀ own' s₁ o f s') : OutOk C s₀ env O₀ own s o f s' := by
  cases o with
  | next ρ => obtain ⟨e, w, a, b, c⟩ := x; exact ⟨e, w, a, g.trans b hs, hs.trans c⟩
  | brk ρ => obtain ⟨e, w, a, b, c⟩ := x; exact ⟨e, w, a, g.trans b hs, hs.trans c⟩
  | cont ρ => obtain ⟨e, w, a, b, c⟩ := x; exact ⟨e, w, a, g.trans b hs, hs.trans c⟩
  | ret d => obtain ⟨v, w, e, a, b, c, r⟩ := x; exact ⟨v, w, e, a, g.trans b hs, hs.trans c, r⟩

theorem KS.grows {T : List Addr} {s s' : Shared} (k : KS T s s') (g : GrownT T s.heap) : Grows s s' := fun b h => by
  cases e : s.heap.get? b with
  | none => rfl
  | some o =>
    by_cases hb : b ∈ T
    · obtain ⟨ps, e'⟩ := (k.grown b hb (g b hb)).get
      rw [h] at e'; cases e'
    · rw [k.keep b o hb e] at h; cases h

section
variable (C : Ctx) (l : Nat)
/-- statements -/
noncomputable def Xs (sc : Scope) (ρ : Rho) (body : List Stmt) (Post : Out → Prop) : Prop :=
  ∀ ⦃A : Around⦄ ⦃s s₀ : Shared⦄ ⦃env : Env⦄ ⦃O₀ : List Addr⦄ ⦃own : List (Str × Addr)⦄ ⦃E : Value → Shared → Prop⦄, Room l A → env.scope = sc → FR C s₀ env O₀ own ρ s →
    wpAny (model C.prog C.w) A (execs body env) (fun f s' => ∃ o, Post o ∧ OutOk C s₀ env O₀ own s o f s') E s
noncomputable def X (sc : Scope) (ρ : Rho) (st : Stmt) (Post : Out → Prop) : Prop :=
  ∀ ⦃A : Around⦄ ⦃s s₀ : Shared⦄ ⦃env : Env⦄ ⦃O₀ : List Addr⦄ ⦃own : List (Str × Addr)⦄ ⦃E : Value → Shared → Prop⦄, Room l A → env.scope = sc → FR C s₀ env O₀ own ρ s →
    wpAny (model C.prog C.w) A (exec st env) (fun f s' => ∃ o, Post o ∧ OutOk C s₀ env O₀ own s o f s') E s
/-- the value is kept in a name -/
noncomputable def EvNew (sc : Scope) (ρ : Rho) (e : Expr) (xs : List V) : Prop :=
  ∀ ⦃A : Around⦄ ⦃s : Shared⦄ ⦃env : Env⦄ ⦃O : List Addr⦄ ⦃Q : Value → Shared → Prop⦄ ⦃E : Value → Shared → Prop⦄, Room l A → env.scope = sc → ER C env ρ O s →
    (∀ a items s', KS C.T s s' → s.heap.get? a = none → PlL s'.heap a items → VRs s'.heap (a :: O) xs items.toList → Q (.ref a) s') → wpAny (model C.prog C.w) A (eval e env) Q E s
end

section
variable {C : Ctx} {l : Nat} {sc : Scope} {ρ : Rho}

theorem Xs.nil {Post : Out → Prop} (h : Post (.next ρ)) : Xs C l sc ρ [] Post := fun _ _ _ _ _ _ _ _ _ F => wpAny_execs_nil ⟨_, h, rfl, _, F, Go.refl, Grows.refl _⟩
theorem Xs.cons {st : Stmt} {rest : List Stmt} {Post : Out → Prop} (h : X C l sc ρ st (fun o => match o with | .next ρ' => Xs C l sc ρ' rest Post | o => Post o)) : Xs C l sc ρ (st :: rest) Post := by
  intro A s s₀ env O₀ own E R hs F
  refine wpAny_execs_cons (wpAny_mono (h R hs F) (fun f s' hf => ?_) fun _ _ e => e)
  obtain ⟨o, hp, ho⟩ := hf
  cases o with
  | next ρ' =>
    obtain ⟨rfl, own', F', g, gr⟩ := ho
    exact wpAny_mono (hp R hs F') (fun f s'' h => let ⟨o, h1, h2⟩ := h; ⟨o, h1, h2.behind g gr⟩) fun _ _ e => e
  | brk ρ' => obtain ⟨rfl, x⟩ := ho; exact ⟨_, hp, rfl, x⟩
  | cont ρ' => obtain ⟨rfl, x⟩ := ho; exact ⟨_, hp, rfl, x⟩
  | ret d => obtain ⟨v, own', rfl, x⟩ := ho; exact ⟨_, hp, v, own', rfl, x⟩
theorem Xs.mono {st : List Stmt} {P P' : Out → Prop} (h : Xs C l sc ρ st P) (hp : ∀ o, P o → P' o) : Xs C l sc ρ st P' := fun _ _ _ _ _ _ _ R hs F => wpAny_mono (h R hs F) (fun _ _ ⟨o, a, b⟩ => ⟨o, hp o a, b⟩) fun _ _ e => e

/-- other names may be forgotten -/
theorem FR.sub {s₀ s : Shared} {env : Env} {O₀ : List Addr} {own : List (Str × Addr)} {ρ' : Rho} (F : FR C s₀ env O₀ own ρ s) (h : ∀ x d, ρ'.lookup x = some d → ρ.lookup x = some d) : FR C s₀ env O₀ own ρ' s :=
  ⟨F.base, F.kind, F.glob, F.blt, F.cells, F.notab, F.under, F.outer, F.lists, F.ownNew, F.apart, let ⟨m, cm, X, hv⟩ := F.call; ⟨m, cm, X, fun x d hx => hv x d (h x d hx)⟩⟩
theorem Xs.sub {ρ' : Rho} {st : List Stmt} {P : Out → Prop} (h : Xs C l sc ρ' st P) (hs : ∀ x d, ρ'.lookup x = some d → ρ.lookup x = some d) : Xs C l sc ρ st P := fun _ _ _ _ _ _ _ R e F => h R e (F.sub hs)

theorem own_ne {own : List (Str × Addr)} (h : own.Pairwise fun p q => p.1 ≠ q.1 ∧ p.2 ≠ q.2) {x y : Str} {a b : Addr} (hx : (x, a) ∈ own) (hy : (y, b) ∈ own) : (x = y ∧ a = b) ∨ (x ≠ y ∧ a ≠ b) := by
  induction own with
  | nil => cases hx
  | cons p r ih =>
    obtain ⟨h1, h2⟩ := List.pairwise_cons.mp h
    rcases List.mem_cons.mp hx with rfl | hx' <;> rcases List.mem_cons.mp hy with e | hy'
    · cases e; exact .inl ⟨rfl, rfl⟩
    · exact .inr (h1 _ hy')
    · subst e; exact .inr ⟨fun q => (h1 (x, a) hx').1 q.symm, fun q => (h1 (x, a) hx').2 q.symm⟩
    · exact ih h2 hx' hy'

/-- own lists lie in no outer set -/
theorem FR.own_out {s₀ s : Shared} {env : Env} {O₀ : List Addr} {own : List (Str × Addr)} (F : FR C s₀ env O₀ own ρ s) {x : Str} {a : Addr} (h : (x, a) ∈ own) : a ∉ O₀ := fun q => by
  obtain ⟨its, o, n, e, _⟩ := F.outer a q
  have := F.ownNew _ h
  dsimp only at this
  rw [this] at e; cases e

noncomputable abbrev dropOwn (x : Str) (own : List (Str × Addr)) : List (Str × Addr) := own.filter fun p => !(p.1 == x)
theorem mem_dropOwn {x : Str} {own : List (Str × Addr)} {p : Str × Addr} : p ∈ dropOwn x own ↔ p ∈ own ∧ p.1 ≠ x := by simp [dropOwn, List.mem_filter]
theorem dropOwn_sub {x : Str} {own : List (Str × Addr)} {O₀ : List Addr} : ∀ a ∈ ownO (dropOwn x own) O₀, a ∈ ownO own O₀ := fun a ha => by
  rcases List.mem_append.mp ha with h | h
  · obtain ⟨p, hp, rfl⟩ := List.mem_map.mp h
    exact List.mem_append_left _ (List.mem_map.mpr ⟨p, (mem_dropOwn.mp hp).1, rfl⟩)
  · exact List.mem_append_right _ h
end

section
variable {C : Ctx} {s₀ s s' : Shared} {env : Env} {O₀ : List Addr} {own : List (Str × Addr)} {ρ : Rho} {l : Nat} {sc : Scope}

/-- what lies in the heap but for the frame's own dict and cells -/
theorem stored_plain {L : Addr} {h h' : Heap} {m : Str → Option Value} (hn : h.Ns L m) (hs : Heap.SameBut L h h') {a : Addr} {items : Array Value} (x : PlL h a items) : PlL h' a items :=
  plL_at x fun o e => hs.extBut a o (fun q => list_not_ns x.isList (q ▸ hn)) e

/-- storing: what is known behind it -/
structure Stored (C : Ctx) (s₀ : Shared) (env : Env) (m cm m' cm' : Str → Option Value) (s s' : Shared) : Prop where
  call : InCallC s₀ env.locals m' env.cells cm' s'
  keep : ∀ b o, b ≠ env.locals → (∀ n c, env.cells.lookup n = some c → b ≠ c) → s.heap.get? b = some o → s'.heap.get? b = some o
  grows : Grows s s'

theorem sameBut_grows {a : Addr} {h h' : Heap} {o : Obj} (hs : Heap.SameBut a h h') (hh : h'.get? a = some o) : ∀ b, h'.get? b = none → h.get? b = none := fun b e => by
  by_cases q : b = a
  · subst q; rw [hh] at e; cases e
  · rw [← hs.2 b q]; exact e

theorem wpAny_stored {A : Around} {M : Model} {E : Value → Shared → Prop} {x : Str} {v : Value} {m cm : Str → Option Value} {Q : Unit → Shared → Prop} (X : InCallC s₀ env.locals m env.cells cm s) (hk : env.scope.kind = .function)
    (hx : env.kindOf x = some .local ∨ (env.kindOf x = some .cell ∧ (env.cells.lookup x).isSome = true))
    (h : ∀ m' cm' s', Stored C s₀ env m cm m' cm' s s' → Stands env m' cm' x v → (∀ y w, y ≠ x → Stands env m cm y w → Stands env m' cm' y w) → Q () s') : wpAny M A (storeName env x v) Q E s := by
  rcases hx with hl | ⟨hl, hc⟩
  · refine wpAny_storeName_local hl X.toInCall.ns (fun h' hn' hs' => ?_) (by rw [hk]; rfl)
    have hC : ∀ n c, env.cells.lookup n = some c → c ≠ env.locals := fun n c hc => Nat.ne_of_gt (X.above n c (mem_of_lookup hc))
    refine h (fun y => if y = x then some v else m y) cm _ ⟨⟨⟨?_, hn', fun b o e => ?_, X.toInCall.fresh⟩, fun k c hc => ?_, X.apart, X.above⟩, fun b o hb _ e => hs'.extBut b o hb e, ?_⟩ (.inl ⟨hl, if_pos rfl⟩) fun y w hy hw => ?_
    · obtain ⟨h₁, tk, rfl⟩ := X.toInCall.same
      exact ⟨h', _, rfl⟩
    · exact hs'.extBut b o (Nat.ne_of_lt (Nat.lt_of_lt_of_le (Heap.lt_size e) X.toInCall.fresh)) (X.toInCall.keep b o e)
    · exact (X.cell k c hc).sameBut hs' (hC k c hc)
    · obtain ⟨o, _, _, e, _⟩ := hn'
      exact sameBut_grows hs' e
    · rcases hw with ⟨a, b⟩ | ⟨a, b⟩
      · exact .inl ⟨a, (if_neg hy).trans b⟩
      · exact .inr ⟨a, b⟩
  · obtain ⟨c, hc⟩ := Option.isSome_iff_exists.mp hc
    have hLc := X.above x c (mem_of_lookup hc)
    refine wpAny_storeName_cell hk hl hc (X.cell x c hc) fun h' hc' hs' => ?_
    refine h m (fun y => if y = x then some v else cm y) _ ⟨⟨⟨?_, X.toInCall.ns.sameBut hs' (Nat.ne_of_lt hLc), fun b o e => ?_, X.toInCall.fresh⟩, fun k c' hk' => ?_, X.apart, X.above⟩, fun b o _ hb e => hs'.extBut b o (hb _ _ hc) e, ?_⟩
      (.inr ⟨hl, if_pos rfl⟩) fun y w hy hw => ?_
    · obtain ⟨h₁, tk, rfl⟩ := X.toInCall.same
      exact ⟨h', _, rfl⟩
    · exact hs'.extBut b o (Nat.ne_of_lt (Nat.lt_trans (Nat.lt_of_lt_of_le (Heap.lt_size e) X.toInCall.fresh) hLc)) (X.toInCall.keep b o e)
    · by_cases hkn : k = x
      · subst hkn
        rw [hc] at hk'; cases hk'
        simpa using hc'
      · rw [if_neg hkn]
        exact (X.cell k c' hk').sameBut hs' fun e => hkn (name_of_addr X.apart (mem_of_lookup hk') (e ▸ mem_of_lookup hc))
    · obtain ⟨o, e, _⟩ := hc'
      exact sameBut_grows hs' e
    · rcases hw with ⟨a, b⟩ | ⟨a, b⟩
      · exact .inl ⟨a, b⟩
      · exact .inr ⟨a, (if_neg hy).trans b⟩

/-- lists and tuples stand behind a store -/
theorem Stored.list {m cm m' cm' : Str → Option Value} (X : InCallC s₀ env.locals m env.cells cm s) (st : Stored C s₀ env m cm m' cm' s s') {a : Addr} {items : Array Value} (x : PlL s.heap a items) : PlL s'.heap a items :=
  plL_at x fun o e => st.keep a o (fun q => list_not_ns x.isList (q ▸ X.toInCall.ns)) (fun n c hc q => list_not_cell x.isList (q ▸ X.cell n c hc)) e
theorem Stored.tup {m cm m' cm' : Str → Option Value} (X : InCallC s₀ env.locals m env.cells cm s) (st : Stored C s₀ env m cm m' cm' s s') {a : Addr} {items : Array Value} (x : IsTup s.heap a items) : IsTup s'.heap a items :=
  isTup_at x fun o e => st.keep a o (fun q => tup_not_ns x (q ▸ X.toInCall.ns)) (fun n c hc q => tup_not_cell x (q ▸ X.cell n c hc)) e
theorem Stored.tab {m cm m' cm' : Str → Option Value} (X : InCallC s₀ env.locals m env.cells cm s) (st : Stored C s₀ env m cm m' cm' s s') (g : GrownT C.T s.heap) : GrownT C.T s'.heap := fun t ht => by
  refine (g t ht).at fun b o vs e hd _ => st.keep b o (fun q => ?_) (fun n c hc q => ?_) e
  · obtain ⟨o', es, ep, e', hd', _⟩ := X.toInCall.ns
    rw [← q, e] at e'; cases e'; rw [hd] at hd'; cases hd'
  · obtain ⟨o', e', hd'⟩ := X.cell n c hc
    rw [← q, e] at e'; cases e'; rw [hd] at hd'; cases hd'
theorem Stored.base {m cm m' cm' : Str → Option Value} (X : InCallC s₀ env.locals m env.cells cm s) (st : Stored C s₀ env m cm m' cm' s s') (B : Base C s.heap) (B₀ : ∀ b o, C.G.get? b = some o → s₀.heap.get? b = some o) : Base C s'.heap :=
  ⟨fun b o e => st.call.toInCall.keep b o (B₀ b o e), st.tab X B.grown⟩
theorem Stored.vr {m cm m' cm' : Str → Option Value} (X : InCallC s₀ env.locals m env.cells cm s) (st : Stored C s₀ env m cm m' cm' s s') {O : List Addr} {d : V} {v : Value} (x : VR s.heap O d v) : VR s'.heap O d v :=
  VR.tr (fun _ _ ha hl => ⟨ha, st.list X hl⟩) (fun _ _ ht => st.tup X ht) x
theorem Stored.vrs {m cm m' cm' : Str → Option Value} (X : InCallC s₀ env.locals m env.cells cm s) (st : Stored C s₀ env m cm m' cm' s s') {O : List Addr} {d : List V} {v : List Value} (x : VRs s.heap O d v) : VRs s'.heap O d v :=
  VRs.tr (fun _ _ ha hl => ⟨ha, st.list X hl⟩) (fun _ _ ht => st.tup X ht) x
theorem Stored.vvr {m cm m' cm' : Str → Option Value} (X : InCallC s₀ env.locals m env.cells cm s) (st : Stored C s₀ env m cm m' cm' s s') {O : List Addr} : ∀ {d : VV} {v : Value}, VVR s.heap O d v → VVR s'.heap O d v
  | (_, false), _, x => st.vr X x
  | (_, true), _, ⟨xs, a, items, h1, h2, h3, h4, h5⟩ => ⟨xs, a, items, h1, h2, h3, st.list X h4, st.vrs X h5⟩
end
section
variable {C : Ctx} {s₀ s s' : Shared} {env : Env} {O₀ : List Addr} {own : List (Str × Addr)} {ρ : Rho} {l : Nat} {sc : Scope}

theorem VVR.sub {h : Heap} {O O' : List Addr} (hs : ∀ a ∈ O', a ∈ O) : ∀ {d : VV} {v : Value}, (d.2 = true → ∀ a, v = .ref a → a ∈ O') → VVR h O d v → VVR h O' d v
  | (_, false), _, _, x => VR.sub hs x
  | (_, true), _, hm, ⟨xs, a, items, h1, h2, _, h4, h5⟩ => ⟨xs, a, items, h1, h2, hm rfl a h2, h4, h5.sub hs⟩

/-- a frozen value is stored in a name of the frame -/
theorem FR.store' {A : Around} {M : Model} {E : Value → Shared → Prop} {x : Str} {v : Value} {d : V} {Q : Unit → Shared → Prop} (F : FR C s₀ env O₀ own ρ s)
    (hx : env.kindOf x = some .local ∨ env.kindOf x = some .cell) (hv : VR s.heap (ownO own O₀) d v)
    (h : ∀ s', FR C s₀ env O₀ (dropOwn x own) ((x, (d, false)) :: ρ) s' → Go C env own (dropOwn x own) s s' → Grows s s' → (∀ b o, b ≠ env.locals → (∀ n c, env.cells.lookup n = some c → b ≠ c) → s.heap.get? b = some o → s'.heap.get? b = some o) → Q () s') : wpAny M A (storeName env x v) Q E s := by
  obtain ⟨m, cm, X, hvs⟩ := F.call
  refine wpAny_stored (C := C) X F.kind (hx.imp id fun e => ⟨e, F.cells x e⟩) fun m' cm' s' st hst hoth => ?_
  refine h s' ⟨st.base X F.base F.under, F.kind, F.glob, F.blt, F.cells, F.notab, F.under, F.outer, fun a ha => ?_, fun p hp => F.ownNew p (mem_dropOwn.mp hp).1, F.apart.filter _, m', cm', st.call, fun y e hy => ?_⟩ ⟨fun b o _ h2 h3 _ e => st.keep b o h2 h3 e, fun p hp => .inl ⟨p, (mem_dropOwn.mp hp).1, rfl⟩⟩ st.grows st.keep
  · obtain ⟨p, hp, rfl⟩ := List.mem_map.mp ha
    obtain ⟨its, y⟩ := F.lists p.2 (List.mem_map.mpr ⟨p, (mem_dropOwn.mp hp).1, rfl⟩)
    exact ⟨its, st.list X y⟩
  · rw [List.lookup_cons] at hy
    by_cases hyx : y = x
    · subst hyx
      rw [beq_self_eq_true] at hy
      cases hy
      exact ⟨v, hst, (by intro q; cases q), VR.sub dropOwn_sub (st.vr X hv)⟩
    · rw [beq_eq_false_iff_ne.mpr hyx] at hy
      obtain ⟨w, h1, h2, h3⟩ := hvs y e hy
      refine ⟨w, hoth y w hyx h1, fun q => ?_, VVR.sub dropOwn_sub (fun q a ea => ?_) (st.vvr X h3)⟩
      · obtain ⟨a, ha, ea⟩ := h2 q
        exact ⟨a, mem_dropOwn.mpr ⟨ha, hyx⟩, ea⟩
      · obtain ⟨b, hb, eb⟩ := h2 q
        rw [ea] at eb; cases eb
        exact List.mem_append_left _ (List.mem_map.mpr ⟨_, mem_dropOwn.mpr ⟨hb, hyx⟩, rfl⟩)

theorem FR.store {A : Around} {M : Model} {E : Value → Shared → Prop} {x : Str} {v : Value} {d : V} {Q : Unit → Shared → Prop} (F : FR C s₀ env O₀ own ρ s)
    (hx : env.kindOf x = some .local ∨ env.kindOf x = some .cell) (hv : VR s.heap (ownO own O₀) d v)
    (h : ∀ s', FR C s₀ env O₀ (dropOwn x own) ((x, (d, false)) :: ρ) s' → Go C env own (dropOwn x own) s s' → Grows s s' → Q () s') : wpAny M A (storeName env x v) Q E s :=
  FR.store' F hx hv fun s' F' g gr _ => h s' F' g gr

/-- a new list is stored in a name, which owns it then -/
theorem FR.storeNew' {A : Around} {M : Model} {E : Value → Shared → Prop} {x : Str} {a : Addr} {items : Array Value} {xs : List V} {Q : Unit → Shared → Prop} (F : FR C s₀ env O₀ own ρ s) (k : KS C.T s s')
    (hx : env.kindOf x = some .local ∨ env.kindOf x = some .cell) (hn : s.heap.get? a = none) (hl : PlL s'.heap a items) (hv : VRs s'.heap (a :: ownO own O₀) xs items.toList)
    (h : ∀ s'', FR C s₀ env O₀ ((x, a) :: dropOwn x own) ((x, (.list xs, true)) :: ρ) s'' → Go C env own ((x, a) :: dropOwn x own) s s'' → Grows s s'' → (∀ b o, b ∉ C.T → b ≠ env.locals → (∀ n c, env.cells.lookup n = some c → b ≠ c) → s.heap.get? b = some o → s''.heap.get? b = some o) → Q () s'') : wpAny M A (storeName env x (.ref a)) Q E s' := by
  have F' := F.ks k
  obtain ⟨m, cm, X, _⟩ := F'.call
  obtain ⟨m₁, cm₁, X₁, hvs⟩ := F.call
  have hmm : ∀ y w, Stands env m₁ cm₁ y w → Stands env m cm y w := fun y w hw => by
    obtain ⟨m₂, cm₂, X₂, hvs₂⟩ := (F.sub (ρ' := []) (fun _ _ h => nomatch h)).call
    have X₁' := inCallC_ks F.base.grown F.notab X₁ k
    rcases hw with ⟨p, q⟩ | ⟨p, q⟩
    · refine .inl ⟨p, ?_⟩
      obtain ⟨o, es, ep, e1, e2, _, e4⟩ := X.toInCall.ns
      obtain ⟨o', es', ep', e1', e2', _, e4'⟩ := X₁'.toInCall.ns
      rw [e1] at e1'; cases e1'; rw [e2] at e2'; cases e2'
      rw [← e4, e4']; exact q
    · refine .inr ⟨p, ?_⟩
      obtain ⟨c, hc⟩ := Option.isSome_iff_exists.mp (F.cells y p)
      obtain ⟨o, e1, e2⟩ := X.cell y c hc
      obtain ⟨o', e1', e2'⟩ := X₁'.cell y c hc
      rw [e1] at e1'; cases e1'; rw [e2] at e2'; injection e2' with e3
      exact e3.trans q
  have hs₀ : s₀.heap.get? a = none := by
    cases e : s₀.heap.get? a with
    | none => rfl
    | some o => rw [X₁.toInCall.keep a o e] at hn; cases hn
  have hne : ∀ b items, PlL s.heap b items → b ≠ a := fun b _ hb q => by
    obtain ⟨o, n, e, _⟩ := hb
    rw [q, hn] at e; cases e
  refine wpAny_stored (C := C) X F.kind (hx.imp id fun e => ⟨e, F.cells x e⟩) fun m' cm' s'' st hst hoth => ?_
  have hO : ∀ b ∈ ownO ((x, a) :: dropOwn x own) O₀, b = a ∨ b ∈ ownO own O₀ := fun b hb => by
    rcases List.mem_append.mp hb with h | h
    · obtain ⟨p, hp, rfl⟩ := List.mem_map.mp h
      rcases List.mem_cons.mp hp with rfl | hp
      · exact .inl rfl
      · exact .inr (List.mem_append_left _ (List.mem_map.mpr ⟨p, (mem_dropOwn.mp hp).1, rfl⟩))
    · exact .inr (List.mem_append_right _ h)
  have up : ∀ {d : V} {w : Value}, VR s.heap (ownO own O₀) d w → VR s''.heap (ownO ((x, a) :: dropOwn x own) O₀) d w := fun y =>
    st.vr X (VR.tr (fun b its hb hp => ⟨fun q => (hO b q).elim (hne b its hp) hb, plL_at hp fun o e => k.keep b o (nt_list F.base.grown hp.isList) e⟩)
      (fun b _ ht => isTup_at ht fun o e => k.keep b o (nt_tup F.base.grown ht) e) y)
  have ups : ∀ {d : List V} {w : List Value}, VRs s.heap (ownO own O₀) d w → VRs s''.heap (ownO ((x, a) :: dropOwn x own) O₀) d w := fun y =>
    st.vrs X (VRs.tr (fun b its hb hp => ⟨fun q => (hO b q).elim (hne b its hp) hb, plL_at hp fun o e => k.keep b o (nt_list F.base.grown hp.isList) e⟩)
      (fun b _ ht => isTup_at ht fun o e => k.keep b o (nt_tup F.base.grown ht) e) y)
  have hai : a ∈ ownO ((x, a) :: dropOwn x own) O₀ := List.mem_append_left _ (List.mem_map.mpr ⟨(x, a), List.mem_cons_self, rfl⟩)
  refine h s'' ⟨st.base X F'.base F.under, F.kind, F.glob, F.blt, F.cells, F.notab, F.under, F.outer, fun b hb => ?_, fun p hp => ?_, ?_, m', cm', st.call, fun y e hy => ?_⟩ ⟨fun b o h1 h2 h3 h4 e => st.keep b o h2 h3 (k.keep b o h1 e), fun p hp => ?_⟩ ((k.grows F.base.grown).trans st.grows) fun b o h1 h2 h3 e => st.keep b o h2 h3 (k.keep b o h1 e)
  · obtain ⟨p, hp, rfl⟩ := List.mem_map.mp hb
    rcases List.mem_cons.mp hp with rfl | hp
    · exact ⟨items, st.list X hl⟩
    · obtain ⟨its, y⟩ := F'.lists p.2 (List.mem_map.mpr ⟨p, (mem_dropOwn.mp hp).1, rfl⟩)
      exact ⟨its, st.list X y⟩
  · rcases List.mem_cons.mp hp with rfl | hp
    · exact hs₀
    · exact F.ownNew p (mem_dropOwn.mp hp).1
  · refine List.pairwise_cons.mpr ⟨fun p hp => ?_, F.apart.filter _⟩
    have hp' := mem_dropOwn.mp hp
    refine ⟨fun q => hp'.2 q.symm, fun q => ?_⟩
    obtain ⟨its, y⟩ := F.lists p.2 (List.mem_map.mpr ⟨p, hp'.1, rfl⟩)
    exact hne _ _ y q.symm
  · rw [List.lookup_cons] at hy
    by_cases hyx : y = x
    · subst hyx
      rw [beq_self_eq_true] at hy
      cases hy
      exact ⟨.ref a, hst, fun _ => ⟨a, List.mem_cons_self, rfl⟩, xs, a, items, rfl, rfl, hai, st.list X hl, (st.vrs X hv).sub fun b hb => by
        rcases hO b hb with rfl | hb
        · exact List.mem_cons_self
        · exact List.mem_cons_of_mem _ hb⟩
    · rw [beq_eq_false_iff_ne.mpr hyx] at hy
      obtain ⟨w, h1, h2, h3⟩ := hvs y e hy
      refine ⟨w, hoth y w hyx (hmm y w h1), fun q => ?_, ?_⟩
      · obtain ⟨b, hb, eb⟩ := h2 q
        exact ⟨b, List.mem_cons_of_mem _ (mem_dropOwn.mpr ⟨hb, hyx⟩), eb⟩
      · obtain ⟨e1, e2⟩ := e
        cases e2 with
        | false => exact up h3
        | true =>
          obtain ⟨ys, b, its, g1, g2, g3, g4, g5⟩ := h3
          obtain ⟨b', hb', eb'⟩ := h2 rfl
          rw [g2] at eb'; cases eb'
          exact ⟨ys, b, its, g1, g2, List.mem_append_left _ (List.mem_map.mpr ⟨(y, b), List.mem_cons_of_mem _ (mem_dropOwn.mpr ⟨hb', hyx⟩), rfl⟩), st.list X (plL_at g4 fun o e => k.keep b o (nt_list F.base.grown g4.isList) e), ups g5⟩
  · rcases List.mem_cons.mp hp with rfl | hp
    · exact .inr hn
    · exact .inl ⟨p, (mem_dropOwn.mp hp).1, rfl⟩

theorem FR.storeNew {A : Around} {M : Model} {E : Value → Shared → Prop} {x : Str} {a : Addr} {items : Array Value} {xs : List V} {Q : Unit → Shared → Prop} (F : FR C s₀ env O₀ own ρ s) (k : KS C.T s s')
    (hx : env.kindOf x = some .local ∨ env.kindOf x = some .cell) (hn : s.heap.get? a = none) (hl : PlL s'.heap a items) (hv : VRs s'.heap (a :: ownO own O₀) xs items.toList)
    (h : ∀ s'', FR C s₀ env O₀ ((x, a) :: dropOwn x own) ((x, (.list xs, true)) :: ρ) s'' → Go C env own ((x, a) :: dropOwn x own) s s'' → Grows s s'' → Q () s'') : wpAny M A (storeName env x (.ref a)) Q E s' :=
  FR.storeNew' F k hx hn hl hv fun s'' F' g gr _ => h s'' F' g gr

/-- a list that a name owns is given up: nobody changes it any more -/
theorem FR.freeze {x : Str} {d : V} (F : FR C s₀ env O₀ own ρ s) (hx : ρ.lookup x = some (d, true)) : FR C s₀ env O₀ (dropOwn x own) ((x, (d, false)) :: ρ) s ∧ Go C env own (dropOwn x own) s s := by
  refine ⟨⟨F.base, F.kind, F.glob, F.blt, F.cells, F.notab, F.under, F.outer, fun a ha => ?_, fun p hp => F.ownNew p (mem_dropOwn.mp hp).1, F.apart.filter _, ?_⟩, fun b o _ _ _ _ e => e, fun p hp => .inl ⟨p, (mem_dropOwn.mp hp).1, rfl⟩⟩
  · obtain ⟨p, hp, rfl⟩ := List.mem_map.mp ha
    exact F.lists p.2 (List.mem_map.mpr ⟨p, (mem_dropOwn.mp hp).1, rfl⟩)
  · obtain ⟨m, cm, X, hvs⟩ := F.call
    refine ⟨m, cm, X, fun y e hy => ?_⟩
    rw [List.lookup_cons] at hy
    by_cases hyx : y = x
    · subst hyx
      rw [beq_self_eq_true] at hy
      cases hy
      obtain ⟨v, h1, h2, h3⟩ := hvs _ _ hx
      obtain ⟨xs, a, items, rfl, rfl, g3, g4, g5⟩ := h3
      obtain ⟨b, hb, eb⟩ := h2 rfl
      cases eb
      refine ⟨.ref a, h1, (by intro q; cases q), ?_⟩
      show VR _ _ (.list xs) _
      simp only [VR]
      refine ⟨a, items, rfl, fun q => ?_, g4, g5.sub dropOwn_sub⟩
      rcases List.mem_append.mp q with q | q
      · obtain ⟨p, hp, ep⟩ := List.mem_map.mp q
        have hp' := mem_dropOwn.mp hp
        obtain ⟨y', b'⟩ := p
        dsimp only at ep; subst ep
        rcases own_ne F.apart hb hp'.1 with ⟨e1, _⟩ | ⟨_, e2⟩
        · exact hp'.2 e1.symm
        · exact e2 rfl
      · exact F.own_out hb q
    · rw [beq_eq_false_iff_ne.mpr hyx] at hy
      obtain ⟨w, h1, h2, h3⟩ := hvs y e hy
      refine ⟨w, h1, fun q => ?_, VVR.sub dropOwn_sub (fun q a ea => ?_) h3⟩
      · obtain ⟨a, ha, ea⟩ := h2 q
        exact ⟨a, mem_dropOwn.mpr ⟨ha, hyx⟩, ea⟩
      · obtain ⟨b, hb, eb⟩ := h2 q
        rw [ea] at eb; cases eb
        exact List.mem_append_left _ (List.mem_map.mpr ⟨_, mem_dropOwn.mpr ⟨hb, hyx⟩, rfl⟩)
theorem Xs.freeze {x : Str} {d : V} {body : List Stmt} {P : Out → Prop} (h : Xs C l sc ((x, (d, false)) :: ρ) body P) (hx : ρ.lookup x = some (d, true)) : Xs C l sc ρ body P := fun _ _ _ _ _ _ _ R hs F =>
  wpAny_mono (h R hs (F.freeze hx).1) (fun _ _ ⟨o, a, b⟩ => ⟨o, a, b.behind (F.freeze hx).2 (Grows.refl _)⟩) fun _ _ e => e
end
end

section
/-- an iterator's object -/
noncomputable def Itr (h : Heap) (b : Addr) : Prop := ∃ o vs, h.get? b = some o ∧ o.data = .fields vs ∧ o.cls ≠ .none ∧ ∀ q t, vs[1]? ≠ some (.str q t)
theorem Itr.mk {h : Heap} {b : Addr} {o : Obj} {vs : Array Value} {T : String} (e : h.get? b = some o) (hc : o.cls = .type T) (hd : o.data = .fields vs) (hT : ∀ q t, vs[1]? ≠ some (.str q t) := by intro _ _ h; simp [rawInt] at h) : Itr h b :=
  ⟨o, vs, e, hd, by rw [hc]; nofun, hT⟩
theorem Itr.not_list {h : Heap} {a : Addr} {items : Array Value} (x : Itr h a) (y : PlL h a items) : False := by
  obtain ⟨o, vs, e, d, _⟩ := x
  obtain ⟨o', n, e', d'⟩ := y
  rw [e] at e'; cases e'; rw [d'] at d; cases d
theorem Itr.not_tup {h : Heap} {a : Addr} {items : Array Value} (x : Itr h a) (y : IsTup h a items) : False := by
  obtain ⟨o, vs, e, d, _⟩ := x
  obtain ⟨o', e', _, n, d'⟩ := y
  rw [e] at e'; cases e'; rw [d] at d'; cases d'
theorem Itr.not_ns {h : Heap} {a : Addr} {m : Str → Option Value} (x : Itr h a) (y : h.Ns a m) : False := by
  obtain ⟨o, vs, e, d, _⟩ := x
  obtain ⟨o', es, ep, e', d', _⟩ := y
  rw [e] at e'; cases e'; rw [d] at d'; cases d'
theorem Itr.not_cell {h : Heap} {a : Addr} {v : Option Value} (x : Itr h a) (y : h.IsCell a v) : False := by
  obtain ⟨o, vs, e, d, _⟩ := x
  obtain ⟨o', e', d'⟩ := y
  rw [e] at e'; cases e'; rw [d] at d'; cases d'

theorem VR.walked {h h' : Heap} {wr O : List Addr} (hw : ∀ b ∈ wr, Itr h b) (k : ∀ b o, b ∉ wr → h.get? b = some o → h'.get? b = some o) {d : V} {v : Value} (x : VR h O d v) : VR h' O d v :=
  VR.tr (fun a _ ha hl => ⟨ha, plL_at hl fun o e => k a o (fun q => (hw a q).not_list hl) e⟩) (fun a _ ht => isTup_at ht fun o e => k a o (fun q => (hw a q).not_tup ht) e) x
theorem VRs.walked {h h' : Heap} {wr O : List Addr} (hw : ∀ b ∈ wr, Itr h b) (k : ∀ b o, b ∉ wr → h.get? b = some o → h'.get? b = some o) {d : List V} {v : List Value} (x : VRs h O d v) : VRs h' O d v :=
  VRs.tr (fun a _ ha hl => ⟨ha, plL_at hl fun o e => k a o (fun q => (hw a q).not_list hl) e⟩) (fun a _ ht => isTup_at ht fun o e => k a o (fun q => (hw a q).not_tup ht) e) x
theorem VVR.walked {h h' : Heap} {wr O : List Addr} (hw : ∀ b ∈ wr, Itr h b) (k : ∀ b o, b ∉ wr → h.get? b = some o → h'.get? b = some o) : ∀ {d : VV} {v : Value}, VVR h O d v → VVR h' O d v
  | (_, false), _, x => VR.walked hw k x
  | (_, true), _, ⟨xs, a, items, h1, h2, h3, h4, h5⟩ => ⟨xs, a, items, h1, h2, h3, plL_at h4 fun o e => k a o (fun q => (hw a q).not_list h4) e, h5.walked hw k⟩

section
variable {C : Ctx} {s₀ s s' : Shared} {env : Env} {O₀ : List Addr} {own : List (Str × Addr)} {ρ : Rho}
/-- an iterator's step keeps the frame -/
theorem FR.walked {wr : List Addr} {h' : Heap} {tk : Nat} (F : FR C s₀ env O₀ own ρ s) (hw : ∀ b ∈ wr, Itr s.heap b) (hn : ∀ b ∈ wr, s₀.heap.get? b = none) (hT : ∀ b ∈ wr, b ∉ C.T)
    (k : ∀ b o, b ∉ wr → s.heap.get? b = some o → h'.get? b = some o) : FR C s₀ env O₀ own ρ { s with heap := h', toks := tk } := by
  obtain ⟨m, cm, X, hv⟩ := F.call
  have g : GrownT C.T h' := fun t ht => (F.base.grown t ht).at fun b o vs e hd hc => k b o (fun q => by
    obtain ⟨o', vs', e', d', n1, n2⟩ := hw b q
    rw [e] at e'; cases e'; rw [hd] at d'; cases d'
    exact hc.elim n1 fun ⟨_, _, z⟩ => n2 _ _ z) e
  have kp : ∀ b o, s₀.heap.get? b = some o → h'.get? b = some o := fun b o e => k b o (fun q => by rw [hn b q] at e; cases e) (X.toInCall.keep b o e)
  refine ⟨⟨fun b o e => kp b o (F.under b o e), g⟩, F.kind, F.glob, F.blt, F.cells, F.notab, F.under, F.outer, fun a ha => ?_, F.ownNew, F.apart, m, cm, ⟨⟨?_, X.toInCall.ns.at' fun o e => k _ o (fun q => (hw _ q).not_ns X.toInCall.ns) e, kp, X.toInCall.fresh⟩,
    fun n c hc => isCell_at (X.cell n c hc) fun o e => k _ o (fun q => (hw _ q).not_cell (X.cell n c hc)) e, X.apart, X.above⟩, fun x d hx => ?_⟩
  · obtain ⟨its, y⟩ := F.lists a ha
    exact ⟨its, plL_at y fun o e => k a o (fun q => (hw a q).not_list y) e⟩
  · obtain ⟨h₁, tk₁, rfl⟩ := X.toInCall.same
    exact ⟨h', tk, rfl⟩
  · obtain ⟨v, h1, h2, h3⟩ := hv x d hx
    exact ⟨v, h1, h2, h3.walked hw k⟩
end

/-- an iterator over data, as the library walks it -/
structure It (C : Ctx) (A : Around) (I : Addr) (fp wr : List Addr) (n : Nat) (P : Nat → Value → Prop) (St : Nat → Heap → Prop) (ds xs : List V) (vs : List Value) : Prop where
  W : Walks C.prog C.w A I fp wr n P St
  len : n = ds.length
  itr : ∀ i h, St i h → ∀ b ∈ wr, Itr h b
  get : ∀ i v h O, VRs h O xs vs → P i v → i < n → ∃ d, ds[i]? = some d ∧ VR h O d v

/-- the footprint lies apart from what a frame changes -/
structure Foot (O : List Addr) (s s' : Shared) (fp wr : List Addr) : Prop where
  new : ∀ b ∈ wr, s.heap.get? b = none
  here : ∀ b ∈ fp, (∃ o, s'.heap.get? b = some o) ∧ (s.heap.get? b = none ∨ (b ∉ O ∧ ((∃ items, PlL s'.heap b items) ∨ ∃ items, IsTup s'.heap b items)))

section
variable (C : Ctx) (l : Nat)
noncomputable def EvI (sc : Scope) (ρ : Rho) (e : Expr) (ds : List V) : Prop :=
  ∀ ⦃A : Around⦄ ⦃s : Shared⦄ ⦃env : Env⦄ ⦃O : List Addr⦄ ⦃Q : Value → Shared → Prop⦄ ⦃E : Value → Shared → Prop⦄, Room l A → env.scope = sc → ER C env ρ O s →
    (∀ I fp wr n P St xs vs s', KS C.T s s' → It C A I fp wr n P St ds xs vs → St 0 s'.heap → Foot O s s' fp wr → VRs s'.heap O xs vs → Q (.ref I) s') →
    wpAny (model C.prog C.w) A (eval e env) (fun x s₁ => wpAny (model C.prog C.w) A (pyIter x) Q E s₁) E s

/-- a step that a target takes (a tuple as the target goes another way) -/
structure WV (A : Around) (tgt : Expr) (it : Value) (fp wr : List Addr) (St : Nat → Heap → Prop) (ds xs : List V) (vs : List Value) : Prop where
  sub : ∀ b ∈ wr, b ∈ fp
  frame : ∀ i h h', St i h → (∀ b ∈ fp, ∀ o, h.get? b = some o → h'.get? b = some o) → St i h'
  itr : ∀ i h, St i h → ∀ b ∈ wr, Itr h b
  item : ∀ {i : Nat} {d : V} {s : Shared} {O : List Addr} {Q : Value → Shared → Prop} {E : Value → Shared → Prop}, ds[i]? = some d → St i s.heap → VRs s.heap O xs vs → (∀ a ∈ O, ∃ o, s.heap.get? a = some o) →
    (∀ v h' tk, St (i + 1) h' → (∀ b o, b ∉ wr → s.heap.get? b = some o → h'.get? b = some o) → VR h' O d v → Q v { s with heap := h', toks := tk }) →
    wpAny (model C.prog C.w) A (pyNext it) (fun r s₁ => match r with | none => False | some v => wpAny (model C.prog C.w) A (letOwnedTupleGo tgt it v) (fun _ s₂ => Q v s₂) E s₁) E s
  done : ∀ {s : Shared} {Q : Option Value → Shared → Prop} {E : Value → Shared → Prop}, St ds.length s.heap → (∀ h' tk, (∀ b o, b ∉ wr → s.heap.get? b = some o → h'.get? b = some o) → Q none { s with heap := h', toks := tk }) →
    wpAny (model C.prog C.w) A (pyNext it) Q E s

noncomputable def EvW (sc : Scope) (ρ : Rho) (tgt e : Expr) (ds : List V) : Prop :=
  ∀ ⦃A : Around⦄ ⦃s : Shared⦄ ⦃env : Env⦄ ⦃O : List Addr⦄ ⦃Q : Value → Shared → Prop⦄ ⦃E : Value → Shared → Prop⦄, Room l A → env.scope = sc → ER C env ρ O s →
    (∀ it fp wr St xs vs s', KS C.T s s' → WV C A tgt it fp wr St ds xs vs → St 0 s'.heap → Foot O s s' fp wr → VRs s'.heap O xs vs → Q it s') →
    wpAny (model C.prog C.w) A (eval e env) (fun x s₁ => wpAny (model C.prog C.w) A (pyIter x) Q E s₁) E s

/-- a target takes a datum -/
noncomputable def Tgt (sc : Scope) (tgt : Expr) (d : V) (ρ ρ' : Rho) : Prop :=
  ∀ ⦃A : Around⦄ ⦃s s₀ : Shared⦄ ⦃env : Env⦄ ⦃O₀ : List Addr⦄ ⦃own : List (Str × Addr)⦄ ⦃v : Value⦄ ⦃Q : Unit → Shared → Prop⦄ ⦃E : Value → Shared → Prop⦄, Room l A → env.scope = sc → FR C s₀ env O₀ own ρ s → VR s.heap (ownO own O₀) d v →
    (∀ own' s', FR C s₀ env O₀ own' ρ' s' → Go C env own own' s s' → Grows s s' → Q () s') → wpAny (model C.prog C.w) A (assign tgt env v) Q E s
noncomputable def TgtL (sc : Scope) (ts : List Expr) (ds : List V) (ρ ρ' : Rho) : Prop :=
  ∀ ⦃A : Around⦄ ⦃s s₀ : Shared⦄ ⦃env : Env⦄ ⦃O₀ : List Addr⦄ ⦃own : List (Str × Addr)⦄ ⦃vs : List Value⦄ ⦃Q : Unit → Shared → Prop⦄ ⦃E : Value → Shared → Prop⦄, Room l A → env.scope = sc → FR C s₀ env O₀ own ρ s → VRs s.heap (ownO own O₀) ds vs →
    (∀ own' s', FR C s₀ env O₀ own' ρ' s' → Go C env own own' s s' → Grows s s' → Q () s') → wpAny (model C.prog C.w) A (assignInOrder ((assignEach ts env).map (·.2)) vs) Q E s

noncomputable def ForP (sc : Scope) (tgt : Expr) (body orelse : List Stmt) (P : Out → Prop) : List V → Rho → Prop
  | [], ρ => Xs C l sc ρ orelse P
  | d :: ds, ρ => ∃ ρ₁, Tgt C l sc tgt d ρ ρ₁ ∧ Xs C l sc ρ₁ body fun o => match o with
    | .next ρ' => ForP sc tgt body orelse P ds ρ'
    | .cont ρ' => ForP sc tgt body orelse P ds ρ'
    | .brk ρ' => P (.next ρ')
    | .ret d => P (.ret d)
end

section
variable {C : Ctx} {l : Nat} {sc : Scope} {ρ : Rho}

theorem FR.vrs_go {s₀ s s' : Shared} {env : Env} {O₀ : List Addr} {own own' : List (Str × Addr)} {ρ ρ' : Rho} (F : FR C s₀ env O₀ own ρ s) (g : Go C env own own' s s') {xs : List V} {vs : List Value} (x : VRs s.heap (ownO own O₀) xs vs) : VRs s'.heap (ownO own' O₀) xs vs := by
  obtain ⟨m, cm, X, _⟩ := F.call
  refine VRs.tr (fun a its ha hl => ⟨fun q => ?_, plL_at hl fun o e => g.keep a o (nt_list F.base.grown hl.isList) (fun q => list_not_ns hl.isList (q ▸ X.toInCall.ns)) (fun n c hc q => list_not_cell hl.isList (q ▸ X.cell n c hc)) (fun p hp q => ha (List.mem_append_left _ (List.mem_map.mpr ⟨p, hp, q.symm⟩))) e⟩)
    (fun a its ht => isTup_at ht fun o e => g.keep a o (nt_tup F.base.grown ht) (fun q => tup_not_ns ht (q ▸ X.toInCall.ns)) (fun n c hc q => tup_not_cell ht (q ▸ X.cell n c hc)) (fun p hp q => by
      obtain ⟨its', y⟩ := F.lists p.2 (List.mem_map.mpr ⟨p, hp, rfl⟩)
      exact list_not_tup y.isList (q ▸ ht)) e) x
  rcases List.mem_append.mp q with q | q
  · obtain ⟨p, hp, rfl⟩ := List.mem_map.mp q
    rcases g.news p hp with ⟨r, hr, e⟩ | e
    · exact ha (List.mem_append_left _ (List.mem_map.mpr ⟨r, hr, e.symm⟩))
    · obtain ⟨o, n, e', _⟩ := hl
      rw [e] at e'; cases e'
  · exact ha (List.mem_append_right _ q)
theorem Tgt.name {x : Str} {p : Pos} {d : V} (hx : (sc.names.lookup x == some .local || sc.names.lookup x == some .cell) = true := by decide +kernel) : Tgt C l sc (.Name x p) d ρ ((x, (d, false)) :: ρ) := by
  intro A s s₀ env O₀ own v Q E R hs F hv h
  refine wpAny_assign_Name (F.store ?_ hv fun s' F' g gr => h _ s' F' g gr)
  rw [Env.kindOf, hs]
  simpa using hx
theorem TgtL.nil : TgtL C l sc [] [] ρ ρ := fun _ _ _ _ _ _ _ _ _ _ _ F _ h => wpAny_pure (h _ _ F Go.refl (Grows.refl _))
theorem TgtL.cons {t : Expr} {ts : List Expr} {d : V} {ds : List V} {ρ₁ ρ₂ : Rho} (h₁ : Tgt C l sc t d ρ ρ₁) (h₂ : TgtL C l sc ts ds ρ₁ ρ₂) (he : ∀ env, assignEach (t :: ts) env = (false, assign t env) :: assignEach ts env := by intro _; rfl) : TgtL C l sc (t :: ts) (d :: ds) ρ ρ₂ := by
  intro A s s₀ env O₀ own vs Q E R hs F hv h
  simp only [VRs] at hv
  obtain ⟨v, r, rfl, hv, hr⟩ := hv
  rw [he]
  refine assignInOrder_cons (h₁ R hs F hv fun own' s' F' g gr => ?_)
  exact h₂ R hs F' (F.vrs_go (ρ' := ρ) g hr) fun own'' s'' F'' g' gr' => h own'' s'' F'' (g.trans g' gr) (gr.trans gr')
theorem Tgt.tuple {ts : List Expr} {k p} {ds : List V} {ρ₁ : Rho} (h : TgtL C l sc ts ds ρ ρ₁) (hn : ∀ env, (assignEach ts env).length = ds.length := by intro _; rfl) (hstar : ∀ env, (assignEach ts env).findIdx? (·.1) = none := by intro _; rfl) : Tgt C l sc (.Tuple ts k p) (.tuple ds) ρ ρ₁ := by
  intro A s s₀ env O₀ own v Q E R hs F hv hQ
  simp only [VR] at hv
  obtain ⟨a, items, rfl, ht, hr⟩ := hv
  refine assign_Tuple_tuple R.handled ht (by rw [hn]; simpa using hr.length.symm) (hstar env) fun h' he => ?_
  have k : KS C.T s { s with heap := h' } := KS.of fun b o e => he b o (Nat.ne_of_lt (Heap.lt_size e)) e
  exact h R hs (F.ks k) (hr.ks F.base k) fun own' s' F' g gr => hQ own' s' F' ((Go.ks k).trans g (k.grows F.base.grown)) ((k.grows F.base.grown).trans gr)

theorem EvW.ofI {x : Str} {p : Pos} {e : Expr} {ds : List V} (h : EvI C l sc ρ e ds) : EvW C l sc ρ (.Name x p) e ds := by
  intro A s env O Q E R hs er hQ
  refine h R hs er fun I fp wr n P St xs vs s' k it st ft hv => hQ _ fp wr St xs vs s' k ⟨it.W.sub, it.W.frame, it.itr, ?_, ?_⟩ st ft hv
  · intro i d s₁ O₁ Q₁ E₁ hd hst hvs _ hq
    have hi : i < n := by rw [it.len]; exact (List.getElem?_eq_some_iff.mp hd).1
    refine it.W.item i s₁ _ _ hi hst fun v h' tk hP hst' hk => ?_
    obtain ⟨d', hd', hv'⟩ := it.get i v s₁.heap O₁ hvs hP hi
    rw [hd] at hd'; cases hd'
    show wpAny _ _ (pure ()) _ _ _
    exact wpAny_pure (hq v h' tk hst' hk (hv'.walked (it.itr i _ hst) hk))
  · intro s₁ Q₁ E₁ hst hq
    exact it.W.done s₁ Q₁ E₁ (it.len ▸ hst) hq

theorem Foot.ks {O : List Addr} {s s₁ s' : Shared} {fp wr : List Addr} (F : Foot O s₁ s' fp wr) (g : Grows s s₁) : Foot O s s' fp wr :=
  ⟨fun b hb => g b (F.new b hb), fun b hb => ⟨(F.here b hb).1, (F.here b hb).2.imp (g b) id⟩⟩

/-- the loop -/
theorem X.for {tgt iter : Expr} {body orelse : List Stmt} {pos : Pos} {ds : List V} {P : Out → Prop} (hi : EvW C l sc ρ tgt iter ds) (hf : ForP C l sc tgt body orelse P ds ρ)
    (hfo : ∀ env x, foldedSetIterable iter env x = pure x := by intro _ _; rfl) : X C l sc ρ (.For tgt iter body orelse pos) P := by
  intro A s s₀ env O₀ own E R hs F
  refine wpAny_For (hi R hs F.er fun it fp wr St xs vs s₁ k W st₀ ft hv => ?_) (hfo env)
  have F₁ := F.ks k
  have gr₁ := k.grows F.base.grown
  obtain ⟨m, cm, X, _⟩ := F.call
  -- the footprint's own places
  have fpOut : ∀ b ∈ fp, b ∉ C.T ∧ b ≠ env.locals ∧ (∀ n c, env.cells.lookup n = some c → b ≠ c) ∧ ∀ p ∈ own, b ≠ p.2 := fun b hb => by
    rcases (ft.here b hb).2 with e | ⟨e1, e2⟩
    · refine ⟨fun q => ?_, fun q => ?_, fun n c hc q => ?_, fun p hp q => ?_⟩
      · obtain ⟨ps, e'⟩ := (F.base.grown b q).get
        rw [e] at e'; cases e'
      · obtain ⟨o, _, _, e', _⟩ := X.toInCall.ns
        rw [← q, e] at e'; cases e'
      · obtain ⟨o, e', _⟩ := X.cell n c hc
        rw [← q, e] at e'; cases e'
      · obtain ⟨its, o, n, e', _⟩ := F.lists p.2 (List.mem_map.mpr ⟨p, hp, rfl⟩)
        rw [← q, e] at e'; cases e'
    · obtain ⟨m₁, cm₁, X₁, _⟩ := F₁.call
      have hown : ∀ p ∈ own, b ≠ p.2 := fun p hp q => e1 (List.mem_append_left _ (List.mem_map.mpr ⟨p, hp, q.symm⟩))
      rcases e2 with ⟨its, y⟩ | ⟨its, y⟩
      · exact ⟨nt_list F₁.base.grown y.isList, fun q => list_not_ns y.isList (q ▸ X₁.toInCall.ns), fun n c hc q => list_not_cell y.isList (q ▸ X₁.cell n c hc), hown⟩
      · exact ⟨nt_tup F₁.base.grown y, fun q => tup_not_ns y (q ▸ X₁.toInCall.ns), fun n c hc q => tup_not_cell y (q ▸ X₁.cell n c hc), hown⟩
  have wr₀ : ∀ b ∈ wr, s₀.heap.get? b = none := fun b hb => by
    cases e : s₀.heap.get? b with
    | none => rfl
    | some o => have := X.toInCall.keep b o e; rw [ft.new b hb] at this; cases this
  have wrT : ∀ b ∈ wr, b ∉ C.T := fun b hb => (fpOut b (W.sub b hb)).1
  have stepGo : ∀ {own' : List (Str × Addr)} {s' : Shared} {h' : Heap} {tk : Nat}, Go C env own own' s s' → Grows s s' → (∀ b o, b ∉ wr → s'.heap.get? b = some o → h'.get? b = some o) →
      Go C env own own' s { s' with heap := h', toks := tk } ∧ Grows s { s' with heap := h', toks := tk } := fun {own' s' h' tk} g gr hk =>
    ⟨⟨fun b o h1 h2 h3 h4 e => hk b o (fun q => by rw [ft.new b q] at e; cases e) (g.keep b o h1 h2 h3 h4 e), g.news⟩, fun b e => by
      cases e' : s.heap.get? b with
      | none => rfl
      | some o =>
        exfalso
        cases e2 : s'.heap.get? b with
        | none => have := gr b e2; rw [e'] at this; cases this
        | some o' =>
          have := hk b o' (fun q => by rw [ft.new b q] at e'; cases e') e2
          dsimp only at e
          rw [e] at this; cases this⟩
  refine codeAny_forLoop_any (fun k s' => ∃ i own' ρ', FR C s₀ env O₀ own' ρ' s' ∧ St i s'.heap ∧ ForP C l sc tgt body orelse P (ds.drop i) ρ' ∧ VRs s'.heap (ownO own' O₀) xs vs ∧ Go C env own own' s s' ∧ Grows s s' ∧ ((∀ p ∈ own', (∃ q ∈ own, p.2 = q.2) ∨ s₁.heap.get? p.2 = none) ∧ Grows s₁ s') ∧ i ≤ ds.length ∧ k = ds.length - i) ?_ ds.length
    ⟨0, own, ρ, F₁, st₀, hf, hv, Go.ks k, gr₁, ⟨fun p hp => .inl ⟨p, hp, rfl⟩, Grows.refl _⟩, Nat.zero_le _, rfl⟩
  rintro nk s' ⟨i, own', ρ', F', st, hf', hv', g', gr', ⟨nw', gs'⟩, hile, rfl⟩
  have own'Out : ∀ b ∈ fp, ∀ p ∈ own', b ≠ p.2 := fun b hb p hp q => by
    rcases nw' p hp with ⟨r, hr, e⟩ | e
    · exact (fpOut b hb).2.2.2 r hr (q.trans e)
    · obtain ⟨o, e'⟩ := (ft.here b hb).1
      rw [← q, e'] at e; cases e
  cases hd : ds[i]? with
  | none =>
    have hil : ds.length ≤ i := by simpa using hd
    have hie : i = ds.length := by omega
    refine W.done (hie ▸ st) fun h' tk hk => ?_
    rw [List.drop_eq_nil_of_le hil] at hf'
    have F'' := F'.walked (tk := tk) (W.itr i _ st) wr₀ wrT hk
    obtain ⟨g'', gr''⟩ := stepGo (tk := tk) g' gr' hk
    refine wpAny_mono (hf' (E := notedBy (model C.prog C.w) A env fun e s'' => cameBackBy (model C.prog C.w) A env E e s'') R hs F'') (fun f s'' ⟨o, h1, h2⟩ => ?_) fun _ _ e => e
    exact ⟨o, h1, h2.behind g'' gr''⟩
  | some d =>
    have hil : i < ds.length := (List.getElem?_eq_some_iff.mp hd).1
    have hdr : ds.drop i = d :: ds.drop (i + 1) := by
      rw [List.drop_eq_getElem_cons hil]
      rw [(List.getElem?_eq_some_iff.mp hd).2]
    rw [hdr] at hf'
    obtain ⟨ρ₁, ht, hb⟩ := hf'
    refine wpAny_mono (W.item hd st hv' (fun a ha => let ⟨its, o, n, e, _⟩ := F'.listsAll a ha; ⟨o, e⟩) (Q := fun v s₂ => wpAny (model C.prog C.w) A (assign tgt env v) (fun _ s₂ => wpAny (model C.prog C.w) A (execs body env) (fun f s₃ => match f with
            | .next | .cont => ∃ m, m < ds.length - i ∧ ∃ i own' ρ', FR C s₀ env O₀ own' ρ' s₃ ∧ St i s₃.heap ∧ ForP C l sc tgt body orelse P (ds.drop i) ρ' ∧ VRs s₃.heap (ownO own' O₀) xs vs ∧ Go C env own own' s s₃ ∧ Grows s s₃ ∧ ((∀ p ∈ own', (∃ q ∈ own, p.2 = q.2) ∨ s₁.heap.get? p.2 = none) ∧ Grows s₁ s₃) ∧ i ≤ ds.length ∧ m = ds.length - i
            | .brk => ∃ o, P o ∧ OutOk C s₀ env O₀ own s o .next s₃
            | .ret v => ∃ o, P o ∧ OutOk C s₀ env O₀ own s o (.ret v) s₃) (notedBy (model C.prog C.w) A env fun e s' => cameBackBy (model C.prog C.w) A env E e s') s₂) (notedBy (model C.prog C.w) A env fun e s' => cameBackBy (model C.prog C.w) A env E e s') s₂) (fun v h' tk st' hk hvd => ?_)) (fun r s₂ hr => ?_) fun _ _ e => e
    · have F'' := F'.walked (tk := tk) (W.itr i _ st) wr₀ wrT hk
      obtain ⟨g'', gr''⟩ := stepGo (tk := tk) g' gr' hk
      have hv'' := hv'.walked (W.itr i _ st) hk
      refine ht R hs F'' hvd fun own₁ s₃ F₃ g₃ gr₃ => ?_
      refine wpAny_mono (hb R hs F₃) (fun f s₄ ⟨o, h1, h2⟩ => ?_) fun _ _ e => e
      have g₃' := g''.trans g₃ gr''
      have gr₃' := gr''.trans gr₃
      have hv₃ := F''.vrs_go (ρ' := ρ₁) g₃ hv''
      have gs'' : Grows s₁ { s' with heap := h', toks := tk } := fun b e => by
        cases e' : s₁.heap.get? b with
        | none => rfl
        | some o =>
          exfalso
          by_cases hbw : b ∈ wr
          · obtain ⟨o', _, e2, _⟩ := W.itr _ _ st' b hbw
            dsimp only at e
            rw [e] at e2; cases e2
          · cases e2 : s'.heap.get? b with
            | none => have := gs' b e2; rw [e'] at this; cases this
            | some o' =>
              have := hk b o' hbw e2
              dsimp only at e
              rw [e] at this; cases this
      have nw₄ : ∀ {own₂ : List (Str × Addr)} {s₅ : Shared}, Go C env own₁ own₂ s₃ s₅ → ∀ p ∈ own₂, (∃ q ∈ own, p.2 = q.2) ∨ s₁.heap.get? p.2 = none := fun {own₂ s₅} g₅ p hp => by
        rcases (g₃.trans g₅ gr₃).news p hp with ⟨r, hr, e⟩ | e
        · rw [e]; exact nw' r hr
        · exact .inr (gs'' _ e)
      have keepFp : ∀ {own₂ : List (Str × Addr)} {s₅ : Shared}, Go C env own₁ own₂ s₃ s₅ → ∀ b ∈ fp, ∀ o, h'.get? b = some o → s₅.heap.get? b = some o := fun {own₂ s₅} g₅ b hb o e => by
        refine (g₃.trans g₅ gr₃).keep b o (fpOut b hb).1 (fpOut b hb).2.1 (fpOut b hb).2.2.1 (fun p hp => own'Out b hb p hp) e
      have go : ∀ {own₂ : List (Str × Addr)} {ρ₂ : Rho}, FR C s₀ env O₀ own₂ ρ₂ s₄ → Go C env own₁ own₂ s₃ s₄ → Grows s₃ s₄ → ForP C l sc tgt body orelse P (ds.drop (i + 1)) ρ₂ →
          ∃ m, m < ds.length - i ∧ ∃ i own' ρ', FR C s₀ env O₀ own' ρ' s₄ ∧ St i s₄.heap ∧ ForP C l sc tgt body orelse P (ds.drop i) ρ' ∧ VRs s₄.heap (ownO own' O₀) xs vs ∧ Go C env own own' s s₄ ∧ Grows s s₄ ∧ ((∀ p ∈ own', (∃ q ∈ own, p.2 = q.2) ∨ s₁.heap.get? p.2 = none) ∧ Grows s₁ s₄) ∧ i ≤ ds.length ∧ m = ds.length - i :=
        fun {own₂ ρ₂} F₄ g₄ gr₄ hf₄ => ⟨ds.length - (i + 1), by omega, i + 1, own₂, ρ₂, F₄, W.frame _ _ _ st' (keepFp g₄), hf₄, F₃.vrs_go (ρ' := ρ₂) g₄ hv₃, g₃'.trans g₄ gr₃', gr₃'.trans gr₄, ⟨fun p hp => nw₄ g₄ p hp, gs''.trans (gr₃.trans gr₄)⟩, by omega, rfl⟩
      cases o with
      | next ρ₂ => obtain ⟨rfl, own₂, F₄, g₄, gr₄⟩ := h2; exact go F₄ g₄ gr₄ h1
      | cont ρ₂ => obtain ⟨rfl, own₂, F₄, g₄, gr₄⟩ := h2; exact go F₄ g₄ gr₄ h1
      | brk ρ₂ => obtain ⟨rfl, own₂, F₄, g₄, gr₄⟩ := h2; exact ⟨_, h1, rfl, own₂, F₄, g₃'.trans g₄ gr₃', gr₃'.trans gr₄⟩
      | ret d' => obtain ⟨v', own₂, rfl, F₄, g₄, gr₄, r⟩ := h2; exact ⟨_, h1, v', own₂, rfl, F₄, g₃'.trans g₄ gr₃', gr₃'.trans gr₄, r⟩
    · cases r with
      | none => exact hr.elim
      | some v => exact hr
end
end

section
noncomputable abbrev HasPlace (sc : Scope) (x : Str) : Prop := (sc.names.lookup x == some .local || sc.names.lookup x == some .cell) = true

section
variable {C : Ctx} {l : Nat} {sc : Scope} {ρ : Rho}

theorem HasPlace.kind {x : Str} {env : Env} (h : HasPlace sc x) (hs : env.scope = sc) : env.kindOf x = some .local ∨ env.kindOf x = some .cell := by
  rw [Env.kindOf, hs]; simpa using h

theorem EvNew.ev {e : Expr} {xs : List V} (h : EvNew C l sc ρ e xs) : Ev C l sc ρ e (.list xs, false) := by
  intro A s env O Q E R hs er hQ
  refine h R hs er fun a items s' k hn hl hv => hQ _ s' k ?_
  show VR _ _ (.list xs) _
  simp only [VR]
  refine ⟨a, items, rfl, fun q => ?_, hl, hv.sub fun b hb => List.mem_cons_of_mem _ hb⟩
  obtain ⟨its, o, n, e, _⟩ := er.lists a q
  rw [hn] at e; cases e

theorem Xs.assign {x : Str} {p pos : Pos} {e : Expr} {d : V} {rest : List Stmt} {P : Out → Prop} (h : Ev C l sc ρ e (d, false)) (k : Xs C l sc ((x, (d, false)) :: ρ) rest P)
    (hx : HasPlace sc x := by decide +kernel) (hs : ∀ env : Env, env.scope = sc → swapsWith e (some (.Name x p)) pos.line env = pure false := by intro _ _; rfl) : Xs C l sc ρ (.Assign [.Name x p] e pos :: rest) P := by
  refine Xs.cons ?_
  intro A s s₀ env O₀ own E R hsc F
  refine wpAny_Assign_Name (h R hsc F.er fun v s' k' r => ?_) (hs env hsc)
  refine (F.ks k').store (hx.kind hsc) r fun s'' F'' g gr => ?_
  exact ⟨.next _, k, rfl, _, F'', (Go.ks k').trans g (k'.grows F.base.grown), (k'.grows F.base.grown).trans gr⟩

theorem Xs.assignNew {x : Str} {p pos : Pos} {e : Expr} {xs : List V} {rest : List Stmt} {P : Out → Prop} (h : EvNew C l sc ρ e xs) (k : Xs C l sc ((x, (.list xs, true)) :: ρ) rest P)
    (hx : HasPlace sc x := by decide +kernel) (hs : ∀ env : Env, env.scope = sc → swapsWith e (some (.Name x p)) pos.line env = pure false := by intro _ _; rfl) : Xs C l sc ρ (.Assign [.Name x p] e pos :: rest) P := by
  refine Xs.cons ?_
  intro A s s₀ env O₀ own E R hsc F
  refine wpAny_Assign_Name (h R hsc F.er fun a items s' k' hn hl hv => ?_) (hs env hsc)
  refine F.storeNew k' (hx.kind hsc) hn hl hv fun s'' F'' g gr => ?_
  exact ⟨.next _, k, rfl, _, F'', g, gr⟩

theorem Xs.assignTgt {t : List Expr} {k p pos} {e : Expr} {d : V} {ρ₁ : Rho} {rest : List Stmt} {P : Out → Prop} (h : Ev C l sc ρ e (d, false)) (ht : Tgt C l sc (.Tuple t k p) d ρ ρ₁) (kk : Xs C l sc ρ₁ rest P)
    (hs : ∀ env : Env, env.scope = sc → swapsWithSole [.Tuple t k p] e pos.line env = pure false := by intro _ _; rfl) (hw : ∀ env : Env, swappedStores [.Tuple t k p] e env = pure none := by intro _; rfl) : Xs C l sc ρ (.Assign [.Tuple t k p] e pos :: rest) P := by
  refine Xs.cons ?_
  intro A s s₀ env O₀ own E R hsc F
  refine Assign_Tuple (h R hsc F.er fun v s' k' r => ?_) (hs env hsc) (hw env)
  exact ht R hsc (F.ks k') r fun own' s'' F'' g gr => ⟨.next _, kk, rfl, _, F'', (Go.ks k').trans g (k'.grows F.base.grown), (k'.grows F.base.grown).trans gr⟩

theorem X.ret {e : Expr} {d : V} {pos : Pos} {P : Out → Prop} (h : Ev C l sc ρ e (d, false)) (hp : P (.ret d)) : X C l sc ρ (.Return (some e) pos) P := by
  intro A s s₀ env O₀ own E R hsc F
  refine wpAny_Return_some (h R hsc F.er fun v s' k' r => ⟨_, hp, v, own, rfl, (F.ks k').sub (fun _ _ h => nomatch h), Go.ks k', k'.grows F.base.grown, VR.sub (fun a ha => List.mem_append_right _ ha) r⟩)
theorem Xs.ret {e : Expr} {d : V} {pos : Pos} {rest : List Stmt} {P : Out → Prop} (h : Ev C l sc ρ e (d, false)) (hp : P (.ret d)) : Xs C l sc ρ (.Return (some e) pos :: rest) P :=
  Xs.cons ((X.ret (P := fun o => match o with | .next ρ' => Xs C l sc ρ' rest P | o => P o) h hp))
/-- an own list is handed back -/
theorem Xs.retOwn {x : Str} {xs : V} {p pos : Pos} {rest : List Stmt} {P : Out → Prop} (hx : ρ.lookup x = some (xs, true)) (hp : P (.ret xs)) (hd : (x == ("__debug__" : Str)) = false := by decide +kernel) (hc : (x == ("__classdict__" : Str)) = false := by decide +kernel) : Xs C l sc ρ (.Return (some (.Name x p)) pos :: rest) P :=
  Xs.freeze (Xs.ret (Ev.name (by rw [List.lookup_cons, beq_self_eq_true]) hd hc) hp) hx

theorem X.if {t : Expr} {b : Bool} {body orelse : List Stmt} {pos : Pos} {P : Out → Prop} (h : Tr C l sc ρ t b) (h₁ : b = true → Xs C l sc ρ body P) (h₂ : b = false → Xs C l sc ρ orelse P) : X C l sc ρ (.If t body orelse pos) P := by
  intro A s s₀ env O₀ own E R hsc F
  refine wpAny_If (h R hsc F.er fun s' k' => ?_)
  have gr := k'.grows F.base.grown
  cases b with
  | true => rw [if_pos rfl]; exact wpAny_mono (h₁ rfl R hsc (F.ks k')) (fun f s'' ⟨o, a, c⟩ => ⟨o, a, c.behind (Go.ks k') gr⟩) fun _ _ e => e
  | false => rw [if_neg Bool.false_ne_true]; exact wpAny_mono (h₂ rfl R hsc (F.ks k')) (fun f s'' ⟨o, a, c⟩ => ⟨o, a, c.behind (Go.ks k') gr⟩) fun _ _ e => e
noncomputable abbrev andThen (C : Ctx) (l : Nat) (sc : Scope) (rest : List Stmt) (P : Out → Prop) : Out → Prop := fun o => match o with | .next ρ' => Xs C l sc ρ' rest P | o => P o
theorem Xs.if {t : Expr} {b : Bool} {body orelse rest : List Stmt} {pos : Pos} {P : Out → Prop} (h : Tr C l sc ρ t b) (h₁ : b = true → Xs C l sc ρ body (andThen C l sc rest P)) (h₂ : b = false → Xs C l sc ρ orelse (andThen C l sc rest P)) : Xs C l sc ρ (.If t body orelse pos :: rest) P := Xs.cons (X.if h h₁ h₂)
theorem Xs.for {tgt iter : Expr} {body orelse rest : List Stmt} {pos : Pos} {ds : List V} {P : Out → Prop} (hi : EvW C l sc ρ tgt iter ds) (hf : ForP C l sc tgt body orelse (andThen C l sc rest P) ds ρ)
    (hfo : ∀ env x, foldedSetIterable iter env x = pure x := by intro _ _; rfl) : Xs C l sc ρ (.For tgt iter body orelse pos :: rest) P := Xs.cons (X.for hi hf hfo)
theorem Xs.brk {pos : Pos} {rest : List Stmt} {P : Out → Prop} (hp : P (.brk ρ)) : Xs C l sc ρ (.Break pos :: rest) P :=
  Xs.cons fun _ _ _ _ _ _ _ _ _ F => wpAny_Break ⟨.brk ρ, hp, rfl, _, F, Go.refl, Grows.refl _⟩
/-- x op= e, a value of its own -/
theorem Xs.aug {x : Str} {p pos : Pos} {op : Operator} {e : Expr} {d₀ d₁ d : V} {rest : List Stmt} {P : Out → Prop} (hl : ρ.lookup x = some (d₀, false)) (h : Ev C l sc ρ e (d₁, false)) (ho : Op2 C l (inplaceOp op) (d₀, false) (d₁, false) (d, false)) (k : Xs C l sc ((x, (d, false)) :: ρ) rest P)
    (hx : HasPlace sc x := by decide +kernel) : Xs C l sc ρ (.AugAssign (.Name x p) op e pos :: rest) P := by
  refine Xs.cons ?_
  intro A s s₀ env O₀ own E R hsc F
  refine wpAny_AugAssign_Name ?_
  obtain ⟨v, hv, r⟩ := F.er.vars x _ hl
  have key : ∀ {Q : Value → Shared → Prop}, Q v s → wpAny (model C.prog C.w) A (loadName env x) Q E s := fun hq => by
    rcases hv with ⟨h1, m, h2, h3⟩ | ⟨h1, c, h2, h3⟩
    · exact wpAny_loadName_local F.kind h1 h2 h3 hq
    · rcases h1 with h1 | h1
      · exact wpAny_loadName_cell F.kind h1 h2 h3 hq
      · rcases hx.kind hsc with h | h <;> rw [h] at h1 <;> cases h1
  refine key (h R hsc F.er fun v₁ s₁ k₁ r₁ => ?_)
  have F₁ := F.ks k₁
  refine ho R F₁.base F₁.listsAll (VVR.ks F.base r k₁) r₁ fun w s₂ k₂ r₂ => ?_
  have kk := k₁.trans k₂
  refine (F.ks kk).store (hx.kind hsc) r₂ fun s'' F'' g gr => ?_
  exact ⟨.next _, k, rfl, _, F'', (Go.ks kk).trans g (kk.grows F.base.grown), (kk.grows F.base.grown).trans gr⟩

theorem FR.ownAt {s₀ s : Shared} {env : Env} {O₀ : List Addr} {own : List (Str × Addr)} {x : Str} {xs : List V} (F : FR C s₀ env O₀ own ρ s) (hl : ρ.lookup x = some (.list xs, true)) :
    ∃ a items, (x, a) ∈ own ∧ PlL s.heap a items ∧ VRs s.heap (ownO own O₀) xs items.toList ∧ Loads env s.heap x (.ref a) := by
  obtain ⟨m, cm, X, hv⟩ := F.call
  obtain ⟨v, h1, h2, ys, a, items, e1, rfl, h4, h5, h6⟩ := hv x _ hl
  cases e1
  obtain ⟨b, hb, e⟩ := h2 rfl
  cases e
  refine ⟨a, items, hb, h5, h6, ?_⟩
  rcases h1 with ⟨hk, hm⟩ | ⟨hk, hm⟩
  · exact .inl ⟨hk, m, X.toInCall.ns, hm⟩
  · obtain ⟨c, hc⟩ := Option.isSome_iff_exists.mp (F.cells x hk)
    exact .inr ⟨.inl hk, c, hc, hm ▸ X.cell x c hc⟩

/-- the frame's own list is changed in its place -/
theorem FR.mutate {s₀ s : Shared} {env : Env} {O₀ : List Addr} {own : List (Str × Addr)} {x : Str} {xs ys : List V} {a : Addr} {items items' : Array Value} {h' : Heap} (F : FR C s₀ env O₀ own ρ s) (hl : ρ.lookup x = some (.list xs, true)) (ha : (x, a) ∈ own)
    (hp : PlL s.heap a items) (hs : Heap.SameBut a s.heap h') (hp' : PlL h' a items') (hv : VRs s.heap (ownO own O₀) ys items'.toList) :
    FR C s₀ env O₀ own ((x, (.list ys, true)) :: ρ) { s with heap := h' } ∧ Go C env own own s { s with heap := h' } ∧ Grows s { s with heap := h' } := by
  have haO : a ∈ ownO own O₀ := List.mem_append_left _ (List.mem_map.mpr ⟨_, ha, rfl⟩)
  obtain ⟨m, cm, X, hvs⟩ := F.call
  have hn₀ := F.ownNew _ ha
  dsimp only at hn₀
  have kp : ∀ b o, s₀.heap.get? b = some o → h'.get? b = some o := fun b o e => hs.extBut b o (fun q => by rw [q, hn₀] at e; cases e) (X.toInCall.keep b o e)
  have g : GrownT C.T h' := fun t ht => (F.base.grown t ht).at fun b o vs e hd _ => hs.extBut b o (fun q => by
    obtain ⟨o', n, e', d'⟩ := hp
    rw [← q, e] at e'; cases e'; rw [d'] at hd; cases hd) e
  have upL : ∀ b its, b ≠ a → PlL s.heap b its → PlL h' b its := fun b its hb y => plL_at y fun o e => hs.extBut b o hb e
  have upT : ∀ b its, IsTup s.heap b its → IsTup h' b its := fun b its y => isTup_at y fun o e => hs.extBut b o (fun q => list_not_tup hp.isList (q ▸ y)) e
  have up : ∀ {d : V} {v : Value}, VR s.heap (ownO own O₀) d v → VR h' (ownO own O₀) d v := fun y => VR.tr (fun b its hb z => ⟨hb, upL b its (fun q => hb (q ▸ haO)) z⟩) upT y
  have ups : ∀ {d : List V} {v : List Value}, VRs s.heap (ownO own O₀) d v → VRs h' (ownO own O₀) d v := fun y => VRs.tr (fun b its hb z => ⟨hb, upL b its (fun q => hb (q ▸ haO)) z⟩) upT y
  have hns : ∀ m, s.heap.Ns env.locals m → h'.Ns env.locals m := fun m y => y.at' fun o e => hs.extBut _ o (fun q => list_not_ns hp.isList (q ▸ y)) e
  refine ⟨⟨⟨fun b o e => kp b o (F.under b o e), g⟩, F.kind, F.glob, F.blt, F.cells, F.notab, F.under, F.outer, fun b hb => ?_, F.ownNew, F.apart, m, cm, ⟨⟨?_, hns m X.toInCall.ns, kp, X.toInCall.fresh⟩,
      fun n c hc => isCell_at (X.cell n c hc) fun o e => hs.extBut _ o (fun q => list_not_cell hp.isList (q ▸ X.cell n c hc)) e, X.apart, X.above⟩, fun y d hy => ?_⟩, ⟨fun b o _ _ _ h4 e => hs.extBut b o (h4 _ ha) e, fun p hp => .inl ⟨p, hp, rfl⟩⟩, ?_⟩
  · by_cases hba : b = a
    · exact ⟨items', hba ▸ hp'⟩
    · obtain ⟨its, y⟩ := F.lists b hb
      exact ⟨its, upL b its hba y⟩
  · obtain ⟨h₁, tk₁, rfl⟩ := X.toInCall.same
    exact ⟨h', _, rfl⟩
  · rw [List.lookup_cons] at hy
    by_cases hyx : y = x
    · subst hyx
      rw [beq_self_eq_true] at hy
      cases hy
      obtain ⟨v, h1, h2, _⟩ := hvs y _ hl
      obtain ⟨b, hb, rfl⟩ := h2 rfl
      have : b = a := by
        rcases own_ne F.apart ha hb with ⟨_, e⟩ | ⟨e, _⟩
        · exact e.symm
        · exact absurd rfl e
      subst this
      exact ⟨_, h1, fun _ => ⟨b, ha, rfl⟩, ys, b, items', rfl, rfl, haO, hp', ups hv⟩
    · rw [beq_eq_false_iff_ne.mpr hyx] at hy
      obtain ⟨v, h1, h2, h3⟩ := hvs y d hy
      refine ⟨v, h1, h2, ?_⟩
      obtain ⟨e1, e2⟩ := d
      cases e2 with
      | false => exact up h3
      | true =>
        obtain ⟨zs, b, its, g1, g2, g3, g4, g5⟩ := h3
        obtain ⟨b', hb', eb'⟩ := h2 rfl
        rw [g2] at eb'; cases eb'
        have hba : b ≠ a := by
          rcases own_ne F.apart ha hb' with ⟨e, _⟩ | ⟨_, e⟩
          · exact absurd e.symm hyx
          · exact e.symm
        exact ⟨zs, b, its, g1, g2, g3, upL b its hba g4, ups g5⟩
  · obtain ⟨o, n, e, _⟩ := hp'
    exact sameBut_grows hs e

/-- x.append(e) -/
theorem Xs.append {x : Str} {p apos cpos pos : Pos} {e : Expr} {xs : List V} {d : V} {rest : List Stmt} {P : Out → Prop} (hl : ρ.lookup x = some (.list xs, true)) (h : Ev C l sc ρ e (d, false)) (k : Xs C l sc ((x, (.list (xs ++ [d]), true)) :: ρ) rest P)
    (hx : HasPlace sc x := by decide +kernel) (hd : (x == ("__debug__" : Str)) = false := by decide +kernel)
    {pl : Env → Sem Bool} (hsz : xs.length ≤ sizeLine := by size_fits)
    (hi : ∀ env : Env, env.scope = sc → swapsWith (.Call (.Attribute (.Name x p) "append" apos) [e] [] cpos) none pos.line env = pure false := by intro _ _; rfl)
    (hn : ∀ env, starEach [e] env = [(false, eval e env)] := by intro _; rfl)
    (he : ∀ env, eval (.Call (.Attribute (.Name x p) "append" apos) [e] [] cpos) env = (do
      let ov ← eval (.Name x p) env
      standAt apos.atName
      let (f, first) ← holding [ov] (getMethod ov "append" (pl env))
      callWith cpos f first (backTo cpos (starEach [e] env)) []) := by intro _; rfl) : Xs C l sc ρ (.Expr (.Call (.Attribute (.Name x p) "append" apos) [e] [] cpos) pos :: rest) P := by
  refine Xs.cons ?_
  intro A s s₀ env O₀ own E R hsc F
  refine wpAny_Expr ?_ (by unfold interactive; rw [F.kind]; rfl) (hi env hsc)
  obtain ⟨a, items, ha, hp, hv, hld⟩ := F.ownAt hl
  refine MethodCall_ (pl := pl env) (wpAny_Name ?_ hd) (he env)
  have key : ∀ {Q : Value → Shared → Prop}, Q (.ref a) s → wpAny (model C.prog C.w) A (loadName env x) Q E s := fun hq => by
    rcases hld with ⟨h1, m, h2, h3⟩ | ⟨h1, c, h2, h3⟩
    · exact wpAny_loadName_local F.kind h1 h2 h3 hq
    · rcases h1 with h1 | h1
      · exact wpAny_loadName_cell F.kind h1 h2 h3 hq
      · rcases hx.kind hsc with h | h <;> rw [h] at h1 <;> cases h1
  refine key ?_
  refine getMethod_builtin (T := "list") (id := "list.append") (by exact hp.isList.typeIs) PySem.F.plainAttrs_list PySem.F.slot_list_append PySem.F.type_list_append (fun b eb => by
    cases eb
    obtain ⟨o, n, e1, e2⟩ := hp
    exact ⟨o, e1, by rw [e2]⟩) ?_
  refine callWith_method1 (first := [.ref a]) ?_ (hn env)
  rw [hn]
  refine spliced_cons ?_
  show wpAny _ _ (eval e env) _ _ _
  refine h R hsc F.er fun v s₁ k₁ r₁ => spliced_nil ?_
  have F₁ := F.ks k₁
  have hp₁ := plL_at hp fun o e => k₁.keep a o (nt_list F.base.grown hp.isList) e
  have hv₁ := hv.ks F.base k₁
  refine wpAny_list_append_plain hp₁.plain (fun h' hp' hs' => ?_) (by have := hv.length; simp only [Array.length_toList] at this; omega)
  obtain ⟨F', g, gr⟩ := F₁.mutate (ys := xs ++ [d]) hl ha hp₁ hs' (PlL.of hp') (by rw [Array.toList_push]; exact hv₁.append (VRs.one r₁))
  exact ⟨.next _, k, rfl, own, F', (Go.ks k₁).trans g (k₁.grows F.base.grown), (k₁.grows F.base.grown).trans gr⟩

theorem inplace_lists {M : Model} {A : Around} {E : Value → Shared → Prop} {s : Shared} {a b : Value} {Q : Value → Shared → Prop} (ha : s.TypeIs a "list") (hb : s.TypeIs b "list") (hc : wpAny M A (call (.builtin "list.__iadd__") [a, b]) Q E s) : wpAny M A (inplaceOp .Add a b) Q E s := by
  unfold inplaceOp
  refine wpAny_holding ?_
  have hl : typeLookup (.type "list") (dunderI "add") = pure (some (.builtin "list.__iadd__")) := PySem.F.slot_list_iadd.lookup
  have hq : isSeqSlot (some (.builtin "list.__iadd__")) = true := by decide +kernel
  have hfi : fillsInplaceSlot (.type "list") "add" (Operator.Add == .Add) = pure false := by
    unfold fillsInplaceSlot
    show (typeLookup (.type "list") (dunderI "add") >>= fun fi => (pure (fi.isSome && !isSeqSlot fi) : Sem Bool)) = pure false
    rw [hl]
    show (pure ((some (Value.builtin "list.__iadd__")).isSome && !isSeqSlot (some (.builtin "list.__iadd__"))) : Sem Bool) = pure false
    rw [hq]; rfl
  have hsi : seqSlot? (.type "list") (dunderI "add") = pure (some (.builtin "list.__iadd__")) := PySem.seqSlot_of hl hq
  refine wpAny_bind (wpAny_typeOf ha (wpAny_bind (wpAny_of_eq hfi ?_)))
  show wpAny M A (if false = true then _ else _) Q E s
  rw [if_neg Bool.false_ne_true]
  refine wpAny_bind (wpAny_binaryOp1_none (nm := "add") ha hb noFill_list_add ?_)
  refine wpAny_bind (wpAny_of_eq hsi ?_)
  exact wpAny_bind (wpAny_rule hc)

/-- x += e for an own list -/
theorem Xs.extend {x : Str} {p pos : Pos} {e : Expr} {xs ys : List V} {rest : List Stmt} {P : Out → Prop} (hl : ρ.lookup x = some (.list xs, true)) (h : Ev C l sc ρ e (.list ys, false)) (k : Xs C l sc ((x, (.list (xs ++ ys), true)) :: ρ) rest P)
    (hx : HasPlace sc x := by decide +kernel) (hsz : xs.length + ys.length ≤ sizeLine := by size_fits) : Xs C l sc ρ (.AugAssign (.Name x p) .Add e pos :: rest) P := by
  refine Xs.cons ?_
  intro A s s₀ env O₀ own E R hsc F
  refine wpAny_AugAssign_Name ?_
  obtain ⟨a, items, ha, hp, hv, hld⟩ := F.ownAt hl
  have key : ∀ {Q : Value → Shared → Prop}, Q (.ref a) s → wpAny (model C.prog C.w) A (loadName env x) Q E s := fun hq => by
    rcases hld with ⟨h1, m, h2, h3⟩ | ⟨h1, c, h2, h3⟩
    · exact wpAny_loadName_local F.kind h1 h2 h3 hq
    · rcases h1 with h1 | h1
      · exact wpAny_loadName_cell F.kind h1 h2 h3 hq
      · rcases hx.kind hsc with h | h <;> rw [h] at h1 <;> cases h1
  refine key (h R hsc F.er fun v s₁ k₁ r₁ => ?_)
  have r₂ : VR s₁.heap (ownO own O₀) (.list ys) v := r₁
  simp only [VR] at r₂
  obtain ⟨b, its2, rfl, hb, hp2, hv2⟩ := r₂
  have F₁ := F.ks k₁
  have hp₁ := plL_at hp fun o e => k₁.keep a o (nt_list F.base.grown hp.isList) e
  have hv₁ := hv.ks F.base k₁
  have e1 := hv.length; have e2 := hv2.length
  simp only [Array.length_toList] at e1 e2
  have hsz' : items.size + its2.size ≤ sizeLine := by omega
  obtain ⟨_, n, ho, rfl⟩ := id hp₁
  obtain ⟨_, n2, ho2, rfl⟩ := id hp2
  refine inplace_lists ⟨_, ho, rfl⟩ ⟨_, ho2, rfl⟩ ?_
  refine call_meets PySem.F.slot_list_iadd ⟨_, ho, rfl⟩ PySem.F.entry_list_iadd (PySem.F.args_list_iadd_2 _ _) (AutoSeq1.list___iadd___list_list_0 a items n b its2 n2 (extend_door hsz') (Nat.le_trans (Nat.le_add_right _ _) hsz')) ⟨ho, ho2, ?_⟩
  have ho' : (s₁.heap.update a (Obj.mapSeq fun x => x ++ its2)).get? a = some { cls := .type "list", data := .seq (items ++ its2) (if (items ++ its2).size == items.size then n else n + 1) } := by
    rw [Heap.get?_update_self _ ho (by rw [mapSeq_app]; rfl), mapSeq_app]
  obtain ⟨F', g, gr⟩ := F₁.mutate (ys := xs ++ ys) (items' := items ++ its2) hl ha hp₁ (Heap.SameBut.update ..) ⟨_, _, ho', rfl⟩ (by rw [Array.toList_append]; exact hv₁.append hv2)
  have hl' : ((x, ((V.list (xs ++ ys), true) : VV)) :: ρ).lookup x = some (.list (xs ++ ys), true) := by rw [List.lookup_cons, beq_self_eq_true]
  obtain ⟨m, cm, X, hvs⟩ := F'.call
  obtain ⟨w, st, how, hvr⟩ := hvs x _ hl'
  -- storing the same list in the same name
  refine wpAny_stored (C := C) X F'.kind ((hx.kind hsc).imp id fun e => ⟨e, F.cells x e⟩) fun m' cm' s'' sd hst hoth => ?_
  have F'' : FR C s₀ env O₀ own ((x, (.list (xs ++ ys), true)) :: ρ) s'' := by
    refine ⟨sd.base X F'.base F.under, F.kind, F.glob, F.blt, F.cells, F.notab, F.under, F.outer, fun b hb => ?_, F.ownNew, F.apart, m', cm', sd.call, fun y d hy => ?_⟩
    · obtain ⟨its, z⟩ := F'.lists b hb
      exact ⟨its, sd.list X z⟩
    · obtain ⟨v, h1, h2, h3⟩ := hvs y d hy
      by_cases hyx : y = x
      · subst hyx
        rw [hl'] at hy
        cases hy
        obtain ⟨b', hb', rfl⟩ := h2 rfl
        have : b' = a := by
          rcases own_ne F.apart ha hb' with ⟨_, e⟩ | ⟨e, _⟩
          · exact e.symm
          · exact absurd rfl e
        subst this
        exact ⟨_, hst, h2, sd.vvr X h3⟩
      · exact ⟨v, hoth y v hyx h1, h2, sd.vvr X h3⟩
  have gS : Go C env own own { s₁ with heap := s₁.heap.update a (Obj.mapSeq fun x => x ++ its2) } s'' := ⟨fun b o _ h2 h3 _ e => sd.keep b o h2 h3 e, fun p hp => .inl ⟨p, hp, rfl⟩⟩
  refine ⟨.next _, k, rfl, own, F'', ((Go.ks k₁).trans g (k₁.grows F.base.grown)).trans gS ((k₁.grows F.base.grown).trans gr), ((k₁.grows F.base.grown).trans gr).trans sd.grows⟩
end
end

section
section
variable (C : Ctx) (l : Nat)
noncomputable def WhileP (sc : Scope) (test : Expr) (body orelse : List Stmt) (P : Out → Prop) : Nat → Rho → Prop
  | 0, _ => False
  | n + 1, ρ => ∃ b, Tr C l sc ρ test b ∧ (b = true → Xs C l sc ρ body fun o => match o with
      | .next ρ' => WhileP sc test body orelse P n ρ'
      | .cont ρ' => WhileP sc test body orelse P n ρ'
      | .brk ρ' => P (.next ρ')
      | .ret d => P (.ret d)) ∧ (b = false → Xs C l sc ρ orelse P)
end

section
variable {C : Ctx} {l : Nat} {sc : Scope} {ρ : Rho}

theorem X.while {test : Expr} {body orelse : List Stmt} {pos : Pos} {P : Out → Prop} {n : Nat} (hw : WhileP C l sc test body orelse P n ρ) : X C l sc ρ (.While test body orelse pos) P := by
  intro A s s₀ env O₀ own E R hs F
  refine wpAny_While (codeAny_whileLoop (fun n s' => ∃ own' ρ', FR C s₀ env O₀ own' ρ' s' ∧ WhileP C l sc test body orelse P n ρ' ∧ Go C env own own' s s' ∧ Grows s s') ?_ n ⟨own, ρ, F, hw, Go.refl, Grows.refl _⟩)
  rintro n s' ⟨own', ρ', F', hw', g', gr'⟩
  cases n with
  | zero => exact hw'.elim
  | succ n =>
    obtain ⟨b, ht, h1, h2⟩ := hw'
    refine ht R hs F'.er fun s'' k => ?_
    have F'' := F'.ks k
    have g'' : Go C env own own' s s'' := g'.trans (Go.ks k) gr'
    have gr'' : Grows s s'' := gr'.trans (k.grows F'.base.grown)
    cases b with
    | true =>
      rw [if_pos rfl]
      refine wpAny_mono (h1 rfl R hs F'') (fun f s₃ ⟨o, a, c⟩ => ?_) fun _ _ e => e
      cases o with
      | next ρ₂ => obtain ⟨rfl, own₂, F₂, g₂, gr₂⟩ := c; exact ⟨n, Nat.lt_succ_self _, own₂, ρ₂, F₂, a, g''.trans g₂ gr'', gr''.trans gr₂⟩
      | cont ρ₂ => obtain ⟨rfl, own₂, F₂, g₂, gr₂⟩ := c; exact ⟨n, Nat.lt_succ_self _, own₂, ρ₂, F₂, a, g''.trans g₂ gr'', gr''.trans gr₂⟩
      | brk ρ₂ => obtain ⟨rfl, own₂, F₂, g₂, gr₂⟩ := c; exact ⟨_, a, rfl, own₂, F₂, g''.trans g₂ gr'', gr''.trans gr₂⟩
      | ret d' => obtain ⟨v', own₂, rfl, F₂, g₂, gr₂, r⟩ := c; exact ⟨_, a, v', own₂, rfl, F₂, g''.trans g₂ gr'', gr''.trans gr₂, r⟩
    | false =>
      rw [if_neg Bool.false_ne_true]
      exact wpAny_mono (h2 rfl R hs F'') (fun f s₃ ⟨o, a, c⟩ => ⟨o, a, c.behind g'' gr''⟩) fun _ _ e => e
theorem Xs.while {test : Expr} {body orelse rest : List Stmt} {pos : Pos} {P : Out → Prop} {n : Nat} (hw : WhileP C l sc test body orelse (andThen C l sc rest P) n ρ) : Xs C l sc ρ (.While test body orelse pos :: rest) P := Xs.cons (X.while hw)

theorem get?_new (h : Heap) : h.get? h.objs.size = none := by
  cases e : h.get? h.objs.size with
  | none => rfl
  | some o => exact absurd (Heap.lt_size e) (Nat.lt_irrefl _)
/-- sources of a loop -/
theorem EvI.list {e : Expr} {xs : List V} (h : Ev C l sc ρ e (.list xs, false)) : EvI C l sc ρ e xs := by
  intro A s env O Q E R hs er hQ
  refine h R hs er fun v s₁ k r => ?_
  have r₁ : VR s₁.heap O (.list xs) v := r
  simp only [VR] at r₁
  obtain ⟨a, items, rfl, ha, hp, hv⟩ := r₁
  refine wpAny_pyIter_list hp.isList ?_
  have hlt : a < s₁.heap.objs.size := by obtain ⟨o, n, e, _⟩ := hp; exact Heap.lt_size e
  have hne : a ≠ s₁.heap.objs.size := Nat.ne_of_lt hlt
  have k₂ : KS C.T s₁ { s₁ with heap := s₁.heap.push { cls := .type "list_iterator", data := .fields #[.ref a, .int 0 0] } } := KS.push _ _ _
  have hp₂ := plL_at hp fun o e => k₂.keep a o (nt_list (er.ks k).base.grown hp.isList) e
  refine hQ s₁.heap.objs.size [s₁.heap.objs.size, a] [s₁.heap.objs.size] items.size _ _ xs items.toList _ (k.trans k₂) ⟨Walks.list R.handled s₁.heap.objs.size a hne items, by simpa using hv.length, fun i h st b hb => ?_, fun i v h O' hvs hP hi => ?_⟩
    ⟨⟨_, Heap.get?_push_size _ rfl, rfl, rfl⟩, hp₂.isList⟩ ⟨fun b hb => ?_, fun b hb => ?_⟩ (hv.ks (er.ks k).base k₂)
  · simp at hb; subst hb
    obtain ⟨o, e, hc, d⟩ := st.1
    exact Itr.mk e hc d
  · obtain ⟨d, hd, hv'⟩ := VRs.get' hvs (i := i) (v := v) (by simpa using hP)
    exact ⟨d, hd, hv'⟩
  · simp at hb; subst hb
    exact k.grows er.base.grown _ (get?_new _)
  · simp at hb
    rcases hb with rfl | rfl
    · exact ⟨⟨_, Heap.get?_push_size _ rfl⟩, .inl (k.grows er.base.grown _ (get?_new _))⟩
    · obtain ⟨o, n, e, _⟩ := id hp₂
      exact ⟨⟨o, e⟩, .inr ⟨ha, .inl ⟨items, hp₂⟩⟩⟩

theorem EvI.tuple {e : Expr} {xs : List V} (h : Ev C l sc ρ e (.tuple xs, false)) : EvI C l sc ρ e xs := by
  intro A s env O Q E R hs er hQ
  refine h R hs er fun v s₁ k r => ?_
  have r₁ : VR s₁.heap O (.tuple xs) v := r
  simp only [VR] at r₁
  obtain ⟨a, items, rfl, hp, hv⟩ := r₁
  refine iter_tuple hp ?_
  have hlt : a < s₁.heap.objs.size := by obtain ⟨o, e, _⟩ := hp; exact Heap.lt_size e
  have hne : a ≠ s₁.heap.objs.size := Nat.ne_of_lt hlt
  have k₂ : KS C.T s₁ { s₁ with heap := s₁.heap.push { cls := .type "tuple_iterator", data := .fields #[.ref a, .int 0 0] } } := KS.push _ _ _
  have hp₂ := isTup_at hp fun o e => k₂.keep a o (nt_tup (er.ks k).base.grown hp) e
  refine hQ s₁.heap.objs.size [s₁.heap.objs.size, a] [s₁.heap.objs.size] items.size _ _ xs items.toList _ (k.trans k₂) ⟨Walks.tuple R.handled s₁.heap.objs.size a hne items, by simpa using hv.length, fun i h st b hb => ?_, fun i v h O' hvs hP hi => ?_⟩
    ⟨⟨_, Heap.get?_push_size _ rfl, rfl, rfl⟩, hp₂⟩ ⟨fun b hb => ?_, fun b hb => ?_⟩ (hv.ks (er.ks k).base k₂)
  · simp at hb; subst hb
    obtain ⟨o, e, hc, d⟩ := st.1
    exact Itr.mk e hc d
  · obtain ⟨d, hd, hv'⟩ := VRs.get' hvs (i := i) (v := v) (by simpa using hP)
    exact ⟨d, hd, hv'⟩
  · simp at hb; subst hb
    exact k.grows er.base.grown _ (get?_new _)
  · simp at hb
    rcases hb with rfl | rfl
    · exact ⟨⟨_, Heap.get?_push_size _ rfl⟩, .inl (k.grows er.base.grown _ (get?_new _))⟩
    · obtain ⟨o, e, _⟩ := id hp₂
      refine ⟨⟨o, e⟩, ?_⟩
      by_cases hO : b ∈ O
      · obtain ⟨its, y⟩ := (er.ks k).lists b hO
        exact (list_not_tup y.isList hp).elim
      · exact .inr ⟨hO, .inr ⟨items, hp₂⟩⟩

/-- the signs of a text -/
noncomputable def signsV (x : Str) : List V := x.cps.toList.map fun c => .str ⟨#[c]⟩
theorem EvI.str {e : Expr} {x : Str} (h : Ev C l sc ρ e (.str x, false)) : EvI C l sc ρ e (signsV x) := by
  intro A s env O Q E R hs er hQ
  refine h R hs er fun v s₁ k r => ?_
  obtain ⟨t, rfl⟩ : ∃ t, v = .str x t := by simpa only [VVR, VR] using r
  have fin : ∀ (cls : String) (St : Nat → Heap → Prop), Walks C.prog C.w A s₁.heap.objs.size [s₁.heap.objs.size] [s₁.heap.objs.size] x.cps.size (SignAt x) St →
      (∀ i h, St i h → h.IsStrIter s₁.heap.objs.size cls x t i) → St 0 (s₁.heap.push { cls := .type cls, data := .fields #[.str x t, .int 0 0] }) →
      Q (.ref s₁.heap.objs.size) { s₁ with heap := s₁.heap.push { cls := .type cls, data := .fields #[.str x t, .int 0 0] } } := fun cls St W hst h0 => by
    have k₂ : KS C.T s₁ { s₁ with heap := s₁.heap.push { cls := .type cls, data := .fields #[.str x t, .int 0 0] } } := KS.push _ _ _
    refine hQ s₁.heap.objs.size [s₁.heap.objs.size] [s₁.heap.objs.size] x.cps.size _ _ [] [] _ (k.trans k₂) ⟨W, by simp [signsV], fun i h st b hb => ?_, fun i v h O' hvs hP hi => ?_⟩ h0 ⟨fun b hb => ?_, fun b hb => ?_⟩ VRs.nil
    · simp at hb; subst hb
      obtain ⟨o, e, hc, d⟩ := hst i h st
      exact Itr.mk e hc d
    · obtain ⟨c, u, hc, rfl⟩ := hP
      refine ⟨.str ⟨#[c]⟩, ?_, ⟨u, rfl⟩⟩
      simp only [signsV, List.getElem?_map]
      rw [Array.getElem?_toList, hc]; rfl
    · simp at hb; subst hb
      exact k.grows er.base.grown _ (get?_new _)
    · simp at hb; subst hb
      exact ⟨⟨_, Heap.get?_push_size _ rfl⟩, .inl (k.grows er.base.grown _ (get?_new _))⟩
  cases ha : x.cps.all (· < 128)
  · exact wpAny_pyIter_wide ha (fin "str_iterator" _ (Walks.strWide R.handled _ x t) (fun _ _ st => st) ⟨_, Heap.get?_push_size _ rfl, rfl, rfl⟩)
  · exact wpAny_pyIter_ascii ha (fin "str_ascii_iterator" _ (Walks.strAscii R.handled _ x t) (fun _ _ st => st) ⟨_, Heap.get?_push_size _ rfl, rfl, rfl⟩)

noncomputable def intsV (lo : Int) (n : Nat) : List V := (List.range n).map fun (i : Nat) => V.int (lo + (i : Int))

theorem range_it {A : Around} {s s₁ : Shared} {env : Env} {O : List Addr} {Q : Value → Shared → Prop} {E : Value → Shared → Prop} (R : Room l A) (er : ER C env ρ O s) (k : KS C.T s s₁) {r : Addr} {lo hi : Int} {t u v : Tok} (hr : IsRange s₁.heap r lo hi 1 t u v)
    (h1 : -(2 ^ 62) ≤ lo) (h2 : lo < 2 ^ 62) (h3 : -(2 ^ 62) ≤ hi) (h4 : hi < 2 ^ 62)
    (hQ : ∀ I fp wr n P St xs vs s', KS C.T s s' → It C A I fp wr n P St (intsV lo (hi - lo).toNat) xs vs → St 0 s'.heap → Foot O s s' fp wr → VRs s'.heap O xs vs → Q (.ref I) s') :
    wpAny (model C.prog C.w) A (pyIter (.ref r)) Q E s₁ := by
  refine wpAny_pyIter_range hr (small_one h1 h2 h3 h4) ?_
  have hsz : Builtin.Range.rangeSize lo hi 1 = ((hi - lo).toNat : Int) := by rw [rangeSize_one]; split <;> omega
  have k₂ : KS C.T s₁ { s₁ with heap := s₁.heap.push { cls := .type "range_iterator", data := .fields #[rawInt lo, rawInt (Builtin.Range.rangeSize lo hi 1), rawInt 1] } } := KS.push _ _ _
  refine hQ s₁.heap.objs.size [s₁.heap.objs.size] [s₁.heap.objs.size] (hi - lo).toNat _ _ [] [] _ (k.trans k₂) ⟨Walks.range R.handled _ lo 1 (hi - lo).toNat, by simp [intsV], fun i h st b hb => ?_, fun i v h O' hvs hP hi' => ?_⟩ ?_ ⟨fun b hb => ?_, fun b hb => ?_⟩ VRs.nil
  · simp at hb; subst hb
    exact Itr.mk st rfl rfl
  · obtain ⟨t, rfl⟩ := hP
    refine ⟨.int (lo + (i : Int)), ?_, ⟨t, by simp⟩⟩
    simp [intsV, hi']
  · have e1 : (lo + ((0 : Nat) : Int) * 1) = lo := by simp
    have e2 : (((hi - lo).toNat : Int) - ((0 : Nat) : Int)) = Builtin.Range.rangeSize lo hi 1 := by rw [hsz]; simp
    show IsRangeIter _ _ (lo + ((0 : Nat) : Int) * 1) (((hi - lo).toNat : Int) - ((0 : Nat) : Int)) 1
    rw [e1, e2]
    exact Heap.get?_push_size _ rfl
  · simp at hb; subst hb
    exact k.grows er.base.grown _ (get?_new _)
  · simp at hb; subst hb
    exact ⟨⟨_, Heap.get?_push_size _ rfl⟩, .inl (k.grows er.base.grown _ (get?_new _))⟩

theorem EvI.range1 {f e : Expr} {pos : Pos} {n : Int} (hf : EvN C sc f (.type "range")) (ha : EvA C l sc ρ [e] [(.int n, false)]) (h3 : -(2 ^ 62) ≤ n) (h4 : n < 2 ^ 62)
    (hn : ∀ env, starEach [e] env = (false, eval e env) :: starEach [] env := by intro _; rfl)
    (he : ∀ env, eval (.Call f [e] [] pos) env = (do callWith pos (← eval f env) [] (backTo pos (starEach [e] env)) (backToKw pos (keywordEach [] env))) := by intro _; rfl) :
    EvI C l sc ρ (.Call f [e] [] pos) (intsV 0 n.toNat) := by
  intro A s env O Q E R hs er hQ
  refine Call_ (hf hs er ?_) (he env)
  refine PyProof.Rows.callWith_type1 (ha R hs er fun vs s' k r => ?_) (hn env) rfl
  obtain ⟨v, r', rfl, hv, hr'⟩ := r
  obtain ⟨t, rfl⟩ : ∃ t, v = .int n t := by simpa only [VVR, VR] using hv
  have : r' = [] := hr'
  subst this
  refine call_range_1 ?_
  have := range_it (Q := Q) (E := E) R er (k.trans (KS.push s' { cls := .type "range", data := .fields #[.int 0 s'.toks, .int n t, .int 1 (s'.toks + 1)] } (s'.toks + 1 + 1))) (IsRange.new s'.heap 0 n 1 _ _ _) (by decide) (by decide) h3 h4 (by
    rw [show (n - 0).toNat = n.toNat by rw [Int.sub_zero]]; exact hQ)
  exact this

theorem EvI.range2 {f e₁ e₂ : Expr} {pos : Pos} {lo hi : Int} (hf : EvN C sc f (.type "range")) (ha : EvA C l sc ρ [e₁, e₂] [(.int lo, false), (.int hi, false)]) (h1 : -(2 ^ 62) ≤ lo) (h2 : lo < 2 ^ 62) (h3 : -(2 ^ 62) ≤ hi) (h4 : hi < 2 ^ 62)
    (hn : ∀ env, starEach [e₁, e₂] env = (false, eval e₁ env) :: starEach [e₂] env := by intro _; rfl)
    (hp : ∀ env pos, (backTo pos (starEach [e₂] env)).any (·.1) = false := by intro _ _; rfl)
    (he : ∀ env, eval (.Call f [e₁, e₂] [] pos) env = (do callWith pos (← eval f env) [] (backTo pos (starEach [e₁, e₂] env)) (backToKw pos (keywordEach [] env))) := by intro _; rfl) :
    EvI C l sc ρ (.Call f [e₁, e₂] [] pos) (intsV lo (hi - lo).toNat) := by
  intro A s env O Q E R hs er hQ
  refine Call_ (hf hs er ?_) (he env)
  refine PyProof.Rows.callWith_type1 (ha R hs er fun vs s' k r => ?_) (hn env) (hp env pos)
  obtain ⟨v, r', rfl, hv, v2, r2, rfl, hv2, hr'⟩ := r
  obtain ⟨t, rfl⟩ : ∃ t, v = .int lo t := by simpa only [VVR, VR] using hv
  obtain ⟨t2, rfl⟩ : ∃ t, v2 = .int hi t := by simpa only [VVR, VR] using hv2
  have : r2 = [] := hr'
  subst this
  refine call_range_2 ?_
  exact range_it R er (k.trans (KS.push s' { cls := .type "range", data := .fields #[.int lo t, .int hi t2, .int 1 s'.toks] } (s'.toks + 1))) (IsRange.new s'.heap lo hi 1 _ _ _) h1 h2 h3 h4 hQ

/-- a tuple as the target, over a list and over a tuple -/
theorem letGo_fields {A : Around} {M : Model} {E : Value → Shared → Prop} {s : Shared} {Q : Unit → Shared → Prop} {ts : List Expr} {k p} {I : Addr} {v : Value} {o : Obj} {cls : String} {x y : Value} (e : s.heap.get? I = some o) (hc : o.cls = .type cls) (hd : o.data = .fields #[x, y])
    (hcl : (["enumerate", "zip", "dict_itemiterator", "dict_reverseitemiterator", "odict_iterator", "itertools.zip_longest", "itertools.pairwise"].contains cls) = false) (h : Q () s) : wpAny M A (letOwnedTupleGo (.Tuple ts k p) (.ref I) v) Q E s := by
  unfold letOwnedTupleGo
  cases v with
  | ref T =>
    refine wpAny_bind (wpAny_load e ?_)
    rw [hc, hd]
    show wpAny _ A (if (["enumerate", "zip", "dict_itemiterator", "dict_reverseitemiterator", "odict_iterator", "itertools.zip_longest", "itertools.pairwise"].contains cls && (#[x, y] : Array Value)[0]? == some (rawInt T)) = true then _ else _) Q E s
    rw [if_neg (by rw [hcl, Bool.false_and]; exact Bool.false_ne_true)]
    exact wpAny_pure h
  | _ => exact wpAny_pure h
theorem EvW.list {ts : List Expr} {k p} {e : Expr} {xs : List V} (h : Ev C l sc ρ e (.list xs, false)) : EvW C l sc ρ (.Tuple ts k p) e xs := by
  intro A s env O Q E R hs er hQ
  refine h R hs er fun v s₁ k r => ?_
  have r₁ : VR s₁.heap O (.list xs) v := r
  simp only [VR] at r₁
  obtain ⟨a, items, rfl, ha, hp, hv⟩ := r₁
  refine wpAny_pyIter_list hp.isList ?_
  have hlt : a < s₁.heap.objs.size := by obtain ⟨o, n, e, _⟩ := hp; exact Heap.lt_size e
  have hne : a ≠ s₁.heap.objs.size := Nat.ne_of_lt hlt
  have k₂ : KS C.T s₁ { s₁ with heap := s₁.heap.push { cls := .type "list_iterator", data := .fields #[.ref a, .int 0 0] } } := KS.push _ _ _
  have hp₂ := plL_at hp fun o e => k₂.keep a o (nt_list (er.ks k).base.grown hp.isList) e
  have W := Walks.list (prog := C.prog) (w := C.w) R.handled s₁.heap.objs.size a hne items
  have itr : ∀ i h, (h.IsListIter s₁.heap.objs.size a i ∧ h.IsList a items) → ∀ b ∈ [s₁.heap.objs.size], Itr h b := fun i h st b hb => by
    simp at hb; subst hb
    obtain ⟨o, e, hc, d⟩ := st.1
    exact Itr.mk e hc d
  have hlen : items.size = xs.length := by simpa using hv.length
  refine hQ _ [s₁.heap.objs.size, a] [s₁.heap.objs.size] _ xs items.toList _ (k.trans k₂) ⟨W.sub, W.frame, itr, ?_, ?_⟩
    ⟨⟨_, Heap.get?_push_size _ rfl, rfl, rfl⟩, hp₂.isList⟩ ⟨fun b hb => ?_, fun b hb => ?_⟩ (hv.ks (er.ks k).base k₂)
  · intro i d s₂ O₁ Q₁ E₁ hd st hvs _ hq
    have hi : i < items.size := by rw [hlen]; exact (List.getElem?_eq_some_iff.mp hd).1
    refine W.item i s₂ _ _ hi st fun v h' tk hP st' hk => ?_
    obtain ⟨d', hd', hv'⟩ := VRs.get' hvs (i := i) (v := v) (by simpa using hP)
    rw [hd] at hd'; cases hd'
    obtain ⟨o, e, hc, hdat⟩ := st'.1
    exact letGo_fields (s := { s₂ with heap := h', toks := tk }) e hc hdat (by decide) (hq v h' tk st' hk (hv'.walked (itr i _ st) hk))
  · intro s₂ Q₁ E₁ st hq
    exact W.done s₂ Q₁ E₁ (hlen ▸ st) hq
  · simp at hb; subst hb
    exact k.grows er.base.grown _ (get?_new _)
  · simp at hb
    rcases hb with rfl | rfl
    · exact ⟨⟨_, Heap.get?_push_size _ rfl⟩, .inl (k.grows er.base.grown _ (get?_new _))⟩
    · obtain ⟨o, n, e, _⟩ := id hp₂
      exact ⟨⟨o, e⟩, .inr ⟨ha, .inl ⟨items, hp₂⟩⟩⟩
theorem EvW.tuple {ts : List Expr} {k p} {e : Expr} {xs : List V} (h : Ev C l sc ρ e (.tuple xs, false)) : EvW C l sc ρ (.Tuple ts k p) e xs := by
  intro A s env O Q E R hs er hQ
  refine h R hs er fun v s₁ k r => ?_
  have r₁ : VR s₁.heap O (.tuple xs) v := r
  simp only [VR] at r₁
  obtain ⟨a, items, rfl, hp, hv⟩ := r₁
  refine iter_tuple hp ?_
  have hlt : a < s₁.heap.objs.size := by obtain ⟨o, e, _⟩ := hp; exact Heap.lt_size e
  have hne : a ≠ s₁.heap.objs.size := Nat.ne_of_lt hlt
  have k₂ : KS C.T s₁ { s₁ with heap := s₁.heap.push { cls := .type "tuple_iterator", data := .fields #[.ref a, .int 0 0] } } := KS.push _ _ _
  have hp₂ := isTup_at hp fun o e => k₂.keep a o (nt_tup (er.ks k).base.grown hp) e
  have W := Walks.tuple (prog := C.prog) (w := C.w) R.handled s₁.heap.objs.size a hne items
  have itr : ∀ i h, (h.IsTupleIter s₁.heap.objs.size a i ∧ h.IsTuple a items) → ∀ b ∈ [s₁.heap.objs.size], Itr h b := fun i h st b hb => by
    simp at hb; subst hb
    obtain ⟨o, e, hc, d⟩ := st.1
    exact Itr.mk e hc d
  have hlen : items.size = xs.length := by simpa using hv.length
  refine hQ _ [s₁.heap.objs.size, a] [s₁.heap.objs.size] _ xs items.toList _ (k.trans k₂) ⟨W.sub, W.frame, itr, ?_, ?_⟩
    ⟨⟨_, Heap.get?_push_size _ rfl, rfl, rfl⟩, hp₂⟩ ⟨fun b hb => ?_, fun b hb => ?_⟩ (hv.ks (er.ks k).base k₂)
  · intro i d s₂ O₁ Q₁ E₁ hd st hvs _ hq
    have hi : i < items.size := by rw [hlen]; exact (List.getElem?_eq_some_iff.mp hd).1
    refine W.item i s₂ _ _ hi st fun v h' tk hP st' hk => ?_
    obtain ⟨d', hd', hv'⟩ := VRs.get' hvs (i := i) (v := v) (by simpa using hP)
    rw [hd] at hd'; cases hd'
    obtain ⟨o, e, hc, hdat⟩ := st'.1
    exact letGo_fields (s := { s₂ with heap := h', toks := tk }) e hc hdat (by decide) (hq v h' tk st' hk (hv'.walked (itr i _ st) hk))
  · intro s₂ Q₁ E₁ st hq
    exact W.done s₂ Q₁ E₁ (hlen ▸ st) hq
  · simp at hb; subst hb
    exact k.grows er.base.grown _ (get?_new _)
  · simp at hb
    rcases hb with rfl | rfl
    · exact ⟨⟨_, Heap.get?_push_size _ rfl⟩, .inl (k.grows er.base.grown _ (get?_new _))⟩
    · obtain ⟨o, e, _⟩ := id hp₂
      refine ⟨⟨o, e⟩, ?_⟩
      by_cases hO : b ∈ O
      · obtain ⟨its, y⟩ := (er.ks k).lists b hO
        exact (list_not_tup y.isList hp).elim
      · exact .inr ⟨hO, .inr ⟨items, hp₂⟩⟩
end
end

section
/-- the scope that a comprehension's own code runs in -/
noncomputable def relabS (scope sc : Scope) : Scope :=
  { scope with names := scope.names.map fun (n, k) => if (k == .free && sc.kind == .function && sc.names.lookup n == some .cell) then (n, .cell) else (n, k) }
theorem relabel_eq (scope : Scope) (env : Env) : relabel scope env = relabS scope env.scope := rfl

/-- what a comprehension sees of the names outside -/
noncomputable def Caught (scope sc : Scope) (ρ : Rho) : Rho → Prop
  | [] => True
  | (y, d) :: r => ρ.lookup y = some d ∧ scope.names.lookup y = some .free ∧ sc.names.lookup y = some .cell ∧ Caught scope sc ρ r
theorem Caught.get {scope sc : Scope} {ρ : Rho} : ∀ {ρf : Rho}, Caught scope sc ρ ρf → ∀ y d, ρf.lookup y = some d → ρ.lookup y = some d ∧ scope.names.lookup y = some .free ∧ sc.names.lookup y = some .cell
  | (z, e) :: r, ⟨h1, h2, h3, h4⟩, y, d, h => by
    rw [List.lookup_cons] at h
    by_cases hy : y = z
    · subst hy
      rw [beq_self_eq_true] at h; cases h
      exact ⟨h1, h2, h3⟩
    · rw [beq_eq_false_iff_ne.mpr hy] at h
      exact h4.get y d h

structure CompScope (scope sc : Scope) (x : Str) : Prop where
  nocell : ∀ y ∈ scope.names, y.2 ≠ .cell
  kind : scope.kind = .function
  names : ∀ y ∈ scope.names, y.2 = .local → scope.names.lookup y.1 = some .local
  has : scope.names.lookup x = some .local
  free : ∀ y ∈ scope.names, y.2 = .free → sc.names.lookup y.1 = some .cell ∧ scope.names.lookup y.1 = some .free
  kindOut : sc.kind = .function
noncomputable def compScopeB (scope sc : Scope) (x : Str) : Bool :=
  scope.names.all (fun y => y.2 != .cell && (y.2 != .local || scope.names.lookup y.1 == some .local) && (y.2 != .free || (sc.names.lookup y.1 == some .cell && scope.names.lookup y.1 == some .free))) &&
  scope.kind == .function && sc.kind == .function && scope.names.lookup x == some .local
theorem CompScope.of {scope sc : Scope} {x : Str} (h : compScopeB scope sc x = true) : CompScope scope sc x := by
  unfold compScopeB at h
  simp only [Bool.and_eq_true, List.all_eq_true, beq_iff_eq, bne_iff_ne, Bool.or_eq_true] at h
  obtain ⟨⟨⟨h1, h2⟩, h3⟩, h4⟩ := h
  refine ⟨fun y hy => (h1 y hy).1.1, h2, fun y hy hl => ?_, h4, fun y hy hf => ?_, h3⟩
  · rcases (h1 y hy).1.2 with e | e
    · exact absurd hl e
    · exact e
  · rcases (h1 y hy).2 with e | e
    · exact absurd hf e
    · exact e

theorem closureFor_ok {scope : Scope} {env : Env} (h : ∀ y ∈ scope.names, y.2 = .free → (env.cells.lookup y.1).isSome = true) :
    ∃ cl, closureFor scope env = pure cl ∧ (∀ n c, cl.lookup n = some c → env.cells.lookup n = some c) ∧ ∀ y ∈ scope.names, y.2 = .free → cl.lookup y.1 = env.cells.lookup y.1 := by
  have key : ∀ (names : List (Str × NameKind)) (acc : List (Str × Addr)), (∀ y ∈ names, y.2 = .free → (env.cells.lookup y.1).isSome = true) → (∀ n c, acc.lookup n = some c → env.cells.lookup n = some c) →
      ∃ cl, (forIn names acc (fun (x : Str × NameKind) cs => if x.2 == .free then (do let a ← cellOf env x.1; pure (ForInStep.yield ((x.1, a) :: cs))) else pure (ForInStep.yield cs)) : Sem (List (Str × Addr))) = pure cl ∧
        (∀ n c, cl.lookup n = some c → env.cells.lookup n = some c) ∧ (∀ n, (acc.lookup n).isSome = true → (cl.lookup n).isSome = true) ∧ ∀ y ∈ names, y.2 = .free → (cl.lookup y.1).isSome = true := by
    intro names
    induction names with
    | nil => intro acc _ ha; exact ⟨acc, rfl, ha, fun _ h => h, fun y hy => nomatch hy⟩
    | cons y r ih =>
      intro acc hn ha
      obtain ⟨n, k⟩ := y
      rw [List.forIn_cons]
      by_cases hk : k = .free
      · subst hk
        obtain ⟨c, hc⟩ := Option.isSome_iff_exists.mp (hn (n, .free) List.mem_cons_self rfl)
        dsimp only at hc
        obtain ⟨cl, e, h1, h2, h3⟩ := ih ((n, c) :: acc) (fun y hy => hn y (List.mem_cons_of_mem _ hy)) (fun m d hm => by
          rw [List.lookup_cons] at hm
          by_cases hmn : m = n
          · subst hmn; rw [beq_self_eq_true] at hm; cases hm; exact hc
          · rw [beq_eq_false_iff_ne.mpr hmn] at hm; exact ha m d hm)
        refine ⟨cl, ?_, h1, fun m hm => h2 m ?_, fun y hy hf => ?_⟩
        · rw [← e]
          simp only [beq_self_eq_true, if_true, cellOf, hc]
          rfl
        · rw [List.lookup_cons]; cases m == n <;> simp [hm]
        · rcases List.mem_cons.mp hy with rfl | hy
          · exact h2 n (by rw [List.lookup_cons, beq_self_eq_true]; rfl)
          · exact h3 y hy hf
      · obtain ⟨cl, e, h1, h2, h3⟩ := ih acc (fun y hy => hn y (List.mem_cons_of_mem _ hy)) ha
        refine ⟨cl, ?_, h1, h2, fun y hy hf => ?_⟩
        · rw [← e]
          have : (k == NameKind.free) = false := by simpa using hk
          simp only [this, Bool.false_eq_true, if_false]
          rfl
        · rcases List.mem_cons.mp hy with rfl | hy
          · exact absurd hf hk
          · exact h3 y hy hf
  obtain ⟨cl, e, h1, _, h3⟩ := key scope.names [] h (fun _ _ hh => nomatch hh)
  refine ⟨cl, ?_, h1, fun y hy hf => ?_⟩
  · unfold closureFor
    exact (congrArg (fun m => m >>= fun cs => (pure cs : Sem (List (Str × Addr)))) e).trans rfl
  · obtain ⟨c, hc⟩ := Option.isSome_iff_exists.mp (h3 y hy hf)
    rw [hc, h1 _ _ hc]

theorem lookup_map_kind (f : Str × NameKind → NameKind) : ∀ (names : List (Str × NameKind)) (x : Str), (names.map fun y => (y.1, f y)).lookup x = (names.find? fun y => x == y.1).map f
  | [], _ => rfl
  | (n, k) :: r, x => by
    rw [List.map_cons, List.lookup_cons, List.find?_cons]
    cases x == n with
    | true => rfl
    | false => exact lookup_map_kind f r x
theorem lookup_find (names : List (Str × NameKind)) (x : Str) : names.lookup x = (names.find? fun y => x == y.1).map (·.2) := by
  have := lookup_map_kind (fun y => y.2) names x
  simpa using this
theorem relabS_lookup (scope sc : Scope) (x : Str) (hk : sc.kind = .function) :
    (relabS scope sc).names.lookup x = (scope.names.lookup x).map fun k => if (k == .free && sc.names.lookup x == some .cell) then .cell else k := by
  have e : (relabS scope sc).names = scope.names.map fun y => (y.1, if (y.2 == .free && sc.kind == .function && sc.names.lookup y.1 == some .cell) then .cell else y.2) := by
    unfold relabS
    refine List.map_congr_left fun y _ => ?_
    obtain ⟨n, k⟩ := y
    dsimp only
    split <;> rfl
  rw [e, lookup_map_kind (fun y => if (y.2 == .free && sc.kind == .function && sc.names.lookup y.1 == some .cell) then .cell else y.2), lookup_find scope.names x]
  cases hf : scope.names.find? fun y => x == y.1 with
  | none => simp only [Option.map_none]
  | some y =>
    have hxy : x = y.1 := by have := List.find?_some hf; simpa using this
    simp only [Option.map_some, hk, beq_self_eq_true, Bool.and_true, hxy]

section
variable {C : Ctx} {l : Nat} {sc : Scope} {ρ : Rho}

/-- the names as a comprehension's own code sees them -/
theorem ER.comp {s s₃ : Shared} {env : Env} {O O' : List Addr} {scope : Scope} {x : Str} {ρf : Rho} {cl : List (Str × Addr)} {C₀ : Addr} {m₃ : Str → Option Value} {d : V} {v : Value}
    (er : ER C env ρ O s) (hs : env.scope = sc) (cs : CompScope scope sc x) (hc : Caught scope sc ρ ρf) (hcl1 : ∀ n c, cl.lookup n = some c → env.cells.lookup n = some c) (hcl2 : ∀ y ∈ scope.names, y.2 = .free → cl.lookup y.1 = env.cells.lookup y.1)
    (hG : ∀ b o, C.G.get? b = some o → s₃.heap.get? b = some o) (hL : Lists s₃.heap O') (hn : s₃.heap.Ns C₀ m₃) (hm : m₃ x = some v) (hv : VR s₃.heap O' d v)
    (hcell : ∀ c w, s.heap.IsCell c w → s₃.heap.IsCell c w) (hup : ∀ d w, VVR s.heap O d w → VVR s₃.heap O' d w) : ER C.calm (compEnvC scope cl C₀ env) ((x, (d, false)) :: ρf) O' s₃ := by
  have hkind : sc.kind = .function := cs.kindOut
  have kindOf : ∀ y, (compEnvC scope cl C₀ env).kindOf y = (scope.names.lookup y).map fun k => if (k == .free && sc.names.lookup y == some .cell) then .cell else k := fun y => by
    show (relabel scope env).names.lookup y = _
    rw [relabel_eq, hs]
    exact relabS_lookup scope sc y hkind
  have memOf : ∀ {y : Str} {k : NameKind}, scope.names.lookup y = some k → (y, k) ∈ scope.names := fun {y k} h => by
    rw [lookup_find] at h
    obtain ⟨z, hz, e⟩ := Option.map_eq_some_iff.mp h
    have hy : y = z.1 := by have := List.find?_some hz; simpa using this
    have := List.mem_of_find?_eq_some hz
    obtain ⟨z1, z2⟩ := z
    dsimp only at hy e
    rw [hy, ← e]; exact this
  refine ⟨⟨hG, fun t ht => nomatch ht⟩, cs.kind, er.glob, er.blt, hL, fun y e hy => ?_, fun n hk => ?_⟩
  · rw [List.lookup_cons] at hy
    by_cases hyx : y = x
    · subst hyx
      rw [beq_self_eq_true] at hy
      cases hy
      refine ⟨v, .inl ⟨?_, m₃, hn, hm⟩, hv⟩
      rw [kindOf, cs.has]; rfl
    · rw [beq_eq_false_iff_ne.mpr hyx] at hy
      obtain ⟨h1, h2, h3⟩ := hc.get y e hy
      obtain ⟨w, hw, hr⟩ := er.vars y e h1
      refine ⟨w, .inr ⟨.inl ?_, ?_⟩, hup _ _ hr⟩
      · rw [kindOf, h2, h3]; rfl
      · rcases hw with ⟨g1, _⟩ | ⟨_, c, g2, g3⟩
        · rw [Env.kindOf, hs, h3] at g1; cases g1
        · exact ⟨c, (hcl2 (y, .free) (memOf h2) rfl).trans g2, hcell c _ g3⟩
  · rw [kindOf] at hk
    obtain ⟨k, e, hk'⟩ := Option.map_eq_some_iff.mp hk
    have hmem := memOf e
    by_cases hf : k = .free
    · subst hf
      show (cl.lookup n).isSome = true
      rw [hcl2 (n, .free) hmem rfl]
      exact er.cells n (by rw [Env.kindOf, hs]; exact (cs.free (n, .free) hmem rfl).1)
    · have : (k == NameKind.free) = false := by simpa using hf
      rw [this, Bool.false_and, if_neg Bool.false_ne_true] at hk'
      exact absurd hk' (cs.nocell _ hmem)

/-- the tests of a comprehension -/
noncomputable def Tests (C : Ctx) (l : Nat) (sc : Scope) (ρ : Rho) : List Expr → Bool → Prop
  | [], b => b = true
  | [c], b => Tr C l sc ρ c b
  | _, _ => False

theorem comp_run {elt iter : Expr} {x : Str} {px : Pos} {ifs : List Expr} {scope : Scope} {pos : Pos} {ds : List V} {p : V → Bool} {f : V → V} {ρf : Rho} {A : Around} {s : Shared} {env : Env} {O : List Addr} {cl : List (Str × Addr)} {E : Value → Shared → Prop} {RR : Value → Addr → Result → Shared → Prop}
    (R : Room l A) (hs : env.scope = sc) (er : ER C env ρ O s) (hi : EvI C l sc ρ iter ds) (cs : CompScope scope sc x) (hc : Caught scope sc ρ ρf)
    (hcl1 : ∀ n c, cl.lookup n = some c → env.cells.lookup n = some c) (hcl2 : ∀ y ∈ scope.names, y.2 = .free → cl.lookup y.1 = env.cells.lookup y.1)
    (ht : ∀ d ∈ ds, Tests C.calm l (relabS scope sc) ((x, (d, false)) :: ρf) ifs (p d)) (he : ∀ d ∈ ds, p d = true → Ev C.calm l (relabS scope sc) ((x, (d, false)) :: ρf) elt (f d, false)) (hsz : ds.length ≤ sizeLine)
    (hRR : ∀ D C₀ items m' s', KS C.T s s' → s.heap.get? D = none → s.heap.get? C₀ = none → D ≠ C₀ → s'.heap.Ns C₀ m' → PlL s'.heap D items → VRs s'.heap (D :: O) ((ds.filter p).map f) items.toList → RR (.ref D) C₀ (.ok .next) s') :
    wpAny (model C.prog C.w) A (eval iter env) (fun xv s₁ => wpAny (model C.prog C.w) A (pyIter xv) (fun it s₂ => wpAny (model C.prog C.w) A (newList []) (fun acc s₃ =>
      wpAny (model C.prog C.w) A (newFunctionEnv scope env.globals cl [] env.qual none .none (some env)) (fun cenv s₄ =>
        codeAny (model C.prog C.w) A (.compStart (.ListComp elt [⟨.Name x px, iter, ifs, 0⟩] scope pos) 0 it acc { cenv with scope := relabel scope env }) (RR acc cenv.locals) s₄) E s₃) E s₂) E s₁) E s := by
  refine hi R hs er fun I fp wr n P St xs vs s₂ k it st₀ ft hv => ?_
  refine wpAny_newObj_type (wpAny_newFunctionEnv cs.nocell (by intro y hy; simp at hy) (fun h₁ hns₁ hsb₁ => ?_) cs.kind)
  dsimp only at hns₁ hsb₁ ⊢
  generalize hH2 : s₂.heap.push { cls := .type "list", dict := none, data := .seq ([] : List Value).toArray } = H2 at hns₁ hsb₁ ⊢
  generalize hDe : s₂.heap.objs.size = D
  have hC : H2.objs.size = D + 1 := by rw [← hH2, Heap.size_push, hDe]
  generalize hCe : H2.objs.size = C₀ at *
  have hDC : D ≠ C₀ := by rw [hC]; exact Nat.ne_of_lt (Nat.lt_succ_self _)
  have newD : s₂.heap.get? D = none := by rw [← hDe]; exact get?_new _
  have newC : s₂.heap.get? C₀ = none := by
    cases e : s₂.heap.get? C₀ with
    | none => rfl
    | some o => have := Heap.lt_size e; rw [hDe, hC] at this; exact absurd this (Nat.not_lt.mpr (Nat.le_succ D))
  have g₂ := (er.ks k).base.grown
  have gr₂ := k.grows er.base.grown
  have old : ∀ b o, s₂.heap.get? b = some o → h₁.get? b = some o := fun b o e => hsb₁.extBut b o (fun q => by rw [q, newC] at e; cases e) (Heap.get?_push_of_some _ (hH2 ▸ Heap.get?_push_of_some _ e))
  have acc₁ : PlL h₁ D #[] := ⟨_, _, hsb₁.extBut _ _ hDC (Heap.get?_push_of_some _ (by rw [← hH2, ← hDe]; exact Heap.get?_push_size _ rfl)), rfl⟩
  have wrD : D ∉ wr := fun q => by
    obtain ⟨o, vs', e, _⟩ := it.itr 0 _ st₀ D q
    rw [newD] at e; cases e
  have fpD : D ∉ fp := fun q => by obtain ⟨o, e⟩ := (ft.here D q).1; rw [newD] at e; cases e
  have fpC : C₀ ∉ fp := fun q => by obtain ⟨o, e⟩ := (ft.here C₀ q).1; rw [newC] at e; cases e
  have wrC : C₀ ∉ wr := fun q => fpC (it.W.sub _ q)
  have wrT : ∀ b ∈ wr, b ∉ C.T := fun b hb q => by
    obtain ⟨ps, e⟩ := (er.base.grown b q).get
    rw [ft.new b hb] at e; cases e
  have inO : ∀ b ∈ O, b ≠ D := fun b hb q => by
    obtain ⟨its, o, n, e, _⟩ := (er.ks k).lists b hb
    rw [q, newD] at e; cases e
  -- one state of the loop
  let Good : Shared → Prop := fun s' => (∃ h tk, s' = { s₂ with heap := h, toks := tk }) ∧ (∀ b o, b ≠ C₀ → b ∉ wr → b ≠ D → s₂.heap.get? b = some o → s'.heap.get? b = some o)
  have listUp : ∀ {s' : Shared}, Good s' → ∀ b its, PlL s₂.heap b its → PlL s'.heap b its := fun {s'} gd b its y => plL_at y fun o e => gd.2 b o (fun q => by rw [q, newC] at e; cases e) (fun q => (it.itr 0 _ st₀ b q).not_list y) (fun q => by rw [q, newD] at e; cases e) e
  have tupUp : ∀ {s' : Shared}, Good s' → ∀ b its, IsTup s₂.heap b its → IsTup s'.heap b its := fun {s'} gd b its y => isTup_at y fun o e => gd.2 b o (fun q => by rw [q, newC] at e; cases e) (fun q => (it.itr 0 _ st₀ b q).not_tup y) (fun q => by rw [q, newD] at e; cases e) e
  have notD : ∀ b its, PlL s₂.heap b its → b ≠ D := fun b its y q => by obtain ⟨o, n, e, _⟩ := y; rw [q, newD] at e; cases e
  have vrUp : ∀ {s' : Shared}, Good s' → ∀ {d : V} {v : Value}, VR s₂.heap O d v → VR s'.heap (D :: O) d v := fun {s'} gd {d v} y =>
    VR.tr (fun b its hb z => ⟨fun q => (List.mem_cons.mp q).elim (notD b its z) hb, listUp gd b its z⟩) (fun b its z => tupUp gd b its z) y
  have vrsUp : ∀ {s' : Shared}, Good s' → ∀ {d : List V} {v : List Value}, VRs s₂.heap O d v → VRs s'.heap (D :: O) d v := fun {s'} gd {d v} y =>
    VRs.tr (fun b its hb z => ⟨fun q => (List.mem_cons.mp q).elim (notD b its z) hb, listUp gd b its z⟩) (fun b its z => tupUp gd b its z) y
  have vvrUp : ∀ {s' : Shared}, Good s' → ∀ (d : VV) (v : Value), VVR s₂.heap O d v → VVR s'.heap (D :: O) d v := fun {s'} gd d v y => by
    obtain ⟨d, b⟩ := d
    cases b with
    | false => exact vrUp gd y
    | true =>
      obtain ⟨zs, a, its, e1, e2, e3, e4, e5⟩ := y
      exact ⟨zs, a, its, e1, e2, List.mem_cons_of_mem _ e3, listUp gd a its e4, vrsUp gd e5⟩
  have er₂ := er.ks k
  have cellUp : ∀ {s' : Shared}, Good s' → ∀ c w, s₂.heap.IsCell c w → s'.heap.IsCell c w := fun {s'} gd c w y => isCell_at y fun o e => gd.2 c o (fun q => by rw [q, newC] at e; cases e) (fun q => (it.itr 0 _ st₀ c q).not_cell y) (fun q => by rw [q, newD] at e; cases e) e
  have gUp : ∀ {s' : Shared}, Good s' → ∀ b o, C.G.get? b = some o → s'.heap.get? b = some o := fun {s'} gd b o e => by
    have e' := er₂.base.keep b o e
    refine gd.2 b o (fun q => by rw [q, newC] at e'; cases e') (fun q => ?_) (fun q => by rw [q, newD] at e'; cases e') e'
    have := er.base.keep b o e
    rw [ft.new b q] at this; cases this
  have erC : ∀ {s' : Shared} {m : Str → Option Value} {d : V} {v : Value} {its : Array Value}, Good s' → s'.heap.Ns C₀ m → m x = some v → VR s'.heap (D :: O) d v → PlL s'.heap D its → ER C.calm (compEnvC scope cl C₀ env) ((x, (d, false)) :: ρf) (D :: O) s' :=
    fun {s' m d v its} gd hn hm hv hD => ER.comp er₂ hs cs hc hcl1 hcl2 (gUp gd) (fun b hb => by
      rcases List.mem_cons.mp hb with rfl | hb
      · exact ⟨its, hD⟩
      · obtain ⟨its', y⟩ := er₂.lists b hb
        exact ⟨its', listUp gd b its' y⟩) hn hm hv (cellUp gd) (vvrUp gd)
  have hx : (compEnvC scope cl C₀ env).kindOf x = some .local := lookup_relabel_local cs.has
  have scE : (compEnvC scope cl C₀ env).scope = relabS scope sc := by show relabel scope env = _; rw [relabel_eq, hs]
  have loop : codeAny (model C.prog C.w) A (.compLoop (.ListComp elt [⟨.Name x px, iter, ifs, 0⟩] scope pos) 0 (.ref I) (.ref D) (compEnvC scope cl C₀ env)) (RR (.ref D) C₀) { s₂ with heap := h₁, toks := s₂.toks + ([] : List (Str × Value)).length } := by
    refine codeAny_compLoop_tests (fun k s' => ∃ i m its, Good s' ∧ St i s'.heap ∧ s'.heap.Ns C₀ m ∧ PlL s'.heap D its ∧ VRs s'.heap (D :: O) (((ds.take i).filter p).map f) its.toList ∧ i ≤ ds.length ∧ k = ds.length - i) ?_ ds.length
      ⟨0, _, #[], ⟨⟨_, _, rfl⟩, fun b o _ _ _ e => old b o e⟩, it.W.frame _ _ _ st₀ fun b _ o e => old b o e, hns₁, acc₁, by simpa using VRs.nil, Nat.zero_le _, rfl⟩
    rintro kn s' ⟨i, m, its, gd, st, hn, hD, hvs, hile, rfl⟩
    have hxs := vrsUp gd hv
    cases hd : ds[i]? with
    | none =>
      have hil : ds.length ≤ i := by simpa using hd
      have hie : i = n := by have := it.len; omega
      refine it.W.done s' _ _ (hie ▸ st) fun h' tk hk => ?_
      have keep : ∀ b o, b ≠ C₀ → b ∉ wr → b ≠ D → s₂.heap.get? b = some o → h'.get? b = some o := fun b o h1 h2 h3 e => hk b o h2 (gd.2 b o h1 h2 h3 e)
      rw [List.take_of_length_le hil] at hvs
      refine hRR D C₀ its m _ ⟨?_, fun b o hb e => ?_, fun t ht gt => ?_⟩ (gr₂ _ newD) (gr₂ _ newC) hDC (hn.at' fun o e => hk _ o wrC e) (plL_at hD fun o e => hk _ o wrD e) (hvs.walked (it.itr i _ st) hk)
      · obtain ⟨⟨h, t, rfl⟩, _⟩ := gd
        obtain ⟨h', t', rfl⟩ := k.same
        exact ⟨_, _, rfl⟩
      · have e' := k.keep b o hb e
        exact keep b o (fun q => by rw [q, newC] at e'; cases e') (fun q => by rw [ft.new b q] at e; cases e) (fun q => by rw [q, newD] at e'; cases e') e'
      · refine (k.grown t ht gt).at fun b o vs e hd hc => keep b o (fun q => by rw [q, newC] at e; cases e) (fun q => ?_) (fun q => by rw [q, newD] at e; cases e) e
        obtain ⟨o', vs', e', d', n1, n2⟩ := it.itr 0 _ st₀ b q
        rw [e] at e'; cases e'; rw [hd] at d'; cases d'
        exact hc.elim n1 fun ⟨_, _, z⟩ => n2 _ _ z
    | some d =>
      have hil : i < ds.length := (List.getElem?_eq_some_iff.mp hd).1
      have hdm : d ∈ ds := List.mem_of_getElem? hd
      have htk : (ds.take (i + 1)) = ds.take i ++ [d] := by
        rw [List.take_add_one, hd]; rfl
      have hin : i < n := by rw [it.len]; exact hil
      refine it.W.item i s' _ _ hin st fun v h' tk hP st' hk => ?_
      obtain ⟨d', hd', hvd⟩ := it.get i v s'.heap (D :: O) hxs hP hin
      rw [hd] at hd'; cases hd'
      have gd₁ : Good { s' with heap := h', toks := tk } := ⟨by obtain ⟨⟨h, t, rfl⟩, _⟩ := gd; exact ⟨_, _, rfl⟩, fun b o h1 h2 h3 e => hk b o h2 (gd.2 b o h1 h2 h3 e)⟩
      refine wpAny_assign_Name (wpAny_storeName_local hx (hn.at' fun o e => hk _ o wrC e) (fun h₃ hn₃ hs₃ => ?_) (by simp [compEnvC, relabel, cs.kind]))
      have gd₂ : Good { s' with heap := h₃, toks := tk + 1 } := ⟨by obtain ⟨⟨h, t, rfl⟩, _⟩ := gd; exact ⟨_, _, rfl⟩, fun b o h1 h2 h3 e => hs₃.extBut b o h1 (gd₁.2 b o h1 h2 h3 e)⟩
      have plC : ∀ b its, PlL h' b its → PlL h₃ b its := fun b its y => stored_plain (hn.at' fun o e => hk _ o wrC e) hs₃ y
      have hnC : h'.Ns C₀ m := hn.at' fun o e => hk _ o wrC e
      have tpC : ∀ b its, IsTup h' b its → IsTup h₃ b its := fun b its y => isTup_at y fun o e => hs₃.extBut b o (fun (q : b = C₀) => tup_not_ns y (q.symm ▸ hnC)) e
      have st₃ : St (i + 1) h₃ := it.W.frame _ _ _ st' fun b hb o e => hs₃.extBut b o (fun (q : b = C₀) => fpC (q ▸ hb)) e
      have vd₃ : VR h₃ (D :: O) d v := VR.tr (fun b its hb z => ⟨hb, plC b its z⟩) tpC (hvd.walked (it.itr i _ st) hk)
      have vs₃ : VRs h₃ (D :: O) (((ds.take i).filter p).map f) its.toList := VRs.tr (fun b its hb z => ⟨hb, plC b its z⟩) tpC (hvs.walked (it.itr i _ st) hk)
      have hD₃ : PlL h₃ D its := plC D its (plL_at hD fun o e => hk _ o wrD e)
      have er₃ := erC (s' := { s' with heap := h₃, toks := tk + 1 }) gd₂ hn₃ (by simp) vd₃ hD₃
      -- a quiet step
      have quiet : ∀ {s₄ : Shared}, KS C.calm.T { s' with heap := h₃, toks := tk + 1 } s₄ → Good s₄ ∧ St (i + 1) s₄.heap ∧ (∃ m, s₄.heap.Ns C₀ m) ∧ PlL s₄.heap D its ∧ VRs s₄.heap (D :: O) (((ds.take i).filter p).map f) its.toList := fun {s₄} kq => by
        have kk := fun b o e => kq.keep b o (show b ∉ ([] : List Addr) by simp) e
        exact ⟨⟨by obtain ⟨⟨h, t, rfl⟩, _⟩ := gd; obtain ⟨h', t', rfl⟩ := kq.same; exact ⟨_, _, rfl⟩, fun b o h1 h2 h3 e => kk b o (gd₂.2 b o h1 h2 h3 e)⟩, it.W.frame _ _ _ st₃ fun b _ o e => kk b o e,
          ⟨_, hn₃.at' fun o e => kk _ o e⟩, plL_at hD₃ fun o e => kk _ o e, VRs.tr (fun b its hb z => ⟨hb, plL_at z fun o e => kk _ o e⟩) (fun b its z => isTup_at z fun o e => kk _ o e) vs₃⟩
      have test : ∀ {Q' : Bool → Shared → Prop} {E' : Value → Shared → Prop}, (∀ s₄, KS C.calm.T { s' with heap := h₃, toks := tk + 1 } s₄ → Q' (p d) s₄) →
          wpAny (model C.prog C.w) A (forIn ifs true fun c r => if r = true then do let ok ← isTrue c (compEnvC scope cl C₀ env) (eval c (compEnvC scope cl C₀ env)); pure (ForInStep.yield ok) else pure (ForInStep.yield r)) Q' E' { s' with heap := h₃, toks := tk + 1 } := fun {Q' E'} hq => by
        have htd := ht d hdm
        cases ifs with
        | nil => rw [List.forIn_nil]; have hpd : p d = true := htd; rw [← hpd]; exact wpAny_pure (hq _ (KS.refl _))
        | cons c r =>
          cases r with
          | nil =>
            have htd' : Tr C.calm l (relabS scope sc) ((x, (d, false)) :: ρf) c (p d) := htd
            rw [List.forIn_cons]
            simp only [if_true]
            refine wpAny_bind (wpAny_bind (htd' R scE er₃ fun s₄ k₄ => wpAny_pure ?_))
            show wpAny _ _ (pure (p d)) _ _ _
            exact wpAny_pure (hq s₄ k₄)
          | cons c' r' => exact htd.elim
      refine test fun s₄ k₄ => ?_
      obtain ⟨gd₄, st₄, ⟨m₄, hn₄⟩, hD₄, vs₄⟩ := quiet k₄
      cases hp : p d with
      | false =>
        rw [if_neg Bool.false_ne_true]
        refine ⟨ds.length - (i + 1), by omega, i + 1, m₄, its, gd₄, st₄, hn₄, hD₄, ?_, by omega, rfl⟩
        rw [htk, List.filter_append, List.filter_cons_of_neg (by rw [hp]; exact Bool.false_ne_true), List.filter_nil, List.append_nil]; exact vs₄
      | true =>
        rw [if_pos rfl]
        refine he d hdm hp R scE (er₃.ks k₄) fun y s₅ k₅ r₅ => ?_
        obtain ⟨gd₅, st₅, ⟨m₅, hn₅⟩, hD₅, vs₅⟩ := quiet (k₄.trans k₅)
        have hlen := vs₅.length
        simp only [Array.length_toList, List.length_map] at hlen
        have hle2 : ((ds.take i).filter p).length ≤ ds.length := Nat.le_trans (List.length_filter_le _ _) (by rw [List.length_take]; omega)
        refine wpAny_list_append_plain hD₅.plain (fun h₆ hp₆ hs₆ => ?_) (by omega)
        have r₆ : VR s₅.heap (D :: O) (f d) y := r₅
        have plU : ∀ b its, b ∉ (D :: O) → PlL s₅.heap b its → b ∉ (D :: O) ∧ PlL h₆ b its := fun b its hb z => ⟨hb, plL_at z fun o e => hs₆.extBut b o (fun q => hb (q ▸ List.mem_cons_self)) e⟩
        have tpU : ∀ b its, IsTup s₅.heap b its → IsTup h₆ b its := fun b its z => isTup_at z fun o e => hs₆.extBut b o (fun q => list_not_tup hD₅.isList (q ▸ z)) e
        refine ⟨ds.length - (i + 1), by omega, i + 1, m₅, its.push y, ⟨by obtain ⟨⟨h, t, rfl⟩, _⟩ := gd₅; exact ⟨_, _, rfl⟩, fun b o h1 h2 h3 e => hs₆.extBut b o h3 (gd₅.2 b o h1 h2 h3 e)⟩, it.W.frame _ _ _ st₅ fun b hb o e => hs₆.extBut b o (fun q => fpD (q ▸ hb)) e,
          hn₅.sameBut hs₆ hDC.symm, PlL.of hp₆, ?_, by omega, rfl⟩
        rw [htk, List.filter_append, List.filter_cons_of_pos hp, List.filter_nil, List.map_append, Array.toList_push]
        exact (VRs.tr plU tpU vs₅).append (VRs.one (VR.tr plU tpU r₆))
  have goal := codeAny_compStart_list (elt := elt) (iter := iter) (target := .Name x px) (ifs := ifs) (rest := []) (scope := scope) (pos := pos) (env := compEnvC scope cl C₀ env) (it := .ref I) (acc := .ref D) loop (it.W.self 0 _ _ _ (it.W.frame _ _ _ st₀ fun b _ o e => old b o e) loop)
  subst hDe
  exact goal

theorem scopeCl {env : Env} {O : List Addr} {s : Shared} {scope : Scope} {x : Str} (er : ER C env ρ O s) (hs : env.scope = sc) (cs : CompScope scope sc x) :
    ∃ cl, closureFor scope env = pure cl ∧ (∀ n c, cl.lookup n = some c → env.cells.lookup n = some c) ∧ ∀ y ∈ scope.names, y.2 = .free → cl.lookup y.1 = env.cells.lookup y.1 :=
  closureFor_ok fun y hy hf => er.cells y.1 (by rw [Env.kindOf, hs]; exact (cs.free y hy hf).1)

/-- a list comprehension -/
theorem EvNew.comp {elt iter : Expr} {x : Str} {px : Pos} {ifs : List Expr} {scope : Scope} {pos : Pos} {ds : List V} {p : V → Bool} {f : V → V} {ρf : Rho}
    (hi : EvI C l sc ρ iter ds) (hb : compScopeB scope sc x = true) (hc : Caught scope sc ρ ρf)
    (ht : ∀ d ∈ ds, Tests C.calm l (relabS scope sc) ((x, (d, false)) :: ρf) ifs (p d)) (he : ∀ d ∈ ds, p d = true → Ev C.calm l (relabS scope sc) ((x, (d, false)) :: ρf) elt (f d, false)) (hsz : ds.length ≤ sizeLine)
    (hfo : ∀ env x, foldedSetIterable iter env x = pure x := by intro _ _; rfl) : EvNew C l sc ρ (.ListComp elt [⟨.Name x px, iter, ifs, 0⟩] scope pos) ((ds.filter p).map f) := by
  intro A s env O Q E R hs er hQ
  have cs := CompScope.of hb
  obtain ⟨cl, hcl, hcl1, hcl2⟩ := scopeCl er hs cs
  rw [PySem.eval_ListComp]
  refine wpAny_comprehension_free (use := none) rfl (hfo env) hcl cs.kind cs.names (comp_run (RR := fun acc C₀ => compPost (model C.prog C.w) A E none Q acc C₀) R hs er hi cs hc hcl1 hcl2 ht he hsz ?_)
  intro D C₀ items m' s' k hD hC hDC hn hl hv
  refine ⟨m', hn, fun h' hs' => hQ D items _ ?_ hD (stored_plain hn hs' hl) ?_⟩
  · obtain ⟨⟨h, tk, rfl⟩, k2, k3⟩ := k
    exact ⟨⟨_, _, rfl⟩, fun b o hb e => hs'.extBut b o (fun q => by rw [q, hC] at e; cases e) (k2 b o hb e), fun t ht g => by
      refine (k3 t ht g).at fun b o vs e hd _ => hs'.extBut b o (fun q => ?_) e
      obtain ⟨o', es, ep, e', hd', _⟩ := hn
      rw [← q] at e'; dsimp only at e e'; rw [e] at e'; cases e'; rw [hd] at hd'; cases hd'⟩
  · exact VRs.tr (fun b its hb z => ⟨hb, stored_plain hn hs' z⟩) (fun b its z => isTup_at z fun o e => hs'.extBut b o (fun q => tup_not_ns z (q.symm ▸ hn)) e) hv

/-- y = [.. for ..], y a name of the frame's own dict -/
theorem Xs.assignComp {y : Str} {py spos : Pos} {elt iter : Expr} {x : Str} {px : Pos} {ifs : List Expr} {scope : Scope} {pos : Pos} {ds : List V} {p : V → Bool} {f : V → V} {ρf : Rho} {rest : List Stmt} {P : Out → Prop}
    (hi : EvI C l sc ρ iter ds) (hb : compScopeB scope sc x = true) (hc : Caught scope sc ρ ρf)
    (ht : ∀ d ∈ ds, Tests C.calm l (relabS scope sc) ((x, (d, false)) :: ρf) ifs (p d)) (he : ∀ d ∈ ds, p d = true → Ev C.calm l (relabS scope sc) ((x, (d, false)) :: ρf) elt (f d, false)) (hsz : ds.length ≤ sizeLine)
    (hy : sc.names.lookup y = some .local) (hsw : ∀ env : Env, env.scope = sc → swapsWith (.ListComp elt [⟨.Name x px, iter, ifs, 0⟩] scope pos) (some (.Name y py)) spos.line env = pure true)
    (k : Xs C l sc ((y, (.list ((ds.filter p).map f), false)) :: ρ) rest P)
    (hfo : ∀ env x, foldedSetIterable iter env x = pure x := by intro _ _; rfl) : Xs C l sc ρ (.Assign [.Name y py] (.ListComp elt [⟨.Name x px, iter, ifs, 0⟩] scope pos) spos :: rest) P := by
  refine Xs.cons ?_
  intro A s s₀ env O₀ own E R hs F
  have er := F.er
  have cs := CompScope.of hb
  obtain ⟨cl, hcl, hcl1, hcl2⟩ := scopeCl er hs cs
  rw [exec_Assign_Name_used _ _ _ _ (hsw env hs)]
  refine wpAny_bind (wpAny_standAt (wpAny_bind ?_))
  show wpAny _ A (do let _ ← comprehension (.ListComp elt [⟨.Name x px, iter, ifs, 0⟩] scope pos) scope env _ (newList []) false (eval iter env) (some (PySem.assign (.Name y py) env))) _ _ s
  refine wpAny_bind (wpAny_mono (wpAny_comprehension_free (use := some (PySem.assign (.Name y py) env)) (Q := fun _ s' => ∃ o, (match o with | .next ρ' => Xs C l sc ρ' rest P | o => P o) ∧ OutOk C s₀ env O₀ own s o .next s') rfl (hfo env) hcl cs.kind cs.names
    (comp_run (RR := fun acc C₀ => compPost (model C.prog C.w) A E (some (PySem.assign (.Name y py) env)) (fun _ s' => ∃ o, (match o with | .next ρ' => Xs C l sc ρ' rest P | o => P o) ∧ OutOk C s₀ env O₀ own s o .next s') acc C₀) R hs er hi cs hc hcl1 hcl2 ht he hsz ?_)) (fun _ s' hq => wpAny_pure (wpAny_pure hq)) fun _ _ e => e)
  intro D C₀ items m' s' kk hD hC hDC hn hl hv
  have F' := F.ks kk
  have hvD : VR s'.heap (ownO own O₀) (.list ((ds.filter p).map f)) (.ref D) := by
    simp only [VR]
    refine ⟨D, items, rfl, fun q => ?_, hl, hv.sub fun b hb => List.mem_cons_of_mem _ hb⟩
    obtain ⟨its, o, n, e, _⟩ := er.lists D q
    rw [hD] at e; cases e
  refine wpAny_assign_Name (F'.store (.inl (by rw [Env.kindOf, hs]; exact hy)) hvD fun s'' F'' g gr => ?_)
  -- the comprehension's own dict is let go
  obtain ⟨m₁, cm₁, X₁, _⟩ := F'.call
  have newC : s.heap.get? C₀ = none := hC
  have hns'' : s''.heap.Ns C₀ m' := hn.at' fun o e => g.keep C₀ o (fun q => by
      obtain ⟨ps, e'⟩ := (F.base.grown C₀ q).get
      rw [newC] at e'; cases e') (fun q => by
      obtain ⟨m, cm, X, _⟩ := F.call
      obtain ⟨o', _, _, e', _⟩ := X.toInCall.ns
      rw [← q, newC] at e'; cases e') (fun n c hc' q => by
      obtain ⟨m, cm, X, _⟩ := F.call
      obtain ⟨o', e', _⟩ := X.cell n c hc'
      rw [← q, newC] at e'; cases e') (fun p hp q => by
      obtain ⟨its, o', n, e', _⟩ := F.lists p.2 (List.mem_map.mpr ⟨p, hp, rfl⟩)
      rw [← q, newC] at e'; cases e') e
  refine ⟨m', hns'', fun h' hs' => ?_⟩
  have kC : ∀ b o, b ≠ C₀ → s''.heap.get? b = some o → h'.get? b = some o := fun b o h e => hs'.extBut b o h e
  have new₀ : s₀.heap.get? C₀ = none := by
    obtain ⟨m, cm, X, _⟩ := F.call
    cases e : s₀.heap.get? C₀ with
    | none => rfl
    | some o => have := X.toInCall.keep C₀ o e; rw [newC] at this; cases this
  have F₃ : FR C s₀ env O₀ (dropOwn y own) ((y, (.list ((ds.filter p).map f), false)) :: ρ) { s'' with heap := h' } := by
    obtain ⟨m, cm, X, hvs⟩ := F''.call
    have kp : ∀ b o, s₀.heap.get? b = some o → h'.get? b = some o := fun b o e => kC b o (fun q => by rw [q, new₀] at e; cases e) (X.toInCall.keep b o e)
    have up : ∀ {d : VV} {v : Value}, VVR s''.heap (ownO (dropOwn y own) O₀) d v → VVR h' (ownO (dropOwn y own) O₀) d v := fun {d v} z => by
      obtain ⟨d, b⟩ := d
      have pl : ∀ a its, PlL s''.heap a its → PlL h' a its := fun a its z => stored_plain hns'' hs' z
      have tp : ∀ a its, IsTup s''.heap a its → IsTup h' a its := fun a its z => isTup_at z fun o e => kC a o (fun q => tup_not_ns z (q.symm ▸ hns'')) e
      cases b with
      | false => exact VR.tr (fun a its ha z => ⟨ha, pl a its z⟩) tp z
      | true =>
        obtain ⟨zs, a, its, e1, e2, e3, e4, e5⟩ := z
        exact ⟨zs, a, its, e1, e2, e3, pl a its e4, VRs.tr (fun a its ha z => ⟨ha, pl a its z⟩) tp e5⟩
    refine ⟨⟨fun b o e => kp b o (F.under b o e), fun t ht => ?_⟩, F.kind, F.glob, F.blt, F.cells, F.notab, F.under, F.outer, fun a ha => ?_, F''.ownNew, F''.apart, m, cm, ⟨⟨?_, X.toInCall.ns.at' fun o e => kC _ o (fun q => ?_) e, kp, X.toInCall.fresh⟩,
      fun n c hc' => isCell_at (X.cell n c hc') fun o e => kC _ o (fun q => ?_) e, X.apart, X.above⟩, fun z d hz => ?_⟩
    · refine (F''.base.grown t ht).at fun b o vs e hd _ => kC b o (fun q => ?_) e
      obtain ⟨o', es, ep, e', hd', _⟩ := hns''
      rw [← q, e] at e'; cases e'; rw [hd] at hd'; cases hd'
    · obtain ⟨its, z⟩ := F''.lists a ha
      exact ⟨its, stored_plain hns'' hs' z⟩
    · obtain ⟨h₁, tk₁, rfl⟩ := X.toInCall.same
      exact ⟨h', _, rfl⟩
    · obtain ⟨m, cm, X, _⟩ := F.call
      obtain ⟨o', _, _, e', _⟩ := X.toInCall.ns
      rw [q, newC] at e'; cases e'
    · obtain ⟨m, cm, X, _⟩ := F.call
      obtain ⟨o', e', _⟩ := X.cell n c hc'
      rw [q, newC] at e'; cases e'
    · obtain ⟨v, h1, h2, h3⟩ := hvs z d hz
      exact ⟨v, h1, h2, up h3⟩
  have gr₁ := kk.grows F.base.grown
  have gAll : Go C env own (dropOwn y own) s s'' := (Go.ks kk).trans g gr₁
  refine ⟨.next _, k, rfl, _, F₃, ⟨fun b o h1 h2 h3 h4 e => kC b o (fun q => by rw [q, newC] at e; cases e) (gAll.keep b o h1 h2 h3 h4 e), gAll.news⟩, fun b e => ?_⟩
  by_cases hbC : b = C₀
  · rw [hbC]; exact newC
  · refine (gr₁.trans gr) b ?_
    cases e' : s''.heap.get? b with
    | none => rfl
    | some o => have := kC b o hbC e'; dsimp only at e; rw [e] at this; cases this
end
end

section
theorem bindL_other {k : Str → Option NameKind} : ∀ {b : List (Str × Value)} {m : Str → Option Value} {n : Str}, n ∉ b.map (·.1) → bindL k b m n = m n
  | [], _, _, _ => rfl
  | (x, v) :: r, m, n, h => by
    unfold bindL
    rw [bindL_other (fun q => h (by rw [List.map_cons]; exact List.mem_cons_of_mem _ q))]
    have hx : n ≠ x := fun q => h (by rw [List.map_cons, q]; exact List.mem_cons_self)
    split
    · exact if_neg hx
    · rfl
theorem bindC_other {k : Str → Option NameKind} : ∀ {b : List (Str × Value)} {m : Str → Option Value} {n : Str}, n ∉ b.map (·.1) → bindC k b m n = m n
  | [], _, _, _ => rfl
  | (x, v) :: r, m, n, h => by
    unfold bindC
    rw [bindC_other (fun q => h (by rw [List.map_cons]; exact List.mem_cons_of_mem _ q))]
    have hx : n ≠ x := fun q => h (by rw [List.map_cons, q]; exact List.mem_cons_self)
    split
    · rfl
    · exact if_neg hx
theorem bindL_get {k : Str → Option NameKind} {n : Str} {v : Value} (hk : k n = some .local) : ∀ {b : List (Str × Value)} {m : Str → Option Value}, (b.map (·.1)).Nodup → (n, v) ∈ b → bindL k b m n = some v
  | (x, w) :: r, m, hn, h => by
    rw [List.map_cons, List.nodup_cons] at hn
    unfold bindL
    rcases List.mem_cons.mp h with e | h
    · cases e
      rw [bindL_other hn.1, if_pos hk]
      exact if_pos rfl
    · exact bindL_get hk hn.2 h
theorem bindC_get {k : Str → Option NameKind} {n : Str} {v : Value} (hk : k n ≠ some .local) : ∀ {b : List (Str × Value)} {m : Str → Option Value}, (b.map (·.1)).Nodup → (n, v) ∈ b → bindC k b m n = some v
  | (x, w) :: r, m, hn, h => by
    rw [List.map_cons, List.nodup_cons] at hn
    unfold bindC
    rcases List.mem_cons.mp h with e | h
    · cases e
      rw [bindC_other hn.1, if_neg hk]
      exact if_pos rfl
    · exact bindC_get hk hn.2 h

noncomputable abbrev plainVV (ds : List V) : List VV := ds.map fun d => (d, false)

theorem VVRs.plain {h : Heap} {O : List Addr} : ∀ {ds : List V} {vs : List Value}, VVRs h O (plainVV ds) vs → VRs h O ds vs
  | [], _, x => by simp only [VRs]; exact x
  | _ :: _, _, ⟨v, r, e, h1, h2⟩ => by simp only [VRs]; exact ⟨v, r, e, h1, VVRs.plain h2⟩

theorem zip_lookup : ∀ {names : List Str} {ds : List V} {vs : List Value} {h : Heap} {O : List Addr} {x : Str} {d : VV}, VRs h O ds vs → (names.zip (plainVV ds)).lookup x = some d → ∃ v, (x, v) ∈ names.zip vs ∧ d.2 = false ∧ VR h O d.1 v
  | [], _, _, _, _, _, _, _, e => by cases e
  | n :: ns, [], _, _, _, _, _, _, e => by cases e
  | n :: ns, d₀ :: ds, vs, h, O, x, d, hv, e => by
    simp only [VRs] at hv
    obtain ⟨v, r, rfl, h1, h2⟩ := hv
    simp only [plainVV, List.map_cons] at e
    rw [List.zip_cons_cons, List.lookup_cons] at e
    by_cases hx : x = n
    · subst hx
      rw [beq_self_eq_true] at e; cases e
      exact ⟨v, by rw [List.zip_cons_cons]; exact List.mem_cons_self, rfl, h1⟩
    · rw [beq_eq_false_iff_ne.mpr hx] at e
      obtain ⟨w, hw, h3, h4⟩ := zip_lookup h2 e
      exact ⟨w, by rw [List.zip_cons_cons]; exact List.mem_cons_of_mem _ hw, h3, h4⟩

/-- a def of the text, as the heap holds it -/
structure DefAt (C : Ctx) (a : Addr) (fd : FuncData) (body : List Stmt) : Prop where
  at' : ∃ o, C.G.get? a = some o ∧ o.data = .func fd
  code : C.G.CodeRec fd.code fd.qualname
  body : fd.body = .stmts body
  clo : fd.closure = []
  co : fd.scope.isCoroutine = false
  gen : fd.scope.isGenerator = false
  kind : fd.scope.kind = .function
  glob : fd.globals = mainGlobals
  blt : fd.builtins = builtinsNs

section
variable {C : Ctx} {l : Nat}

theorem fr_enter {A : Around} {s s₁ : Shared} {fd : FuncData} {body : List Stmt} {names : List Str} {ds : List V} {O : List Addr} {vs : List Value} {a : Addr} (hT : C.T = []) (D : DefAt C a fd body) (B : Base C s.heap) (L : Lists s.heap O)
    (hv : VRs s.heap O ds vs) (hlen : names.length = ds.length) (hnd : names.Nodup) (hkinds : ∀ n ∈ names, fd.scope.names.lookup n = some .local ∨ fd.scope.names.lookup n = some .cell)
    (x : InCallC s (callEnvC fd s.heap.objs.size a).locals (bindL (callEnvC fd s.heap.objs.size a).kindOf (names.zip vs) fun _ => none) (callEnvC fd s.heap.objs.size a).cells
        (bindC (callEnvC fd s.heap.objs.size a).kindOf (names.zip vs) fun _ => none) s₁) : FR C s (callEnvC fd s.heap.objs.size a) O [] (names.zip (plainVV ds)) s₁ := by
  have hvl := hv.length
  have hmap : (names.zip vs).map (·.1) = names := List.map_fst_zip (by omega)
  have kind : ∀ n, (callEnvC fd s.heap.objs.size a).kindOf n = fd.scope.names.lookup n := fun _ => rfl
  refine ⟨⟨fun b o e => x.toInCall.keep b o (B.keep b o e), fun t ht => (by rw [hT] at ht; cases ht)⟩, D.kind, D.glob, D.blt, fun n hn => cellsFrom_some _ _ _ (.inl hn), fun t ht => (by rw [hT] at ht; cases ht), B.keep, L, (fun a ha => nomatch ha), (fun p hp => nomatch hp), List.Pairwise.nil, _, _, x, fun n d hd => ?_⟩
  obtain ⟨v, hm, h2, hr⟩ := zip_lookup hv hd
  have hn : n ∈ names := (List.of_mem_zip hm).1
  refine ⟨v, ?_, fun q => (by rw [h2] at q; cases q), ?_⟩
  · rcases hkinds n hn with hk | hk
    · exact .inl ⟨hk, bindL_get (by rw [kind]; exact hk) (by rw [hmap]; exact hnd) hm⟩
    · exact .inr ⟨hk, bindC_get (by rw [kind, hk]; decide) (by rw [hmap]; exact hnd) hm⟩
  · obtain ⟨d1, d2⟩ := d
    dsimp only at h2; subst h2
    show VR _ _ d1 v
    exact VR.tr (fun b its hb hl => ⟨by simpa [ownO] using hb, plL_at hl fun o e => x.toInCall.keep b o e⟩) (fun b its ht => isTup_at ht fun o e => x.toInCall.keep b o e) hr

theorem Calls.ofBody {a : Addr} {fd : FuncData} {body : List Stmt} {names : List Str} {ds : List V} {d : V} (hT : C.T = []) (D : DefAt C a fd body)
    (hbind : ∀ vals : List Value, vals.length = names.length → bindArgs fd ⟨vals, []⟩ = pure (names.zip vals)) (hlen : names.length = ds.length) (hnd : names.Nodup)
    (hkinds : ∀ n ∈ names, fd.scope.names.lookup n = some .local ∨ fd.scope.names.lookup n = some .cell)
    (X : Xs C l fd.scope (names.zip (plainVV ds)) body (fun o => o = .ret d)) : Calls C (l + 1) (.ref a) (plainVV ds) (d, false) := by
  intro A s O Q E vs R B L hv hQ
  have hv' := hv.plain
  have hvl := hv'.length
  obtain ⟨o, ho, hd⟩ := D.at'
  have hlim : s.heap.NoLimit := C.lim.keeps B.keep
  have hcd : s.heap.CodeRec fd.code fd.qualname := D.code.keeps B.keep
  refine wpAny_call (codeAny_call_cells R.room (B.keep _ _ ho) hd hlim hcd D.body (hbind vs (by omega)) D.clo (fun y hy => ?_) (fun s₁ x => ?_) D.co D.gen D.kind)
  · rcases hkinds y.1 (List.of_mem_zip hy).1 with h | h
    · exact .inl h
    · exact .inr ⟨h, cellsFrom_some _ _ _ (.inl h)⟩
  · have F := fr_enter (A := A) hT D B L hv' hlen hnd hkinds x
    refine wpAny_mono (X (R.deeper _) rfl F) (fun f s' h => ?_) fun _ _ e => e
    obtain ⟨o, rfl, v, own', rfl, F', _, _, r⟩ := h
    obtain ⟨m, cm, X', _⟩ := F'.call
    obtain ⟨h', tk, rfl, keep⟩ := X'.done
    exact hQ v _ (KS.of keep) r
end
end

section
section
variable {C : Ctx} {l : Nat} {sc : Scope} {ρ : Rho}

theorem vInt {h : Heap} {O : List Addr} {i : Int} {v : Value} (x : VVR h O (.int i, false) v) : ∃ t, v = .int i t := x
theorem vStr {h : Heap} {O : List Addr} {y : Str} {v : Value} (x : VVR h O (.str y, false) v) : ∃ t, v = .str y t := x
theorem vBytes {h : Heap} {O : List Addr} {y : List UInt8} {v : Value} (x : VVR h O (.bytes y, false) v) : ∃ t, v = .bytes y.toArray t := x
theorem vBool {h : Heap} {O : List Addr} {b : Bool} {v : Value} (x : VVR h O (.bool b, false) v) : v = .bool b := x
theorem vType {h : Heap} {O : List Addr} {n : String} {v : Value} (x : VVR h O (.type n, false) v) : v = .type n := x
/-- a list, own or not -/
theorem vList {h : Heap} {O : List Addr} {xs : List V} : ∀ {f : Bool} {v : Value}, VVR h O (.list xs, f) v → ∃ a items, v = .ref a ∧ PlL h a items ∧ VRs h O xs items.toList
  | false, v, x => by
    have x' : VR h O (.list xs) v := x
    simp only [VR] at x'
    obtain ⟨a, items, e, _, hp, hv⟩ := x'
    exact ⟨a, items, e, hp, hv⟩
  | true, v, x => by
    obtain ⟨ys, a, items, e1, e2, _, hp, hv⟩ := x
    cases e1
    exact ⟨a, items, e2, hp, hv⟩
theorem vTup {h : Heap} {O : List Addr} {xs : List V} {v : Value} (x : VVR h O (.tuple xs, false) v) : ∃ a items, v = .ref a ∧ IsTup h a items ∧ VRs h O xs items.toList := by
  have x' : VR h O (.tuple xs) v := x
  simpa only [VR] using x'
theorem VRs.ints {h : Heap} {O : List Addr} : ∀ {ns : List Int} {vs : List Value}, VRs h O (ns.map .int) vs → IntsAre vs ns
  | [], _, x => by simp only [List.map_nil, VRs] at x; subst x; exact .nil
  | n :: ns, _, x => by
    simp only [List.map_cons, VRs] at x
    obtain ⟨v, r, rfl, hv, h2⟩ := x
    obtain ⟨t, rfl⟩ : ∃ t, v = .int n t := by simpa only [VR] using hv
    exact .cons n t (VRs.ints h2)
theorem VRs.strs {h : Heap} {O : List Addr} : ∀ {ns : List Str} {vs : List Value}, VRs h O (ns.map .str) vs → StrsAre vs ns
  | [], _, x => by simp only [List.map_nil, VRs] at x; subst x; exact .nil
  | n :: ns, _, x => by
    simp only [List.map_cons, VRs] at x
    obtain ⟨v, r, rfl, hv, h2⟩ := x
    obtain ⟨t, rfl⟩ : ∃ t, v = .str n t := by simpa only [VR] using hv
    exact .cons n t (VRs.strs h2)

/-! ints -/
theorem op_add (a b : Int) : Op2 C l (binaryOp .Add) (.int a, false) (.int b, false) (.int (a + b), false) := by
  intro A s O Q E v₁ v₂ R B L h₁ h₂ h
  obtain ⟨t, rfl⟩ := vInt h₁; obtain ⟨u, rfl⟩ := vInt h₂
  exact PyProof.Rows.add_int (h _ _ (KS.toks _ _) ⟨_, rfl⟩)
theorem op_sub (a b : Int) : Op2 C l (binaryOp .Sub) (.int a, false) (.int b, false) (.int (a - b), false) := by
  intro A s O Q E v₁ v₂ R B L h₁ h₂ h
  obtain ⟨t, rfl⟩ := vInt h₁; obtain ⟨u, rfl⟩ := vInt h₂
  exact PyProof.Rows.sub_int (h _ _ (KS.toks _ _) ⟨_, rfl⟩)
theorem op_mul (a b : Int) (ha : -(2 ^ 64) < a) (ha' : a < 2 ^ 64) : Op2 C l (binaryOp .Mult) (.int a, false) (.int b, false) (.int (a * b), false) := by
  intro A s O Q E v₁ v₂ R B L h₁ h₂ h
  obtain ⟨t, rfl⟩ := vInt h₁; obtain ⟨u, rfl⟩ := vInt h₂
  exact PyProof.Rows.mul_int (h _ _ (KS.toks _ _) ⟨_, rfl⟩) (IntMulOk.of_left (intBits_le_64 ha ha'))
theorem op_mod (a b : Int) (hb : 0 < b) (hb' : b < 1073741824) : Op2 C l (binaryOp .Mod) (.int a, false) (.int b, false) (.int (a % b), false) := by
  intro A s O Q E v₁ v₂ R B L h₁ h₂ h
  obtain ⟨t, rfl⟩ := vInt h₁; obtain ⟨u, rfl⟩ := vInt h₂
  have e : a % b = a.fmod b := by rw [Int.fmod_eq_emod_of_nonneg _ (by omega)]
  rw [e] at h
  exact mod_int' (by omega) (h _ _ (KS.toks _ _) ⟨_, rfl⟩)
theorem op_fdiv (a b : Int) (hb : 0 < b) (hb' : b < 1073741824) : Op2 C l (binaryOp .FloorDiv) (.int a, false) (.int b, false) (.int (a / b), false) := by
  intro A s O Q E v₁ v₂ R B L h₁ h₂ h
  obtain ⟨t, rfl⟩ := vInt h₁; obtain ⟨u, rfl⟩ := vInt h₂
  have e : a / b = a.fdiv b := by rw [Int.fdiv_eq_ediv_of_nonneg _ (by omega)]
  rw [e] at h
  exact floordiv_int (by omega) (h _ _ (KS.toks _ _) ⟨_, rfl⟩) (.inl (PyProof.noPylong_small (by omega)))
theorem op_and (a b : Int) : Op2 C l (binaryOp .BitAnd) (.int a, false) (.int b, false) (.int (Builtin.bitAnd a b), false) := by
  intro A s O Q E v₁ v₂ R B L h₁ h₂ h
  obtain ⟨t, rfl⟩ := vInt h₁; obtain ⟨u, rfl⟩ := vInt h₂
  exact PyProof.Rows.and_int (h _ _ (KS.toks _ _) ⟨_, rfl⟩)
theorem op_iand (a b : Int) : Op2 C l (inplaceOp .BitAnd) (.int a, false) (.int b, false) (.int (Builtin.bitAnd a b), false) := by
  intro A s O Q E v₁ v₂ R B L h₁ h₂ h
  obtain ⟨t, rfl⟩ := vInt h₁; obtain ⟨u, rfl⟩ := vInt h₂
  exact PyProof.Rows.iand_int (h _ _ (KS.toks _ _) ⟨_, rfl⟩)
theorem op_pow (a n : Int) (hn : 0 ≤ n) (hsz : (Builtin.Int.intBits a : Int) * n ≤ 2 ^ 27) : Op2 C l (binaryOp .Pow) (.int a, false) (.int n, false) (.int (a ^ n.toNat), false) := by
  intro A s O Q E v₁ v₂ R B L h₁ h₂ h
  obtain ⟨t, rfl⟩ := vInt h₁; obtain ⟨u, rfl⟩ := vInt h₂
  exact PyProof.Rows.pow_int hn hsz (h _ _ (KS.toks _ _) ⟨_, rfl⟩)
theorem op_neg (a : Int) : Op1 C l (unaryOp .USub) (.int a, false) (.int (-a), false) := by
  intro A s O Q E v₁ R B L h₁ h
  obtain ⟨t, rfl⟩ := vInt h₁
  exact PyProof.Rows.neg_int (h _ _ (KS.toks _ _) ⟨_, rfl⟩)
theorem op_eq_int (a b : Int) : Op2 C l (compareOp .Eq) (.int a, false) (.int b, false) (.bool (a == b), false) := by
  intro A s O Q E v₁ v₂ R B L h₁ h₂ h
  obtain ⟨t, rfl⟩ := vInt h₁; obtain ⟨u, rfl⟩ := vInt h₂
  exact PyProof.Rows.eq_int (h _ _ (KS.refl _) rfl)
theorem op_ge_int (a b : Int) : Op2 C l (compareOp .GtE) (.int a, false) (.int b, false) (.bool (decide (b ≤ a)), false) := by
  intro A s O Q E v₁ v₂ R B L h₁ h₂ h
  obtain ⟨t, rfl⟩ := vInt h₁; obtain ⟨u, rfl⟩ := vInt h₂
  exact PyProof.Rows.ge_int (h _ _ (KS.refl _) rfl)

/-! texts -/
theorem op_add_str (x y : Str) (hsz : x.length + y.length ≤ sizeLine) : Op2 C l (binaryOp .Add) (.str x, false) (.str y, false) (.str (x ++ y), false) := by
  intro A s O Q E v₁ v₂ R B L h₁ h₂ h
  obtain ⟨t, rfl⟩ := vStr h₁; obtain ⟨u, rfl⟩ := vStr h₂
  exact PyProof.Rows.add_str (fun t' tk => h _ _ (KS.toks _ _) ⟨_, rfl⟩) hsz
theorem op_iadd_str (x y : Str) (hsz : x.length + y.length ≤ sizeLine) : Op2 C l (inplaceOp .Add) (.str x, false) (.str y, false) (.str (x ++ y), false) := by
  intro A s O Q E v₁ v₂ R B L h₁ h₂ h
  obtain ⟨t, rfl⟩ := vStr h₁; obtain ⟨u, rfl⟩ := vStr h₂
  exact P.iadd_str (SB.post_add hsz fun t' tk => h _ _ (KS.toks _ _) ⟨_, rfl⟩)
theorem op_ne_str (x y : Str) : Op2 C l (compareOp .NotEq) (.str x, false) (.str y, false) (.bool (x != y), false) := by
  intro A s O Q E v₁ v₂ R B L h₁ h₂ h
  obtain ⟨t, rfl⟩ := vStr h₁; obtain ⟨u, rfl⟩ := vStr h₂
  exact PyProof.Rows.ne_str (h _ _ (KS.refl _) rfl)
theorem op_startswith (x y : Str) : Calls C l (.builtin "str.startswith") [(.str x, false), (.str y, false)] (.bool (Txt.startswith x y), false) := by
  intro A s O Q E vs R B L hv h
  obtain ⟨_, _, rfl, h₁, _, _, rfl, h₂, rfl⟩ := hv
  obtain ⟨t, rfl⟩ := vStr h₁; obtain ⟨u, rfl⟩ := vStr h₂
  exact SC.startswith (h _ _ (KS.refl _) rfl)
theorem op_endswith (x y : Str) : Calls C l (.builtin "str.endswith") [(.str x, false), (.str y, false)] (.bool (Txt.endswith x y), false) := by
  intro A s O Q E vs R B L hv h
  obtain ⟨_, _, rfl, h₁, _, _, rfl, h₂, rfl⟩ := hv
  obtain ⟨t, rfl⟩ := vStr h₁; obtain ⟨u, rfl⟩ := vStr h₂
  exact SC.endswith (h _ _ (KS.refl _) rfl)
theorem op_rfind (x y : Str) : Calls C l (.builtin "str.rfind") [(.str x, false), (.str y, false)] (.int (Txt.rfind x y), false) := by
  intro A s O Q E vs R B L hv h
  obtain ⟨_, _, rfl, h₁, _, _, rfl, h₂, rfl⟩ := hv
  obtain ⟨t, rfl⟩ := vStr h₁; obtain ⟨u, rfl⟩ := vStr h₂
  exact SC.rfind (h _ _ (KS.toks _ _) ⟨_, rfl⟩)
theorem op_rstrip (x y : Str) (hsz : x.length ≤ sizeLine) : Calls C l (.builtin "str.rstrip") [(.str x, false), (.str y, false)] (.str (Txt.rstripChars x y), false) := by
  intro A s O Q E vs R B L hv h
  obtain ⟨_, _, rfl, h₁, _, _, rfl, h₂, rfl⟩ := hv
  obtain ⟨t, rfl⟩ := vStr h₁; obtain ⟨u, rfl⟩ := vStr h₂
  exact SC.rstripChars (fun t' k => h _ _ (KS.toks _ _) ⟨_, rfl⟩) hsz
theorem op_ord (c : Nat) : Calls C l (.builtin "ord") [(.str ⟨#[c]⟩, false)] (.int c, false) := by
  intro A s O Q E vs R B L hv h
  obtain ⟨_, _, rfl, h₁, rfl⟩ := hv
  obtain ⟨t, rfl⟩ := vStr h₁
  exact PySem.P.ord_of_char (h _ _ (KS.toks _ _) ⟨_, rfl⟩)
theorem VRs.ofNumbered {h : Heap} {O : List Addr} : ∀ (l : List (Str × Tok)), VRs h O (l.map fun p => V.str p.1) (strValues l)
  | [] => VRs.nil
  | (x, t) :: r => by
    show VRs h O (V.str x :: _) (Value.str x t :: _)
    exact VRs.cons ⟨t, rfl⟩ (VRs.ofNumbered r)
theorem op_split (x y : Str) (hy : (y.length == 0) = false) (hsz : x.length ≤ sizeLine) (hsz2 : (Builtin.Str.partsBetween x (Builtin.Str.occurrences x y 0 x.length (x.length + 1)) y.length).length ≤ sizeLine) :
    Calls C l (.builtin "str.split") [(.str x, false), (.str y, false)] (.list ((Txt.split x y).map .str), false) := by
  intro A s O Q E vs R B L hv h
  obtain ⟨_, _, rfl, h₁, _, _, rfl, h₂, rfl⟩ := hv
  obtain ⟨t, rfl⟩ := vStr h₁; obtain ⟨u, rfl⟩ := vStr h₂
  have fin : ∀ (q : List (Str × Tok)) (tk : Nat), q.map (·.1) = Txt.split x y → Q (.ref s.heap.objs.size) { s with heap := s.heap.push { cls := .type "list", data := .seq (strValues q).toArray }, toks := tk } := fun q tk e => by
    refine h _ _ (KS.push _ _ _) ?_
    show VR _ _ (.list _) _
    simp only [VR]
    refine ⟨_, _, rfl, fun hO => ?_, ⟨_, _, Heap.get?_push_size _ rfl, rfl⟩, ?_⟩
    · obtain ⟨its, o, n, e', _⟩ := L _ hO
      rw [get?_new] at e'; cases e'
    · rw [← e, List.map_map]; exact VRs.ofNumbered q
  cases h1 : (decide (x.length < y.length) || decide (Builtin.Str.strKind x < Builtin.Str.strKind y))
  · cases hf : (Builtin.Str.occurrences x y 0 x.length (x.length + 1)).isEmpty
    · refine call_meets PySem.F.slot_str_split (typeIs_str _ _ _) PySem.F.entry_str_split (PySem.F.args_str_split_2 _ _) (meets_str_split_sep x y t u h1 hy hf hsz hsz2) ?_
      show wants Q E _ { s with toks := _, heap := s.heap.push { cls := .type "list", data := .seq (PySem.strsFrom s.toks (Builtin.Str.partsBetween x (Builtin.Str.occurrences x y 0 x.length (x.length + 1)) y.length)).toArray } }
      rw [strsFrom_eq]
      exact fin (numbered s.toks _) _ ((numbered_texts _ _).trans ((if_neg (ne_true_of_eq_false h1)).trans (if_neg (ne_true_of_eq_false hf))).symm)
    · exact call_meets PySem.F.slot_str_split (typeIs_str _ _ _) PySem.F.entry_str_split (PySem.F.args_str_split_2 _ _) (meets_str_split_not_found x y t u h1 hy hf)
        (fin [(x, t)] s.toks ((if_neg (ne_true_of_eq_false h1)).trans (if_pos hf)).symm)
  · exact call_meets PySem.F.slot_str_split (typeIs_str _ _ _) PySem.F.entry_str_split (PySem.F.args_str_split_2 _ _) (meets_str_split_cannot_occur x y t u h1)
      (fin [(x, t)] s.toks (if_pos h1).symm)
theorem strsAre_pairs : ∀ {vs : List Value} {ys : List Str}, StrsAre vs ys → ∃ q : List (Str × Tok), vs = strValues q ∧ q.map (·.1) = ys
  | _, _, .nil => ⟨[], rfl, rfl⟩
  | _, _, .cons y t r => by
    obtain ⟨q, e1, e2⟩ := strsAre_pairs r
    exact ⟨(y, t) :: q, by rw [e1]; rfl, by rw [← e2]; rfl⟩
theorem op_join (x : Str) (ys : List Str) (f : Bool) (hok : JoinOk x ys = true) : Calls C l (.builtin "str.join") [(.str x, false), (.list (ys.map .str), f)] (.str (Txt.join x ys), false) := by
  intro A s O Q E vs R B L hv h
  obtain ⟨_, _, rfl, h₁, _, _, rfl, h₂, rfl⟩ := hv
  obtain ⟨t, rfl⟩ := vStr h₁
  obtain ⟨a, items, rfl, hp, hr⟩ := vList h₂
  obtain ⟨q, e1, e2⟩ := strsAre_pairs hr.strs
  refine SC.join (l := q) (texts := ys) ?_ e2 hok fun t' k => h _ _ (KS.toks _ _) ⟨_, rfl⟩
  have := hp.isList
  rw [← e1]; simpa using this

/-! kinds -/
theorem op_type_str (x : Str) : Calls C l (.type "type") [(.str x, false)] (.type "str", false) := by
  intro A s O Q E vs R B L hv h
  obtain ⟨_, _, rfl, h₁, rfl⟩ := hv
  obtain ⟨t, rfl⟩ := vStr h₁
  exact call_type_of (typeIs_str _ _ _) (by decide) (h _ _ (KS.refl _) rfl)
theorem op_isbytes_str (x : Str) : Calls C l (.builtin "isinstance") [(.str x, false), (.type "bytes", false)] (.bool false, false) := by
  intro A s O Q E vs R B L hv h
  obtain ⟨_, _, rfl, h₁, _, _, rfl, h₂, rfl⟩ := hv
  obtain ⟨t, rfl⟩ := vStr h₁
  cases vType h₂
  exact call_isinstance (isinstance_false_str (by decide +kernel) PySem.F.isi_meta_bytes PySem.F.sub_str_bytes) (h _ _ (KS.toks _ _) rfl)

/-! truth -/
theorem tr_bool (b : Bool) : Truth C l (.bool b, false) b := by
  intro A s O Q E v R B L hv h
  cases vBool hv
  exact wpAny_truthy_bool (h _ (KS.refl _))
theorem tr_str (x : Str) (hx : x.length ≤ sizeLine) : Truth C l (.str x, false) (decide (x.length ≠ 0)) := by
  intro A s O Q E v R B L hv h
  obtain ⟨t, rfl⟩ := vStr hv
  have hz : (x.length : Int) < 2 ^ 63 := by have := hx; rw [sizeLine_eq] at this; omega
  refine PySem.P.truthy_str (by omega) ?_
  have e : ((x.length : Int) != 0) = decide (x.length ≠ 0) := by
    by_cases h0 : x.length = 0 <;> simp [h0]
  rw [e]; exact h _ (KS.toks _ _)
theorem tr_list (xs : List V) (f : Bool) (hx : xs.length ≤ sizeLine) : Truth C l (.list xs, f) (!xs.isEmpty) := by
  intro A s O Q E v R B L hv h
  obtain ⟨a, items, rfl, hp, hr⟩ := vList hv
  have hl := hr.length
  rw [Array.length_toList] at hl
  refine wpAny_truthy_list hp.isList (by have := hx; rw [sizeLine_eq] at this; omega) ?_
  have e : (!items.isEmpty) = (!xs.isEmpty) := by
    rw [Array.isEmpty]
    cases xs with
    | nil => simp at hl; simp [hl]
    | cons x r => simp at hl; simp [hl]
  rw [e]; exact h _ (KS.toks _ _)
theorem tr_tuple (xs : List V) (hx : xs.length ≤ sizeLine) : Truth C l (.tuple xs, false) (!xs.isEmpty) := by
  intro A s O Q E v R B L hv h
  obtain ⟨a, items, rfl, hp, hr⟩ := vTup hv
  have hl := hr.length
  rw [Array.length_toList] at hl
  refine PyProof.Rows.truthy_tuple hp (by have := hx; rw [sizeLine_eq] at this; omega) ?_
  have e : (!items.isEmpty) = (!xs.isEmpty) := by
    rw [Array.isEmpty]
    cases xs with
    | nil => simp at hl; simp [hl]
    | cons x r => simp at hl; simp [hl]
  rw [e]; exact h _ (KS.toks _ _)

/-! lengths -/
theorem op_len_list (xs : List V) (f : Bool) (hx : xs.length ≤ sizeLine) : Calls C l (.builtin "len") [(.list xs, f)] (.int xs.length, false) := by
  intro A s O Q E vs R B L hv h
  obtain ⟨_, _, rfl, h₁, rfl⟩ := hv
  obtain ⟨a, items, rfl, hp, hr⟩ := vList h₁
  have hl := hr.length
  rw [Array.length_toList] at hl
  refine PyProof.Rows.len_list hp.isList (by have := hx; rw [sizeLine_eq] at this; omega) ?_
  rw [hl]; exact h _ _ (KS.toks _ _) ⟨_, rfl⟩
theorem op_len_str (x : Str) (hx : x.length ≤ sizeLine) : Calls C l (.builtin "len") [(.str x, false)] (.int x.length, false) := by
  intro A s O Q E vs R B L hv h
  obtain ⟨_, _, rfl, h₁, rfl⟩ := hv
  obtain ⟨t, rfl⟩ := vStr h₁
  exact PyProof.Rows.len_str (by have := hx; rw [sizeLine_eq] at this; omega) (h _ _ (KS.toks _ _) ⟨_, rfl⟩)
theorem op_len_bytes (x : List UInt8) (hx : x.length ≤ sizeLine) : Calls C l (.builtin "len") [(.bytes x, false)] (.int x.length, false) := by
  intro A s O Q E vs R B L hv h
  obtain ⟨_, _, rfl, h₁, rfl⟩ := hv
  obtain ⟨t, rfl⟩ := vBytes h₁
  refine len_bytes (by have := hx; rw [sizeLine_eq] at this; simp; omega) ?_
  rw [List.size_toArray]; exact h _ _ (KS.toks _ _) ⟨_, rfl⟩
end
end

section
section
variable {C : Ctx} {l : Nat} {sc : Scope} {ρ : Rho}

theorem sub_ops (slice : Expr) (o i : Value) : ∃ ops, subscripted slice false o i = operate ops (getItem o i) := by
  unfold subscripted
  split
  · exact ⟨_, rfl⟩
  · rename_i h; cases h
  · exact ⟨_, rfl⟩

/-- a place of a value -/
theorem Ev.sub {value slice : Expr} {pos : Pos} {d₁ d₂ d : VV} {T id : String} (h₁ : Ev C l sc ρ value d₁) (h₂ : Ev C l sc ρ slice d₂) (hl : typeLookup (.type T) "__getitem__" = pure (some (.builtin id)))
    (hT : ∀ (s : Shared) O v, VVR s.heap O d₁ v → s.TypeIs v T) (ho : Op2 C l getItem d₁ d₂ d) : Ev C l sc ρ (.Subscript value slice pos) d := by
  intro A s env O Q E R hs er h
  refine Subscript_ (h₁ R hs er fun v₁ s₁ k₁ r₁ => h₂ R hs (er.ks k₁) fun v₂ s₂ k₂ r₂ => ?_)
  have r₁' := r₁.ks (er.ks k₁).base k₂
  obtain ⟨ops, e⟩ := sub_ops slice v₁ v₂
  refine tail_any (hT _ _ _ r₁') hl (ho R ((er.ks k₁).ks k₂).base ((er.ks k₁).ks k₂).lists r₁' r₂ fun v s' k r => h v s' (k₁.trans (k₂.trans k)) r) e

theorem list_type {xs : List V} {f : Bool} (s : Shared) (O : List Addr) (v : Value) (h : VVR s.heap O (.list xs, f) v) : s.TypeIs v "list" := by
  obtain ⟨a, items, rfl, hp, _⟩ := vList h
  exact hp.isList.typeIs
theorem tup_type {xs : List V} (s : Shared) (O : List Addr) (v : Value) (h : VVR s.heap O (.tuple xs, false) v) : s.TypeIs v "tuple" := by
  obtain ⟨a, items, rfl, hp, _⟩ := vTup h
  exact hp.typeIs
theorem str_type {x : Str} (s : Shared) (O : List Addr) (v : Value) (h : VVR s.heap O (.str x, false) v) : s.TypeIs v "str" := by
  obtain ⟨t, rfl⟩ := vStr h
  exact typeIs_str _ _ _
theorem bytes_type {x : List UInt8} (s : Shared) (O : List Addr) (v : Value) (h : VVR s.heap O (.bytes x, false) v) : s.TypeIs v "bytes" := by
  obtain ⟨t, rfl⟩ := vBytes h
  exact typeIs_bytes _ _ _

theorem get_list {xs : List V} {f : Bool} {i : Int} {d : V} (h0 : 0 ≤ i) (hhi : i < 2 ^ 63) (hd : xs[i.toNat]? = some d) : Op2 C l getItem (.list xs, f) (.int i, false) (d, false) := by
  intro A s O Q E v₁ v₂ R B L h₁ h₂ h
  obtain ⟨a, items, rfl, hp, hr⟩ := vList h₁
  obtain ⟨u, rfl⟩ := vInt h₂
  obtain ⟨v, hv, hvr⟩ := hr.get hd
  exact wpAny_getItem_list hp.isList h0 hhi (by rw [← Array.getElem?_toList]; exact hv) (h _ _ (KS.refl _) hvr)
theorem get_list_last {xs : List V} {f : Bool} {d : V} (hd : xs.getLast? = some d) (hsz : xs.length ≤ sizeLine) : Op2 C l getItem (.list xs, f) (.int (-1), false) (d, false) := by
  intro A s O Q E v₁ v₂ R B L h₁ h₂ h
  obtain ⟨a, items, rfl, hp, hr⟩ := vList h₁
  obtain ⟨u, rfl⟩ := vInt h₂
  rw [List.getLast?_eq_getElem?] at hd
  obtain ⟨v, hv, hvr⟩ := hr.get hd
  have hl := hr.length
  rw [Array.length_toList] at hl
  have hne : 0 < xs.length := by
    have := (List.getElem?_eq_some_iff.mp hd).1; omega
  refine wpAny_getItem_list_neg hp.isList (by decide) (by omega) (by decide) ?_ (h _ _ (KS.refl _) hvr)
  rw [← Array.getElem?_toList, ← hv]
  congr 1
  omega
theorem get_tup {xs : List V} {i : Int} {j : Nat} {d : V} (hlo : -(2 ^ 63) ≤ i) (hhi : i < 2 ^ 63) (hj : seqIndex? i xs.length = some j) (hd : xs[j]? = some d) : Op2 C l getItem (.tuple xs, false) (.int i, false) (d, false) := by
  intro A s O Q E v₁ v₂ R B L h₁ h₂ h
  obtain ⟨a, items, rfl, hp, hr⟩ := vTup h₁
  obtain ⟨u, rfl⟩ := vInt h₂
  obtain ⟨v, hv, hvr⟩ := hr.get hd
  have hl := hr.length
  rw [Array.length_toList] at hl
  exact PyProof.Rows.getItem_tuple hp hlo hhi (by rw [hl]; exact hj) (by rw [← Array.getElem?_toList]; exact hv) (h _ _ (KS.refl _) hvr)

/-! slices -/
noncomputable def EvP (C : Ctx) (l : Nat) (sc : Scope) (ρ : Rho) : Option Expr → Option Int → Prop
  | none, none => True
  | some e, some i => Ev C l sc ρ e (.int i, false)
  | _, _ => False
theorem EvP.run {p : Option Expr} {i : Option Int} (h : EvP C l sc ρ p i) {A : Around} {s : Shared} {env : Env} {O : List Addr} {Q : Value → Shared → Prop} {E : Value → Shared → Prop} (R : Room l A) (hs : env.scope = sc) (er : ER C env ρ O s)
    (hQ : ∀ v s', KS C.T s s' → IsPart v i → Q v s') : wpAny (model C.prog C.w) A (evalPart p env) Q E s := by
  match p, i, h with
  | none, none, _ => exact wpAny_pure (hQ _ _ (KS.refl _) .none)
  | some e, some i, h =>
    refine (h : Ev C l sc ρ e (.int i, false)) R hs er fun v s' k r => ?_
    obtain ⟨t, rfl⟩ := vInt r
    exact hQ _ _ k (.int i t)

noncomputable def pickV (xs : List V) (lo hi st : Option Int) : List V := (sliceRange (sliceBounds lo hi st xs.length).1 (sliceBounds lo hi st xs.length).2.1 (sliceBounds lo hi st xs.length).2.2).filterMap (xs[·]?)
theorem VRs.places {h : Heap} {O : List Addr} {xs : List V} {vs : List Value} (hv : VRs h O xs vs) : ∀ js : List Nat, VRs h O (js.filterMap (xs[·]?)) (js.filterMap (vs[·]?))
  | [] => VRs.nil
  | j :: js => by
    have ih := VRs.places hv js
    cases hx : xs[j]? with
    | some d =>
      obtain ⟨v, hv', hr⟩ := hv.get hx
      rw [List.filterMap_cons_some hx, List.filterMap_cons_some hv']
      exact VRs.cons hr ih
    | none =>
      have hn : vs[j]? = none := by
        have := hv.length
        rw [List.getElem?_eq_none_iff] at hx ⊢
        omega
      rw [List.filterMap_cons_none hx, List.filterMap_cons_none hn]
      exact ih
theorem VRs.pick {h : Heap} {O : List Addr} {xs : List V} {items : Array Value} (hv : VRs h O xs items.toList) (lo hi st : Option Int) : VRs h O (pickV xs lo hi st) (slicePick items lo hi st).toList := by
  have hl := hv.length
  rw [Array.length_toList] at hl
  have e : (slicePick items lo hi st).toList = (sliceRange (sliceBounds lo hi st xs.length).1 (sliceBounds lo hi st xs.length).2.1 (sliceBounds lo hi st xs.length).2.2).filterMap (items.toList[·]?) := by
    simp [slicePick, hl]
  rw [e]
  exact hv.places _
theorem EvNew.slice {value : Expr} {lower upper step : Option Expr} {p pos : Pos} {xs : List V} {f : Bool} {lo hi st : Option Int} (h : Ev C l sc ρ value (.list xs, f)) (hlo : EvP C l sc ρ lower lo) (hhi : EvP C l sc ρ upper hi) (hst : EvP C l sc ρ step st) (h0 : st ≠ some 0) (hsz : xs.length ≤ sizeLine) :
    EvNew C l sc ρ (.Subscript value (.Slice lower upper step p) pos) (pickV xs lo hi st) := by
  intro A s env O Q E R hs er hQ
  refine Subscript_ (h R hs er fun v₁ s₁ k₁ r₁ => ?_)
  refine wpAny_Slice (hlo.run R hs (er.ks k₁) fun vl s₂ k₂ pl => hhi.run R hs ((er.ks k₁).ks k₂) fun vu s₃ k₃ pu => hst.run R hs (((er.ks k₁).ks k₂).ks k₃) fun vk s₄ k₄ pk => ?_)
  have er₄ := (((er.ks k₁).ks k₂).ks k₃).ks k₄
  have k₅ : KS C.T s₄ { s₄ with heap := s₄.heap.push { cls := .type "slice", data := .fields #[vl, vu, vk] } } := KS.push _ _ _
  have r₅ := (((r₁.ks (er.ks k₁).base k₂).ks ((er.ks k₁).ks k₂).base k₃).ks (((er.ks k₁).ks k₂).ks k₃).base k₄).ks er₄.base k₅
  obtain ⟨a, items, rfl, hp, hr⟩ := vList r₅
  have hl := hr.length
  rw [Array.length_toList] at hl
  obtain ⟨ops, e⟩ := sub_ops (.Slice lower upper step p) (.ref a) (.ref s₄.heap.objs.size)
  refine tail_any (hp.isList.typeIs (s := { s₄ with heap := s₄.heap.push { cls := .type "slice", data := .fields #[vl, vu, vk] } })) PySem.slot_list_getitem.lookup ?_ e
  refine wpAny_getItem_list_slice hp.isList (Heap.IsSliceOf.new ..) pl pu pk h0 ?_ (by omega)
  have kAll := k₁.trans (k₂.trans (k₃.trans (k₄.trans k₅)))
  refine hQ _ (slicePick items lo hi st) _ (kAll.trans (KS.push _ _ _)) (kAll.grows er.base.grown _ (get?_new _)) ⟨_, _, Heap.get?_push_size _ rfl, rfl⟩ ?_
  have newA : ∀ b its, PlL (s₄.heap.push { cls := .type "slice", data := .fields #[vl, vu, vk] }) b its → b ≠ (s₄.heap.push { cls := .type "slice", data := .fields #[vl, vu, vk] }).objs.size := fun b its y q => by
    obtain ⟨o, n, e, _⟩ := y
    rw [q, get?_new] at e; cases e
  exact VRs.tr (fun b its hb z => ⟨fun q => (List.mem_cons.mp q).elim (newA b its z) hb, plL_at z fun o e => Heap.get?_push_of_some _ e⟩) (fun b its z => isTup_at z fun o e => Heap.get?_push_of_some _ e) (hr.pick lo hi st)
theorem Ev.sliceStr {value : Expr} {lower upper : Option Expr} {p pos : Pos} {x : Str} {lo hi : Option Int} (h : Ev C l sc ρ value (.str x, false)) (hlo : EvP C l sc ρ lower lo) (hhi : EvP C l sc ρ upper hi) (hsz : x.length ≤ sizeLine) :
    Ev C l sc ρ (.Subscript value (.Slice lower upper none p) pos) (.str (Txt.slice x lo hi), false) := by
  intro A s env O Q E R hs er hQ
  refine Subscript_ (h R hs er fun v₁ s₁ k₁ r₁ => ?_)
  refine wpAny_Slice (hlo.run R hs (er.ks k₁) fun vl s₂ k₂ pl => hhi.run R hs ((er.ks k₁).ks k₂) fun vu s₃ k₃ pu => wpAny_pure ?_)
  obtain ⟨t, rfl⟩ := vStr r₁
  have kAll := k₁.trans (k₂.trans k₃)
  have hk : KeptH fun h' => ∀ b o, s₃.heap.get? b = some o → h'.get? b = some o := fun h' ob hh b o e => Heap.get?_push_of_some _ (hh b o e)
  have fin : ∀ h' t' k, (∀ b o, s₃.heap.get? b = some o → h'.get? b = some o) → Q (.str (Txt.slice x lo hi) t') { s₃ with heap := h', toks := k } := fun h' t' k hh => hQ _ _ (kAll.trans (KS.of hh)) ⟨_, rfl⟩
  cases pl with
  | none => cases pu with
    | none =>
      obtain ⟨ops, e⟩ := sub_ops (.Slice lower upper none p) (.str x t) (.ref s₃.heap.objs.size)
      obtain ⟨T, id, hl, hT, hg⟩ := SBH.sliceItem_nn (prog := C.prog) (w := C.w) (A := A) (E := E) (t := t) hk (fun _ _ e => e) (fun h' t' k hh => fin h' t' k hh) hsz
      exact tail_any hT hl hg e
    | int j uj =>
      obtain ⟨ops, e⟩ := sub_ops (.Slice lower upper none p) (.str x t) (.ref s₃.heap.objs.size)
      obtain ⟨T, id, hl, hT, hg⟩ := SBH.sliceItem_ns (prog := C.prog) (w := C.w) (A := A) (E := E) (t := t) (uj := uj) hk (fun _ _ e => e) (fun h' t' k hh => fin h' t' k hh) hsz
      exact tail_any hT hl hg e
  | int i ui => cases pu with
    | none =>
      obtain ⟨ops, e⟩ := sub_ops (.Slice lower upper none p) (.str x t) (.ref s₃.heap.objs.size)
      obtain ⟨T, id, hl, hT, hg⟩ := SBH.sliceItem_sn (prog := C.prog) (w := C.w) (A := A) (E := E) (t := t) (ui := ui) hk (fun _ _ e => e) (fun h' t' k hh => fin h' t' k hh) hsz
      exact tail_any hT hl hg e
    | int j uj =>
      obtain ⟨ops, e⟩ := sub_ops (.Slice lower upper none p) (.str x t) (.ref s₃.heap.objs.size)
      obtain ⟨T, id, hl, hT, hg⟩ := SBH.sliceItem_ss (prog := C.prog) (w := C.w) (A := A) (E := E) (t := t) (ui := ui) (uj := uj) hk (fun _ _ e => e) (fun h' t' k hh => fin h' t' k hh) hsz
      exact tail_any hT hl hg e

/-! displays -/
theorem EvNew.display {es : List Expr} {pos : Pos} {ds : List V} (h : EvA C l sc ρ es (plainVV ds)) (hsz : ds.length ≤ sizeLine) : EvNew C l sc ρ (.List es pos) ds := by
  intro A s env O Q E R hs er hQ
  rw [arm_eval_List]
  refine wpAny_bind (wpAny_standAt (wpAny_bind (h R hs er fun vs s' k r => ?_)))
  refine wpAny_newObj_type ?_ ?_
  · refine hQ _ _ _ (k.trans (KS.push _ _ _)) (k.grows er.base.grown _ (get?_new _)) ⟨_, _, Heap.get?_push_size _ rfl, rfl⟩ ?_
    have newA : ∀ b its, PlL s'.heap b its → b ≠ s'.heap.objs.size := fun b its y q => by
      obtain ⟨o, n, e, _⟩ := y
      rw [q, get?_new] at e; cases e
    exact VRs.tr (fun b its hb z => ⟨fun q => (List.mem_cons.mp q).elim (newA b its z) hb, plL_at z fun o e => Heap.get?_push_of_some _ e⟩) (fun b its z => isTup_at z fun o e => Heap.get?_push_of_some _ e) r.plain
  · have := r.plain.length
    show vs.toArray.size ≤ sizeLine
    rw [List.size_toArray]; omega
theorem Ev.tuple {es : List Expr} {k : Nat} {pos : Pos} {ds : List V} (h : EvA C l sc ρ es (plainVV ds)) (hsz : ds.length ≤ sizeLine) : Ev C l sc ρ (.Tuple es k pos) (.tuple ds, false) := by
  intro A s env O Q E R hs er hQ
  rw [arm_eval_Tuple]
  refine wpAny_bind (wpAny_standAt (wpAny_bind (h R hs er fun vs s' k r => ?_)))
  refine wpAny_newObj_type ?_ ?_
  · refine hQ _ _ (k.trans (KS.push _ _ _)) ?_
    show VR _ _ (.tuple ds) _
    simp only [VR]
    exact ⟨_, _, rfl, ⟨_, Heap.get?_push_size _ rfl, rfl, _, rfl⟩, VRs.tr (fun b its hb z => ⟨hb, plL_at z fun o e => Heap.get?_push_of_some _ e⟩) (fun b its z => isTup_at z fun o e => Heap.get?_push_of_some _ e) r.plain⟩
  · have := r.plain.length
    show vs.toArray.size ≤ sizeLine
    rw [List.size_toArray]; omega

theorem EvNew.addList {e₁ e₂ : Expr} {pos : Pos} {xs ys : List V} {f g : Bool} (h₁ : Ev C l sc ρ e₁ (.list xs, f)) (h₂ : Ev C l sc ρ e₂ (.list ys, g)) (hsz : xs.length + ys.length ≤ sizeLine) : EvNew C l sc ρ (.BinOp e₁ .Add e₂ pos) (xs ++ ys) := by
  intro A s env O Q E R hs er hQ
  refine wpAny_BinOp (h₁ R hs er fun v₁ s₁ k₁ r₁ => h₂ R hs (er.ks k₁) fun v₂ s₂ k₂ r₂ => ?_)
  obtain ⟨a, items, rfl, hp, hr⟩ := vList (r₁.ks (er.ks k₁).base k₂)
  obtain ⟨b, items2, rfl, hp2, hr2⟩ := vList r₂
  have e1 := hr.length; have e2 := hr2.length
  rw [Array.length_toList] at e1 e2
  obtain ⟨_, n, ho, rfl⟩ := id hp
  obtain ⟨_, n2, ho2, rfl⟩ := id hp2
  refine PySem.P.add_list ho ho2 (hQ _ (items ++ items2) _ (k₁.trans (k₂.trans (KS.push _ _ _))) ((k₁.trans k₂).grows er.base.grown _ (get?_new _)) ⟨_, _, Heap.get?_push_size _ rfl, rfl⟩ ?_) (by omega)
  have newA : ∀ b its, PlL s₂.heap b its → b ≠ s₂.heap.objs.size := fun b its y q => by
    obtain ⟨o, n, e, _⟩ := y
    rw [q, get?_new] at e; cases e
  rw [Array.toList_append]
  exact VRs.tr (fun b its hb z => ⟨fun q => (List.mem_cons.mp q).elim (newA b its z) hb, plL_at z fun o e => Heap.get?_push_of_some _ e⟩) (fun b its z => isTup_at z fun o e => Heap.get?_push_of_some _ e) (hr.append hr2)

/-! comparisons of lists, in, index -/
theorem op_in_ints (k : Int) (ns : List Int) (f : Bool) : Op2 C l (compareOp .In) (.int k, false) (.list (ns.map .int), f) (.bool (ns.any (· == k)), false) := by
  intro A s O Q E v₁ v₂ R B L h₁ h₂ h
  obtain ⟨t, rfl⟩ := vInt h₁
  obtain ⟨a, items, rfl, hp, hr⟩ := vList h₂
  have := hp.isList
  exact in_list_ints (vs := items.toList) (by simpa using this) hr.ints (h _ _ (KS.refl _) rfl)
theorem strsAre_get : ∀ {vs : List Value} {ys : List Str} {j : Nat} {y : Str}, StrsAre vs ys → ys[j]? = some y → ∃ t, vs[j]? = some (.str y t)
  | _, _, 0, _, .cons y t r, e => by cases e; exact ⟨t, rfl⟩
  | _, _, j + 1, _, .cons _ _ r, e => strsAre_get (j := j) r e
theorem strsAre_len : ∀ {vs : List Value} {ys : List Str}, StrsAre vs ys → vs.length = ys.length
  | _, _, .nil => rfl
  | _, _, .cons y t r => by simp [strsAre_len r]
theorem op_ne_strs (xs ys : List Str) (f g : Bool) : Op2 C l (compareOp .NotEq) (.list (xs.map .str), f) (.list (ys.map .str), g) (.bool (xs != ys), false) := by
  intro A s O Q E v₁ v₂ R B L h₁ h₂ h
  obtain ⟨a, items, rfl, hp, hr⟩ := vList h₁
  obtain ⟨b, items2, rfl, hp2, hr2⟩ := vList h₂
  have s1 := hr.strs; have s2 := hr2.strs
  have e1 := strsAre_len s1; have e2 := strsAre_len s2
  rw [Array.length_toList] at e1 e2
  by_cases hlen : xs.length = ys.length
  · have key := SeqAt.RcNeAt.lists (A := A) (s := s) (e := fun j => xs[j]? == ys[j]?) hp.isList hp2.isList (by omega) R.unit (fun j h1 h2 => ?_)
    · refine key C.prog C.w E Q ?_
      have : (!(List.range items.size).all fun j => xs[j]? == ys[j]?) = (xs != ys) := by
        rw [bne]
        congr 1
        rw [e1, Bool.eq_iff_iff]
        simp only [List.all_eq_true, List.mem_range, beq_iff_eq]
        constructor
        · intro hh
          refine List.ext_getElem? fun j => ?_
          by_cases hj : j < xs.length
          · exact hh j hj
          · rw [List.getElem?_eq_none (by omega), List.getElem?_eq_none (by omega)]
        · rintro rfl j _; rfl
      rw [this]
      exact h _ _ (KS.refl _) rfl
    · obtain ⟨t, ht⟩ := strsAre_get s1 (List.getElem?_eq_getElem (show j < xs.length by omega))
      obtain ⟨u, hu⟩ := strsAre_get s2 (List.getElem?_eq_getElem (show j < ys.length by omega))
      rw [Array.getElem?_toList, Array.getElem?_eq_getElem h1] at ht
      rw [Array.getElem?_toList, Array.getElem?_eq_getElem h2] at hu
      rw [Option.some.inj ht, Option.some.inj hu]
      have : (xs[j]? == ys[j]?) = (xs[j]'(by omega) == ys[j]'(by omega)) := by
        rw [List.getElem?_eq_getElem (show j < xs.length by omega), List.getElem?_eq_getElem (show j < ys.length by omega)]
        rfl
      rw [this]
      exact SeqAt.EqAt.str_str _ _ _ _
  · refine SeqAt.RcNeAt.lists_lengths (A := A) (s := s) hp.isList hp2.isList (by rw [e1, e2]; simpa using hlen) R.unit C.prog C.w E Q ?_
    have : (xs != ys) = true := by
      rw [bne_iff_ne]; intro q; exact hlen (by rw [q])
    rw [this] at h
    exact h _ _ (KS.refl _) rfl
noncomputable def isStrB (k : Str) : Value → Bool
  | .str x _ => x == k
  | _ => false
theorem op_index_strs (k : Str) (ns : List Str) (f : Bool) (hk : k ∈ ns) (hsz : ns.length ≤ sizeLine) : Calls C l (.builtin "list.index") [(.list (ns.map .str), f), (.str k, false)] (.int (ns.idxOf k : Nat), false) := by
  intro A s O Q E vs R B L hv h
  obtain ⟨_, _, rfl, h₁, _, _, rfl, h₂, rfl⟩ := hv
  obtain ⟨a, items, rfl, hp, hr⟩ := vList h₁
  obtain ⟨t, rfl⟩ := vStr h₂
  have s1 := hr.strs
  have e1 := strsAre_len s1
  rw [Array.length_toList] at e1
  have hj : ns.idxOf k < ns.length := List.idxOf_lt_length_iff.mpr hk
  obtain ⟨_, n, ho, rfl⟩ := id hp
  have at' : ∀ j (hj : j < items.size), ∃ u, items[j] = .str (ns[j]'(by omega)) u := fun j hj => by
    obtain ⟨u, hu⟩ := strsAre_get s1 (List.getElem?_eq_getElem (show j < ns.length by omega))
    rw [Array.getElem?_toList, Array.getElem?_eq_getElem hj] at hu
    exact ⟨u, Option.some.inj hu⟩
  refine call_meets PySem.F.slot_list_index ⟨_, ho, rfl⟩ PySem.F.entry_list_index (PySem.F.args_list_index_2 _ _)
    (SeqAt.list_indexAt a items n none #[] (.str k t) (isStrB k) (ns.idxOf k) (by omega) (by have := hsz; rw [sizeLine_eq] at this; omega) ?_ ?_) ⟨ho, fun y hy => ?_, h _ _ (KS.toks _ _) ⟨_, rfl⟩⟩
  · obtain ⟨u, hu⟩ := at' (ns.idxOf k) (by omega)
    rw [hu]
    show (ns[ns.idxOf k] == k) = true
    simp
  · intro j hjs hlt
    obtain ⟨u, hu⟩ := at' j hjs
    rw [hu]
    show (ns[j]'(by omega) == k) = false
    exact List.not_of_lt_findIdx (p := (· == k)) hlt
  · obtain ⟨j, hj', rfl⟩ := Array.mem_iff_getElem.mp hy
    obtain ⟨u, hu⟩ := at' j hj'
    rw [hu]
    exact SeqAt.EqAt.str_str _ _ _ _
end
end

section
section
variable {prog : Program} {w : World} {A : Around} {E : Value → Shared → Prop} {s : Shared}
theorem sub_nested_str {k : Value} {dep : Int} {tk : Tok} {Q : Fin → Shared → Prop} (hk : k = .int dep tk) (hq : Q (.done (.ret (.bool true))) s) :
    wpAny (model prog w) A (Builtin.«issubclass.nested» ⟨[.type "str", .type "str", k], []⟩) Q E s := by
  subst hk
  have hm := PySem.F.isi_meta_str
  have hself := PySem.F.sub_str_str
  repeat (any_goals (first | assumption | (rw [if_pos hm]) | (rw [hself]) | wp_step))
theorem sub_tuple {T : Addr} {items : Array Value} {r : Value} (hT : items = #[.type "str", r]) :
    Meets (Builtin.«issubclass» ⟨[.type "str", .ref T], []⟩) (fun _ R s => IsTup s.heap T items ∧ R (.ok (.ret (.bool true))) s) :=
  fun prog w A R s hs => issubclass_outer (by
    obtain ⟨⟨o, ho, hc, n, hd⟩, hR⟩ := hs
    have hTy : s.TypeIs (.ref T) "tuple" := ⟨o, ho, hc⟩
    unfold Builtin.«issubclass.nested»
    show wpAny _ _ (typeOf (.ref T) >>= _) _ _ _
    refine wpAny_bind (wpAny_typeOf hTy ?_)
    rw [if_neg (by decide)]
    show wpAny _ _ (Builtin.Builtins.unionMembers (.ref T) >>= _) _ _ _
    refine wpAny_bind ?_
    unfold Builtin.Builtins.unionMembers
    refine wpAny_bind (wpAny_typeOf hTy ?_)
    rw [if_neg (by decide)]
    refine wpAny_pure ?_
    refine wpAny_bind (wpAny_isInstance (T := "tuple") (b := true) hTy (by rw [isSubtype_type]; kernel_rfl) ?_)
    rw [if_pos rfl, if_neg (by decide)]
    refine wpAny_bind (wpAny_bind (wpAny_load ho ?_))
    rw [hd]
    refine wpAny_pure ?_
    subst hT
    refine wpAny_bind ?_
    rw [Option.getD_some, ← Array.forIn_toList, List.forIn_cons]
    refine wpAny_bind (wpAny_bind (call_function_meets (S := fun _ R s => R (.ok (.ret (.bool true))) s) (by decide +kernel) (by decide +kernel) PySem.F.entry_issubclass_nested (by unfold argsOk; kernel_rfl) (fun prog w A R s hs => sub_nested_str rfl hs) ?_))
    show wpAny _ _ (truthy (.bool true) >>= _) _ _ _
    refine wpAny_bind (m := truthy (.bool true)) (wpAny_pure ?_)
    exact wpAny_bind (wpAny_pure (wpAny_pure (wpAny_pure (wpAny_pure hR)))))
end
section
variable {C : Ctx} {l : Nat}
theorem op_issubclass_str (r : V) : Calls C l (.builtin "issubclass") [(.type "str", false), (.tuple [.type "str", r], false)] (.bool true, false) := by
  intro A s O Q E vs R B L hv h
  obtain ⟨_, _, rfl, h₁, _, _, rfl, h₂, rfl⟩ := hv
  cases vType h₁
  obtain ⟨T, items, rfl, ht, hr⟩ := vTup h₂
  simp only [VRs] at hr
  obtain ⟨v1, r1, e1, h3, v2, r2, e2, _, e3⟩ := hr
  have h3' : v1 = .type "str" := by simpa only [VR] using h3
  have e : items = #[.type "str", v2] := by
    apply Array.toList_inj.mp
    rw [e1, e2, e3, h3']
  exact call_issubclass (sub_tuple e) ⟨ht, h _ _ (KS.refl _) rfl⟩
end
end

section
/-- the written part of the heap -/
noncomputable abbrev KF (P : Params) : Frag := lawK P
noncomputable def P0 : Params := { strHash := fun _ => 0, shareClass := fun _ => 0, mergeTok := fun t => t, idOf := fun _ => 0, idOfShared := fun _ _ => 0, followText := fun _ => false, idOfImm := fun _ => 0 }
noncomputable def fdAt (a : Addr) : FuncData := match (KF P0).lookup a with
  | some ⟨_, _, .func fd, _⟩ => fd
  | _ => { name := "", qualname := "", params := { posonlyargs := [], args := [], vararg := none, kwonlyargs := [], kw_defaults := [], kwarg := none, defaults := [] }, body := .stmts [], scope := { kind := .function, names := [], isGenerator := false, isCoroutine := false }, globals := 0, closure := [], defaults := .none, kwdefaults := .none, pyModule := .none, code := .none }
noncomputable def bodyAt (a : Addr) : List Stmt := match (fdAt a).body with
  | .stmts b => b
  | _ => []

structure Prog (C : Ctx) : Prop where
  X : (KF C.w.params).In C.G
  builtins : ∀ x : Str, x ≠ "__name__" → C.mb x = bootBuiltins x
  code : CodeHd C.G 201 197
  bm : ∃ bm ob, C.mg "__builtins__" = some (.ref bm) ∧ bm ≠ builtinsNs ∧ C.G.get? bm = some ob ∧ ob.cls = .type "module" ∧ ob.dict = some builtinsNs ∧ ob.data = .plain
theorem Prog.calm {C : Ctx} (H : Prog C) : Prog C.calm := ⟨H.X, H.builtins, H.code, H.bm⟩

noncomputable def plainFd (a : Addr) : Bool := (fdAt a).closure.isEmpty && !(fdAt a).scope.isCoroutine && !(fdAt a).scope.isGenerator && (fdAt a).scope.kind == .function && (fdAt a).globals == mainGlobals && (fdAt a).builtins == builtinsNs &&
  (match (fdAt a).body with | .stmts _ => true | _ => false)
noncomputable def isFdAt (K : Frag) (a : Addr) : Prop := ∃ c d s, K.lookup a = some ⟨c, d, .func (fdAt a), s⟩

theorem defAt {C : Ctx} (H : Prog C) {a : Addr} (h1 : ∀ P, isFdAt (KF P) a) (h2 : plainFd a = true) (h3 : ∀ P, codeIn (KF P) (fdAt a).code (fdAt a).qualname = true) : DefAt C a (fdAt a) (bodyAt a) := by
  unfold plainFd at h2
  simp only [Bool.and_eq_true, Bool.not_eq_true', beq_iff_eq, List.isEmpty_iff] at h2
  obtain ⟨⟨⟨⟨⟨⟨c1, c2⟩, c3⟩, c4⟩, c5⟩, c6⟩, c7⟩ := h2
  obtain ⟨c, d, s, e⟩ := h1 C.w.params
  refine ⟨⟨_, H.X _ _ e, rfl⟩, codeRec_of H.X (h3 _), ?_, c1, c2, c3, c4, c5, c6⟩
  unfold bodyAt
  cases hb : (fdAt a).body with
  | stmts b => rfl
  | _ => rw [hb] at c7; cases c7

theorem EvN.glob {C : Ctx} (H : Prog C) {sc : Scope} {x : Str} {pos : Pos} {v : Value} (hk : sc.names.lookup x = some .globalImplicit) (hv : ∀ P, nsIn (KF P) mainGlobals x = some (some v)) (hd : (x == ("__debug__" : Str)) = false := by decide +kernel) : EvN C sc (.Name x pos) v :=
  EvN.global hk (mg_of H.X C.g (hv _)) hd
theorem EvN.boot {C : Ctx} (H : Prog C) {sc : Scope} {x : Str} {pos : Pos} {v : Value} (hk : sc.names.lookup x = some .globalImplicit) (hn : ∀ P, nsIn (KF P) mainGlobals x = some none) (hv : bootBuiltins x = some v) (hd : (x == ("__debug__" : Str)) = false := by decide +kernel) (hnn : x ≠ "__name__" := by decide +kernel) : EvN C sc (.Name x pos) v :=
  EvN.builtin hk (mg_none_of H.X C.g (hn _)) ((H.builtins x hnn).trans hv) hd

noncomputable def boundB (fd : FuncData) (names : List Str) : Bool := fd.params.args.map (·.arg) == names && names.all fun n => fd.scope.names.lookup n == some .local || fd.scope.names.lookup n == some .cell

/-- a def of the text meets what its body does -/
theorem callOf {C : Ctx} (H : Prog C) (hT : C.T = []) {l : Nat} {a : Addr} (names : List Str) {ds : List V} {d : V} (ρ : Rho) (h1 : ∀ P, isFdAt (KF P) a) (h3 : ∀ P, codeIn (KF P) (fdAt a).code (fdAt a).qualname = true) (X : Xs C l (fdAt a).scope ρ (bodyAt a) (fun o => o = .ret d))
    (hbind : ∀ vals : List Value, vals.length = names.length → bindArgs (fdAt a) ⟨vals, []⟩ = pure (names.zip vals)) (hρ : names.zip (plainVV ds) = ρ := by rfl) (h2 : plainFd a = true := by decide +kernel) (hlen : names.length = ds.length := by rfl) (hnd : names.Nodup := by decide +kernel)
    (hkinds : ∀ n ∈ names, (fdAt a).scope.names.lookup n = some .local ∨ (fdAt a).scope.names.lookup n = some .cell := by decide +kernel) : Calls C (l + 1) (.ref a) (plainVV ds) (d, false) :=
  Calls.ofBody hT (defAt H h1 h2 h3) hbind hlen hnd hkinds (hρ ▸ X)

theorem look_here {ρ : Rho} {x : Str} {d : VV} : ((x, d) :: ρ).lookup x = some d := by rw [List.lookup_cons, beq_self_eq_true]
theorem look_there {ρ : Rho} {x y : Str} {d e : VV} (hn : (x == y) = false) (h : ρ.lookup x = some d) : ((y, e) :: ρ).lookup x = some d := by rw [List.lookup_cons, hn]; exact h

section
variable {C : Ctx} {l : Nat} {sc : Scope} {ρ : Rho}
noncomputable def EvL (C : Ctx) (l : Nat) (sc : Scope) (ρ : Rho) (es : List Expr) (ds : List V) : Prop := EvA C l sc ρ es (plainVV ds)
theorem EvL.nil : EvL C l sc ρ [] [] := EvA.nil
theorem EvL.cons {e : Expr} {es : List Expr} {d : V} {ds : List V} (h₁ : Ev C l sc ρ e (d, false)) (h₂ : EvL C l sc ρ es ds) (hn : ∀ env, starEach (e :: es) env = (false, eval e env) :: starEach es env) : EvL C l sc ρ (e :: es) (d :: ds) := EvA.cons h₁ h₂ hn
theorem Ev.tup {es : List Expr} {k : Nat} {pos : Pos} {ds : List V} (h : EvL C l sc ρ es ds) (hsz : ds.length ≤ sizeLine) : Ev C l sc ρ (.Tuple es k pos) (.tuple ds, false) := Ev.tuple h hsz
theorem EvNew.disp {es : List Expr} {pos : Pos} {ds : List V} (h : EvL C l sc ρ es ds) (hsz : ds.length ≤ sizeLine) : EvNew C l sc ρ (.List es pos) ds := EvNew.display h hsz
theorem Ev.ofType {e : Expr} {n : String} (x : EvN C sc e (.type n)) : Ev C l sc ρ e (.type n, false) := Ev.ofN x fun _ _ _ _ => rfl
theorem Ev.callD (H : Prog C) {f : Expr} {e : Expr} {es : List Expr} {pos : Pos} {a : Addr} {ds : List VV} {d : VV} (hf : EvN C sc f (.ref a)) (h1 : isFdAt (KF C.w.params) a)
    (ha : EvA C l sc ρ (e :: es) ds) (hc : Calls C l (.ref a) ds d)
    (hn : ∀ env, starEach (e :: es) env = (false, eval e env) :: starEach es env)
    (he : ∀ env, eval (.Call f (e :: es) [] pos) env = (do callWith pos (← eval f env) [] (backTo pos (starEach (e :: es) env)) (backToKw pos (keywordEach [] env)))) :
    Ev C l sc ρ (.Call f (e :: es) [] pos) d := by
  obtain ⟨c, dd, sl, e1⟩ := h1
  exact Ev.callDef hf (H.X _ _ e1) rfl ha hc hn he
end

theorem g_fspath (P : Params) : nsIn (KF P) mainGlobals (Str.ofString "fspath") = some (some (.ref 94)) := by kernel_rfl
theorem k_fspath (P : Params) : isFdAt (KF P) 94 := ⟨.type "function", none, #[], by kernel_rfl⟩
theorem cd_fspath (P : Params) : codeIn (KF P) (fdAt 94).code (fdAt 94).qualname = true := by kernel_rfl
theorem g_get_sep (P : Params) : nsIn (KF P) mainGlobals (Str.ofString "_get_sep") = some (some (.ref 108)) := by kernel_rfl
theorem k_get_sep (P : Params) : isFdAt (KF P) 108 := ⟨.type "function", none, #[], by kernel_rfl⟩
theorem cd_get_sep (P : Params) : codeIn (KF P) (fdAt 108).code (fdAt 108).qualname = true := by kernel_rfl
theorem g_join (P : Params) : nsIn (KF P) mainGlobals (Str.ofString "join") = some (some (.ref 115)) := by kernel_rfl
theorem k_join (P : Params) : isFdAt (KF P) 115 := ⟨.type "function", none, #[], by kernel_rfl⟩
theorem cd_join (P : Params) : codeIn (KF P) (fdAt 115).code (fdAt 115).qualname = true := by kernel_rfl
theorem g_dirname (P : Params) : nsIn (KF P) mainGlobals (Str.ofString "dirname") = some (some (.ref 122)) := by kernel_rfl
theorem k_dirname (P : Params) : isFdAt (KF P) 122 := ⟨.type "function", none, #[], by kernel_rfl⟩
theorem cd_dirname (P : Params) : codeIn (KF P) (fdAt 122).code (fdAt 122).qualname = true := by kernel_rfl
theorem g_commonpath (P : Params) : nsIn (KF P) mainGlobals (Str.ofString "commonpath") = some (some (.ref 127)) := by kernel_rfl
theorem k_commonpath (P : Params) : isFdAt (KF P) 127 := ⟨.type "function", none, #[], by kernel_rfl⟩
theorem cd_commonpath (P : Params) : codeIn (KF P) (fdAt 127).code (fdAt 127).qualname = true := by kernel_rfl
theorem g_read_uint1 (P : Params) : nsIn (KF P) mainGlobals (Str.ofString "read_uint1") = some (some (.ref 134)) := by kernel_rfl
theorem k_read_uint1 (P : Params) : isFdAt (KF P) 134 := ⟨.type "function", none, #[], by kernel_rfl⟩
theorem cd_read_uint1 (P : Params) : codeIn (KF P) (fdAt 134).code (fdAt 134).qualname = true := by kernel_rfl
theorem g_read_string1 (P : Params) : nsIn (KF P) mainGlobals (Str.ofString "read_string1") = some (some (.ref 141)) := by kernel_rfl
theorem k_read_string1 (P : Params) : isFdAt (KF P) 141 := ⟨.type "function", none, #[], by kernel_rfl⟩
theorem cd_read_string1 (P : Params) : codeIn (KF P) (fdAt 141).code (fdAt 141).qualname = true := by kernel_rfl
theorem g_S_IMODE (P : Params) : nsIn (KF P) mainGlobals (Str.ofString "S_IMODE") = some (some (.ref 148)) := by kernel_rfl
theorem k_S_IMODE (P : Params) : isFdAt (KF P) 148 := ⟨.type "function", none, #[], by kernel_rfl⟩
theorem cd_S_IMODE (P : Params) : codeIn (KF P) (fdAt 148).code (fdAt 148).qualname = true := by kernel_rfl
theorem g_S_IFMT (P : Params) : nsIn (KF P) mainGlobals (Str.ofString "S_IFMT") = some (some (.ref 155)) := by kernel_rfl
theorem k_S_IFMT (P : Params) : isFdAt (KF P) 155 := ⟨.type "function", none, #[], by kernel_rfl⟩
theorem cd_S_IFMT (P : Params) : codeIn (KF P) (fdAt 155).code (fdAt 155).qualname = true := by kernel_rfl
theorem g_filemode (P : Params) : nsIn (KF P) mainGlobals (Str.ofString "filemode") = some (some (.ref 195)) := by kernel_rfl
theorem k_filemode (P : Params) : isFdAt (KF P) 195 := ⟨.type "function", none, #[], by kernel_rfl⟩
theorem cd_filemode (P : Params) : codeIn (KF P) (fdAt 195).code (fdAt 195).qualname = true := by kernel_rfl
theorem g_law_stream (P : Params) : nsIn (KF P) mainGlobals (Str.ofString "_law_stream") = some (some (.ref 202)) := by kernel_rfl
theorem k_law_stream (P : Params) : isFdAt (KF P) 202 := ⟨.type "function", none, #[], by kernel_rfl⟩
theorem cd_law_stream (P : Params) : codeIn (KF P) (fdAt 202).code (fdAt 202).qualname = true := by kernel_rfl
theorem g_law_tree (P : Params) : nsIn (KF P) mainGlobals (Str.ofString "_law_tree") = some (some (.ref 209)) := by kernel_rfl
theorem k_law_tree (P : Params) : isFdAt (KF P) 209 := ⟨.type "function", none, #[], by kernel_rfl⟩
theorem cd_law_tree (P : Params) : codeIn (KF P) (fdAt 209).code (fdAt 209).qualname = true := by kernel_rfl
theorem g_law_orders (P : Params) : nsIn (KF P) mainGlobals (Str.ofString "_law_orders") = some (some (.ref 216)) := by kernel_rfl
theorem k_law_orders (P : Params) : isFdAt (KF P) 216 := ⟨.type "function", none, #[], by kernel_rfl⟩
theorem cd_law_orders (P : Params) : codeIn (KF P) (fdAt 216).code (fdAt 216).qualname = true := by kernel_rfl
theorem g_law_tape (P : Params) : nsIn (KF P) mainGlobals (Str.ofString "_law_tape") = some (some (.ref 221)) := by kernel_rfl
theorem k_law_tape (P : Params) : isFdAt (KF P) 221 := ⟨.type "function", none, #[], by kernel_rfl⟩
theorem cd_law_tape (P : Params) : codeIn (KF P) (fdAt 221).code (fdAt 221).qualname = true := by kernel_rfl
theorem g_law_listing (P : Params) : nsIn (KF P) mainGlobals (Str.ofString "_law_listing") = some (some (.ref 228)) := by kernel_rfl
theorem k_law_listing (P : Params) : isFdAt (KF P) 228 := ⟨.type "function", none, #[], by kernel_rfl⟩
theorem cd_law_listing (P : Params) : codeIn (KF P) (fdAt 228).code (fdAt 228).qualname = true := by kernel_rfl
theorem g_law_ways (P : Params) : nsIn (KF P) mainGlobals (Str.ofString "_law_ways") = some (some (.ref 235)) := by kernel_rfl
theorem k_law_ways (P : Params) : isFdAt (KF P) 235 := ⟨.type "function", none, #[], by kernel_rfl⟩
theorem cd_law_ways (P : Params) : codeIn (KF P) (fdAt 235).code (fdAt 235).qualname = true := by kernel_rfl
theorem g_law_climb (P : Params) : nsIn (KF P) mainGlobals (Str.ofString "_law_climb") = some (some (.ref 242)) := by kernel_rfl
theorem k_law_climb (P : Params) : isFdAt (KF P) 242 := ⟨.type "function", none, #[], by kernel_rfl⟩
theorem cd_law_climb (P : Params) : codeIn (KF P) (fdAt 242).code (fdAt 242).qualname = true := by kernel_rfl
theorem g_law_signs (P : Params) : nsIn (KF P) mainGlobals (Str.ofString "_law_signs") = some (some (.ref 247)) := by kernel_rfl
theorem k_law_signs (P : Params) : isFdAt (KF P) 247 := ⟨.type "function", none, #[], by kernel_rfl⟩
theorem cd_law_signs (P : Params) : codeIn (KF P) (fdAt 247).code (fdAt 247).qualname = true := by kernel_rfl
theorem n_len (P : Params) : nsIn (KF P) mainGlobals (Str.ofString "len") = some none := by kernel_rfl
theorem n_isinstance (P : Params) : nsIn (KF P) mainGlobals (Str.ofString "isinstance") = some none := by kernel_rfl
theorem n_issubclass (P : Params) : nsIn (KF P) mainGlobals (Str.ofString "issubclass") = some none := by kernel_rfl
theorem n_ord (P : Params) : nsIn (KF P) mainGlobals (Str.ofString "ord") = some none := by kernel_rfl
theorem n_min (P : Params) : nsIn (KF P) mainGlobals (Str.ofString "min") = some none := by kernel_rfl
theorem n_max (P : Params) : nsIn (KF P) mainGlobals (Str.ofString "max") = some none := by kernel_rfl
theorem n_type (P : Params) : nsIn (KF P) mainGlobals (Str.ofString "type") = some none := by kernel_rfl
theorem n_str (P : Params) : nsIn (KF P) mainGlobals (Str.ofString "str") = some none := by kernel_rfl
theorem n_bytes (P : Params) : nsIn (KF P) mainGlobals (Str.ofString "bytes") = some none := by kernel_rfl
theorem n_range (P : Params) : nsIn (KF P) mainGlobals (Str.ofString "range") = some none := by kernel_rfl
theorem n_enumerate (P : Params) : nsIn (KF P) mainGlobals (Str.ofString "enumerate") = some none := by kernel_rfl
theorem n_tuple (P : Params) : nsIn (KF P) mainGlobals (Str.ofString "tuple") = some none := by kernel_rfl
theorem n_map (P : Params) : nsIn (KF P) mainGlobals (Str.ofString "map") = some none := by kernel_rfl
theorem n_ValueError (P : Params) : nsIn (KF P) mainGlobals (Str.ofString "ValueError") = some none := by kernel_rfl
theorem n_TypeError (P : Params) : nsIn (KF P) mainGlobals (Str.ofString "TypeError") = some none := by kernel_rfl
theorem n_AttributeError (P : Params) : nsIn (KF P) mainGlobals (Str.ofString "AttributeError") = some none := by kernel_rfl
theorem b_len : bootBuiltins (Str.ofString "len") = some (.builtin "len") := by decide +kernel
theorem b_isinstance : bootBuiltins (Str.ofString "isinstance") = some (.builtin "isinstance") := by decide +kernel
theorem b_issubclass : bootBuiltins (Str.ofString "issubclass") = some (.builtin "issubclass") := by decide +kernel
theorem b_ord : bootBuiltins (Str.ofString "ord") = some (.builtin "ord") := by decide +kernel
theorem b_min : bootBuiltins (Str.ofString "min") = some (.builtin "min") := by decide +kernel
theorem b_max : bootBuiltins (Str.ofString "max") = some (.builtin "max") := by decide +kernel
theorem b_type : bootBuiltins (Str.ofString "type") = some (.type "type") := by decide +kernel
theorem b_str : bootBuiltins (Str.ofString "str") = some (.type "str") := by decide +kernel
theorem b_bytes : bootBuiltins (Str.ofString "bytes") = some (.type "bytes") := by decide +kernel
theorem b_range : bootBuiltins (Str.ofString "range") = some (.type "range") := by decide +kernel
theorem b_enumerate : bootBuiltins (Str.ofString "enumerate") = some (.type "enumerate") := by decide +kernel
theorem b_tuple : bootBuiltins (Str.ofString "tuple") = some (.type "tuple") := by decide +kernel
theorem b_map : bootBuiltins (Str.ofString "map") = some (.type "map") := by decide +kernel
theorem b_ValueError : bootBuiltins (Str.ofString "ValueError") = some (.type "ValueError") := by decide +kernel
theorem b_TypeError : bootBuiltins (Str.ofString "TypeError") = some (.type "TypeError") := by decide +kernel
theorem b_AttributeError : bootBuiltins (Str.ofString "AttributeError") = some (.type "AttributeError") := by decide +kernel

noncomputable abbrev bootTab : List (Str × Value) := [("len", .builtin "len"), ("isinstance", .builtin "isinstance"), ("issubclass", .builtin "issubclass"), ("ord", .builtin "ord"), ("min", .builtin "min"), ("max", .builtin "max"), ("type", .type "type"), ("str", .type "str"), ("bytes", .type "bytes"), ("range", .type "range"), ("enumerate", .type "enumerate"), ("tuple", .type "tuple"), ("map", .type "map"), ("ValueError", .type "ValueError"), ("TypeError", .type "TypeError"), ("AttributeError", .type "AttributeError")]
theorem boot_all : ∀ p ∈ bootTab, bootBuiltins p.1 = some p.2 := List.forall_mem_cons.mpr ⟨b_len, List.forall_mem_cons.mpr ⟨b_isinstance, List.forall_mem_cons.mpr ⟨b_issubclass, List.forall_mem_cons.mpr ⟨b_ord, List.forall_mem_cons.mpr ⟨b_min, List.forall_mem_cons.mpr ⟨b_max, List.forall_mem_cons.mpr ⟨b_type, List.forall_mem_cons.mpr ⟨b_str, List.forall_mem_cons.mpr ⟨b_bytes, List.forall_mem_cons.mpr ⟨b_range, List.forall_mem_cons.mpr ⟨b_enumerate, List.forall_mem_cons.mpr ⟨b_tuple, List.forall_mem_cons.mpr ⟨b_map, List.forall_mem_cons.mpr ⟨b_ValueError, List.forall_mem_cons.mpr ⟨b_TypeError, List.forall_mem_cons.mpr ⟨b_AttributeError, fun _ h => nomatch h⟩⟩⟩⟩⟩⟩⟩⟩⟩⟩⟩⟩⟩⟩⟩⟩
theorem boot_any {x : Str} {v : Value} (h : (x, v) ∈ bootTab) : bootBuiltins x = some v := boot_all (x, v) h
theorem none_any : ∀ p ∈ bootTab, ∀ P, nsIn (KF P) mainGlobals p.1 = some none := List.forall_mem_cons.mpr ⟨n_len, List.forall_mem_cons.mpr ⟨n_isinstance, List.forall_mem_cons.mpr ⟨n_issubclass, List.forall_mem_cons.mpr ⟨n_ord, List.forall_mem_cons.mpr ⟨n_min, List.forall_mem_cons.mpr ⟨n_max, List.forall_mem_cons.mpr ⟨n_type, List.forall_mem_cons.mpr ⟨n_str, List.forall_mem_cons.mpr ⟨n_bytes, List.forall_mem_cons.mpr ⟨n_range, List.forall_mem_cons.mpr ⟨n_enumerate, List.forall_mem_cons.mpr ⟨n_tuple, List.forall_mem_cons.mpr ⟨n_map, List.forall_mem_cons.mpr ⟨n_ValueError, List.forall_mem_cons.mpr ⟨n_TypeError, List.forall_mem_cons.mpr ⟨n_AttributeError, fun _ h => nomatch h⟩⟩⟩⟩⟩⟩⟩⟩⟩⟩⟩⟩⟩⟩⟩⟩
noncomputable abbrev globTab : List (Str × Value) := [("fspath", .ref 94), ("_get_sep", .ref 108), ("join", .ref 115), ("dirname", .ref 122), ("commonpath", .ref 127), ("read_uint1", .ref 134), ("read_string1", .ref 141), ("S_IMODE", .ref 148), ("S_IFMT", .ref 155), ("filemode", .ref 195), ("_law_stream", .ref 202), ("_law_tree", .ref 209), ("_law_orders", .ref 216), ("_law_tape", .ref 221), ("_law_listing", .ref 228), ("_law_ways", .ref 235), ("_law_climb", .ref 242), ("_law_signs", .ref 247)]
theorem glob_all : ∀ p ∈ globTab, ∀ P, nsIn (KF P) mainGlobals p.1 = some (some p.2) := List.forall_mem_cons.mpr ⟨g_fspath, List.forall_mem_cons.mpr ⟨g_get_sep, List.forall_mem_cons.mpr ⟨g_join, List.forall_mem_cons.mpr ⟨g_dirname, List.forall_mem_cons.mpr ⟨g_commonpath, List.forall_mem_cons.mpr ⟨g_read_uint1, List.forall_mem_cons.mpr ⟨g_read_string1, List.forall_mem_cons.mpr ⟨g_S_IMODE, List.forall_mem_cons.mpr ⟨g_S_IFMT, List.forall_mem_cons.mpr ⟨g_filemode, List.forall_mem_cons.mpr ⟨g_law_stream, List.forall_mem_cons.mpr ⟨g_law_tree, List.forall_mem_cons.mpr ⟨g_law_orders, List.forall_mem_cons.mpr ⟨g_law_tape, List.forall_mem_cons.mpr ⟨g_law_listing, List.forall_mem_cons.mpr ⟨g_law_ways, List.forall_mem_cons.mpr ⟨g_law_climb, List.forall_mem_cons.mpr ⟨g_law_signs, fun _ h => nomatch h⟩⟩⟩⟩⟩⟩⟩⟩⟩⟩⟩⟩⟩⟩⟩⟩⟩⟩
theorem glob_any {x : Str} {v : Value} (h : (x, v) ∈ globTab) (P : Params) : nsIn (KF P) mainGlobals x = some (some v) := glob_all (x, v) h P
theorem none_of {x : Str} (h : x ∈ bootTab.map Prod.fst) (P : Params) : nsIn (KF P) mainGlobals x = some none := by
  obtain ⟨p, hp, rfl⟩ := List.mem_map.mp h
  exact none_any p hp P
theorem fd_any : ∀ a ∈ ([94, 108, 115, 122, 127, 134, 141, 148, 155, 195, 202, 209, 216, 221, 228, 235, 242, 247] : List Addr), ∀ P, isFdAt (KF P) a := List.forall_mem_cons.mpr ⟨k_fspath, List.forall_mem_cons.mpr ⟨k_get_sep, List.forall_mem_cons.mpr ⟨k_join, List.forall_mem_cons.mpr ⟨k_dirname, List.forall_mem_cons.mpr ⟨k_commonpath, List.forall_mem_cons.mpr ⟨k_read_uint1, List.forall_mem_cons.mpr ⟨k_read_string1, List.forall_mem_cons.mpr ⟨k_S_IMODE, List.forall_mem_cons.mpr ⟨k_S_IFMT, List.forall_mem_cons.mpr ⟨k_filemode, List.forall_mem_cons.mpr ⟨k_law_stream, List.forall_mem_cons.mpr ⟨k_law_tree, List.forall_mem_cons.mpr ⟨k_law_orders, List.forall_mem_cons.mpr ⟨k_law_tape, List.forall_mem_cons.mpr ⟨k_law_listing, List.forall_mem_cons.mpr ⟨k_law_ways, List.forall_mem_cons.mpr ⟨k_law_climb, List.forall_mem_cons.mpr ⟨k_law_signs, fun _ h => nomatch h⟩⟩⟩⟩⟩⟩⟩⟩⟩⟩⟩⟩⟩⟩⟩⟩⟩⟩
end

section
section
variable {C : Ctx} {l : Nat} {sc : Scope} {ρ : Rho}

theorem Ev.mStr {o : Expr} {name : Str} {apos pos : Pos} {e : Expr} {es : List Expr} {id : String} {x : Str} {ds : List VV} {d : VV} (slot : Slot "str" name id) (hty : typeOf (.builtin id) = pure (.type "method_descriptor"))
    (h₁ : Ev C l sc ρ o (.str x, false)) (ha : EvA C l sc ρ (e :: es) ds) (hc : Calls C l (.builtin id) ((.str x, false) :: ds) d)
    (hn : ∀ env, starEach (e :: es) env = (false, eval e env) :: starEach es env)
    (hp : ∀ env pos, (backTo pos (starEach es env)).any (·.1) = false)
    {pl : Env → Sem Bool}
    (he : ∀ env, eval (.Call (.Attribute o name apos) (e :: es) [] pos) env = (do
      let ov ← eval o env
      standAt apos.atName
      let (f, first) ← holding [ov] (getMethod ov name (pl env))
      callWith pos f first (backTo pos (starEach (e :: es) env)) [])) : Ev C l sc ρ (.Call (.Attribute o name apos) (e :: es) [] pos) d :=
  Ev.meth h₁ PySem.F.plainAttrs_str slot hty (fun s O v hv => ⟨str_type s O v hv, fun a ea => by obtain ⟨t, rfl⟩ := vStr hv; cases ea⟩) ha hc hn hp he
theorem Ev.mList {o : Expr} {name : Str} {apos pos : Pos} {e : Expr} {es : List Expr} {id : String} {xs : List V} {f : Bool} {ds : List VV} {d : VV} (slot : Slot "list" name id) (hty : typeOf (.builtin id) = pure (.type "method_descriptor"))
    (h₁ : Ev C l sc ρ o (.list xs, f)) (ha : EvA C l sc ρ (e :: es) ds) (hc : Calls C l (.builtin id) ((.list xs, f) :: ds) d)
    (hn : ∀ env, starEach (e :: es) env = (false, eval e env) :: starEach es env)
    (hp : ∀ env pos, (backTo pos (starEach es env)).any (·.1) = false)
    {pl : Env → Sem Bool}
    (he : ∀ env, eval (.Call (.Attribute o name apos) (e :: es) [] pos) env = (do
      let ov ← eval o env
      standAt apos.atName
      let (f, first) ← holding [ov] (getMethod ov name (pl env))
      callWith pos f first (backTo pos (starEach (e :: es) env)) [])) : Ev C l sc ρ (.Call (.Attribute o name apos) (e :: es) [] pos) d :=
  Ev.meth h₁ PySem.F.plainAttrs_list slot hty (fun s O v hv => ⟨list_type s O v hv, fun a ea => by
    obtain ⟨b, items, rfl, hp, _⟩ := vList hv
    cases ea
    obtain ⟨o, n, e1, e2⟩ := hp
    exact ⟨o, e1, by rw [e2]⟩⟩) ha hc hn hp he

theorem Ev.idx {value slice : Expr} {pos : Pos} {xs : List V} {f : Bool} {i : Int} {d : V} (h₁ : Ev C l sc ρ value (.list xs, f)) (h₂ : Ev C l sc ρ slice (.int i, false)) (h0 : 0 ≤ i) (hi : i < 2 ^ 63) (hd : xs[i.toNat]? = some d) : Ev C l sc ρ (.Subscript value slice pos) (d, false) :=
  Ev.sub h₁ h₂ PySem.slot_list_getitem.lookup list_type (get_list h0 hi hd)
theorem Ev.last {value slice : Expr} {pos : Pos} {xs : List V} {f : Bool} {d : V} (h₁ : Ev C l sc ρ value (.list xs, f)) (h₂ : Ev C l sc ρ slice (.int (-1), false)) (hd : xs.getLast? = some d) (hsz : xs.length ≤ sizeLine) : Ev C l sc ρ (.Subscript value slice pos) (d, false) :=
  Ev.sub h₁ h₂ PySem.slot_list_getitem.lookup list_type (get_list_last hd hsz)
theorem Ev.idxT {value slice : Expr} {pos : Pos} {xs : List V} {i : Int} {d : V} (h₁ : Ev C l sc ρ value (.tuple xs, false)) (h₂ : Ev C l sc ρ slice (.int i, false)) (h0 : 0 ≤ i) (hi : i < 2 ^ 63) (hd : xs[i.toNat]? = some d) : Ev C l sc ρ (.Subscript value slice pos) (d, false) := by
  refine Ev.sub h₁ h₂ PySem.F.slot_tuple_getitem.lookup tup_type (get_tup (j := i.toNat) (by omega) hi ?_ hd)
  have hlt := (List.getElem?_eq_some_iff.mp hd).1
  unfold seqIndex?
  have h1 : ¬ i < 0 := by omega
  have h2 : (decide (0 ≤ i) && decide (i < (xs.length : Int))) = true := by
    rw [decide_eq_true h0, Bool.true_and]
    exact decide_eq_true (by omega)
  simp only [if_neg h1, h2, if_true]
theorem EvP.mkNone : EvP C l sc ρ none none := True.intro
theorem EvP.mkSome {e : Expr} {i : Int} (h : Ev C l sc ρ e (.int i, false)) : EvP C l sc ρ (some e) (some i) := h
theorem op_mul_str (x : Str) (n : Int) (hok : MulOk x n) : Op2 C l (binaryOp .Mult) (.str x, false) (.int n, false) (.str (Txt.mul x n), false) := by
  intro A s O Q E v₁ v₂ R B L h₁ h₂ h
  obtain ⟨t, rfl⟩ := vStr h₁; obtain ⟨u, rfl⟩ := vInt h₂
  exact SB.mul hok fun t' k => h _ _ (KS.toks _ _) ⟨_, rfl⟩

theorem look_eq {ρ : Rho} {x : Str} {d e : VV} (h : d = e) : ((x, d) :: ρ).lookup x = some e := by rw [← h]; exact look_here
theorem Ev.to {e : Expr} {d d' : VV} (h : Ev C l sc ρ e d') (q : d' = d) : Ev C l sc ρ e d := q ▸ h
theorem Tr.to {e : Expr} {b b' : Bool} (h : Tr C l sc ρ e b') (q : b' = b) : Tr C l sc ρ e b := q ▸ h
theorem EvNew.to {e : Expr} {b b' : List V} (h : EvNew C l sc ρ e b') (q : b' = b) : EvNew C l sc ρ e b := q ▸ h
theorem EvW.to {t e : Expr} {b b' : List V} (h : EvW C l sc ρ t e b') (q : b' = b) : EvW C l sc ρ t e b := q ▸ h
/-- the one list of names says all that the other says -/
noncomputable def Cov (ρ : Rho) : Rho → Prop
  | [] => True
  | (x, d) :: r => ρ.lookup x = some d ∧ Cov ρ r
theorem Cov.nil : Cov ρ [] := trivial
theorem Cov.cons {x : Str} {d : VV} {r : Rho} (h : ρ.lookup x = some d) (k : Cov ρ r) : Cov ρ ((x, d) :: r) := ⟨h, k⟩
theorem Cov.get : ∀ {r : Rho}, Cov ρ r → ∀ x d, r.lookup x = some d → ρ.lookup x = some d
  | (y, e) :: r, ⟨h, k⟩, x, d, hx => by
    rw [List.lookup_cons] at hx
    by_cases hxy : x = y
    · subst hxy
      rw [beq_self_eq_true] at hx; cases hx; exact h
    · rw [beq_eq_false_iff_ne.mpr hxy] at hx
      exact k.get x d hx
theorem Xs.cov {ρ' : Rho} {st : List Stmt} {P : Out → Prop} (hs : Cov ρ ρ') (h : Xs C l sc ρ' st P) : Xs C l sc ρ st P := Xs.sub h hs.get

theorem Xs.whileS {β : Type} (st : β → Rho) (m : β → Nat) (I : β → Prop) (b₀ : β) {test : Expr} {body orelse rest : List Stmt} {pos : Pos} {P : Out → Prop} (hcov : Cov ρ (st b₀)) (h₀ : I b₀)
    (step : ∀ b, I b → ∃ t, Tr C l sc (st b) test t ∧ (t = true → Xs C l sc (st b) body fun o => match o with
      | .next ρ' => ∃ b', m b' < m b ∧ I b' ∧ Cov ρ' (st b')
      | .cont ρ' => ∃ b', m b' < m b ∧ I b' ∧ Cov ρ' (st b')
      | .brk ρ' => andThen C l sc rest P (.next ρ')
      | .ret d => P (.ret d)) ∧ (t = false → Xs C l sc (st b) orelse (andThen C l sc rest P))) : Xs C l sc ρ (.While test body orelse pos :: rest) P := by
  have key : ∀ n b, m b < n → I b → WhileP C l sc test body orelse (andThen C l sc rest P) n (st b) := by
    intro n
    induction n with
    | zero => intro b h; omega
    | succ n ih =>
      intro b hb hI
      obtain ⟨t, h1, h2, h3⟩ := step b hI
      refine ⟨t, h1, fun ht => (h2 ht).mono fun o ho => ?_, h3⟩
      have up : ∀ ρ', (∃ b', m b' < m b ∧ I b' ∧ Cov ρ' (st b')) → WhileP C l sc test body orelse (andThen C l sc rest P) n ρ' := fun ρ' ⟨b', hm, hI', hc⟩ => by
        have := ih b' (by omega) hI'
        cases n with
        | zero => omega
        | succ n =>
          obtain ⟨t, h1, h2, h3⟩ := this
          exact ⟨t, (fun A s env O Q E R hs er h => h1 R hs ⟨er.base, er.kind, er.glob, er.blt, er.lists, fun x d hx => er.vars x d (hc.get x d hx), er.cells⟩ h), fun ht => Xs.cov hc (h2 ht), fun ht => Xs.cov hc (h3 ht)⟩
      cases o with
      | next ρ' => exact up ρ' ho
      | cont ρ' => exact up ρ' ho
      | brk ρ' => exact ho
      | ret d => exact ho
  exact Xs.cov hcov (Xs.while (key (m b₀ + 1) b₀ (by omega) h₀))

theorem Xs.forS {β : Type} (st : β → Rho) (I : List V → β → Prop) (b₀ : β) {tgt iter : Expr} {body orelse rest : List Stmt} {pos : Pos} {ds : List V} {P : Out → Prop} (hi : EvW C l sc ρ tgt iter ds) (hcov : Cov ρ (st b₀)) (h₀ : I ds b₀)
    (step : ∀ d ds b, I (d :: ds) b → ∃ ρ₁, Tgt C l sc tgt d (st b) ρ₁ ∧ Xs C l sc ρ₁ body fun o => match o with
      | .next ρ' => ∃ b', I ds b' ∧ Cov ρ' (st b')
      | .cont ρ' => ∃ b', I ds b' ∧ Cov ρ' (st b')
      | .brk ρ' => andThen C l sc rest P (.next ρ')
      | .ret d => P (.ret d))
    (done : ∀ b, I [] b → Xs C l sc (st b) orelse (andThen C l sc rest P))
    (hfo : ∀ env x, foldedSetIterable iter env x = pure x := by intro _ _; rfl) : Xs C l sc ρ (.For tgt iter body orelse pos :: rest) P := by
  refine Xs.for hi ?_ hfo
  have key : ∀ ds b, I ds b → ∀ ρ', Cov ρ' (st b) → ForP C l sc tgt body orelse (andThen C l sc rest P) ds ρ' := by
    intro ds
    induction ds with
    | nil => intro b hI ρ' hc; exact Xs.cov hc (done b hI)
    | cons d ds ih =>
      intro b hI ρ' hc
      obtain ⟨ρ₁, h1, h2⟩ := step d ds b hI
      refine ⟨ρ₁, (fun A s s₀ env O₀ own v Q E R hs F hv h => h1 R hs (F.sub hc.get) hv h), h2.mono fun o ho => ?_⟩
      cases o with
      | next ρ'' => obtain ⟨b', hI', hc'⟩ := ho; exact ih b' hI' ρ'' hc'
      | cont ρ'' => obtain ⟨b', hI', hc'⟩ := ho; exact ih b' hI' ρ'' hc'
      | brk ρ'' => exact ho
      | ret d => exact ho
  exact key ds b₀ h₀ ρ hcov
end
end

section
section
variable {C : Ctx} {l : Nat} {sc : Scope} {ρ : Rho}

theorem Xs.try {body : List Stmt} {h₀ : ExceptHandler} {hs : List ExceptHandler} {rest : List Stmt} {pos : Pos} {P : Out → Prop} (h : Xs C l sc ρ body (andThen C l sc rest P)) : Xs C l sc ρ (.Try body (h₀ :: hs) [] [] pos :: rest) P := by
  refine Xs.cons ?_
  intro A s s₀ env O₀ own E R hsc F
  refine wpAny_Try_except (wpAny_mono (h R hsc F) (fun f s' ⟨o, ho, ok⟩ => ?_) fun e s' x => x)
  cases o with
  | next ρ' => obtain ⟨rfl, z⟩ := ok; exact wpAny_execs_nil ⟨.next ρ', ho, rfl, z⟩
  | brk ρ' => obtain ⟨rfl, z⟩ := ok; exact ⟨.brk ρ', ho, rfl, z⟩
  | cont ρ' => obtain ⟨rfl, z⟩ := ok; exact ⟨.cont ρ', ho, rfl, z⟩
  | ret d => obtain ⟨v, own', rfl, z⟩ := ok; exact ⟨.ret d, ho, v, own', rfl, z⟩

theorem op_item_str {x : Str} {i : Int} (hr : fitsSsize i = true) (hin : (Txt.charAt x i).isSome = true) : Op2 C l getItem (.str x, false) (.int i, false) (.str (Txt.item x i), false) := by
  intro A s O Q E v₁ v₂ R B L h₁ h₂ h
  obtain ⟨t, rfl⟩ := vStr h₁; obtain ⟨u, rfl⟩ := vInt h₂
  exact SB.getItem hr hin (h _ _ (KS.toks _ _) ⟨_, rfl⟩)
theorem Ev.item {value slice : Expr} {pos : Pos} {x : Str} {i : Int} (h₁ : Ev C l sc ρ value (.str x, false)) (h₂ : Ev C l sc ρ slice (.int i, false)) (hr : fitsSsize i = true) (hin : (Txt.charAt x i).isSome = true) : Ev C l sc ρ (.Subscript value slice pos) (.str (Txt.item x i), false) :=
  Ev.sub h₁ h₂ PySem.F.slot_str_getitem.lookup (fun s O v hv => str_type s O v hv) (op_item_str hr hin)

theorem draw_list {A : Around} {it t : Addr} {items : Array Value} (hne : t ≠ it) {E : Value → Shared → Prop} : ∀ (n i : Nat) (s : Shared) (Q : List Value → Shared → Prop), s.heap.IsListIter it t i → s.heap.IsList t items → i + n ≤ items.size →
    (∀ h', h'.IsListIter it t (i + n) → Heap.SameBut it s.heap h' → Q ((items.toList.drop i).take n) { s with heap := h' }) → wpAny (model C.prog C.w) A (draw (.ref it) n) Q E s
  | 0, i, s, Q, hit, _, _, hQ => by
    show wpAny _ _ (pure []) Q E s
    exact wpAny_pure (by simpa using hQ s.heap hit (Heap.SameBut.refl ..))
  | n + 1, i, s, Q, hit, ht, hle, hQ => by
    have hlt : i < items.size := by omega
    show wpAny _ _ (pyNext (.ref it) >>= _) Q E s
    refine wpAny_bind (wpAny_pyNext_list_item hit ht (x := items[i]) (by simp [hlt]) fun h₁ hit₁ hs₁ => ?_)
    refine wpAny_bind (wpAny_holding (draw_list hne n (i + 1) _ _ hit₁ (ht.extBut hs₁.extBut hne) (by omega) fun h₂ hit₂ hs₂ => wpAny_pure ?_))
    have hd : items.toList.drop i = items[i] :: items.toList.drop (i + 1) := by simp [List.drop_eq_getElem_cons, hlt]
    have := hQ h₂ (by rw [show i + (n + 1) = i + 1 + n by omega]; exact hit₂) (hs₁.trans hs₂)
    rw [hd, List.take_succ_cons] at this
    exact this

theorem unpack_list {A : Around} {s : Shared} {E : Value → Shared → Prop} {t : Addr} {items : Array Value} {targets : List (Bool × (Value → Sem Unit))} {Q : Unit → Shared → Prop} (hh : A.handled = none) (ht : s.heap.IsList t items)
    (hn : targets.length = items.size) (hstar : targets.findIdx? (·.1) = none)
    (h : ∀ h', Heap.ExtBut s.heap.objs.size s.heap h' → wpAny (model C.prog C.w) A (assignInOrder (targets.map (·.2)) items.toList) Q E { s with heap := h' }) :
    wpAny (model C.prog C.w) A (unpack (.ref t) targets) Q E s := by
  unfold unpack
  rw [hn, hstar]
  refine wpAny_bind (wpAny_holding ?_)
  have hlt : t ≠ s.heap.objs.size := by obtain ⟨o, ho, _⟩ := ht; exact Nat.ne_of_lt (Heap.lt_size ho)
  unfold unpackItems
  refine wpAny_bind ?_
  · unfold notIterableAtAll
    refine wpAny_bind (wpAny_specialOf ht.typeIs slot_list_iter.lookup ?_)
    refine wpAny_pure ?_
    simp only [Bool.false_eq_true, if_false]
    refine wpAny_bind (wpAny_holding (wpAny_pyIter_list ht ?_))
    have ht0 : ({ s with heap := s.heap.push { cls := .type "list_iterator", data := .fields #[.ref t, .int 0 0] } } : Shared).heap.IsList t items := ht.at fun o e => Heap.get?_push_of_some _ e
    refine wpAny_bind (wpAny_holding (draw_list hlt items.size 0 _ _ ⟨_, Heap.get?_push_size _ rfl, rfl, rfl⟩ ht0 (by omega) fun h₁ hit₁ hs₁ => ?_))
    have hall : List.take items.size (List.drop 0 items.toList) = items.toList := by
      rw [List.drop_zero]; exact List.take_of_length_le (by simp)
    rw [hall]
    rw [if_neg (by simp)]
    have ht₁ : h₁.IsList t items := ht0.extBut hs₁.extBut hlt
    refine wpAny_bind (wpAny_holding (wpAny_pyNext_list_end hh hit₁ ht₁ (by simp) fun h₂ he₂ => ?_))
    simp only [Option.isSome_none, Bool.false_eq_true, if_false]
    refine wpAny_pure (h h₂ fun b o hb e => he₂ b o hb (hs₁.extBut b o hb (Heap.get?_push_of_some _ e)))

theorem Tgt.list {ts : List Expr} {k p} {ds : List V} {ρ₁ : Rho} (h : TgtL C l sc ts ds ρ ρ₁) (hn : ∀ env, (assignEach ts env).length = ds.length) (hstar : ∀ env, (assignEach ts env).findIdx? (·.1) = none) : Tgt C l sc (.Tuple ts k p) (.list ds) ρ ρ₁ := by
  intro A s s₀ env O₀ own v Q E R hs F hv hQ
  simp only [VR] at hv
  obtain ⟨a, items, rfl, ha, hp, hr⟩ := hv
  rw [assign_Tuple]
  refine wpAny_bind (wpAny_standAt (unpack_list R.handled hp.isList (by rw [hn]; simpa using hr.length.symm) (hstar env) fun h' he => ?_))
  have k : KS C.T s { s with heap := h' } := KS.of fun b o e => he b o (Nat.ne_of_lt (Heap.lt_size e)) e
  exact h R hs (F.ks k) (hr.ks F.base k) fun own' s' F' g gr => hQ own' s' F' ((Go.ks k).trans g (k.grows F.base.grown)) ((k.grows F.base.grown).trans gr)

/-- a def with one name and the rest of the arguments, called with two -/
theorem Calls.ofBodyV {a : Addr} {fd : FuncData} {body : List Stmt} {n₁ n₂ : Str} {d₁ d₂ d : V} (hT : C.T = []) (D : DefAt C a fd body)
    (hbind : ∀ v w : Value, bindArgs fd ⟨[v, w], []⟩ = (do return [(n₁, v), (n₂, ← newTuple [w])])) (hnd : n₁ ≠ n₂)
    (hkinds : ∀ n ∈ [n₁, n₂], fd.scope.names.lookup n = some .local ∨ fd.scope.names.lookup n = some .cell)
    (X : Xs C l fd.scope [(n₁, (d₁, false)), (n₂, (.tuple [d₂], false))] body (fun o => o = .ret d)) : Calls C (l + 1) (.ref a) [(d₁, false), (d₂, false)] (d, false) := by
  intro A s O Q E vs R B L hv hQ
  obtain ⟨v₁, r₁, rfl, hv₁, v₂, r₂, rfl, hv₂, hr₂⟩ := hv
  cases hr₂
  obtain ⟨o, ho, hd⟩ := D.at'
  have hlim : s.heap.NoLimit := C.lim.keeps B.keep
  have hcd : s.heap.CodeRec fd.code fd.qualname := D.code.keeps B.keep
  refine wpAny_call (codeAny_call_function R.room (B.keep _ _ ho) hd D.co D.gen D.body hcd ?_)
  rw [hbind, D.clo]
  refine wpAny_bind (wpAny_newTuple ?_)
  refine wpAny_pure ?_
  have k : KS C.T s { s with heap := s.heap.push { cls := .type "tuple", data := .seq #[v₂] } } := KS.push s _ s.toks
  have B' := B.ks k
  have L' := L.ks B k
  have hv' : VRs (s.heap.push { cls := .type "tuple", data := .seq #[v₂] }) O [d₁, .tuple [d₂]] [v₁, .ref s.heap.objs.size] := by
    simp only [VRs, VR]
    refine ⟨_, _, rfl, VVR.ks (d := (d₁, false)) B hv₁ k, _, _, rfl, ⟨_, _, rfl, ⟨_, Heap.get?_push_size _ rfl, rfl, _, rfl⟩, ?_⟩, rfl⟩
    simp only [VRs]
    exact ⟨_, _, rfl, VVR.ks (d := (d₂, false)) B hv₂ k, rfl⟩
  refine wpAny_newFunctionEnv_cells D.kind (fun y hy => ?_) fun env he s₁ x => ?_
  · rcases hkinds y.1 (by simp at hy; rcases hy with rfl | rfl <;> simp) with h | h
    · exact .inl h
    · exact .inr ⟨h, cellsFrom_some _ _ _ (.inl h)⟩
  · subst he
    refine ⟨(C.lim.keeps B'.keep).keeps x.toInCall.keep, codeAny_func ?_⟩
    have F := fr_enter (A := A) (names := [n₁, n₂]) (ds := [d₁, .tuple [d₂]]) hT D B' L' hv' rfl (by simp [hnd]) hkinds x
    refine wpAny_mono (X (R.deeper _) rfl F) (fun f s' h => ?_) fun _ _ e => e
    obtain ⟨o, rfl, v, own', rfl, F', _, _, r⟩ := h
    obtain ⟨m, cm, X', _⟩ := F'.call
    obtain ⟨h', tk, rfl, keep⟩ := X'.done
    exact hQ v _ (k.trans (KS.of keep)) r

theorem op_bytes_ints (ns : List Int) (f : Bool) (hr : ∀ n ∈ ns, 0 ≤ n ∧ n < 256) (hz : ns.length ≤ sizeLine) : Calls C l (.type "bytes") [(.list (ns.map .int), f)] (.bytes (ns.map fun n => n.toNat.toUInt8), false) := by
  intro A s O Q E vs R B L hv h
  obtain ⟨_, _, rfl, h₂, rfl⟩ := hv
  obtain ⟨a, items, rfl, hp, hr'⟩ := vList h₂
  have hi := hr'.ints
  refine call_bytes_ints (vs := items.toList) (ns := ns) (by simpa using hp.isList) hi hr (by rw [hi.length]; exact hz) R.handled fun h' t k hk => h _ _ (KS.of hk) ?_
  exact ⟨_, rfl⟩
end
end

section
theorem pick_range (xs : List V) (a : Nat) : ∀ m, ((List.range m).map (a + ·)).filterMap (xs[·]?) = (xs.drop a).take m
  | 0 => by simp
  | m + 1 => by
    rw [List.range_succ, List.map_append, List.filterMap_append, pick_range xs a m, List.take_add_one, List.getElem?_drop]
    congr 1
theorem pick_sub (xs : List V) (a b : Nat) : pickV xs (some (a : Int)) (some (b : Int)) none = (xs.take b).drop a := by
  have e : sliceBounds (some (a : Int)) (some (b : Int)) none xs.length = (((min a xs.length : Nat) : Int), ((min b xs.length : Nat) : Int), 1) := by
    unfold sliceBounds
    have h1 : ¬ ((a : Int) < 0) := by omega
    have h2 : ¬ ((b : Int) < 0) := by omega
    simp only [Option.getD_none, if_neg h1, if_neg h2, show ((1 : Int) > 0) = True by decide, if_true]
    refine Prod.ext ?_ (Prod.ext ?_ rfl)
    · show max 0 (min (a : Int) (xs.length : Int)) = ((min a xs.length : Nat) : Int); omega
    · show max 0 (min (b : Int) (xs.length : Int)) = ((min b xs.length : Nat) : Int); omega
  unfold pickV
  rw [e]
  show (sliceRange ((min a xs.length : Nat) : Int) ((min b xs.length : Nat) : Int) 1).filterMap (xs[·]?) = _
  rw [sliceRange_one, pick_range]
  apply List.ext_getElem?
  intro i
  simp only [List.getElem?_take, List.getElem?_drop]
  by_cases ha : a ≤ xs.length
  · rw [Nat.min_eq_left ha]
    by_cases hb : b ≤ xs.length
    · rw [Nat.min_eq_left hb]
      by_cases h : i < b - a
      · rw [if_pos h, if_pos (by omega)]
      · rw [if_neg h, if_neg (by omega)]
    · rw [Nat.min_eq_right (by omega)]
      by_cases h : i < xs.length - a
      · rw [if_pos h, if_pos (by omega)]
      · rw [if_neg h]
        split
        · exact (List.getElem?_eq_none (by omega)).symm
        · rfl
  · rw [show min a xs.length = xs.length by omega, if_neg (by omega)]
    split
    · exact (List.getElem?_eq_none (by omega)).symm
    · rfl
theorem pick_take (xs : List V) (b : Nat) : pickV xs none (some (b : Int)) none = xs.take b := by
  have := pick_sub xs 0 b
  rw [List.drop_zero] at this
  rw [← this]
  rfl
theorem pick_drop (xs : List V) (a : Nat) : pickV xs (some (a : Int)) none none = xs.drop a := by
  have := pick_sub xs a xs.length
  rw [List.take_length] at this
  rw [← this]
  unfold pickV
  congr 2
  show (xs.length : Int) = _
  unfold sliceBounds
  have h2 : ¬ ((xs.length : Int) < 0) := by omega
  simp only [Option.getD_none, if_neg h2, show ((1 : Int) > 0) = True by decide, if_true]
  omega
theorem pick_rev (xs : List V) : pickV xs none none (some (-1)) = xs.reverse := by
  unfold pickV
  show (sliceRange ((xs.length : Int) - 1) (-1) (-1)).filterMap (xs[·]?) = _
  rw [krv_sliceRange]
  have e : ((List.range xs.length).map fun k => xs.length - 1 - k) = ((List.range xs.length).map (0 + ·)).reverse := by
    apply List.ext_getElem
    · simp
    · intro i h1 h2
      simp [List.getElem_reverse]
  rw [e, List.filterMap_reverse, pick_range, List.drop_zero, List.take_length]
end

section
section
variable {prog : Program} {w : World} {A : Around} {E : Value → Shared → Prop} {s : Shared}
theorem nextOf_tuple_item {it t : Addr} {i : Nat} {items} {x : Value} {Q : Value → Shared → Prop} (hit : s.heap.IsTupleIter it t i)
    (ht : s.heap.IsTuple t items) (hx : items[i]? = some x)
    (hQ : ∀ h', h'.IsTupleIter it t (i + 1) → Heap.SameBut it s.heap h' → Q x { s with heap := h' }) :
    wpAny (model prog w) A (Builtin.SmallTypes.nextOf (.ref it)) Q E s := by
  obtain ⟨o, ho, hc, hd⟩ := id hit
  obtain ⟨ol, hol, _, nl, hdl⟩ := ht
  unfold Builtin.SmallTypes.nextOf
  refine wpAny_bind (wpAny_callSpecial?_slot (name := Str.ofString "__next__") hit.typeIs slot_tupleiter_next
    (wpAny_call_entry slot_tupleiter_next hit.typeIs entry_tupleiter_next ?_ (args_tupleiter_next _)))
  show wpAny _ _ (field (.ref it) 0 >>= _) _ _ s
  refine wpAny_bind (wpAny_field ho hd (x := .ref t) rfl ?_)
  show wpAny _ _ (if (Value.ref t == Value.none) = true then _ else _) _ _ s
  rw [if_neg (show ¬ ((Value.ref t == Value.none) = true) from Bool.false_ne_true)]
  show wpAny _ _ (field (.ref it) 1 >>= _) _ _ s
  refine wpAny_bind (wpAny_field ho hd (x := .int i 0) rfl ?_)
  show wpAny _ _ (seqItems? (.ref t) >>= _) _ _ s
  refine wpAny_bind (wpAny_seqItems hol hdl ?_)
  simp only [Int.toNat_natCast, hx]
  refine wpAny_bind (wpAny_setField ho hd (by simp) (wpAny_pure ⟨x, rfl, wpAny_pure (hQ _ ?_ (Heap.SameBut.update ..))⟩))
  exact ⟨_, Heap.get?_update_self _ ho (Obj.isFreed_of_fields (Obj.data_mapFields hd _)), (Obj.cls_mapFields ..).trans hc, by
    rw [Obj.data_mapFields hd]; simp [rawInt]⟩
theorem nextOf_tuple_end {it t : Addr} {i : Nat} {items} {Q : Value → Shared → Prop} (hh : A.handled = none)
    (hit : s.heap.IsTupleIter it t i) (ht : s.heap.IsTuple t items) (hx : items[i]? = none)
    (hE : ∀ h' e, Heap.ExtBut it s.heap h' → (∃ o, h'.get? e = some o ∧ o.cls = .type "StopIteration") → E (.ref e) { s with heap := h' }) :
    wpAny (model prog w) A (Builtin.SmallTypes.nextOf (.ref it)) Q E s := by
  obtain ⟨o, ho, hc, hd⟩ := id hit
  obtain ⟨ol, hol, _, nl, hdl⟩ := ht
  unfold Builtin.SmallTypes.nextOf
  refine wpAny_bind (wpAny_callSpecial?_slot (name := Str.ofString "__next__") hit.typeIs slot_tupleiter_next
    (wpAny_call_entry slot_tupleiter_next hit.typeIs entry_tupleiter_next ?_ (args_tupleiter_next _)))
  show wpAny _ _ (field (.ref it) 0 >>= _) _ _ s
  refine wpAny_bind (wpAny_field ho hd (x := .ref t) rfl ?_)
  show wpAny _ _ (if (Value.ref t == Value.none) = true then _ else _) _ _ s
  rw [if_neg (show ¬ ((Value.ref t == Value.none) = true) from Bool.false_ne_true)]
  show wpAny _ _ (field (.ref it) 1 >>= _) _ _ s
  refine wpAny_bind (wpAny_field ho hd (x := .int i 0) rfl ?_)
  show wpAny _ _ (seqItems? (.ref t) >>= _) _ _ s
  refine wpAny_bind (wpAny_seqItems hol hdl ?_)
  simp only [Int.toNat_natCast, hx]
  refine wpAny_bind (wpAny_rule (wpAny_bind (wpAny_setField ho hd (by simp) ?_)))
  show wpAny _ _ (newExc (.type "StopIteration") [] >>= _) _ _ _
  refine wpAny_bind ?_
  simp only [newExc, newTuple]
  refine wpAny_bind (wpAny_newObj_type ?_ (by size_fits))
  refine wpAny_bind (m := firstArgMember _ _) (wpAny_of_eq (a := Value.none) (by first | rfl | (simp only [firstArgMember]; rfl)) ?_)
  refine wpAny_newObj_type ?_ (by size_fits)
  simp only [raiseNew]
  refine wpAny_bind (wpAny_handled ?_)
  first | rw [show A.in1.handled = none from hh] | rw [hh]
  refine wpAny_bind (wpAny_pure (wpAny_throw ?_))
  exact hE _ _ (((Heap.SameBut.update ..).extBut.push _).push _) ⟨_, Heap.get?_push_size _ rfl, rfl⟩
end

theorem drawsTuple {prog : Program} {w : World} {A : Around} (hh : A.handled = none) (it l : Addr) (hne : l ≠ it) (items : Array Value) :
    Draws prog w A it [it, l] items.size (fun i v => items[i]? = some v) (fun i h => h.IsTupleIter it l i ∧ h.IsTuple l items) where
  live := fun _ _ st => let ⟨o, ho, _⟩ := st.1; ⟨o, ho⟩
  frame := fun _ _ _ st hk => ⟨let ⟨o, ho, r⟩ := st.1; ⟨o, hk it (by simp) o ho, r⟩, let ⟨o, ho, r⟩ := st.2; ⟨o, hk l (by simp) o ho, r⟩⟩
  item := fun i s Q E hi st hQ => by
    refine nextOf_tuple_item st.1 st.2 (x := items[i]) (by simp [hi]) fun h' hit' hs' => ?_
    exact hQ _ h' s.toks (by simp [hi]) ⟨hit', st.2.extBut hs'.extBut hne⟩ hs'
  done := fun s Q E st hE => nextOf_tuple_end hh st.1 st.2 (by simp) hE

theorem meets_enumerate_newT (l : Addr) (items : Array Value) (n : Nat) (dct : Option Addr) (sl : Array (Option Value)) :
    Meets (Builtin.«enumerate.__new__» ⟨[.type "enumerate", .ref l], []⟩) (fun _ R s => s.heap.get? l = some { cls := .type "tuple", dict := dct, data := .seq items n, slots := sl } ∧
      R (.ok (.ret (.ref (s.heap.push { cls := .type "tuple_iterator", data := .fields #[.ref l, .int 0 0] }).objs.size)))
        { s with heap := (s.heap.push { cls := .type "tuple_iterator", data := .fields #[.ref l, .int 0 0] }).push { cls := .type "enumerate", data := .fields #[.none, .bool false, .ref s.heap.objs.size, rawInt 0, .none, .none] } }) :=
  .of_wp fun prog w A R s h => by
    obtain ⟨hp, g, d, tk, os⟩ := s; obtain ⟨hl, h⟩ := h
    have hsub := sub_enumerate
    have hL : Heap.IsTuple (Shared.heap ⟨hp, g, d, tk, os⟩) l items := ⟨_, hl, rfl, n, rfl⟩
    wp_walk using AutoSeq1.wpAny_loadPart' hl
    refine wpAny_stack_any fun st => wpAny_pure ?_
    split
    · rename_i c _ _ _ _ _
      cases (c == Value.type "enumerate")
      · wp_walk using AutoSeq1.wpAny_loadPart' hl, wpAny_pyIter_tuple hL
        exact ⟨_, rfl, h⟩
      · wp_walk using AutoSeq1.wpAny_loadPart' hl, wpAny_pyIter_tuple hL
        exact ⟨_, rfl, h⟩
    · wp_walk using AutoSeq1.wpAny_loadPart' hl, wpAny_pyIter_tuple hL
      exact ⟨_, rfl, h⟩

section
variable {prog : Program} {w : World} {A : Around} {E : Value → Shared → Prop} {s : Shared}
theorem call_enumerate_tuple {l : Addr} {items : Array Value} {Q : Value → Shared → Prop} (hL : s.heap.IsTuple l items)
    (h : ∀ h', IsEnum h' (s.heap.objs.size + 1) s.heap.objs.size 0 .none → h'.IsTupleIter s.heap.objs.size l 0 → h'.objs.size = s.heap.objs.size + 2 →
      (∀ b o, s.heap.get? b = some o → h'.get? b = some o) → Q (.ref (s.heap.objs.size + 1)) { s with heap := h' }) :
    wpAny (model prog w) A (call (.type "enumerate") [.ref l]) Q E s := by
  obtain ⟨⟨c, dct, dt, sl⟩, hl, hc, n, hd⟩ := hL
  replace hc : c = .type "tuple" := hc
  replace hd : dt = .seq items n := hd
  subst hc hd
  refine callType_new F.called_enumerate (by decide) (F.typeCall_enumerate_1 _) (F.newCall_enumerate_1 _) (fun obj => F.args_object_init_2 obj _) F.entry_enumerate_new
    (meets_enumerate_newT l items n dct sl) ⟨hl, ?_⟩
  have hz : (s.heap.push { cls := .type "tuple_iterator", data := .fields #[.ref l, .int 0 0] }).objs.size = s.heap.objs.size + 1 := Heap.size_push ..
  show _ ∧ _
  rw [hz]
  have he : IsEnum ((s.heap.push { cls := .type "tuple_iterator", data := .fields #[.ref l, .int 0 0] }).push
      { cls := .type "enumerate", data := .fields #[.none, .bool false, .ref s.heap.objs.size, rawInt 0, .none, .none] }) (s.heap.objs.size + 1) s.heap.objs.size 0 .none := by
    have := Heap.get?_push_size (s.heap.push { cls := .type "tuple_iterator", data := .fields #[.ref l, .int 0 0] })
      (o := { cls := .type "enumerate", data := .fields #[.none, .bool false, .ref s.heap.objs.size, rawInt 0, .none, .none] }) rfl
    rw [hz] at this; exact this
  refine ⟨⟨_, he, rfl⟩, h _ he ⟨_, Heap.get?_push_of_some _ (Heap.get?_push_size _ rfl), rfl, rfl⟩ (by rw [Heap.size_push, hz]) fun b o x => Heap.get?_push_of_some _ (Heap.get?_push_of_some _ x)⟩
end

noncomputable def enumV (xs : List V) : List V := xs.zipIdx.map fun p => .tuple [.int (p.2 : Int), p.1]
theorem enumV_at (xs : List V) (i : Nat) : (enumV xs)[i]? = xs[i]?.map fun x => .tuple [.int (i : Int), x] := by
  unfold enumV
  rw [List.getElem?_map, List.getElem?_zipIdx]
  cases xs[i]? <;> simp
theorem enumV_len (xs : List V) : (enumV xs).length = xs.length := by simp [enumV]

section
variable {C : Ctx} {l : Nat} {sc : Scope} {ρ : Rho}
theorem wvEnum {A : Around} {e it : Addr} {fp : List Addr} {items : Array Value} {St : Nat → Heap → Prop} {xs : List V} {ts : List Expr} {k p}
    (D : Draws C.prog C.w A.in1 it fp items.size (fun i v => items[i]? = some v) St) (hei : e ≠ it) (hef : e ∉ fp) (hif : it ∈ fp) (hlen : items.size = xs.length) (hitr : ∀ i h, St i h → Itr h it) :
    WV C A (.Tuple ts k p) (.ref e) (e :: fp) [e, it] (fun i h => (∃ old, IsEnum h e it i old) ∧ St i h) (enumV xs) xs items.toList := by
  have W := WalksT.enumerateD D e hei hef hif
  have itr : ∀ (i : Nat) h, ((∃ old, IsEnum h e it i old) ∧ St i h) → ∀ b ∈ [e, it], Itr h b := fun i h st b hb => by
    simp at hb
    rcases hb with rfl | rfl
    · obtain ⟨old, he⟩ := st.1
      exact Itr.mk he rfl rfl
    · exact hitr i h st.2
  refine ⟨W.sub, W.frame, itr, ?_, ?_⟩
  · intro i d s₂ O₁ Q₁ E₁ hd st hvs _ hq
    rw [enumV_at] at hd
    obtain ⟨x, hx, rfl⟩ := Option.map_eq_some_iff.mp hd
    have hi : i < items.size := by rw [hlen]; exact (List.getElem?_eq_some_iff.mp hx).1
    refine W.item i s₂ _ _ hi st fun T vals h' tk hP hT hTup hMid hk => ?_
    refine W.go ts k p i T _ _ _ hMid fun h'' st'' hk' => hq (.ref T) h'' tk st'' (fun b o hb q => hk' b o hb (hk b o hb q)) ?_
    obtain ⟨t, y, hy, rfl⟩ := hP
    obtain ⟨d', hd', hv'⟩ := VRs.get' hvs (i := i) (v := y) (by simpa using hy)
    rw [hx] at hd'; cases hd'
    have hr : VR h'' O₁ x y := hv'.walked (itr i _ st) fun b o hb q => hk' b o hb (hk b o hb q)
    obtain ⟨o, ho, r⟩ := hTup
    simp only [VR, VRs]
    exact ⟨T, _, rfl, ⟨o, hk' T o (W.apart _ _ _ hMid) ho, r⟩, _, _, rfl, ⟨t, rfl⟩, _, _, rfl, hr, rfl⟩
  · intro s₂ Q₁ E₁ st hq
    rw [enumV_len] at st
    exact W.done s₂ Q₁ E₁ (hlen ▸ st) hq

theorem EvW.enumT {ts : List Expr} {k p} {f e : Expr} {pos : Pos} {xs : List V} (hf : EvN C sc f (.type "enumerate")) (ha : EvA C l sc ρ [e] [(.tuple xs, false)])
    (hn : ∀ env, starEach [e] env = (false, eval e env) :: starEach [] env)
    (he : ∀ env, eval (.Call f [e] [] pos) env = (do callWith pos (← eval f env) [] (backTo pos (starEach [e] env)) (backToKw pos (keywordEach [] env)))) :
    EvW C l sc ρ (.Tuple ts k p) (.Call f [e] [] pos) (enumV xs) := by
  intro A s env O Q E R hs er hQ
  refine Call_ (hf hs er ?_) (he env)
  refine PyProof.Rows.callWith_type1 (ha R hs er fun vs s₁ k₁ r => ?_) (hn env) rfl
  obtain ⟨v, r', rfl, hv, hr'⟩ := r
  cases hr'
  have r₁ : VR s₁.heap O (.tuple xs) v := hv
  simp only [VR] at r₁
  obtain ⟨a, items, rfl, hp, hv⟩ := r₁
  have hlt : a < s₁.heap.objs.size := by obtain ⟨o, e, _⟩ := hp; exact Heap.lt_size e
  refine call_enumerate_tuple hp fun h' hen hit hsz hk => ?_
  refine wpAny_pyIter_enum hen ?_
  have k₂ : KS C.T s₁ { s₁ with heap := h' } := KS.of hk
  have hp₂ := isTup_at hp fun o e => hk a o e
  have hlen : items.size = xs.length := by simpa using hv.length
  refine hQ _ _ _ _ xs items.toList _ (k₁.trans k₂) (wvEnum (drawsTuple (A := A.in1) R.handled s₁.heap.objs.size a (Nat.ne_of_lt hlt) items) (Nat.succ_ne_self _) ?_ (by simp) hlen ?_) ⟨⟨_, hen⟩, hit, hp₂⟩ ⟨fun b hb => ?_, fun b hb => ?_⟩ (hv.ks (er.ks k₁).base k₂)
  · intro q
    rcases List.mem_cons.mp q with q | q
    · exact absurd q (Nat.succ_ne_self _)
    · exact absurd (Nat.lt_trans (Nat.lt_succ_self _) ((List.mem_singleton.mp q) ▸ hlt)) (Nat.lt_irrefl _)
  · intro i h st
    obtain ⟨o, e, hc, d⟩ := st.1
    exact Itr.mk e hc d
  · simp at hb
    rcases hb with rfl | rfl
    · exact k₁.grows er.base.grown _ (Heap.get?_none_of_le (Nat.le_succ _))
    · exact k₁.grows er.base.grown _ (Heap.get?_none_of_le (Nat.le_refl _))
  · simp at hb
    rcases hb with rfl | rfl | rfl
    · exact ⟨⟨_, hen⟩, .inl (k₁.grows er.base.grown _ (Heap.get?_none_of_le (Nat.le_succ _)))⟩
    · obtain ⟨o, e, _⟩ := hit
      exact ⟨⟨o, e⟩, .inl (k₁.grows er.base.grown _ (Heap.get?_none_of_le (Nat.le_refl _)))⟩
    · obtain ⟨o, e, _⟩ := id hp₂
      refine ⟨⟨o, e⟩, ?_⟩
      by_cases hO : b ∈ O
      · obtain ⟨its, y⟩ := (er.ks k₁).lists b hO
        exact (list_not_tup y.isList hp).elim
      · exact .inr ⟨hO, .inr ⟨items, hp₂⟩⟩

theorem EvW.enumL {ts : List Expr} {k p} {f e : Expr} {pos : Pos} {xs : List V} (hf : EvN C sc f (.type "enumerate")) (ha : EvA C l sc ρ [e] [(.list xs, false)])
    (hn : ∀ env, starEach [e] env = (false, eval e env) :: starEach [] env)
    (he : ∀ env, eval (.Call f [e] [] pos) env = (do callWith pos (← eval f env) [] (backTo pos (starEach [e] env)) (backToKw pos (keywordEach [] env)))) :
    EvW C l sc ρ (.Tuple ts k p) (.Call f [e] [] pos) (enumV xs) := by
  intro A s env O Q E R hs er hQ
  refine Call_ (hf hs er ?_) (he env)
  refine PyProof.Rows.callWith_type1 (ha R hs er fun vs s₁ k₁ r => ?_) (hn env) rfl
  obtain ⟨v, r', rfl, hv, hr'⟩ := r
  cases hr'
  have r₁ : VR s₁.heap O (.list xs) v := hv
  simp only [VR] at r₁
  obtain ⟨a, items, rfl, haO, hp, hv⟩ := r₁
  have hlt : a < s₁.heap.objs.size := by obtain ⟨o, n, e, _⟩ := hp; exact Heap.lt_size e
  refine call_enumerate_list hp.isList fun h' hen hit hsz hk => ?_
  refine wpAny_pyIter_enum hen ?_
  have k₂ : KS C.T s₁ { s₁ with heap := h' } := KS.of hk
  have hp₂ := plL_at hp fun o e => hk a o e
  have hlen : items.size = xs.length := by simpa using hv.length
  refine hQ _ _ _ _ xs items.toList _ (k₁.trans k₂) (wvEnum (Draws.list (A := A.in1) R.handled s₁.heap.objs.size a (Nat.ne_of_lt hlt) items) (Nat.succ_ne_self _) ?_ (by simp) hlen ?_) ⟨⟨_, hen⟩, hit, hp₂.isList⟩ ⟨fun b hb => ?_, fun b hb => ?_⟩ (hv.ks (er.ks k₁).base k₂)
  · intro q
    rcases List.mem_cons.mp q with q | q
    · exact absurd q (Nat.succ_ne_self _)
    · exact absurd (Nat.lt_trans (Nat.lt_succ_self _) ((List.mem_singleton.mp q) ▸ hlt)) (Nat.lt_irrefl _)
  · intro i h st
    obtain ⟨o, e, hc, d⟩ := st.1
    exact Itr.mk e hc d
  · simp at hb
    rcases hb with rfl | rfl
    · exact k₁.grows er.base.grown _ (Heap.get?_none_of_le (Nat.le_succ _))
    · exact k₁.grows er.base.grown _ (Heap.get?_none_of_le (Nat.le_refl _))
  · simp at hb
    rcases hb with rfl | rfl | rfl
    · exact ⟨⟨_, hen⟩, .inl (k₁.grows er.base.grown _ (Heap.get?_none_of_le (Nat.le_succ _)))⟩
    · obtain ⟨o, e, _⟩ := hit
      exact ⟨⟨o, e⟩, .inl (k₁.grows er.base.grown _ (Heap.get?_none_of_le (Nat.le_refl _)))⟩
    · obtain ⟨o, n, e, _⟩ := id hp₂
      exact ⟨⟨o, e⟩, .inr ⟨haO, .inl ⟨items, hp₂⟩⟩⟩
end
end

section
theorem slot_map_next : Slot "map" "__next__" "map.__next__" :=
  .of (owner := "map") (n := "__next__") (by rw [typeLookup_type, builtinLookup_eq_fast]; kernel_rfl) (by decide +kernel) (by decide +kernel) (by decide +kernel)
    (by first | exact .inl (by decide +kernel) | exact .inr (by decide +kernel)) (by rw [isSubtype_type]; kernel_rfl)
theorem slot_map_iter : Slot "map" "__iter__" "map.__iter__" :=
  .of (owner := "map") (n := "__iter__") (by rw [typeLookup_type, builtinLookup_eq_fast]; kernel_rfl) (by decide +kernel) (by decide +kernel) (by decide +kernel)
    (by first | exact .inl (by decide +kernel) | exact .inr (by decide +kernel)) (by rw [isSubtype_type]; kernel_rfl)
theorem slot_map_init : Slot "map" "__init__" "object.__init__" :=
  .of (owner := "object") (n := "__init__") (by rw [typeLookup_type, builtinLookup_eq_fast]; kernel_rfl) (by decide +kernel) (by decide +kernel) (by decide +kernel)
    (by first | exact .inl (by decide +kernel) | exact .inr (by decide +kernel)) (by rw [isSubtype_type]; kernel_rfl)
theorem entry_map_next : entryFor table "map.__next__" = some Builtin.«map.__next__» := entryFor_of_tree (by kernel_rfl)
theorem entry_map_new : entryFor table "map.__new__" = some Builtin.«map.__new__» := entryFor_of_tree (by kernel_rfl)
theorem entry_map_iter : entryFor table "map.__iter__" = some Builtin.«dict_keyiterator.__iter__» :=
  entryFor_alias (id' := "dict_keyiterator.__iter__") (by kernel_rfl) (by first | rfl | decide +kernel | (unfold String.splitOn; simp +decide [String.splitOnAux])) (by decide +kernel) (by kernel_rfl)
theorem args_map_next_1 (a : Value) : argsOk "map.__next__" ⟨[a], []⟩ := by unfold argsOk; kernel_rfl
theorem args_map_iter_1 (a : Value) : argsOk "map.__iter__" ⟨[a], []⟩ := by unfold argsOk; kernel_rfl
theorem mro_map : mroOf (.type "map") = pure [.type "map", .type "object"] := by rw [mroOf_type]; kernel_rfl
theorem lookup_map_new : typeLookup (.type "map") "__new__" = pure (some (.builtin "map.__new__")) := by rw [typeLookup_type, builtinLookup_eq_fast]; kernel_rfl
theorem called_map : TypeCalled "map" "map.__new__" "object.__init__" :=
  ⟨by decide +kernel, by decide +kernel, ⟨_, _, mro_map⟩, madeBy_type mro_map lookup_map_new (by decide +kernel), by decide +kernel, by rw [isSubtype_type]; kernel_rfl, slot_map_init⟩
theorem typeCall_map_2 (a b : Value) : checkTypeCall "map" ⟨[a, b], []⟩ = pure () := by kernel_rfl
theorem newCall_map_2 (a b : Value) : checkBuiltinCall "map.__new__" ⟨[.type "map", a, b], []⟩ = pure () := by kernel_rfl
theorem args_object_init_3 (a b c : Value) : argsOk "object.__init__" ⟨[a, b, c], []⟩ := by unfold argsOk; kernel_rfl
theorem map_no_len : typeLookup (.type "map") "__len__" = pure none := by rw [typeLookup_type, builtinLookup_eq_fast]; kernel_rfl
theorem map_no_hint : typeLookup (.type "map") "__length_hint__" = pure none := by rw [typeLookup_type, builtinLookup_eq_fast]; kernel_rfl
theorem sub_map : isSubtype (.type "map") (.type "map") = pure true := by rw [isSubtype_type]; kernel_rfl

noncomputable def IsMap (h : Heap) (m its : Addr) (f : Value) : Prop := h.get? m = some { cls := .type "map", data := .fields #[.ref its, f] }

theorem meets_map_new (l f : Addr) (items : Array Value) (n : Nat) (dct : Option Addr) (sl : Array (Option Value)) :
    Meets (Builtin.«map.__new__» ⟨[.type "map", .ref f, .ref l], []⟩) (fun _ R s => s.heap.get? l = some { cls := .type "list", dict := dct, data := .seq items n, slots := sl } ∧
      R (.ok (.ret (.ref (s.heap.objs.size + 2))))
        { s with heap := ((s.heap.push { cls := .type "list_iterator", data := .fields #[.ref l, .int 0 0] }).push { cls := .type "tuple", data := .seq #[.ref s.heap.objs.size] }).push { cls := .type "map", data := .fields #[.ref (s.heap.objs.size + 1), .ref f] } }) :=
  .of_wp fun prog w A R s h => by
    obtain ⟨hp, g, d, tk, os⟩ := s; obtain ⟨hl, h⟩ := h
    have hsub := sub_map
    have hL : Heap.IsList (Shared.heap ⟨hp, g, d, tk, os⟩) l items := ⟨_, hl, rfl, n, rfl⟩
    have e1 : (hp.push { cls := .type "list_iterator", data := .fields #[.ref l, .int 0 0] }).objs.size = hp.objs.size + 1 := Heap.size_push ..
    have e2 : ((hp.push { cls := .type "list_iterator", data := .fields #[.ref l, .int 0 0] }).push { cls := .type "tuple", data := .seq #[.ref hp.objs.size] }).objs.size = hp.objs.size + 2 := by rw [Heap.size_push, e1]
    wp_walk using AutoSeq1.wpAny_loadPart' hl, wpAny_pyIter_list hL
    dsimp only at h
    rw [← e1, ← e2] at h
    exact ⟨_, rfl, h⟩

section
variable {prog : Program} {w : World} {A : Around} {E : Value → Shared → Prop} {s : Shared}
theorem call_map_list {l f : Addr} {items : Array Value} {Q : Value → Shared → Prop} (hL : s.heap.IsList l items)
    (h : ∀ h', IsMap h' (s.heap.objs.size + 2) (s.heap.objs.size + 1) (.ref f) → h'.IsTuple (s.heap.objs.size + 1) #[.ref s.heap.objs.size] → h'.IsListIter s.heap.objs.size l 0 → h'.objs.size = s.heap.objs.size + 3 →
      (∀ b o, s.heap.get? b = some o → h'.get? b = some o) → Q (.ref (s.heap.objs.size + 2)) { s with heap := h' }) :
    wpAny (model prog w) A (call (.type "map") [.ref f, .ref l]) Q E s := by
  obtain ⟨⟨c, dct, dt, sl⟩, hl, hc, n, hd⟩ := hL
  replace hc : c = .type "list" := hc
  replace hd : dt = .seq items n := hd
  subst hc hd
  refine callType_new called_map (by decide) (typeCall_map_2 _ _) (newCall_map_2 _ _) (fun obj => args_object_init_3 obj _ _) entry_map_new
    (meets_map_new l f items n dct sl) ⟨hl, ?_⟩
  have e1 : (s.heap.push { cls := .type "list_iterator", data := .fields #[.ref l, .int 0 0] }).objs.size = s.heap.objs.size + 1 := Heap.size_push ..
  have e2 : ((s.heap.push { cls := .type "list_iterator", data := .fields #[.ref l, .int 0 0] }).push { cls := .type "tuple", data := .seq #[.ref s.heap.objs.size] }).objs.size = s.heap.objs.size + 2 := by rw [Heap.size_push, e1]
  have hm : IsMap (((s.heap.push { cls := .type "list_iterator", data := .fields #[.ref l, .int 0 0] }).push { cls := .type "tuple", data := .seq #[.ref s.heap.objs.size] }).push { cls := .type "map", data := .fields #[.ref (s.heap.objs.size + 1), .ref f] }) (s.heap.objs.size + 2) (s.heap.objs.size + 1) (.ref f) := by
    have := Heap.get?_push_size ((s.heap.push { cls := .type "list_iterator", data := .fields #[.ref l, .int 0 0] }).push { cls := .type "tuple", data := .seq #[.ref s.heap.objs.size] })
      (o := { cls := .type "map", data := .fields #[.ref (s.heap.objs.size + 1), .ref f] }) rfl
    rw [e2] at this; exact this
  have ht := Heap.get?_push_size (s.heap.push { cls := .type "list_iterator", data := .fields #[.ref l, .int 0 0] }) (o := { cls := .type "tuple", data := .seq #[.ref s.heap.objs.size] }) rfl
  rw [e1] at ht
  exact ⟨⟨_, hm, rfl⟩, h _ hm ⟨_, Heap.get?_push_of_some _ ht, rfl, _, rfl⟩ ⟨_, Heap.get?_push_of_some _ (Heap.get?_push_of_some _ (Heap.get?_push_size _ rfl)), rfl, rfl⟩ (by rw [Heap.size_push, e2]) fun b o x => Heap.get?_push_of_some _ (Heap.get?_push_of_some _ (Heap.get?_push_of_some _ x))⟩

theorem pyIter_map {m its : Addr} {f : Value} {Q : Value → Shared → Prop} (hm : IsMap s.heap m its f) (h : Q (.ref m) s) : wpAny (model prog w) A (pyIter (.ref m)) Q E s := by
  have hT : s.TypeIs (.ref m) "map" := ⟨_, hm, rfl⟩
  refine wpAny_pyIter_slot hT slot_map_iter (wpAny_call_entry slot_map_iter hT entry_map_iter ?_ (args_map_iter_1 _))
  show wpAny _ _ (ret (.ref m)) _ _ s
  exact wpAny_pure ⟨_, rfl, "map", _, hT, slot_map_next.lookup, h⟩
end
end

section
section
variable {prog : Program} {w : World} {A : Around} {E : Value → Shared → Prop} {s : Shared}
theorem next_map_item {m its it l : Addr} {f : Value} {i : Nat} {items : Array Value} {x : Value} {Q : Option Value → Shared → Prop} (hm : IsMap s.heap m its f) (ht : s.heap.IsTuple its #[.ref it]) (hit : s.heap.IsListIter it l i) (hl : s.heap.IsList l items) (hx : items[i]? = some x)
    (hQ : ∀ h', h'.IsListIter it l (i + 1) → Heap.SameBut it s.heap h' → wpAny (model prog w) A.in1 (call f [x]) (fun v s' => Q (some v) s') (fun _ _ => False) { s with heap := h' }) :
    wpAny (model prog w) A (pyNext (.ref m)) Q E s := by
  have hT : s.TypeIs (.ref m) "map" := ⟨_, hm, rfl⟩
  obtain ⟨ot, hot, _, nt, hdt⟩ := ht
  unfold pyNext
  refine wpAny_bind (wpAny_attempt (wpAny_callSpecial?_slot (name := Str.ofString "__next__") hT slot_map_next
    (wpAny_call_entry slot_map_next hT entry_map_next ?_ (args_map_next_1 _))))
  show wpAny _ _ (field (.ref m) 0 >>= _) _ _ s
  refine wpAny_bind (wpAny_field hm rfl (x := .ref its) rfl ?_)
  show wpAny _ _ (seqItems? (.ref its) >>= _) _ _ s
  refine wpAny_bind (wpAny_seqItems hot hdt ?_)
  have hn : ∀ {Q : Value → Shared → Prop} {E : Value → Shared → Prop}, (∀ h', h'.IsListIter it l (i + 1) → Heap.SameBut it s.heap h' → Q x { s with heap := h' }) → wpAny (model prog w) A.in1 (Builtin.SmallTypes.nextOf (.ref it)) Q E s :=
    fun h => wpAny_nextOf_list_item hit hl hx h
  generalize hN : Builtin.SmallTypes.nextOf = N at hn
  wp_walk using hn
  refine hn fun h' hit' hs' => ?_
  have hne : m ≠ it := fun q => by
    subst q
    obtain ⟨o, e, hc, _⟩ := hit
    have e' := hm.symm.trans e
    injection e' with e'
    rw [← e'] at hc
    have : (Value.type "map" : Value) = .type "list_iterator" := hc
    injection this with this
    exact absurd this (by decide)
  have hm' : h'.get? m = some { cls := .type "map", data := .fields #[.ref its, f] } := (hs'.2 m hne).trans hm
  refine wpAny_pure (wpAny_pure ?_)
  show wpAny _ _ (field (.ref m) 1 >>= _) _ _ _
  refine wpAny_bind (wpAny_field hm' rfl (x := f) rfl ?_)
  refine wpAny_bind (wpAny_holding (wpAny_mono (hQ h' hit' hs') (fun v s' h => ?_) fun _ _ h => h.elim))
  refine wpAny_bind (wpAny_letGo ?_)
  exact wpAny_pure ⟨_, rfl, wpAny_pure h⟩
end
end

section
section
variable {prog : Program} {w : World} {A : Around} {E : Value → Shared → Prop} {s : Shared}
theorem next_map_end {m its it l : Addr} {f : Value} {i : Nat} {items : Array Value} {Q : Option Value → Shared → Prop} (hh : A.handled = none) (hm : IsMap s.heap m its f) (ht : s.heap.IsTuple its #[.ref it]) (hit : s.heap.IsListIter it l i) (hl : s.heap.IsList l items) (hx : items[i]? = none)
    (hQ : ∀ h', Heap.ExtBut it s.heap h' → Q none { s with heap := h' }) :
    wpAny (model prog w) A (pyNext (.ref m)) Q E s := by
  have hT : s.TypeIs (.ref m) "map" := ⟨_, hm, rfl⟩
  obtain ⟨ot, hot, _, nt, hdt⟩ := ht
  unfold pyNext
  refine wpAny_bind (wpAny_attempt (wpAny_callSpecial?_slot (name := Str.ofString "__next__") hT slot_map_next
    (wpAny_call_entry slot_map_next hT entry_map_next ?_ (args_map_next_1 _))))
  show wpAny _ _ (field (.ref m) 0 >>= _) _ _ s
  refine wpAny_bind (wpAny_field hm rfl (x := .ref its) rfl ?_)
  show wpAny _ _ (seqItems? (.ref its) >>= _) _ _ s
  refine wpAny_bind (wpAny_seqItems hot hdt ?_)
  have hn : ∀ {Q : Value → Shared → Prop} {E : Value → Shared → Prop}, (∀ h' e, Heap.ExtBut it s.heap h' → (∃ o, h'.get? e = some o ∧ o.cls = .type "StopIteration") → E (.ref e) { s with heap := h' }) → wpAny (model prog w) A.in1 (Builtin.SmallTypes.nextOf (.ref it)) Q E s :=
    fun h => wpAny_nextOf_list_end hh hit hl hx h
  generalize hN : Builtin.SmallTypes.nextOf = N at hn
  wp_walk using hn
  refine hn fun h' e he ⟨o, ho, hc⟩ => ?_
  refine wpAny_bind (wpAny_isInstance (T := "StopIteration") (b := true) ⟨o, ho, hc⟩ isSubtype_stop ?_)
  exact wpAny_pure (hQ _ he)
end

noncomputable def fpG (G : Heap) : List Addr := (List.range G.objs.size).filter fun b => (G.get? b).isSome
theorem fpG_mem {G : Heap} {b : Addr} {o : Obj} (h : G.get? b = some o) : b ∈ fpG G := List.mem_filter.mpr ⟨List.mem_range.mpr (Heap.lt_size h), by rw [h]; rfl⟩
theorem fpG_get {G : Heap} {b : Addr} (h : b ∈ fpG G) : ∃ o, G.get? b = some o := Option.isSome_iff_exists.mp (List.mem_filter.mp h).2

theorem mapWalks {C : Ctx} (hT : C.T = []) {l : Nat} {f : Value} (hc : ∀ x : Str, Calls C l f [(.str x, false)] (.str x, false)) {A : Around} (R : Room l A.in1) {m its it a : Addr} {items : Array Value} {xs : List Str} (hi : StrsAre items.toList xs)
    (hm : m ≠ it) (ht : its ≠ it) (ha : a ≠ it) (hg : it ∉ fpG C.G) :
    Walks C.prog C.w A m (m :: its :: it :: a :: fpG C.G) [it] items.size (fun i v => ∃ x t, xs[i]? = some x ∧ v = .str x t)
      (fun i h => IsMap h m its f ∧ h.IsTuple its #[.ref it] ∧ h.IsListIter it a i ∧ h.IsList a items ∧ ∀ b o, C.G.get? b = some o → h.get? b = some o) where
  sub := fun b hb => by simp at hb; simp [hb]
  frame := fun i h h' st hk => ⟨hk m (by simp) _ st.1, st.2.1.imp fun o x => ⟨hk its (by simp) o x.1, x.2⟩, st.2.2.1.at fun o e => hk it (by simp) o e, st.2.2.2.1.at fun o e => hk a (by simp) o e,
    fun b o e => hk b (by simp [fpG_mem e]) o (st.2.2.2.2 b o e)⟩
  item := fun i s Q E hi' st hQ => by
    obtain ⟨h1, h2, h3, h4, h5⟩ := st
    obtain ⟨x, t, hx, e⟩ : ∃ x t, items[i]? = some (.str x t) ∧ xs[i]? = some x := by
      obtain ⟨y, t, e1, e2⟩ := hi.item i items[i] (by rw [Array.getElem?_toList]; exact Array.getElem?_eq_getElem hi')
      exact ⟨y, t, by rw [Array.getElem?_eq_getElem hi', e1], e2⟩
    refine next_map_item h1 h2 h3 h4 hx fun h' hit' hs' => ?_
    have B : Base C h' := ⟨fun b o q => (hs'.2 b (fun e' => hg (e' ▸ fpG_mem q))).trans (h5 b o q), fun t ht' => by rw [hT] at ht'; cases ht'⟩
    refine hc x (O := []) R B (fun a ha => nomatch ha) ⟨_, _, rfl, ⟨t, rfl⟩, rfl⟩ fun v s' k r => ?_
    rw [hT] at k
    obtain ⟨⟨h'', tk, rfl⟩, kp, _⟩ := k
    obtain ⟨t', rfl⟩ : ∃ t', v = .str x t' := by simpa only [VVR, VR] using r
    have kp' : ∀ b o, h'.get? b = some o → h''.get? b = some o := fun b o q => kp b o (by simp) q
    refine hQ _ h'' tk ⟨x, t', e, rfl⟩ ⟨kp' _ _ ((hs'.2 m hm).trans h1), h2.imp fun o x => ⟨kp' _ _ ((hs'.2 its ht).trans x.1), x.2⟩, hit'.at fun o q => kp' it o q, h4.at fun o q => kp' a o ((hs'.2 a ha).trans q),
      fun b o q => kp' b o (B.keep b o q)⟩ fun b o hb q => kp' b o ((hs'.2 b (fun e' => hb (by simp [e']))).trans q)
  done := fun s Q E st hQ => by
    obtain ⟨h1, h2, h3, h4, h5⟩ := st
    exact next_map_end R.handled h1 h2 h3 h4 (by simp) fun h' he' => hQ h' s.toks fun b o hb q => he' b o (fun e' => hb (by simp [e'])) q
  self := fun _ _ _ _ st hQ => pyIter_map st.1 hQ
end

section
noncomputable def strLt (x y : Str) : Bool := decide (x.cps.toList < y.cps.toList)
/-- two lists of texts, as Python orders them -/
noncomputable def ltL : List Str → List Str → Bool
  | [], [] => false
  | [], _ :: _ => true
  | _ :: _, [] => false
  | x :: xs, y :: ys => if x == y then ltL xs ys else strLt x y
noncomputable def gtL : List Str → List Str → Bool
  | [], [] => false
  | [], _ :: _ => false
  | _ :: _, [] => true
  | x :: xs, y :: ys => if x == y then gtL xs ys else strLt y x
theorem gtL_eq : ∀ xs ys, gtL xs ys = ltL ys xs
  | [], [] => rfl
  | [], _ :: _ => rfl
  | _ :: _, [] => rfl
  | x :: xs, y :: ys => by
    unfold gtL ltL
    rw [gtL_eq xs ys]
    by_cases h : x = y
    · subst h; simp
    · rw [if_neg (by simpa using h), if_neg (by simpa using fun q => h q.symm)]
section
variable {prog : Program} {w : World} {A : Around} {E : Value → Shared → Prop} {s : Shared} {x y : Str} {t u : Tok} {Q : Value → Shared → Prop}
theorem rc_lt_str (h : Q (.bool (strLt x y)) s) : wpAny (model prog w) A (richCompare .Lt (.str x t) (.str y u)) Q E s :=
  richCompare_gives (op := .Lt) (typeIs_str s x t) (typeIs_str s y u) PySem.F.slot_str_lt PySem.F.entry_str_lt (PySem.F.args_str_lt_2 _ _) (gives_str_lt x y t u) (fun e => nomatch e) h
theorem rc_gt_str (h : Q (.bool (strLt y x)) s) : wpAny (model prog w) A (richCompare .Gt (.str x t) (.str y u)) Q E s :=
  richCompare_gives (op := .Gt) (typeIs_str s x t) (typeIs_str s y u) PySem.F.slot_str_gt PySem.F.entry_str_gt (PySem.F.args_str_gt_2 _ _) (gives_str_gt x y t u) (fun e => nomatch e) h
end
noncomputable abbrev plList (items : Array Value) (n : Nat) : Obj := { cls := .type "list", dict := none, data := .seq items n, slots := #[] }
open AutoSeq1 (wpAny_loadPart') in
theorem items_of {M : Model} {A : Around} {E : Value → Shared → Prop} {h : Heap} {g : Array GenState} {d : Drawn} {t : Nat} {os : OsState} {l : Addr} {items : Array Value} {n : Nat} {Q : Array Value → Shared → Prop} (hl : h.get? l = some (plList items n)) (hq : Q items ⟨h, g, d, t, os⟩) :
    wpAny M A (Builtin.List.listItems (.ref l)) Q E ⟨h, g, d, t, os⟩ := by
  wp_walk using wpAny_loadPart' hl
  exact hq
open AutoSeq1 (wpAny_loadPart') in
open MeetsSeq MeetsSeq2 MeetsSeq3 SeqAt in
theorem lt_loop (l b : Addr) (n n2 : Nat) (k : Nat) : ∀ (i : Nat) (items items2 : Array Value) (xs ys : List Str), StrsAre items.toList xs → StrsAre items2.toList ys → xs.length - i = k →
    Meets (Builtin.«list.__eq__.loop» ⟨[.ref l, .ref b, rawInt i, rawInt 0], []⟩)
      (fun _ R s => s.heap.get? l = some (plList items n) ∧ s.heap.get? b = some (plList items2 n2) ∧ i ≤ xs.length ∧ i ≤ ys.length ∧ R (.ok (.ret (.bool (ltL (xs.drop i) (ys.drop i))))) s) := by
  induction k with
  | zero =>
    intro i items items2 xs ys hx hy hk prog w A R s h
    obtain ⟨hp, g, d, tk, os⟩ := s; obtain ⟨hl, hb, h1, h2, h⟩ := h
    have e1 := strsAre_len hx; have e2 := strsAre_len hy
    rw [Array.length_toList] at e1 e2
    wp_walk using wpAny_loadPart' hl, wpAny_loadPart' hb
    have hi1 : items[((i : Nat) : Int).toNat]? = none := by simp; omega
    have hd : xs.drop i = [] := by simp; omega
    rw [hd] at h
    rw [hi1]
    wp_walk using wpAny_loadPart' hl, wpAny_loadPart' hb
    show R (.ok (.ret (.bool (decide (items.size < items2.size))))) _
    have e : decide (items.size < items2.size) = ltL [] (ys.drop i) := by
      cases hys : ys.drop i with
      | nil => have : ys.length ≤ i := by simpa using hys
               simp [ltL]; omega
      | cons y r =>
        have : i < ys.length := by
          rcases Nat.lt_or_ge i ys.length with q | q
          · exact q
          · rw [List.drop_eq_nil_of_le q] at hys; cases hys
        simp [ltL]; omega
    rw [e]; exact h
  | succ k ih =>
    intro i items items2 xs ys hx hy hk prog w A R s h
    obtain ⟨hp, g, d, tk, os⟩ := s; obtain ⟨hl, hb, h1, h2, h⟩ := h
    have e1 := strsAre_len hx; have e2 := strsAre_len hy
    rw [Array.length_toList] at e1 e2
    wp_walk using wpAny_loadPart' hl, wpAny_loadPart' hb
    have hlt : i < xs.length := by omega
    have hdx : xs.drop i = xs[i] :: xs.drop (i + 1) := List.drop_eq_getElem_cons hlt
    obtain ⟨t, ht⟩ := strsAre_get hx (List.getElem?_eq_getElem hlt)
    have hi1 : items[((i : Nat) : Int).toNat]? = some (.str xs[i] t) := by rw [Int.toNat_natCast, ← Array.getElem?_toList]; exact ht
    rw [hi1]
    by_cases hlt2 : i < ys.length
    · have hdy : ys.drop i = ys[i] :: ys.drop (i + 1) := List.drop_eq_getElem_cons hlt2
      obtain ⟨u, hu⟩ := strsAre_get hy (List.getElem?_eq_getElem hlt2)
      have hi2 : items2[((i : Nat) : Int).toNat]? = some (.str ys[i] u) := by rw [Int.toNat_natCast, ← Array.getElem?_toList]; exact hu
      rw [hdx, hdy] at h
      have hc : ((i : Int) + 1) = ((i + 1 : Nat) : Int) := by push_cast; rfl
      rw [hi2]
      refine wpAny_bind (EqAt.str_str _ _ _ _ prog w _ _ ?_)
      unfold ltL at h
      cases hb' : xs[i] == ys[i] with
      | true =>
        rw [hb', if_pos rfl] at h
        wp_walk
        rw [hc]
        exact ⟨plainId_quiet plain_eq_loop _, codeAny_builtin entry_eq_loop (by
          rw [Around.under_plainId plain_eq_loop _]
          exact ih (i + 1) items items2 xs ys hx hy (by omega) prog w A R _ ⟨hl, hb, hlt, hlt2, h⟩)⟩
      | false =>
        rw [hb', if_neg Bool.false_ne_true] at h
        rw [if_neg Bool.false_ne_true]
        refine wpAny_bind (items_of hl ?_)
        refine wpAny_bind (items_of hb ?_)
        rw [hi1, hi2]
        refine wpAny_bind (rc_lt_str ?_)
        exact wpAny_pure h
    · have hdy : ys.drop i = [] := by simp; omega
      have hi2 : items2[((i : Nat) : Int).toNat]? = none := by simp; omega
      rw [hdx, hdy] at h
      rw [hi2]
      wp_walk using wpAny_loadPart' hl, wpAny_loadPart' hb
      show R (.ok (.ret (.bool (decide (items.size < items2.size))))) _
      have e : decide (items.size < items2.size) = false := by simp; omega
      rw [e]; exact h
open AutoSeq1 (wpAny_loadPart') in
open MeetsSeq MeetsSeq2 MeetsSeq3 SeqAt in
theorem gt_loop (l b : Addr) (n n2 : Nat) (k : Nat) : ∀ (i : Nat) (items items2 : Array Value) (xs ys : List Str), StrsAre items.toList xs → StrsAre items2.toList ys → xs.length - i = k →
    Meets (Builtin.«list.__eq__.loop» ⟨[.ref l, .ref b, rawInt i, rawInt 4], []⟩)
      (fun _ R s => s.heap.get? l = some (plList items n) ∧ s.heap.get? b = some (plList items2 n2) ∧ i ≤ xs.length ∧ i ≤ ys.length ∧ R (.ok (.ret (.bool (gtL (xs.drop i) (ys.drop i))))) s) := by
  induction k with
  | zero =>
    intro i items items2 xs ys hx hy hk prog w A R s h
    obtain ⟨hp, g, d, tk, os⟩ := s; obtain ⟨hl, hb, h1, h2, h⟩ := h
    have e1 := strsAre_len hx; have e2 := strsAre_len hy
    rw [Array.length_toList] at e1 e2
    wp_walk using wpAny_loadPart' hl, wpAny_loadPart' hb
    have hi1 : items[((i : Nat) : Int).toNat]? = none := by simp; omega
    have hd : xs.drop i = [] := by simp; omega
    rw [hd] at h
    rw [hi1]
    wp_walk using wpAny_loadPart' hl, wpAny_loadPart' hb
    show R (.ok (.ret (.bool (decide (items.size > items2.size))))) _
    have e : decide (items.size > items2.size) = gtL [] (ys.drop i) := by
      cases hys : ys.drop i with
      | nil => have : ys.length ≤ i := by simpa using hys
               simp [gtL]; omega
      | cons y r =>
        have : i < ys.length := by
          rcases Nat.lt_or_ge i ys.length with q | q
          · exact q
          · rw [List.drop_eq_nil_of_le q] at hys; cases hys
        simp [gtL]; omega
    rw [e]; exact h
  | succ k ih =>
    intro i items items2 xs ys hx hy hk prog w A R s h
    obtain ⟨hp, g, d, tk, os⟩ := s; obtain ⟨hl, hb, h1, h2, h⟩ := h
    have e1 := strsAre_len hx; have e2 := strsAre_len hy
    rw [Array.length_toList] at e1 e2
    wp_walk using wpAny_loadPart' hl, wpAny_loadPart' hb
    have hlt : i < xs.length := by omega
    have hdx : xs.drop i = xs[i] :: xs.drop (i + 1) := List.drop_eq_getElem_cons hlt
    obtain ⟨t, ht⟩ := strsAre_get hx (List.getElem?_eq_getElem hlt)
    have hi1 : items[((i : Nat) : Int).toNat]? = some (.str xs[i] t) := by rw [Int.toNat_natCast, ← Array.getElem?_toList]; exact ht
    rw [hi1]
    by_cases hlt2 : i < ys.length
    · have hdy : ys.drop i = ys[i] :: ys.drop (i + 1) := List.drop_eq_getElem_cons hlt2
      obtain ⟨u, hu⟩ := strsAre_get hy (List.getElem?_eq_getElem hlt2)
      have hi2 : items2[((i : Nat) : Int).toNat]? = some (.str ys[i] u) := by rw [Int.toNat_natCast, ← Array.getElem?_toList]; exact hu
      rw [hdx, hdy] at h
      have hc : ((i : Int) + 1) = ((i + 1 : Nat) : Int) := by push_cast; rfl
      rw [hi2]
      refine wpAny_bind (EqAt.str_str _ _ _ _ prog w _ _ ?_)
      unfold gtL at h
      cases hb' : xs[i] == ys[i] with
      | true =>
        rw [hb', if_pos rfl] at h
        wp_walk
        rw [hc]
        exact ⟨plainId_quiet plain_eq_loop _, codeAny_builtin entry_eq_loop (by
          rw [Around.under_plainId plain_eq_loop _]
          exact ih (i + 1) items items2 xs ys hx hy (by omega) prog w A R _ ⟨hl, hb, hlt, hlt2, h⟩)⟩
      | false =>
        rw [hb', if_neg Bool.false_ne_true] at h
        rw [if_neg Bool.false_ne_true]
        refine wpAny_bind (items_of hl ?_)
        refine wpAny_bind (items_of hb ?_)
        rw [hi1, hi2]
        refine wpAny_bind (rc_gt_str ?_)
        exact wpAny_pure h
    · have hdy : ys.drop i = [] := by simp; omega
      have hi2 : items2[((i : Nat) : Int).toNat]? = none := by simp; omega
      rw [hdx, hdy] at h
      rw [hi2]
      wp_walk using wpAny_loadPart' hl, wpAny_loadPart' hb
      show R (.ok (.ret (.bool (decide (items.size > items2.size))))) _
      have e : decide (items.size > items2.size) = true := by simp; omega
      rw [e]; exact h

theorem list_lt (l b : Addr) (n n2 : Nat) {items items2 : Array Value} {xs ys : List Str} (hx : StrsAre items.toList xs) (hy : StrsAre items2.toList ys) : Meets (Builtin.«list.__lt__» ⟨[.ref l, .ref b], []⟩)
    (fun _ R s => s.heap.get? l = some (plList items n) ∧ s.heap.get? b = some (plList items2 n2) ∧ R (.ok (.ret (.bool (ltL xs ys)))) s) := by
  intro prog w A R s h
  obtain ⟨hp, g, d, tk, os⟩ := s; obtain ⟨hl, hb, h⟩ := h
  have f3 := AutoSeq1.sub_list_list
  wp_walk using AutoSeq1.wpAny_loadPart' hl, AutoSeq1.wpAny_loadPart' hb
  exact ⟨plainId_quiet MeetsSeq3.plain_eq_loop _, codeAny_builtin MeetsSeq3.entry_eq_loop (by
    rw [Around.under_plainId MeetsSeq3.plain_eq_loop _]
    exact lt_loop l b n n2 _ 0 items items2 xs ys hx hy rfl prog w A R _ ⟨hl, hb, Nat.zero_le _, Nat.zero_le _, h⟩)⟩
theorem list_gt (l b : Addr) (n n2 : Nat) {items items2 : Array Value} {xs ys : List Str} (hx : StrsAre items.toList xs) (hy : StrsAre items2.toList ys) : Meets (Builtin.«list.__gt__» ⟨[.ref l, .ref b], []⟩)
    (fun _ R s => s.heap.get? l = some (plList items n) ∧ s.heap.get? b = some (plList items2 n2) ∧ R (.ok (.ret (.bool (gtL xs ys)))) s) := by
  intro prog w A R s h
  obtain ⟨hp, g, d, tk, os⟩ := s; obtain ⟨hl, hb, h⟩ := h
  have f3 := AutoSeq1.sub_list_list
  wp_walk using AutoSeq1.wpAny_loadPart' hl, AutoSeq1.wpAny_loadPart' hb
  exact ⟨plainId_quiet MeetsSeq3.plain_eq_loop _, codeAny_builtin MeetsSeq3.entry_eq_loop (by
    rw [Around.under_plainId MeetsSeq3.plain_eq_loop _]
    exact gt_loop l b n n2 _ 0 items items2 xs ys hx hy rfl prog w A R _ ⟨hl, hb, Nat.zero_le _, Nat.zero_le _, h⟩)⟩
section
variable {prog : Program} {w : World} {A : Around} {E : Value → Shared → Prop} {s : Shared} {Q : Value → Shared → Prop} {l b : Addr} {items items2 : Array Value} {xs ys : List Str}
theorem rc_lt_lists (hl : PlL s.heap l items) (hb : PlL s.heap b items2) (hx : StrsAre items.toList xs) (hy : StrsAre items2.toList ys) (hu : A.units < cLine) (h : Q (.bool (ltL xs ys)) s) : wpAny (model prog w) A (richCompare .Lt (.ref l) (.ref b)) Q E s := by
  obtain ⟨_, n, ho, rfl⟩ := hl
  obtain ⟨_, n2, ho2, rfl⟩ := hb
  exact richCompare_meets_room (op := .Lt) ⟨_, ho, rfl⟩ ⟨_, ho2, rfl⟩ PySem.F.slot_list_lt PySem.F.entry_list_lt (PySem.F.args_list_lt_2 _ _) (list_lt l b n n2 hx hy) ⟨ho, ho2, show Value.bool (ltL xs ys) ≠ Value.notImplemented ∧ _ from ⟨(fun x => nomatch x), h⟩⟩ hu
theorem rc_gt_lists (hl : PlL s.heap l items) (hb : PlL s.heap b items2) (hx : StrsAre items.toList xs) (hy : StrsAre items2.toList ys) (hu : A.units < cLine) (h : Q (.bool (gtL xs ys)) s) : wpAny (model prog w) A (richCompare .Gt (.ref l) (.ref b)) Q E s := by
  obtain ⟨_, n, ho, rfl⟩ := hl
  obtain ⟨_, n2, ho2, rfl⟩ := hb
  exact richCompare_meets_room (op := .Gt) ⟨_, ho, rfl⟩ ⟨_, ho2, rfl⟩ PySem.F.slot_list_gt PySem.F.entry_list_gt (PySem.F.args_list_gt_2 _ _) (list_gt l b n n2 hx hy) ⟨ho, ho2, show Value.bool (gtL xs ys) ≠ Value.notImplemented ∧ _ from ⟨(fun x => nomatch x), h⟩⟩ hu
end
end

section
section
variable {prog : Program} {w : World} {A : Around} {R : Result → Shared → Prop} {I : Addr} {fp wr : List Addr} {n : Nat} {P : Nat → Value → Prop} {St : Nat → Heap → Prop} {KP : Heap → Prop}
/-- one call of the loop after another; what the comparison needs of the heap stands all the time -/
theorem min_loop (W : Walks prog w A.in1 I fp wr n P St) (bt : Nat → Nat → Bool) (S : Addr) (hSf : S ∉ fp) (hKP : ∀ h h', KP h → (∀ b o, b ∉ wr → b ≠ S → h.get? b = some o → h'.get? b = some o) → KP h')
    (hcmp : ∀ i j vi vj (s : Shared) (Q : Value → Shared → Prop) (E : Value → Shared → Prop), KP s.heap → P i vi → P j vj → Q (.bool (bt i j)) s → wpAny (model prog w) A.in1 (richCompare .Lt vi vj) Q E s) :
    ∀ (k j : Nat) (s : Shared) (vb : Value) (c : Nat), n - (j + 1) = k → j + 1 ≤ n → St (j + 1) s.heap → KP s.heap → P (argBest bt j) vb → s.heap.get? S = some (plList #[vb, vb] c) →
    (∀ v h' tk, P (argBest bt (n - 1)) v → (∀ b o, b ∉ wr → b ≠ S → s.heap.get? b = some o → h'.get? b = some o) → R (.ok (.ret v)) { s with heap := h', toks := tk }) →
    codeAny (model prog w) A (.builtin "min.loop" ⟨[.ref I, .none, .ref S], []⟩) R s := by
  have hSw : S ∉ wr := fun h => hSf (W.sub _ h)
  have hname : (toString "min" ++ toString ".loop" : String) = "min.loop" := by decide
  intro k
  induction k with
  | zero =>
    intro j s vb c hk hj hst hkp hPb hS hR
    obtain rfl : j + 1 = n := by omega
    refine codeAny_builtin PySem.F.entry_min_loop ?_
    rw [Around.under_plainId PySem.F.plain_min_loop _]
    show wpAny _ A.in1 (seqItems? (.ref S) >>= _) _ _ s
    refine wpAny_bind (wpAny_seqItems hS rfl ?_)
    show wpAny _ A.in1 (tryCatch (pyNext (.ref I)) _ >>= _) _ _ s
    refine wpAny_bind (wpAny_tryCatch (W.done s _ _ hst fun h' tk hk' => ?_))
    show wpAny _ A.in1 (updateSeq S (fun _ => #[]) >>= _) _ _ _
    refine wpAny_bind (wpAny_updateSeq (hk' S _ hSw hS) rfl (wpAny_bind (wpAny_letGo (wpAny_pure ?_))))
    exact hR vb _ tk hPb fun b o h1 h2 e => (Heap.get?_update_other _ _ (Ne.symm h2)).trans (hk' b o h1 e)
  | succ k ih =>
    intro j s vb c hk hj hst hkp hPb hS hR
    have hlt : j + 1 < n := by omega
    refine codeAny_builtin PySem.F.entry_min_loop ?_
    rw [Around.under_plainId PySem.F.plain_min_loop _]
    show wpAny _ A.in1 (seqItems? (.ref S) >>= _) _ _ s
    refine wpAny_bind (wpAny_seqItems hS rfl ?_)
    show wpAny _ A.in1 (tryCatch (pyNext (.ref I)) _ >>= _) _ _ s
    refine wpAny_bind (wpAny_tryCatch (W.item (j + 1) s _ _ hlt hst fun v h' tk hP hst' hk' => ?_))
    have hS' := hk' S _ hSw hS
    have hkp' : KP h' := hKP _ _ hkp fun b o h1 _ e => hk' b o h1 e
    show wpAny _ A.in1 (tryCatch (holding [v, v] (richCompare .Lt v vb >>= _)) _ >>= _) _ _ _
    refine wpAny_bind (wpAny_tryCatch (wpAny_holding (wpAny_bind (hcmp (j + 1) (argBest bt j) v vb { s with heap := h', toks := tk } _ _ hkp' hP hPb ?_))))
    refine wpAny_bind (wpAny_holding (wpAny_truthy_bool ?_))
    refine wpAny_bind (wpAny_letGo (wpAny_pure ?_))
    cases hb : bt (j + 1) (argBest bt j) with
    | true =>
      rw [if_pos rfl]
      refine wpAny_bind ?_
      refine wpAny_updateSeq hS' rfl (wpAny_bind (wpAny_letGo ?_))
      rw [hname]
      have up : ∀ b o, b ≠ S → h'.get? b = some o → (h'.update S (Obj.mapSeq fun _ => #[v, v])).get? b = some o := fun b o h2 e => (Heap.get?_update_other _ _ (Ne.symm h2)).trans e
      refine wpAny_pure ⟨plainId_quiet PySem.F.plain_min_loop _, ih (j + 1) _ v _ (by omega) hlt (W.frame _ _ _ hst' fun b hbf o e => up b o (fun q => hSf (q ▸ hbf)) e) (hKP _ _ hkp' fun b o _ h2 e => up b o h2 e)
        (by simp only [argBest, hb, if_true]; exact hP) (Heap.get?_update_self _ hS' rfl) fun v' h'' tk'' hP' hk'' => ?_⟩
      exact hR v' h'' tk'' hP' fun b o h1 h2 e => hk'' b o h1 h2 (up b o h2 (hk' b o h1 e))
    | false =>
      rw [if_neg Bool.false_ne_true]
      refine wpAny_bind (wpAny_letGo ?_)
      rw [hname]
      refine wpAny_pure ⟨plainId_quiet PySem.F.plain_min_loop _, ih (j + 1) _ vb c (by omega) hlt hst' hkp' (by simp only [argBest, hb, Bool.false_eq_true, if_false]; exact hPb) hS' fun v' h'' tk'' hP' hk'' => ?_⟩
      exact hR v' h'' tk'' hP' fun b o h1 h2 e => hk'' b o h1 h2 (hk' b o h1 e)
end
section
variable {prog : Program} {w : World} {A : Around} {E : Value → Shared → Prop} {s : Shared}
theorem call_min_kept {x : Value} {Q : Value → Shared → Prop} (bt : Nat → Nat → Bool)
    (h : wpAny (model prog w) A.in1 (pyIter x) (fun it s₂ => ∃ (I : Addr) (fp wr : List Addr) (n : Nat) (P : Nat → Value → Prop) (St : Nat → Heap → Prop) (KP : Heap → Prop), it = .ref I ∧ Walks prog w A.in1 I fp wr n P St ∧ St 0 s₂.heap ∧ (∀ b ∈ fp, b < s₂.heap.objs.size) ∧ 0 < n ∧ KP s₂.heap ∧
      (∀ h h', KP h → (∀ b o, b ∉ wr → b < s₂.heap.objs.size → h.get? b = some o → h'.get? b = some o) → KP h') ∧
      (∀ i j vi vj (s : Shared) (Q : Value → Shared → Prop) (E : Value → Shared → Prop), KP s.heap → P i vi → P j vj → Q (.bool (bt i j)) s → wpAny (model prog w) A.in1 (richCompare .Lt vi vj) Q E s) ∧
      ∀ v h' tk, P (argBest bt (n - 1)) v → (∀ b o, b ∉ wr → s₂.heap.get? b = some o → h'.get? b = some o) → Q v { s₂ with heap := h', toks := tk }) E s) :
    wpAny (model prog w) A (call (.builtin "min") [x]) Q E s := by
  have hname : (toString "min" ++ toString ".loop" : String) = "min.loop" := by decide
  refine call_function_tree PySem.F.kind_min PySem.F.plain_min PySem.F.entry_min (PySem.F.args_min1 _) ?_
  show wpAny _ A.in1 (Builtin.Builtins.bindParams "min" ["key", "default"] 0 ⟨[], []⟩ >>= _) _ _ s
  refine wpAny_bind (wpAny_of_eq (show Builtin.Builtins.bindParams "min" ["key", "default"] 0 ⟨[], []⟩ = pure [none, none] from rfl) ?_)
  refine wpAny_bind (wpAny_pure ?_)
  refine wpAny_bind (wpAny_mono h (fun it s₂ h₂ => ?_) fun _ _ e => e)
  obtain ⟨I, fp, wr, n, P, St, KP, rfl, W, hst, hfp, hn, hkp, hKP, hcmp, hQ⟩ := h₂
  refine wpAny_bind (wpAny_newObj_type ?_)
  have hSf : s₂.heap.objs.size ∉ fp := fun hm => Nat.lt_irrefl _ (hfp _ hm)
  have hSw : s₂.heap.objs.size ∉ wr := fun h => hSf (W.sub _ h)
  have hKP' : ∀ h h', KP h → (∀ b o, b ∉ wr → b ≠ s₂.heap.objs.size → h.get? b = some o → h'.get? b = some o) → KP h' := fun h h' k q => hKP h h' k fun b o h1 h2 e => q b o h1 (Nat.ne_of_lt h2) e
  rw [hname]
  have hS : (s₂.heap.push (plList #[] 0)).get? s₂.heap.objs.size = some (plList #[] 0) := Heap.get?_push_size _ rfl
  have hst₁ : St 0 (s₂.heap.push (plList #[] 0)) := W.frame _ _ _ hst fun b _ o e => Heap.get?_push_of_some _ e
  have hkp₁ : KP (s₂.heap.push (plList #[] 0)) := hKP _ _ hkp fun b o _ _ e => Heap.get?_push_of_some _ e
  refine wpAny_pure ⟨plainId_quiet PySem.F.plain_min_loop _, ?_⟩
  -- the first item is the best so far
  refine codeAny_builtin PySem.F.entry_min_loop ?_
  rw [Around.under_plainId PySem.F.plain_min_loop _]
  show wpAny _ A.in1 (seqItems? (.ref s₂.heap.objs.size) >>= _) _ _ _
  refine wpAny_bind (wpAny_seqItems hS rfl ?_)
  show wpAny _ A.in1 (tryCatch (pyNext (.ref I)) _ >>= _) _ _ _
  refine wpAny_bind (wpAny_tryCatch (W.item 0 { s₂ with heap := s₂.heap.push (plList #[] 0) } _ _ hn hst₁ fun v h' tk hP hst' hk' => ?_))
  have hS' := hk' _ _ hSw hS
  have hkp' : KP h' := hKP _ _ hkp₁ fun b o h1 _ e => hk' b o h1 e
  show wpAny _ A.in1 (updateSeq s₂.heap.objs.size (fun _ => #[v, v]) >>= _) _ _ _
  refine wpAny_bind ?_
  refine wpAny_updateSeq hS' rfl ?_
  rw [hname]
  have up : ∀ b o, b ≠ s₂.heap.objs.size → h'.get? b = some o → (h'.update s₂.heap.objs.size (Obj.mapSeq fun _ => #[v, v])).get? b = some o := fun b o h2 e => (Heap.get?_update_other _ _ (Ne.symm h2)).trans e
  refine wpAny_pure ⟨plainId_quiet PySem.F.plain_min_loop _, min_loop W bt s₂.heap.objs.size hSf hKP' hcmp _ 0 _ v _ rfl hn (W.frame _ _ _ hst' fun b hbf o e => up b o (fun q => hSf (q ▸ hbf)) e) (hKP' _ _ hkp' fun b o _ h2 e => up b o h2 e) hP
    (Heap.get?_update_self _ hS' rfl) fun v' h'' tk'' hP' hk'' => ?_⟩
  exact hQ v' h'' tk'' hP' fun b o h1 e => hk'' b o h1 (Nat.ne_of_lt (Heap.lt_size e)) (up b o (Nat.ne_of_lt (Heap.lt_size e)) (hk' b o h1 (Heap.get?_push_of_some _ e)))
end

section
variable {prog : Program} {w : World} {A : Around} {R : Result → Shared → Prop} {I : Addr} {fp wr : List Addr} {n : Nat} {P : Nat → Value → Prop} {St : Nat → Heap → Prop} {KP : Heap → Prop}
/-- one call of the loop after another; what the comparison needs of the heap stands all the time -/
theorem max_loop (W : Walks prog w A.in1 I fp wr n P St) (bt : Nat → Nat → Bool) (S : Addr) (hSf : S ∉ fp) (hKP : ∀ h h', KP h → (∀ b o, b ∉ wr → b ≠ S → h.get? b = some o → h'.get? b = some o) → KP h')
    (hcmp : ∀ i j vi vj (s : Shared) (Q : Value → Shared → Prop) (E : Value → Shared → Prop), KP s.heap → P i vi → P j vj → Q (.bool (bt i j)) s → wpAny (model prog w) A.in1 (richCompare .Gt vi vj) Q E s) :
    ∀ (k j : Nat) (s : Shared) (vb : Value) (c : Nat), n - (j + 1) = k → j + 1 ≤ n → St (j + 1) s.heap → KP s.heap → P (argBest bt j) vb → s.heap.get? S = some (plList #[vb, vb] c) →
    (∀ v h' tk, P (argBest bt (n - 1)) v → (∀ b o, b ∉ wr → b ≠ S → s.heap.get? b = some o → h'.get? b = some o) → R (.ok (.ret v)) { s with heap := h', toks := tk }) →
    codeAny (model prog w) A (.builtin "max.loop" ⟨[.ref I, .none, .ref S], []⟩) R s := by
  have hSw : S ∉ wr := fun h => hSf (W.sub _ h)
  have hname : (toString "max" ++ toString ".loop" : String) = "max.loop" := by decide
  intro k
  induction k with
  | zero =>
    intro j s vb c hk hj hst hkp hPb hS hR
    obtain rfl : j + 1 = n := by omega
    refine codeAny_builtin PySem.F.entry_max_loop ?_
    rw [Around.under_plainId PySem.F.plain_max_loop _]
    show wpAny _ A.in1 (seqItems? (.ref S) >>= _) _ _ s
    refine wpAny_bind (wpAny_seqItems hS rfl ?_)
    show wpAny _ A.in1 (tryCatch (pyNext (.ref I)) _ >>= _) _ _ s
    refine wpAny_bind (wpAny_tryCatch (W.done s _ _ hst fun h' tk hk' => ?_))
    show wpAny _ A.in1 (updateSeq S (fun _ => #[]) >>= _) _ _ _
    refine wpAny_bind (wpAny_updateSeq (hk' S _ hSw hS) rfl (wpAny_bind (wpAny_letGo (wpAny_pure ?_))))
    exact hR vb _ tk hPb fun b o h1 h2 e => (Heap.get?_update_other _ _ (Ne.symm h2)).trans (hk' b o h1 e)
  | succ k ih =>
    intro j s vb c hk hj hst hkp hPb hS hR
    have hlt : j + 1 < n := by omega
    refine codeAny_builtin PySem.F.entry_max_loop ?_
    rw [Around.under_plainId PySem.F.plain_max_loop _]
    show wpAny _ A.in1 (seqItems? (.ref S) >>= _) _ _ s
    refine wpAny_bind (wpAny_seqItems hS rfl ?_)
    show wpAny _ A.in1 (tryCatch (pyNext (.ref I)) _ >>= _) _ _ s
    refine wpAny_bind (wpAny_tryCatch (W.item (j + 1) s _ _ hlt hst fun v h' tk hP hst' hk' => ?_))
    have hS' := hk' S _ hSw hS
    have hkp' : KP h' := hKP _ _ hkp fun b o h1 _ e => hk' b o h1 e
    show wpAny _ A.in1 (tryCatch (holding [v, v] (richCompare .Gt v vb >>= _)) _ >>= _) _ _ _
    refine wpAny_bind (wpAny_tryCatch (wpAny_holding (wpAny_bind (hcmp (j + 1) (argBest bt j) v vb { s with heap := h', toks := tk } _ _ hkp' hP hPb ?_))))
    refine wpAny_bind (wpAny_holding (wpAny_truthy_bool ?_))
    refine wpAny_bind (wpAny_letGo (wpAny_pure ?_))
    cases hb : bt (j + 1) (argBest bt j) with
    | true =>
      rw [if_pos rfl]
      refine wpAny_bind ?_
      refine wpAny_updateSeq hS' rfl (wpAny_bind (wpAny_letGo ?_))
      rw [hname]
      have up : ∀ b o, b ≠ S → h'.get? b = some o → (h'.update S (Obj.mapSeq fun _ => #[v, v])).get? b = some o := fun b o h2 e => (Heap.get?_update_other _ _ (Ne.symm h2)).trans e
      refine wpAny_pure ⟨plainId_quiet PySem.F.plain_max_loop _, ih (j + 1) _ v _ (by omega) hlt (W.frame _ _ _ hst' fun b hbf o e => up b o (fun q => hSf (q ▸ hbf)) e) (hKP _ _ hkp' fun b o _ h2 e => up b o h2 e)
        (by simp only [argBest, hb, if_true]; exact hP) (Heap.get?_update_self _ hS' rfl) fun v' h'' tk'' hP' hk'' => ?_⟩
      exact hR v' h'' tk'' hP' fun b o h1 h2 e => hk'' b o h1 h2 (up b o h2 (hk' b o h1 e))
    | false =>
      rw [if_neg Bool.false_ne_true]
      refine wpAny_bind (wpAny_letGo ?_)
      rw [hname]
      refine wpAny_pure ⟨plainId_quiet PySem.F.plain_max_loop _, ih (j + 1) _ vb c (by omega) hlt hst' hkp' (by simp only [argBest, hb, Bool.false_eq_true, if_false]; exact hPb) hS' fun v' h'' tk'' hP' hk'' => ?_⟩
      exact hR v' h'' tk'' hP' fun b o h1 h2 e => hk'' b o h1 h2 (hk' b o h1 e)
end
section
variable {prog : Program} {w : World} {A : Around} {E : Value → Shared → Prop} {s : Shared}
theorem call_max_kept {x : Value} {Q : Value → Shared → Prop} (bt : Nat → Nat → Bool)
    (h : wpAny (model prog w) A.in1 (pyIter x) (fun it s₂ => ∃ (I : Addr) (fp wr : List Addr) (n : Nat) (P : Nat → Value → Prop) (St : Nat → Heap → Prop) (KP : Heap → Prop), it = .ref I ∧ Walks prog w A.in1 I fp wr n P St ∧ St 0 s₂.heap ∧ (∀ b ∈ fp, b < s₂.heap.objs.size) ∧ 0 < n ∧ KP s₂.heap ∧
      (∀ h h', KP h → (∀ b o, b ∉ wr → b < s₂.heap.objs.size → h.get? b = some o → h'.get? b = some o) → KP h') ∧
      (∀ i j vi vj (s : Shared) (Q : Value → Shared → Prop) (E : Value → Shared → Prop), KP s.heap → P i vi → P j vj → Q (.bool (bt i j)) s → wpAny (model prog w) A.in1 (richCompare .Gt vi vj) Q E s) ∧
      ∀ v h' tk, P (argBest bt (n - 1)) v → (∀ b o, b ∉ wr → s₂.heap.get? b = some o → h'.get? b = some o) → Q v { s₂ with heap := h', toks := tk }) E s) :
    wpAny (model prog w) A (call (.builtin "max") [x]) Q E s := by
  have hname : (toString "max" ++ toString ".loop" : String) = "max.loop" := by decide
  refine call_function_tree PySem.F.kind_max PySem.F.plain_max PySem.F.entry_max (PySem.F.args_max1 _) ?_
  show wpAny _ A.in1 (Builtin.Builtins.bindParams "max" ["key", "default"] 0 ⟨[], []⟩ >>= _) _ _ s
  refine wpAny_bind (wpAny_of_eq (show Builtin.Builtins.bindParams "max" ["key", "default"] 0 ⟨[], []⟩ = pure [none, none] from rfl) ?_)
  refine wpAny_bind (wpAny_pure ?_)
  refine wpAny_bind (wpAny_mono h (fun it s₂ h₂ => ?_) fun _ _ e => e)
  obtain ⟨I, fp, wr, n, P, St, KP, rfl, W, hst, hfp, hn, hkp, hKP, hcmp, hQ⟩ := h₂
  refine wpAny_bind (wpAny_newObj_type ?_)
  have hSf : s₂.heap.objs.size ∉ fp := fun hm => Nat.lt_irrefl _ (hfp _ hm)
  have hSw : s₂.heap.objs.size ∉ wr := fun h => hSf (W.sub _ h)
  have hKP' : ∀ h h', KP h → (∀ b o, b ∉ wr → b ≠ s₂.heap.objs.size → h.get? b = some o → h'.get? b = some o) → KP h' := fun h h' k q => hKP h h' k fun b o h1 h2 e => q b o h1 (Nat.ne_of_lt h2) e
  rw [hname]
  have hS : (s₂.heap.push (plList #[] 0)).get? s₂.heap.objs.size = some (plList #[] 0) := Heap.get?_push_size _ rfl
  have hst₁ : St 0 (s₂.heap.push (plList #[] 0)) := W.frame _ _ _ hst fun b _ o e => Heap.get?_push_of_some _ e
  have hkp₁ : KP (s₂.heap.push (plList #[] 0)) := hKP _ _ hkp fun b o _ _ e => Heap.get?_push_of_some _ e
  refine wpAny_pure ⟨plainId_quiet PySem.F.plain_max_loop _, ?_⟩
  -- the first item is the best so far
  refine codeAny_builtin PySem.F.entry_max_loop ?_
  rw [Around.under_plainId PySem.F.plain_max_loop _]
  show wpAny _ A.in1 (seqItems? (.ref s₂.heap.objs.size) >>= _) _ _ _
  refine wpAny_bind (wpAny_seqItems hS rfl ?_)
  show wpAny _ A.in1 (tryCatch (pyNext (.ref I)) _ >>= _) _ _ _
  refine wpAny_bind (wpAny_tryCatch (W.item 0 { s₂ with heap := s₂.heap.push (plList #[] 0) } _ _ hn hst₁ fun v h' tk hP hst' hk' => ?_))
  have hS' := hk' _ _ hSw hS
  have hkp' : KP h' := hKP _ _ hkp₁ fun b o h1 _ e => hk' b o h1 e
  show wpAny _ A.in1 (updateSeq s₂.heap.objs.size (fun _ => #[v, v]) >>= _) _ _ _
  refine wpAny_bind ?_
  refine wpAny_updateSeq hS' rfl ?_
  rw [hname]
  have up : ∀ b o, b ≠ s₂.heap.objs.size → h'.get? b = some o → (h'.update s₂.heap.objs.size (Obj.mapSeq fun _ => #[v, v])).get? b = some o := fun b o h2 e => (Heap.get?_update_other _ _ (Ne.symm h2)).trans e
  refine wpAny_pure ⟨plainId_quiet PySem.F.plain_max_loop _, max_loop W bt s₂.heap.objs.size hSf hKP' hcmp _ 0 _ v _ rfl hn (W.frame _ _ _ hst' fun b hbf o e => up b o (fun q => hSf (q ▸ hbf)) e) (hKP' _ _ hkp' fun b o _ h2 e => up b o h2 e) hP
    (Heap.get?_update_self _ hS' rfl) fun v' h'' tk'' hP' hk'' => ?_⟩
  exact hQ v' h'' tk'' hP' fun b o h1 e => hk'' b o h1 (Nat.ne_of_lt (Heap.lt_size e)) (up b o (Nat.ne_of_lt (Heap.lt_size e)) (hk' b o h1 (Heap.get?_push_of_some _ e)))
end
end

section
section
variable {prog : Program} {w : World} {A : Around} {E : Value → Shared → Prop} {s : Shared} {I : Addr} {fp wr : List Addr} {G : Array GenState → Array GenState → Prop} {n : Nat} {P : Nat → Value → Prop} {St : Nat → Shared → Prop}
/-- all that a map gives, taken into a list of the machine's own -/
theorem collect_map {Q : List Value → Shared → Prop} (W : WalksS prog w A.in1 I fp wr G n P St) (hT : ∀ i s, St i s → s.TypeIs (.ref I) "map") (hst : St 0 s) (hfp : ∀ b ∈ fp, b < s.heap.objs.size) (hI : I ∈ fp)
    (hQ : ∀ s' acc, Moved wr G s s' → ItemsOf P acc n → Q acc.toList s') (hn : n ≤ sizeLine) : wpAny (model prog w) A (collect (.ref I)) Q E s := by
  generalize hS : s.heap.objs.size = S
  have hSf : S ∉ fp := fun hm => Nat.lt_irrefl S (hS ▸ hfp S hm)
  have hSI : S ≠ I := fun e => hSf (e ▸ hI)
  unfold collect
  refine wpAny_bind (wpAny_runValue (codeAny_builtin PySem.F.entry_proto_collect ?_))
  rw [Around.under_plainId PySem.F.plain_proto_collect _]
  show wpAny _ A.in1 (newList [] >>= fun l => again (.builtin "list.__iadd__" ⟨[l, .ref I], []⟩)) _ _ s
  refine wpAny_bind (wpAny_newObj_type ?_)
  rw [hS]
  refine wpAny_pure ⟨plainId_quiet PySem.F.plain_list_iadd _, codeAny_builtin PySem.F.entry_list_iadd ?_⟩
  rw [Around.under_plainId PySem.F.plain_list_iadd _]
  have h0 : (s.heap.push (plList #[] 0)).get? S = some (plList #[] 0) := by rw [← hS]; exact Heap.get?_push_size _ rfl
  have hst₁ := W.frame 0 s (s.heap.push (plList #[] 0)) s.toks hst (Nat.le_refl _) fun b _ o e => Heap.get?_push_of_some _ e
  show wpAny _ A.in1 (Builtin.List.listExtendWith (.ref S) (.ref I) (.ref S)) _ _ _
  unfold Builtin.List.listExtendWith
  refine wpAny_bind (wpAny_typeOf (hT 0 _ hst₁) ?_)
  rw [show Builtin.List.listSameRef (.ref S) (.ref I) = false by simp [Builtin.List.listSameRef, hSI], show (Value.type "map" == Value.type "list") = false by decide, show (Value.type "map" == Value.type "tuple") = false by decide]
  refine wpAny_bind (W.self 0 _ _ _ hst₁ ?_)
  refine wpAny_bind (wpAny_holding ?_)
  unfold Builtin.List.listLengthHint
  refine wpAny_bind (wpAny_specialOf (hT 0 _ hst₁) map_no_len ?_)
  show wpAny _ A.in1 (specialOf (Value.ref I) (Str.ofString "__length_hint__") >>= _) _ _ _
  refine wpAny_bind (wpAny_specialOf (hT 0 _ hst₁) map_no_hint ?_)
  refine wpAny_pure ?_
  show wpAny _ A.in1 (rule "list.extend.makes-room" >>= fun _ => Builtin.List.listTouch (.ref S) >>= fun _ => again (.builtin "list.extend.loop" ⟨[.ref S, .ref I, .ref S], []⟩)) _ _ _
  refine wpAny_bind (wpAny_rule (wpAny_bind ?_))
  show wpAny _ A.in1 (updateSeq S (·.push .none) >>= fun _ => updateSeq S (·.pop)) _ _ _
  refine wpAny_bind (wpAny_updateSeq h0 rfl ?_)
  have h1 := Heap.get?_update_self (Obj.mapSeq (·.push Value.none)) h0 rfl
  refine wpAny_updateSeq h1 rfl ?_
  have h2 := Heap.get?_update_self (Obj.mapSeq (·.pop)) h1 rfl
  have oth : ∀ b o, b ≠ S → (s.heap.push (plList #[] 0)).get? b = some o → (((s.heap.push (plList #[] 0)).update S (Obj.mapSeq (·.push Value.none))).update S (Obj.mapSeq (·.pop))).get? b = some o :=
    fun b o hb e => (Heap.get?_update_other _ _ (Ne.symm hb)).trans ((Heap.get?_update_other _ _ (Ne.symm hb)).trans e)
  refine wpAny_pure ⟨plainId_quiet PySem.F.plain_extend_loop _, codeAny_extend_loopS W hn _ hSf _ n 0 _ _ _ rfl (Nat.zero_le _)
    (W.frame 0 ({ s with heap := s.heap.push (plList #[] 0) } : Shared) _ s.toks hst₁ (Nat.le_refl _) fun b hb o e => oth b o (fun h => hSf (h ▸ hb)) e) h2 (ItemsOf.nil P) fun s' acc' c' hm hS' hacc => ?_⟩
  show wpAny _ A (load S >>= _) _ _ s'
  refine wpAny_bind (wpAny_load hS' (wpAny_pure (hQ s' acc' ⟨fun b o hb e => hm.heap b o (fun q => ?_) (oth b o ?_ (Heap.get?_push_of_some _ e)), hm.gens, hm.drawn, hm.os, hm.toks⟩ hacc)))
  · rcases List.mem_cons.mp q with q | q
    · have := Heap.lt_size e; rw [hS] at this; exact absurd (q ▸ this) (Nat.lt_irrefl S)
    · exact hb q
  · have := Heap.lt_size e; rw [hS] at this; exact Nat.ne_of_lt this
theorem code_tuple_map {Q₁ : Value → Shared → Prop} (W : WalksS prog w A.in1.in1 I fp wr G n P St) (hT : ∀ i s, St i s → s.TypeIs (.ref I) "map") (hst : St 0 s) (hfp : ∀ b ∈ fp, b < s.heap.objs.size) (hI : I ∈ fp)
    (h : ∀ s' acc, Moved wr G s s' → ItemsOf P acc n → Q₁ (.ref s'.heap.objs.size) { s' with heap := s'.heap.push { cls := .type "tuple", data := .seq acc } }) (hsz : n ≤ sizeLine) :
    codeAny (model prog w) A (.call (.builtin "tuple.__new__") ⟨[.type "tuple", .ref I], []⟩) (wants Q₁ E) s := by
  refine codeAny_of_tree ?_
  show wpAny _ A.in1 (do checkBuiltinCall "tuple.__new__" ⟨[.type "tuple", .ref I], []⟩; again (.builtin "tuple.__new__" ⟨[.type "tuple", .ref I], []⟩)) _ _ s
  refine wpAny_bind (wpAny_of_eq (PySem.F.newCall_tuple_1 _) (wpAny_pure ⟨plainId_quiet PySem.F.plain_tuple_new _, codeAny_builtin PySem.F.entry_tuple_new ?_⟩))
  rw [Around.under_plainId PySem.F.plain_tuple_new _]
  have hsub := sub_tuple_self
  have hinit := init_tuple_lookup
  have hmh := madeHere_tuple
  have hTI := hT 0 s hst
  wp_walk using wpAny_typeOf hTI, collect_map (hn := hsz) W hT hst hfp hI
  intro s' acc hm hacc
  show wpAny _ _ (Builtin.Tuple.tupleExact acc.toList.toArray >>= fun v => ret v) _ _ _
  unfold Builtin.Tuple.tupleExact
  refine wpAny_bind (wpAny_newObj_type ?_ (by show acc.toList.toArray.size ≤ sizeLine; simp only [Array.toArray_toList]; rw [hacc.1]; exact hsz))
  refine wpAny_pure ?_
  rw [show acc.toList.toArray = acc by simp]
  exact h s' acc hm hacc
theorem call_tuple_map {Q : Value → Shared → Prop} (W : WalksS prog w A.in1.in1.in1 I fp wr G n P St) (hT : ∀ i s, St i s → s.TypeIs (.ref I) "map") (hst : St 0 s) (hfp : ∀ b ∈ fp, b < s.heap.objs.size) (hI : I ∈ fp)
    (hQ : ∀ s' acc, Moved wr G s s' → ItemsOf P acc n → Q (.ref s'.heap.objs.size) { s' with heap := s'.heap.push { cls := .type "tuple", data := .seq acc } }) (hsz : n ≤ sizeLine) :
    wpAny (model prog w) A (call (.type "tuple") [.ref I]) Q E s := by
  refine callType_codes (Q₁ := fun obj s₁ => s₁.TypeIs obj "tuple" ∧ Q obj s₁) PySem.F.called_tuple (PySem.F.typeCall_tuple_1 _) PySem.F.entry_object_init
    (code_tuple_map (hsz := hsz) W hT hst hfp hI fun s' acc hm hacc => ⟨⟨_, Heap.get?_push_size _ rfl, rfl⟩, hQ s' acc hm hacc⟩) fun obj s₁ h₁ => ?_
  exact ⟨h₁.1, PySem.F.args_object_init_2 obj _, object_init_meets PySem.F.called_tuple.init.lookup PySem.F.called_tuple.made (by decide) prog w A.in1 _ s₁ ⟨h₁.1, rfl, h₁.2⟩⟩
end
end

section
section
variable {C : Ctx} {l k : Nat} {sc : Scope} {ρ : Rho}
theorem Ev.tupleMap (hT : C.T = []) {ft fm ff e : Expr} {p1 p2 : Pos} {fn : Addr} {xs : List Str} {f : Bool} (hft : EvN C sc ft (.type "tuple")) (hfm : EvN C sc fm (.type "map")) (hff : EvN C sc ff (.ref fn)) (he : Ev C l sc ρ e (.list (xs.map .str), f))
    (hc : ∀ x : Str, Calls C k (.ref fn) [(.str x, false)] (.str x, false)) (hl : k + 4 ≤ l) (hsz : xs.length ≤ sizeLine)
    (hn1 : ∀ env, starEach [.Call fm [ff, e] [] p1] env = (false, eval (.Call fm [ff, e] [] p1) env) :: starEach [] env) (hn2 : ∀ env, starEach [ff, e] env = (false, eval ff env) :: starEach [e] env) (hn3 : ∀ env, starEach [e] env = (false, eval e env) :: starEach [] env)
    (hp : ∀ env pos, (backTo pos (starEach [e] env)).any (·.1) = false)
    (he1 : ∀ env, eval (.Call ft [.Call fm [ff, e] [] p1] [] p2) env = (do callWith p2 (← eval ft env) [] (backTo p2 (starEach [.Call fm [ff, e] [] p1] env)) (backToKw p2 (keywordEach [] env))))
    (he2 : ∀ env, eval (.Call fm [ff, e] [] p1) env = (do callWith p1 (← eval fm env) [] (backTo p1 (starEach [ff, e] env)) (backToKw p1 (keywordEach [] env)))) :
    Ev C l sc ρ (.Call ft [.Call fm [ff, e] [] p1] [] p2) (.tuple (xs.map .str), false) := by
  intro A s env O Q E R hs er hQ
  refine Call_ (hft hs er ?_) (he1 env)
  refine PyProof.Rows.callWith_type1 ?_ (hn1 env) rfl
  rw [hn1]
  refine spliced_cons ?_
  show wpAny _ _ (eval (.Call fm [ff, e] [] p1) env) _ _ _
  refine Call_ (hfm hs er ?_) (he2 env)
  refine PyProof.Rows.callWith_type1 ?_ (hn2 env) (hp env _)
  rw [hn2, hn3]
  refine spliced_cons ?_
  show wpAny _ _ (eval ff env) _ _ _
  refine hff hs er (spliced_cons ?_)
  show wpAny _ _ (eval e env) _ _ _
  refine he R hs er fun v s₁ k₁ r₁ => spliced_nil ?_
  obtain ⟨a, items, rfl, hpl, hv⟩ := vList r₁
  have er₁ := er.ks k₁
  refine call_map_list hpl.isList fun h' hm ht hit hsz' hk => spliced_nil ?_
  have hi := hv.strs
  have hlen := strsAre_len hi
  rw [Array.length_toList] at hlen
  have hlt : a < s₁.heap.objs.size := by obtain ⟨o, n, e, _⟩ := hpl; exact Heap.lt_size e
  have hgl : ∀ b ∈ fpG C.G, b < s₁.heap.objs.size := fun b hb => by
    obtain ⟨o, e⟩ := fpG_get hb
    exact Heap.lt_size (er₁.base.keep b o e)
  have ne1 : s₁.heap.objs.size + 2 ≠ s₁.heap.objs.size := Nat.ne_of_gt (Nat.lt_add_of_pos_right (by decide))
  have ne2 : s₁.heap.objs.size + 1 ≠ s₁.heap.objs.size := Nat.succ_ne_self _
  have W := mapWalks hT (l := k) hc (A := A.in1.in1.in1) (Room.in1 (Room.in1 (Room.in1 (Room.in1 (R.le hl))))) (m := s₁.heap.objs.size + 2) (its := s₁.heap.objs.size + 1) (it := s₁.heap.objs.size) (a := a) (items := items) hi ne1 ne2 (Nat.ne_of_lt hlt) (fun q => Nat.lt_irrefl _ (hgl _ q))
  refine call_tuple_map W.toS (fun i s st => ⟨_, st.1, rfl⟩) ⟨hm, ht, hit, hpl.isList.at fun o e => hk _ o e, fun b o e => hk b o (er₁.base.keep b o e)⟩ (fun b hb => ?_) (by simp) (fun s' acc hmv hacc => ?_) (by rw [hlen]; exact hsz)
  · show b < h'.objs.size
    rw [hsz']
    simp only [List.mem_cons] at hb
    rcases hb with rfl | rfl | rfl | rfl | hb
    · exact Nat.lt_succ_self _
    · exact Nat.lt_of_lt_of_le (Nat.lt_succ_self _) (Nat.le_succ _)
    · exact Nat.lt_add_of_pos_right (by decide)
    · exact Nat.lt_of_lt_of_le hlt (Nat.le_add_right _ _)
    · exact Nat.lt_of_lt_of_le (hgl b hb) (Nat.le_add_right _ _)
  · have kp : ∀ b o, s₁.heap.get? b = some o → s'.heap.get? b = some o := fun b o e => hmv.heap b o (by
      simp only [List.mem_singleton]; exact Nat.ne_of_lt (Heap.lt_size e)) (hk b o e)
    have kk : KS C.T s₁ { s' with heap := s'.heap.push { cls := .type "tuple", data := .seq acc } } := by
      obtain ⟨hh, g, d, t, os⟩ := s'
      have e1 : g = s₁.gens := hmv.gens
      have e2 : d = s₁.drawn := hmv.drawn
      have e3 : os = s₁.os := hmv.os
      subst e1 e2 e3
      exact KS.of fun b o e => Heap.get?_push_of_some _ (kp b o e)
    refine hQ _ _ (k₁.trans kk) ?_
    show VR _ _ (.tuple _) _
    simp only [VR]
    refine ⟨_, acc, rfl, ⟨_, Heap.get?_push_size _ rfl, rfl, _, rfl⟩, VRs.of_get (by rw [Array.length_toList, hacc.1, List.length_map, hlen]) fun i d v hd hv' => ?_⟩
    obtain ⟨x, t, hx, rfl⟩ := hacc.2 i v (by rw [← Array.getElem?_toList]; exact hv')
    rw [List.getElem?_map, hx] at hd
    cases hd
    exact ⟨t, rfl⟩

noncomputable abbrev textsV (xs : List Str) : V := .list (xs.map .str)

noncomputable def bestmin (xss : List (List Str)) : Nat := argBest (fun i j => ltL (xss.getD i []) (xss.getD j [])) (xss.length - 1)
theorem op_min (xss : List (List Str)) (f : Bool) {xs : List Str} (hne : 0 < xss.length) (hb : xss[bestmin xss]? = some xs) : Calls C l (.builtin "min") [(.list (xss.map textsV), f)] (textsV xs, false) := by
  intro A s O Q E vs R B L hv h
  obtain ⟨_, _, rfl, h₁, rfl⟩ := hv
  obtain ⟨a, items, rfl, hp, hr⟩ := vList h₁
  have hlen := hr.length
  rw [Array.length_toList, List.length_map] at hlen
  have hlt : a < s.heap.objs.size := by obtain ⟨o, n, e, _⟩ := hp; exact Heap.lt_size e
  have item : ∀ (i : Nat) v, items[i]? = some v → ∃ b its ys, v = .ref b ∧ b ∉ O ∧ b < s.heap.objs.size ∧ xss[i]? = some ys ∧ PlL s.heap b its ∧ VRs s.heap O (ys.map .str) its.toList := fun i v hi => by
    obtain ⟨d, hd, hvr⟩ := VRs.get' hr (i := i) (v := v) (by rw [Array.getElem?_toList]; exact hi)
    rw [List.getElem?_map] at hd
    obtain ⟨ys, hys, rfl⟩ := Option.map_eq_some_iff.mp hd
    simp only [VR] at hvr
    obtain ⟨b, its, rfl, hbO, hpb, hvb⟩ := hvr
    exact ⟨b, its, ys, rfl, hbO, by obtain ⟨o, n, e, _⟩ := hpb; exact Heap.lt_size e, hys, hpb, hvb⟩
  refine call_min_kept (fun i j => ltL (xss.getD i []) (xss.getD j [])) (wpAny_pyIter_list hp.isList ?_)
  have kp : ∀ b o, s.heap.get? b = some o → (s.heap.push { cls := .type "list_iterator", data := .fields #[.ref a, .int 0 0] }).get? b = some o := fun b o e => Heap.get?_push_of_some _ e
  refine ⟨s.heap.objs.size, [s.heap.objs.size, a], [s.heap.objs.size], items.size, _, _, (fun h => ∀ (i : Nat) b, items[i]? = some (.ref b) → ∃ its, PlL h b its ∧ StrsAre its.toList (xss.getD i [])), rfl, Walks.list (A := A.in1) R.handled s.heap.objs.size a (Nat.ne_of_lt hlt) items,
    ⟨⟨_, Heap.get?_push_size _ rfl, rfl, rfl⟩, hp.isList.at fun o e => kp _ o e⟩, fun b hb => ?_, by omega, fun i b hi => ?_, fun h₁ h₂ hk hq i b hi => ?_, fun i j vi vj s' Q' E' hk hi hj hQ => ?_, fun v h' tk hP hk => ?_⟩
  · have hz : (s.heap.push { cls := .type "list_iterator", data := .fields #[.ref a, .int 0 0] }).objs.size = s.heap.objs.size + 1 := Heap.size_push ..
    show b < _
    rw [hz]
    simp only [List.mem_cons, List.not_mem_nil, or_false] at hb
    rcases hb with rfl | rfl
    · exact Nat.lt_succ_self _
    · exact Nat.lt_succ_of_lt hlt
  · obtain ⟨b', its, ys, e, _, _, hys, hpb, hvb⟩ := item i _ hi
    cases e
    exact ⟨its, plL_at hpb fun o e => kp _ o e, by rw [List.getD_eq_getElem?_getD, hys]; exact hvb.strs⟩
  · obtain ⟨b', its', ys, e, _, hbl, _⟩ := item i _ hi
    cases e
    obtain ⟨its, hpb, hst⟩ := hk i b hi
    refine ⟨its, plL_at hpb fun o e => hq b o (by simp only [List.mem_singleton]; exact Nat.ne_of_lt hbl) ?_ e, hst⟩
    show b < _
    rw [Heap.size_push]; exact Nat.lt_succ_of_lt hbl
  · obtain ⟨bi, _, _, rfl, _⟩ := item i _ hi
    obtain ⟨bj, _, _, rfl, _⟩ := item j _ hj
    obtain ⟨its1, p1, q1⟩ := hk i bi hi
    obtain ⟨its2, p2, q2⟩ := hk j bj hj
    exact rc_lt_lists p1 p2 q1 q2 R.unit1 hQ
  · rw [hlen] at hP
    obtain ⟨b, its, ys, rfl, hbO, hbl, hys, hpb, hvb⟩ := item _ v hP
    have : bestmin xss = argBest (fun i j => ltL (xss.getD i []) (xss.getD j [])) (xss.length - 1) := rfl
    rw [this, hys] at hb
    cases hb
    have kp' : ∀ b o, s.heap.get? b = some o → h'.get? b = some o := fun b o e => hk b o (by simp only [List.mem_singleton]; exact Nat.ne_of_lt (Heap.lt_size e)) (kp b o e)
    refine h _ _ (KS.of kp') ?_
    show VR _ _ (.list _) _
    simp only [VR]
    exact ⟨b, its, rfl, hbO, plL_at hpb fun o e => kp' _ o e, VRs.tr (fun c its' hc z => ⟨hc, plL_at z fun o e => kp' _ o e⟩) (fun c its' z => isTup_at z fun o e => kp' _ o e) hvb⟩

noncomputable def bestmax (xss : List (List Str)) : Nat := argBest (fun i j => gtL (xss.getD i []) (xss.getD j [])) (xss.length - 1)
theorem op_max (xss : List (List Str)) (f : Bool) {xs : List Str} (hne : 0 < xss.length) (hb : xss[bestmax xss]? = some xs) : Calls C l (.builtin "max") [(.list (xss.map textsV), f)] (textsV xs, false) := by
  intro A s O Q E vs R B L hv h
  obtain ⟨_, _, rfl, h₁, rfl⟩ := hv
  obtain ⟨a, items, rfl, hp, hr⟩ := vList h₁
  have hlen := hr.length
  rw [Array.length_toList, List.length_map] at hlen
  have hlt : a < s.heap.objs.size := by obtain ⟨o, n, e, _⟩ := hp; exact Heap.lt_size e
  have item : ∀ (i : Nat) v, items[i]? = some v → ∃ b its ys, v = .ref b ∧ b ∉ O ∧ b < s.heap.objs.size ∧ xss[i]? = some ys ∧ PlL s.heap b its ∧ VRs s.heap O (ys.map .str) its.toList := fun i v hi => by
    obtain ⟨d, hd, hvr⟩ := VRs.get' hr (i := i) (v := v) (by rw [Array.getElem?_toList]; exact hi)
    rw [List.getElem?_map] at hd
    obtain ⟨ys, hys, rfl⟩ := Option.map_eq_some_iff.mp hd
    simp only [VR] at hvr
    obtain ⟨b, its, rfl, hbO, hpb, hvb⟩ := hvr
    exact ⟨b, its, ys, rfl, hbO, by obtain ⟨o, n, e, _⟩ := hpb; exact Heap.lt_size e, hys, hpb, hvb⟩
  refine call_max_kept (fun i j => gtL (xss.getD i []) (xss.getD j [])) (wpAny_pyIter_list hp.isList ?_)
  have kp : ∀ b o, s.heap.get? b = some o → (s.heap.push { cls := .type "list_iterator", data := .fields #[.ref a, .int 0 0] }).get? b = some o := fun b o e => Heap.get?_push_of_some _ e
  refine ⟨s.heap.objs.size, [s.heap.objs.size, a], [s.heap.objs.size], items.size, _, _, (fun h => ∀ (i : Nat) b, items[i]? = some (.ref b) → ∃ its, PlL h b its ∧ StrsAre its.toList (xss.getD i [])), rfl, Walks.list (A := A.in1) R.handled s.heap.objs.size a (Nat.ne_of_lt hlt) items,
    ⟨⟨_, Heap.get?_push_size _ rfl, rfl, rfl⟩, hp.isList.at fun o e => kp _ o e⟩, fun b hb => ?_, by omega, fun i b hi => ?_, fun h₁ h₂ hk hq i b hi => ?_, fun i j vi vj s' Q' E' hk hi hj hQ => ?_, fun v h' tk hP hk => ?_⟩
  · have hz : (s.heap.push { cls := .type "list_iterator", data := .fields #[.ref a, .int 0 0] }).objs.size = s.heap.objs.size + 1 := Heap.size_push ..
    show b < _
    rw [hz]
    simp only [List.mem_cons, List.not_mem_nil, or_false] at hb
    rcases hb with rfl | rfl
    · exact Nat.lt_succ_self _
    · exact Nat.lt_succ_of_lt hlt
  · obtain ⟨b', its, ys, e, _, _, hys, hpb, hvb⟩ := item i _ hi
    cases e
    exact ⟨its, plL_at hpb fun o e => kp _ o e, by rw [List.getD_eq_getElem?_getD, hys]; exact hvb.strs⟩
  · obtain ⟨b', its', ys, e, _, hbl, _⟩ := item i _ hi
    cases e
    obtain ⟨its, hpb, hst⟩ := hk i b hi
    refine ⟨its, plL_at hpb fun o e => hq b o (by simp only [List.mem_singleton]; exact Nat.ne_of_lt hbl) ?_ e, hst⟩
    show b < _
    rw [Heap.size_push]; exact Nat.lt_succ_of_lt hbl
  · obtain ⟨bi, _, _, rfl, _⟩ := item i _ hi
    obtain ⟨bj, _, _, rfl, _⟩ := item j _ hj
    obtain ⟨its1, p1, q1⟩ := hk i bi hi
    obtain ⟨its2, p2, q2⟩ := hk j bj hj
    exact rc_gt_lists p1 p2 q1 q2 R.unit1 hQ
  · rw [hlen] at hP
    obtain ⟨b, its, ys, rfl, hbO, hbl, hys, hpb, hvb⟩ := item _ v hP
    have : bestmax xss = argBest (fun i j => gtL (xss.getD i []) (xss.getD j [])) (xss.length - 1) := rfl
    rw [this, hys] at hb
    cases hb
    have kp' : ∀ b o, s.heap.get? b = some o → h'.get? b = some o := fun b o e => hk b o (by simp only [List.mem_singleton]; exact Nat.ne_of_lt (Heap.lt_size e)) (kp b o e)
    refine h _ _ (KS.of kp') ?_
    show VR _ _ (.list _) _
    simp only [VR]
    exact ⟨b, its, rfl, hbO, plL_at hpb fun o e => kp' _ o e, VRs.tr (fun c its' hc z => ⟨hc, plL_at z fun o e => kp' _ o e⟩) (fun c its' z => isTup_at z fun o e => kp' _ o e) hvb⟩
end
end

section
/-- the table of the set {True} -/
noncomputable def tab1 (led : Bool) : SetTable := (layNew (.fresh 0 0 led) #[] 1 (.bool true)).2.1
/-- an own set with no element, or with True alone -/
noncomputable def setObj (led : Bool) : Bool → Obj
  | false => { cls := .type "set", dict := none, data := .set #[] 0 (.fresh 0 0 led) }
  | true => { cls := .type "set", dict := none, data := .set #[(1, .bool true)] 1 (tab1 led) }
theorem tab1_fits (led : Bool) : (tab1 led).fits 1 = true := by cases led <;> decide
theorem tab1_plain (led : Bool) : (tab1 led).plain = true := by cases led <;> decide
theorem tab1_full (led : Bool) : (tab1 led).tooFull = false := by cases led <;> decide
theorem lay1 (led : Bool) : layNew (.fresh 0 0 led) #[] 1 (.bool true) = (#[(1, .bool true)], tab1 led, false, false) := by cases led <;> decide

section
variable {prog : Program} {w : World} {A : Around} {E : Value → Shared → Prop} {s : Shared}
theorem slot_bool_hash' : Slot "bool" "__hash__" "int.__hash__" := F.slot_bool_hash
theorem ite_t {α : Type} {c : Prop} [Decidable c] {M : Model} {m n : Sem α} {Q : α → Shared → Prop} (hc : c) (h : wpAny M A m Q E s) : wpAny M A (if c then m else n) Q E s := by rw [if_pos hc]; exact h
theorem ite_f {α : Type} {c : Prop} [Decidable c] {M : Model} {m n : Sem α} {Q : α → Shared → Prop} (hc : ¬ c) (h : wpAny M A n Q E s) : wpAny M A (if c then m else n) Q E s := by rw [if_neg hc]; exact h
theorem pyHash_true {Q : Int → Shared → Prop} (h : Q 1 { s with toks := s.toks + 1 }) : wpAny (model prog w) A (pyHash (.bool true)) Q E s := by
  unfold pyHash
  have hv : [Value.bool true].any Value.onHeap = false := rfl
  have hT : s.TypeIs (.bool true) "bool" := rfl
  refine wpAny_bind ?_
  rw [cRoomFor, if_neg (by rw [hv]; exact Bool.false_ne_true)]; refine wpAny_pure ?_
  refine wpAny_bind (wpAny_specialOf hT F.slot_bool_hash.lookup ?_)
  show wpAny _ _ (if (some (Value.builtin "int.__hash__") == some Value.none) = true then _ else _) Q E s
  rw [if_neg (by rw [beq_builtin_none]; exact Bool.false_ne_true)]
  refine wpAny_bind (wpAny_specialOf hT F.slot_bool_hash.lookup ?_)
  show wpAny _ _ (callSpecialIfBoundUnlessNone? (.bool true) "__hash__" _ >>= _) Q E s
  refine wpAny_bind (wpAny_callSpecialIfBoundUnlessNone?_slot hT F.slot_bool_hash
    (wpAny_call_entry F.slot_bool_hash hT entry_int_hash
      (show wpAny _ _ (do ret (← mkInt (rawHash 1))) _ _ s from wpAny_ret_mkInt ?_) (args_int_hash _)))
  exact wpAny_pure h

theorem eqBool_true {Q : Bool → Shared → Prop} (h : Q true s) : wpAny (model prog w) A (eqBool (.bool true) (.bool true)) Q E s := by
  unfold eqBool
  refine wpAny_holding ?_
  rw [if_pos (by decide)]
  exact wpAny_bind (wpAny_rule (wpAny_pure h))

theorem set_add_true {D : Addr} {led b : Bool} {Q : Value → Shared → Prop} (hD : s.heap.get? D = some (setObj led b))
    (h : ∀ h', Heap.SameBut D s.heap h' → h'.get? D = some (setObj led true) → Q .none { s with heap := h', toks := s.toks + 1 }) :
    wpAny (model prog w) A (call (.builtin "set.add") [.ref D, .bool true]) Q E s := by
  have hT : s.TypeIs (.ref D) "set" := ⟨_, hD, by cases b <;> rfl⟩
  refine wpAny_call_entry F.slot_set_add hT F.entry_set_add ?_ (F.args_set_add_2 _ _)
  unfold Builtin.«set.add» Builtin.Frozenset.oneOther
  simp only [List.isEmpty_nil, bind_assoc]
  unfold Builtin.Frozenset.addrOf setAdd
  refine wpAny_bind (wpAny_pure ?_)
  try dsimp only
  refine wpAny_bind (wpAny_pure ?_)
  try dsimp only
  refine wpAny_bind ?_
  refine wpAny_holding ?_
  refine wpAny_bind (pyHash_true ?_)
  unfold setAddHashed setAddHashedIn
  have fin : ∀ {bb : Bool} {h' : Heap}, Heap.SameBut D s.heap h' → h'.get? D = some (setObj led true) → wpAny (model prog w) A.in1 (do let _ ← (pure bb : Sem Bool); ret Value.none) (fun f s' => ∃ r, f = .done (.ret r) ∧ Q r s') E { s with heap := h', toks := s.toks + 1 } :=
    fun hs e => wpAny_bind (wpAny_pure (wpAny_pure ⟨_, rfl, h _ hs e⟩))
  cases b with
  | false =>
    refine wpAny_holding (wpAny_bind (wpAny_setState_of hD rfl (by cases led <;> decide) ?_))
    dsimp only
    rw [if_pos (by decide +kernel)]
    unfold setAddByScan
    refine wpAny_bind (wpAny_bind (wpAny_rule ?_))
    refine wpAny_bind (m := setScan _ _ _ _ _) (wpAny_pure ?_)
    dsimp only
    rw [lay1 led]
    dsimp only
    refine wpAny_bind (wpAny_pure ?_)
    rw [tab1_plain]
    simp only [if_true]
    refine wpAny_bind (m := hashByValue 8 (.bool true)) (wpAny_pure ?_)
    simp only [if_true]
    refine wpAny_bind (wpAny_storeSet_of hD rfl ?_ (by decide +kernel))
    rw [tab1_full]
    refine wpAny_pure (wpAny_pure ?_)
    refine fin (bb := true) (Heap.SameBut.update ..) ?_
    have := Heap.get?_update_self (Obj.putSet #[(1, .bool true)] (tab1 led)) hD (by rw [putSet_of (o := setObj led false) (es := #[]) (ep := 0) (t := .fresh 0 0 led) _ _ rfl]; rfl)
    rw [putSet_of (o := setObj led false) (es := #[]) (ep := 0) (t := .fresh 0 0 led) _ _ rfl] at this
    exact this
  | true =>
    refine wpAny_holding (wpAny_bind (wpAny_setState_of hD rfl (tab1_fits led) ?_))
    dsimp only
    rw [if_pos (by decide +kernel)]
    unfold setAddByScan
    refine wpAny_bind (wpAny_bind (wpAny_rule ?_))
    refine wpAny_bind (m := setScan _ _ _ _ _) ?_
    show wpAny _ _ (setScanFrom D (.bool true) 1 true [(1, .bool true)] 0) _ _ _
    unfold setScanFrom
    rw [if_pos (by decide)]
    refine wpAny_bind (wpAny_setEpoch_of hD rfl (tab1_fits led) ?_)
    refine wpAny_bind (eqBool_true ?_)
    simp only [Bool.and_self, if_true]
    refine wpAny_pure ?_
    refine wpAny_pure (wpAny_pure ?_)
    exact fin (bb := false) (Heap.SameBut.refl ..) hD

theorem slot_setiter_next : Slot "set_iterator" "__next__" "set_iterator.__next__" :=
  .of (owner := "set_iterator") (n := "__next__") (by rw [typeLookup_type, builtinLookup_eq_fast]; kernel_rfl) (by decide +kernel) (by decide +kernel) (by decide +kernel)
    (by first | exact .inl (by decide +kernel) | exact .inr (by decide +kernel)) (by rw [isSubtype_type]; kernel_rfl)
theorem entry_setiter_next : entryFor table "set_iterator.__next__" = some Builtin.«set_iterator.__next__» := entryFor_of_tree (by kernel_rfl)
theorem entry_set_iter : entryFor table "set.__iter__" = some Builtin.«frozenset.__iter__» :=
  entryFor_alias (id' := "frozenset.__iter__") (by kernel_rfl) rfl (by decide +kernel) (by kernel_rfl)
theorem args_setiter_next (a : Value) : argsOk "set_iterator.__next__" ⟨[a], []⟩ := by
  unfold argsOk; kernel_rfl

noncomputable def setIter (D : Addr) (slot i : Int) : Obj := { cls := .type "set_iterator", data := .fields #[rawInt slot, rawInt i, .ref D, rawInt 1, rawInt 1] }

theorem pyIter_set {D : Addr} {led : Bool} {Q : Value → Shared → Prop} (hD : s.heap.get? D = some (setObj led true))
    (h : Q (.ref s.heap.objs.size) { s with heap := s.heap.push (setIter D 0 0) }) : wpAny (model prog w) A (pyIter (.ref D)) Q E s := by
  have hT : s.TypeIs (.ref D) "set" := ⟨_, hD, rfl⟩
  refine wpAny_pyIter_slot hT F.slot_set_iter (wpAny_call_entry F.slot_set_iter hT entry_set_iter ?_ (F.args_set_iter_1 _))
  unfold Builtin.«frozenset.__iter__» Builtin.Frozenset.slot0 slotArgs
  simp only [List.isEmpty_nil, Bool.not_true, Bool.false_eq_true, ↓reduceIte, bind_assoc, List.length_nil, bne_self_eq_false]
  unfold Builtin.Frozenset.addrOf Builtin.Frozenset.sizeOf
  refine wpAny_bind (wpAny_pure ?_)
  try dsimp only
  refine wpAny_bind (wpAny_pure ?_)
  refine wpAny_bind (wpAny_bind (wpAny_setEntries_of hD rfl (tab1_fits led) (wpAny_pure ?_)))
  unfold setDrawn setsByText
  refine wpAny_bind (wpAny_bind (wpAny_setState_of hD rfl (tab1_fits led) (wpAny_bind (wpAny_bind (wpAny_askSetting (wpAny_pure (wpAny_pure ?_)))))))
  refine ite_f (fun e => by rw [Bool.and_eq_true] at e; cases led <;> exact absurd e.2 (by decide)) ?_
  refine wpAny_bind (wpAny_pure ?_)
  refine wpAny_bind (wpAny_setEpoch_of hD rfl (tab1_fits led) ?_)
  exact wpAny_bind (wpAny_newObj_type (wpAny_pure ⟨_, rfl, "set_iterator", _, ⟨_, Heap.get?_push_size _ rfl, rfl⟩, slot_setiter_next.lookup, h⟩))

theorem pick1 (next : Nat → Nat) (x : Int × Value) : pickOrder next #[x] = #[x] := by
  unfold pickOrder
  simp [pickOrder.go, Nat.mod_one]

theorem setNext1 {D : Addr} {Q : Option (Value × Nat) → Shared → Prop} (hD : s.heap.get? D = some (setObj (!w.params.followText "set-order") true))
    (h : ∀ k, (w.params.followText "set-order" = false → 1 < k) → Q (some (.bool true, k)) s) : wpAny (model prog w) A (setNext D 0 0 1) Q E s := by
  unfold setNext setsByText
  generalize hb : w.params.followText "set-order" = b at hD
  refine wpAny_bind (wpAny_setState_of hD rfl (tab1_fits _) (wpAny_bind (wpAny_bind (wpAny_askSetting (wpAny_pure ?_)))))
  dsimp only
  cases b with
  | true =>
    refine ite_t hb (ite_f (by decide) ?_)
    unfold setWalk setsByText
    refine wpAny_bind (wpAny_bind (wpAny_setState_of hD rfl (tab1_fits _) (wpAny_bind (wpAny_bind (wpAny_askSetting (wpAny_pure (ite_t hb ?_)))))))
    refine wpAny_bind (wpAny_askSetting (wpAny_pure ?_))
    rw [pick1]
    exact wpAny_pure (h _ fun e => by rw [hb] at e; cases e)
  | false =>
    refine ite_f (by show ¬ (w.params.followText "set-order" = true); rw [hb]; exact Bool.false_ne_true) (ite_f (by decide) ?_)
    refine wpAny_bind (wpAny_pure (a := ()) ?_)
    exact wpAny_pure (h _ fun _ => by decide)

theorem below_two : ∀ k, 1 < k → SetTable.below (tab1 true).place k = 1 := by
  intro k hk
  show SetTable.below #[1] k = 1
  unfold SetTable.below
  simp [SetTable.below.go, hk]

theorem setNext2 {D : Addr} {k : Nat} {Q : Option (Value × Nat) → Shared → Prop} (hk : w.params.followText "set-order" = false → 1 < k) (hD : s.heap.get? D = some (setObj (!w.params.followText "set-order") true))
    (h : Q none s) : wpAny (model prog w) A (setNext D k 1 1) Q E s := by
  unfold setNext setsByText
  generalize hb : w.params.followText "set-order" = b at hD
  refine wpAny_bind (wpAny_setState_of hD rfl (tab1_fits _) (wpAny_bind (wpAny_bind (wpAny_askSetting (wpAny_pure ?_)))))
  dsimp only
  cases b with
  | true =>
    refine ite_t hb (ite_f (by decide) ?_)
    unfold setWalk setsByText
    refine wpAny_bind (wpAny_bind (wpAny_setState_of hD rfl (tab1_fits _) (wpAny_bind (wpAny_bind (wpAny_askSetting (wpAny_pure (ite_t hb ?_)))))))
    refine wpAny_bind (wpAny_askSetting (wpAny_pure ?_))
    rw [pick1]
    exact wpAny_pure h
  | false =>
    refine ite_f (by show ¬ (w.params.followText "set-order" = true); rw [hb]; exact Bool.false_ne_true) (ite_f (by decide) ?_)
    refine wpAny_bind (wpAny_pure (a := ()) ?_)
    rw [show SetTable.below (tab1 (!false)).place k = 1 from below_two k (hk hb)]
    exact wpAny_pure h

theorem pyNext_set1 {D it : Addr} {Q : Option Value → Shared → Prop} (hne : D ≠ it) (hD : s.heap.get? D = some (setObj (!w.params.followText "set-order") true)) (hit : s.heap.get? it = some (setIter D 0 0))
    (h : ∀ h' (k : Nat), (w.params.followText "set-order" = false → 1 < k) → h'.get? it = some (setIter D k 1) → Heap.SameBut it s.heap h' → Q (some (.bool true)) { s with heap := h' }) : wpAny (model prog w) A (pyNext (.ref it)) Q E s := by
  have hT : s.TypeIs (.ref it) "set_iterator" := ⟨_, hit, rfl⟩
  unfold pyNext
  refine wpAny_bind (wpAny_attempt (wpAny_callSpecial?_slot (name := Str.ofString "__next__") hT slot_setiter_next
    (wpAny_call_entry slot_setiter_next hT entry_setiter_next ?_ (args_setiter_next _))))
  refine wpAny_bind (m := slotArgs "__next__" 0 _) (wpAny_pure ?_)
  refine wpAny_bind (wpAny_fieldsOf hit rfl ?_)
  show wpAny _ _ (setEntries D >>= _) _ _ _
  refine wpAny_bind (wpAny_setEntries_of hD rfl (tab1_fits _) ?_)
  refine ite_f (by decide) ?_
  show wpAny _ _ (setNext D 0 0 1 >>= _) _ _ _
  refine wpAny_bind (setNext1 hD fun k hk => ?_)
  dsimp only
  refine wpAny_bind (wpAny_setField_rec hit (by show 0 < 5; omega) fun h₁ e₁ s₁ => ?_)
  refine wpAny_bind (wpAny_setField_rec e₁ (by show 1 < 5; omega) fun h₂ e₂ s₂ => ?_)
  exact wpAny_pure ⟨_, rfl, wpAny_pure (h h₂ k hk e₂ (s₁.trans s₂))⟩

theorem pyNext_set2 {D it : Addr} {k : Nat} {Q : Option Value → Shared → Prop} (hh : A.handled = none) (hk : w.params.followText "set-order" = false → 1 < k) (hD : s.heap.get? D = some (setObj (!w.params.followText "set-order") true)) (hit : s.heap.get? it = some (setIter D k 1))
    (h : ∀ h', Heap.ExtBut it s.heap h' → Q none { s with heap := h' }) : wpAny (model prog w) A (pyNext (.ref it)) Q E s := by
  have hT : s.TypeIs (.ref it) "set_iterator" := ⟨_, hit, rfl⟩
  unfold pyNext
  refine wpAny_bind (wpAny_attempt (wpAny_callSpecial?_slot (name := Str.ofString "__next__") hT slot_setiter_next
    (wpAny_call_entry slot_setiter_next hT entry_setiter_next ?_ (args_setiter_next _))))
  refine wpAny_bind (m := slotArgs "__next__" 0 _) (wpAny_pure ?_)
  refine wpAny_bind (wpAny_fieldsOf hit rfl ?_)
  show wpAny _ _ (setEntries D >>= _) _ _ _
  refine wpAny_bind (wpAny_setEntries_of hD rfl (tab1_fits _) ?_)
  refine ite_f (by decide) ?_
  show wpAny _ _ (setNext D k 1 1 >>= _) _ _ _
  refine wpAny_bind (setNext2 hk hD ?_)
  dsimp only
  refine wpAny_bind (wpAny_setField_rec hit (by show 2 < 5; omega) fun h₁ e₁ s₁ => ?_)
  show wpAny _ _ (newExc (.type "StopIteration") [] >>= _) _ _ _
  refine wpAny_bind ?_
  simp only [newExc, newTuple]
  refine wpAny_bind (wpAny_newObj_type ?_ (by size_fits))
  refine wpAny_bind (m := firstArgMember _ _) (wpAny_of_eq (a := Value.none) (by first | rfl | (simp only [firstArgMember]; rfl)) ?_)
  refine wpAny_newObj_type ?_ (by size_fits)
  simp only [raiseNew]
  refine wpAny_bind (wpAny_handled ?_)
  first | rw [show A.in1.handled = none from hh] | rw [hh]
  refine wpAny_bind (wpAny_pure (wpAny_throw ?_))
  refine wpAny_bind (wpAny_isInstance (T := "StopIteration") (b := true) ⟨_, Heap.get?_push_size _ rfl, rfl⟩ isSubtype_stop ?_)
  exact wpAny_pure (h _ ((s₁.extBut.push _).push _))

theorem unpack_set {D : Addr} {f : Value → Sem Unit} {Q : Unit → Shared → Prop} (hh : A.handled = none) (hD : s.heap.get? D = some (setObj (!w.params.followText "set-order") true))
    (h : ∀ h', Heap.ExtBut s.heap.objs.size s.heap h' → wpAny (model prog w) A (assignInOrder [f] [.bool true]) Q E { s with heap := h' }) :
    wpAny (model prog w) A (unpack (.ref D) [(false, f)]) Q E s := by
  have hT : s.TypeIs (.ref D) "set" := ⟨_, hD, rfl⟩
  unfold unpack
  have h1 : List.findIdx? (fun x : Bool × (Value → Sem Unit) => x.1) [(false, f)] = none := by simp
  rw [h1]
  refine wpAny_bind (wpAny_holding ?_)
  have hlt : D ≠ s.heap.objs.size := Nat.ne_of_lt (Heap.lt_size hD)
  unfold unpackItems
  refine wpAny_bind ?_
  · unfold notIterableAtAll
    refine wpAny_bind (wpAny_specialOf hT F.slot_set_iter.lookup ?_)
    refine wpAny_pure ?_
    simp only [Bool.false_eq_true, if_false]
    refine wpAny_bind (wpAny_holding (pyIter_set hD ?_))
    have hD0 : (s.heap.push (setIter D 0 0)).get? D = some (setObj (!w.params.followText "set-order") true) := Heap.get?_push_of_some _ hD
    refine wpAny_bind (wpAny_holding ?_)
    show wpAny _ _ (pyNext (.ref s.heap.objs.size) >>= _) _ _ _
    refine wpAny_bind (pyNext_set1 (s := { s with heap := s.heap.push (setIter D 0 0) }) hlt hD0 (Heap.get?_push_size _ rfl) fun h₁ k hk e₁ s₁ => ?_)
    refine wpAny_bind (wpAny_holding ?_)
    show wpAny _ _ (pure []) _ _ _
    refine wpAny_pure (wpAny_pure ?_)
    rw [if_neg (by simp)]
    have hD₁ : h₁.get? D = some (setObj (!w.params.followText "set-order") true) := s₁.extBut _ _ hlt hD0
    refine wpAny_bind (wpAny_holding (pyNext_set2 hh hk hD₁ e₁ fun h₂ he₂ => ?_))
    simp only [Option.isSome_none, Bool.false_eq_true, if_false]
    refine wpAny_pure (h h₂ fun b o hb e => he₂ b o hb (s₁.extBut b o hb (Heap.get?_push_of_some _ e)))
end
end

section
theorem compTurn_set (elt target iter : Expr) (scope : Scope) (pos : Pos) (it acc : Value) (env : Env) :
    compTurn (.SetComp elt [⟨target, iter, [], 0⟩] scope pos) 0 it acc env = (do
      standAt iter.pos
      match ← pyNext it with
      | none => pure (.done .next)
      | some v =>
        letOwnedTupleGo target it v
        assign target env v
        (do
          let x ← eval elt env
          standAt elt.pos
          let _ ← call (.builtin "set.add") [acc, x])
        again (.compLoop (.SetComp elt [⟨target, iter, [], 0⟩] scope pos) 0 it acc env)) := by rfl

section
variable {prog : Program} {w : World} {A : Around} {E : Value → Shared → Prop} {R : Result → Shared → Prop} {s : Shared}
theorem codeAny_compStart_set {elt target iter : Expr} {ifs : List Expr} {rest : List Comprehension} {scope : Scope} {pos : Pos} {it acc : Value} {env : Env}
    (h0 : codeAny (model prog w) A (.compLoop (.SetComp elt (⟨target, iter, ifs, 0⟩ :: rest) scope pos) 0 it acc env) R s)
    (h : wpAny (model prog w) A (pyIter it) (fun it' s' => codeAny (model prog w) A (.compLoop (.SetComp elt (⟨target, iter, ifs, 0⟩ :: rest) scope pos) 0 it' acc env) R s')
      (notedBy (model prog w) A env fun x s' => R (.error x) s') s) :
    codeAny (model prog w) A (.compStart (.SetComp elt (⟨target, iter, ifs, 0⟩ :: rest) scope pos) 0 it acc env) R s := by
  refine codeAny_of_tree ?_
  show wpAny _ _ ((compStart (.SetComp elt (⟨target, iter, ifs, 0⟩ :: rest) scope pos) 0 it acc env).onRaise (fun x => do noteFrame x env; standAt theWindowsPlace)) _ _ s
  refine wpAny_notedAt ?_
  unfold compStart
  show wpAny _ _ (ask >>= _) _ _ s
  refine wpAny_bind (wpAny_askSetting (wpAny_ite ?_))
  split
  · first
      | exact wpAny_bind (wpAny_pure (wpAny_pure (And.intro rfl h0)))
      | exact wpAny_pure (And.intro rfl h0)
  · first
      | exact wpAny_bind (wpAny_rule (wpAny_bind (wpAny_standAt (wpAny_bind (wpAny_mono h (fun it' s' h' => wpAny_pure (And.intro rfl h')) fun _ _ x => x)))))
      | (refine wpAny_bind (wpAny_rule ?_); show wpAny _ _ (standAt iter.pos >>= _) _ _ s; exact wpAny_bind (wpAny_standAt (wpAny_bind (wpAny_mono h (fun it' s' h' => wpAny_pure (And.intro rfl h')) fun _ _ x => x))))

theorem codeAny_compLoop_set {elt target iter : Expr} {scope : Scope} {pos : Pos} {it acc : Value} {env : Env} (I : Nat → Shared → Prop)
    (turn : ∀ n s, I n s → wpAny (model prog w) A (pyNext it) (fun r s₁ => match r with
      | none => R (.ok .next) s₁
      | some v => wpAny (model prog w) A (assign target env v) (fun _ s₂ =>
          wpAny (model prog w) A (eval elt env) (fun x s₄ =>
              wpAny (model prog w) A (call (.builtin "set.add") [acc, x]) (fun _ s₅ => ∃ m, m < n ∧ I m s₅) (notedBy (model prog w) A env fun e s' => R (.error e) s') s₄) (notedBy (model prog w) A env fun e s' => R (.error e) s') s₂) (notedBy (model prog w) A env fun e s' => R (.error e) s') s₁) (notedBy (model prog w) A env fun e s' => R (.error e) s') s)
    (n : Nat) (h : I n s) (ht : ∀ v, letOwnedTupleGo target it v = pure () := by intro _; rfl) :
    codeAny (model prog w) A (.compLoop (.SetComp elt [⟨target, iter, [], 0⟩] scope pos) 0 it acc env) R s := by
  refine codeAny_loop rfl I (fun n s hI => ?_) n h
  show wpAny _ A ((compTurn (.SetComp elt [⟨target, iter, [], 0⟩] scope pos) 0 it acc env).onRaise (fun x => do noteFrame x env; theTreesLotGoes x)) _ _ s
  refine wpAny_noted ?_
  rw [compTurn_set]
  refine wpAny_bind (wpAny_standAt (wpAny_bind (wpAny_mono (turn n s hI) (fun r s₁ h₁ => ?_) fun _ _ h' => h')))
  cases r with
  | none => exact wpAny_pure h₁
  | some v =>
    refine wpAny_bind (wpAny_of_eq (ht v) ?_)
    refine wpAny_bind (wpAny_mono h₁ (fun _ s₂ h₂ => ?_) fun _ _ h' => h')
    exact wpAny_bind (wpAny_bind (wpAny_mono h₂ (fun x s₄ h₄ => wpAny_bind (wpAny_standAt (wpAny_bind (wpAny_mono h₄ (fun _ s₅ h₅ => wpAny_pure (wpAny_pure ⟨rfl, h₅⟩)) fun _ _ h' => h')))) fun _ _ h' => h'))
end

theorem wpAny_newSet_own {prog : Program} {w : World} {A : Around} {E : Value → Shared → Prop} {s : Shared} {Q : Value → Shared → Prop}
    (h : Q (.ref s.heap.objs.size) { s with heap := s.heap.push (setObj (!w.params.followText "set-order") false) }) : wpAny (model prog w) A (newSet (.type "set")) Q E s := by
  unfold newSet setsByText
  refine wpAny_bind (wpAny_bind (wpAny_askSetting (wpAny_pure ?_)))
  dsimp only
  simp only [newObj]
  exact wpAny_bind (wpAny_alloc (wpAny_pure h))

section
variable {C : Ctx} {l : Nat} {sc : Scope} {ρ : Rho}
theorem setcomp_run {elt iter : Expr} {x : Str} {px : Pos} {scope : Scope} {pos : Pos} {ds : List V} {ρf : Rho} {A : Around} {s : Shared} {env : Env} {O : List Addr} {cl : List (Str × Addr)} {E : Value → Shared → Prop} {RR : Value → Addr → Result → Shared → Prop}
    (R : Room l A) (hs : env.scope = sc) (er : ER C env ρ O s) (hi : EvI C l sc ρ iter ds) (cs : CompScope scope sc x) (hc : Caught scope sc ρ ρf)
    (hcl1 : ∀ n c, cl.lookup n = some c → env.cells.lookup n = some c) (hcl2 : ∀ y ∈ scope.names, y.2 = .free → cl.lookup y.1 = env.cells.lookup y.1)
    (he : ∀ d ∈ ds, Ev C.calm l (relabS scope sc) ((x, (d, false)) :: ρf) elt (.bool true, false))
    (hRR : ∀ D C₀ m' s', KS C.T s s' → s.heap.get? D = none → s.heap.get? C₀ = none → D ≠ C₀ → s'.heap.Ns C₀ m' → s'.heap.get? D = some (setObj (!C.w.params.followText "set-order") (decide (0 < ds.length))) → RR (.ref D) C₀ (.ok .next) s') :
    wpAny (model C.prog C.w) A (eval iter env) (fun xv s₁ => wpAny (model C.prog C.w) A (pyIter xv) (fun it s₂ => wpAny (model C.prog C.w) A (newSet (.type "set")) (fun acc s₃ =>
      wpAny (model C.prog C.w) A (newFunctionEnv scope env.globals cl [] env.qual none .none (some env)) (fun cenv s₄ =>
        codeAny (model C.prog C.w) A (.compStart (.SetComp elt [⟨.Name x px, iter, [], 0⟩] scope pos) 0 it acc { cenv with scope := relabel scope env }) (RR acc cenv.locals) s₄) E s₃) E s₂) E s₁) E s := by
  refine hi R hs er fun I fp wr n P St xs vs s₂ k it st₀ ft hv => ?_
  refine wpAny_newSet_own (wpAny_newFunctionEnv cs.nocell (by intro y hy; simp at hy) (fun h₁ hns₁ hsb₁ => ?_) cs.kind)
  dsimp only at hns₁ hsb₁ ⊢
  generalize hH2 : s₂.heap.push (setObj (!C.w.params.followText "set-order") false) = H2 at hns₁ hsb₁ ⊢
  generalize hDe : s₂.heap.objs.size = D
  have hC : H2.objs.size = D + 1 := by rw [← hH2, Heap.size_push, hDe]
  generalize hCe : H2.objs.size = C₀ at *
  have hDC : D ≠ C₀ := by rw [hC]; exact Nat.ne_of_lt (Nat.lt_succ_self _)
  have newD : s₂.heap.get? D = none := by rw [← hDe]; exact get?_new _
  have newC : s₂.heap.get? C₀ = none := by
    cases e : s₂.heap.get? C₀ with
    | none => rfl
    | some o => have := Heap.lt_size e; rw [hDe, hC] at this; exact absurd this (Nat.not_lt.mpr (Nat.le_succ D))
  have g₂ := (er.ks k).base.grown
  have gr₂ := k.grows er.base.grown
  have old : ∀ b o, s₂.heap.get? b = some o → h₁.get? b = some o := fun b o e => hsb₁.extBut b o (fun q => by rw [q, newC] at e; cases e) (Heap.get?_push_of_some _ (hH2 ▸ Heap.get?_push_of_some _ e))
  have acc₁ : h₁.get? D = some (setObj (!C.w.params.followText "set-order") false) := hsb₁.extBut _ _ hDC (by rw [← hH2, ← hDe]; exact Heap.get?_push_of_some _ (Heap.get?_push_size (o := setObj (!C.w.params.followText "set-order") false) _ rfl))
  have wrD : D ∉ wr := fun q => by
    obtain ⟨o, vs', e, _⟩ := it.itr 0 _ st₀ D q
    rw [newD] at e; cases e
  have fpD : D ∉ fp := fun q => by obtain ⟨o, e⟩ := (ft.here D q).1; rw [newD] at e; cases e
  have fpC : C₀ ∉ fp := fun q => by obtain ⟨o, e⟩ := (ft.here C₀ q).1; rw [newC] at e; cases e
  have wrC : C₀ ∉ wr := fun q => fpC (it.W.sub _ q)
  have wrT : ∀ b ∈ wr, b ∉ C.T := fun b hb q => by
    obtain ⟨ps, e⟩ := (er.base.grown b q).get
    rw [ft.new b hb] at e; cases e
  have inO : ∀ b ∈ O, b ≠ D := fun b hb q => by
    obtain ⟨its, o, n, e, _⟩ := (er.ks k).lists b hb
    rw [q, newD] at e; cases e
  -- one state of the loop
  let Good : Shared → Prop := fun s' => (∃ h tk, s' = { s₂ with heap := h, toks := tk }) ∧ (∀ b o, b ≠ C₀ → b ∉ wr → b ≠ D → s₂.heap.get? b = some o → s'.heap.get? b = some o)
  have listUp : ∀ {s' : Shared}, Good s' → ∀ b its, PlL s₂.heap b its → PlL s'.heap b its := fun {s'} gd b its y => plL_at y fun o e => gd.2 b o (fun q => by rw [q, newC] at e; cases e) (fun q => (it.itr 0 _ st₀ b q).not_list y) (fun q => by rw [q, newD] at e; cases e) e
  have tupUp : ∀ {s' : Shared}, Good s' → ∀ b its, IsTup s₂.heap b its → IsTup s'.heap b its := fun {s'} gd b its y => isTup_at y fun o e => gd.2 b o (fun q => by rw [q, newC] at e; cases e) (fun q => (it.itr 0 _ st₀ b q).not_tup y) (fun q => by rw [q, newD] at e; cases e) e
  have vrUp : ∀ {s' : Shared}, Good s' → ∀ {d : V} {v : Value}, VR s₂.heap O d v → VR s'.heap O d v := fun {s'} gd {d v} y => VR.tr (fun b its hb z => ⟨hb, listUp gd b its z⟩) (fun b its z => tupUp gd b its z) y
  have vrsUp : ∀ {s' : Shared}, Good s' → ∀ {d : List V} {v : List Value}, VRs s₂.heap O d v → VRs s'.heap O d v := fun {s'} gd {d v} y => VRs.tr (fun b its hb z => ⟨hb, listUp gd b its z⟩) (fun b its z => tupUp gd b its z) y
  have vvrUp : ∀ {s' : Shared}, Good s' → ∀ (d : VV) (v : Value), VVR s₂.heap O d v → VVR s'.heap O d v := fun {s'} gd d v y => by
    obtain ⟨d, b⟩ := d
    cases b with
    | false => exact vrUp gd y
    | true =>
      obtain ⟨zs, a, its, e1, e2, e3, e4, e5⟩ := y
      exact ⟨zs, a, its, e1, e2, e3, listUp gd a its e4, vrsUp gd e5⟩
  have er₂ := er.ks k
  have cellUp : ∀ {s' : Shared}, Good s' → ∀ c w, s₂.heap.IsCell c w → s'.heap.IsCell c w := fun {s'} gd c w y => isCell_at y fun o e => gd.2 c o (fun q => by rw [q, newC] at e; cases e) (fun q => (it.itr 0 _ st₀ c q).not_cell y) (fun q => by rw [q, newD] at e; cases e) e
  have gUp : ∀ {s' : Shared}, Good s' → ∀ b o, C.G.get? b = some o → s'.heap.get? b = some o := fun {s'} gd b o e => by
    have e' := er₂.base.keep b o e
    refine gd.2 b o (fun q => by rw [q, newC] at e'; cases e') (fun q => ?_) (fun q => by rw [q, newD] at e'; cases e') e'
    have := er.base.keep b o e
    rw [ft.new b q] at this; cases this
  have erC : ∀ {s' : Shared} {m : Str → Option Value} {d : V} {v : Value}, Good s' → s'.heap.Ns C₀ m → m x = some v → VR s'.heap O d v → ER C.calm (compEnvC scope cl C₀ env) ((x, (d, false)) :: ρf) O s' :=
    fun {s' m d v} gd hn hm hv => ER.comp er₂ hs cs hc hcl1 hcl2 (gUp gd) (fun b hb => by
      obtain ⟨its', y⟩ := er₂.lists b hb
      exact ⟨its', listUp gd b its' y⟩) hn hm hv (cellUp gd) (vvrUp gd)
  have hx : (compEnvC scope cl C₀ env).kindOf x = some .local := lookup_relabel_local cs.has
  have scE : (compEnvC scope cl C₀ env).scope = relabS scope sc := by show relabel scope env = _; rw [relabel_eq, hs]
  let led := !C.w.params.followText "set-order"
  have loop : codeAny (model C.prog C.w) A (.compLoop (.SetComp elt [⟨.Name x px, iter, [], 0⟩] scope pos) 0 (.ref I) (.ref D) (compEnvC scope cl C₀ env)) (RR (.ref D) C₀) { s₂ with heap := h₁, toks := s₂.toks + ([] : List (Str × Value)).length } := by
    refine codeAny_compLoop_set (fun k s' => ∃ i m, Good s' ∧ St i s'.heap ∧ s'.heap.Ns C₀ m ∧ s'.heap.get? D = some (setObj led (decide (0 < i))) ∧ i ≤ ds.length ∧ k = ds.length - i) ?_ ds.length
      ⟨0, _, ⟨⟨_, _, rfl⟩, fun b o _ _ _ e => old b o e⟩, it.W.frame _ _ _ st₀ fun b _ o e => old b o e, hns₁, acc₁, Nat.zero_le _, rfl⟩
    rintro kn s' ⟨i, m, gd, st, hn, hD, hile, rfl⟩
    have hxs := vrsUp gd hv
    cases hd : ds[i]? with
    | none =>
      have hil : ds.length ≤ i := by simpa using hd
      have hie : i = n := by have := it.len; omega
      have hie' : i = ds.length := by omega
      refine it.W.done s' _ _ (hie ▸ st) fun h' tk hk => ?_
      have keep : ∀ b o, b ≠ C₀ → b ∉ wr → b ≠ D → s₂.heap.get? b = some o → h'.get? b = some o := fun b o h1 h2 h3 e => hk b o h2 (gd.2 b o h1 h2 h3 e)
      refine hRR D C₀ m _ ⟨?_, fun b o hb e => ?_, fun t ht gt => ?_⟩ (gr₂ _ newD) (gr₂ _ newC) hDC (hn.at' fun o e => hk _ o wrC e) (hk _ _ wrD (hie' ▸ hD))
      · obtain ⟨⟨h, t, rfl⟩, _⟩ := gd
        obtain ⟨h', t', rfl⟩ := k.same
        exact ⟨_, _, rfl⟩
      · have e' := k.keep b o hb e
        exact keep b o (fun q => by rw [q, newC] at e'; cases e') (fun q => by rw [ft.new b q] at e; cases e) (fun q => by rw [q, newD] at e'; cases e') e'
      · refine (k.grown t ht gt).at fun b o vs e hd hc => keep b o (fun q => by rw [q, newC] at e; cases e) (fun q => ?_) (fun q => by rw [q, newD] at e; cases e) e
        obtain ⟨o', vs', e', d', n1, n2⟩ := it.itr 0 _ st₀ b q
        rw [e] at e'; cases e'; rw [hd] at d'; cases d'
        exact hc.elim n1 fun ⟨_, _, z⟩ => n2 _ _ z
    | some d =>
      have hil : i < ds.length := (List.getElem?_eq_some_iff.mp hd).1
      have hdm : d ∈ ds := List.mem_of_getElem? hd
      have hin : i < n := by rw [it.len]; exact hil
      refine it.W.item i s' _ _ hin st fun v h' tk hP st' hk => ?_
      obtain ⟨d', hd', hvd⟩ := it.get i v s'.heap O hxs hP hin
      rw [hd] at hd'; cases hd'
      have gd₁ : Good { s' with heap := h', toks := tk } := ⟨by obtain ⟨⟨h, t, rfl⟩, _⟩ := gd; exact ⟨_, _, rfl⟩, fun b o h1 h2 h3 e => hk b o h2 (gd.2 b o h1 h2 h3 e)⟩
      refine wpAny_assign_Name (wpAny_storeName_local hx (hn.at' fun o e => hk _ o wrC e) (fun h₃ hn₃ hs₃ => ?_) (by simp [compEnvC, relabel, cs.kind]))
      have gd₂ : Good { s' with heap := h₃, toks := tk + 1 } := ⟨by obtain ⟨⟨h, t, rfl⟩, _⟩ := gd; exact ⟨_, _, rfl⟩, fun b o h1 h2 h3 e => hs₃.extBut b o h1 (gd₁.2 b o h1 h2 h3 e)⟩
      have plC : ∀ b its, PlL h' b its → PlL h₃ b its := fun b its y => stored_plain (hn.at' fun o e => hk _ o wrC e) hs₃ y
      have hnC : h'.Ns C₀ m := hn.at' fun o e => hk _ o wrC e
      have tpC : ∀ b its, IsTup h' b its → IsTup h₃ b its := fun b its y => isTup_at y fun o e => hs₃.extBut b o (fun (q : b = C₀) => tup_not_ns y (q.symm ▸ hnC)) e
      have st₃ : St (i + 1) h₃ := it.W.frame _ _ _ st' fun b hb o e => hs₃.extBut b o (fun (q : b = C₀) => fpC (q ▸ hb)) e
      have vd₃ : VR h₃ O d v := VR.tr (fun b its hb z => ⟨hb, plC b its z⟩) tpC (hvd.walked (it.itr i _ st) hk)
      have hD₃ : h₃.get? D = some (setObj led (decide (0 < i))) := hs₃.extBut D _ hDC (hk _ _ wrD hD)
      have er₃ := erC (s' := { s' with heap := h₃, toks := tk + 1 }) gd₂ hn₃ (by simp) vd₃
      -- a quiet step
      have quiet : ∀ {s₄ : Shared}, KS C.calm.T { s' with heap := h₃, toks := tk + 1 } s₄ → Good s₄ ∧ St (i + 1) s₄.heap ∧ (∃ m, s₄.heap.Ns C₀ m) ∧ s₄.heap.get? D = some (setObj led (decide (0 < i))) := fun {s₄} kq => by
        have kk := fun b o e => kq.keep b o (show b ∉ ([] : List Addr) by simp) e
        exact ⟨⟨by obtain ⟨⟨h, t, rfl⟩, _⟩ := gd; obtain ⟨h', t', rfl⟩ := kq.same; exact ⟨_, _, rfl⟩, fun b o h1 h2 h3 e => kk b o (gd₂.2 b o h1 h2 h3 e)⟩, it.W.frame _ _ _ st₃ fun b _ o e => kk b o e,
          ⟨_, hn₃.at' fun o e => kk _ o e⟩, kk _ _ hD₃⟩
      refine he d hdm R scE er₃ fun y s₅ k₅ r₅ => ?_
      obtain ⟨gd₅, st₅, ⟨m₅, hn₅⟩, hD₅⟩ := quiet k₅
      have hy : y = .bool true := r₅
      subst hy
      refine set_add_true hD₅ fun h₆ hs₆ hD₆ => ?_
      exact ⟨ds.length - (i + 1), by omega, i + 1, m₅, ⟨by obtain ⟨⟨h, t, rfl⟩, _⟩ := gd₅; exact ⟨_, _, rfl⟩, fun b o h1 h2 h3 e => hs₆.extBut b o h3 (gd₅.2 b o h1 h2 h3 e)⟩, it.W.frame _ _ _ st₅ fun b hb o e => hs₆.extBut b o (fun q => fpD (q ▸ hb)) e,
          hn₅.sameBut hs₆ hDC.symm, by simpa using hD₆, by omega, rfl⟩
  have goal := codeAny_compStart_set (elt := elt) (iter := iter) (target := .Name x px) (ifs := []) (rest := []) (scope := scope) (pos := pos) (env := compEnvC scope cl C₀ env) (it := .ref I) (acc := .ref D) loop (it.W.self 0 _ _ _ (it.W.frame _ _ _ st₀ fun b _ o e => old b o e) loop)
  subst hDe
  exact goal

/-- one name, = {.. for ..}, every element True -/
theorem Xs.setOne {y : Str} {py tp spos : Pos} {tk : Nat} {elt iter : Expr} {x : Str} {px : Pos} {scope : Scope} {pos : Pos} {ds : List V} {ρf : Rho} {rest : List Stmt} {P : Out → Prop}
    (hi : EvI C l sc ρ iter ds) (hb : compScopeB scope sc x = true) (hc : Caught scope sc ρ ρf) (hne : 0 < ds.length)
    (he : ∀ d ∈ ds, Ev C.calm l (relabS scope sc) ((x, (d, false)) :: ρf) elt (.bool true, false))
    (kk : Xs C l sc ((y, (.bool true, false)) :: ρ) rest P) (hy : HasPlace sc y := by decide +kernel)
    (hfo : ∀ env x, foldedSetIterable iter env x = pure x := by intro _ _; rfl)
    (hs : ∀ env : Env, env.scope = sc → swapsWithSole [.Tuple [.Name y py] tk tp] (.SetComp elt [⟨.Name x px, iter, [], 0⟩] scope pos) spos.line env = pure false := by intro _ _; rfl)
    (hw : ∀ env : Env, swappedStores [.Tuple [.Name y py] tk tp] (.SetComp elt [⟨.Name x px, iter, [], 0⟩] scope pos) env = pure none := by intro _; rfl) :
    Xs C l sc ρ (.Assign [.Tuple [.Name y py] tk tp] (.SetComp elt [⟨.Name x px, iter, [], 0⟩] scope pos) spos :: rest) P := by
  refine Xs.cons ?_
  intro A s s₀ env O₀ own E R hsc F
  have er := F.er
  have cs := CompScope.of hb
  obtain ⟨cl, hcl, hcl1, hcl2⟩ := scopeCl er hsc cs
  refine Assign_Tuple ?_ (hs env hsc) (hw env)
  rw [show ∀ gens, eval (.SetComp elt gens scope pos) env = comprehension (.SetComp elt gens scope pos) scope env (firstIterPos gens pos) (newSet (.type "set")) (firstAsync gens) (firstIter gens env) from fun _ => by rw [arm_eval_SetComp]]
  refine wpAny_comprehension_free (use := none) rfl (hfo env) hcl cs.kind cs.names (setcomp_run (RR := fun acc C₀ => compPost (model C.prog C.w) A E none _ acc C₀) R hsc er hi cs hc hcl1 hcl2 he ?_)
  intro D C₀ m' s' k hD hC hDC hn hDo
  refine ⟨m', hn, fun h' hs' => ?_⟩
  show wpAny _ _ (PySem.assign (.Tuple [.Name y py] tk tp) env (.ref D)) _ _ _
  rw [assign_Tuple]
  refine wpAny_bind (wpAny_standAt ?_)
  have hD' : h'.get? D = some (setObj (!C.w.params.followText "set-order") true) := hs'.extBut D _ hDC (by simpa [hne] using hDo)
  refine unpack_set R.handled (s := { s' with heap := h' }) hD' fun h₂ he₂ => ?_
  have k₁ : KS C.T s { s' with heap := h' } := by
    obtain ⟨⟨h, tk, rfl⟩, k2, k3⟩ := k
    exact ⟨⟨_, _, rfl⟩, fun b o hb e => hs'.extBut b o (fun q => by rw [q, hC] at e; cases e) (k2 b o hb e), fun t ht g => by
      refine (k3 t ht g).at fun b o vs e hd _ => hs'.extBut b o (fun q => ?_) e
      obtain ⟨o', es, ep, e', hd', _⟩ := hn
      rw [← q] at e'; dsimp only at e e'; rw [e] at e'; cases e'; rw [hd] at hd'; cases hd'⟩
  have k₂ : KS C.T s { s' with heap := h₂ } := k₁.trans (KS.of fun b o e => he₂ b o (Nat.ne_of_lt (Heap.lt_size e)) e)
  have T : TgtL C l sc [.Name y py] [.bool true] ρ ((y, (.bool true, false)) :: ρ) := TgtL.cons (Tgt.name hy) TgtL.nil (fun _ => rfl)
  refine T R hsc (F.ks k₂) (vs := [.bool true]) ⟨_, _, rfl, rfl, rfl⟩ fun own' s'' F' g gr => ?_
  exact ⟨.next _, kk, rfl, _, F', (Go.ks k₂).trans g (k₂.grows F.base.grown), (k₂.grows F.base.grown).trans gr⟩

end
end

section
theorem lk_fn_getattr : typeLookup (.type "function") "__getattr__" = pure none := by rw [typeLookup_type, builtinLookup_eq_fast]; kernel_rfl
theorem lk_fn_read : typeLookup (.type "function") "read" = pure none := by rw [typeLookup_type, builtinLookup_eq_fast]; kernel_rfl
theorem lk_fn_ga : typeLookup (.type "function") "__getattribute__" = pure (some (.builtin "object.__getattribute__")) := by rw [typeLookup_type, builtinLookup_eq_fast]; kernel_rfl
theorem slot_fn_sa : Slot "function" "__setattr__" "object.__setattr__" :=
  .of (owner := "object") (n := "__setattr__") (by rw [typeLookup_type, builtinLookup_eq_fast]; kernel_rfl) (by decide +kernel) (by decide +kernel) (by decide +kernel)
    (by first | exact .inl (by decide +kernel) | exact .inr (by decide +kernel)) (by rw [isSubtype_type]; kernel_rfl)
theorem slot_fn_ga : Slot "function" "__getattribute__" "object.__getattribute__" :=
  .of (owner := "object") (n := "__getattribute__") (by rw [typeLookup_type, builtinLookup_eq_fast]; kernel_rfl) (by decide +kernel) (by decide +kernel) (by decide +kernel)
    (by first | exact .inl (by decide +kernel) | exact .inr (by decide +kernel)) (by rw [isSubtype_type]; kernel_rfl)
theorem args_sa_3 (a b c : Value) : argsOk "object.__setattr__" ⟨[a, b, c], []⟩ := by unfold argsOk; kernel_rfl
theorem args_ga_2 (a b : Value) : argsOk "object.__getattribute__" ⟨[a, b], []⟩ := by unfold argsOk; kernel_rfl
theorem mro_fn : mroOf (.type "function") = pure [.type "function", .type "object"] := by rw [mroOf_type]; kernel_rfl
theorem passes_fn (self : Value) : refuseLoop self "__setattr__" [.type "function", .type "object"] = pure () := by
  kernel_rfl
theorem sub_fn_static : isSubtype (.type "function") (.type "staticmethod") = pure false := by rw [isSubtype_type]; kernel_rfl
theorem sub_fn_classm : isSubtype (.type "function") (.type "classmethod") = pure false := by rw [isSubtype_type]; kernel_rfl

/-- a function object with names of its own -/
noncomputable def FnDict (h : Heap) (f D : Addr) (md : Str → Option Value) : Prop := (∃ fd sl, h.get? f = some { cls := .type "function", dict := some D, data := .func fd, slots := sl }) ∧ h.Ns D md

section
variable {prog : Program} {w : World} {A : Around} {E : Value → Shared → Prop} {h : Heap} {g : Array GenState} {d : Drawn} {t : Nat} {os : OsState} {f D : Addr} {md : Str → Option Value}
theorem fn_ga_entry {name : Str} {tk : Tok} {v : Value} {Q : Fin → Shared → Prop} (hm : FnDict h f D md) (hnm : typeLookup (.type "function") name = pure none) (hv : md name = some v)
    (hq : Q (.done (.ret v)) ⟨h, g, d, t, os⟩) : wpAny (model prog w) A (Builtin.«object.__getattribute__» ⟨[.ref f, .str name tk], []⟩) Q E ⟨h, g, d, t, os⟩ := by
  obtain ⟨⟨fd, sl, hM⟩, hD⟩ := hm
  have hT : (⟨h, g, d, t, os⟩ : Shared).TypeIs (.ref f) "function" := ⟨_, hM, rfl⟩
  have f1 := sub_fn_static
  have f2 := sub_fn_classm
  unfold Builtin.«object.__getattribute__»
  iterate 14 (any_goals (first | assumption | with_reducible apply Flt.wpAny_nsGet_known | with_reducible apply Flt.wpAny_loadPart_known | wp_step))
  show wpAny _ _ (pure none >>= _) _ _ _
  refine wpAny_bind (wpAny_pure ?_)
  show wpAny _ _ (pure none >>= _) _ _ _
  refine wpAny_bind (wpAny_pure ?_)
  show wpAny _ _ (Builtin.ObjectAttr.inOwnDict name (.ref f) >>= _) _ _ _
  refine wpAny_bind ?_
  show wpAny _ _ (Builtin.ObjectAttr.ownDict f >>= _) _ _ _
  refine wpAny_bind ?_
  unfold Builtin.ObjectAttr.ownDict
  show wpAny _ _ (loadPart f (some headPart) >>= _) _ _ _
  refine wpAny_bind (wpAny_loadPart hM ?_)
  show wpAny _ _ (instanceDict f false) _ _ _
  unfold instanceDict
  refine wpAny_bind (wpAny_loadPart hM ?_)
  refine wpAny_pure ?_
  show wpAny _ _ (nsGet D name) _ _ _
  refine wpAny_nsGet hD ?_
  rw [hv]
  refine wpAny_bind (wpAny_rule (wpAny_pure ?_))
  exact wpAny_pure hq
theorem getMethod_fn {name : Str} {v : Value} {pl : Sem Bool} {Q : Value × List Value → Shared → Prop} (hm : FnDict h f D md) (hnm : typeLookup (.type "function") name = pure none) (hv : md name = some v)
    (hh : handedOut v = pure v) (hq : Q (v, []) ⟨h, g, d, t + 1, os⟩) : wpAny (model prog w) A (getMethod (.ref f) name pl) Q E ⟨h, g, d, t, os⟩ := by
  obtain ⟨fd, sl, hM⟩ := hm.1
  have hT : (⟨h, g, d, t, os⟩ : Shared).TypeIs (.ref f) "function" := ⟨_, hM, rfl⟩
  have hT1 : (⟨h, g, d, t + 1, os⟩ : Shared).TypeIs (.ref f) "function" := ⟨_, hM, rfl⟩
  have f1 := lk_fn_ga
  have f2 := lk_fn_getattr
  have f4 := slot_fn_ga.bind (.ref f)
  have f5 : (Manifest.canonical "object.__getattribute__" != "object.__getattribute__") = false := by decide +kernel
  unfold getMethod
  refine wpAny_bind (wpAny_specialOf hT f1 ?_)
  show wpAny _ A (if (Manifest.canonical "object.__getattribute__" != "object.__getattribute__") = true then _ else _) Q E _
  rw [f5, if_neg Bool.false_ne_true]
  refine wpAny_bind (wpAny_specialOf hT f2 ?_)
  refine wpAny_bind (wpAny_specialOf hT hnm ?_)
  refine wpAny_bind ?_
  unfold getAttr
  refine wpAny_bind (wpAny_mkText ?_)
  unfold getAttrBy
  refine wpAny_holding (wpAny_bind (wpAny_typeOf hT1 (wpAny_bind (wpAny_of_eq f1 ?_))))
  show wpAny _ _ (getAttrByItsOwn (.ref f) (.str name t) (.type "function") (.builtin "object.__getattribute__") true false) _ _ _
  unfold getAttrByItsOwn
  show wpAny _ _ (pure none >>= _) _ _ _
  refine wpAny_bind (wpAny_pure ?_)
  refine wpAny_bind (wpAny_attempt (wpAny_holding ?_))
  show wpAny _ _ (boundAndCalled (.builtin "object.__getattribute__") (.ref f) (.str name t)) _ _ _
  unfold boundAndCalled
  refine wpAny_bind (wpAny_of_eq f4 ?_)
  refine wpAny_call ?_
  refine codeAny_call_builtin slot_fn_ga.plain PySem.F.entry_object_getattribute (slot_fn_ga.check _ _ _ _ _ _ _ _ hT1 (args_ga_2 _ _) (fn_ga_entry hm hnm hv ?_))
  show wpAny _ _ (handedOut v) _ _ _
  rw [hh]
  exact wpAny_pure (wpAny_pure hq)
end

section
variable {prog : Program} {w : World} {A : Around} {E : Value → Shared → Prop} {h : Heap} {g : Array GenState} {d : Drawn} {t : Nat} {os : OsState} {f : Addr} {fd : FuncData} {sl : Array (Option Value)}
theorem fn_sa_entry {name : Str} {tk : Tok} {v : Value} {Q : Fin → Shared → Prop} (hM : h.get? f = some { cls := .type "function", dict := none, data := .func fd, slots := sl }) (hnm : typeLookup (.type "function") name = pure none)
    (hq : ∀ h' tk', h'.get? f = some { cls := .type "function", dict := some h.objs.size, data := .func fd, slots := sl } → h'.Ns h.objs.size (fun y => if y = name then some v else none) →
      (∀ b o, b ≠ f → h.get? b = some o → h'.get? b = some o) → Q (.done (.ret .none)) ⟨h', g, d, tk', os⟩) :
    wpAny (model prog w) A (Builtin.«object.__setattr__» ⟨[.ref f, .str name tk, v], []⟩) Q E ⟨h, g, d, t, os⟩ := by
  have hT : (⟨h, g, d, t, os⟩ : Shared).TypeIs (.ref f) "function" := ⟨_, hM, rfl⟩
  unfold Builtin.«object.__setattr__»
  rw [if_neg (show ¬ ((!([] : List (Str × Value)).isEmpty) = true) by decide)]
  show wpAny _ _ (Builtin.ObjectAttr.refuseIfOverridden (.ref f) "__setattr__" >>= _) _ _ _
  refine wpAny_bind ?_
  rw [refuse_eq]
  refine wpAny_bind (wpAny_typeOf hT (wpAny_bind (wpAny_of_eq mro_fn ?_)))
  rw [passes_fn]
  refine wpAny_pure ?_
  show wpAny _ _ (pure name >>= _) _ _ _
  refine wpAny_bind (wpAny_pure (wpAny_bind (wpAny_typeOf hT (wpAny_bind (wpAny_of_eq hnm ?_)))))
  show wpAny _ _ (pure none >>= _) _ _ _
  refine wpAny_bind (wpAny_pure ?_)
  show wpAny _ _ (Builtin.ObjectAttr.storeInOwnDict (.ref f) (.type "function") (.str name tk) name v false) _ _ _
  unfold Builtin.ObjectAttr.storeInOwnDict
  show wpAny _ _ (pure () >>= _) _ _ _
  refine wpAny_bind (wpAny_pure ?_)
  rw [if_neg (by decide)]
  refine wpAny_bind ?_
  show wpAny _ _ (instanceDict f true) _ _ _
  unfold instanceDict
  refine wpAny_bind (wpAny_loadPart hM ?_)
  dsimp only
  rw [if_neg (by simp [typeHasDict]; decide +kernel)]
  have hx₁ : (h.push { cls := .type "dict", data := .dict #[] }).get? f = some { cls := .type "function", dict := none, data := .func fd, slots := sl } := Heap.get?_push_of_some _ hM
  have hxs : f ≠ h.objs.size := Nat.ne_of_lt (Heap.lt_size hM)
  refine wpAny_bind (wpAny_alloc' ?_)
  refine wpAny_bind (wpAny_update' hx₁ ?_)
  unfold dictMade
  show wpAny _ _ (if finalisedInACycleAlone "function" = true then _ else _) _ _ _
  rw [if_neg (by decide +kernel)]
  refine wpAny_pure ?_
  have hgd : ((h.push { cls := .type "dict", data := .dict #[] }).update f fun o => { cls := o.cls, dict := some h.objs.size, data := o.data, slots := o.slots }).get? h.objs.size
      = some { cls := .type "dict", data := .dict #[] } :=
    (Heap.get?_update_ne _ _ _ _ hxs.symm).trans (Heap.get?_push_at rfl rfl)
  have hnd : ((h.push { cls := .type "dict", data := .dict #[] }).update f fun o => { cls := o.cls, dict := some h.objs.size, data := o.data, slots := o.slots }).Ns h.objs.size (fun _ => none) :=
    ⟨_, #[], _, hgd, rfl, fun e he => absurd he (by simp), fun _ => rfl⟩
  show wpAny _ _ (Builtin.ObjectAttr.storeInDict h.objs.size (.str name tk) name v) _ _ _
  unfold Builtin.ObjectAttr.storeInDict Builtin.ObjectAttr.newKeyGuard
  refine wpAny_bind (wpAny_pure (wpAny_bind (wpAny_nsSet1 (Heap.Ns1.of_empty hnd) fun h' hn' hs => ?_)))
  obtain ⟨oD, esD, epD, hoD, hdD, hcD⟩ := hn'.count (Within.cons name v Within.nil)
  refine wpAny_bind (wpAny_lookBehind hoD (by rw [hdD]; exact pastItsLine_dict (Nat.le_trans hcD (by rw [List.length_cons, List.length_nil, sizeLine_eq]; omega))) ?_)
  refine wpAny_pure (hq h' _ ?_ hn'.ns fun b o hb e => ?_)
  · exact (hs.2 f hxs).trans (Heap.get?_update_self _ hx₁ rfl)
  · exact (hs.2 b (Nat.ne_of_lt (Heap.lt_size e))).trans ((Heap.get?_update_ne _ _ _ _ hb).trans (Heap.get?_push_of_some _ e))
end
section
variable {prog : Program} {w : World} {A : Around} {E : Value → Shared → Prop} {s : Shared} {f : Addr} {fd : FuncData} {sl : Array (Option Value)}
theorem setAttr_fn {name : Str} {v : Value} {Q : Unit → Shared → Prop} (hM : s.heap.get? f = some { cls := .type "function", dict := none, data := .func fd, slots := sl }) (hnm : typeLookup (.type "function") name = pure none)
    (hq : ∀ h' tk', h'.get? f = some { cls := .type "function", dict := some s.heap.objs.size, data := .func fd, slots := sl } → h'.Ns s.heap.objs.size (fun y => if y = name then some v else none) →
      (∀ b o, b ≠ f → s.heap.get? b = some o → h'.get? b = some o) → Q () { s with heap := h', toks := tk' }) :
    wpAny (model prog w) A (setAttr (.ref f) name v) Q E s := by
  obtain ⟨h, g, d, t, os⟩ := s
  unfold setAttr
  have hT1 : (⟨h, g, d, t + 1, os⟩ : Shared).TypeIs (.ref f) "function" := ⟨_, hM, rfl⟩
  refine wpAny_bind (wpAny_mkText ?_)
  refine wpAny_bind (wpAny_callSpecial?_slot (name := Str.ofString "__setattr__") hT1 slot_fn_sa
    (wpAny_call_entry slot_fn_sa hT1 PySem.F.entry_object_setattr (fn_sa_entry hM hnm fun h' tk' h1 h2 h3 => ?_) (args_sa_3 _ _ _)))
  exact ⟨_, rfl, wpAny_pure (hq h' tk' h1 h2 h3)⟩
end
end

section
theorem inCallC_hide {s s₁ : Shared} {L : Addr} {m cm : Str → Option Value} {cs : List (Str × Addr)} (Hs : List Addr) (x : InCallC s L m cs cm s₁) : InCallC { s with heap := hideAll s.heap Hs } L m cs cm s₁ :=
  ⟨⟨by obtain ⟨h, tk, rfl⟩ := x.toInCall.same; exact ⟨h, tk, rfl⟩, x.toInCall.ns, fun b o e => x.toInCall.keep b o (of_hideAll _ e), by show (hideAll s.heap Hs).objs.size ≤ _; rw [hideAll_size]; exact x.toInCall.fresh⟩, x.cell, x.apart, x.above⟩

/-- one list changes, all else stands -/
structure KSL (L : Addr) (s s' : Shared) : Prop where
  same : ∃ h tk, s' = { s with heap := h, toks := tk }
  keep : ∀ b o, b ≠ L → s.heap.get? b = some o → s'.heap.get? b = some o
theorem KSL.of_ks {L : Addr} {a b : Shared} (x : KS [] a b) : KSL L a b := ⟨x.same, fun b o _ e => x.keep b o (by simp) e⟩

section
variable {C : Ctx} {l : Nat}

theorem fr_enterH {s s₁ : Shared} {fd : FuncData} {body : List Stmt} {names : List Str} {ds : List V} {O₀ : List Addr} {own : List (Str × Addr)} {vs : List Value} {a : Addr} (Hs : List Addr) (hT : ∀ t ∈ C.T, t ∈ Hs) (hG : ∀ b ∈ Hs, C.G.get? b = none) (hO : ∀ p ∈ own, p.2 ∈ Hs)
    (hO₀ : ∀ a ∈ O₀, a ∉ Hs ∧ ∃ items, PlL s.heap a items) (hap : own.Pairwise fun p q => p.1 ≠ q.1 ∧ p.2 ≠ q.2) (D : DefAt C a fd body) (B : Base C s.heap) (L : Lists s.heap (own.map (·.2)))
    (hv : VRs s.heap (ownO own O₀) ds vs) (hlen : names.length = ds.length) (hnd : names.Nodup) (hkinds : ∀ n ∈ names, fd.scope.names.lookup n = some .local ∨ fd.scope.names.lookup n = some .cell)
    (x : InCallC s (callEnvC fd s.heap.objs.size a).locals (bindL (callEnvC fd s.heap.objs.size a).kindOf (names.zip vs) fun _ => none) (callEnvC fd s.heap.objs.size a).cells
        (bindC (callEnvC fd s.heap.objs.size a).kindOf (names.zip vs) fun _ => none) s₁) : FR C { s with heap := hideAll s.heap Hs } (callEnvC fd s.heap.objs.size a) O₀ own (names.zip (plainVV ds)) s₁ := by
  have hvl := hv.length
  have hmap : (names.zip vs).map (·.1) = names := List.map_fst_zip (by omega)
  have kind : ∀ n, (callEnvC fd s.heap.objs.size a).kindOf n = fd.scope.names.lookup n := fun _ => rfl
  have kp : ∀ b o, s.heap.get? b = some o → s₁.heap.get? b = some o := x.toInCall.keep
  refine ⟨⟨fun b o e => kp b o (B.keep b o e), fun t ht => (B.grown t ht).at fun b o _ e _ _ => kp b o e⟩, D.kind, D.glob, D.blt, fun n hn => cellsFrom_some _ _ _ (.inl hn), fun t ht => hideAll_none _ (hT t ht),
    fun b o e => hideAll_get _ (B.keep b o e) (fun q => by rw [hG b q] at e; cases e), fun a ha => ?_, fun a ha => ?_, fun p hp => hideAll_none _ (hO p hp), hap, _, _, inCallC_hide Hs x, fun n d hd => ?_⟩
  · obtain ⟨h1, its, y⟩ := hO₀ a ha
    exact ⟨its, plL_at y fun o e => hideAll_get _ e h1⟩
  · obtain ⟨its, y⟩ := L a ha
    exact ⟨its, plL_at y fun o e => kp a o e⟩
  · obtain ⟨v, hm, h2, hr⟩ := zip_lookup hv hd
    have hn : n ∈ names := (List.of_mem_zip hm).1
    refine ⟨v, ?_, fun q => (by rw [h2] at q; cases q), ?_⟩
    · rcases hkinds n hn with hk | hk
      · exact .inl ⟨hk, bindL_get (by rw [kind]; exact hk) (by rw [hmap]; exact hnd) hm⟩
      · exact .inr ⟨hk, bindC_get (by rw [kind, hk]; decide) (by rw [hmap]; exact hnd) hm⟩
    · obtain ⟨d1, d2⟩ := d
      dsimp only at h2; subst h2
      show VR _ _ d1 v
      exact VR.tr (fun b its hb hl => ⟨hb, plL_at hl fun o e => kp b o e⟩) (fun b its ht => isTup_at ht fun o e => kp b o e) hr

/-- a def is entered, some objects laid aside -/
theorem enterH {s : Shared} {A : Around} {fd : FuncData} {body : List Stmt} {names : List Str} {ds : List V} {O₀ : List Addr} {own : List (Str × Addr)} {vs : List Value} {a : Addr} {Q : Value → Shared → Prop} {E : Value → Shared → Prop} (Hs : List Addr) (hT : ∀ t ∈ C.T, t ∈ Hs) (hG : ∀ b ∈ Hs, C.G.get? b = none) (hO : ∀ p ∈ own, p.2 ∈ Hs)
    (hO₀ : ∀ a ∈ O₀, a ∉ Hs ∧ ∃ items, PlL s.heap a items) (hap : own.Pairwise fun p q => p.1 ≠ q.1 ∧ p.2 ≠ q.2) (D : DefAt C a fd body) (R : Room (l + 1) A) (B : Base C s.heap) (L : Lists s.heap (own.map (·.2)))
    (hv : VRs s.heap (ownO own O₀) ds vs) (hbind : ∀ vals : List Value, vals.length = names.length → bindArgs fd ⟨vals, []⟩ = pure (names.zip vals)) (hlen : names.length = ds.length) (hnd : names.Nodup) (hkinds : ∀ n ∈ names, fd.scope.names.lookup n = some .local ∨ fd.scope.names.lookup n = some .cell)
    (X : ∀ s₁, FR C { s with heap := hideAll s.heap Hs } (callEnvC fd s.heap.objs.size a) O₀ own (names.zip (plainVV ds)) s₁ → KS [] s s₁ →
      wpAny (model C.prog C.w) (A.deeper (callEnvC fd s.heap.objs.size a)) (execs body (callEnvC fd s.heap.objs.size a)) (fun f s' => Q (match f with | .ret v => v | _ => .none) s')
        (fun e s' => wpAny (model C.prog C.w) (A.deeper (callEnvC fd s.heap.objs.size a)) (leaving (callEnvC fd s.heap.objs.size a) e) (fun _ s'' => E e s'') (fun e' s'' => E e' s'') s') s₁) :
    wpAny (model C.prog C.w) A (call (.ref a) vs) Q E s := by
  have hvl := hv.length
  obtain ⟨o, ho, hd⟩ := D.at'
  have hlim : s.heap.NoLimit := C.lim.keeps B.keep
  have hcd : s.heap.CodeRec fd.code fd.qualname := D.code.keeps B.keep
  refine wpAny_call (codeAny_call_cells R.room (B.keep _ _ ho) hd hlim hcd D.body (hbind vs (by omega)) D.clo (fun y hy => ?_) (fun s₁ x => ?_) D.co D.gen D.kind)
  · rcases hkinds y.1 (List.of_mem_zip hy).1 with h | h
    · exact .inl h
    · exact .inr ⟨h, cellsFrom_some _ _ _ (.inl h)⟩
  · exact X s₁ (fr_enterH Hs hT hG hO hO₀ hap D B L hv hlen hnd hkinds x) ⟨x.toInCall.same, fun b o _ e => x.toInCall.keep b o e, fun t ht => nomatch ht⟩

variable {s₀ s s' : Shared} {env : Env} {O₀ : List Addr} {own : List (Str × Addr)} {ρ : Rho} {sc : Scope}

/-- one own list that no name tells of is changed -/
theorem FR.chg {x : Str} {L : Addr} {items : Array Value} (F : FR C s₀ env O₀ own ρ s) (hL : (x, L) ∈ own) (hρ : ∀ d, ρ.lookup x = some d → d.2 = false) (k : KSL L s s') (hp' : PlL s'.heap L items) :
    FR C s₀ env O₀ own ρ s' ∧ Go C env own own s s' ∧ Grows s s' := by
  have haO : L ∈ ownO own O₀ := List.mem_append_left _ (List.mem_map.mpr ⟨_, hL, rfl⟩)
  obtain ⟨m, cm, X, hvs⟩ := F.call
  have hn₀ := F.ownNew _ hL
  dsimp only at hn₀
  obtain ⟨its₀, hp⟩ := F.lists L (List.mem_map.mpr ⟨_, hL, rfl⟩)
  have kp : ∀ b o, s₀.heap.get? b = some o → s'.heap.get? b = some o := fun b o e => k.keep b o (fun q => by rw [q, hn₀] at e; cases e) (X.toInCall.keep b o e)
  have g : GrownT C.T s'.heap := fun t ht => (F.base.grown t ht).at fun b o vs e hd _ => k.keep b o (fun q => by
    obtain ⟨o', n, e', d'⟩ := hp
    rw [← q, e] at e'; cases e'; rw [d'] at hd; cases hd) e
  have upL : ∀ b its, b ≠ L → PlL s.heap b its → PlL s'.heap b its := fun b its hb y => plL_at y fun o e => k.keep b o hb e
  have upT : ∀ b its, IsTup s.heap b its → IsTup s'.heap b its := fun b its y => isTup_at y fun o e => k.keep b o (fun q => list_not_tup hp.isList (q ▸ y)) e
  have up : ∀ {d : V} {v : Value}, VR s.heap (ownO own O₀) d v → VR s'.heap (ownO own O₀) d v := fun y => VR.tr (fun b its hb z => ⟨hb, upL b its (fun q => hb (q ▸ haO)) z⟩) upT y
  have ups : ∀ {d : List V} {v : List Value}, VRs s.heap (ownO own O₀) d v → VRs s'.heap (ownO own O₀) d v := fun y => VRs.tr (fun b its hb z => ⟨hb, upL b its (fun q => hb (q ▸ haO)) z⟩) upT y
  have hns : ∀ m, s.heap.Ns env.locals m → s'.heap.Ns env.locals m := fun m y => y.at' fun o e => k.keep _ o (fun q => list_not_ns hp.isList (q ▸ y)) e
  refine ⟨⟨⟨fun b o e => kp b o (F.under b o e), g⟩, F.kind, F.glob, F.blt, F.cells, F.notab, F.under, F.outer, fun b hb => ?_, F.ownNew, F.apart, m, cm, ⟨⟨?_, hns m X.toInCall.ns, kp, X.toInCall.fresh⟩,
      fun n c hc => isCell_at (X.cell n c hc) fun o e => k.keep _ o (fun q => list_not_cell hp.isList (q ▸ X.cell n c hc)) e, X.apart, X.above⟩, fun y d hy => ?_⟩, ⟨fun b o _ _ _ h4 e => k.keep b o (h4 _ hL) e, fun p hp => .inl ⟨p, hp, rfl⟩⟩, ?_⟩
  · by_cases hba : b = L
    · exact ⟨items, hba ▸ hp'⟩
    · obtain ⟨its, y⟩ := F.lists b hb
      exact ⟨its, upL b its hba y⟩
  · obtain ⟨h₁, tk₁, rfl⟩ := X.toInCall.same
    obtain ⟨h₂, tk₂, rfl⟩ := k.same
    exact ⟨h₂, _, rfl⟩
  · obtain ⟨v, h1, h2, h3⟩ := hvs y d hy
    refine ⟨v, h1, h2, ?_⟩
    obtain ⟨e1, e2⟩ := d
    cases e2 with
    | false => exact up h3
    | true =>
      obtain ⟨zs, b, its, g1, g2, g3, g4, g5⟩ := h3
      obtain ⟨b', hb', eb'⟩ := h2 rfl
      rw [g2] at eb'; cases eb'
      have hba : b ≠ L := by
        rcases own_ne F.apart hL hb' with ⟨e, _⟩ | ⟨_, e⟩
        · subst e; cases hρ _ hy
        · exact e.symm
      exact ⟨zs, b, its, g1, g2, g3, upL b its hba g4, ups g5⟩
  · intro b e
    cases e' : s.heap.get? b with
    | none => rfl
    | some o =>
      by_cases hb : b = L
      · obtain ⟨o', n, e2, _⟩ := hp'
        rw [hb, e2] at e; cases e
      · rw [k.keep b o hb e'] at e; cases e

/-- a new list is taken in -/
theorem FR.adopt {x : Str} {L : Addr} {items : Array Value} (F : FR C s₀ env O₀ own ρ s) (k : KS C.T s s') (hn : s.heap.get? L = none) (hp : PlL s'.heap L items) (hx : ∀ p ∈ own, p.1 ≠ x) : FR C s₀ env O₀ ((x, L) :: own) ρ s' := by
  have F' := F.ks k
  obtain ⟨m₁, cm₁, X₁, _⟩ := F.call
  obtain ⟨m, cm, X, hvs⟩ := F'.call
  have hs₀ : s₀.heap.get? L = none := by
    cases e : s₀.heap.get? L with
    | none => rfl
    | some o => rw [X₁.toInCall.keep L o e] at hn; cases hn
  have hne : ∀ p ∈ own, p.2 ≠ L := fun p hp q => by
    obtain ⟨its, o, n, e, _⟩ := F.lists p.2 (List.mem_map.mpr ⟨p, hp, rfl⟩)
    rw [q, hn] at e; cases e
  have F'' := F.sub (ρ' := ρ) fun _ _ h => h
  refine ⟨F'.base, F'.kind, F'.glob, F'.blt, F'.cells, F'.notab, F'.under, F'.outer, fun b hb => ?_, fun p hp => ?_, List.pairwise_cons.mpr ⟨fun p hp => ⟨(hx p hp).symm, (hne p hp).symm⟩, F.apart⟩, ?_⟩
  · rcases List.mem_cons.mp hb with rfl | hb
    · exact ⟨items, hp⟩
    · exact F'.lists b hb
  · rcases List.mem_cons.mp hp with rfl | hp
    · exact hs₀
    · exact F.ownNew p hp
  · obtain ⟨m₂, cm₂, X₂, hv₂⟩ := F.call
    refine ⟨m₂, cm₂, inCallC_ks F.base.grown F.notab X₂ k, fun y d hy => ?_⟩
    obtain ⟨v, h1, h2, h3⟩ := hv₂ y d hy
    have pl : ∀ b its, b ∉ ownO own O₀ → PlL s.heap b its → b ∉ ownO ((x, L) :: own) O₀ ∧ PlL s'.heap b its := fun b its hb z => ⟨fun q => by
      rcases List.mem_append.mp q with q | q
      · rcases List.mem_cons.mp q with q | q
        · obtain ⟨o, n, e, _⟩ := z
          rw [q] at e; dsimp only at e; rw [hn] at e; cases e
        · exact hb (List.mem_append_left _ q)
      · exact hb (List.mem_append_right _ q), plL_at z fun o e => k.keep b o (nt_list F.base.grown z.isList) e⟩
    have tp : ∀ b its, IsTup s.heap b its → IsTup s'.heap b its := fun b its z => isTup_at z fun o e => k.keep b o (nt_tup F.base.grown z) e
    refine ⟨v, h1, fun q => ?_, ?_⟩
    · obtain ⟨a, ha, ea⟩ := h2 q
      exact ⟨a, List.mem_cons_of_mem _ ha, ea⟩
    · obtain ⟨e1, e2⟩ := d
      cases e2 with
      | false => exact VR.tr pl tp h3
      | true =>
        obtain ⟨zs, b, its, g1, g2, g3, g4, g5⟩ := h3
        refine ⟨zs, b, its, g1, g2, ?_, plL_at g4 fun o e => k.keep b o (nt_list F.base.grown g4.isList) e, VRs.tr pl tp g5⟩
        rcases List.mem_append.mp g3 with q | q
        · exact List.mem_append_left _ (List.mem_cons_of_mem _ q)
        · exact List.mem_append_right _ q

/-- a function object gets names of its own -/
theorem FR.fnSet {f : Addr} {o₀ o₁ : Obj} {fd : FuncData} {h' : Heap} {tk : Nat} (F : FR C s₀ env O₀ own ρ s) (hf : s.heap.get? f = some o₀) (hd : o₀.data = .func fd) (hf' : h'.get? f = some o₁) (h₀ : s₀.heap.get? f = none)
    (k : ∀ b o, b ≠ f → s.heap.get? b = some o → h'.get? b = some o) : FR C s₀ env O₀ own ρ { s with heap := h', toks := tk } ∧ Grows s { s with heap := h', toks := tk } := by
  obtain ⟨m, cm, X, hvs⟩ := F.call
  have kp : ∀ b o, s₀.heap.get? b = some o → h'.get? b = some o := fun b o e => k b o (fun q => by rw [q, h₀] at e; cases e) (X.toInCall.keep b o e)
  have kd : ∀ b o, s.heap.get? b = some o → (∀ fd, o.data ≠ .func fd) → h'.get? b = some o := fun b o e hn => k b o (fun q => by rw [q, hf] at e; cases e; exact hn _ hd) e
  have pl : ∀ b its, PlL s.heap b its → PlL h' b its := fun b its y => by
    obtain ⟨o, n, e, r⟩ := y
    exact ⟨o, n, kd b o e (fun fd q => by rw [r] at q; cases q), r⟩
  have tp : ∀ b its, IsTup s.heap b its → IsTup h' b its := fun b its y => by
    obtain ⟨o, e, hc, n, r⟩ := y
    exact ⟨o, kd b o e (fun fd q => by rw [r] at q; cases q), hc, n, r⟩
  refine ⟨⟨⟨fun b o e => kp b o (F.under b o e), fun t ht => (F.base.grown t ht).at fun b o vs e hd _ => kd b o e (fun fd q => by rw [hd] at q; cases q)⟩, F.kind, F.glob, F.blt, F.cells, F.notab, F.under, F.outer, fun b hb => ?_, F.ownNew, F.apart, m, cm, ⟨⟨?_, ?_, kp, X.toInCall.fresh⟩, fun n c hc => ?_, X.apart, X.above⟩, fun y d hy => ?_⟩, fun b e => ?_⟩
  · obtain ⟨its, y⟩ := F.lists b hb
    exact ⟨its, pl b its y⟩
  · obtain ⟨h₁, tk₁, rfl⟩ := X.toInCall.same
    exact ⟨h', tk, rfl⟩
  · obtain ⟨o, es, ep, e, hd', r⟩ := X.toInCall.ns
    exact ⟨o, es, ep, kd _ o e (fun fd q => by rw [hd'] at q; cases q), hd', r⟩
  · obtain ⟨o, e, hd'⟩ := X.cell n c hc
    exact ⟨o, kd _ o e (fun fd q => by rw [hd'] at q; cases q), hd'⟩
  · obtain ⟨v, h1, h2, h3⟩ := hvs y d hy
    refine ⟨v, h1, h2, ?_⟩
    obtain ⟨e1, e2⟩ := d
    cases e2 with
    | false => exact VR.tr (fun b its hb z => ⟨hb, pl b its z⟩) tp h3
    | true =>
      obtain ⟨zs, b, its, g1, g2, g3, g4, g5⟩ := h3
      exact ⟨zs, b, its, g1, g2, g3, pl b its g4, VRs.tr (fun b its hb z => ⟨hb, pl b its z⟩) tp g5⟩
  · dsimp only at e
    cases e' : s.heap.get? b with
    | none => rfl
    | some o =>
      by_cases hb : b = f
      · rw [hb, hf'] at e; cases e
      · rw [k b o hb e'] at e; cases e

/-- what a frame's code does not touch -/
theorem FR.still (F : FR C s₀ env O₀ own ρ s) {own' : List (Str × Addr)} (g : Go C env own own' s s') {b : Addr} {o : Obj} (e : s.heap.get? b = some o) (h1 : b ∉ C.T) (h2 : b ≠ env.locals) (h3 : ∀ n c, env.cells.lookup n = some c → b ≠ c) (h4 : ∀ its n, o.data ≠ .seq its n) : s'.heap.get? b = some o :=
  g.keep b o h1 h2 h3 (fun p hp q => by
    obtain ⟨its, o', n, e', d'⟩ := F.lists p.2 (List.mem_map.mpr ⟨p, hp, rfl⟩)
    rw [← q, e] at e'; cases e'
    exact h4 _ _ (by rw [d'])) e
end

section
variable {C : Ctx} {l : Nat} {sc : Scope} {ρ : Rho} {s₀ s : Shared} {env : Env} {O₀ : List Addr} {own : List (Str × Addr)} {A : Around} {Q : Flow → Shared → Prop} {E : Value → Shared → Prop}
theorem K.assign {x : Str} {p pos : Pos} {e : Expr} {d : V} {rest : List Stmt} (F : FR C s₀ env O₀ own ρ s) (R : Room l A) (hs : env.scope = sc) (h : Ev C l sc ρ e (d, false))
    (k : ∀ s', FR C s₀ env O₀ (dropOwn x own) ((x, (d, false)) :: ρ) s' → Go C env own (dropOwn x own) s s' → Grows s s' → wpAny (model C.prog C.w) A (execs rest env) Q E s')
    (hx : HasPlace sc x) (hsw : ∀ env : Env, env.scope = sc → swapsWith e (some (.Name x p)) pos.line env = pure false) : wpAny (model C.prog C.w) A (execs (.Assign [.Name x p] e pos :: rest) env) Q E s := by
  refine wpAny_execs_cons (wpAny_Assign_Name (h R hs F.er fun v s' k' r => ?_) (hsw env hs))
  exact (F.ks k').store (hx.kind hs) r fun s'' F'' g gr => k s'' F'' ((Go.ks k').trans g (k'.grows F.base.grown)) ((k'.grows F.base.grown).trans gr)
theorem K.assignNew {x : Str} {p pos : Pos} {e : Expr} {xs : List V} {rest : List Stmt} (F : FR C s₀ env O₀ own ρ s) (R : Room l A) (hs : env.scope = sc) (h : EvNew C l sc ρ e xs)
    (k : ∀ a s', s.heap.get? a = none → FR C s₀ env O₀ ((x, a) :: dropOwn x own) ((x, (.list xs, true)) :: ρ) s' → Go C env own ((x, a) :: dropOwn x own) s s' → Grows s s' → wpAny (model C.prog C.w) A (execs rest env) Q E s')
    (hx : HasPlace sc x) (hsw : ∀ env : Env, env.scope = sc → swapsWith e (some (.Name x p)) pos.line env = pure false) : wpAny (model C.prog C.w) A (execs (.Assign [.Name x p] e pos :: rest) env) Q E s := by
  refine wpAny_execs_cons (wpAny_Assign_Name (h R hs F.er fun a items s' k' hn hl hv => ?_) (hsw env hs))
  exact F.storeNew k' (hx.kind hs) hn hl hv fun s'' F'' g gr => k a s'' hn F'' g gr
theorem K.ret {e : Expr} {d : V} {pos : Pos} {rest : List Stmt} (F : FR C s₀ env O₀ own ρ s) (R : Room l A) (hs : env.scope = sc) (h : Ev C l sc ρ e (d, false))
    (k : ∀ v s', FR C s₀ env O₀ own ρ s' → KS C.T s s' → VR s'.heap (ownO own O₀) d v → Q (.ret v) s') : wpAny (model C.prog C.w) A (execs (.Return (some e) pos :: rest) env) Q E s :=
  wpAny_execs_cons (wpAny_Return_some (h R hs F.er fun v s' k' r => k v s' (F.ks k') k' r))
end
end

section
noncomputable def rdParams : Arguments := match bodyAt 202 with
  | [_, _, .FunctionDef _ ps _ _ _ _ _ _ _ _, _, _] => ps
  | _ => (fdAt 0).params
noncomputable def rdBody : List Stmt := match bodyAt 202 with
  | [_, _, .FunctionDef _ _ b _ _ _ _ _ _ _, _, _] => b
  | _ => []
noncomputable def rdScope : Scope := match bodyAt 202 with
  | [_, _, .FunctionDef _ _ _ _ _ _ sc _ _ _, _, _] => sc
  | _ => (fdAt 0).scope

/-- where a stream's parts lie -/
structure Strm where
  f : Addr
  D : Addr
  r : Addr
  cAt : Addr
  cOct : Addr
  L : Addr
  c' : Addr
  cl : List (Str × Addr)
  doc : Value
  pm : Value
  ctv : Value
  fdL : FuncData
  sl : Array (Option Value)
structure Strm.At (S : Strm) (tape : List UInt8) (h : Heap) : Prop where
  fn : h.get? S.f = some { cls := .type "function", dict := some S.D, data := .func S.fdL, slots := S.sl }
  ns : h.Ns S.D (fun y => if y = Str.ofString "read" then some (.ref S.r) else none)
  rd : h.get? S.r = some (fnMade "_law_read" readQ rdParams rdBody rdScope S.cl S.doc S.pm S.c' S.ctv)
  code : CodeAt h S.c'
  at' : S.cl.lookup (Str.ofString "at") = some S.cAt
  oct : S.cl.lookup (Str.ofString "octets") = some S.cOct
  cellA : h.IsCell S.cAt (some (.ref S.L))
  cellO : ∃ t, h.IsCell S.cOct (some (.bytes tape.toArray t))
theorem Strm.At.keep {S : Strm} {tape : List UInt8} {h h' : Heap} (x : S.At tape h) (k : ∀ b ∈ [S.f, S.D, S.r, S.cAt, S.cOct, S.c'], ∀ o, h.get? b = some o → (∀ its n, o.data ≠ .seq its n) → h'.get? b = some o) : S.At tape h' := by
  obtain ⟨t, ho, eo, d1⟩ := x.cellO
  obtain ⟨ha, ea, d2⟩ := x.cellA
  obtain ⟨oc, vs, tk, ec, dc, vc⟩ := x.code
  obtain ⟨on, es, ep, en, dn, r⟩ := x.ns
  refine ⟨k _ (by simp) _ x.fn (by nofun), ⟨on, es, ep, k _ (by simp) _ en (fun its n q => by rw [dn] at q; cases q), dn, r⟩, k _ (by simp) _ x.rd (by nofun), ⟨oc, vs, tk, k _ (by simp) _ ec (fun its n q => by rw [dc] at q; cases q), dc, vc⟩, x.at', x.oct,
    ⟨ha, k _ (by simp) _ ea (fun its n q => by rw [d2] at q; cases q), d2⟩, t, ho, k _ (by simp) _ eo (fun its n q => by rw [d1] at q; cases q), d1⟩
theorem Strm.At.ksl {S : Strm} {L : Addr} {items : Array Value} {tape : List UInt8} {s s' : Shared} (x : S.At tape s.heap) (hp : PlL s.heap L items) (k : KSL L s s') : S.At tape s'.heap :=
  x.keep fun b _ o e hd => k.keep b o (fun q => by
    obtain ⟨o', n, e', d'⟩ := hp
    rw [← q, e] at e'; cases e'
    exact hd _ _ (by rw [d'])) e
theorem Strm.At.ks0 {S : Strm} {tape : List UInt8} {s s' : Shared} (x : S.At tape s.heap) (k : KS [] s s') : S.At tape s'.heap := x.keep fun b _ o e _ => k.keep b o (by simp) e

section
variable {C : Ctx} {T : List Addr} {h : Heap}
theorem code_nt {c : Addr} (g : GrownT T h) (x : CodeAt h c) : c ∉ T := fun q => by
  obtain ⟨o, vs, t, e, d, v⟩ := x
  obtain ⟨ps, e', ht, _⟩ := g c q
  rw [e] at e'; cases e'; cases d
  cases hl : vs.toList with
  | nil => simp at hl; subst hl; simp at v
  | cons a r =>
    rw [hl] at ht
    match a, r, ht with
    | .int _ _, .int _ _ :: _ :: _, _ =>
      rw [← Array.getElem?_toList, hl] at v
      simp at v
theorem func_nt {a : Addr} {o : Obj} {fd : FuncData} (g : GrownT T h) (e : h.get? a = some o) (hd : o.data = .func fd) : a ∉ T := grown_ne g e (.inr (by rw [hd]; nofun))

/-- a stream stands while the frame goes on -/
theorem Strm.At.go {s₀ s s' : Shared} {env : Env} {O₀ : List Addr} {own own' : List (Str × Addr)} {ρ : Rho} {S : Strm} {tape : List UInt8} (F : FR C s₀ env O₀ own ρ s) (g : Go C env own own' s s') (x : S.At tape s.heap) (hD : S.D ≠ env.locals) (hc : env.cells = []) : S.At tape s'.heap := by
  obtain ⟨m, cm, X, _⟩ := F.call
  have cells : ∀ n c, env.cells.lookup n = some c → ∀ b, b ≠ c := fun n c h => by rw [hc] at h; cases h
  obtain ⟨oL, es, ep, eL, dL, _⟩ := X.toInCall.ns
  refine x.keep fun b hb o e hd => F.still g e ?_ ?_ (fun n c h => cells n c h b) hd
  · simp only [List.mem_cons, List.not_mem_nil, or_false] at hb
    rcases hb with rfl | rfl | rfl | rfl | rfl | rfl
    · exact func_nt F.base.grown x.fn rfl
    · exact nt_ns F.base.grown x.ns
    · exact func_nt F.base.grown x.rd rfl
    · exact nt_cell F.base.grown x.cellA
    · obtain ⟨t, y⟩ := x.cellO; exact nt_cell F.base.grown y
    · exact code_nt F.base.grown x.code
  · simp only [List.mem_cons, List.not_mem_nil, or_false] at hb
    have key : ∀ {o' : Obj}, s.heap.get? b = some o' → (∀ es ep, o'.data ≠ .dict es ep) → b ≠ env.locals := fun {o'} e' hn q => by
      rw [q, eL] at e'; cases e'; exact hn _ _ dL
    rcases hb with rfl | rfl | rfl | rfl | rfl | rfl
    · exact key x.fn (by nofun)
    · exact hD
    · exact key x.rd (by nofun)
    · obtain ⟨o', e', d'⟩ := x.cellA; exact key e' (fun es ep q => by rw [d'] at q; cases q)
    · obtain ⟨t, o', e', d'⟩ := x.cellO; exact key e' (fun es ep q => by rw [d'] at q; cases q)
    · obtain ⟨o', vs, t, e', d', _⟩ := x.code; exact key e' (fun es ep q => by rw [d'] at q; cases q)
end

theorem codeAmong_app {p : Pos} : ∀ (a r : List Value), TriplesOk a → codeAmong p (a ++ r) = (codeAmong p a).or (codeAmong p r)
  | [], r, _ => by simp [codeAmong]
  | .int x t :: .int y u :: c :: rest, r, h => by
    simp only [List.cons_append, codeAmong]
    split
    · rfl
    · exact codeAmong_app rest r h

section
variable {C : Ctx} {l : Nat} {s₀ s : Shared} {env : Env} {O₀ : List Addr} {own : List (Str × Addr)} {ρ : Rho} {A : Around} {Q : Value → Shared → Prop} {E : Value → Shared → Prop}

theorem FR.bAt (H : Prog C) (hT : C.T = [197]) (F : FR C s₀ env O₀ own ρ s) : s.heap.BuiltinsAt C.mg 197 := by
  obtain ⟨bm, ob, h1, h2, h3, h4, h5, h6⟩ := H.bm
  refine ⟨bm, ob, h1, h2, fun q => ?_, fun q => ?_, F.base.keep _ _ h3, h4, h5, h6⟩
  · obtain ⟨o, es, ep, e, hd, _⟩ := C.g
    rw [q, e] at h3; cases h3; rw [hd] at h6; cases h6
  · have := C.notab 197 (by rw [hT]; simp)
    rw [q, this] at h3; cases h3

theorem tabOk_snoc {ps : Array Value} {h' : Heap} {pos : Pos} {c' : Addr} (r1 : TriplesOk ps.toList) (r2 : ∀ p cv, p.line = 183 → p.col = 4 → codeAmong p ps.toList = some cv → ∃ c', cv = .ref c' ∧ CodeAt h' c')
    (hP : h'.get? 197 = some (tabObj (ps ++ #[rawInt pos.line, rawInt pos.col, .ref c']))) (hn : pos.line = 183 → pos.col = 4 → CodeAt h' c') : TabOk 197 h' := by
  have hl : (ps ++ #[rawInt pos.line, rawInt pos.col, Value.ref c']).toList = ps.toList ++ [rawInt pos.line, rawInt pos.col, .ref c'] := by simp
  refine ⟨_, hP, by rw [hl]; exact TriplesOk_snoc _ _ _ _ r1, fun p cv h1 h2 h3 => ?_⟩
  rw [hl, codeAmong_app _ _ r1] at h3
  cases hc : codeAmong p ps.toList with
  | some cv' =>
    rw [hc] at h3; cases h3
    exact r2 p _ h1 h2 hc
  | none =>
    rw [hc] at h3
    simp only [Option.none_or, rawInt, codeAmong] at h3
    split at h3
    · rename_i hq
      cases h3
      rw [h1, h2] at hq
      simp at hq
      exact ⟨c', rfl, hn (by omega) (by omega)⟩
    · cases h3

theorem mkLambda (H : Prog C) (hT : C.T = [197]) (F : FR C s₀ env O₀ own ρ s) (hcode : env.code = .ref 201) {body : Expr} {scope : Scope} {params : Arguments} {qual : Str} {pos : Pos} {fl : Nat} {clos : List (Str × Addr)} (hpos : pos.line ≠ 183) (hcl : closureFor scope env = pure clos)
    (h : ∀ f fd s', KS C.T s s' → s.heap.get? f = none → s'.heap.get? f = some { cls := .type "function", data := .func fd } → Q (.ref f) s') : wpAny (model C.prog C.w) A (makeFunction "<lambda>" qual params (.expr body) scope env [] [] [] pos fl) Q E s := by
  have hg : s.heap.Ns mainGlobals C.mg := C.g.keeps F.base.keep
  have hb := F.bAt H hT
  have hC : CodeHd s.heap 201 197 := H.code.keeps F.base.keep
  obtain ⟨ps, e, r1, r2⟩ := F.base.grown 197 (by rw [hT]; simp)
  cases hf : codeAmong pos ps.toList with
  | some cv =>
    refine kla_makeFunctionHit hcl F.glob hg hcode hC e r1 hf hb fun ctv h' tk hk hsz => ?_
    refine h _ _ _ (KS.of fun b o q => Heap.get?_push_of_some _ (hk b o q)) ?_ (Heap.get?_push_size _ rfl)
    exact Heap.get?_none_of_le hsz
  | none =>
    refine kla_makeFunction hcl F.glob hg hcode hC e r1 hf (fun q => ?_) hb fun c' ctv h' tk hx hge hlt hrec hP => ?_
    · exact absurd q (by decide)
    · have ks : ∀ b o, b ≠ 197 → s.heap.get? b = some o → (h'.push (kla_obj "<lambda>" qual params body scope clos ((C.mg "__name__").getD .none) c' ctv)).get? b = some o := fun b o hb q => Heap.get?_push_of_some _ (hx b o hb q)
      refine h _ _ _ ⟨⟨_, _, rfl⟩, fun b o hb q => ks b o (fun z => hb (by rw [hT, z]; simp)) q, fun t ht _ => ?_⟩ (Heap.get?_none_of_le (Nat.le_trans hge (Nat.le_of_lt hlt))) (Heap.get?_push_size _ rfl)
      rw [hT] at ht
      obtain rfl : t = 197 := by simpa using ht
      refine tabOk_snoc (pos := pos) r1 (fun p cv h1 h2 h3 => ?_) (Heap.get?_push_of_some _ hP) fun q => absurd q hpos
      obtain ⟨c'', rfl, o, vs, t, e1, e2, e3⟩ := r2 p cv h1 h2 h3
      refine ⟨c'', rfl, o, vs, t, ks _ _ (fun z => ?_) e1, e2, e3⟩
      exact code_nt F.base.grown (c := c'') ⟨o, vs, t, e1, e2, e3⟩ (by rw [hT, z]; simp)

theorem mkReader (H : Prog C) (hT : C.T = [197]) (F : FR C s₀ env O₀ own ρ s) (hcode : env.code = .ref 201) {body : List Stmt} {scope : Scope} {params : Arguments} {pos : Pos} {fl : Nat} {clos : List (Str × Addr)} (hpos : pos.line = 183) (hpos2 : pos.col = 4) (hcl : closureFor scope env = pure clos)
    (h : ∀ r c' ctv doc pm s', KS C.T s s' → s.heap.get? r = none → s'.heap.get? r = some (fnMade "_law_read" readQ params body scope clos doc pm c' ctv) → CodeAt s'.heap c' → Q (.ref r) s') : wpAny (model C.prog C.w) A (makeFunction "_law_read" readQ params (.stmts body) scope env [] [] [] pos fl) Q E s := by
  have hg : s.heap.Ns mainGlobals C.mg := C.g.keeps F.base.keep
  have hb := F.bAt H hT
  have hC : CodeHd s.heap 201 197 := H.code.keeps F.base.keep
  obtain ⟨ps, e, r1, r2⟩ := F.base.grown 197 (by rw [hT]; simp)
  cases hf : codeAmong pos ps.toList with
  | some cv =>
    obtain ⟨c', rfl, hca⟩ := r2 pos cv hpos hpos2 hf
    refine makeFunction_hit hcl F.glob hg hcode hC e r1 hf hb fun ctv doc h' tk hk hsz => ?_
    refine h _ c' ctv doc _ _ (KS.of fun b o q => Heap.get?_push_of_some _ (hk b o q)) (Heap.get?_none_of_le hsz) (Heap.get?_push_size _ rfl) ?_
    obtain ⟨o, vs, t, e1, e2, e3⟩ := hca
    exact ⟨o, vs, t, Heap.get?_push_of_some _ (hk _ _ e1), e2, e3⟩
  | none =>
    refine makeFunction_K hcl F.glob hg hcode hC e r1 hf (fun q => ?_) hb fun c' ctv doc h' tk hx hge hlt hrec hP => ?_
    · exact absurd q (by decide)
    · have ks : ∀ b o, b ≠ 197 → s.heap.get? b = some o → (h'.push (fnMade "_law_read" readQ params body scope clos doc ((C.mg "__name__").getD .none) c' ctv)).get? b = some o := fun b o hb q => Heap.get?_push_of_some _ (hx b o hb q)
      have hca : CodeAt (h'.push (fnMade "_law_read" readQ params body scope clos doc ((C.mg "__name__").getD .none) c' ctv)) c' := by
        obtain ⟨c₂, o, vs, t, q1, q2, q3, q4⟩ := hrec
        cases q1
        exact ⟨o, vs, t, Heap.get?_push_of_some _ q2, q3, q4⟩
      refine h _ c' ctv doc _ _ ⟨⟨_, _, rfl⟩, fun b o hb q => ks b o (fun z => hb (by rw [hT, z]; simp)) q, fun t ht _ => ?_⟩ (Heap.get?_none_of_le (Nat.le_trans hge (Nat.le_of_lt hlt))) (Heap.get?_push_size _ rfl) hca
      rw [hT] at ht
      obtain rfl : t = 197 := by simpa using ht
      refine tabOk_snoc (pos := pos) r1 (fun p cv h1 h2 h3 => ?_) (Heap.get?_push_of_some _ hP) fun _ _ => hca
      obtain ⟨c'', rfl, o, vs, t, e1, e2, e3⟩ := r2 p cv h1 h2 h3
      refine ⟨c'', rfl, o, vs, t, ks _ _ (fun z => ?_) e1, e2, e3⟩
      exact code_nt F.base.grown (c := c'') ⟨o, vs, t, e1, e2, e3⟩ (by rw [hT, z]; simp)
end
end

section
section
variable {C : Ctx} {l : Nat} {A : Around} {s : Shared} {Q : Value → Shared → Prop} {E : Value → Shared → Prop}
theorem vObj {h : Heap} {O : List Addr} {a : Addr} {v : Value} (x : VVR h O (.obj a, false) v) : v = .ref a := x
set_option maxHeartbeats 1000000 in
theorem c_stream (H : Prog C) (hT : C.T = [197]) {tape : List UInt8} {t : Tok} (R : Room (l + 1) A) (B : Base C s.heap)
    (h : ∀ (S : Strm) s', KS C.T s s' → S.At tape s'.heap → (∃ u, PlL s'.heap S.L #[.int 0 u]) → s.heap.get? S.L = none → s.heap.get? S.D = none → Q (.ref S.f) s') :
    wpAny (model C.prog C.w) A (call (.ref 202) [.bytes tape.toArray t]) Q E s := by
  have hG : C.G.get? 197 = none := C.notab 197 (by rw [hT]; simp)
  refine enterH (C := C) (l := l) (names := ["octets"]) (ds := [.bytes tape]) (O₀ := []) (own := []) [197] (by rw [hT]; simp) (by simpa using hG) (fun p hp => nomatch hp) (fun a ha => nomatch ha) List.Pairwise.nil
    (defAt H (a := 202) k_law_stream (by decide +kernel) cd_law_stream) R B (fun a ha => nomatch ha) ?_ (fun | [v], _ => rfl) rfl (by decide +kernel) (by decide +kernel) fun s₁ F k₁ => ?_
  · simp only [VRs, VR]; exact ⟨_, _, rfl, ⟨t, rfl⟩, rfl⟩
  have R' := R.deeper (callEnvC (fdAt 202) s.heap.objs.size 202)
  have hcode : (callEnvC (fdAt 202) s.heap.objs.size 202).code = .ref 201 := by
    show (fdAt 202).code = .ref 201
    kernel_rfl
  generalize henv : callEnvC (fdAt 202) s.heap.objs.size 202 = env at *
  have hsc : env.scope = (fdAt 202).scope := by rw [← henv]; rfl
  have hloc : env.locals = s.heap.objs.size := by rw [← henv]; rfl
  have notCell : ∀ {ρ : Rho} {own : List (Str × Addr)} {s' : Shared}, FR C { s with heap := hideAll s.heap [197] } env [] own ρ s' → ∀ {b : Addr} {o : Obj}, s'.heap.get? b = some o → (∀ v, o.data ≠ .cell v) → ∀ n c, env.cells.lookup n = some c → b ≠ c := fun {ρ own s'} F {b o} e hd n c hc q => by
    obtain ⟨m, cm, X, _⟩ := F.call
    obtain ⟨o', e', d'⟩ := X.cell n c hc
    rw [← q, e] at e'; cases e'; exact hd _ d'
  have notLoc : ∀ {ρ : Rho} {own : List (Str × Addr)} {s' : Shared}, FR C { s with heap := hideAll s.heap [197] } env [] own ρ s' → ∀ {b : Addr} {o : Obj}, s'.heap.get? b = some o → (∀ es ep, o.data ≠ .dict es ep) → b ≠ env.locals := fun {ρ own s'} F {b o} e hd q => by
    obtain ⟨m, cm, X, _⟩ := F.call
    obtain ⟨o', es, ep, e', d', _⟩ := X.toInCall.ns
    rw [← q, e] at e'; cases e'; exact hd _ _ d'
  have keepF : ∀ {ρ : Rho} {own own' : List (Str × Addr)} {s' s'' : Shared}, FR C { s with heap := hideAll s.heap [197] } env [] own ρ s' → Go C env own own' s' s'' → ∀ {b : Addr} {o : Obj} {fd : FuncData}, s'.heap.get? b = some o → o.data = .func fd → s''.heap.get? b = some o := fun {ρ own own' s' s''} F g {b o fd} e hd =>
    F.still g e (func_nt F.base.grown e hd) (notLoc F e (fun es ep q => by rw [hd] at q; cases q)) (notCell F e (fun v q => by rw [hd] at q; cases q)) (fun its n q => by rw [hd] at q; cases q)
  -- the stream's object
  refine wpAny_execs_cons (wpAny_Assign_Name (kla_eval rfl (mkLambda H hT F hcode (by decide) rfl fun f fd s₂ k₂ hnf hf => ?_)) rfl)
  have hfv : VR s₂.heap (ownO [] []) (.obj f) (.ref f) := by simp only [VR]
  refine (F.ks k₂).store (.inl (by rw [Env.kindOf, hsc]; decide +kernel)) hfv fun s₃ F₃ g₃ gr₃ => ?_
  have hf₃ := keepF (F.ks k₂) g₃ hf rfl
  have G₃ := (Go.ks (env := env) (own := []) k₂).trans g₃ (k₂.grows F.base.grown)
  have GR₃ := (k₂.grows F.base.grown).trans gr₃
  -- the place
  refine K.assignNew (sc := (fdAt 202).scope) F₃ R' hsc (xs := [.int 0]) (EvNew.display (ds := [.int 0]) (EvA.cons Ev.const_int EvA.nil (by intro _; rfl)) (by rw [sizeLine_eq]; decide)) (fun L s₄ hnL F₄ g₄ gr₄ => ?_) (by decide +kernel) (by intro _ _; rfl)
  have hf₄ := keepF F₃ g₄ hf₃ rfl
  have G₄ := G₃.trans g₄ GR₃
  have GR₄ := GR₃.trans gr₄
  -- the reader
  have hfree : ∀ y ∈ rdScope.names, y.2 = .free → (fdAt 202).scope.names.lookup y.1 = some .cell := by decide +kernel
  obtain ⟨cl, hcl, hcl1, hcl2⟩ := closureFor_ok (scope := rdScope) (env := env) fun y hy hq => F₄.cells y.1 (by rw [Env.kindOf, hsc]; exact hfree y hy hq)
  have hq : qualnameIn env "_law_read" "_law_read" = readQ := by
    rw [← henv]
    show qualnameIn (newEnv _ _ _ _ _ _ _ _ _) "_law_read" "_law_read" = readQ
    kernel_rfl
  obtain ⟨cAt, hcAt⟩ := Option.isSome_iff_exists.mp (F₄.cells "at" (by rw [Env.kindOf, hsc]; decide +kernel))
  obtain ⟨cOct, hcOct⟩ := Option.isSome_iff_exists.mp (F₄.cells "octets" (by rw [Env.kindOf, hsc]; decide +kernel))
  refine wpAny_execs_cons (nestDef_K rfl rfl rfl ?_)
  rw [hq]
  refine mkReader H hT F₄ hcode (by decide) (by decide) hcl fun r c' ctv doc pm s₅ k₅ hnr hr hca => ?_
  have hrv : VR s₅.heap (ownO [("at", L)] []) (.obj r) (.ref r) := by simp only [VR]
  refine (F₄.ks k₅).store (.inl (by rw [Env.kindOf, hsc]; decide +kernel)) hrv fun s₆ F₆ g₆ gr₆ => ?_
  have hf₅ : s₅.heap.get? f = some { cls := .type "function", data := .func fd } := k₅.keep f _ (func_nt F₄.base.grown hf₄ rfl) hf₄
  have hf₆ := keepF (F₄.ks k₅) g₆ hf₅ rfl
  have hr₆ := keepF (F₄.ks k₅) g₆ hr rfl
  have hrf : r ≠ f := fun q => by rw [q, hf₄] at hnr; cases hnr
  have hca₆ : CodeAt s₆.heap c' := by
    obtain ⟨o, vs, tk, e, d, v⟩ := id hca
    exact ⟨o, vs, tk, (F₄.ks k₅).still g₆ e (code_nt (F₄.ks k₅).base.grown hca) (notLoc (F₄.ks k₅) e (fun es ep q => by rw [d] at q; cases q)) (notCell (F₄.ks k₅) e (fun v q => by rw [d] at q; cases q)) (fun its n q => by rw [d] at q; cases q), d, v⟩
  have GR₆ := (GR₄.trans (k₅.grows F₄.base.grown)).trans gr₆
  show wpAny _ _ (execs (_ :: _) env) _ _ s₆
  refine wpAny_execs_cons (plainObj_wpAny_Assign_Attribute ?_ rfl)
  refine Ev.name (l := l) (sc := (fdAt 202).scope) (d := (.obj r, false)) look_here (by decide +kernel) (by decide +kernel) R' hsc F₆.er fun v s₇ k₇ r₇ => ?_
  cases vObj r₇
  have F₇ := F₆.ks k₇
  refine Ev.name (l := l) (sc := (fdAt 202).scope) (d := (.obj f, false)) (look_there (by decide +kernel) (look_there (by decide +kernel) look_here)) (by decide +kernel) (by decide +kernel) R' hsc F₇.er fun v s₈ k₈ r₈ => ?_
  cases vObj r₈
  have F₈ := F₇.ks k₈
  have k₇₈ := k₇.trans k₈
  have hf₈ : s₈.heap.get? f = some { cls := .type "function", data := .func fd } := k₇₈.keep f _ (func_nt F₆.base.grown hf₆ rfl) hf₆
  have GR₈ := GR₆.trans (k₇₈.grows F₆.base.grown)
  refine setAttr_fn hf₈ lk_fn_read fun h' tk' h1 h2 h3 => ?_
  have h₀f : ({ s with heap := hideAll s.heap [197] } : Shared).heap.get? f = none := by
    obtain ⟨m, cm, X, _⟩ := F.call
    cases e : ({ s with heap := hideAll s.heap [197] } : Shared).heap.get? f with
    | none => rfl
    | some o => have := X.toInCall.keep f o e; rw [hnf] at this; cases this
  obtain ⟨F₉, gr₉⟩ := F₈.fnSet (tk := tk') hf₈ rfl h1 h₀f h3
  show wpAny _ _ (execs (_ :: _) env) _ _ _
  refine K.ret (sc := (fdAt 202).scope) F₉ R' hsc (Ev.name (l := l) (d := (.obj f, false)) (look_there (by decide +kernel) (look_there (by decide +kernel) look_here)) (by decide +kernel) (by decide +kernel)) fun v s' F' k' r' => ?_
  obtain rfl : v = .ref f := by simpa only [VR] using r'
  obtain ⟨L', items, hL', hpL, hvL, hld⟩ := F'.ownAt (x := "at") (xs := [.int 0]) (look_there (by decide +kernel) look_here)
  obtain rfl : L' = L := by
    have h1 := (mem_dropOwn.mp hL').1
    rcases List.mem_cons.mp h1 with q | q
    · cases q; rfl
    · cases (mem_dropOwn.mp q).1
  obtain ⟨u, rfl⟩ : ∃ u, items = #[.int 0 u] := by
    simp only [VRs, VR] at hvL
    obtain ⟨v, r, e, ⟨u, rfl⟩, rfl⟩ := hvL
    exact ⟨u, Array.toList_inj.mp e⟩
  have hcA : s'.heap.IsCell cAt (some (.ref L')) := by
    rcases hld with ⟨hk, _⟩ | ⟨_, c, hc, hic⟩
    · rw [Env.kindOf, hsc] at hk
      exact absurd hk (by decide +kernel)
    · rw [hcAt] at hc; cases hc; exact hic
  obtain ⟨vo, hlo, hvo⟩ := F'.er.vars "octets" (.bytes tape, false) (look_there (by decide +kernel) (look_there (by decide +kernel) (look_there (by decide +kernel) look_here)))
  obtain ⟨tO, rfl⟩ := vBytes hvo
  have hcO : s'.heap.IsCell cOct (some (.bytes tape.toArray tO)) := by
    rcases hlo with ⟨hk, _⟩ | ⟨_, c, hc, hic⟩
    · rw [Env.kindOf, hsc] at hk
      exact absurd hk (by decide +kernel)
    · rw [hcOct] at hc; cases hc; exact hic
  have g₉ := F₉.base.grown
  have up : ∀ {b : Addr} {o : Obj}, b ∉ C.T → b ≠ f → s₆.heap.get? b = some o → s'.heap.get? b = some o := fun {b o} hb hbf e => k'.keep b o hb (h3 b o hbf (k₇₈.keep b o hb e))
  have hf' := k'.keep f _ (func_nt g₉ h1 rfl) h1
  have hr' := up (func_nt F₆.base.grown hr₆ rfl) hrf hr₆
  have hca' : CodeAt s'.heap c' := by
    obtain ⟨o, vs, tk, e, d, v⟩ := id hca₆
    exact ⟨o, vs, tk, up (code_nt F₆.base.grown hca₆) (fun q => by rw [q, hf₆] at e; cases e; cases d) e, d, v⟩
  have hD' : s'.heap.Ns s₈.heap.objs.size (fun y => if y = Str.ofString "read" then some (.ref r) else none) := h2.at' fun o e => k'.keep _ o (nt_ns g₉ h2) e
  have fresh : ∀ b, s₁.heap.get? b = none → s.heap.get? b = none := fun b hb => by
    cases e : s.heap.get? b with
    | none => rfl
    | some o => have := k₁.keep b o (by simp) e; rw [hb] at this; cases this
  have hclA : cl.lookup (Str.ofString "at") = some cAt := (hcl2 ("at", .free) (by decide +kernel) rfl).trans hcAt
  have hclO : cl.lookup (Str.ofString "octets") = some cOct := (hcl2 ("octets", .free) (by decide +kernel) rfl).trans hcOct
  refine h ⟨f, s₈.heap.objs.size, r, cAt, cOct, L', c', cl, doc, pm, ctv, fd, #[]⟩ s' ?_ ⟨hf', hD', hr', hca', hclA, hclO, hcA, tO, hcO⟩ ⟨u, hpL⟩ ?_ ?_
  · obtain ⟨m, cm, X', _⟩ := F'.call
    obtain ⟨hp, tk, rfl, keep⟩ := X'.done
    refine ⟨⟨_, _, rfl⟩, fun b o hb e => keep b o (hideAll_get _ e (by rw [← hT]; exact hb)), fun t ht _ => F'.base.grown t ht⟩
  · exact fresh _ (GR₃ _ hnL)
  · exact fresh _ (GR₈ _ (get?_new _))
end
end

section
local macro_rules | `(tactic| walk_at "ir") => `(tactic| all_goals (try (intros; rfl)))
local macro_rules | `(tactic| walk_at "dk") => `(tactic| all_goals (try decide +kernel))
local macro_rules | `(tactic| walk_at "id") => `(tactic| all_goals (try (first | decide +kernel | (intros; rfl))))
local macro_rules | `(tactic| walk_at "bootv") => `(tactic| (refine boot_any ?_; repeat (first | (with_reducible exact List.mem_cons_self) | (with_reducible refine List.mem_cons_of_mem _ ?_))))
local macro_rules | `(tactic| walk_at "nonev") => `(tactic| (exact none_of (by decide +kernel)))
local macro_rules | `(tactic| walk_at "globv") => `(tactic| (refine glob_any ?_; repeat (first | (with_reducible exact List.mem_cons_self) | (with_reducible refine List.mem_cons_of_mem _ ?_))))
local macro_rules | `(tactic| walk_at "fdv") => `(tactic| (exact fd_any _ (by decide) _))
local macro_rules | `(tactic| walk_at "look") => `(tactic| first | (with_reducible exact look_here) | ((with_reducible refine' look_eq ?h); (case h => first | rfl | (simp only [List.map_append, List.map_cons, List.map_nil, List.nil_append, List.append_assoc, List.cons_append]; done) | (simp; done))) | ((with_reducible refine' look_there ?h1 ?h2); (case h1 => decide +kernel); (case h2 => walk_at "look")))
local macro_rules | `(tactic| walk_at "szl") => `(tactic| first | (simp only [List.length_append, List.length_map, List.length_cons, List.length_nil, sizeLine_eq]; omega) | (simp [sizeLine_eq]; omega) | (rw [sizeLine_eq]; omega) | omega)
local macro_rules | `(tactic| walk_at "cov") => `(tactic| first | (with_reducible exact Cov.nil) | ((with_reducible refine' Cov.cons ?h1 ?h2); (case h1 => walk_at "look"); (case h2 => walk_at "cov")))
local macro_rules | `(tactic| walk_at "small") => `(tactic| first | (rw [sizeLine_eq]; decide) | (simp only [List.length_cons, List.length_nil]; rw [sizeLine_eq]; omega) | assumption | (rw [sizeLine_eq] at *; simp at *; omega))
local macro_rules | `(tactic| walk_at "glob") => `(tactic| ((with_reducible refine' EvN.glob ?h0 ?_ ?h2 ?_); (case h2 => walk_at "globv"); (case h0 => assumption); walk_at "dk"))
local macro_rules | `(tactic| walk_at "boot") => `(tactic| ((with_reducible refine' EvN.boot ?h0 ?_ ?h2 ?h3 ?_ ?_); (case h3 => walk_at "bootv"); (case h2 => walk_at "nonev"); (case h0 => assumption); walk_at "dk"))
local macro_rules | `(tactic| walk_at "side") => `(tactic| first | (with_reducible assumption) | decide | omega | (rw [sizeLine_eq]; omega) | decide +kernel)
local macro_rules | `(tactic| walk_at "sides") => `(tactic| all_goals (walk_at "side"))
local macro_rules | `(tactic| walk_at "op") => `(tactic| first
  | (with_reducible exact op_add _ _) | (with_reducible exact op_sub _ _) | (with_reducible exact op_and _ _) | (with_reducible exact op_iand _ _) | (with_reducible exact op_eq_int _ _) | (with_reducible exact op_ge_int _ _) | (with_reducible exact op_ne_str _ _) | (with_reducible exact op_neg _)
  | ((with_reducible refine' op_add_str _ _ ?h); (case h => walk_at "side")) | ((with_reducible refine' op_iadd_str _ _ ?h); (case h => walk_at "side"))
  | ((with_reducible refine' op_mod _ _ ?_ ?_); walk_at "sides") | ((with_reducible refine' op_fdiv _ _ ?_ ?_); walk_at "sides")
  | ((with_reducible refine' op_pow _ _ ?_ ?_); walk_at "sides")
  | ((with_reducible refine' op_mul_str _ _ ?h); (case h => walk_at "side")) | ((with_reducible refine' op_mul _ _ ?_ ?_); walk_at "sides"))
local macro_rules | `(tactic| walk_at "truth") => `(tactic| first | (with_reducible exact tr_bool _) | ((with_reducible refine' tr_str _ ?h); (case h => walk_at "side")) | ((with_reducible refine' tr_list _ _ ?h); (case h => walk_at "side")) | ((with_reducible refine' tr_tuple _ ?h); (case h => walk_at "side")))
local macro_rules | `(tactic| walk_at "prim") => `(tactic| first
  | (with_reducible exact op_type_str _) | (with_reducible exact op_isbytes_str _) | (with_reducible exact op_issubclass_str _) | (with_reducible exact op_ord _)
  | ((with_reducible refine' op_len_list _ _ ?h); (case h => walk_at "side")) | ((with_reducible refine' op_len_str _ ?h); (case h => walk_at "side")))
local macro_rules | `(tactic| walk_at "args") => `(tactic| first | (with_reducible exact EvA.nil) | ((with_reducible refine' EvA.cons ?h1 ?h2 ?h3); (case h1 => walk_at "ev"); (case h2 => walk_at "args"); (case h3 => intro _; rfl)))
local macro_rules | `(tactic| walk_at "argl") => `(tactic| first | (with_reducible exact EvL.nil) | ((with_reducible refine' EvL.cons ?h1 ?h2 ?h3); (case h1 => walk_at "ev"); (case h2 => walk_at "argl"); (case h3 => intro _; rfl)))
local macro_rules | `(tactic| walk_at "part") => `(tactic| first | (with_reducible exact EvP.mkNone) | ((with_reducible refine' EvP.mkSome ?h); (case h => walk_at "ev")))
local macro_rules | `(tactic| walk_at "callee") => `(tactic| fail "no callee")
local macro_rules | `(tactic| walk_at "meth") => `(tactic| first
  | ((with_reducible refine' Ev.mStr PySem.F.slot_str_startswith PySem.F.type_str_startswith ?h1 ?ha ?hc ?_ ?_ ?_); (case h1 => walk_at "ev"); (case ha => walk_at "args"); (case hc => exact op_startswith _ _); walk_at "ir")
  | ((with_reducible refine' Ev.mStr PySem.F.slot_str_endswith PySem.F.type_str_endswith ?h1 ?ha ?hc ?_ ?_ ?_); (case h1 => walk_at "ev"); (case ha => walk_at "args"); (case hc => exact op_endswith _ _); walk_at "ir")
  | ((with_reducible refine' Ev.mStr PySem.F.slot_str_rfind PySem.F.type_str_rfind ?h1 ?ha ?hc ?_ ?_ ?_); (case h1 => walk_at "ev"); (case ha => walk_at "args"); (case hc => exact op_rfind _ _); walk_at "ir")
  | ((with_reducible refine' Ev.mStr PySem.F.slot_str_rstrip PySem.F.type_str_rstrip ?h1 ?ha ?hc ?_ ?_ ?_); (case h1 => walk_at "ev"); (case ha => walk_at "args"); (case hc => ((with_reducible refine' op_rstrip _ _ ?k1); (case k1 => walk_at "side"))); walk_at "ir"))
local macro_rules | `(tactic| walk_at "ev") => `(tactic| first
  | (with_reducible exact Ev.const_int) | (with_reducible exact Ev.const_str) | (with_reducible exact Ev.const_bool)
  | ((with_reducible refine' Ev.name ?h1 ?_ ?_); (case h1 => walk_at "look"); walk_at "dk")
  | ((with_reducible refine' Ev.bin ?h1 ?h2 ?h3); (case h1 => walk_at "ev"); (case h2 => walk_at "ev"); (case h3 => walk_at "op"))
  | ((with_reducible refine' Ev.unary ?h1 ?h2); (case h1 => walk_at "ev"); (case h2 => exact op_neg _))
  | ((with_reducible refine' Ev.sliceStr ?h1 ?h2 ?h3 ?h4); (case h1 => walk_at "ev"); (case h2 => walk_at "part"); (case h3 => walk_at "part"); (case h4 => walk_at "side"))
  | ((with_reducible refine' Ev.idxT ?h1 ?h2 ?h3 ?h4 ?h5); (case h1 => walk_at "ev"); (case h2 => walk_at "ev"); (case h3 => walk_at "side"); (case h4 => walk_at "side"); (case h5 => rfl))
  | ((with_reducible refine' Ev.idx ?h1 ?h2 ?h3 ?h4 ?h5); (case h1 => walk_at "ev"); (case h2 => walk_at "ev"); (case h3 => walk_at "side"); (case h4 => walk_at "side"); (case h5 => first | (with_reducible assumption) | rfl))
  | ((with_reducible refine' Ev.tup ?h1 ?h2); (case h1 => walk_at "argl"); (case h2 => walk_at "small"))
  | ((with_reducible refine' Ev.callD ?h0 ?hf ?h1 ?ha ?hc ?_ ?_); (case h0 => assumption); (case hf => walk_at "glob"); (case h1 => walk_at "fdv"); (case ha => walk_at "args"); (case hc => walk_at "callee"); walk_at "ir")
  | ((with_reducible refine' Ev.callBuiltin ?hf ?ha ?hc ?_ ?_ ?_); (case hf => walk_at "boot"); (case ha => walk_at "args"); (case hc => walk_at "prim"); walk_at "ir")
  | ((with_reducible refine' Ev.callType ?hf ?ha ?hc ?_ ?_ ?_); (case hf => walk_at "boot"); (case ha => walk_at "args"); (case hc => walk_at "prim"); walk_at "ir")
  | ((with_reducible refine' Ev.ofType ?h1); (case h1 => walk_at "boot"))
  | walk_at "meth"
  | ((with_reducible refine' EvNew.ev ?h1); (case h1 => walk_at "new"))
  | (exact Ev.const_int))
local macro_rules | `(tactic| walk_at "new") => `(tactic| first
  | ((with_reducible refine' EvNew.disp ?h1 ?h2); (case h1 => walk_at "argl"); (case h2 => walk_at "small"))
  | ((with_reducible refine' EvNew.addList ?h1 ?h2 ?h3); (case h1 => walk_at "ev"); (case h2 => walk_at "ev"); (case h3 => walk_at "szl"))
  | ((with_reducible refine' EvNew.slice ?h1 ?h2 ?h3 ?h4 ?h5 ?h6); (case h1 => walk_at "ev"); (case h2 => walk_at "part"); (case h3 => walk_at "part"); (case h4 => walk_at "part"); (case h5 => first | decide | (simp; done) | omega); (case h6 => walk_at "szl")))
local macro_rules | `(tactic| walk_at "tr") => `(tactic| first
  | (with_reducible exact Tr.and_nil) | (with_reducible exact Tr.or_nil)
  | ((with_reducible refine' Tr.cmp ?h1 ?h2 ?h3 ?h4); (case h1 => walk_at "ev"); (case h2 => walk_at "ev"); (case h3 => walk_at "op"); (case h4 => rfl))
  | ((with_reducible refine' Tr.not ?h1); (case h1 => walk_at "tr"))
  | ((with_reducible refine' Tr.and ?h1 ?h2); (case h1 => walk_at "tr"); (case h2 => intro _; walk_at "tr"))
  | ((with_reducible refine' Tr.or ?h1 ?h2); (case h1 => walk_at "tr"); (case h2 => intro _; walk_at "tr"))
  | ((with_reducible refine' Tr.plain ?h1 ?h2 ?h3); (case h1 => walk_at "ev"); (case h2 => walk_at "truth"); (case h3 => intro _; rfl)))
local macro_rules | `(tactic| walk_at "let") => `(tactic| ((refine' Xs.assign ?h1 ?h2 ?h3 ?h4); (case h1 => walk_at "ev"); (case h3 => decide +kernel); (case h4 => intro _ _; rfl)))
local macro_rules | `(tactic| walk_at "ret") => `(tactic| ((refine' Xs.ret ?h1 ?h2); (case h1 => walk_at "ev")))

local macro_rules | `(tactic| walk_at "app") => `(tactic| ((refine' Xs.append (hx := ?hx) (hd := ?hd) (hsz := ?hsz) (hi := ?hi) (hn := ?hn) (he := ?he) ?hl ?h ?k); (case hl => walk_at "look"); (case h => walk_at "ev"); (case hx => decide +kernel); (case hd => decide +kernel); (case hsz => walk_at "szl"); (case hi => intro _ _; rfl); (case hn => intro _; rfl); (case he => intro _; rfl)))
local macro_rules | `(tactic| walk_at "ext") => `(tactic| ((refine' Xs.extend (hx := ?hx) (hsz := ?hsz) ?hl ?h ?k); (case hl => walk_at "look"); (case h => walk_at "ev"); (case hx => decide +kernel); (case hsz => walk_at "szl")))
local macro_rules | `(tactic| walk_at "tgtl") => `(tactic| first | (with_reducible exact TgtL.nil) | ((with_reducible refine' TgtL.cons ?h1 ?h2 ?h3); (case h1 => walk_at "tgt"); (case h2 => walk_at "tgtl"); (case h3 => intro _; rfl)))
local macro_rules | `(tactic| walk_at "tgt") => `(tactic| first | ((with_reducible refine' Tgt.name ?h); (case h => decide +kernel)) | ((with_reducible refine' Tgt.tuple ?h1 ?_ ?_); (case h1 => walk_at "tgtl"); walk_at "ir") | ((with_reducible refine' Tgt.list ?h1 ?_ ?_); (case h1 => walk_at "tgtl"); walk_at "ir"))
local macro_rules | `(tactic| walk_at "lets") => `(tactic| ((refine' Xs.assignTgt ?h1 ?h2 ?h3 ?h4); (case h1 => walk_at "ev"); (case h2 => walk_at "tgt"); (case h4 => intro _ _; rfl)))
local macro_rules | `(tactic| walk_at "iter") => `(tactic| first
  | ((with_reducible refine' EvI.range1 ?h1 ?h2 ?h3 ?h4 ?_ ?_); (case h1 => walk_at "boot"); (case h2 => walk_at "args"); (case h3 => walk_at "side"); (case h4 => walk_at "side"); walk_at "ir")
  | ((with_reducible refine' EvI.range2 ?h1 ?h2 ?h3 ?h4 ?h5 ?h6 ?_ ?_ ?_); (case h1 => walk_at "boot"); (case h2 => walk_at "args"); (case h3 => walk_at "side"); (case h4 => walk_at "side"); (case h5 => walk_at "side"); (case h6 => walk_at "side"); walk_at "ir")
  | ((with_reducible refine' EvI.list ?h1); (case h1 => walk_at "ev"))
  | ((with_reducible refine' EvI.tuple ?h1); (case h1 => walk_at "ev"))
  | ((with_reducible refine' EvI.str ?h1); (case h1 => walk_at "ev")))
local macro_rules | `(tactic| walk_at "iterw") => `(tactic| first
  | ((with_reducible refine' EvW.ofI ?h1); (case h1 => walk_at "iter"))
  | ((with_reducible refine' EvW.list ?h1); (case h1 => walk_at "ev"))
  | ((with_reducible refine' EvW.tuple ?h1); (case h1 => walk_at "ev")))
local macro_rules | `(tactic| walk_at "letn") => `(tactic| ((refine' Xs.assignNew ?h1 ?h2 ?h3 ?h4); (case h1 => walk_at "new"); (case h3 => decide +kernel); (case h4 => intro _ _; rfl)))
local macro_rules | `(tactic| walk_at "caught") => `(tactic| first | exact True.intro | (refine' And.intro ?h1 (And.intro ?h2 (And.intro ?h3 ?h4)); (case h1 => walk_at "look"); (case h2 => decide +kernel); (case h3 => decide +kernel); (case h4 => walk_at "caught")))
local macro_rules | `(tactic| walk_at "iterw") => `(tactic| first
  | ((with_reducible refine' EvW.enumL ?h1 ?h2 ?_ ?_); (case h1 => walk_at "boot"); (case h2 => walk_at "args"); walk_at "ir")
  | ((with_reducible refine' EvW.enumT ?h1 ?h2 ?_ ?_); (case h1 => walk_at "boot"); (case h2 => walk_at "args"); walk_at "ir"))
local macro_rules | `(tactic| walk_at "meth") => `(tactic| ((with_reducible refine' Ev.mStr PySem.F.slot_str_join PySem.F.type_str_join ?h1 ?ha ?hc ?_ ?_ ?_); (case h1 => walk_at "ev"); (case ha => walk_at "args"); (case hc => ((with_reducible refine' op_join _ _ _ ?k1); (case k1 => with_reducible assumption))); walk_at "ir"))
section
section
variable {C : Ctx} (H : Prog C) (hT : C.T = [])
include H hT
theorem c_getsep (x : Str) : Calls C 1 (.ref 108) [(.str x, false)] (.str "/", false) := by
  refine callOf H hT (a := 108) ["path"] (ds := [.str x]) [("path", (.str x, false))] k_get_sep cd_get_sep ?_ (fun
    | [v], _ => rfl)
  refine' Xs.if (b := false) ?a1 ?a2 ?a3
  case a1 => walk_at "tr"
  case a2 => intro h; cases h
  case a3 =>
    intro _
    walk_at "ret"
    rfl
theorem c_fspath (x : Str) : Calls C 1 (.ref 94) [(.str x, false)] (.str x, false) := by
  refine callOf H hT (a := 94) ["path"] (ds := [.str x]) [("path", (.str x, false))] k_fspath cd_fspath ?_ (fun
    | [v], _ => rfl)
  walk_at "let"
  refine' Xs.if (b := true) ?a1 ?a2 ?a3
  case a1 => walk_at "tr"
  case a2 =>
    intro _
    walk_at "ret"
    rfl
  case a3 => intro h; cases h
end
end

local macro_rules | `(tactic| walk_at "callee") => `(tactic| (exact Calls.mono (c_getsep (by assumption) (by assumption) _) (by omega)))
local macro_rules | `(tactic| walk_at "callee") => `(tactic| (exact Calls.mono (c_fspath (by assumption) (by assumption) _) (by omega)))
section
theorem sl_of {n : Nat} (h : n ≤ 1000) : n ≤ sizeLine := by rw [sizeLine_eq]; omega

noncomputable abbrev dirHead (x : Str) : Str := Txt.slice x none (some (Txt.rfind x "/" + 1))
noncomputable def dirnameF (x : Str) : Str := if (decide ((dirHead x).length ≠ 0) && (dirHead x != Txt.mul "/" ((dirHead x).length) && true)) = true then Txt.rstripChars (dirHead x) "/" else dirHead x

theorem mulOk_sep (n : Nat) (h : n ≤ 1000) : MulOk "/" (n : Int) := by
  have h1 : (Str.ofString "/").length = 1 := by decide +kernel
  refine ⟨by simp; omega, fun hn _ => ?_, fun _ _ => ?_⟩
  · rw [h1]
    have : (1 : Int) ≤ (2 ^ 63 - 1) / (n : Int) := Int.le_ediv_of_mul_le (by omega) (by omega)
    exact Int.not_lt.mpr this
  · rw [h1]; unfold Builtin.Str.tooLong
    have : sizeLine = 16777216 := sizeLine_eq
    simp; omega

section
variable {C : Ctx} (H : Prog C) (hT : C.T = [])
include H hT
theorem c_dirname (x : Str) (hx : x.length ≤ 1000) : Calls C 2 (.ref 122) [(.str x, false)] (.str (dirnameF x), false) := by
  have hx' := sl_of hx
  have hh : (dirHead x).length ≤ 1000 := Nat.le_trans (PyProof.Txt.length_slice_le _ _ _) hx
  have hh' := sl_of hh
  have hm := mulOk_sep _ hh
  refine callOf H hT (a := 122) ["p"] (ds := [.str x]) [("p", (.str x, false))] k_dirname cd_dirname ?_ (fun
    | [v], _ => rfl)
  walk_at "let"
  walk_at "let"
  walk_at "let"
  walk_at "let"
  refine' Xs.if ?a1 ?a2 ?a3
  case a1 => walk_at "tr"
  case a2 =>
    intro hb
    walk_at "let"
    refine Xs.nil ?_
    walk_at "ret"
    exact congrArg (fun y => Out.ret (.str y)) (if_pos hb).symm
  case a3 =>
    intro hb
    refine Xs.nil ?_
    walk_at "ret"
    exact congrArg (fun y => Out.ret (.str y)) (if_neg (Bool.eq_false_iff.mp hb)).symm
end
end

local macro_rules | `(tactic| walk_at "callee") => `(tactic| (exact Calls.mono (c_dirname (by assumption) (by assumption) _ (by assumption)) (by omega)))
section
/-- the ways up, behind the place itself -/
inductive Climb : Str → List Str → Prop
  | top : Climb "/" []
  | up {x : Str} {r : List Str} (hx : (x != "/") = true) (hl : x.length ≤ 1000) (hr : Climb (dirnameF x) r) : Climb x (dirnameF x :: r)

section
variable {C : Ctx} (H : Prog C) (hT : C.T = [])
include H hT
theorem c_climb {x : Str} {r : List Str} (hc : Climb x r) (hlen : r.length ≤ 100) : Calls C 3 (.ref 242) [(.str x, false)] (.list ((x :: r).map .str), false) := by
  refine callOf H hT (a := 242) ["way"] (ds := [.str x]) [("way", (.str x, false))] k_law_climb cd_law_climb ?_ (fun
    | [v], _ => rfl)
  refine' Xs.assignNew (xs := [.str x]) ?a1 ?a2
  case a1 =>
    refine' EvNew.disp ?b1 ?b2
    case b1 => walk_at "argl"
    case b2 => walk_at "small"
  refine Xs.whileS (fun (b : List Str × Str × List Str) => [("climbed", (.list ((b.1 ++ [b.2.1]).map V.str), true)), ("way", (.str b.2.1, false))]) (fun b => b.2.2.length) (fun b => Climb b.2.1 b.2.2 ∧ b.1.length + b.2.2.length ≤ 100 ∧ b.1 ++ b.2.1 :: b.2.2 = x :: r) ([], x, r) ?_ ?_ ?_
  · exact Cov.cons rfl (Cov.cons rfl Cov.nil)
  · exact ⟨hc, by simpa using hlen, rfl⟩
  · rintro ⟨done, y, q⟩ ⟨h1, h2, h3⟩
    dsimp only at h1 h2 h3 ⊢
    refine ⟨y != "/", by walk_at "tr", fun ht => ?_, fun ht => ?_⟩
    · cases h1 with
      | top => exact absurd ht (by decide +kernel)
      | @up _ q' hx hl hr =>
        walk_at "let"
        walk_at "app"
        refine Xs.nil ⟨(done ++ [y], dirnameF y, q'), ?_, ⟨hr, ?_, ?_⟩, ?_⟩
        · simp
        · simp at h2 ⊢; omega
        · simpa using h3
        · dsimp only
          walk_at "cov"
    · refine Xs.nil ?_
      cases h1 with
      | up hx hl hr => rw [hx] at ht; cases ht
      | top =>
        rw [h3]
        refine' Xs.retOwn ?d1 ?d2
        case d1 => walk_at "look"
        case d2 => rfl
end
end

local macro_rules | `(tactic| walk_at "callee") => `(tactic| (exact Calls.mono (c_climb (by assumption) (by assumption) (by assumption) (by assumption)) (by omega)))
section
/-- a place of the tree -/
structure Node where
  up : Nat
  depth : Nat
  name : Str
  mode : Int
  way : Str
  rights : Int
noncomputable def Node.v (n : Node) : V := .tuple [.int n.up, .int n.depth, .str n.name, .int n.mode, .str n.way, .int n.rights]
noncomputable def treeV (ns : List Node) : List V := ns.map Node.v
noncomputable def natsV (a : List Nat) : List V := a.map fun (k : Nat) => V.int (k : Int)

/-- both orders of the places at and below one -/
noncomputable def ordersF : Nat → List Nat → Nat → List Nat × List Nat
  | 0, _, _ => ([], [])
  | f + 1, ups, at' =>
    let r := (List.range' (at' + 1) (ups.length - (at' + 1))).foldl (fun ab k => if ups[k]? == some at' then (ab.1 ++ (ordersF f ups k).1, ab.2 ++ (ordersF f ups k).2) else ab) ([at'], [])
    (r.1, r.2 ++ [at'])
noncomputable def ordStep (f : Nat) (ups : List Nat) (at' : Nat) (ab : List Nat × List Nat) (k : Nat) : List Nat × List Nat := if ups[k]? == some at' then (ab.1 ++ (ordersF f ups k).1, ab.2 ++ (ordersF f ups k).2) else ab
theorem ordersF_succ (f : Nat) (ups : List Nat) (at' : Nat) : ordersF (f + 1) ups at' = (((List.range' (at' + 1) (ups.length - (at' + 1))).foldl (ordStep f ups at') ([at'], [])).1, ((List.range' (at' + 1) (ups.length - (at' + 1))).foldl (ordStep f ups at') ([at'], [])).2 ++ [at']) := rfl
theorem ordStep_grows (f : Nat) (ups : List Nat) (at' : Nat) : ∀ (ks : List Nat) (ab : List Nat × List Nat), ab.1.length ≤ (ks.foldl (ordStep f ups at') ab).1.length ∧ ab.2.length ≤ (ks.foldl (ordStep f ups at') ab).2.length
  | [], ab => ⟨Nat.le_refl _, Nat.le_refl _⟩
  | k :: ks, ab => by
    have h := ordStep_grows f ups at' ks (ordStep f ups at' ab k)
    have h2 : ab.1.length ≤ (ordStep f ups at' ab k).1.length ∧ ab.2.length ≤ (ordStep f ups at' ab k).2.length := by
      unfold ordStep
      split
      · simp only [List.length_append]; omega
      · exact ⟨Nat.le_refl _, Nat.le_refl _⟩
    exact ⟨Nat.le_trans h2.1 h.1, Nat.le_trans h2.2 h.2⟩
theorem intsV_nats (a n : Nat) : intsV ((a : Int) + 1) n = natsV (List.range' (a + 1) n) := by
  unfold intsV natsV
  rw [List.range'_eq_map_range, List.map_map]
  refine List.map_congr_left fun i _ => ?_
  show V.int _ = V.int _
  congr 1

section
variable {C : Ctx} (H : Prog C) (hT : C.T = [])
include H hT
theorem c_S_IMODE (m : Int) : Calls C 1 (.ref 148) [(.int m, false)] (.int (Builtin.bitAnd m 4095), false) := by
  refine callOf H hT (a := 148) ["mode"] (ds := [.int m]) [("mode", (.int m, false))] k_S_IMODE cd_S_IMODE ?_ (fun
    | [v], _ => rfl)
  walk_at "ret"
  rfl
theorem c_S_IFMT (m : Int) : Calls C 1 (.ref 155) [(.int m, false)] (.int (Builtin.bitAnd m 61440), false) := by
  refine callOf H hT (a := 155) ["mode"] (ds := [.int m]) [("mode", (.int m, false))] k_S_IFMT cd_S_IFMT ?_ (fun
    | [v], _ => rfl)
  walk_at "ret"
  rfl
theorem c_orders {ns : List Node} {ups : List Nat} (hu : ns.map Node.up = ups) (hn : ns.length ≤ 100) (hsz : ∀ f < 100, ∀ k < 100, (ordersF f ups k).1.length ≤ 100 ∧ (ordersF f ups k).2.length ≤ 100) :
    ∀ f at', f < 100 → at' < ns.length → ns.length - at' ≤ f → Calls C f (.ref 216) [(.list (treeV ns), false), (.int at', false)] (.tuple [.list (natsV (ordersF f ups at').1), .list (natsV (ordersF f ups at').2)], false) := by
  intro f
  induction f with
  | zero => intro at' _ h1 h2; omega
  | succ f ih =>
    intro at' hf hat hfuel
    refine callOf H hT (a := 216) ["tree", "at"] (ds := [.list (treeV ns), .int at']) [("tree", (.list (treeV ns), false)), ("at", (.int at', false))] k_law_orders cd_law_orders ?_ (fun
      | [v, w], _ => rfl)
    have hlen : (treeV ns).length = ns.length := List.length_map _
    have hul : ups.length = ns.length := by rw [← hu, List.length_map]
    refine' Xs.assignNew (xs := [.int at']) ?a1 ?a2
    case a1 =>
      refine' EvNew.disp ?b1 ?b2
      case b1 => walk_at "argl"
      case b2 => walk_at "small"
    refine' Xs.assignNew (xs := []) ?e1 ?e2
    case e1 =>
      refine' EvNew.disp ?f1 ?f2
      case f1 => walk_at "argl"
      case f2 => walk_at "small"
    have hfin := ordersF_succ f ups at'
    have hfs := hsz (f + 1) hf at' (by omega)
    rw [hfin] at hfs
    dsimp only at hfs
    rw [List.length_append] at hfs
    refine Xs.forS (ds := natsV (List.range' (at' + 1) (ups.length - (at' + 1)))) (fun (b : List Nat × List Nat) => [("behind", (.list (natsV b.2), true)), ("ahead", (.list (natsV b.1), true)), ("tree", (.list (treeV ns), false)), ("at", (.int at', false))])
      (fun ds b => ∃ ks : List Nat, ds = natsV ks ∧ (∀ k ∈ ks, at' < k ∧ k < ns.length) ∧ ks.foldl (ordStep f ups at') b = (List.range' (at' + 1) (ups.length - (at' + 1))).foldl (ordStep f ups at') ([at'], [])) ([at'], []) ?_ ?_ ?_ ?_ ?_
    · have he : natsV (List.range' (at' + 1) (ups.length - (at' + 1))) = intsV ((at' : Int) + 1) (((treeV ns).length : Int) - ((at' : Int) + 1)).toNat := by
        rw [intsV_nats, hlen, hul]; congr 2; omega
      rw [he]
      walk_at "iterw"
    · walk_at "cov"
    · refine ⟨_, rfl, ?_, rfl⟩
      intro k hk
      rw [List.mem_range'_1] at hk
      omega
    · rintro d ds ⟨p, q⟩ ⟨ks, hks, hin, hfold⟩
      cases ks with
      | nil => cases hks
      | cons k ks =>
        simp only [natsV, List.map_cons, List.cons.injEq] at hks
        obtain ⟨rfl, rfl⟩ := hks
        have hk := hin k List.mem_cons_self
        have hin' := fun j hj => hin j (List.mem_cons_of_mem _ hj)
        rw [List.foldl_cons] at hfold
        have hgr := ordStep_grows f ups at' ks (ordStep f ups at' (p, q) k)
        rw [hfold] at hgr
        refine ⟨_, by walk_at "tgt", ?_⟩
        dsimp only
        have hnd : (treeV ns)[((k : Int)).toNat]? = some (.tuple [.int (ns[k]'hk.2).up, .int (ns[k]'hk.2).depth, .str (ns[k]'hk.2).name, .int (ns[k]'hk.2).mode, .str (ns[k]'hk.2).way, .int (ns[k]'hk.2).rights]) := by
          rw [Int.toNat_natCast, treeV, List.getElem?_map, List.getElem?_eq_getElem hk.2]; rfl
        have hup : (ups[k]? == some at') = (((ns[k]'hk.2).up : Int) == (at' : Int)) := by
          rw [← hu, List.getElem?_map, List.getElem?_eq_getElem hk.2]
          rw [Option.map_some]
          refine Bool.eq_iff_iff.mpr ?_
          simp only [beq_iff_eq, Option.some.injEq]
          omega
        refine' Xs.if (b := ((ns[k]'hk.2).up : Int) == (at' : Int)) ?h1 ?h2 ?h3
        case h1 => walk_at "tr"
        case h2 =>
          intro hb
          rw [ordStep, if_pos (hup.trans hb)] at hfold hgr
          have hz := hsz f (by omega) k (by omega)
          have hcall := ih k (by omega) hk.2 (by omega)
          simp only [List.length_append] at hgr
          refine' Xs.assignTgt ?lh1 ?lh2 ?lh3 ?lh4
          case lh1 =>
            refine' Ev.callD ?h0 ?hf ?h1 ?ha ?hc ?hn ?he
            case h0 => assumption
            case hf => walk_at "glob"
            case h1 => walk_at "fdv"
            case ha => walk_at "args"
            case hc => exact hcall
            case hn => intro _; rfl
            case he => intro _; rfl
          case lh2 => walk_at "tgt"
          case lh4 => intro _ _; rfl
          case lh3 =>
            refine' Xs.extend (hx := ?hx1) (hsz := ?hsz1) ?hl1 ?hh1 ?k1
            case hl1 => walk_at "look"
            case hh1 => walk_at "ev"
            case hx1 => decide +kernel
            case hsz1 => simp only [natsV, List.length_map]; rw [sizeLine_eq]; omega
            case k1 =>
              refine' Xs.extend (hx := ?hx) (hsz := ?hsz) ?hl ?h ?kk
              case hl => walk_at "look"
              case h => walk_at "ev"
              case hx => decide +kernel
              case hsz => simp only [natsV, List.length_map]; rw [sizeLine_eq]; omega
              case kk =>
                refine Xs.nil (Xs.nil ⟨_, ⟨ks, rfl, hin', hfold⟩, ?_⟩)
                dsimp only [natsV]
                walk_at "cov"
        case h3 =>
          intro hb
          rw [ordStep, if_neg (by rw [hup, hb]; decide)] at hfold
          refine Xs.nil (Xs.nil ⟨(p, q), ⟨ks, rfl, hin', hfold⟩, ?_⟩)
          walk_at "cov"
    · rintro ⟨p, q⟩ ⟨ks, hks, hin, hfold⟩
      cases ks with
      | cons k ks => cases hks
      | nil =>
        rw [List.foldl_nil] at hfold
        rw [← hfold] at hfs
        rw [hfin, ← hfold]
        simp only [List.length_cons, List.length_nil] at hfs
        refine Xs.nil ?_
        refine Xs.freeze (x := "ahead") (d := .list (natsV p)) ?_ (by walk_at "look")
        refine' Xs.ret (d := .tuple [.list (natsV p), .list (natsV q ++ [.int at'])]) ?r1 ?r2
        case r2 => simp only [natsV, List.map_append, List.map_cons, List.map_nil]
        case r1 =>
          refine' Ev.tup ?s1 ?s2
          case s2 => walk_at "small"
          case s1 =>
            refine' EvL.cons ?t1 ?t2 ?t3
            case t1 => walk_at "ev"
            case t3 => intro _; rfl
            case t2 =>
              refine' EvL.cons ?u1 ?u2 ?u3
              case u2 => exact EvL.nil
              case u3 => intro _; rfl
              case u1 =>
                refine' EvNew.ev ?v1
                case v1 =>
                  refine' EvNew.addList ?w1 ?w2 ?w3
                  case w1 => walk_at "ev"
                  case w2 => walk_at "ev"
                  case w3 => simp only [natsV, List.length_map, List.length_cons, List.length_nil]; rw [sizeLine_eq]; omega
end
end

local macro_rules | `(tactic| walk_at "callee") => `(tactic| first | (exact Calls.mono (c_S_IMODE (by assumption) (by assumption) _) (by omega)) | (exact Calls.mono (c_S_IFMT (by assumption) (by assumption) _) (by omega)))
section
noncomputable def nameAt (n : Nat) : Str := (["a", "b.", "...", "a-", ".c"] : List Str).getD n ""
noncomputable def treeStep (ns : List Node) (x : Int) : List Node := match ns[(x % (ns.length : Int)).toNat]? with
  | some n => ns ++ [⟨(x % (ns.length : Int)).toNat, n.depth + 1, nameAt (ns.length - 1), x / 64 % 65536, (if (x % (ns.length : Int)).toNat = 0 then ("" : Str) else n.way) ++ "/" ++ nameAt (ns.length - 1), Builtin.bitAnd n.rights (x / 64 % 65536 % 4096)⟩]
  | none => ns
noncomputable def root : Node := ⟨0, 0, "", 18431, "/", 2047⟩
theorem nameAt_len : ∀ n < 5, (nameAt n).length ≤ 3 := by decide +kernel
theorem str_len_append (a b : Str) : (a ++ b).length = a.length + b.length := by
  exact strLen_append a b
section
variable {C : Ctx} (H : Prog C) (hT : C.T = [])
include H hT
set_option maxHeartbeats 2000000 in
theorem c_tree {nums : List Int} (hn : nums.length ≤ 5) : Calls C 1 (.ref 209) [(.list (nums.map .int), false)] (.list (treeV (nums.foldl treeStep [root])), false) := by
  refine callOf H hT (a := 209) ["numbers"] (ds := [.list (nums.map .int)]) [("numbers", (.list (nums.map .int), false))] k_law_tree cd_law_tree ?_ (fun
    | [v], _ => rfl)
  refine' Xs.assignNew (xs := treeV [root]) ?a1 ?a2
  case a1 =>
    show EvNew _ _ _ _ _ [.tuple [.int 0, .int 0, .str "", .int 18431, .str "/", .int 2047]]
    refine' EvNew.disp ?b1 ?b2
    case b1 => walk_at "argl"
    case b2 => walk_at "small"
  refine Xs.forS (ds := nums.map .int) (fun (b : List Node) => [("tree", (.list (treeV b), true)), ("numbers", (.list (nums.map .int), false))])
    (fun ds b => ∃ xs : List Int, ds = xs.map .int ∧ 0 < b.length ∧ b.length + xs.length ≤ 6 ∧ (∀ n ∈ b, n.way.length ≤ 4 * b.length) ∧ xs.foldl treeStep b = nums.foldl treeStep [root]) [root] ?_ ?_ ?_ ?_ ?_
  · walk_at "iterw"
  · walk_at "cov"
  · exact ⟨nums, rfl, by decide, by simp; omega, by decide +kernel, rfl⟩
  · rintro d ds ns ⟨xs, hxs, h0, hlen, hway, hfold⟩
    cases xs with
    | nil => cases hxs
    | cons x xs =>
      simp only [List.map_cons, List.cons.injEq] at hxs
      obtain ⟨rfl, rfl⟩ := hxs
      refine ⟨_, by walk_at "tgt", ?_⟩
      have hl : (treeV ns).length = ns.length := List.length_map _
      have hpos : (0 : Int) < (ns.length : Int) := by omega
      obtain ⟨u, hu⟩ : ∃ u : Nat, x % (ns.length : Int) = (u : Int) := ⟨(x % (ns.length : Int)).toNat, (Int.toNat_of_nonneg (Int.emod_nonneg _ (by omega))).symm⟩
      have hult : u < ns.length := by
        have := Int.emod_lt_of_pos x hpos
        omega
      simp only [List.length_cons] at hlen
      have hnd : (treeV ns)[((u : Int)).toNat]? = some (.tuple [.int (ns[u]).up, .int (ns[u]).depth, .str (ns[u]).name, .int (ns[u]).mode, .str (ns[u]).way, .int (ns[u]).rights]) := by
        rw [Int.toNat_natCast, treeV, List.getElem?_map, List.getElem?_eq_getElem hult]; rfl
      have hw := hway _ (List.getElem_mem hult)
      have hnm : ([V.str "a", V.str "b.", V.str "...", V.str "a-", V.str ".c"] : List V)[(((treeV ns).length : Int) - 1).toNat]? = some (.str (nameAt (ns.length - 1))) := by
        have key : ∀ k < 5, ([V.str "a", V.str "b.", V.str "...", V.str "a-", V.str ".c"] : List V)[k]? = some (.str (nameAt k)) := fun
          | 0, _ => rfl
          | 1, _ => rfl
          | 2, _ => rfl
          | 3, _ => rfl
          | 4, _ => rfl
        rw [show (((treeV ns).length : Int) - 1).toNat = ns.length - 1 by omega]
        exact key _ (by omega)
      have hnl := nameAt_len (ns.length - 1) (by omega)
      have hsl : Str.length "/" = 1 := by decide +kernel
      have hwl : (if u = 0 then ("" : Str) else ns[u].way).length ≤ 4 * ns.length := by
        split
        · rw [show Str.length "" = 0 by decide +kernel]; omega
        · exact hw
      have hwl2 := str_len_append (if u = 0 then ("" : Str) else ns[u].way) "/"
      have hwl3 := str_len_append ((if u = 0 then ("" : Str) else ns[u].way) ++ "/") (nameAt (ns.length - 1))
      refine' Xs.assign (d := .int u) ?c1 ?c2 ?c3 ?c4
      case c3 => decide +kernel
      case c4 => intro _ _; rfl
      case c1 =>
        refine' Ev.to ?c5 ?c6
        case c5 => walk_at "ev"
        case c6 => rw [hl, hu]
      refine' Xs.assign ?e1 ?e2 ?e3 ?e4
      case e3 => decide +kernel
      case e4 => intro _ _; rfl
      case e1 =>
        refine' Ev.idxT ?f1 ?f2 ?f3 ?f4 hnm
        case f1 => walk_at "ev"
        case f2 => walk_at "ev"
        case f3 => omega
        case f4 => omega
      refine' Xs.assign ?g1 ?g2 ?g3 ?g4
      case g1 => walk_at "ev"
      case g3 => decide +kernel
      case g4 => intro _ _; rfl
      refine' Xs.assign (d := .str ((if u = 0 then ("" : Str) else ns[u].way) ++ "/" ++ nameAt (ns.length - 1))) ?i1 ?i2 ?i3 ?i4
      case i3 => decide +kernel
      case i4 => intro _ _; rfl
      case i1 =>
        refine' Ev.bin (d₁ := (.str ((if u = 0 then ("" : Str) else ns[u].way) ++ "/"), false)) ?j1 ?j2 ?j3
        case j1 =>
          refine' Ev.bin (d₁ := (.str (if u = 0 then ("" : Str) else ns[u].way), false)) ?k1 ?k2 ?k3
          case k1 =>
            refine' Ev.ite (b := ((u : Int) == 0)) ?l1 ?l2 ?l3
            case l1 => walk_at "tr"
            case l2 =>
              intro hb
              rw [if_pos (by simpa using hb)]
              walk_at "ev"
            case l3 =>
              intro hb
              rw [if_neg (by simpa using hb)]
              refine' Ev.idxT ?m1 ?m2 ?m3 ?m4 ?m5
              case m1 =>
                refine' Ev.idx ?n1 ?n2 ?n3 ?n4 hnd
                case n1 => walk_at "ev"
                case n2 => walk_at "ev"
                case n3 => omega
                case n4 => omega
              case m2 => walk_at "ev"
              case m3 => decide
              case m4 => decide
              case m5 => rfl
          case k2 => walk_at "ev"
          case k3 => exact op_add_str _ _ (by rw [sizeLine_eq]; omega)
        case j2 => walk_at "ev"
        case j3 => exact op_add_str _ _ (by rw [sizeLine_eq]; omega)
      let nd : Node := ⟨u, ns[u].depth + 1, nameAt (ns.length - 1), x / 64 % 65536, (if u = 0 then ("" : Str) else ns[u].way) ++ "/" ++ nameAt (ns.length - 1), Builtin.bitAnd ns[u].rights (x / 64 % 65536 % 4096)⟩
      have hstep : treeStep ns x = ns ++ [nd] := by
        have hu' : (x % (ns.length : Int)).toNat = u := by rw [hu, Int.toNat_natCast]
        unfold treeStep
        rw [hu', List.getElem?_eq_getElem hult]
      refine' Xs.append (d := nd.v) (hx := ?hx) (hd := ?hd) (hsz := ?hsz) (hi := ?hi) (hn := ?hn) (he := ?he) ?q1 ?q2 ?q3
      case q1 => walk_at "look"
      case hx => decide +kernel
      case hd => decide +kernel
      case hsz => rw [hl, sizeLine_eq]; omega
      case hi => intro _ _; rfl
      case hn => intro _; rfl
      case he => intro _; rfl
      case q2 =>
        show Ev _ _ _ _ _ (.tuple [.int u, .int ((ns[u].depth + 1 : Nat) : Int), .str (nameAt (ns.length - 1)), .int (x / 64 % 65536), .str ((if u = 0 then ("" : Str) else ns[u].way) ++ "/" ++ nameAt (ns.length - 1)), .int (Builtin.bitAnd ns[u].rights (x / 64 % 65536 % 4096))], false)
        refine' Ev.to ?q4 ?q5
        case q4 => walk_at "ev"
        case q5 => rfl
      case q3 =>
        refine Xs.nil ⟨ns ++ [nd], ⟨xs, rfl, ?_, ?_, ?_, ?_⟩, ?_⟩
        · simp
        · simp; omega
        · intro n hn'
          rw [List.mem_append, List.mem_singleton] at hn'
          rw [List.length_append, List.length_singleton]
          rcases hn' with hn' | rfl
          · have := hway n hn'; omega
          · show Str.length ((if u = 0 then ("" : Str) else ns[u].way) ++ "/" ++ nameAt (ns.length - 1)) ≤ _
            omega
        · rw [← hstep, ← List.foldl_cons, hfold]
        · have e : treeV (ns ++ [nd]) = treeV ns ++ [nd.v] := List.map_append
          rw [e]
          walk_at "cov"
  · rintro ns ⟨xs, hxs, h0, hlen, hway, hfold⟩
    cases xs with
    | cons x xs => cases hxs
    | nil =>
      rw [List.foldl_nil] at hfold
      refine Xs.nil ?_
      rw [← hfold]
      refine' Xs.retOwn ?d1 ?d2
      case d1 => walk_at "look"
      case d2 => rfl
end
end

section
noncomputable def bitF (r n : Int) : Int := r / 2 ^ n.toNat % 2
theorem bitF_two (r n : Int) : bitF r n = 0 ∨ bitF r n = 1 := by unfold bitF; omega
noncomputable def bitV (r : Int) : V → V
  | .int n => .int (bitF r n)
  | d => d
noncomputable def signStep (r : Int) (acc : Str) (c : Nat) : Str := acc ++ (Txt.item "-r" (bitF r (8 - 3 * (c : Int))) ++ Txt.item "-w" (bitF r (7 - 3 * (c : Int)))) ++ Txt.item (if bitF r (11 - (c : Int)) = 0 then "-x" else if c = 2 then "Tt" else "Ss") (bitF r (6 - 3 * (c : Int)))
noncomputable def signsF (r : Int) : Str := [0, 1, 2].foldl (signStep r) ""
theorem item_len (x : Str) (i : Int) : (Txt.item x i).length ≤ 1 := by
  unfold Txt.item
  exact Nat.le_refl 1
theorem charAt_two {i : Int} (h : i = 0 ∨ i = 1) : (Txt.charAt "-r" i).isSome = true ∧ (Txt.charAt "-w" i).isSome = true ∧ (Txt.charAt "-x" i).isSome = true ∧ (Txt.charAt "Tt" i).isSome = true ∧ (Txt.charAt "Ss" i).isSome = true ∧ fitsSsize i = true := by
  rcases h with rfl | rfl <;> decide +kernel
theorem signStep_len (r : Int) (acc : Str) (c : Nat) : (signStep r acc c).length ≤ acc.length + 3 := by
  unfold signStep
  have h1 := item_len "-r" (bitF r (8 - 3 * (c : Int)))
  have h2 := item_len "-w" (bitF r (7 - 3 * (c : Int)))
  have h3 := item_len (if bitF r (11 - (c : Int)) = 0 then "-x" else if c = 2 then "Tt" else "Ss") (bitF r (6 - 3 * (c : Int)))
  rw [strLen_append, strLen_append, strLen_append]
  omega
theorem pair_at {a b : V} {i : Int} (h : i = 0 ∨ i = 1) : ([a, b] : List V)[i.toNat]? = some (if i = 0 then a else b) := by
  rcases h with rfl | rfl <;> rfl

section
variable {C : Ctx} (H : Prog C) (hT : C.T = [])
include H hT
set_option maxHeartbeats 2000000 in
theorem c_signs (r : Int) : Calls C 1 (.ref 247) [(.int r, false)] (.str (signsF r), false) := by
  refine callOf H hT (a := 247) ["rights"] (ds := [.int r]) [("rights", (.int r, false))] k_law_signs cd_law_signs ?_ (fun
    | [v], _ => rfl)
  walk_at "let"
  refine Xs.forS (ds := natsV [0, 1, 2]) (fun (b : Str) => [("signs", (.str b, false)), ("rights", (.int r, false))])
    (fun ds b => ∃ cs : List Nat, ds = natsV cs ∧ (∀ c ∈ cs, c < 3) ∧ b.length + 3 * cs.length ≤ 9 ∧ cs.foldl (signStep r) b = signsF r) "" ?_ ?_ ?_ ?_ ?_
  · refine EvW.to (b' := intsV 0 (Int.toNat 3)) ?_ rfl
    walk_at "iterw"
  · walk_at "cov"
  · exact ⟨_, rfl, by decide, by decide +kernel, rfl⟩
  · rintro d ds acc ⟨cs, hcs, hlt, hlen, hfold⟩
    cases cs with
    | nil => cases hcs
    | cons c cs =>
      simp only [natsV, List.map_cons, List.cons.injEq] at hcs
      obtain ⟨rfl, rfl⟩ := hcs
      have hc : c < 3 := hlt c List.mem_cons_self
      simp only [List.length_cons] at hlen
      refine ⟨_, by walk_at "tgt", ?_⟩
      have hsz := item_len "-r" (bitF r (8 - 3 * (c : Int)))
      have hsz2 := item_len "-w" (bitF r (7 - 3 * (c : Int)))
      have hsz3 := item_len (if bitF r (11 - (c : Int)) = 0 then "-x" else if c = 2 then "Tt" else "Ss") (bitF r (6 - 3 * (c : Int)))
      have hsl := signStep_len r acc c
      walk_at "let"
      refine' Xs.assignTgt (d := .list [.int (bitF r (8 - 3 * (c : Int))), .int (bitF r (7 - 3 * (c : Int))), .int (bitF r (6 - 3 * (c : Int))), .int (bitF r (11 - (c : Int)))]) ?ah1 ?ah2 ?ah3 ?ah4
      case ah4 => intro _ _; rfl
      case ah1 =>
        refine' EvNew.ev ?h5
        case h5 =>
          refine' EvNew.comp (ds := [.int (8 - 3 * (c : Int)), .int (7 - 3 * (c : Int)), .int (6 - 3 * (c : Int)), .int (11 - (c : Int))]) (p := fun _ => true) (f := bitV r) (ρf := [("rights", (.int r, false))]) ?i1 ?i2 ?i3 ?i4 ?i5 ?i6 ?i7
          case i1 => walk_at "iter"
          case i2 => decide +kernel
          case i3 => walk_at "caught"
          case i4 => intro d hd; rfl
          case i6 => walk_at "small"
          case i7 => intro _ _; rfl
          case i5 =>
            intro d hd _
            obtain ⟨n, rfl, h0, h1⟩ : ∃ n : Int, d = .int n ∧ 0 ≤ n ∧ n ≤ 11 := by
              simp only [List.mem_cons, List.not_mem_nil, or_false] at hd
              rcases hd with rfl | rfl | rfl | rfl <;> exact ⟨_, rfl, by omega, by omega⟩
            have hp1 : 0 < (2 : Int) ^ n.toNat := Int.pow_pos (by decide)
            have hp2 : (2 : Int) ^ n.toNat < 1073741824 := by
              obtain ⟨k, hk⟩ : ∃ k : Nat, n.toNat = k ∧ k ≤ 11 := ⟨_, rfl, by omega⟩
              rw [hk.1]
              have : ∀ k ≤ 11, (2 : Int) ^ k < 1073741824 := by decide +kernel
              exact this k hk.2
            have hp3 : (Builtin.Int.intBits 2 : Int) * n ≤ 2 ^ 27 := by
              rw [show Builtin.Int.intBits 2 = 2 by decide +kernel]; omega
            refine Ev.to (d' := (.int (r / 2 ^ n.toNat % 2), false)) ?_ rfl
            walk_at "ev"
      case ah2 => walk_at "tgt"
      case ah3 =>
        have k1 := charAt_two (bitF_two r (8 - 3 * (c : Int)))
        have k2 := charAt_two (bitF_two r (7 - 3 * (c : Int)))
        have k3 := charAt_two (bitF_two r (6 - 3 * (c : Int)))
        have k4 : (Txt.charAt (if bitF r (11 - (c : Int)) = 0 then "-x" else if c = 2 then "Tt" else "Ss") (bitF r (6 - 3 * (c : Int)))).isSome = true := by
          split
          · exact k3.2.2.1
          · split
            · exact k3.2.2.2.1
            · exact k3.2.2.2.2.1
        refine' Xs.aug (d := .str (acc ++ (Txt.item "-r" (bitF r (8 - 3 * (c : Int))) ++ Txt.item "-w" (bitF r (7 - 3 * (c : Int)))))) ?l1 ?l2 ?l3 ?l4 ?l5
        case l1 => walk_at "look"
        case l5 => decide +kernel
        case l2 =>
          refine' Ev.bin ?m1 ?m2 ?m3
          case m1 =>
            refine' Ev.item (i := bitF r (8 - 3 * (c : Int))) ?n1 ?n2 k1.2.2.2.2.2 k1.1
            case n1 => walk_at "ev"
            case n2 => walk_at "ev"
          case m2 =>
            refine' Ev.item (i := bitF r (7 - 3 * (c : Int))) ?n1 ?n2 k2.2.2.2.2.2 k2.2.1
            case n1 => walk_at "ev"
            case n2 => walk_at "ev"
          case m3 => exact op_add_str _ _ (by rw [sizeLine_eq]; omega)
        case l3 => exact op_iadd_str _ _ (by rw [strLen_append, sizeLine_eq]; omega)
        case l4 =>
          refine' Xs.aug (d := .str (signStep r acc c)) ?o1 ?o2 ?o3 ?o4 ?o5
          case o1 => walk_at "look"
          case o5 => decide +kernel
          case o2 =>
            refine' Ev.item (x := if bitF r (11 - (c : Int)) = 0 then "-x" else if c = 2 then "Tt" else "Ss") (i := bitF r (6 - 3 * (c : Int))) ?q1 ?q2 k3.2.2.2.2.2 k4
            case q2 => walk_at "ev"
            case q1 =>
              refine' Ev.idxT (xs := [.str "-x", .str (if c = 2 then "Tt" else "Ss")]) (i := bitF r (11 - (c : Int))) ?r1 ?r2 ?r3 ?r4 ?r5
              case r2 => walk_at "ev"
              case r3 => have := bitF_two r (11 - (c : Int)); omega
              case r4 => have := bitF_two r (11 - (c : Int)); omega
              case r5 => rw [pair_at (bitF_two r _)]; split <;> rfl
              case r1 =>
                refine' Ev.tup ?s1 ?s2
                case s2 => walk_at "small"
                case s1 =>
                  refine' EvL.cons ?t1 (EvL.cons ?t2 EvL.nil ?t3) ?t4
                  case t3 => intro _; rfl
                  case t4 => intro _; rfl
                  case t1 => walk_at "ev"
                  case t2 =>
                    refine' Ev.ite (b := ((c : Int) == 2)) ?u1 ?u2 ?u3
                    case u1 => walk_at "tr"
                    case u2 =>
                      intro hb
                      have : c = 2 := by have := eq_of_beq hb; omega
                      rw [if_pos this]; walk_at "ev"
                    case u3 =>
                      intro hb
                      have : ¬ c = 2 := by
                        intro h; subst h; exact absurd hb (by decide)
                      rw [if_neg this]; walk_at "ev"
          case o3 => exact op_iadd_str _ _ (by rw [strLen_append, strLen_append, sizeLine_eq]; omega)
          case o4 =>
            refine Xs.nil ⟨signStep r acc c, ⟨cs, rfl, fun j hj => hlt j (List.mem_cons_of_mem _ hj), by omega, ?_⟩, ?_⟩
            · rw [← hfold, List.foldl_cons]
            · walk_at "cov"
  · rintro acc ⟨cs, hcs, hlt, hlen, hfold⟩
    cases cs with
    | cons c cs => cases hcs
    | nil =>
      rw [List.foldl_nil] at hfold
      rw [← hfold]
      refine Xs.nil ?_
      walk_at "ret"
      rfl
end
end

section
noncomputable def joinF (a b : Str) : Str := if (Txt.startswith b "/" || !decide (a.length ≠ 0)) = true then b else if Txt.endswith a "/" = true then a ++ b else a ++ ("/" ++ b)
section
variable {C : Ctx} (H : Prog C) (hT : C.T = [])
include H hT
set_option maxHeartbeats 2000000 in
theorem c_join (a b : Str) (ha : a.length ≤ 1000) (hb : b.length ≤ 1000) : Calls C 3 (.ref 115) [(.str a, false), (.str b, false)] (.str (joinF a b), false) := by
  refine Calls.ofBodyV hT (defAt H (a := 115) k_join (by decide +kernel) cd_join) (n₁ := "a") (n₂ := "p") (fun v w => rfl) (by decide +kernel) (by decide +kernel) ?_
  have hsl : Str.length "/" = 1 := by decide +kernel
  walk_at "let"
  walk_at "let"
  walk_at "let"
  refine Xs.try ?_
  refine Xs.for (ds := [.str b]) (by walk_at "iterw") ?_ (by intro _ _; rfl)
  refine ⟨_, by walk_at "tgt", ?_⟩
  walk_at "let"
  refine' Xs.if ?ah1 ?ah2 ?ah3
  case ah1 => walk_at "tr"
  case ah2 =>
    intro hq
    rw [Bool.or_false] at hq
    walk_at "let"
    refine Xs.nil (Xs.nil (Xs.nil (Xs.nil ?_)))
    walk_at "ret"
    unfold joinF
    rw [if_pos hq]
  case ah3 =>
    intro hq
    rw [Bool.or_false] at hq
    refine' Xs.if ?bh1 ?bh2 ?bh3
    case bh1 => walk_at "tr"
    case bh2 =>
      intro hq2
      refine' Xs.aug ?l1 ?l2 ?l3 ?l4 ?l5
      case l1 => walk_at "look"
      case l2 => walk_at "ev"
      case l3 => exact op_iadd_str _ _ (by rw [sizeLine_eq]; omega)
      case l5 => decide +kernel
      case l4 =>
        refine Xs.nil (Xs.nil (Xs.nil (Xs.nil (Xs.nil ?_))))
        walk_at "ret"
        unfold joinF
        rw [if_neg (by rw [hq]; decide), if_pos hq2]
    case bh3 =>
      intro hq2
      refine' Xs.aug ?m1 ?m2 ?m3 ?m4 ?m5
      case m1 => walk_at "look"
      case m2 => walk_at "ev"
      case m3 => exact op_iadd_str _ _ (by rw [strLen_append, sizeLine_eq]; omega)
      case m5 => decide +kernel
      case m4 =>
        refine Xs.nil (Xs.nil (Xs.nil (Xs.nil (Xs.nil ?_))))
        walk_at "ret"
        unfold joinF
        rw [if_neg (by rw [hq]; decide), if_neg (by rw [hq2]; decide)]
end
end

local macro_rules | `(tactic| walk_at "callee") => `(tactic| (exact Calls.mono (c_join (by assumption) (by assumption) _ _ (by first | assumption | omega) (by first | assumption | omega)) (by omega)))
section
noncomputable def itemV (e : Nat × Str × Int) : V := .tuple [.int e.1, .str e.2.1, .int e.2.2]
noncomputable def wayStep (st : List Str × List Str) (e : Nat × Str × Int) : List Str × List Str :=
  (st.1.take e.1 ++ [match (st.1.take e.1).getLast? with | some u => joinF u e.2.1 | none => "/"], st.2 ++ [match (st.1.take e.1).getLast? with | some u => joinF u e.2.1 | none => "/"])
noncomputable def waysF (es : List (Nat × Str × Int)) : List Str := (es.foldl wayStep ([], [])).2
theorem joinF_len (a b : Str) : (joinF a b).length ≤ a.length + b.length + 1 := by
  have hsl : Str.length "/" = 1 := by decide +kernel
  unfold joinF
  split
  · omega
  · split
    · rw [strLen_append]; omega
    · rw [strLen_append, strLen_append]; omega
section
variable {C : Ctx} (H : Prog C) (hT : C.T = [])
include H hT
set_option maxHeartbeats 2000000 in
theorem c_ways (es : List (Nat × Str × Int)) (hes : es.length ≤ 20) (hnm : ∀ e ∈ es, e.1 ≤ 100 ∧ e.2.1.length ≤ 10) : Calls C 4 (.ref 235) [(.list (es.map itemV), false)] (.list ((waysF es).map .str), false) := by
  refine callOf H hT (a := 235) ["listing"] (ds := [.list (es.map itemV)]) [("listing", (.list (es.map itemV), false))] k_law_ways cd_law_ways ?_ (fun
    | [v], _ => rfl)
  walk_at "letn"
  walk_at "letn"
  refine Xs.forS (ds := es.map itemV) (fun (b : List Str × List Str) => [("line", (.list (b.1.map .str), true)), ("ways", (.list (b.2.map .str), true)), ("listing", (.list (es.map itemV), false))])
    (fun ds b => ∃ xs : List (Nat × Str × Int), ds = xs.map itemV ∧ (∀ e ∈ xs, e.1 ≤ 100 ∧ e.2.1.length ≤ 10) ∧ b.2.length + xs.length ≤ 20 ∧ b.1.length ≤ b.2.length ∧ (∀ s ∈ b.1, s.length ≤ 1 + 12 * b.2.length) ∧ xs.foldl wayStep b = es.foldl wayStep ([], [])) ([], []) ?_ ?_ ?_ ?_ ?_
  · walk_at "iterw"
  · walk_at "cov"
  · exact ⟨es, rfl, hnm, by simpa using hes, by simp, by simp, rfl⟩
  · rintro d ds ⟨ln, ws⟩ ⟨xs, hxs, hin, hlen, hll, hs, hfold⟩
    cases xs with
    | nil => cases hxs
    | cons e xs =>
      simp only [List.map_cons, List.cons.injEq] at hxs
      obtain ⟨rfl, rfl⟩ := hxs
      obtain ⟨hd, hn⟩ := hin e List.mem_cons_self
      simp only [List.length_cons] at hlen
      dsimp only at hll hs hlen ⊢
      refine ⟨_, by show Tgt _ _ _ _ (.tuple [.int e.1, .str e.2.1, .int e.2.2]) _ _; walk_at "tgt", ?_⟩
      have htl : (ln.take e.1).length ≤ 20 := by rw [List.length_take]; omega
      refine' Xs.assignNew (xs := (ln.take e.1).map V.str) ?ah1 ?ah2 ?ah3 ?ah4
      case ah3 => decide +kernel
      case ah4 => intro _ _; rfl
      case ah1 =>
        refine' EvNew.to ?bh1 ?bh2
        case bh1 => walk_at "new"
        case bh2 => rw [pick_take, List.map_take]
      let w : Str := match (ln.take e.1).getLast? with | some u => joinF u e.2.1 | none => "/"
      have hw : w.length ≤ 13 + 12 * ws.length := by
        show Str.length (match (ln.take e.1).getLast? with | some u => joinF u e.2.1 | none => "/") ≤ _
        split
        · rename_i u hu
          have hm := hs u (List.mem_of_mem_take (List.mem_of_getLast? hu))
          have := joinF_len u e.2.1
          omega
        · rw [show Str.length "/" = 1 by decide +kernel]; omega
      refine' Xs.append (d := .str w) (hx := ?hx) (hd := ?hd) (hsz := ?hsz) (hi := ?hi) (hn := ?hn) (he := ?he) ?q1 ?q2 ?q3
      case q1 => walk_at "look"
      case hx => decide +kernel
      case hd => decide +kernel
      case hsz => rw [List.length_map, sizeLine_eq]; omega
      case hi => intro _ _; rfl
      case hn => intro _; rfl
      case he => intro _; rfl
      case q2 =>
        refine' Ev.ite (b := !((ln.take e.1).map V.str).isEmpty) ?u1 ?u2 ?u3
        case u1 =>
          refine' Tr.plain ?t1 (tr_list _ _ ?t2) ?t3
          case t1 => walk_at "ev"
          case t2 => rw [List.length_map, sizeLine_eq]; omega
          case t3 => intro _; rfl
        case u2 =>
          intro hb
          obtain ⟨u, hu⟩ : ∃ u, (ln.take e.1).getLast? = some u := by
            cases hq : (ln.take e.1).getLast? with
            | some u => exact ⟨u, rfl⟩
            | none => rw [List.getLast?_eq_none_iff] at hq; rw [hq] at hb; cases hb
          have hwu : w = joinF u e.2.1 := by
            show (match (ln.take e.1).getLast? with | some u => joinF u e.2.1 | none => "/") = _
            rw [hu]
          have hm := hs u (List.mem_of_mem_take (List.mem_of_getLast? hu))
          rw [hwu]
          refine' Ev.callD ?h0 ?hf ?h1 ?ha ?hc ?hn2 ?he2
          case h0 => assumption
          case hf => walk_at "glob"
          case h1 => walk_at "fdv"
          case ha =>
            refine' EvA.cons (d := (.str u, false)) ?e1 ?e2 ?e3
            case e1 =>
              refine' Ev.last ?l1 ?l2 ?l3 ?l4
              case l1 => walk_at "ev"
              case l2 => walk_at "ev"
              case l3 => rw [List.getLast?_map, hu]; rfl
              case l4 => rw [List.length_map, sizeLine_eq]; omega
            case e2 => walk_at "args"
            case e3 => intro _; rfl
          case hc => exact Calls.mono (c_join H hT u e.2.1 (by omega) (by omega)) (by omega)
          case hn2 => intro _; rfl
          case he2 => intro _; rfl
        case u3 =>
          intro hb
          have hq : (ln.take e.1).getLast? = none := by
            rw [List.getLast?_eq_none_iff]
            cases hz : ln.take e.1 with
            | nil => rfl
            | cons _ _ => rw [hz] at hb; cases hb
          have hwu : w = "/" := by
            show (match (ln.take e.1).getLast? with | some u => joinF u e.2.1 | none => "/") = _
            rw [hq]
          rw [hwu]
          walk_at "ev"
      case q3 =>
        refine' Xs.append (d := .str w) (hx := ?hx1) (hd := ?hd1) (hsz := ?hsz1) (hi := ?hi1) (hn := ?hn1) (he := ?he1) ?r1 ?r2 ?r3
        case r1 => walk_at "look"
        case hx1 => decide +kernel
        case hd1 => decide +kernel
        case hsz1 => rw [List.length_map, sizeLine_eq]; omega
        case hi1 => intro _ _; rfl
        case hn1 => intro _; rfl
        case he1 => intro _; rfl
        case r2 =>
          refine' Ev.last ?l5 ?l6 ?l7 ?l8
          case l5 => walk_at "ev"
          case l6 => walk_at "ev"
          case l7 => rw [List.getLast?_append]; rfl
          case l8 => rw [List.length_append, List.length_map, sizeLine_eq]; simp only [List.length_singleton]; omega
        case r3 =>
          have hst : wayStep (ln, ws) e = (ln.take e.1 ++ [w], ws ++ [w]) := rfl
          refine Xs.nil ⟨(ln.take e.1 ++ [w], ws ++ [w]), ⟨xs, rfl, fun j hj => hin j (List.mem_cons_of_mem _ hj), ?_, ?_, ?_, ?_⟩, ?_⟩
          · simp only [List.length_append, List.length_singleton]; omega
          · simp only [List.length_append, List.length_singleton, List.length_take]; omega
          · intro s hs'
            simp only [List.length_append, List.length_singleton]
            rcases List.mem_append.mp hs' with h | h
            · have := hs s (List.mem_of_mem_take h); omega
            · rw [List.mem_singleton] at h; subst h; omega
          · rw [← hst, ← hfold, List.foldl_cons]
          · dsimp only
            rw [List.map_append, List.map_append]
            walk_at "cov"
  · rintro ⟨ln, ws⟩ ⟨xs, hxs, hin, hlen, hll, hs, hfold⟩
    cases xs with
    | cons e xs => cases hxs
    | nil =>
      rw [List.foldl_nil] at hfold
      refine Xs.nil ?_
      unfold waysF
      rw [← hfold]
      refine' Xs.retOwn ?d1 ?d2
      case d1 => walk_at "look"
      case d2 => rfl
end
end

section
noncomputable def codesOf (x : Str) : List Int := x.cps.toList.map fun (c : Nat) => (c : Int)
noncomputable def ordV : V → V
  | .str x => .int ((x.cps.getD 0 0 : Nat) : Int)
  | d => d
theorem codes_signs (x : Str) : ((signsV x).filter fun _ => true).map ordV = (codesOf x).map .int := by
  unfold signsV codesOf
  rw [List.filter_eq_self.mpr (fun _ _ => rfl), List.map_map, List.map_map]
  rfl
noncomputable def nodeTape (n : Node) : List Int := ([(n.depth : Int), (n.name.length : Int)] ++ codesOf n.name) ++ [n.mode % 256, n.mode / 256]
noncomputable def tapeF (ns : List Node) (ks : List Nat) : List Int := ks.flatMap fun k => match ns[k]? with | some n => nodeTape n | none => []
noncomputable def NodeOk (n : Node) : Prop := n.depth < 256 ∧ n.name.length ≤ 10 ∧ (∀ c ∈ n.name.cps.toList, c < 256) ∧ 0 ≤ n.mode ∧ n.mode < 65536
theorem nodeTape_len (n : Node) : (nodeTape n).length = 4 + n.name.length := by
  unfold nodeTape codesOf Str.length
  simp only [List.length_append, List.length_cons, List.length_nil, List.length_map, Array.length_toList]
  omega
theorem nodeTape_ok {n : Node} (h : NodeOk n) : ∀ i ∈ nodeTape n, 0 ≤ i ∧ i < 256 := by
  obtain ⟨h1, h2, h3, h4, h5⟩ := h
  intro i hi
  unfold nodeTape codesOf at hi
  simp only [List.mem_append, List.mem_cons, List.not_mem_nil, or_false, List.mem_map] at hi
  rcases hi with ((rfl | rfl) | ⟨c, hc, rfl⟩) | rfl | rfl
  · omega
  · omega
  · have := h3 c hc; omega
  · omega
  · omega
section
variable {C : Ctx} (H : Prog C) (hT : C.T = [])
include H hT
set_option maxHeartbeats 2000000 in
theorem c_tape (ns : List Node) (ks : List Nat) (hnl : ns.length ≤ 100) (hks : ks.length ≤ 20) (hin : ∀ k ∈ ks, k < ns.length) (hok : ∀ n ∈ ns, NodeOk n) : Calls C 1 (.ref 221) [(.list (treeV ns), false), (.list (natsV ks), false)] (.bytes ((tapeF ns ks).map fun n => n.toNat.toUInt8), false) := by
  refine callOf H hT (a := 221) ["tree", "order"] (ds := [.list (treeV ns), .list (natsV ks)]) [("tree", (.list (treeV ns), false)), ("order", (.list (natsV ks), false))] k_law_tape cd_law_tape ?_ (fun
    | [v, w], _ => rfl)
  have Hc := H.calm
  walk_at "letn"
  refine Xs.forS (ds := natsV ks) (fun (b : List Int) => [("tape", (.list (b.map .int), true)), ("tree", (.list (treeV ns), false)), ("order", (.list (natsV ks), false))])
    (fun ds b => ∃ xs : List Nat, ds = natsV xs ∧ (∀ k ∈ xs, k < ns.length) ∧ b.length + 14 * xs.length ≤ 280 ∧ (∀ i ∈ b, 0 ≤ i ∧ i < 256) ∧ b ++ tapeF ns xs = tapeF ns ks) [] ?_ ?_ ?_ ?_ ?_
  · walk_at "iterw"
  · walk_at "cov"
  · exact ⟨ks, rfl, hin, by simp; omega, by simp, rfl⟩
  · rintro d ds b ⟨xs, hxs, hin, hlen, hb, hfold⟩
    cases xs with
    | nil => cases hxs
    | cons k xs =>
      simp only [natsV, List.map_cons, List.cons.injEq] at hxs
      obtain ⟨rfl, rfl⟩ := hxs
      simp only [List.length_cons] at hlen
      have hk := hin k List.mem_cons_self
      refine ⟨_, by walk_at "tgt", ?_⟩
      have hnd : (treeV ns)[((k : Int)).toNat]? = some (.tuple [.int (ns[k]).up, .int (ns[k]).depth, .str (ns[k]).name, .int (ns[k]).mode, .str (ns[k]).way, .int (ns[k]).rights]) := by
        rw [Int.toNat_natCast, treeV, List.getElem?_map, List.getElem?_eq_getElem hk]; rfl
      have ho := hok _ (List.getElem_mem hk)
      have ho2 := ho.2.1
      have htl := nodeTape_len ns[k]
      have hcl : (codesOf ns[k].name).length = ns[k].name.length := by
        unfold codesOf Str.length; simp only [List.length_map, Array.length_toList]
      walk_at "lets"
      refine' Xs.extend (ys := ([(ns[k].depth : Int), (ns[k].name.length : Int)] ++ codesOf ns[k].name).map V.int) (hx := ?hx1) (hsz := ?hsz1) ?hl1 ?hh1 ?kk1
      case hl1 => walk_at "look"
      case hx1 => decide +kernel
      case hsz1 => simp only [List.length_append, List.length_map, List.length_cons, List.length_nil]; rw [sizeLine_eq]; omega
      case hh1 =>
        refine' EvNew.ev ?bh1
        case bh1 =>
          rw [List.map_append]
          refine' EvNew.addList (f := false) (g := false) ?bh2 ?bh3 ?bh4
          case bh2 =>
            show Ev _ _ _ _ _ (.list [.int (ns[k].depth : Int), .int (ns[k].name.length : Int)], false)
            walk_at "ev"
          case bh4 => simp only [List.length_map, List.length_cons, List.length_nil]; rw [sizeLine_eq]; omega
          case bh3 =>
            rw [← codes_signs]
            refine' EvNew.ev ?bh5
            case bh5 =>
              refine' EvNew.comp (ρf := []) ?i1 ?i2 ?i3 ?i4 ?i5 ?i6 ?i7
              case i1 => walk_at "iter"
              case i2 => decide +kernel
              case i3 => walk_at "caught"
              case i4 => intro d hd; rfl
              case i6 => unfold signsV; rw [List.length_map, Array.length_toList, sizeLine_eq]; unfold Str.length at ho2; omega
              case i7 => intro _ _; rfl
              case i5 =>
                intro d hd _
                obtain ⟨c, rfl⟩ : ∃ c, d = .str ⟨#[c]⟩ := by
                  unfold signsV at hd
                  obtain ⟨c, _, rfl⟩ := List.mem_map.mp hd
                  exact ⟨c, rfl⟩
                refine Ev.to (d' := (.int c, false)) ?_ rfl
                walk_at "ev"
      case kk1 =>
        refine' Xs.extend (ys := [ns[k].mode % 256, ns[k].mode / 256].map V.int) (hx := ?hx2) (hsz := ?hsz2) ?hl2 ?hh2 ?kk2
        case hl2 => walk_at "look"
        case hx2 => decide +kernel
        case hsz2 => simp only [List.length_append, List.length_map, List.length_cons, List.length_nil]; rw [sizeLine_eq]; omega
        case hh2 =>
          show Ev _ _ _ _ _ (.list [.int (ns[k].mode % 256), .int (ns[k].mode / 256)], false)
          walk_at "ev"
        case kk2 =>
          refine Xs.nil ⟨b ++ nodeTape ns[k], ⟨xs, rfl, fun j hj => hin j (List.mem_cons_of_mem _ hj), ?_, ?_, ?_⟩, ?_⟩
          · rw [List.length_append]; omega
          · intro i hi
            rcases List.mem_append.mp hi with h | h
            · exact hb i h
            · exact nodeTape_ok ho i h
          · rw [← hfold, List.append_assoc]
            congr 1
            unfold tapeF
            rw [List.flatMap_cons, List.getElem?_eq_getElem hk]
          · have e : (b ++ nodeTape ns[k]).map V.int = b.map V.int ++ ([(ns[k].depth : Int), (ns[k].name.length : Int)] ++ codesOf ns[k].name).map V.int ++ [ns[k].mode % 256, ns[k].mode / 256].map V.int := by
              unfold nodeTape
              rw [List.map_append, List.map_append, List.append_assoc]
            rw [e]
            walk_at "cov"
  · rintro b ⟨xs, hxs, hin, hlen, hb, hfold⟩
    cases xs with
    | cons e xs => cases hxs
    | nil =>
      have hq : b = tapeF ns ks := by rw [← hfold]; simp [tapeF]
      refine Xs.nil ?_
      rw [← hq]
      refine' Xs.ret (d := .bytes (b.map fun n => n.toNat.toUInt8)) ?r1 rfl
      case r1 =>
        refine' Ev.callType ?hf ?ha (op_bytes_ints b _ ?z1 ?z2) ?hn ?hp ?he
        case hf => walk_at "boot"
        case ha => walk_at "args"
        case z1 => exact hb
        case z2 => rw [sizeLine_eq]; omega
        case hn => intro _; rfl
        case hp => intro _ _; rfl
        case he => intro _; rfl
end
end

section
theorem joinOk_small {sep : Str} {ys : List Str} (hs : sep.length ≤ 1) (h : ∀ x ∈ ys, x.length ≤ 100) (hn : ys.length ≤ 1000) : JoinOk sep ys = true := by
  unfold JoinOk
  rw [StrLaws.joinTotal]
  have h1 : (ys.map (·.length)).sum ≤ 100 * ys.length := by
    clear hn
    induction ys with
    | nil => simp
    | cons y ys ih =>
      have := h y List.mem_cons_self
      have := ih fun x hx => h x (List.mem_cons_of_mem _ hx)
      simp only [List.map_cons, List.sum_cons, List.length_cons]; omega
  have h2 : ys.length * sep.length ≤ ys.length * 1 := Nat.mul_le_mul_left _ hs
  have h3 : (ys.map (·.length)).sum + ys.length * sep.length ≤ 200000 := by omega
  generalize (ys.map (·.length)).sum + ys.length * sep.length = n at h3
  have : ¬ n > 2 ^ 24 := by omega
  simpa [Builtin.Str.tooLong, sizeLine] using this
noncomputable def tables : List (List (Int × Str)) := [[(40960, "l"), (49152, "s"), (32768, "-"), (24576, "b"), (16384, "d"), (8192, "c"), (4096, "p")], [(256, "r")], [(128, "w")], [(2112, "s"), (2048, "S"), (64, "x")], [(32, "r")], [(16, "w")], [(1032, "s"), (1024, "S"), (8, "x")], [(4, "r")], [(2, "w")], [(513, "t"), (512, "T"), (1, "x")]]
noncomputable def pairV (p : Int × Str) : V := .tuple [.int p.1, .str p.2]
noncomputable def tableV (t : List (Int × Str)) : V := .tuple (t.map pairV)
noncomputable def tablesV : List V := tables.map tableV
noncomputable def hits (m : Int) (i : Nat) (p : Int × Str) : Bool := if i = 0 then Builtin.bitAnd m 61440 == p.1 else Builtin.bitAnd m p.1 == p.1
noncomputable def signAt (m : Int) (i : Nat) (t : List (Int × Str)) : Str := match t.find? (hits m i) with
  | some p => p.2
  | none => if i = 0 then "?" else "-"
noncomputable def fileSigns (m : Int) : List Str := tables.zipIdx.map fun p => signAt m p.2 p.1
noncomputable def filemodeF (m : Int) : Str := Txt.join "" (fileSigns m)

noncomputable def readV (K : Frag) : Nat → Value → Option V
  | 0, _ => none
  | _ + 1, .int i _ => some (.int i)
  | _ + 1, .str x _ => some (.str x)
  | n + 1, .ref a => match K.lookup a with
    | some o => match o.cls == .type "tuple", o.data with
      | true, .seq items _ => (items.toList.mapM (readV K n)).map .tuple
      | _, _ => none
    | none => none
  | _ + 1, _ => none
theorem readV_ok {K : Frag} {h : Heap} {O : List Addr} (X : K.In h) : ∀ n v d, readV K n v = some d → VR h O d v
  | 0, _, _, e => by cases e
  | n + 1, v, d, e => by
    cases v with
    | int i t => simp only [readV, Option.some.injEq] at e; subst e; simp only [VR]; exact ⟨_, rfl⟩
    | str i t => simp only [readV, Option.some.injEq] at e; subst e; simp only [VR]; exact ⟨_, rfl⟩
    | ref a =>
      unfold readV at e
      split at e
      · rename_i o ho
        split at e
        · rename_i items k hc hd
          obtain ⟨ds, hds, rfl⟩ := Option.map_eq_some_iff.mp e
          simp only [VR]
          refine ⟨a, items, rfl, ⟨o, X a o ho, by simpa using hc, k, hd⟩, ?_⟩
          clear hd e
          generalize items.toList = vs at hds
          induction vs generalizing ds with
          | nil => simp only [List.mapM_nil, Option.pure_def, Option.some.injEq] at hds; subst hds; simp only [VRs]
          | cons v vs ih =>
            rw [List.mapM_cons] at hds
            cases h1 : readV K n v with
            | none => rw [h1] at hds; cases hds
            | some d =>
              rw [h1] at hds
              cases h2 : vs.mapM (readV K n) with
              | none => rw [h2] at hds; cases hds
              | some ds' =>
                rw [h2] at hds
                cases hds
                simp only [VRs]
                exact ⟨v, vs, rfl, readV_ok X n v d h1, ih _ h2⟩
        · cases e
      · cases e
    | _ => simp [readV] at e
theorem read_tables (P : Params) : readV (KF P) 4 (.ref 188) = some (.tuple tablesV) := by kernel_rfl
theorem g_filemode_table (P : Params) : nsIn (KF P) mainGlobals (Str.ofString "_filemode_table") = some (some (.ref 188)) := by kernel_rfl

theorem signAt_len (m : Int) (i : Nat) : ∀ t ∈ tables, (signAt m i t).length ≤ 1 := by
  intro t ht
  unfold signAt
  split
  · rename_i p hp
    have hm := List.mem_of_find?_eq_some hp
    have key : ∀ t ∈ tables, ∀ p ∈ t, p.2.length ≤ 1 := by decide +kernel
    exact key t ht p hm
  · split <;> decide +kernel
section
variable {C : Ctx} (H : Prog C) (hT : C.T = [])
include H
theorem ev_tables {l : Nat} {sc : Scope} {ρ : Rho} {pos : Pos} (hk : sc.names.lookup (Str.ofString "_filemode_table") = some .globalImplicit) : Ev C l sc ρ (.Name (Str.ofString "_filemode_table") pos) (.tuple tablesV, false) :=
  Ev.ofN (EvN.glob H hk g_filemode_table (by decide +kernel)) fun h O B L => readV_ok (fun a o e => B.keep a o (H.X a o e)) 4 _ _ (read_tables _)
include hT
set_option maxHeartbeats 2000000 in
theorem c_filemode (m : Int) : Calls C 2 (.ref 195) [(.int m, false)] (.str (filemodeF m), false) := by
  refine callOf H hT (a := 195) ["mode"] (ds := [.int m]) [("mode", (.int m, false))] k_filemode cd_filemode ?_ (fun
    | [v], _ => rfl)
  walk_at "letn"
  refine Xs.forS (ds := enumV tablesV) (fun (b : List Str) => [("perm", (.list (b.map .str), true)), ("mode", (.int m, false))])
    (fun ds b => ∃ (rest : List (List (Int × Str))) (i : Nat), ds = (rest.zipIdx i).map (fun p => V.tuple [.int (p.2 : Int), tableV p.1]) ∧ (∀ t ∈ rest, t ∈ tables) ∧ i + rest.length ≤ 10 ∧ b.length = i ∧ b ++ (rest.zipIdx i).map (fun p => signAt m p.2 p.1) = fileSigns m) [] ?_ ?_ ?_ ?_ ?_
  · refine' EvW.enumT ?h1 ?h2 ?h3 ?h4
    case h1 => walk_at "boot"
    case h2 =>
      refine' EvA.cons ?h5 EvA.nil ?h6
      case h5 => exact ev_tables H (by decide +kernel)
      case h6 => intro _; rfl
    case h3 => intro _; rfl
    case h4 => intro _; rfl
  · walk_at "cov"
  · exact ⟨tables, 0, rfl, fun t h => h, by decide, rfl, rfl⟩
  · rintro d ds b ⟨rest, i, hds, hin, hi, hb, hfold⟩
    cases rest with
    | nil => cases hds
    | cons t rest =>
      simp only [List.zipIdx_cons, List.map_cons, List.cons.injEq] at hds hfold
      obtain ⟨rfl, rfl⟩ := hds
      simp only [List.length_cons] at hi
      refine ⟨[("table", (tableV t, false)), ("index", (.int i, false)), ("perm", (.list (b.map .str), true)), ("mode", (.int m, false))], by walk_at "tgt", ?_⟩
      have hend : ∀ sg : Str, sg = signAt m i t → ∃ b' : List Str, (∃ (rest' : List (List (Int × Str))) (j : Nat), (rest.zipIdx (i + 1)).map (fun p => V.tuple [.int (p.2 : Int), tableV p.1]) = (rest'.zipIdx j).map (fun p => V.tuple [.int (p.2 : Int), tableV p.1]) ∧ (∀ t ∈ rest', t ∈ tables) ∧ j + rest'.length ≤ 10 ∧ b'.length = j ∧ b' ++ (rest'.zipIdx j).map (fun p => signAt m p.2 p.1) = fileSigns m) ∧ b' = b ++ [sg] := by
        rintro sg rfl
        refine ⟨b ++ [signAt m i t], ⟨rest, i + 1, rfl, fun t h => hin t (List.mem_cons_of_mem _ h), by omega, by simp [hb], ?_⟩, rfl⟩
        rw [← hfold, List.append_assoc]; rfl
      refine Xs.forS (ds := t.map pairV) (fun (_ : Unit) => [("table", (tableV t, false)), ("index", (.int i, false)), ("perm", (.list (b.map .str), true)), ("mode", (.int m, false))])
        (fun ds _ => ∃ r : List (Int × Str), ds = r.map pairV ∧ t.find? (hits m i) = r.find? (hits m i)) () ?_ ?_ ?_ ?_ ?_
      · unfold tableV; walk_at "iterw"
      · walk_at "cov"
      · exact ⟨t, rfl, rfl⟩
      · rintro d ds ⟨⟩ ⟨r, hr, hfind⟩
        cases r with
        | nil => cases hr
        | cons p r =>
          simp only [List.map_cons, List.cons.injEq] at hr
          obtain ⟨rfl, rfl⟩ := hr
          obtain ⟨bit, ch⟩ := p
          refine ⟨_, by show Tgt _ _ _ _ (.tuple [.int bit, .str ch]) _ _; walk_at "tgt", ?_⟩
          have hyes : hits m i (bit, ch) = true → signAt m i t = ch := fun h => by
            unfold signAt; rw [hfind, List.find?_cons_of_pos h]
          have hno : hits m i (bit, ch) = false → t.find? (hits m i) = r.find? (hits m i) := fun h => by
            rw [hfind, List.find?_cons_of_neg (by rw [h]; decide)]
          refine' Xs.if (b := ((i : Int) == 0)) ?ah1 ?ah2 ?ah3
          case ah1 => walk_at "tr"
          case ah2 =>
            intro h0
            have hi0 : i = 0 := by have := eq_of_beq h0; omega
            have hh : hits m i (bit, ch) = (Builtin.bitAnd m 61440 == bit) := by unfold hits; rw [if_pos hi0]
            refine' Xs.if (b := (Builtin.bitAnd m 61440 == bit)) ?bh1 ?bh2 ?bh3
            case bh1 => walk_at "tr"
            case bh2 =>
              intro hq
              walk_at "app"
              refine Xs.brk ?_
              obtain ⟨b', hI, e⟩ := hend ch (hyes (hh.trans hq)).symm
              refine Xs.nil ⟨b', hI, ?_⟩
              rw [e]
              walk_at "cov"
            case bh3 =>
              intro hq
              refine Xs.nil (Xs.nil (Xs.nil ⟨(), ⟨r, rfl, hno (hh.trans hq)⟩, ?_⟩))
              walk_at "cov"
          case ah3 =>
            intro h0
            have hi0 : ¬ i = 0 := by rintro rfl; exact absurd h0 (by decide)
            have hh : hits m i (bit, ch) = (Builtin.bitAnd m bit == bit) := by unfold hits; rw [if_neg hi0]
            refine' Xs.if (b := (Builtin.bitAnd m bit == bit)) ?bh1 ?bh2 ?bh3
            case bh1 => walk_at "tr"
            case bh2 =>
              intro hq
              walk_at "app"
              refine Xs.brk ?_
              obtain ⟨b', hI, e⟩ := hend ch (hyes (hh.trans hq)).symm
              refine Xs.nil ⟨b', hI, ?_⟩
              rw [e]
              walk_at "cov"
            case bh3 =>
              intro hq
              refine Xs.nil (Xs.nil (Xs.nil ⟨(), ⟨r, rfl, hno (hh.trans hq)⟩, ?_⟩))
              walk_at "cov"
      · rintro ⟨⟩ ⟨r, hr, hfind⟩
        cases r with
        | cons p r => cases hr
        | nil =>
          have hs : signAt m i t = if i = 0 then ("?" : Str) else "-" := by
            unfold signAt; rw [hfind]; rfl
          refine' Xs.if (b := ((i : Int) == 0)) ?ch1 ?ch2 ?ch3
          case ch1 => walk_at "tr"
          case ch2 =>
            intro h0
            have hi0 : i = 0 := by have := eq_of_beq h0; omega
            walk_at "app"
            obtain ⟨b', hI, e⟩ := hend "?" (by rw [hs, if_pos hi0])
            refine Xs.nil (Xs.nil (Xs.nil ⟨b', hI, ?_⟩))
            rw [e]
            walk_at "cov"
          case ch3 =>
            intro h0
            have hi0 : ¬ i = 0 := by rintro rfl; exact absurd h0 (by decide)
            walk_at "app"
            obtain ⟨b', hI, e⟩ := hend "-" (by rw [hs, if_neg hi0])
            refine Xs.nil (Xs.nil (Xs.nil ⟨b', hI, ?_⟩))
            rw [e]
            walk_at "cov"
  · rintro b ⟨rest, i, hds, hin, hi, hb, hfold⟩
    cases rest with
    | cons t rest => cases hds
    | nil =>
      simp only [List.zipIdx_nil, List.map_nil, List.append_nil] at hfold
      have hsm : ∀ x ∈ b, x.length ≤ 100 := by
        rw [hfold]
        intro x hx
        unfold fileSigns at hx
        obtain ⟨p, hp, rfl⟩ := List.mem_map.mp hx
        have := signAt_len m p.2 p.1 (List.fst_mem_of_mem_zipIdx hp)
        omega
      have hjo : JoinOk "" b = true := joinOk_small (by decide +kernel) hsm (by omega)
      refine Xs.nil ?_
      refine' Xs.ret (d := .str (Txt.join "" b)) ?r1 ?r2
      case r2 => unfold filemodeF; rw [hfold]
      case r1 => walk_at "ev"
end
end

local macro_rules | `(tactic| walk_at "callee") => `(tactic| ((with_reducible refine' Calls.mono ?h ?k); (case h => ((with_reducible apply c_signs) <;> (walk_at "side"))); (case k => omega)))
local macro_rules | `(tactic| walk_at "callee") => `(tactic| ((with_reducible refine' Calls.mono ?h ?k); (case h => ((with_reducible apply c_filemode) <;> (walk_at "side"))); (case k => omega)))
section
noncomputable def cutB (tape : List UInt8) (pos n : Nat) : List UInt8 := (tape.drop pos).take n
section
variable {C : Ctx} {l : Nat} {sc : Scope} {ρ : Rho}
/-- a cut of octets -/
theorem Ev.sliceBytes {value : Expr} {lower upper : Expr} {p pos : Pos} {x : List UInt8} {lo hi : Nat} (h : Ev C l sc ρ value (.bytes x, false)) (hlo : Ev C l sc ρ lower (.int lo, false)) (hhi : Ev C l sc ρ upper (.int ((lo : Int) + (hi : Int)), false)) (hsz : x.length ≤ sizeLine) :
    Ev C l sc ρ (.Subscript value (.Slice (some lower) (some upper) none p) pos) (.bytes (cutB x lo hi), false) := by
  intro A s env O Q E R hs er hQ
  refine Subscript_ (h R hs er fun v₁ s₁ k₁ r₁ => ?_)
  refine wpAny_Slice (hlo R hs (er.ks k₁) fun vl s₂ k₂ pl => hhi R hs ((er.ks k₁).ks k₂) fun vu s₃ k₃ pu => wpAny_pure ?_)
  obtain ⟨t, rfl⟩ := vBytes r₁
  obtain ⟨t1, rfl⟩ := vInt pl
  obtain ⟨t2, rfl⟩ := vInt pu
  have kAll := k₁.trans (k₂.trans (k₃.trans (KS.push s₃ { cls := .type "slice", data := .fields #[.int lo t1, .int ((lo : Int) + (hi : Int)) t2, .none] } s₃.toks)))
  have hp : (KBy.picked x.toArray (some (lo : Int)) (some ((lo : Int) + (hi : Int)))).toList = cutB x lo hi := by
    have e : ((lo : Int) + (hi : Int)) = ((lo + hi : Nat) : Int) := by omega
    rw [e, KBc.picked_eq]
    simp only [List.size_toArray, Option.elim_some, PySem.clipAt_nat]
    unfold cutB
    apply List.ext_getElem?
    intro i
    simp only [List.getElem?_take, List.getElem?_drop]
    by_cases ha : lo ≤ x.length
    · rw [Nat.min_eq_left ha]
      by_cases hb : lo + hi ≤ x.length
      · rw [Nat.min_eq_left hb]
        by_cases h : i < hi
        · rw [if_pos h, if_pos (by omega)]
        · rw [if_neg h, if_neg (by omega)]
      · rw [Nat.min_eq_right (by omega)]
        by_cases h : i < x.length - lo
        · rw [if_pos h, if_pos (by omega)]
        · rw [if_neg h]
          split
          · exact (List.getElem?_eq_none (by omega)).symm
          · rfl
    · rw [Nat.min_eq_right (show x.length ≤ lo by omega), if_neg (by omega)]
      split
      · exact (List.getElem?_eq_none (by omega)).symm
      · rfl
  obtain ⟨ops, e⟩ := sub_ops (.Slice (some lower) (some upper) none p) (.bytes x.toArray t) (.ref s₃.heap.objs.size)
  refine tail_any (T := "bytes") (typeIs_bytes _ _ _) FB.slot_bytes_getitem.lookup (getItem_meets (typeIs_bytes _ _ _) (by decide) FB.slot_bytes_getitem FB.entry_bytes_getitem (FB.args_bytes_getitem_2 _ _) (KBc.meets_slice2 x.toArray t _ (.int (lo : Int) t1) (.int ((lo : Int) + (hi : Int)) t2))
    ⟨Heap.IsSliceOf.new _ _ _ _, Nat.le_trans (KBc.size_picked_le _ _ _) (by rw [List.size_toArray]; exact hsz), fun t' k => ?_⟩) e
  refine hQ _ _ (kAll.trans (KS.toks _ k)) ?_
  refine ⟨t', ?_⟩
  rw [← hp]
theorem iadd_ints (a b : Int) : Op2 C l (inplaceOp .Add) (.int a, false) (.int b, false) (.int (a + b), false) := by
  intro A s O Q E v₁ v₂ R B L h₁ h₂ h
  obtain ⟨t, rfl⟩ := vInt h₁; obtain ⟨u, rfl⟩ := vInt h₂
  exact PySem.P.iadd_int (h _ _ (KS.toks _ _) ⟨_, rfl⟩)
end
noncomputable abbrev rdEnv (S : Strm) (a : Addr) : Env := newEnv rdScope a mainGlobals S.cl (readQ ++ ".<locals>.") (some S.r) (.ref S.c') none builtinsNs

theorem PlL.look {h : Heap} {O : List Addr} {L : Addr} {i : Int} {t : Tok} (hL : L ∉ O) (x : PlL h L #[.int i t]) : VR h O (.list [.int i]) (.ref L) := by
  simp only [VR, VRs]
  exact ⟨L, _, rfl, hL, x, _, _, rfl, ⟨t, rfl⟩, rfl⟩

section
variable {C : Ctx} {l : Nat} {A : Around} {s : Shared} {Q : Value → Shared → Prop} {E : Value → Shared → Prop}
theorem rd_er (H : Prog C) (hT : C.T = []) {S : Strm} {tape : List UInt8} {a : Addr} {pos : Int} {u : Tok} {m : Str → Option Value} {ρ : Rho} {s' : Shared} (B : Base C s'.heap) (hS : S.At tape s'.heap) (hP : PlL s'.heap S.L #[.int pos u]) (hn : s'.heap.Ns a m)
    (hρ : ∀ x d, ρ.lookup x = some d → rdScope.names.lookup x = some .local ∧ ∃ v, m x = some v ∧ VVR s'.heap [] d v) :
    ER C (rdEnv S a) (("octets", (.bytes tape, false)) :: ("at", (.list [.int pos], false)) :: ρ) [] s' := by
  refine ⟨B, by show rdScope.kind = .function; decide +kernel, rfl, rfl, (fun a ha => nomatch ha), fun x d hx => ?_, fun n hk => ?_⟩
  · obtain ⟨t, hO⟩ := hS.cellO
    rw [List.lookup_cons] at hx
    by_cases h1 : x = Str.ofString "octets"
    · subst h1
      rw [beq_self_eq_true] at hx; cases hx
      exact ⟨_, .inr ⟨.inr (by show rdScope.names.lookup _ = _; decide +kernel), S.cOct, hS.oct, hO⟩, ⟨t, rfl⟩⟩
    · rw [beq_eq_false_iff_ne.mpr h1, List.lookup_cons] at hx
      by_cases h2 : x = Str.ofString "at"
      · subst h2
        rw [beq_self_eq_true] at hx; cases hx
        exact ⟨_, .inr ⟨.inr (by show rdScope.names.lookup _ = _; decide +kernel), S.cAt, hS.at', hS.cellA⟩, PlL.look (by simp) hP⟩
      · rw [beq_eq_false_iff_ne.mpr h2] at hx
        obtain ⟨hk, v, hm, hv⟩ := hρ x d hx
        exact ⟨v, .inl ⟨hk, m, hn, hm⟩, hv⟩
  · have hno : ∀ y ∈ rdScope.names, y.2 ≠ .cell := by decide +kernel
    have hk' : rdScope.names.lookup n = some .cell := hk
    rw [lookup_find] at hk'
    obtain ⟨z, hz, e⟩ := Option.map_eq_some_iff.mp hk'
    exact absurd e (hno z (List.mem_of_find?_eq_some hz))

set_option maxHeartbeats 1000000 in
theorem c_read (H : Prog C) (hT : C.T = []) {S : Strm} {tape : List UInt8} {pos n : Nat} {t u : Tok} (R : Room (l + 1) A) (B : Base C s.heap) (hS : S.At tape s.heap) (hP : PlL s.heap S.L #[.int pos u]) (hG : C.G.get? S.L = none)
    (hz : tape.length ≤ 1000) (hpn : pos + n ≤ 100000)
    (h : ∀ t' u' s', KSL S.L s s' → PlL s'.heap S.L #[.int (pos + (cutB tape pos n).length : Nat) u'] → Q (.bytes (cutB tape pos n).toArray t') s') :
    wpAny (model C.prog C.w) A (call (.ref S.r) [.int n t]) Q E s := by
  have hsz : tape.length ≤ sizeLine := by rw [sizeLine_eq]; omega
  have hcz : (cutB tape pos n).length ≤ sizeLine := by unfold cutB; rw [List.length_take, List.length_drop, sizeLine_eq]; omega
  have hcd : s.heap.CodeRec (.ref S.c') readQ := by
    obtain ⟨o, vs, tk, e, d, v⟩ := hS.code
    exact ⟨S.c', o, vs, tk, rfl, e, d, v⟩
  refine wpAny_call (codeAny_call_function R.room hS.rd rfl (by show rdScope.isCoroutine = false; decide +kernel) (by show rdScope.isGenerator = false; decide +kernel) rfl hcd ?_)
  refine wpAny_mono (Q := fun binds s₁ => binds = [(Str.ofString "count", .int n t)] ∧ s₁ = s) (E := fun _ _ => False) (wpAny_of_eq (a := [(Str.ofString "count", Value.int n t)]) (by rfl) ⟨rfl, rfl⟩) (fun binds s₁ hb => ?_) fun _ _ e => e.elim
  obtain ⟨rfl, rfl⟩ := hb
  refine wpAny_newFunctionEnv (by show ∀ x ∈ rdScope.names, x.2 ≠ .cell; decide +kernel) (by show ∀ x ∈ [(Str.ofString "count", Value.int n t)], rdScope.names.lookup x.1 = some .local; intro x hx; rw [List.mem_singleton] at hx; subst hx; show rdScope.names.lookup (Str.ofString "count") = some .local; decide +kernel) (fun h₁ hns hsb => ⟨((C.lim.keeps B.keep)).fresh _ hsb, codeAny_func ?_⟩) (by show rdScope.kind = .function; decide +kernel)
  have hk₁ : ∀ b o, s₁.heap.get? b = some o → h₁.get? b = some o := fun b o e => hsb.extBut b o (Nat.ne_of_lt (Heap.lt_size e)) (Heap.get?_push_of_some _ e)
  have hk : KS [] s₁ { s₁ with heap := h₁, toks := s₁.toks + 1 } := KS.of hk₁
  show wpAny _ (A.deeper (rdEnv S s₁.heap.objs.size)) (execs rdBody (rdEnv S s₁.heap.objs.size)) _ _ { s₁ with heap := h₁, toks := s₁.toks + 1 }
  have R' := R.deeper (rdEnv S s₁.heap.objs.size)
  have B₁ : Base C h₁ := ⟨fun b o e => hk₁ b o (B.keep b o e), fun t ht => by rw [hT] at ht; cases ht⟩
  have hS₁ : S.At tape h₁ := hS.keep fun b _ o e _ => hk₁ b o e
  have hP₁ : PlL h₁ S.L #[.int pos u] := plL_at hP fun o e => hk₁ _ o e
  have hE₁ := rd_er H hT (s' := { s₁ with heap := h₁, toks := s₁.toks + 1 }) (a := s₁.heap.objs.size) (ρ := [("count", (.int n, false))]) B₁ hS₁ hP₁ hns (fun x d hx => by
    rw [List.lookup_cons] at hx
    by_cases h1 : x = Str.ofString "count"
    · subst h1
      rw [beq_self_eq_true] at hx; cases hx
      exact ⟨by decide +kernel, _, by rfl, ⟨t, rfl⟩⟩
    · rw [beq_eq_false_iff_ne.mpr h1] at hx; cases hx)
  have hsc : (rdEnv S s₁.heap.objs.size).scope = rdScope := rfl
  refine wpAny_execs_cons (wpAny_Assign_Name ?_ rfl)
  refine' Ev.sliceBytes (l := l) (sc := rdScope) (lo := pos) (hi := n) ?a1 ?a2 ?a3 hsz R' hsc hE₁ (fun v s₂ k₂ r₂ => ?_)
  case a1 => walk_at "ev"
  case a2 => walk_at "ev"
  case a3 => walk_at "ev"
  rw [hT] at k₂
  obtain ⟨t₂, rfl⟩ := vBytes r₂
  have kp₂ : ∀ b o, s₁.heap.get? b = some o → s₂.heap.get? b = some o := fun b o e => k₂.keep b o (by simp) (hk₁ b o e)
  have hn₂ := hns.at' fun o e => k₂.keep _ o (by simp) e
  refine wpAny_storeName_local (env := rdEnv S s₁.heap.objs.size) (by show rdScope.names.lookup _ = _; decide +kernel) hn₂ (fun h₃ hn₃ hs₃ => ?_) (by rw [show (rdEnv S s₁.heap.objs.size).scope.kind = .function by show rdScope.kind = .function; decide +kernel]; rfl)
  have kp₃ : ∀ b o, s₁.heap.get? b = some o → h₃.get? b = some o := fun b o e => hs₃.extBut b o (Nat.ne_of_lt (Heap.lt_size e)) (kp₂ b o e)
  have B₃ : Base C h₃ := ⟨fun b o e => kp₃ b o (B.keep b o e), fun t ht => by rw [hT] at ht; cases ht⟩
  have hS₃ : S.At tape h₃ := hS.keep fun b _ o e _ => kp₃ b o e
  have hP₃ : PlL h₃ S.L #[.int pos u] := plL_at hP fun o e => kp₃ _ o e
  have er : ∀ {s' : Shared} {i : Int} {u : Tok}, Base C s'.heap → S.At tape s'.heap → PlL s'.heap S.L #[.int i u] → s'.heap.Ns s₁.heap.objs.size (fun x => if x = Str.ofString "piece" then some (.bytes (cutB tape pos n).toArray t₂) else List.lookup x [(Str.ofString "count", Value.int (↑n) t)].reverse) →
      ER C (rdEnv S s₁.heap.objs.size) [("octets", (.bytes tape, false)), ("at", (.list [.int i], false)), ("piece", (.bytes (cutB tape pos n), false))] [] s' := fun {s' i u} hB hS hP hN =>
    rd_er H hT (s' := s') (a := s₁.heap.objs.size) (ρ := [("piece", (.bytes (cutB tape pos n), false))]) hB hS hP hN (fun x d hx => by
    rw [List.lookup_cons] at hx
    by_cases h1 : x = Str.ofString "piece"
    · subst h1
      rw [beq_self_eq_true] at hx; cases hx
      exact ⟨by decide +kernel, _, if_pos rfl, ⟨t₂, rfl⟩⟩
    · rw [beq_eq_false_iff_ne.mpr h1] at hx; cases hx)
  show wpAny _ _ (execs (_ :: _) _) _ _ _
  refine wpAny_execs_cons (wpAny_AugAssign_SubscriptAny ?_ (by intro _ _ _; rfl))
  refine wpAny_Name (wpAny_loadName_free (c := S.cAt) (v := .ref S.L) (by show rdScope.kind = .function; decide +kernel) (by show rdScope.names.lookup _ = _; decide +kernel) hS.at' hS₃.cellA ?_) (by decide +kernel)
  refine wpAny_Constant_int ?_
  refine wpAny_getItem_list (x := .int pos u) hP₃.isList (by decide) (by decide) rfl ?_
  have ks₄ : KS C.T ({ s₂ with heap := h₃, toks := s₂.toks + 1 } : Shared) { s₂ with heap := h₃, toks := s₂.toks + 1 + 1 } := KS.toks _ _
  have er₄ := er (s' := { s₂ with heap := h₃, toks := s₂.toks + 1 + 1 }) B₃ hS₃ hP₃ hn₃
  refine' Ev.callBuiltin (l := l) (sc := rdScope) (ρ := [("octets", (.bytes tape, false)), ("at", (.list [.int pos], false)), ("piece", (.bytes (cutB tape pos n), false))]) ?hf ?ha (op_len_bytes _ hcz) ?hn ?hp ?he R' hsc er₄ (fun v s₅ k₅ r₅ => ?_)
  case hf => walk_at "boot"
  case ha => walk_at "args"
  case hn => intro _; rfl
  case hp => intro _ _; rfl
  case he => intro _; rfl
  rw [hT] at k₅
  obtain ⟨t₅, rfl⟩ := vInt r₅
  have kp₅ : ∀ b o, h₃.get? b = some o → s₅.heap.get? b = some o := fun b o e => k₅.keep b o (by simp) e
  refine PySem.P.iadd_int ?_
  obtain ⟨_, nL, hoL, rfl⟩ := plL_at hP₃ fun o e => kp₅ _ o e
  refine ki_setAt (n := nL) (items := #[.int pos u]) hoL (by decide) (by decide) (by show (0 : Int) < ((1 : Nat) : Int); decide) ?_
  generalize hH : s₅.heap.update S.L (Obj.mapSeq (·.setIfInBounds (0 : Int).toNat (.int ((pos : Int) + ((cutB tape pos n).length : Nat)) s₅.toks))) = h₆
  have hs₆ : Heap.SameBut S.L s₅.heap h₆ := by rw [← hH]; exact Heap.SameBut.update ..
  have hP₆ : PlL h₆ S.L #[.int ((pos + (cutB tape pos n).length : Nat) : Int) s₅.toks] := by
    refine ⟨_, nL, ?_, rfl⟩
    rw [← hH, Heap.get?_update_self _ hoL (by rfl)]
    have : ((pos + (cutB tape pos n).length : Nat) : Int) = (pos : Int) + ((cutB tape pos n).length : Nat) := by omega
    rw [this]
    rfl
  have kp₆ : ∀ b o, b ≠ S.L → s₁.heap.get? b = some o → h₆.get? b = some o := fun b o hb e => hs₆.extBut b o hb (kp₅ b o (kp₃ b o e))
  have hL₁ : ∀ b o, s₁.heap.get? b = some o → (∀ its n, o.data ≠ .seq its n) → b ≠ S.L := fun b o e hd q => by
    obtain ⟨o', n', e', d'⟩ := hP
    rw [← q, e] at e'; cases e'; exact hd _ _ (by rw [d'])
  have hS₆ : S.At tape h₆ := hS.keep fun b _ o e hd => kp₆ b o (hL₁ b o e hd) e
  have B₆ : Base C h₆ := ⟨fun b o e => kp₆ b o (fun q => by rw [q, hG] at e; cases e) (B.keep b o e), fun t ht => by rw [hT] at ht; cases ht⟩
  have hn₆ : h₆.Ns s₁.heap.objs.size _ := (hn₃.at' fun o e => kp₅ _ o e).sameBut hs₆ (Ne.symm (Nat.ne_of_lt (by obtain ⟨o, n', e, _⟩ := hP; exact Heap.lt_size e)))
  show wpAny _ _ (execs (_ :: _) _) _ _ _
  refine wpAny_execs_cons (wpAny_Return_some (Ev.name (l := l) (sc := rdScope) (d := (.bytes (cutB tape pos n), false)) (look_there (by decide +kernel) (look_there (by decide +kernel) look_here)) (by decide +kernel) (by decide +kernel) R' hsc (er (s' := { s₅ with heap := h₆, toks := s₅.toks + 1 }) B₆ hS₆ hP₆ hn₆) fun v s₇ k₇ r₇ => ?_))
  rw [hT] at k₇
  obtain ⟨t₇, rfl⟩ := vBytes r₇
  refine h t₇ s₅.toks s₇ ⟨?_, fun b o hb e => k₇.keep b o (by simp) (kp₆ b o hb e)⟩ (plL_at hP₆ fun o e => k₇.keep _ o (by simp) e)
  obtain ⟨⟨a1, a2, rfl⟩, _⟩ := k₂
  obtain ⟨⟨b1, b2, rfl⟩, _⟩ := k₅
  obtain ⟨⟨c1, c2, rfl⟩, _⟩ := k₇
  exact ⟨_, _, rfl⟩
end
end

section
noncomputable def frs (fs : List Env) : List Addr := fs.filterMap (·.frame)
/-- the frames around stand -/
noncomputable def FramesOk (fs : List Env) (h : Heap) : Prop := ∀ env ∈ fs, env.scope.kind ≠ .module ∧ ∃ L o es ep, env.frame = some L ∧ h.get? L = some o ∧ o.data = .dict es ep
theorem FramesOk.funFrames {base h : Heap} : ∀ {fs : List Env}, FramesOk fs h → (∀ a ∈ frs fs, base.get? a = none) → h.FunFrames base fs
  | [], _, _ => trivial
  | env :: fs, x, hb => by
    obtain ⟨hk, L, o, es, ep, hf, ho, hd⟩ := x env List.mem_cons_self
    refine ⟨hk, ⟨L, o, hf, hb L ?_, ho, fun vs q => by rw [hd] at q; cases q⟩, FramesOk.funFrames (fun e he => x e (List.mem_cons_of_mem _ he)) fun a ha => hb a ?_⟩
    · unfold frs; rw [List.filterMap_cons, hf]; exact List.mem_cons_self
    · unfold frs; rw [List.filterMap_cons, hf]; exact List.mem_cons_of_mem _ ha
theorem FramesOk.mem {h : Heap} {fs : List Env} (x : FramesOk fs h) {a : Addr} (ha : a ∈ frs fs) : ∃ o es ep, h.get? a = some o ∧ o.data = .dict es ep := by
  obtain ⟨env, he, hf⟩ := List.mem_filterMap.mp ha
  obtain ⟨_, L, o, es, ep, hf', ho, hd⟩ := x env he
  rw [hf] at hf'; cases hf'
  exact ⟨o, es, ep, ho, hd⟩
theorem FramesOk.at {h h' : Heap} {fs : List Env} (x : FramesOk fs h) (k : ∀ a o es ep, a ∈ frs fs → h.get? a = some o → o.data = .dict es ep → ∃ o', h'.get? a = some o' ∧ o'.data = .dict es ep) : FramesOk fs h' := fun env he => by
  obtain ⟨hk, L, o, es, ep, hf, ho, hd⟩ := x env he
  obtain ⟨o', ho', hd'⟩ := k L o es ep (List.mem_filterMap.mpr ⟨env, he, hf⟩) ho hd
  exact ⟨hk, L, o', es, ep, hf, ho', hd'⟩

/-- a ValueError flies -/
structure Thrown (X : List Addr) (fs : List Env) (s s' : Shared) (e : Addr) : Prop where
  same : ∃ h tk, s' = { s with heap := h, toks := tk }
  fly : ∃ a0, Heap.FlyingW (hideAll s.heap (X ++ frs fs)) fs e (.type "ValueError") a0 s'.heap
  slots : ∀ a ∈ frs fs, ∀ o, s.heap.get? a = some o → ∃ sl, s'.heap.get? a = some { o with slots := sl }

section
variable {C : Ctx} {l : Nat} {sc : Scope} {ρ : Rho}
theorem tr_bytes (x : List UInt8) (hx : x.length ≤ sizeLine) : Truth C l (.bytes x, false) (decide (x.length ≠ 0)) := by
  intro A s O Q E v R B L hv h
  obtain ⟨t, rfl⟩ := vBytes hv
  refine truthy_bytes (by rw [List.size_toArray]; rw [sizeLine_eq] at hx; omega) ?_
  have e : ((x.toArray.size : Int) != 0) = decide (x.length ≠ 0) := by
    rw [List.size_toArray]
    by_cases h0 : x.length = 0 <;> simp [h0]
  rw [e]; exact h _ (KS.toks _ _)
theorem op_item_bytes {x : List UInt8} {i : Nat} (hi : i < x.length) (hsz : x.length ≤ sizeLine) : Op2 C l getItem (.bytes x, false) (.int (i : Int), false) (.int (x.getD i 0).toNat, false) := by
  intro A s O Q E v₁ v₂ R B L h₁ h₂ h
  obtain ⟨t, rfl⟩ := vBytes h₁; obtain ⟨u, rfl⟩ := vInt h₂
  exact getItem_bytes (by rw [sizeLine_eq] at hsz; omega) (by omega) (by omega) (h _ _ (KS.toks _ _) ⟨_, rfl⟩)
theorem Ev.itemBytes {value slice : Expr} {pos : Pos} {x : List UInt8} {i : Nat} (h₁ : Ev C l sc ρ value (.bytes x, false)) (h₂ : Ev C l sc ρ slice (.int (i : Int), false)) (hi : i < x.length) (hsz : x.length ≤ sizeLine) : Ev C l sc ρ (.Subscript value slice pos) (.int (x.getD i 0).toNat, false) :=
  Ev.sub h₁ h₂ FB.slot_bytes_getitem.lookup (fun s O v hv => bytes_type s O v hv) (op_item_bytes hi hsz)

variable {s₀ s : Shared} {env : Env} {own : List (Str × Addr)} {A : Around} {Q : Flow → Shared → Prop} {E : Value → Shared → Prop}
/-- x = f.read(n) -/
theorem K.read {x fn : Str} {fp ap cp p pos : Pos} {arg : Expr} {rest : List Stmt} {n at' : Nat} {u : Tok} {S : Strm} {tape : List UInt8} (H : Prog C) (hT : C.T = []) (F : FR C s₀ env [] own ρ s) (R : Room (l + 1) A) (hs : env.scope = sc)
    (hf : ρ.lookup fn = some (.obj S.f, false)) (ha : Ev C (l + 1) sc ρ arg (.int n, false)) (hS : S.At tape s.heap) (hP : PlL s.heap S.L #[.int at' u]) (hG : C.G.get? S.L = none) (hz : tape.length ≤ 1000) (hpn : at' + n ≤ 100000)
    (hown : (Str.ofString "#", S.L) ∈ own) (hρ : ∀ d, ρ.lookup (Str.ofString "#") = some d → d.2 = false) (hD : S.D ≠ env.locals) (hc : env.cells = [])
    (k : ∀ s' u', FR C s₀ env [] (dropOwn x own) ((x, (.bytes (cutB tape at' n), false)) :: ρ) s' → S.At tape s'.heap → PlL s'.heap S.L #[.int (at' + (cutB tape at' n).length : Nat) u'] → wpAny (model C.prog C.w) A (execs rest env) Q E s')
    (hx : HasPlace sc x) (hxn : x ≠ Str.ofString "#")
    (hsw : ∀ env : Env, env.scope = sc → swapsWith (.Call (.Attribute (.Name fn fp) (Str.ofString "read") ap) [arg] [] cp) (some (.Name x p)) pos.line env = pure false)
    (hd : (fn == ("__debug__" : Str)) = false) (hcd : (fn == ("__classdict__" : Str)) = false)
    {pl : Env → Sem Bool} (hn : ∀ env, starEach [arg] env = [(false, eval arg env)])
    (he : ∀ env, eval (.Call (.Attribute (.Name fn fp) (Str.ofString "read") ap) [arg] [] cp) env = (do
      let ov ← eval (.Name fn fp) env
      standAt ap.atName
      let (f, first) ← holding [ov] (getMethod ov (Str.ofString "read") (pl env))
      callWith cp f first (backTo cp (starEach [arg] env)) [])) :
    wpAny (model C.prog C.w) A (execs (.Assign [.Name x p] (.Call (.Attribute (.Name fn fp) (Str.ofString "read") ap) [arg] [] cp) pos :: rest) env) Q E s := by
  refine wpAny_execs_cons (wpAny_Assign_Name ?_ (hsw env hs))
  refine MethodCall_ (pl := pl env) ?_ (he env)
  refine Ev.name (l := l) (sc := sc) (d := (.obj S.f, false)) hf hd hcd ⟨R.handled, by have := R.depth; omega, by have := R.units; omega⟩ hs F.er fun v s₁ k₁ r₁ => ?_
  cases vObj r₁
  rw [hT] at k₁
  have F₁ := F.ks (by rw [hT]; exact k₁)
  have hS₁ := hS.ks0 k₁
  have hP₁ := plL_at hP fun o e => k₁.keep _ o (by simp) e
  obtain ⟨h, g, d, t, os⟩ := s₁
  refine getMethod_fn (D := S.D) (v := .ref S.r) ⟨⟨S.fdL, S.sl, hS₁.fn⟩, hS₁.ns⟩ lk_fn_read (if_pos rfl) rfl ?_
  have k₂ : KS [] (⟨h, g, d, t, os⟩ : Shared) ⟨h, g, d, t + 1, os⟩ := KS.toks _ _
  have F₂ := F₁.ks (by rw [hT]; exact k₂)
  refine callWith_function (o := fnMade "_law_read" readQ rdParams rdBody rdScope S.cl S.doc S.pm S.c' S.ctv) (fd := fnX "_law_read" readQ rdParams rdBody rdScope S.cl .none .none S.doc S.pm none (.ref S.c') S.ctv) ?_
  rw [hn]
  refine evalArgs_plain (spliced_cons ?_)
  show wpAny _ _ (eval arg env) _ _ _
  refine ha R hs F₂.er fun w s₃ k₃ r₃ => spliced_nil ?_
  rw [hT] at k₃
  obtain ⟨t₃, rfl⟩ := vInt r₃
  have F₃ := F₂.ks (by rw [hT]; exact k₃)
  have hS₃ := hS₁.ks0 (k₂.trans k₃)
  have hP₃ := plL_at hP₁ fun o e => (k₂.trans k₃).keep _ o (by simp) e
  refine ⟨⟨hS₃.rd, rfl⟩, ?_⟩
  refine c_read H hT R F₃.base hS₃ hP₃ hG hz hpn fun t' u' s₄ k₄ hP₄ => ?_
  obtain ⟨F₄, g₄, gr₄⟩ := F₃.chg hown hρ k₄ hP₄
  have hS₄ := hS₃.ksl hP₃ k₄
  refine F₄.store' (hx.kind hs) (d := .bytes (cutB tape at' n)) ⟨t', rfl⟩ fun s₅ F₅ g₅ gr₅ kp₅ => ?_
  refine k s₅ u' F₅ (hS₄.go F₄ g₅ hD hc) (plL_at hP₄ fun o e => kp₅ _ o (fun q => ?_) (fun n c h => by rw [hc] at h; cases h) e)
  obtain ⟨m, cm, X, _⟩ := F₄.call
  exact list_not_ns hP₄.isList (q ▸ X.toInCall.ns)
end
end

section
theorem look_no {ρ : Rho} {x y : Str} {e : VV} (hn : (x == y) = false) (h : ρ.lookup x = none) : ((y, e) :: ρ).lookup x = none := by rw [List.lookup_cons, hn]; exact h
local macro_rules | `(tactic| walk_at "nolook") => `(tactic| first | (exact rfl) | ((refine look_no ?h1 ?h2); (case h1 => decide +kernel); (case h2 => walk_at "nolook")))
theorem Truth.to {C : Ctx} {l : Nat} {d : VV} {b b' : Bool} (h : Truth C l d b) (q : b = b') : Truth C l d b' := q ▸ h
theorem cutB_one {tape : List UInt8} {i : Nat} (h : i < tape.length) : cutB tape i 1 = [tape[i]] := by
  unfold cutB
  rw [List.drop_eq_getElem_cons h]
  rfl
theorem cutB_end {tape : List UInt8} {i n : Nat} (h : tape.length ≤ i) : cutB tape i n = [] := by
  unfold cutB
  rw [List.drop_eq_nil_of_le h]
  simp
section
variable {C : Ctx} {l : Nat} {A : Around} {s : Shared} {Q : Value → Shared → Prop} {E : Value → Shared → Prop}
theorem FR.ksl {s₀ s s' : Shared} {env : Env} {O₀ : List Addr} {own : List (Str × Addr)} {ρ : Rho} {L : Addr} (F : FR C s₀ env O₀ own ρ s') (h : s₀ = { s with heap := hideAll s.heap [L] }) : KSL L s s' := by
  subst h
  obtain ⟨m, cm, X, _⟩ := F.call
  obtain ⟨hp, tk, rfl, keep⟩ := X.done
  exact ⟨⟨_, _, rfl⟩, fun b o hb e => keep b o (hideAll_get _ e (by simpa using hb))⟩
set_option maxHeartbeats 1000000 in
/-- both ways of read_uint1 -/
theorem c_uint1 (H : Prog C) (hT : C.T = []) {S : Strm} {tape : List UInt8} {at' : Nat} {u : Tok} {fs : List Env} (R : Room (l + 2) A) (B : Base C s.heap) (hS : S.At tape s.heap) (hP : PlL s.heap S.L #[.int at' u]) (hG : C.G.get? S.L = none) (hz : tape.length ≤ 1000) (hat : at' ≤ 10000)
    (hA : A.frames = some fs) (hfs : FramesOk fs s.heap)
    (h : ∀ hlt : at' < tape.length, ∀ t' u' s', KSL S.L s s' → PlL s'.heap S.L #[.int (at' + 1 : Nat) u'] → Q (.int (tape[at']).toNat t') s')
    (hE : tape.length ≤ at' → ∀ e s', Thrown [S.L] fs s s' e → E (.ref e) s') :
    wpAny (model C.prog C.w) A (call (.ref 134) [.ref S.f]) Q E s := by
  have hDs : S.D ≠ s.heap.objs.size := by
    obtain ⟨o, es, ep, e, _⟩ := hS.ns
    exact Nat.ne_of_lt (Heap.lt_size e)
  refine enterH (C := C) (l := l + 1) (names := ["f"]) (ds := [.obj S.f]) (O₀ := []) (own := [(Str.ofString "#", S.L)]) [S.L] (by rw [hT]; simp) (by simpa using hG) (by simp) (fun a ha => nomatch ha) (by simp)
    (defAt H (a := 134) k_read_uint1 (by decide +kernel) cd_read_uint1) R B (fun a ha => ⟨_, by simp at ha; subst ha; exact hP⟩) ?_ (fun | [v], _ => rfl) rfl (by decide +kernel) (by decide +kernel) fun s₁ F k₁ => ?_
  · simp only [VRs, VR]; exact ⟨_, _, rfl, rfl, rfl⟩
  have R' := R.deeper (callEnvC (fdAt 134) s.heap.objs.size 134)
  have hA' := Around.frames_deeper (env := callEnvC (fdAt 134) s.heap.objs.size 134) hA
  have hc : (callEnvC (fdAt 134) s.heap.objs.size 134).cells = [] := by rfl
  have hfr : (callEnvC (fdAt 134) s.heap.objs.size 134).frame = some s.heap.objs.size := by rfl
  have hsc : (callEnvC (fdAt 134) s.heap.objs.size 134).scope = (fdAt 134).scope := rfl
  have hloc : (callEnvC (fdAt 134) s.heap.objs.size 134).locals = s.heap.objs.size := rfl
  generalize callEnvC (fdAt 134) s.heap.objs.size 134 = env at *
  have hS₁ := hS.ks0 k₁
  have hP₁ := plL_at hP fun o e => k₁.keep _ o (by simp) e
  refine' K.read (l := l) (sc := (fdAt 134).scope) (n := 1) H hT F R' hsc ?a1 ?a2 hS₁ hP₁ hG hz (by omega) (by simp) ?a3 (by rw [hloc]; exact hDs) hc ?a4 ?a5 ?a6 ?a7 ?a8 ?a9 ?a10 ?a11
  case a1 => exact look_here
  case a2 => exact Ev.const_int
  case a3 =>
    have h0 : List.lookup (Str.ofString "#") ([Str.ofString "f"].zip (plainVV [V.obj S.f])) = none := look_no (by decide +kernel) rfl
    intro d hd; rw [h0] at hd; cases hd
  case a5 => decide +kernel
  case a6 => decide +kernel
  case a7 => intro _ _; rfl
  case a8 => decide +kernel
  case a9 => decide +kernel
  case a10 => intro _; rfl
  case a11 => intro _; rfl
  case a4 =>
    intro s₂ u₂ F₂ hS₂ hP₂
    have hcz : (cutB tape at' 1).length ≤ sizeLine := by unfold cutB; rw [List.length_take, sizeLine_eq]; omega
    by_cases hlt : at' < tape.length
    · have hone := cutB_one hlt
      refine wpAny_execs_cons (wpAny_If ?_)
      refine Tr.plain (l := l) (sc := (fdAt 134).scope) (b := true) (Ev.name (d := (.bytes (cutB tape at' 1), false)) look_here (by decide +kernel) (by decide +kernel)) (Truth.to (tr_bytes (cutB tape at' 1) hcz) (by rw [hone]; rfl)) (by intro _; rfl) ⟨R'.handled, by have := R'.depth; omega, by have := R'.units; omega⟩ hsc F₂.er fun s₃ k₃ => ?_
      rw [if_pos rfl]
      have F₃ := F₂.ks k₃
      refine K.ret (sc := (fdAt 134).scope) (l := l) F₃ ⟨R'.handled, by have := R'.depth; omega, by have := R'.units; omega⟩ hsc (Ev.itemBytes (i := 0) (x := cutB tape at' 1) (Ev.name look_here (by decide +kernel) (by decide +kernel)) Ev.const_int (by rw [hone]; exact Nat.zero_lt_one) hcz) fun v s₄ F₄ k₄ r₄ => ?_
      obtain ⟨t', rfl⟩ : ∃ t', v = .int ((cutB tape at' 1).getD 0 0).toNat t' := by simpa only [VR] using r₄
      rw [hT] at k₃ k₄
      rw [hone] at hP₂
      have hP₄ := plL_at hP₂ fun o e => (k₃.trans k₄).keep _ o (by simp) e
      rw [hone]
      exact h hlt t' u₂ s₄ (F₄.ksl rfl) hP₄
    · have hle : tape.length ≤ at' := by omega
      have hone := cutB_end (n := 1) hle
      refine wpAny_execs_cons (wpAny_If ?_)
      refine Tr.plain (l := l) (sc := (fdAt 134).scope) (b := false) (Ev.name (d := (.bytes (cutB tape at' 1), false)) look_here (by decide +kernel) (by decide +kernel)) (Truth.to (tr_bytes (cutB tape at' 1) hcz) (by rw [hone]; rfl)) (by intro _; rfl) ⟨R'.handled, by have := R'.depth; omega, by have := R'.units; omega⟩ hsc F₂.er fun s₃ k₃ => ?_
      rw [if_neg Bool.false_ne_true]
      refine wpAny_execs_nil ?_
      have F₃ := F₂.ks k₃
      show wpAny _ _ (execs (_ :: _) env) _ _ _
      refine wpAny_execs_cons (Raise_madeB PySem.F.excCall_ValueError PySem.F.excRaise_ValueError R'.handled ?_ (by rfl) (by rfl))
      refine EvN.boot H (sc := (fdAt 134).scope) (by decide +kernel) n_ValueError b_ValueError (by decide +kernel) (by decide +kernel) hsc F₃.er ⟨rfl, ?_⟩
      refine spliced_cons (wpAny_Constant_str (k := 0) (pos := ⟨0, 0, 0, 0⟩) (spliced_nil ⟨by rw [sizeLine_eq]; exact Nat.le_of_ble_eq_true rfl, fun h' e hm => ?_⟩))
      have hksl := F₃.ksl (s := s) rfl
      have hnl : ∀ a ∈ frs fs, a ≠ S.L := fun a ha q => by
        obtain ⟨o, es, ep, eo, ed⟩ := hfs.mem ha
        obtain ⟨o', n', e', d'⟩ := hP
        rw [q, e'] at eo; cases eo; rw [d'] at ed; cases ed
      have hns : s₃.heap.Ns env.locals _ := F₃.call.choose_spec.choose_spec.1.toInCall.ns
      have hfr₃ : FramesOk (env :: fs) s₃.heap := fun ev hev => by
        rcases List.mem_cons.mp hev with rfl | hev
        · obtain ⟨o, es, ep, eo, ed, _⟩ := hns
          exact ⟨by rw [hsc]; decide +kernel, _, o, es, ep, by rw [hfr, ← hloc], eo, ed⟩
        · obtain ⟨hk, L, o, es, ep, hf, ho, hd⟩ := hfs ev hev
          exact ⟨hk, L, o, es, ep, hf, hksl.keep L o (hnl L (List.mem_filterMap.mpr ⟨ev, hev, hf⟩)) ho, hd⟩
      refine wpAny_leaves_madeW (base := hideAll s.heap ([S.L] ++ frs fs)) (h := s₃.heap) hA' hfr (fun b o q => hksl.keep b o (fun z => ?_) (of_hideAll _ q)) (hfr₃.funFrames fun a ha => ?_) hm.of fun h'' t x1 x2 x3 x4 => hE hle e _ ⟨?_, ⟨_, x1⟩, fun a ha o eo => ?_⟩
      · rw [z, hideAll_none _ (by simp)] at q; cases q
      · unfold frs at ha
        rw [List.filterMap_cons, hfr] at ha
        rcases List.mem_cons.mp ha with rfl | ha
        · cases q : (hideAll s.heap ([S.L] ++ frs fs)).get? s.heap.objs.size with
          | none => rfl
          | some o => have := of_hideAll _ q; rw [get?_new] at this; cases this
        · exact hideAll_none _ (List.mem_append_right _ ha)
      · obtain ⟨⟨p1, p2, rfl⟩, _⟩ := hksl
        exact ⟨_, _, rfl⟩
      · obtain ⟨o', es, ep, eo', ed⟩ := hfs.mem ha
        rw [eo] at eo'; cases eo'
        exact x4 a o (hm.keeps a o (hksl.keep a o (hnl a ha) eo)) fun vs q => by rw [ed] at q; cases q
end
end

section
open Builtin in
theorem lat_road {id : String} {b : Array UInt8} : _codecs.decodeRoad id b (PySem.Str.ofString "latin-1") none [] = (_codecs.runDecoder id _codecs.latin1Decoder none true b 0 [] >>= fun r => mkStr ⟨r.1⟩) := by kernel_rfl
open Builtin in
theorem lat_entry {c : UInt8} {cs : List UInt8} {t u : Tok} : «bytes.decode» ⟨[.bytes (c :: cs).toArray t, .str (PySem.Str.ofString "latin-1") u], []⟩ = (mkStr (PySem.Str.ofString "utf-8") >>= fun _ => mkStr (PySem.Str.ofString "latin-1") >>= fun e => mkStr (PySem.Str.ofString "bytes.decode") >>= fun d =>
    call (.builtin "_codecs.decode.text") [.bytes (c :: cs).toArray t, e, .none, d] >>= fun v => ret v) := by kernel_rfl
open Builtin in
theorem lat_entry0 {t u : Tok} : «bytes.decode» ⟨[.bytes #[] t, .str (PySem.Str.ofString "latin-1") u], []⟩ = (rule "bytes.decode.empty" >>= fun _ => retStr Str.empty) := by kernel_rfl
theorem args_decode_2 (a b : Value) : argsOk "bytes.decode" ⟨[a, b], []⟩ := by unfold argsOk; kernel_rfl
/-- these octets, read as latin-1, are the text -/
noncomputable def Dec (b : List UInt8) (x : Str) : Prop := (b = [] ∧ x = Str.empty) ∨ (b ≠ [] ∧ ∃ n : Nat, ∀ id, Builtin._codecs.runDecoder id Builtin._codecs.latin1Decoder none true b.toArray 0 [] = pure (x.cps, n))
open Builtin in
theorem meets_lat {b : Array UInt8} {t t1 t2 : Tok} {x d : Str} {n : Nat} (hd : ∀ id, _codecs.runDecoder id _codecs.latin1Decoder none true b 0 [] = pure (x.cps, n)) (hsz : x.length ≤ sizeLine) :
    Meets («_codecs.decode.text» ⟨[.bytes b t, .str (PySem.Str.ofString "latin-1") t1, .none, .str d t2], []⟩) (fun _ R s => R (.ok (.ret (.str x s.toks))) { s with toks := s.toks + 1 }) := by
  refine .of_wp fun prog w A R s h => ?_
  show wpAny _ _ (Bytes.bytesLike _ (.bytes b t) >>= fun r => _) _ _ s
  refine wpAny_bind (wpAny_of_eq KBd.like_eq ?_)
  refine wpAny_bind (wpAny_of_eq KBd.held_eq ?_)
  show wpAny _ _ (_codecs.decodeRoad _ b (PySem.Str.ofString "latin-1") none [] >>= fun v => _) _ _ s
  rw [lat_road, hd]
  refine wpAny_bind (wpAny_bind (wpAny_pure ?_))
  exact wpAny_mkStr (wpAny_pure ⟨_, rfl, h⟩) hsz
theorem meets_latin {b : List UInt8} {t u : Tok} {x : Str} (hd : Dec b x) (hsz : x.length ≤ sizeLine) :
    Meets (Builtin.«bytes.decode» ⟨[.bytes b.toArray t, .str (PySem.Str.ofString "latin-1") u], []⟩) (fun _ R s => ∀ t' k, R (.ok (.ret (.str x t'))) { s with toks := k }) := by
  refine .of_wp fun prog w A R s h => ?_
  rcases hd with ⟨rfl, rfl⟩ | ⟨hne, n, hd⟩
  · rw [show ([] : List UInt8).toArray = #[] from rfl, lat_entry0]
    refine wpAny_bind (wpAny_rule ?_)
    show wpAny _ _ (mkStr Str.empty >>= fun v => ret v) _ _ s
    exact wpAny_bind (wpAny_mkStr (wpAny_pure ⟨_, rfl, h _ _⟩) hsz)
  · cases b with
    | nil => exact absurd rfl hne
    | cons c cs =>
      rw [lat_entry]
      refine wpAny_bind (wpAny_mkStr ?_ (by decide))
      refine wpAny_bind (wpAny_mkStr ?_ (by decide))
      refine wpAny_bind (wpAny_mkStr ?_ (by decide))
      exact wpAny_bind (call_function_meets KBd.kind_text KBd.plain_text KBd.entry_text (KBd.args_text _ _ _ _) (meets_lat hd hsz) (wpAny_pure ⟨_, rfl, h _ _⟩))
section
variable {C : Ctx} {l : Nat} {sc : Scope} {ρ : Rho}
theorem op_decode {b : List UInt8} {x : Str} (hd : Dec b x) (hsz : x.length ≤ sizeLine) : Calls C l (.builtin "bytes.decode") [(.bytes b, false), (.str (PySem.Str.ofString "latin-1"), false)] (.str x, false) := by
  intro A s O Q E vs R B L hv h
  obtain ⟨_, _, rfl, h₁, _, _, rfl, h₂, rfl⟩ := hv
  obtain ⟨t, rfl⟩ := vBytes h₁; obtain ⟨u, rfl⟩ := vStr h₂
  exact call_meets FB.slot_bytes_decode (typeIs_bytes _ _ _) FB.entry_bytes_decode (args_decode_2 _ _) (meets_latin hd hsz) fun t' k => h _ _ (KS.toks _ _) ⟨_, rfl⟩
theorem Ev.mBytes {o : Expr} {name : Str} {apos pos : Pos} {e : Expr} {es : List Expr} {id : String} {x : List UInt8} {ds : List VV} {d : VV} (slot : Slot "bytes" name id) (hty : typeOf (.builtin id) = pure (.type "method_descriptor"))
    (h₁ : Ev C l sc ρ o (.bytes x, false)) (ha : EvA C l sc ρ (e :: es) ds) (hc : Calls C l (.builtin id) ((.bytes x, false) :: ds) d)
    (hn : ∀ env, starEach (e :: es) env = (false, eval e env) :: starEach es env)
    (hp : ∀ env pos, (backTo pos (starEach es env)).any (·.1) = false)
    {pl : Env → Sem Bool}
    (he : ∀ env, eval (.Call (.Attribute o name apos) (e :: es) [] pos) env = (do
      let ov ← eval o env
      standAt apos.atName
      let (f, first) ← holding [ov] (getMethod ov name (pl env))
      callWith pos f first (backTo pos (starEach (e :: es) env)) [])) : Ev C l sc ρ (.Call (.Attribute o name apos) (e :: es) [] pos) d :=
  Ev.meth h₁ FB.plainAttrs_bytes slot hty (fun s O v hv => ⟨bytes_type s O v hv, fun a ea => by obtain ⟨t, rfl⟩ := vBytes hv; cases ea⟩) ha hc hn hp he

variable {s₀ s : Shared} {env : Env} {own : List (Str × Addr)} {A : Around} {Q : Flow → Shared → Prop} {E : Value → Shared → Prop}
theorem FramesOk.fr {outer : List Env} (F : FR C s₀ env [] own ρ s) (h₀ : FramesOk outer s₀.heap) (hfr : env.frame = some env.locals) : FramesOk (env :: outer) s.heap := fun ev hev => by
  obtain ⟨m, cm, X, _⟩ := F.call
  rcases List.mem_cons.mp hev with rfl | hev
  · obtain ⟨o, es, ep, eo, ed, _⟩ := X.toInCall.ns
    exact ⟨by rw [F.kind]; decide, _, o, es, ep, hfr, eo, ed⟩
  · obtain ⟨hk, L, o, es, ep, hf, ho, hd⟩ := h₀ ev hev
    exact ⟨hk, L, o, es, ep, hf, X.toInCall.keep L o ho, hd⟩
theorem Thrown.back {X : List Addr} {fs : List Env} {s₁ s' : Shared} {e : Addr} (T : Thrown X fs s₁ s' e) {t : Nat} (h : s = { s₁ with toks := t }) : Thrown X fs s s' e := by
  subst h
  obtain ⟨⟨h, tk, rfl⟩, f, sl⟩ := T
  exact ⟨⟨h, tk, rfl⟩, f, sl⟩
set_option maxHeartbeats 1000000 in
/-- x = read_uint1(f) -/
theorem K.uint1 {x fn : Str} {f : Expr} {fp cp p pos : Pos} {rest : List Stmt} {at' : Nat} {u : Tok} {S : Strm} {tape : List UInt8} {outer : List Env} (H : Prog C) (F : FR C s₀ env [] own ρ s) (R : Room (l + 2) A) (hs : env.scope = sc) (hfun : EvN C sc f (.ref 134))
    (hf : ρ.lookup fn = some (.obj S.f, false)) (hS : S.At tape s.heap) (hP : PlL s.heap S.L #[.int at' u]) (hG : C.G.get? S.L = none) (hz : tape.length ≤ 1000) (hpn : at' ≤ 10000)
    (hown : (Str.ofString "#", S.L) ∈ own) (hρ : ρ.lookup (Str.ofString "#") = none) (hD : S.D ≠ env.locals) (hc : env.cells = [])
    (hA : A.frames = some (env :: outer)) (hfs : FramesOk outer s₀.heap) (hfr : env.frame = some env.locals)
    (k : ∀ hlt : at' < tape.length, ∀ s' u', FR C s₀ env [] (dropOwn x own) ((x, (.int (tape[at']).toNat, false)) :: ρ) s' → S.At tape s'.heap → PlL s'.heap S.L #[.int (at' + 1 : Nat) u'] → wpAny (model C.prog C.w) A (execs rest env) Q E s')
    (kE : tape.length ≤ at' → ∀ e s₁ s', FR C s₀ env [] own ρ s₁ → Thrown [S.L] (env :: outer) s₁ s' e → E (.ref e) s')
    (hx : HasPlace sc x) (hxn : x ≠ Str.ofString "#")
    (hsw : ∀ env : Env, env.scope = sc → swapsWith (.Call f [.Name fn fp] [] cp) (some (.Name x p)) pos.line env = pure false)
    (hd : (fn == ("__debug__" : Str)) = false) (hcd : (fn == ("__classdict__" : Str)) = false)
    (he : ∀ env, eval (.Call f [.Name fn fp] [] cp) env = (do callWith cp (← eval f env) [] (backTo cp (starEach [.Name fn fp] env)) (backToKw cp (keywordEach [] env)))) :
    wpAny (model C.prog C.w) A (execs (.Assign [.Name x p] (.Call f [.Name fn fp] [] cp) pos :: rest) env) Q E s := by
  refine wpAny_execs_cons (wpAny_Assign_Name ?_ (hsw env hs))
  refine Call_ (hfun hs F.er ?_) (he env)
  obtain ⟨c, dd, sl, e1⟩ := k_read_uint1 C.w.params
  refine callWith_function (o := ⟨c, dd, .func (fdAt 134), sl⟩) (fd := fdAt 134) ?_
  rw [show starEach [.Name fn fp] env = [(false, eval (.Name fn fp) env)] from rfl]
  refine evalArgs_plain (spliced_cons ?_)
  show wpAny _ _ (eval (.Name fn fp) env) _ _ _
  have Fc : FR C.calm s₀ env [] own ρ s := ⟨F.base.calm, F.kind, F.glob, F.blt, F.cells, (fun _ h => nomatch h), F.under, F.outer, F.lists, F.ownNew, F.apart, F.call⟩
  refine Ev.name (C := C.calm) (l := l) (sc := sc) (d := (.obj S.f, false)) hf hd hcd ⟨R.handled, by have := R.depth; omega, by have := R.units; omega⟩ hs Fc.er fun v s₁ k₁ r₁ => spliced_nil ?_
  cases vObj r₁
  have hS₁ := hS.ks0 k₁
  have hP₁ := plL_at hP fun o e => k₁.keep _ o (by simp [Ctx.calm]) e
  have F₁ := F.ks (k₁.lift)
  have B₁ := F₁.base
  refine ⟨⟨B₁.keep _ _ (H.X _ _ e1), rfl⟩, ?_⟩
  refine c_uint1 (C := C.calm) (l := l) H.calm rfl R B₁.calm hS₁ hP₁ hG hz hpn hA (FramesOk.fr F₁ hfs hfr) (fun hlt t' u' s₂ k₂ hP₂ => ?_) fun hle e s₂ T₂ => kE hle e s₁ s₂ F₁ T₂
  obtain ⟨F₂, g₂, gr₂⟩ := F₁.chg hown (fun d hd => by rw [hρ] at hd; cases hd) k₂ hP₂
  have hS₂ := hS₁.ksl hP₁ k₂
  refine F₂.store' (hx.kind hs) (d := .int (tape[at']).toNat) ⟨t', rfl⟩ fun s₅ F₅ g₅ gr₅ kp₅ => ?_
  refine k hlt s₅ u' F₅ (hS₂.go F₂ g₅ hD hc) (plL_at hP₂ fun o e => kp₅ _ o (fun q => ?_) (fun n c h => by rw [hc] at h; cases h) e)
  obtain ⟨m, cm, X, _⟩ := F₂.call
  exact list_not_ns hP₂.isList (q ▸ X.toInCall.ns)
end
end

section
section
variable {C : Ctx} {l : Nat} {A : Around} {s : Shared} {Q : Value → Shared → Prop} {E : Value → Shared → Prop}
set_option maxHeartbeats 1000000 in
theorem c_string1 (H : Prog C) (hT : C.T = []) {S : Strm} {tape : List UInt8} {at' n : Nat} {u : Tok} {x : Str} {fs : List Env} (R : Room (l + 3) A) (B : Base C s.heap) (hS : S.At tape s.heap) (hP : PlL s.heap S.L #[.int at' u]) (hG : C.G.get? S.L = none) (hz : tape.length ≤ 1000) (hat : at' ≤ 5000)
    (hA : A.frames = some fs) (hfs : FramesOk fs s.heap) (hlt : at' < tape.length) (hn : (tape[at']).toNat = n) (hcut : (cutB tape (at' + 1) n).length = n) (hdec : Dec (cutB tape (at' + 1) n) x) (hx : x.length ≤ 1000)
    (h : ∀ t' u' s', KSL S.L s s' → PlL s'.heap S.L #[.int (at' + 1 + n : Nat) u'] → Q (.str x t') s') :
    wpAny (model C.prog C.w) A (call (.ref 141) [.ref S.f]) Q E s := by
  have hDs : S.D ≠ s.heap.objs.size := by
    obtain ⟨o, es, ep, e, _⟩ := hS.ns
    exact Nat.ne_of_lt (Heap.lt_size e)
  have hn256 : n < 256 := by rw [← hn]; exact (tape[at']).toNat_lt
  have hnl : ∀ a ∈ frs fs, a ≠ S.L := fun a ha q => by
    obtain ⟨o, es, ep, eo, ed⟩ := hfs.mem ha
    obtain ⟨o', n', e', d'⟩ := hP
    rw [q, e'] at eo; cases eo; rw [d'] at ed; cases ed
  refine enterH (C := C) (l := l + 2) (names := ["f"]) (ds := [.obj S.f]) (O₀ := []) (own := [(Str.ofString "#", S.L)]) [S.L] (by rw [hT]; simp) (by simpa using hG) (by simp) (fun a ha => nomatch ha) (by simp)
    (defAt H (a := 141) k_read_string1 (by decide +kernel) cd_read_string1) R B (fun a ha => ⟨_, by simp at ha; subst ha; exact hP⟩) ?_ (fun | [v], _ => rfl) rfl (by decide +kernel) (by decide +kernel) fun s₁ F k₁ => ?_
  · simp only [VRs, VR]; exact ⟨_, _, rfl, rfl, rfl⟩
  have R' := R.deeper (callEnvC (fdAt 141) s.heap.objs.size 141)
  have hA' := Around.frames_deeper (env := callEnvC (fdAt 141) s.heap.objs.size 141) hA
  have hc : (callEnvC (fdAt 141) s.heap.objs.size 141).cells = [] := by rfl
  have hfr : (callEnvC (fdAt 141) s.heap.objs.size 141).frame = some s.heap.objs.size := by rfl
  have hsc : (callEnvC (fdAt 141) s.heap.objs.size 141).scope = (fdAt 141).scope := rfl
  have hloc : (callEnvC (fdAt 141) s.heap.objs.size 141).locals = s.heap.objs.size := rfl
  generalize callEnvC (fdAt 141) s.heap.objs.size 141 = env at *
  have hS₁ := hS.ks0 k₁
  have hP₁ := plL_at hP fun o e => k₁.keep _ o (by simp) e
  have hfs₀ : FramesOk fs (hideAll s.heap [S.L]) := hfs.at fun a o es ep ha e d => ⟨o, hideAll_get _ e (by simpa using hnl a ha), d⟩
  have Rl : Room l (A.deeper env) := R'.le (by omega)
  refine' K.uint1 (l := l) (sc := (fdAt 141).scope) H F R' hsc ?a1 ?a2 hS₁ hP₁ hG hz (by omega) (by simp) ?a3 (by rw [hloc]; exact hDs) hc hA' hfs₀ (by rw [hfr, hloc]) ?a4 (fun hle => absurd hlt (by omega)) ?a5 ?a6 ?a7 ?a8 ?a9 ?a10
  case a1 => walk_at "glob"
  case a2 => exact look_here
  case a3 => exact look_no (by decide +kernel) rfl
  case a5 => decide +kernel
  case a6 => decide +kernel
  case a7 => intro _ _; rfl
  case a8 => decide +kernel
  case a9 => decide +kernel
  case a10 => intro _; rfl
  case a4 =>
    intro hlt s₂ u₂ F₂ hS₂ hP₂
    rw [hn] at F₂
    -- assert
    have hge : ((0 : Int) ≤ (n : Int)) := by omega
    refine wpAny_execs_cons (wpAny_Assert_holds ?_)
    refine' Tr.cmp (l := l) (sc := (fdAt 141).scope) (b := true) ?b1 ?b2 ?b3 ?b4 Rl hsc F₂.er (fun s₃ k₃ => ⟨rfl, ?_⟩)
    case b1 => walk_at "ev"
    case b2 => walk_at "ev"
    case b3 => rw [show true = decide ((0 : Int) ≤ (n : Int)) by simp]; exact op_ge_int _ _
    case b4 => rfl
    have F₃ := F₂.ks k₃
    rw [hT] at k₃
    have hS₃ := hS₂.ks0 k₃
    have hP₃ := plL_at hP₂ fun o e => k₃.keep _ o (by simp) e
    refine' K.read (l := l) (sc := (fdAt 141).scope) (n := n) H hT F₃ (R'.le (by omega)) hsc ?c1 ?c2 hS₃ hP₃ hG hz (by omega) ?c12 ?c3 (by rw [hloc]; exact hDs) hc ?c4 ?c5 ?c6 ?c7 ?c8 ?c9 ?c10 ?c11
    case c1 => exact look_there (by decide +kernel) look_here
    case c2 => walk_at "ev"
    case c3 =>
      have h0 : List.lookup (Str.ofString "#") ((Str.ofString "n", ((V.int (n : Int), false) : VV)) :: [Str.ofString "f"].zip (plainVV [V.obj S.f])) = none := look_no (by decide +kernel) (look_no (by decide +kernel) rfl)
      intro d hd; rw [h0] at hd; cases hd
    case c5 => decide +kernel
    case c6 => decide +kernel
    case c7 => intro _ _; rfl
    case c8 => decide +kernel
    case c9 => decide +kernel
    case c10 => intro _; rfl
    case c11 => intro _; rfl
    case c12 => exact mem_dropOwn.mpr ⟨by simp, (show Str.ofString "#" ≠ Str.ofString "n" by decide +kernel)⟩
    case c4 =>
      intro s₄ u₄ F₄ hS₄ hP₄
      rw [hcut] at hP₄
      have hcz : (cutB tape (at' + 1) n).length ≤ sizeLine := by rw [hcut, sizeLine_eq]; omega
      refine wpAny_execs_cons (wpAny_If ?_)
      refine' Tr.cmp (l := l) (sc := (fdAt 141).scope) (b := true) ?d1 ?d2 ?d3 ?d4 Rl hsc F₄.er (fun s₅ k₅ => ?_)
      case d1 =>
        refine' Ev.callBuiltin ?hf ?ha (op_len_bytes (cutB tape (at' + 1) n) hcz) ?hn ?hp ?he
        case hf => walk_at "boot"
        case ha => walk_at "args"
        case hn => intro _; rfl
        case hp => intro _ _; rfl
        case he => intro _; rfl
      case d2 => exact Ev.name (d := (.int (n : Int), false)) (look_there (by decide +kernel) look_here) (by decide +kernel) (by decide +kernel)
      case d3 =>
        have e : true = (((cutB tape (at' + 1) n).length : Int) == (n : Int)) := by rw [hcut]; simp
        rw [e]; exact op_eq_int _ _
      case d4 => rfl
      rw [if_pos rfl]
      have F₅ := F₄.ks k₅
      refine' K.ret (sc := (fdAt 141).scope) (l := l) F₅ Rl hsc ?e1 (fun v s₆ F₆ k₆ r₆ => ?_)
      case e1 =>
        refine' Ev.mBytes (x := cutB tape (at' + 1) n) FB.slot_bytes_decode FB.type_bytes_decode ?f1 ?f2 (op_decode hdec (by rw [sizeLine_eq]; omega)) ?f3 ?f4 ?f5
        case f1 => walk_at "ev"
        case f2 => walk_at "args"
        case f3 => intro _; rfl
        case f4 => intro _ _; rfl
        case f5 => intro _; rfl
      obtain ⟨t', rfl⟩ : ∃ t', v = .str x t' := by simpa only [VR] using r₆
      rw [hT] at k₅ k₆
      have hP₆ := plL_at hP₄ fun o e => (k₅.trans k₆).keep _ o (by simp) e
      exact h t' u₄ s₆ (F₆.ksl rfl) hP₆
end
end

section
section
variable {M : Model} {A : Around} {E : Value → Shared → Prop} {s : Shared}
theorem setFlight_someW {base : Heap} {l : List Env} {e L : Addr} {cls a0 fl : Value} {Q : Unit → Shared → Prop} (hh : base.StaysIn s.heap ∧ base.get? e = none ∧ s.heap.FunFrames base l ∧ s.heap.TracedAtW base e cls a0 fl)
    (h : ∀ h', Heap.HeldW base l e cls a0 L h' → s.heap.UpToSlots h' → Q () { s with heap := h' }) : wpAny M A (setFlight (.ref e) (some L)) Q E s := by
  obtain ⟨hkb, hen, hl, oe, vs, T, oT, ts, he, hcls, hd, h1, hnT, hTe, hT, hdT, h3⟩ := hh
  have hsz : 3 < ts.size := (Array.getElem?_eq_some_iff.mp h3).1
  unfold setFlight
  refine wpAny_bind (wpAny_field he hd h1 ?_)
  rw [if_pos (show (Value.ref T != Value.none) = true from by simp)]
  generalize hH : s.heap.update T (Obj.mapFields (·.setIfInBounds 3 ((some L).elim Value.none fun f => rawInt f))) = h'
  have other : ∀ b, b ≠ T → h'.get? b = s.heap.get? b := fun b hb => by rw [← hH]; exact Heap.get?_update_other _ _ (Ne.symm hb)
  have isT : ∀ b o, s.heap.get? b = some o → (∀ vs, o.data ≠ .fields vs) → b ≠ T := fun b o hb hn q => by
    rw [q, hT] at hb; cases hb; exact hn ts hdT
  have hself : h'.get? T = some (Obj.mapFields (·.setIfInBounds 3 (rawInt L)) oT) := by
    rw [← hH]; exact Heap.get?_update_self _ hT (Obj.isFreed_of_fields (Obj.data_mapFields hdT _))
  refine wpAny_setField hT hdT hsz ?_
  have fin := h h' ⟨fun b o q => (other b fun z => by rw [z, hnT] at q; cases q).trans (hkb b o q), hen, hl.of_keeps fun b o hb hn => ⟨o, (other b (isT b o hb hn)).trans hb, rfl⟩,
    oe, vs, T, _, _, (other e (Ne.symm hTe)).trans he, hcls, hd, h1, hnT, hTe, hself, Obj.data_mapFields hdT _, by simp [hsz]⟩ fun b o hb hn => ⟨o.slots, (other b (isT b o hb hn)).trans hb⟩
  rw [← hH] at fin
  exact fin
/-- from where it is thrown to the try's own clauses -/
theorem thrown_on {base : Heap} {env : Env} {outer : List Env} {e L : Addr} {cls a0 : Value} {P : Value → Shared → Prop} {E' : Value → Value → Shared → Prop} {E'' : Value → Value → Shared → Prop} (hA : A.frames = some (env :: outer)) (hf : env.frame = some L) (hfly : Heap.FlyingW base (env :: outer) e cls a0 s.heap)
    (k : ∀ h', Heap.FlyingW base (env :: outer) e cls a0 h' → s.heap.UpToSlots h' → P (.ref e) { s with heap := h' }) :
    notedBy M A env (fun e s' => cameBackBy M A env (fun e s₁ => wpAny M A (noteFrame e env) (fun _ s₂ => wpAny M A (setFlight e none) (fun _ s₃ => P e s₃) (E' e) s₂) (E'' e) s₁) e s') (.ref e) s := by
  unfold notedBy
  refine wpAny_looks_onW hA hf hfly fun h₁ held₁ up₁ => ?_
  unfold cameBackBy
  obtain ⟨f1, f2, f3, oe, vs, T, oT, ts, he, hcls, hd, h1, hnT, hTe, hT, hdT, h3⟩ := id held₁
  refine wpAny_bind (wpAny_field (s := { s with heap := h₁ }) he hd h1 ?_)
  rw [if_neg (show ¬ ((Value.ref T == Value.none) = true) from Bool.false_ne_true)]
  rw [hf]
  refine setFlight_someW (base := base) (l := env :: outer) (cls := cls) (a0 := a0) (s := { s with heap := h₁ }) held₁ fun h₂ held₂ up₂ => ?_
  refine wpAny_noteFrame_againW hf held₂.2.2.2 ?_
  exact wpAny_landsW held₂ fun h₃ fly₃ up₃ => k h₃ fly₃ ((up₁.trans up₂).trans up₃)
end

section
variable {C : Ctx} {l : Nat} {sc : Scope} {ρ : Rho} {s₀ s : Shared} {env : Env} {own : List (Str × Addr)} {A : Around} {Q : Flow → Shared → Prop} {E : Value → Shared → Prop}
set_option maxHeartbeats 1000000 in
/-- x = read_string1(f) -/
theorem K.string1 {x fn : Str} {f : Expr} {fp cp p pos : Pos} {rest : List Stmt} {at' n : Nat} {u : Tok} {S : Strm} {tape : List UInt8} {y : Str} {outer : List Env} (H : Prog C) (F : FR C s₀ env [] own ρ s) (R : Room (l + 3) A) (hs : env.scope = sc) (hfun : EvN C sc f (.ref 141))
    (hf : ρ.lookup fn = some (.obj S.f, false)) (hS : S.At tape s.heap) (hP : PlL s.heap S.L #[.int at' u]) (hG : C.G.get? S.L = none) (hz : tape.length ≤ 1000)
    (hlt : at' < tape.length) (hn : (tape[at']).toNat = n) (hcut : (cutB tape (at' + 1) n).length = n) (hdec : Dec (cutB tape (at' + 1) n) y) (hyl : y.length ≤ 1000)
    (hown : (Str.ofString "#", S.L) ∈ own) (hρ : ρ.lookup (Str.ofString "#") = none) (hD : S.D ≠ env.locals) (hc : env.cells = [])
    (hA : A.frames = some (env :: outer)) (hfs : FramesOk outer s₀.heap) (hfr : env.frame = some env.locals)
    (k : ∀ s' u', FR C s₀ env [] (dropOwn x own) ((x, (.str y, false)) :: ρ) s' → S.At tape s'.heap → PlL s'.heap S.L #[.int (at' + 1 + n : Nat) u'] → wpAny (model C.prog C.w) A (execs rest env) Q E s')
    (hx : HasPlace sc x)
    (hsw : ∀ env : Env, env.scope = sc → swapsWith (.Call f [.Name fn fp] [] cp) (some (.Name x p)) pos.line env = pure false)
    (hd : (fn == ("__debug__" : Str)) = false) (hcd : (fn == ("__classdict__" : Str)) = false)
    (he : ∀ env, eval (.Call f [.Name fn fp] [] cp) env = (do callWith cp (← eval f env) [] (backTo cp (starEach [.Name fn fp] env)) (backToKw cp (keywordEach [] env)))) :
    wpAny (model C.prog C.w) A (execs (.Assign [.Name x p] (.Call f [.Name fn fp] [] cp) pos :: rest) env) Q E s := by
  refine wpAny_execs_cons (wpAny_Assign_Name ?_ (hsw env hs))
  refine Call_ (hfun hs F.er ?_) (he env)
  obtain ⟨c, dd, sl, e1⟩ := k_read_string1 C.w.params
  refine callWith_function (o := ⟨c, dd, .func (fdAt 141), sl⟩) (fd := fdAt 141) ?_
  rw [show starEach [.Name fn fp] env = [(false, eval (.Name fn fp) env)] from rfl]
  refine evalArgs_plain (spliced_cons ?_)
  show wpAny _ _ (eval (.Name fn fp) env) _ _ _
  have Fc : FR C.calm s₀ env [] own ρ s := ⟨F.base.calm, F.kind, F.glob, F.blt, F.cells, (fun _ h => nomatch h), F.under, F.outer, F.lists, F.ownNew, F.apart, F.call⟩
  refine Ev.name (C := C.calm) (l := l) (sc := sc) (d := (.obj S.f, false)) hf hd hcd (R.le (by omega)) hs Fc.er fun v s₁ k₁ r₁ => spliced_nil ?_
  cases vObj r₁
  have hS₁ := hS.ks0 k₁
  have hP₁ := plL_at hP fun o e => k₁.keep _ o (by simp [Ctx.calm]) e
  have F₁ := F.ks (k₁.lift)
  have B₁ := F₁.base
  refine ⟨⟨B₁.keep _ _ (H.X _ _ e1), rfl⟩, ?_⟩
  refine c_string1 (C := C.calm) (l := l) H.calm rfl R B₁.calm hS₁ hP₁ hG hz (by omega) hA (FramesOk.fr F₁ hfs hfr) hlt hn hcut hdec hyl fun t' u' s₂ k₂ hP₂ => ?_
  obtain ⟨F₂, g₂, gr₂⟩ := F₁.chg hown (fun d hd => by rw [hρ] at hd; cases hd) k₂ hP₂
  have hS₂ := hS₁.ksl hP₁ k₂
  refine F₂.store' (hx.kind hs) (d := .str y) ⟨t', rfl⟩ fun s₅ F₅ g₅ gr₅ kp₅ => ?_
  refine k s₅ u' F₅ (hS₂.go F₂ g₅ hD hc) (plL_at hP₂ fun o e => kp₅ _ o (fun q => ?_) (fun n c h => by rw [hc] at h; cases h) e)
  obtain ⟨m, cm, X, _⟩ := F₂.call
  exact list_not_ns hP₂.isList (q ▸ X.toInCall.ns)
end
end

section
/-- one place as a tape tells it -/
structure Item where
  d : Nat
  x : Str
  b : List UInt8
  lo : UInt8
  hi : UInt8
noncomputable def Item.enc (i : Item) : List UInt8 := [UInt8.ofNat i.d, UInt8.ofNat i.b.length] ++ i.b ++ [i.lo, i.hi]
structure Item.Ok (i : Item) : Prop where
  d : i.d < 256
  b : i.b.length < 256
  dec : Dec i.b i.x
  x : i.x.length ≤ 1000
noncomputable def Item.out (i : Item) : Nat × Str × Int := (i.d, i.x, Builtin.bitAnd ((i.lo.toNat : Int) + 256 * (i.hi.toNat : Int)) 4095)
noncomputable def Item.v (i : Item) : V := .tuple [.int i.d, .str i.x, .int (Builtin.bitAnd ((i.lo.toNat : Int) + 256 * (i.hi.toNat : Int)) 4095)]
theorem enc_len (i : Item) : i.enc.length = 4 + i.b.length := by unfold Item.enc; simp; omega
theorem ofNat_toNat {n : Nat} (h : n < 256) : (UInt8.ofNat n).toNat = n := by simp [UInt8.toNat_ofNat']; omega
section
variable {pre suf : List UInt8} {i : Item}
theorem enc_at0 : (pre ++ (i.enc ++ suf))[pre.length]? = some (UInt8.ofNat i.d) := by simp [Item.enc]
theorem enc_at1 : (pre ++ (i.enc ++ suf))[pre.length + 1]? = some (UInt8.ofNat i.b.length) := by simp [Item.enc]
theorem enc_lo : (pre ++ (i.enc ++ suf))[pre.length + 1 + 1 + i.b.length]? = some i.lo := by
  unfold Item.enc
  rw [List.getElem?_append_right (by omega), show pre.length + 1 + 1 + i.b.length - pre.length = 2 + i.b.length by omega]
  simp only [List.append_assoc]
  rw [List.getElem?_append_right (by simp), show 2 + i.b.length - [UInt8.ofNat i.d, UInt8.ofNat i.b.length].length = i.b.length by simp]
  rw [List.getElem?_append_right (Nat.le_refl _)]; simp
theorem enc_hi : (pre ++ (i.enc ++ suf))[pre.length + 1 + 1 + i.b.length + 1]? = some i.hi := by
  unfold Item.enc
  rw [List.getElem?_append_right (by omega), show pre.length + 1 + 1 + i.b.length + 1 - pre.length = 2 + (i.b.length + 1) by omega]
  simp only [List.append_assoc]
  rw [List.getElem?_append_right (by simp), show 2 + (i.b.length + 1) - [UInt8.ofNat i.d, UInt8.ofNat i.b.length].length = i.b.length + 1 by simp]
  rw [List.getElem?_append_right (by omega)]; simp
theorem enc_cut : cutB (pre ++ (i.enc ++ suf)) (pre.length + 1 + 1) i.b.length = i.b := by
  unfold cutB Item.enc
  rw [List.drop_append, List.drop_eq_nil_of_le (by omega), List.nil_append, show pre.length + 1 + 1 - pre.length = 2 by omega]
  simp
end
theorem at_of {tape : List UInt8} {k : Nat} {c : UInt8} (h : tape[k]? = some c) : ∃ hlt : k < tape.length, tape[k] = c := List.getElem?_eq_some_iff.mp h

section
variable {C : Ctx} {l : Nat} {sc : Scope} {ρ : Rho} {s₀ s : Shared} {env : Env} {own : List (Str × Addr)} {A : Around} {Q : Value → Shared → Prop} {E : Value → Shared → Prop}
theorem FR.calm {O₀ : List Addr} (F : FR C s₀ env O₀ own ρ s) : FR C.calm s₀ env O₀ own ρ s := ⟨F.base.calm, F.kind, F.glob, F.blt, F.cells, (fun _ h => nomatch h), F.under, F.outer, F.lists, F.ownNew, F.apart, F.call⟩
set_option maxHeartbeats 1000000 in
/-- read_uint1(f) within an expression, something to read -/
theorem EX.uint1 {fn : Str} {f : Expr} {fp cp : Pos} {at' : Nat} {u : Tok} {S : Strm} {tape : List UInt8} {outer : List Env} (H : Prog C) (F : FR C s₀ env [] own ρ s) (R : Room (l + 2) A) (hs : env.scope = sc) (hfun : EvN C sc f (.ref 134))
    (hf : ρ.lookup fn = some (.obj S.f, false)) (hS : S.At tape s.heap) (hP : PlL s.heap S.L #[.int at' u]) (hG : C.G.get? S.L = none) (hz : tape.length ≤ 1000) (hlt : at' < tape.length)
    (hown : (Str.ofString "#", S.L) ∈ own) (hρ : ρ.lookup (Str.ofString "#") = none)
    (hA : A.frames = some (env :: outer)) (hfs : FramesOk outer s₀.heap) (hfr : env.frame = some env.locals)
    (k : ∀ t' s' u', FR C s₀ env [] own ρ s' → S.At tape s'.heap → PlL s'.heap S.L #[.int (at' + 1 : Nat) u'] → Q (.int (tape[at']).toNat t') s')
    (hd : (fn == ("__debug__" : Str)) = false) (hcd : (fn == ("__classdict__" : Str)) = false)
    (he : ∀ env, eval (.Call f [.Name fn fp] [] cp) env = (do callWith cp (← eval f env) [] (backTo cp (starEach [.Name fn fp] env)) (backToKw cp (keywordEach [] env)))) :
    wpAny (model C.prog C.w) A (eval (.Call f [.Name fn fp] [] cp) env) Q E s := by
  refine Call_ (hfun hs F.er ?_) (he env)
  obtain ⟨c, dd, sl, e1⟩ := k_read_uint1 C.w.params
  refine callWith_function (o := ⟨c, dd, .func (fdAt 134), sl⟩) (fd := fdAt 134) ?_
  rw [show starEach [.Name fn fp] env = [(false, eval (.Name fn fp) env)] from rfl]
  refine evalArgs_plain (spliced_cons ?_)
  show wpAny _ _ (eval (.Name fn fp) env) _ _ _
  refine Ev.name (C := C.calm) (l := l) (sc := sc) (d := (.obj S.f, false)) hf hd hcd (R.le (by omega)) hs F.calm.er fun v s₁ k₁ r₁ => spliced_nil ?_
  cases vObj r₁
  have hS₁ := hS.ks0 k₁
  have hP₁ := plL_at hP fun o e => k₁.keep _ o (by simp [Ctx.calm]) e
  have F₁ := F.ks (k₁.lift)
  refine ⟨⟨F₁.base.keep _ _ (H.X _ _ e1), rfl⟩, ?_⟩
  refine c_uint1 (C := C.calm) (l := l) H.calm rfl R F₁.base.calm hS₁ hP₁ hG hz (by omega) hA (FramesOk.fr F₁ hfs hfr) (fun hlt t' u' s₂ k₂ hP₂ => ?_) fun hle e s₂ T₂ => absurd hlt (by omega)
  obtain ⟨F₂, g₂, gr₂⟩ := F₁.chg hown (fun d hd => by rw [hρ] at hd; cases hd) k₂ hP₂
  exact k t' s₂ u' F₂ (hS₁.ksl hP₁ k₂) hP₂

noncomputable abbrev rhoL (S : Strm) (dn : List Item) : Rho := [("listing", (.list (dn.map Item.v), true)), ("stream", (.obj S.f, false))]
structure LIn (C : Ctx) (s₀ : Shared) (env : Env) (S : Strm) (tape : List UInt8) (own : List (Str × Addr)) (dn : List Item) (s : Shared) : Prop where
  fr : FR C s₀ env [] own (rhoL S dn) s
  strm : S.At tape s.heap
  place : ∃ u, PlL s.heap S.L #[.int ((dn.flatMap Item.enc).length : Nat) u]
  mine : (Str.ofString "#", S.L) ∈ own

/-- the last statement of a turn: the tuple is made and taken in -/
theorem push_item {S : Strm} {tape : List UInt8} {dn : List Item} {it : Item} {vs : List Value} (F : FR C s₀ env [] own ρ s) (hl : ρ.lookup (Str.ofString "listing") = some (.list (dn.map Item.v), true)) (hst : ρ.lookup (Str.ofString "stream") = some (.obj S.f, false))
    (hS : S.At tape s.heap) (hP : ∃ u, PlL s.heap S.L #[.int (((dn ++ [it]).flatMap Item.enc).length : Nat) u]) (hown : (Str.ofString "#", S.L) ∈ own) {a : Addr} (ha : (Str.ofString "listing", a) ∈ own)
    (hv : VRs s.heap (ownO own []) [.int it.d, .str it.x, .int (Builtin.bitAnd ((it.lo.toNat : Int) + 256 * (it.hi.toNat : Int)) 4095)] vs) (hsz : dn.length ≤ 1000)
    (k : ∀ s', LIn C s₀ env S tape own (dn ++ [it]) s' → Q .none s') :
    wpAny (model C.prog C.w) A (newObj (.type "tuple") (.seq vs.toArray)) (fun t s₁ => wpAny (model C.prog C.w) A (call (.builtin "list.append") [.ref a, t]) Q E s₁) E s := by
  refine wpAny_newObj_type ?_ (by have := hv.length; show vs.toArray.size ≤ sizeLine; rw [List.size_toArray, this, sizeLine_eq]; exact Nat.le_of_ble_eq_true rfl)
  have k₁ : KS C.T s { s with heap := s.heap.push { cls := .type "tuple", data := .seq vs.toArray } } := KS.push _ _ s.toks
  have F₁ := F.ks k₁
  obtain ⟨a', items, ha', hp, hvs, hld⟩ := F₁.ownAt hl
  obtain rfl : a' = a := by
    rcases own_ne F.apart ha' ha with ⟨_, e⟩ | ⟨e, _⟩
    · exact e
    · exact absurd rfl e
  obtain ⟨u, hP⟩ := hP
  have hP₁ : PlL (s.heap.push { cls := .type "tuple", data := .seq vs.toArray }) S.L #[.int (((dn ++ [it]).flatMap Item.enc).length : Nat) u] := plL_at hP fun o e => Heap.get?_push_of_some _ e
  have hS₁ : S.At tape (s.heap.push { cls := .type "tuple", data := .seq vs.toArray }) := hS.keep fun b _ o e _ => Heap.get?_push_of_some _ e
  have hT : VR (s.heap.push { cls := .type "tuple", data := .seq vs.toArray }) (ownO own []) it.v (.ref s.heap.objs.size) := by
    unfold Item.v
    simp only [VR]
    exact ⟨_, vs.toArray, rfl, ⟨_, Heap.get?_push_size _ rfl, rfl, _, rfl⟩, by
      have := VRs.ks F.base hv k₁
      simpa using this⟩
  have hlen := hvs.length
  rw [Array.length_toList, List.length_map] at hlen
  refine wpAny_list_append_plain hp.plain (fun h' hp' hs' => ?_) (by rw [hlen, sizeLine_eq]; omega)
  obtain ⟨F', g, gr⟩ := F₁.mutate (ys := (dn ++ [it]).map Item.v) hl ha' hp hs' (PlL.of hp') (by rw [Array.toList_push, List.map_append]; exact hvs.append (VRs.one hT))
  have hne : S.L ≠ a' := by
    rcases own_ne F.apart hown ha' with ⟨e, _⟩ | ⟨_, e⟩
    · exact absurd e (by decide +kernel)
    · exact e
  refine k _ ⟨F'.sub fun x d hx => ?_, hS₁.keep fun b _ o e hd => hs'.extBut b o (fun q => ?_) e, ⟨u, plL_at hP₁ fun o e => hs'.extBut _ o hne e⟩, hown⟩
  · rw [List.lookup_cons] at hx
    by_cases h1 : x = Str.ofString "listing"
    · subst h1; rw [beq_self_eq_true] at hx; cases hx; exact look_here
    · rw [beq_eq_false_iff_ne.mpr h1, List.lookup_cons] at hx
      rw [List.lookup_cons, beq_eq_false_iff_ne.mpr h1]
      by_cases h2 : x = Str.ofString "stream"
      · subst h2; rw [beq_self_eq_true] at hx; cases hx; exact hst
      · rw [beq_eq_false_iff_ne.mpr h2] at hx; cases hx
  · obtain ⟨o', n', e', d'⟩ := hp
    rw [← q, e] at e'; cases e'; exact hd _ _ (by rw [d'])
end
end

section
/-- what a call of _law_listing leaves behind -/
structure Listed (T : List Addr) (fs : List Env) (s s' : Shared) (a : Addr) (its : List Item) : Prop where
  same : ∃ h tk, s' = { s with heap := h, toks := tk }
  keep : ∀ b o, b ∉ T → b ∉ frs fs → s.heap.get? b = some o → s'.heap.get? b = some o
  slots : ∀ b ∈ frs fs, ∀ o, s.heap.get? b = some o → ∃ sl, s'.heap.get? b = some { o with slots := sl }
  grown : GrownT T s'.heap
  new : s.heap.get? a = none
  list : ∃ items, PlL s'.heap a items ∧ VRs s'.heap [] (its.map Item.v) items.toList
theorem Item.any {h : Heap} {O O' : List Addr} {i : Item} {v : Value} (x : VR h O i.v v) : VR h O' i.v v := by
  unfold Item.v at x ⊢
  simpa only [VR, VRs] using x
theorem Item.anys {h : Heap} {O O' : List Addr} : ∀ {its : List Item} {vs : List Value}, VRs h O (its.map Item.v) vs → VRs h O' (its.map Item.v) vs
  | [], _, x => by simpa only [List.map_nil, VRs] using x
  | i :: its, _, x => by
    simp only [List.map_cons, VRs] at x ⊢
    obtain ⟨v, r, e, h1, h2⟩ := x
    exact ⟨v, r, e, Item.any h1, Item.anys h2⟩

section
variable {C : Ctx} {l : Nat} {A : Around} {s s₁ s' : Shared} {env : Env} {outer : List Env} {own : List (Str × Addr)}
theorem listing_end {S : Strm} {its : List Item} {e : Addr} {cls a0 : Value} {h₄ : Heap} (hT : C.T = [197]) (F : FR C { s with heap := hideAll s.heap [197] } env [] own (rhoL S its) s₁) (hown : (Str.ofString "#", S.L) ∈ own)
    (T : Thrown [S.L] (env :: outer) s₁ s' e) (hfly : Heap.FlyingW (hideAll s₁.heap ([S.L] ++ frs (env :: outer))) (env :: outer) e cls a0 h₄) (hup : s'.heap.UpToSlots h₄)
    (hfr : env.frame = some env.locals) (hloc : env.locals = s.heap.objs.size) (hLn : s.heap.get? S.L = none) (hB : Base C s.heap) (hfs : FramesOk outer s.heap) (hfG : ∀ a ∈ frs outer, C.G.get? a = none)
    (hkind : env.kindOf (Str.ofString "listing") = some .local) :
    Base C h₄ ∧ ∃ a m, h₄.Ns env.locals m ∧ m (Str.ofString "listing") = some (.ref a) ∧ Listed C.T outer s { s' with heap := h₄ } a its := by
  obtain ⟨m, cm, X, hvs⟩ := F.call
  have hGT : C.G.get? 197 = none := C.notab 197 (by rw [hT]; simp)
  have h197 : ∃ ps, s.heap.get? 197 = some (tabObj ps) := (hB.grown 197 (by rw [hT]; simp)).get
  have fs₁ : FramesOk outer s₁.heap := hfs.at fun a o es ep ha e d => ⟨o, X.toInCall.keep a o (hideAll_get _ e (fun q => by
    obtain ⟨ps, e'⟩ := h197
    simp at q; rw [q, e'] at e; cases e; cases d)), d⟩
  have hall : FramesOk (env :: outer) s₁.heap := fun ev hev => by
    rcases List.mem_cons.mp hev with rfl | hev
    · obtain ⟨o, es, ep, eo, ed, _⟩ := X.toInCall.ns
      exact ⟨by rw [F.kind]; decide, _, o, es, ep, hfr, eo, ed⟩
    · exact fs₁ ev hev
  have hfrs : ∀ b, b ∈ frs (env :: outer) ↔ b = env.locals ∨ b ∈ frs outer := fun b => by
    unfold frs
    rw [List.filterMap_cons, hfr, List.mem_cons]
  have kp : ∀ b o, b ≠ S.L → b ∉ frs (env :: outer) → s₁.heap.get? b = some o → h₄.get? b = some o := fun b o h1 h2 e => hfly.1 b o (hideAll_get _ e (fun q => by
    rcases List.mem_append.mp q with q | q
    · exact h1 (by simpa using q)
    · exact h2 q))
  obtain ⟨itL, hpL⟩ := F.lists S.L (List.mem_map.mpr ⟨_, hown, rfl⟩)
  have nL : ∀ b o, s₁.heap.get? b = some o → (∀ its n, o.data ≠ .seq its n) → b ≠ S.L := fun b o e hd q => by
    obtain ⟨o', n', e', d'⟩ := hpL
    rw [← q, e] at e'; cases e'; exact hd _ _ (by rw [d'])
  have nF : ∀ b o, s₁.heap.get? b = some o → (∀ es ep, o.data ≠ .dict es ep) → b ∉ frs (env :: outer) := fun b o e hd q => by
    obtain ⟨o', es, ep, e', d'⟩ := hall.mem q
    rw [e] at e'; cases e'; exact hd _ _ d'
  have sk : ∀ b o, b ∉ C.T → s.heap.get? b = some o → s₁.heap.get? b = some o := fun b o hb e => X.toInCall.keep b o (hideAll_get _ e (by rw [← hT]; exact hb))
  have hgr : GrownT C.T h₄ := fun t ht => (F.base.grown t ht).at fun b o vs e hd _ => kp b o (nL b o e (fun its n q => by rw [hd] at q; cases q)) (nF b o e (fun es ep q => by rw [hd] at q; cases q)) e
  refine ⟨⟨fun b o e => ?_, hgr⟩, ?_⟩
  · have e' := hB.keep b o e
    refine kp b o (fun q => by rw [q, hLn] at e'; cases e') (fun q => ?_) (F.base.keep b o e)
    rcases (hfrs b).mp q with q | q
    · rw [q, hloc, get?_new] at e'; cases e'
    · rw [hfG b q] at e; cases e
  · obtain ⟨a, items, ha, hp, hv, hld⟩ := F.ownAt (x := Str.ofString "listing") (xs := its.map Item.v) look_here
    have haL : a ≠ S.L := by
      rcases own_ne F.apart ha hown with ⟨e, _⟩ | ⟨_, e⟩
      · exact absurd e (by decide +kernel)
      · exact e
    have hns' : s'.heap.Ns env.locals m := by
      obtain ⟨o, es, ep, e, hd, r⟩ := X.toInCall.ns
      obtain ⟨sl, e'⟩ := T.slots env.locals ((hfrs _).mpr (.inl rfl)) o e
      exact ⟨_, es, ep, e', hd, r⟩
    have hm : m (Str.ofString "listing") = some (.ref a) := by
      rcases hld with ⟨_, m', hn', hm'⟩ | ⟨hk, _⟩
      · obtain ⟨o, es, ep, e, hd, _, r⟩ := X.toInCall.ns
        obtain ⟨o', es', ep', e', hd', _, r'⟩ := hn'
        rw [e] at e'; cases e'; rw [hd] at hd'; cases hd'
        rw [← r, r']; exact hm'
      · rw [hkind] at hk; rcases hk with hk | hk <;> cases hk
    have haF := nF a _ hp.choose_spec.choose_spec.1 (fun es ep q => by rw [hp.choose_spec.choose_spec.2] at q; cases q)
    have hp₄ : PlL h₄ a items := plL_at hp fun o e => kp a o haL haF e
    refine ⟨a, m, hup.ns hns', hm, ?_, fun b o h1 h2 e => ?_, fun b hb o e => ?_, hgr, ?_, items, hp₄, Item.anys (O := []) (VRs.tr (fun b its' hb z => ⟨by simp, ?_⟩) (fun b its' z => ?_) hv)⟩
    · obtain ⟨x1, x2, rfl, _⟩ := X.done
      obtain ⟨x3, x4, rfl⟩ := T.same
      exact ⟨_, _, rfl⟩
    · refine kp b o (fun q => by rw [q, hLn] at e; cases e) (fun q => ?_) (sk b o h1 e)
      rcases (hfrs b).mp q with q | q
      · rw [q, hloc, get?_new] at e; cases e
      · exact h2 q
    · obtain ⟨o', es, ep, e', d'⟩ := hfs.mem hb
      rw [e] at e'; cases e'
      have hbT : b ∉ C.T := fun q => by
        rw [hT] at q; simp at q
        obtain ⟨ps, e'⟩ := h197
        rw [q, e'] at e; cases e; cases d'
      obtain ⟨sl, e₂⟩ := T.slots b ((hfrs b).mpr (.inr hb)) o (sk b o hbT e)
      obtain ⟨sl', e₃⟩ := hup b _ e₂ (fun vs q => by dsimp only at q; rw [d'] at q; cases q)
      exact ⟨sl', e₃⟩
    · have hn := F.ownNew _ ha
      dsimp only at hn
      cases e : s.heap.get? a with
      | none => rfl
      | some o =>
        by_cases h7 : a = 197
        · obtain ⟨ps, e'⟩ := (F.base.grown 197 (by rw [hT]; simp)).get
          obtain ⟨o', n', e'', d'⟩ := hp
          rw [h7, e'] at e''; cases e''; cases d'
        · rw [hideAll_get _ e (by simpa using h7)] at hn; cases hn
    · exact plL_at z fun o e => kp b o (fun q => hb (q ▸ List.mem_append_left _ (List.mem_map.mpr ⟨_, hown, rfl⟩))) (nF b o e (fun es ep q => by
        obtain ⟨o', n', e', d'⟩ := z
        rw [e] at e'; cases e'; rw [d'] at q; cases q)) e
    · exact isTup_at z fun o e => kp b o (fun q => list_not_tup hpL.isList (q ▸ z)) (nF b o e (fun es ep q => by
        obtain ⟨o', e', _, n', d'⟩ := z
        rw [e] at e'; cases e'; rw [d'] at q; cases q)) e
end
end

section
theorem sub_VE : isSubtype (.type "ValueError") (.type "ValueError") = pure true := by rw [isSubtype_type]; kernel_rfl
theorem sub_VE_base : isSubtype (.type "ValueError") (.type "BaseException") = pure true := by rw [isSubtype_type]; kernel_rfl
theorem meta_VE : isSubtype (.type ((Manifest.find? "ValueError").elim "type" fun y => y.metatype)) (.type "tuple") = pure false := by rw [isSubtype_type]; kernel_rfl
section
variable {C : Ctx} {l : Nat} {A : Around} {s : Shared} {Q : Value → Shared → Prop} {E : Value → Shared → Prop}
set_option maxHeartbeats 4000000 in
theorem c_listing (H : Prog C) (hT : C.T = [197]) {its : List Item} {t : Tok} {fs : List Env} (R : Room (l + 4) A) (B : Base C s.heap) (hA : A.frames = some fs) (hfs : FramesOk fs s.heap) (hfG : ∀ a ∈ frs fs, C.G.get? a = none) (hok : ∀ i ∈ its, i.Ok) (hz : (its.flatMap Item.enc).length ≤ 1000)
    (h : ∀ a s', Listed C.T fs s s' a its → Q (.ref a) s') : wpAny (model C.prog C.w) A (call (.ref 228) [.bytes (its.flatMap Item.enc).toArray t]) Q E s := by
  have hGT : C.G.get? 197 = none := C.notab 197 (by rw [hT]; simp)
  have h197 : ∃ ps, s.heap.get? 197 = some (tabObj ps) := (B.grown 197 (by rw [hT]; simp)).get
  have hlen : its.length ≤ 1000 := by
    have : its.length ≤ (its.flatMap Item.enc).length := by
      clear hz h hok
      induction its with
      | nil => simp
      | cons i r ih => rw [List.flatMap_cons, List.length_append, enc_len, List.length_cons]; omega
    omega
  generalize htape : its.flatMap Item.enc = tape at *
  refine enterH (C := C) (l := l + 3) (names := ["tape"]) (ds := [.bytes tape]) (O₀ := []) (own := []) [197] (by rw [hT]; simp) (by simpa using hGT) (fun p hp => nomatch hp) (fun a ha => nomatch ha) List.Pairwise.nil
    (defAt H (a := 228) k_law_listing (by decide +kernel) cd_law_listing) R B (fun a ha => nomatch ha) ?_ (fun | [v], _ => rfl) rfl (by decide +kernel) (by decide +kernel) fun s₁ F k₁ => ?_
  · simp only [VRs, VR]; exact ⟨_, _, rfl, ⟨t, rfl⟩, rfl⟩
  have R' := R.deeper (callEnvC (fdAt 228) s.heap.objs.size 228)
  have hA' := Around.frames_deeper (env := callEnvC (fdAt 228) s.heap.objs.size 228) hA
  have hc : (callEnvC (fdAt 228) s.heap.objs.size 228).cells = [] := by rfl
  have hfr : (callEnvC (fdAt 228) s.heap.objs.size 228).frame = some s.heap.objs.size := by rfl
  have hsc : (callEnvC (fdAt 228) s.heap.objs.size 228).scope = (fdAt 228).scope := rfl
  have hloc : (callEnvC (fdAt 228) s.heap.objs.size 228).locals = s.heap.objs.size := rfl
  generalize callEnvC (fdAt 228) s.heap.objs.size 228 = env at *
  have hfr' : env.frame = some env.locals := by rw [hfr, hloc]
  have Rl : Room l (A.deeper env) := R'.le (by omega)
  have hfs₀ : FramesOk fs (hideAll s.heap [197]) := hfs.at fun a o es ep ha e d => ⟨o, hideAll_get _ e (fun q => by
    obtain ⟨ps, e'⟩ := h197
    simp at q; rw [q, e'] at e; cases e; cases d), d⟩
  have hnone : ∀ b, s₁.heap.get? b = none → s.heap.get? b = none := fun b hb => by
    cases e : s.heap.get? b with
    | none => rfl
    | some o => have := k₁.keep b o (by simp) e; rw [hb] at this; cases this
  -- the stream
  refine wpAny_execs_cons (wpAny_Assign_Name ?_ rfl)
  refine Call_ (EvN.glob H (sc := (fdAt 228).scope) (by decide +kernel) g_law_stream (by decide +kernel) hsc F.er ?_) rfl
  obtain ⟨c, dd, sl, e1⟩ := k_law_stream C.w.params
  refine callWith_function (o := ⟨c, dd, .func (fdAt 202), sl⟩) (fd := fdAt 202) ?_
  refine evalArgs_plain (spliced_cons ?_)
  show wpAny _ _ (eval (.Name _ _) env) _ _ _
  refine Ev.name (l := l) (sc := (fdAt 228).scope) (d := (.bytes tape, false)) look_here (by decide +kernel) (by decide +kernel) Rl hsc F.er fun v s₂ k₂ r₂ => spliced_nil ?_
  obtain ⟨t₂, rfl⟩ := vBytes r₂
  have F₂ := F.ks k₂
  refine ⟨⟨F₂.base.keep _ _ (H.X _ _ e1), rfl⟩, ?_⟩
  refine c_stream H hT (l := l) (R'.le (by omega)) F₂.base fun S s₃ k₃ hS₃ hP₃ hLn hDn => ?_
  obtain ⟨u₃, hP₃⟩ := hP₃
  have F₃ := F₂.adopt (x := Str.ofString "#") k₃ hLn hP₃ (fun p hp => nomatch hp)
  have hD : S.D ≠ env.locals := fun q => by
    obtain ⟨m, cm, X, _⟩ := F₂.call
    obtain ⟨o, es, ep, e, _⟩ := X.toInCall.ns
    rw [← q, hDn] at e; cases e
  have gr₂ := k₂.grows F.base.grown
  have hLs : s.heap.get? S.L = none := hnone _ (gr₂ _ hLn)
  have hG : C.G.get? S.L = none := by
    cases e : C.G.get? S.L with
    | none => rfl
    | some o => have := B.keep _ _ e; rw [hLs] at this; cases this
  have hst : VR s₃.heap (ownO [(Str.ofString "#", S.L)] []) (.obj S.f) (.ref S.f) := by simp only [VR]
  refine F₃.store' (x := Str.ofString "stream") (.inl (by rw [Env.kindOf, hsc]; decide +kernel)) hst fun s₄ F₄ g₄ gr₄ kp₄ => ?_
  have hS₄ := hS₃.go F₃ g₄ hD hc
  have hP₄ : PlL s₄.heap S.L #[.int 0 u₃] := plL_at hP₃ fun o e => kp₄ _ o (fun q => by
    obtain ⟨m, cm, X, _⟩ := F₃.call
    exact list_not_ns hP₃.isList (q ▸ X.toInCall.ns)) (fun n c h => by rw [hc] at h; cases h) e
  -- the list
  show wpAny _ _ (execs (_ :: _) env) _ _ _
  refine wpAny_execs_cons (wpAny_Assign_Name ?_ rfl)
  refine EvNew.display (l := l) (sc := (fdAt 228).scope) (ds := []) EvA.nil (by rw [sizeLine_eq]; decide) Rl hsc F₄.er fun a its₅ s₅ k₅ hn₅ hl₅ hv₅ => ?_
  refine F₄.storeNew' (x := Str.ofString "listing") k₅ (.inl (by rw [Env.kindOf, hsc]; decide +kernel)) hn₅ hl₅ hv₅ fun s₆ F₆ g₆ gr₆ kp₆ => ?_
  have hS₆ := hS₄.go F₄ g₆ hD hc
  have hP₆ : PlL s₆.heap S.L #[.int 0 u₃] := plL_at hP₄ fun o e => kp₆ _ o (nt_list F₄.base.grown hP₄.isList) (fun q => by
    obtain ⟨m, cm, X, _⟩ := F₄.call
    exact list_not_ns hP₄.isList (q ▸ X.toInCall.ns)) (fun n c h => by rw [hc] at h; cases h) e
  have L₆ : LIn C { s with heap := hideAll s.heap [197] } env S tape ((Str.ofString "listing", a) :: dropOwn (Str.ofString "listing") (dropOwn (Str.ofString "stream") [(Str.ofString "#", S.L)])) [] s₆ :=
    ⟨F₆.sub (fun x d hx => by
      rw [List.lookup_cons] at hx ⊢
      by_cases h1 : x = Str.ofString "listing"
      · subst h1; rw [beq_self_eq_true] at hx ⊢; exact hx
      · rw [beq_eq_false_iff_ne.mpr h1, List.lookup_cons] at hx ⊢
        by_cases h2 : x = Str.ofString "stream"
        · subst h2; rw [beq_self_eq_true] at hx ⊢; exact hx
        · rw [beq_eq_false_iff_ne.mpr h2] at hx; cases hx), hS₆, ⟨u₃, hP₆⟩,
      List.mem_cons_of_mem _ (mem_dropOwn.mpr ⟨mem_dropOwn.mpr ⟨List.mem_cons_self, (show Str.ofString "#" ≠ Str.ofString "stream" by decide +kernel)⟩, (show Str.ofString "#" ≠ Str.ofString "listing" by decide +kernel)⟩)⟩
  show wpAny _ _ (execs (_ :: _) env) _ _ _
  refine wpAny_execs_cons (wpAny_Try_except ?_)
  refine wpAny_execs_cons (wpAny_While (codeAny_whileLoop (fun n s' => ∃ own dn rest, LIn C { s with heap := hideAll s.heap [197] } env S tape own dn s' ∧ dn ++ rest = its ∧ n = rest.length) ?_ its.length ⟨_, [], its, L₆, rfl, rfl⟩))
  rintro n s₇ ⟨own, dn, rest, L₇, hdn, rfl⟩
  obtain ⟨u₇, hP₇⟩ := L₇.place
  refine Tr.plain (l := l) (sc := (fdAt 228).scope) (b := true) Ev.const_bool (tr_bool true) (by intro _; rfl) Rl hsc L₇.fr.er fun s₈ k₈ => ?_
  rw [if_pos rfl]
  have F₈ := L₇.fr.ks k₈
  have hS₈ : S.At tape s₈.heap := L₇.strm.go L₇.fr (Go.ks k₈) hD hc
  have hP₈ := plL_at hP₇ fun o e => k₈.keep _ o (nt_list L₇.fr.base.grown hP₇.isList) e
  have hdl : (dn.flatMap Item.enc).length ≤ 1000 := by
    have : (dn.flatMap Item.enc).length ≤ tape.length := by rw [← htape, ← hdn, List.flatMap_append, List.length_append]; omega
    omega
  have hρ₈ : (rhoL S dn).lookup (Str.ofString "#") = none := look_no (by decide +kernel) (look_no (by decide +kernel) rfl)
  have hst₈ : (rhoL S dn).lookup (Str.ofString "stream") = some (.obj S.f, false) := look_there (by decide +kernel) look_here
  cases rest with
  | nil =>
    have hend : (dn.flatMap Item.enc).length = tape.length := by rw [← htape, ← hdn, List.append_nil]
    rw [List.append_nil] at hdn
    refine' K.uint1 (l := l) (sc := (fdAt 228).scope) (S := S) (tape := tape) H F₈ (R'.le (by omega)) hsc ?a1 hst₈ hS₈ hP₈ hG hz (by omega) L₇.mine hρ₈ hD hc hA' hfs₀ hfr' (fun hlt => absurd hlt (by omega)) ?a4 ?a5 ?a6 ?a7 ?a8 ?a9 ?a10
    case a1 => walk_at "glob"
    case a5 => decide +kernel
    case a6 => decide +kernel
    case a7 => intro _ _; rfl
    case a8 => decide +kernel
    case a9 => decide +kernel
    case a10 => intro _; rfl
    case a4 =>
      intro _ e s₉ s' F₉ T₉
      obtain ⟨a0, hfly⟩ := T₉.fly
      refine thrown_on hA' hfr hfly fun h₁ fly₁ up₁ => ?_
      rw [hdn] at F₉
      have key : ∀ h₂, Heap.FlyingW (hideAll s₉.heap ([S.L] ++ frs (env :: fs))) (env :: fs) e (.type "ValueError") a0 h₂ → s'.heap.UpToSlots h₂ → _ := fun h₂ fly₂ up₂ =>
        listing_end hT F₉ L₇.mine T₉ fly₂ up₂ hfr' hloc hLs B hfs hfG (by rw [Env.kindOf, hsc]; decide +kernel)
      obtain ⟨B₁, _⟩ := key h₁ fly₁ up₁
      have er₁ : ER C env [] [] { s' with heap := h₁ } := ⟨B₁, F₉.kind, F₉.glob, F₉.blt, (fun a ha => nomatch ha), (fun x d hx => nomatch hx), F₉.cells⟩
      refine wpAny_handleBy_builtin (X := "ValueError") (T := "ValueError") (b := true) sub_VE_base meta_VE sub_VE ?_
      refine EvN.boot H (sc := (fdAt 228).scope) (by decide +kernel) n_ValueError b_ValueError (by decide +kernel) (by decide +kernel) hsc er₁ ⟨rfl, ?_, ?_⟩
      · obtain ⟨ob, hob, hobc⟩ := fly₁.there
        exact ⟨ob, hob, hobc⟩
      rw [if_pos rfl]
      refine lands_againW (s := { s' with heap := h₁ }) fly₁ fun h₂ fly₂ up₂ => ?_
      obtain ⟨_, a, m, hns, hm, hL⟩ := key h₂ fly₂ (up₁.trans up₂)
      refine wpAny_execs_cons (wpAny_Return_some (wpAny_Name (wpAny_loadName_local F₉.kind (by rw [Env.kindOf, hsc]; decide +kernel) hns hm ?_) (by decide +kernel)))
      exact h a _ hL
  | cons it rest =>
    have hit := hok it (by rw [← hdn]; simp)
    have htp : tape = dn.flatMap Item.enc ++ (it.enc ++ rest.flatMap Item.enc) := by rw [← htape, ← hdn, List.flatMap_append, List.flatMap_cons]
    obtain ⟨lt0, e0⟩ := at_of (by rw [htp]; exact enc_at0 : tape[(dn.flatMap Item.enc).length]? = some (UInt8.ofNat it.d))
    obtain ⟨lt1, e1'⟩ := at_of (by rw [htp]; exact enc_at1 : tape[(dn.flatMap Item.enc).length + 1]? = some (UInt8.ofNat it.b.length))
    obtain ⟨lt2, e2⟩ := at_of (by rw [htp]; exact enc_lo : tape[(dn.flatMap Item.enc).length + 1 + 1 + it.b.length]? = some it.lo)
    obtain ⟨lt3, e3⟩ := at_of (by rw [htp]; exact enc_hi : tape[(dn.flatMap Item.enc).length + 1 + 1 + it.b.length + 1]? = some it.hi)
    have hcut : cutB tape ((dn.flatMap Item.enc).length + 1 + 1) it.b.length = it.b := by rw [htp]; exact enc_cut
    refine' K.uint1 (l := l) (sc := (fdAt 228).scope) (S := S) (tape := tape) H F₈ (R'.le (by omega)) hsc ?a1 hst₈ hS₈ hP₈ hG hz (by omega) L₇.mine hρ₈ hD hc hA' hfs₀ hfr' ?a4 (fun hle => absurd lt0 (by omega)) ?a5 ?a6 ?a7 ?a8 ?a9 ?a10
    case a1 => walk_at "glob"
    case a5 => decide +kernel
    case a6 => decide +kernel
    case a7 => intro _ _; rfl
    case a8 => decide +kernel
    case a9 => decide +kernel
    case a10 => intro _; rfl
    case a4 =>
      intro _ s₉ u₉ F₉ hS₉ hP₉
      rw [e0, ofNat_toNat hit.d] at F₉
      have hmine₉ : (Str.ofString "#", S.L) ∈ dropOwn (Str.ofString "depth") own := mem_dropOwn.mpr ⟨L₇.mine, (show Str.ofString "#" ≠ Str.ofString "depth" by decide +kernel)⟩
      refine' K.string1 (l := l) (sc := (fdAt 228).scope) (S := S) (tape := tape) (n := it.b.length) (y := it.x) H F₉ (R'.le (by omega)) hsc ?b1 ?b2 hS₉ hP₉ hG hz lt1 ?b3 ?b4 ?b5 hit.x hmine₉ ?b6 hD hc hA' hfs₀ hfr' ?b7 ?b8 ?b9 ?b10 ?b11 ?b12
      case b1 => walk_at "glob"
      case b2 => exact look_there (by decide +kernel) hst₈
      case b3 => rw [e1', ofNat_toNat hit.b]
      case b4 => rw [hcut]
      case b5 => rw [hcut]; exact hit.dec
      case b6 => exact look_no (by decide +kernel) hρ₈
      case b8 => decide +kernel
      case b9 => intro _ _; rfl
      case b10 => decide +kernel
      case b11 => decide +kernel
      case b12 => intro _; rfl
      case b7 =>
        intro s₁₀ u₁₀ F₁₀ hS₁₀ hP₁₀
        have hmine₁₀ : (Str.ofString "#", S.L) ∈ dropOwn (Str.ofString "name") (dropOwn (Str.ofString "depth") own) := mem_dropOwn.mpr ⟨hmine₉, (show Str.ofString "#" ≠ Str.ofString "name" by decide +kernel)⟩
        refine' K.uint1 (l := l) (sc := (fdAt 228).scope) (S := S) (tape := tape) H F₁₀ (R'.le (by omega)) hsc ?c1 ?c2 hS₁₀ hP₁₀ hG hz (by omega) hmine₁₀ ?c3 hD hc hA' hfs₀ hfr' ?c4 (fun hle => absurd lt2 (by omega)) ?c5 ?c6 ?c7 ?c8 ?c9 ?c10
        case c1 => walk_at "glob"
        case c2 => exact look_there (by decide +kernel) (look_there (by decide +kernel) hst₈)
        case c3 => exact look_no (by decide +kernel) (look_no (by decide +kernel) hρ₈)
        case c5 => decide +kernel
        case c6 => decide +kernel
        case c7 => intro _ _; rfl
        case c8 => decide +kernel
        case c9 => decide +kernel
        case c10 => intro _; rfl
        case c4 =>
          intro _ s₁₁ u₁₁ F₁₁ hS₁₁ hP₁₁
          rw [e2] at F₁₁
          have hst₁₁ := look_there (e := ((V.int (it.lo.toNat : Int), false) : VV)) (x := Str.ofString "stream") (y := Str.ofString "low") (by decide +kernel) (look_there (e := ((V.str it.x, false) : VV)) (y := Str.ofString "name") (by decide +kernel) (look_there (e := ((V.int (it.d : Int), false) : VV)) (y := Str.ofString "depth") (by decide +kernel) hst₈))
          have hρ₁₁ := look_no (e := ((V.int (it.lo.toNat : Int), false) : VV)) (x := Str.ofString "#") (y := Str.ofString "low") (by decide +kernel) (look_no (e := ((V.str it.x, false) : VV)) (y := Str.ofString "name") (by decide +kernel) (look_no (e := ((V.int (it.d : Int), false) : VV)) (y := Str.ofString "depth") (by decide +kernel) hρ₈))
          have hmine₁₁ : (Str.ofString "#", S.L) ∈ dropOwn (Str.ofString "low") (dropOwn (Str.ofString "name") (dropOwn (Str.ofString "depth") own)) := mem_dropOwn.mpr ⟨hmine₁₀, (show Str.ofString "#" ≠ Str.ofString "low" by decide +kernel)⟩
          generalize dropOwn (Str.ofString "low") (dropOwn (Str.ofString "name") (dropOwn (Str.ofString "depth") own)) = own₁ at *
          have hlist := look_there (e := ((V.int (it.lo.toNat : Int), false) : VV)) (x := Str.ofString "listing") (y := Str.ofString "low") (by decide +kernel) (look_there (e := ((V.str it.x, false) : VV)) (y := Str.ofString "name") (by decide +kernel) (look_there (e := ((V.int (it.d : Int), false) : VV)) (y := Str.ofString "depth") (by decide +kernel) (look_here (ρ := [(Str.ofString "stream", ((V.obj S.f, false) : VV))]) (d := ((V.list (dn.map Item.v), true) : VV)))))
          obtain ⟨a', items, ha', hp', hv', hld⟩ := F₁₁.ownAt hlist
          refine wpAny_execs_cons (wpAny_Expr ?_ (by unfold interactive; rw [F₁₁.kind]; rfl) rfl)
          refine MethodCall_ (wpAny_Name ?_ (by decide +kernel)) rfl
          have hkl : env.kindOf (Str.ofString "listing") = some .local := by rw [Env.kindOf, hsc]; decide +kernel
          obtain ⟨m, hnm, hmm⟩ : ∃ m, s₁₁.heap.Ns env.locals m ∧ m (Str.ofString "listing") = some (.ref a') := by
            rcases hld with ⟨_, m, hn, hm⟩ | ⟨hk, _⟩
            · exact ⟨m, hn, hm⟩
            · rw [hkl] at hk; rcases hk with hk | hk <;> cases hk
          refine wpAny_loadName_local F₁₁.kind hkl hnm hmm ?_
          refine getMethod_builtin (T := "list") (id := "list.append") (by exact hp'.isList.typeIs) PySem.F.plainAttrs_list PySem.F.slot_list_append PySem.F.type_list_append (fun b eb => by
            cases eb
            obtain ⟨o, n, e1, e2⟩ := hp'
            exact ⟨o, e1, by rw [e2]⟩) ?_
          refine callWith_method1 (first := [.ref a']) ?_ rfl
          refine spliced_cons ?_
          show wpAny _ _ (eval (.Tuple _ 0 _) env) _ _ _
          rw [arm_eval_Tuple]
          refine wpAny_bind (wpAny_standAt (wpAny_bind ?_))
          refine spliced_cons ?_
          show wpAny _ _ (eval (.Name _ _) env) _ _ _
          refine Ev.name (l := l) (sc := (fdAt 228).scope) (d := (.int (it.d : Int), false)) (look_there (by decide +kernel) (look_there (by decide +kernel) look_here)) (by decide +kernel) (by decide +kernel) Rl hsc F₁₁.er fun w₁ s₁₂ k₁₂ r₁₂ => ?_
          obtain ⟨tk₁, rfl⟩ := vInt r₁₂
          have F₁₂ := F₁₁.ks k₁₂
          refine spliced_cons ?_
          show wpAny _ _ (eval (.Name _ _) env) _ _ _
          refine Ev.name (l := l) (sc := (fdAt 228).scope) (d := (.str it.x, false)) (look_there (by decide +kernel) look_here) (by decide +kernel) (by decide +kernel) Rl hsc F₁₂.er fun w₂ s₁₃ k₁₃ r₁₃ => ?_
          obtain ⟨tk₂, rfl⟩ := vStr r₁₃
          have F₁₃ := F₁₂.ks k₁₃
          refine spliced_cons ?_
          refine Call_ (EvN.glob H (sc := (fdAt 228).scope) (by decide +kernel) g_S_IMODE (by decide +kernel) hsc F₁₃.er ?_) rfl
          obtain ⟨cI, ddI, slI, eI⟩ := k_S_IMODE C.w.params
          refine callWith_function (o := ⟨cI, ddI, .func (fdAt 148), slI⟩) (fd := fdAt 148) ?_
          refine evalArgs_plain (spliced_cons ?_)
          show wpAny _ _ (eval (.BinOp _ _ _ _) env) _ _ _
          refine wpAny_BinOp ?_
          refine Ev.name (l := l) (sc := (fdAt 228).scope) (d := (.int (it.lo.toNat : Int), false)) look_here (by decide +kernel) (by decide +kernel) Rl hsc F₁₃.er fun w₃ s₁₄ k₁₄ r₁₄ => ?_
          obtain ⟨tk₃, rfl⟩ := vInt r₁₄
          have F₁₄ := F₁₃.ks k₁₄
          refine wpAny_BinOp ?_
          show wpAny _ _ (eval (.Constant (.int 256) 0 ⟨0, 0, 0, 0⟩) env) _ _ _
          refine wpAny_Constant_int ?_
          have k₁₅ : KS C.T s₁₄ { s₁₄ with toks := s₁₄.toks + 1 } := KS.toks _ _
          have F₁₅ := F₁₄.ks k₁₅
          have kk := ((k₁₂.trans k₁₃).trans k₁₄).trans k₁₅
          have hS₁₅ := hS₁₁.go (s' := { s₁₄ with toks := s₁₄.toks + 1 }) F₁₁ (Go.ks kk) hD hc
          have hP₁₅ := plL_at hP₁₁ fun o e => kk.keep _ o (nt_list F₁₁.base.grown hP₁₁.isList) e
          refine' EX.uint1 (l := l) (sc := (fdAt 228).scope) (S := S) (tape := tape) H F₁₅ (R'.le (by omega)) hsc ?d1 hst₁₁ hS₁₅ hP₁₅ hG hz lt3 hmine₁₁ hρ₁₁ hA' hfs₀ hfr' ?d2 ?d3 ?d4 ?d5
          case d1 => walk_at "glob"
          case d3 => decide +kernel
          case d4 => decide +kernel
          case d5 => intro _; rfl
          case d2 =>
            intro tk₄ s₁₆ u₁₆ F₁₆ hS₁₆ hP₁₆
            rw [e3]
            refine op_mul (C := C) (l := l) 256 (it.hi.toNat : Int) (by decide) (by decide) Rl F₁₆.base (O := []) (fun a ha => nomatch ha) (v₁ := .int 256 _) (v₂ := .int _ tk₄) ⟨_, rfl⟩ ⟨_, rfl⟩ fun w₅ s₁₇ k₁₇ r₁₇ => ?_
            obtain ⟨tk₅, rfl⟩ := vInt r₁₇
            have F₁₇ := F₁₆.ks k₁₇
            refine op_add (C := C) (l := l) (it.lo.toNat : Int) (256 * (it.hi.toNat : Int)) Rl F₁₇.base (O := []) (fun a ha => nomatch ha) (v₁ := .int _ tk₃) (v₂ := .int _ tk₅) ⟨_, rfl⟩ ⟨_, rfl⟩ fun w₆ s₁₈ k₁₈ r₁₈ => ?_
            have F₁₈ := F₁₇.ks k₁₈
            refine spliced_nil ⟨⟨F₁₈.base.keep _ _ (H.X _ _ eI), rfl⟩, ?_⟩
            refine (Calls.lift (c_S_IMODE H.calm rfl ((it.lo.toNat : Int) + 256 * (it.hi.toNat : Int)))) (R'.le (by omega)) F₁₈.base (O := []) (fun a ha => nomatch ha) ⟨_, _, rfl, r₁₈, rfl⟩ fun w₇ s₁₉ k₁₉ r₁₉ => ?_
            have F₁₉ := F₁₈.ks k₁₉
            have kq := (k₁₇.trans k₁₈).trans k₁₉
            have hS₁₉ : S.At tape s₁₉.heap := hS₁₆.go F₁₆ (Go.ks kq) hD hc
            have hP₁₉ := plL_at hP₁₆ fun o e => kq.keep _ o (nt_list F₁₆.base.grown hP₁₆.isList) e
            refine spliced_nil ?_
            have hpl : (dn.flatMap Item.enc).length + 1 + 1 + it.b.length + 1 + 1 = ((dn ++ [it]).flatMap Item.enc).length := by
              rw [List.flatMap_append, List.length_append, List.flatMap_cons, List.flatMap_nil, List.append_nil, enc_len]; omega
            rw [hpl] at hP₁₉
            refine wpAny_mono (push_item (it := it) F₁₉ hlist hst₁₁ hS₁₉ ⟨_, hP₁₉⟩ hmine₁₁ ha' ?_ ?_ fun s₂₀ L₂₀ => ?_) (fun v s₁ hq => spliced_nil hq) (fun _ _ e => e)
            · obtain ⟨tk₇, rfl⟩ := vInt r₁₉
              simp only [VRs, VR]
              exact ⟨_, _, rfl, ⟨_, rfl⟩, _, _, rfl, ⟨_, rfl⟩, _, _, rfl, ⟨_, rfl⟩, rfl⟩
            · have : (dn ++ it :: rest).length ≤ 1000 := by rw [hdn]; exact hlen
              rw [List.length_append] at this; omega
            · exact wpAny_execs_nil ⟨rest.length, by simp, own₁, dn ++ [it], rest, L₂₀, by rw [List.append_assoc]; exact hdn, rfl⟩
end
end

section
noncomputable def okComp (c : Str) : Bool := decide (c.length ≠ 0) && (c != "." && true)
noncomputable def compsF (x : Str) : List Str := (Txt.split x "/").filter okComp
/-- the common head of two lists -/
noncomputable def cpf : List Str → List Str → List Str
  | a :: as, b :: bs => if a != b then [] else a :: cpf as bs
  | _, _ => []
noncomputable def cpOk : List Str → List Str → Bool
  | [], _ => true
  | _ :: _, [] => false
  | a :: as, b :: bs => (a != b) || cpOk as bs
noncomputable def splitOk (x : Str) : Bool := decide ((Builtin.Str.partsBetween x (Builtin.Str.occurrences x "/" 0 x.length (x.length + 1)) (Str.length "/")).length ≤ 1000) && (decide ((Txt.split x "/").length ≤ 1000) && (Txt.split x "/").all fun c => decide (c.length ≤ 1000))
structure CPOk (xs s1 s2 : List Str) : Prop where
  ne : 0 < xs.length
  len : xs.length ≤ 100
  each : ∀ x ∈ xs, x.length ≤ 1000 ∧ Txt.startswith x "/" = true ∧ splitOk x = true
  min : (xs.map compsF)[bestmin (xs.map compsF)]? = some s1
  max : (xs.map compsF)[bestmax (xs.map compsF)]? = some s2
  s1len : s1.length ≤ 1000
  s2len : s2.length ≤ 1000
  ok : cpOk s1 s2 = true
  join : JoinOk "/" (cpf s1 s2) = true
  rlen : (Txt.join "/" (cpf s1 s2)).length ≤ 1000
noncomputable def commonF (s1 s2 : List Str) : Str := "/" ++ Txt.join "/" (cpf s1 s2)
noncomputable def splitV : V → V
  | .str x => textsV (Txt.split x "/")
  | d => d
noncomputable def fltV : V → V
  | .list ds => .list (ds.filter fun d => match d with | .str c => okComp c | _ => false)
  | d => d
theorem flt_texts (ys : List Str) : (ys.map V.str).filter (fun d => match d with | .str c => okComp c | _ => false) = (ys.filter okComp).map V.str := by
  induction ys with
  | nil => rfl
  | cons y ys ih =>
    rw [List.map_cons, List.filter_cons, List.filter_cons, ih]
    dsimp only
    split <;> rfl
theorem swaps_comp {elt : Expr} {gens : List Comprehension} {scope : Scope} {pos p : Pos} {t : Str} {line : Nat} {env : Env} {sc : Scope} (he : env.scope = sc)
    (h : ((if sc.kind.isAnnotationScope = true then ScopeKind.function else sc.kind) == .function && sc.names.lookup t == some .local && p.line == pos.line && !(scope.names.any fun x => x.1 == t && (x.2 == .local || x.2 == .cell))) = true) : swapsWith (.ListComp elt gens scope pos) (some (.Name t p)) line env = pure true := by
  unfold swapsWith
  dsimp only
  rw [Env.blockKind, Env.kindOf, he]
  exact congrArg pure h
section
variable {C : Ctx} (H : Prog C) (hT : C.T = [])
include H hT
set_option maxHeartbeats 4000000 in
theorem c_commonpath (xs s1 s2 : List Str) (h : CPOk xs s1 s2) : Calls C 7 (.ref 127) [(.list (xs.map .str), false)] (.str (commonF s1 s2), false) := by
  have hTc : C.calm.T = [] := rfl
  have Hc : Prog C.calm := H.calm
  have hsl : Str.length "/" = 1 := by decide +kernel
  have hlen := h.len
  refine callOf H hT (a := 127) ["paths"] (ds := [.list (xs.map .str)]) [("paths", (.list (xs.map .str), false))] k_commonpath cd_commonpath ?_ (fun
    | [v], _ => rfl)
  refine' Xs.assign (d := .tuple (xs.map .str)) ?a1 ?a2 ?a3 ?a4
  case a3 => decide +kernel
  case a4 => intro _ _; rfl
  case a1 =>
    refine' Ev.tupleMap (k := 1) (f := false) hT ?b1 ?b2 ?b3 ?b4 ?b5 ?b6 ?b7 ?b8 ?b9 ?b10 ?b11 ?b12 ?b13
    case b1 => walk_at "boot"
    case b2 => walk_at "boot"
    case b3 => walk_at "glob"
    case b4 => walk_at "ev"
    case b5 => intro x; exact c_fspath H hT x
    case b6 => omega
    case b7 => rw [sizeLine_eq]; omega
    case b8 => intro _; rfl
    case b9 => intro _; rfl
    case b10 => intro _; rfl
    case b11 => intro _ _; rfl
    case b12 => intro _; rfl
    case b13 => intro _; rfl
  have hne : (xs.map V.str).isEmpty = false := by
    cases xs with
    | nil => exact absurd h.ne (by decide)
    | cons _ _ => rfl
  have hszt : (xs.map V.str).length ≤ sizeLine := by rw [List.length_map, sizeLine_eq]; omega
  refine' Xs.if (b := !(!(xs.map V.str).isEmpty)) ?c1 ?c2 ?c3
  case c1 => walk_at "tr"
  case c2 => intro hb; rw [hne] at hb; cases hb
  intro _
  refine Xs.nil ?_
  obtain ⟨x0, hx0⟩ : ∃ x0, xs[0]? = some x0 := by
    cases xs with
    | nil => exact absurd h.ne (by decide)
    | cons x _ => exact ⟨x, rfl⟩
  refine' Xs.if (b := false) ?d1 ?d2 ?d3
  case d2 => intro hb; cases hb
  case d1 =>
    refine' Tr.plain ?e1 (tr_bool _) ?e2
    case e2 => intro _; rfl
    case e1 =>
      refine' Ev.callBuiltin (ds := [(.str x0, false), (.type "bytes", false)]) ?f1 ?f2 ?f3 ?f4 ?f5 ?f6
      case f1 => walk_at "boot"
      case f3 => exact op_isbytes_str _
      case f4 => intro _; rfl
      case f5 => intro _ _; rfl
      case f6 => intro _; rfl
      case f2 =>
        refine' EvA.cons (d := (.str x0, false)) ?g1 ?g2 ?g3
        case g3 => intro _; rfl
        case g2 => walk_at "args"
        case g1 =>
          refine' Ev.idxT (xs := xs.map .str) (i := 0) ?i1 ?i2 ?i3 ?i4 ?i5
          case i1 => walk_at "ev"
          case i2 => walk_at "ev"
          case i3 => omega
          case i4 => omega
          case i5 => show (xs.map V.str)[0]? = _; rw [List.getElem?_map, hx0]; rfl
  intro _
  walk_at "let"
  walk_at "let"
  refine Xs.nil ?_
  refine Xs.try ?_
  refine' Xs.assignComp (y := "split_paths") (ds := xs.map .str) (p := fun _ => true) (f := splitV) (ρf := [("sep", (.str "/", false))]) ?j1 ?j2 ?j3 ?j4 ?j5 ?j6 ?j7 ?j8 ?j9 ?j10
  case j2 => decide +kernel
  case j3 => walk_at "caught"
  case j1 => walk_at "iter"
  case j4 => intro d hd; rfl
  case j6 => rw [List.length_map, sizeLine_eq]; omega
  case j7 => decide +kernel
  case j10 => intro _ _; rfl
  case j8 => intro env he; exact swaps_comp he (by decide +kernel)
  case j5 =>
    intro d hd _
    obtain ⟨x, hx, rfl⟩ := List.mem_map.mp hd
    obtain ⟨hx1, hx2, hx3⟩ := h.each x hx
    unfold splitOk at hx3
    rw [Bool.and_eq_true, Bool.and_eq_true, decide_eq_true_eq, decide_eq_true_eq, List.all_eq_true] at hx3
    obtain ⟨hx3, hx4, hx5⟩ := hx3
    refine' Ev.mStr PySem.F.slot_str_split PySem.F.type_str_split ?k1 ?k2 (op_split x "/" (by decide +kernel) (by rw [sizeLine_eq]; omega) (by rw [sizeLine_eq]; omega)) ?k4 ?k5 ?k6
    case k1 => walk_at "ev"
    case k2 => walk_at "args"
    case k4 => intro _; rfl
    case k5 => intro _ _; rfl
    case k6 => intro _; rfl
  case j9 =>
    refine Xs.try ?_
    refine' Xs.setOne (ds := xs.map .str) (ρf := [("sep", (.str "/", false))]) ?l1 ?l2 ?l3 ?l4 ?l5 ?l6 ?l7 ?l8 ?l9 ?l10
    case l1 => walk_at "iter"
    case l2 => decide +kernel
    case l3 => walk_at "caught"
    case l4 => rw [List.length_map]; exact h.ne
    case l7 => decide +kernel
    case l8 => intro _ _; rfl
    case l9 => intro _ _; rfl
    case l10 => intro _; rfl
    case l5 =>
      intro d hd
      obtain ⟨x, hx, rfl⟩ := List.mem_map.mp hd
      obtain ⟨hx1, hx2, hx3⟩ := h.each x hx
      refine Ev.to (d' := (.bool (Txt.startswith x "/"), false)) ?_ (by rw [hx2])
      walk_at "ev"
    case l6 =>
      refine Xs.nil ?_
      have hsp : ((xs.map V.str).filter fun _ => true).map splitV = xs.map fun x => textsV (Txt.split x "/") := by
        rw [List.filter_eq_self.mpr fun _ _ => rfl, List.map_map]; rfl
      rw [hsp]
      refine' Xs.assignComp (y := "split_paths") (ds := xs.map fun x => textsV (Txt.split x "/")) (p := fun _ => true) (f := fltV) (ρf := [("curdir", (.str ".", false))]) ?m1 ?m2 ?m3 ?m4 ?m5 ?m6 ?m7 ?m8 ?m9 ?m10
      case m2 => decide +kernel
      case m3 => walk_at "caught"
      case m1 => walk_at "iter"
      case m4 => intro d hd; rfl
      case m6 => rw [List.length_map, sizeLine_eq]; omega
      case m7 => decide +kernel
      case m10 => intro _ _; rfl
      case m8 => intro env he; exact swaps_comp he (by decide +kernel)
      case m5 =>
        intro d hd _
        obtain ⟨x, hx, rfl⟩ := List.mem_map.mp hd
        obtain ⟨hx1, hx2, hx3⟩ := h.each x hx
        unfold splitOk at hx3
        rw [Bool.and_eq_true, Bool.and_eq_true, decide_eq_true_eq, decide_eq_true_eq, List.all_eq_true] at hx3
        obtain ⟨hx3, hx4, hx5⟩ := hx3
        refine Ev.to (d' := (.list ((((Txt.split x "/").map V.str).filter fun d => match d with | .str c => okComp c | _ => false).map id), false)) (EvNew.ev ?_) (by rw [List.map_id]; rfl)
        refine' EvNew.comp (ds := (Txt.split x "/").map V.str) (f := id) (ρf := [("curdir", (.str ".", false))]) ?n1 ?n2 ?n3 ?n4 ?n5 ?n6 ?n7
        case n1 => walk_at "iter"
        case n2 => decide +kernel
        case n3 => walk_at "caught"
        case n6 => rw [List.length_map, sizeLine_eq]; omega
        case n7 => intro _ _; rfl
        case n4 =>
          intro d hd
          obtain ⟨c, hc, rfl⟩ := List.mem_map.mp hd
          have hcl : c.length ≤ sizeLine := by
            have := of_decide_eq_true (hx5 c hc)
            rw [sizeLine_eq]; omega
          refine Tr.to (b' := decide (c.length ≠ 0) && (c != "." && true)) ?_ rfl
          walk_at "tr"
        case n5 =>
          intro d hd _
          obtain ⟨c, hc, rfl⟩ := List.mem_map.mp hd
          walk_at "ev"
      case m9 =>
        have hfl : ((xs.map fun x => textsV (Txt.split x "/")).filter fun _ => true).map fltV = (xs.map compsF).map textsV := by
          rw [List.filter_eq_self.mpr fun _ _ => rfl, List.map_map, List.map_map]
          refine List.map_congr_left fun x _ => ?_
          show V.list _ = V.list _
          rw [flt_texts]; rfl
        rw [hfl]
        have hne2 : 0 < (xs.map compsF).length := by rw [List.length_map]; exact h.ne
        refine' Xs.assign (d := textsV s1) ?o1 ?o2 ?o3 ?o4
        case o3 => decide +kernel
        case o4 => intro _ _; rfl
        case o1 =>
          refine' Ev.callBuiltin (ds := [(.list ((xs.map compsF).map textsV), false)]) ?p1 ?p2 (op_min _ _ hne2 h.min) ?p4 ?p5 ?p6
          case p1 => walk_at "boot"
          case p2 => walk_at "args"
          case p4 => intro _; rfl
          case p5 => intro _ _; rfl
          case p6 => intro _; rfl
        refine' Xs.assign (d := textsV s2) ?q1 ?q2 ?q3 ?q4
        case q3 => decide +kernel
        case q4 => intro _ _; rfl
        case q1 =>
          refine' Ev.callBuiltin (ds := [(.list ((xs.map compsF).map textsV), false)]) ?r1 ?r2 (op_max _ _ hne2 h.max) ?r4 ?r5 ?r6
          case r1 => walk_at "boot"
          case r2 => walk_at "args"
          case r4 => intro _; rfl
          case r5 => intro _ _; rfl
          case r6 => intro _; rfl
        walk_at "let"
        unfold textsV
        have hl1 := h.s1len
        have hl2 := h.s2len
        have hrl := h.rlen
        have hjn := h.join
        refine Xs.forS (ds := enumV (s1.map .str)) (fun (i : Nat) => [("common", (.list (s1.map .str), false)), ("s1", (.list (s1.map .str), false)), ("s2", (.list (s2.map .str), false)), ("sep", (.str "/", false)), ("isabs", (.bool true, false))])
          (fun ds i => ds = (enumV (s1.map .str)).drop i ∧ i ≤ s1.length ∧ cpf s1 s2 = s1.take i ++ cpf (s1.drop i) (s2.drop i) ∧ cpOk (s1.drop i) (s2.drop i) = true) 0 ?_ ?_ ?_ ?_ ?_
        · walk_at "iterw"
        · walk_at "cov"
        · exact ⟨rfl, Nat.zero_le _, rfl, h.ok⟩
        · rintro d ds i ⟨hds, hi, hcp, hok⟩
          have hii : i < s1.length := by
            rcases Nat.lt_or_ge i s1.length with q | q
            · exact q
            · rw [List.drop_of_length_le (by rw [enumV_len, List.length_map]; exact q)] at hds; cases hds
          obtain ⟨c, hc⟩ : ∃ c, s1[i]? = some c := ⟨s1[i], by simp [hii]⟩
          have hd1 : s1.drop i = c :: s1.drop (i + 1) := by
            rw [List.drop_eq_getElem_cons hii]
            rw [List.getElem?_eq_getElem hii] at hc; cases hc; rfl
          have hlt : i < (enumV (s1.map V.str)).length := by rw [enumV_len, List.length_map]; exact hii
          rw [List.drop_eq_getElem_cons hlt] at hds
          simp only [List.cons.injEq] at hds
          obtain ⟨hd, hds⟩ := hds
          have hde : d = .tuple [.int (i : Int), .str c] := by
            have := enumV_at (s1.map V.str) i
            rw [List.getElem?_eq_getElem hlt, List.getElem?_map, hc] at this
            rw [hd]; simpa using this
          subst hde
          rw [hd1] at hok hcp
          cases hs2 : s2.drop i with
          | nil => rw [hs2] at hok; cases hok
          | cons c' r2 =>
            have hi2 : i < s2.length := by
              rcases Nat.lt_or_ge i s2.length with q | q
              · exact q
              · rw [List.drop_of_length_le q] at hs2; cases hs2
            have hd2 := hs2
            rw [List.drop_eq_getElem_cons hi2] at hd2
            simp only [List.cons.injEq] at hd2
            have hc' : s2[i]? = some c' := by rw [List.getElem?_eq_getElem hi2, hd2.1]
            have hdr : s2.drop (i + 1) = r2 := hd2.2
            rw [hs2] at hok hcp
            refine ⟨_, by walk_at "tgt", ?_⟩
            refine' Xs.if (b := (c != c')) ?s1 ?s2 ?s3
            case s1 =>
              refine' Tr.cmp (d₁ := (.str c, false)) (d₂ := (.str c', false)) ?t1 ?t2 (op_ne_str _ _) ?t4
              case t1 => walk_at "ev"
              case t4 => rfl
              case t2 =>
                refine' Ev.idx (xs := s2.map .str) (i := (i : Int)) ?u1 ?u2 ?u3 ?u4 ?u5
                case u1 => walk_at "ev"
                case u2 => walk_at "ev"
                case u3 => omega
                case u4 => omega
                case u5 => rw [Int.toNat_natCast, List.getElem?_map, hc']; rfl
            case s2 =>
              intro hb
              have hr : cpf s1 s2 = s1.take i := by
                rw [hcp, cpf, if_pos hb, List.append_nil]
              walk_at "let"
              refine Xs.brk ?_
              refine Xs.cov (ρ' := [("common", (.list ((cpf s1 s2).map .str), false)), ("sep", (.str "/", false)), ("isabs", (.bool true, false))]) ?_ ?_
              · rw [hr, List.map_take, ← pick_take]
                walk_at "cov"
              refine' Xs.assign (d := .str "/") ?v1a ?v2a ?v3a ?v4a
              case v3a => decide +kernel
              case v4a => intro _ _; rfl
              case v1a =>
                refine' Ev.ite (b := true) ?w1a ?w2a ?w3a
                case w1a => walk_at "tr"
                case w2a => intro _; walk_at "ev"
                case w3a => intro hb; cases hb
              walk_at "ret"
              rfl
            case s3 =>
              intro hb
              refine Xs.nil (Xs.nil ⟨i + 1, ⟨hds, hii, ?_, ?_⟩, ?_⟩)
              · have hcc : c = c' := by simpa using hb
                rw [hcp, cpf, if_neg (by rw [hb]; exact Bool.false_ne_true), hdr, List.take_add_one, hc]
                simp
              · rw [cpOk, hb, Bool.false_or] at hok
                rw [hdr]; exact hok
              · walk_at "cov"
        · rintro i ⟨hds, hi, hcp, hok⟩
          have hii : s1.length ≤ i := by
            rcases Nat.lt_or_ge i s1.length with q | q
            · rw [List.drop_eq_getElem_cons (by rw [enumV_len, List.length_map]; exact q)] at hds; cases hds
            · exact q
          have hr : cpf s1 s2 = s1 := by
            rw [hcp, List.drop_of_length_le hii, List.take_of_length_le hii, cpf, List.append_nil]
            intro a as b bs h1 _; cases h1
          refine Xs.nil ?_
          refine Xs.cov (ρ' := [("common", (.list ((cpf s1 s2).map .str), false)), ("sep", (.str "/", false)), ("isabs", (.bool true, false))]) ?_ ?_
          · rw [hr]
            walk_at "cov"
          refine' Xs.assign (d := .str "/") ?v1b ?v2b ?v3b ?v4b
          case v3b => decide +kernel
          case v4b => intro _ _; rfl
          case v1b =>
            refine' Ev.ite (b := true) ?w1b ?w2b ?w3b
            case w1b => walk_at "tr"
            case w2b => intro _; walk_at "ev"
            case w3b => intro hb; cases hb
          walk_at "ret"
          rfl
end
end

section
section
variable {C : Ctx} {l : Nat} {s₀ s s' : Shared} {env : Env} {O₀ : List Addr} {own : List (Str × Addr)} {ρ : Rho} {sc : Scope}

theorem FR.listed {a : Addr} {its : List Item} (F : FR C s₀ env O₀ own ρ s) (hfr : env.frame = some env.locals) (L : Listed C.T [env] s s' a its) :
    FR C s₀ env O₀ own ρ s' ∧ Go C env own own s s' ∧ Grows s s' ∧ VR s'.heap (ownO own O₀) (.list (its.map Item.v)) (.ref a) := by
  have hfrs : ∀ b, b ∈ frs [env] ↔ b = env.locals := fun b => by
    unfold frs
    rw [List.filterMap_cons, hfr, List.filterMap_nil, List.mem_singleton]
  have kp : ∀ b o, b ∉ C.T → b ≠ env.locals → s.heap.get? b = some o → s'.heap.get? b = some o := fun b o h1 h2 e => L.keep b o h1 (fun q => h2 ((hfrs b).mp q)) e
  obtain ⟨m, cm, X, hvs⟩ := F.call
  have G := F.base.grown
  have pl : ∀ b its, PlL s.heap b its → PlL s'.heap b its := fun b its y => plL_at y fun o e => kp b o (nt_list G y.isList) (fun q => list_not_ns y.isList (q ▸ X.toInCall.ns)) e
  have tp : ∀ b its, IsTup s.heap b its → IsTup s'.heap b its := fun b its y => isTup_at y fun o e => kp b o (nt_tup G y) (fun q => tup_not_ns y (q ▸ X.toInCall.ns)) e
  have vr : ∀ {d : V} {v : Value}, VR s.heap (ownO own O₀) d v → VR s'.heap (ownO own O₀) d v := fun {d v} y => VR.tr (fun b its hb z => ⟨hb, pl b its z⟩) tp y
  have vvr : ∀ {d : VV} {v : Value}, VVR s.heap (ownO own O₀) d v → VVR s'.heap (ownO own O₀) d v := fun {d v} y => by
    obtain ⟨d, b⟩ := d
    cases b with
    | false => exact vr y
    | true =>
      obtain ⟨zs, a, its, e1, e2, e3, e4, e5⟩ := y
      exact ⟨zs, a, its, e1, e2, e3, pl a its e4, VRs.tr (fun b its hb z => ⟨hb, pl b its z⟩) tp e5⟩
  have old : ∀ b o, s₀.heap.get? b = some o → s'.heap.get? b = some o := fun b o e => kp b o (fun q => by rw [F.notab b q] at e; cases e) (fun q => by
    exact Nat.lt_irrefl _ (Nat.lt_of_lt_of_le (q ▸ Heap.lt_size e) X.toInCall.fresh)) (X.toInCall.keep b o e)
  have hns : s'.heap.Ns env.locals m := by
    obtain ⟨o, es, ep, e, hd, r⟩ := X.toInCall.ns
    obtain ⟨sl, e'⟩ := L.slots env.locals ((hfrs _).mpr rfl) o e
    exact ⟨_, es, ep, e', hd, r⟩
  have grows : Grows s s' := fun b hb => by
    cases e : s.heap.get? b with
    | none => rfl
    | some o =>
      by_cases h1 : b ∈ C.T
      · obtain ⟨ps, e'⟩ := (L.grown b h1).get
        rw [hb] at e'; cases e'
      · by_cases h2 : b = env.locals
        · obtain ⟨sl, e'⟩ := L.slots b ((hfrs _).mpr h2) o e
          rw [hb] at e'; cases e'
        · have := kp b o h1 h2 e; rw [hb] at this; cases this
  refine ⟨⟨⟨fun b o e => ?_, L.grown⟩, F.kind, F.glob, F.blt, F.cells, F.notab, F.under, F.outer, fun b hb => ?_, F.ownNew, F.apart, m, cm, ⟨⟨?_, hns, old, X.toInCall.fresh⟩, fun n c hc => ?_, X.apart, X.above⟩, fun x d hx => ?_⟩, ⟨fun b o h1 h2 _ _ e => kp b o h1 h2 e, fun p hp => .inl ⟨p, hp, rfl⟩⟩, grows, ?_⟩
  · exact old b o (F.under b o e)
  · obtain ⟨its, y⟩ := F.lists b hb
    exact ⟨its, pl b its y⟩
  · obtain ⟨h, tk, e1⟩ := X.toInCall.same
    obtain ⟨h', tk', e2⟩ := L.same
    rw [e2, e1]
    exact ⟨_, _, rfl⟩
  · exact isCell_at (X.cell n c hc) fun o e => kp c o (nt_cell G (X.cell n c hc)) (fun q => Nat.lt_irrefl _ (q ▸ X.above n c (mem_of_lookup hc))) e
  · obtain ⟨v, h1, h2, h3⟩ := hvs x d hx
    exact ⟨v, h1, h2, vvr h3⟩
  · obtain ⟨items, hp, hv⟩ := L.list
    simp only [VR]
    refine ⟨a, items, rfl, fun q => ?_, hp, Item.anys hv⟩
    obtain ⟨its', y⟩ := F.listsAll a q
    obtain ⟨o, n, e, _⟩ := y
    rw [L.new] at e; cases e

/-- an expression whose value is got while the frame's own dict may be touched from outside -/
noncomputable def EvF (C : Ctx) (l : Nat) (sc : Scope) (ρ : Rho) (e : Expr) (d : V) : Prop :=
  ∀ ⦃A : Around⦄ ⦃s s₀ : Shared⦄ ⦃env : Env⦄ ⦃O₀ : List Addr⦄ ⦃own : List (Str × Addr)⦄ ⦃Q : Value → Shared → Prop⦄ ⦃E : Value → Shared → Prop⦄, Room l A → A.frames = some [env] → env.frame = some env.locals → env.scope = sc → FR C s₀ env O₀ own ρ s →
    (∀ v s', FR C s₀ env O₀ own ρ s' → Go C env own own s s' → Grows s s' → VR s'.heap (ownO own O₀) d v → Q v s') → wpAny (model C.prog C.w) A (eval e env) Q E s

theorem EvF.listing (H : Prog C) (hT : C.T = [197]) {f e : Expr} {pos : Pos} {its : List Item} {k : Nat} (hk : k + 4 ≤ l) (hf : EvN C sc f (.ref 228)) (h : Ev C l sc ρ e (.bytes (its.flatMap Item.enc), false)) (hok : ∀ i ∈ its, i.Ok) (hz : (its.flatMap Item.enc).length ≤ 1000)
    (hn : ∀ env, starEach [e] env = (false, eval e env) :: starEach [] env)
    (he : ∀ env, eval (.Call f [e] [] pos) env = (do callWith pos (← eval f env) [] (backTo pos (starEach [e] env)) (backToKw pos (keywordEach [] env)))) :
    EvF C l sc ρ (.Call f [e] [] pos) (.list (its.map Item.v)) := by
  intro A s s₀ env O₀ own Q E R hA hfr hs F hQ
  have er := F.er
  refine Call_ (hf hs er ?_) (he env)
  obtain ⟨c, dd, sl, e1⟩ := k_law_listing C.w.params
  refine callWith_function (o := ⟨c, dd, .func (fdAt 228), sl⟩) (fd := fdAt 228) ?_
  rw [hn env]
  refine evalArgs_plain (spliced_cons ?_)
  show wpAny _ _ (eval e env) _ _ _
  refine h R hs er fun v s₁ k₁ r₁ => spliced_nil ?_
  obtain ⟨t, rfl⟩ := vBytes r₁
  have F₁ := F.ks k₁
  refine ⟨⟨F₁.base.keep _ _ (H.X _ _ e1), rfl⟩, ?_⟩
  obtain ⟨m, cm, X, _⟩ := F₁.call
  have hfs : FramesOk [env] s₁.heap := fun ev hev => by
    rw [List.mem_singleton] at hev; subst hev
    obtain ⟨o, es, ep, eo, ed, _⟩ := X.toInCall.ns
    exact ⟨by rw [F.kind]; decide, _, o, es, ep, hfr, eo, ed⟩
  have hfG : ∀ a ∈ frs [env], C.G.get? a = none := fun a ha => by
    unfold frs at ha
    rw [List.filterMap_cons, hfr, List.filterMap_nil, List.mem_singleton] at ha
    subst ha
    cases e : C.G.get? env.locals with
    | none => rfl
    | some o =>
      exact absurd (Nat.lt_of_lt_of_le (Heap.lt_size (F.under _ _ e)) X.toInCall.fresh) (Nat.lt_irrefl _)
  refine c_listing H hT (l := k) (R.le hk) F₁.base hA hfs hfG hok hz fun a s₂ L => ?_
  obtain ⟨F₂, g, gr, hv⟩ := F₁.listed hfr L
  have gr₁ := k₁.grows F.base.grown
  exact hQ _ _ F₂ ((Go.ks k₁).trans g gr₁) (gr₁.trans gr) hv

theorem EvF.slice {value : Expr} {lower upper step : Option Expr} {p pos : Pos} {xs : List V} {lo hi st : Option Int} (h : EvF C l sc ρ value (.list xs)) (hlo : EvP C l sc ρ lower lo) (hhi : EvP C l sc ρ upper hi) (hst : EvP C l sc ρ step st) (h0 : st ≠ some 0) (hsz : xs.length ≤ sizeLine) :
    EvF C l sc ρ (.Subscript value (.Slice lower upper step p) pos) (.list (pickV xs lo hi st)) := by
  intro A s s₀ env O₀ own Q E R hA hfr hs F hQ
  refine Subscript_ (h R hA hfr hs F fun v₁ s₁ F₁ g₁ gr₁ r₁ => ?_)
  have er := F₁.er
  refine wpAny_Slice (hlo.run R hs er fun vl s₂ k₂ pl => hhi.run R hs (er.ks k₂) fun vu s₃ k₃ pu => hst.run R hs ((er.ks k₂).ks k₃) fun vk s₄ k₄ pk => ?_)
  have er₄ := ((er.ks k₂).ks k₃).ks k₄
  have k₅ : KS C.T s₄ { s₄ with heap := s₄.heap.push { cls := .type "slice", data := .fields #[vl, vu, vk] } } := KS.push _ _ _
  have r₅ := (((r₁.ks er.base k₂).ks (er.ks k₂).base k₃).ks ((er.ks k₂).ks k₃).base k₄).ks er₄.base k₅
  obtain ⟨a, items, rfl, hp, hr⟩ := vList (f := false) r₅
  have hl := hr.length
  rw [Array.length_toList] at hl
  obtain ⟨ops, e⟩ := sub_ops (.Slice lower upper step p) (.ref a) (.ref s₄.heap.objs.size)
  refine tail_any (hp.isList.typeIs (s := { s₄ with heap := s₄.heap.push { cls := .type "slice", data := .fields #[vl, vu, vk] } })) PySem.slot_list_getitem.lookup ?_ e
  refine wpAny_getItem_list_slice hp.isList (Heap.IsSliceOf.new ..) pl pu pk h0 ?_ (by omega)
  have kAll := k₂.trans (k₃.trans (k₄.trans k₅))
  have k₆ := kAll.trans (KS.push (T := C.T) { s₄ with heap := s₄.heap.push { cls := .type "slice", data := .fields #[vl, vu, vk] } } { cls := .type "list", data := .seq (slicePick items lo hi st) } s₄.toks)
  have F₆ := F₁.ks k₆
  have gr₆ := k₆.grows F₁.base.grown
  refine hQ _ _ F₆ (g₁.trans (Go.ks k₆) gr₁) (gr₁.trans gr₆) ?_
  simp only [VR]
  refine ⟨_, slicePick items lo hi st, rfl, fun q => ?_, ⟨_, _, Heap.get?_push_size _ rfl, rfl⟩, ?_⟩
  · obtain ⟨its', y⟩ := F₁.listsAll _ q
    obtain ⟨o, n, e, _⟩ := y
    have := kAll.grows F₁.base.grown _ (get?_new { s₄ with heap := s₄.heap.push { cls := .type "slice", data := .fields #[vl, vu, vk] } }.heap)
    rw [this] at e; cases e
  · exact VRs.tr (fun b its hb z => ⟨hb, plL_at z fun o e => Heap.get?_push_of_some _ e⟩) (fun b its z => isTup_at z fun o e => Heap.get?_push_of_some _ e) (hr.pick lo hi st)

theorem EvF.call1 {f e : Expr} {pos : Pos} {a : Addr} {d d' : V} (H : Prog C) (hf : EvN C sc f (.ref a)) (h1 : isFdAt (KF C.w.params) a) (h : EvF C l sc ρ e d) (hc : Calls C l (.ref a) [(d, false)] (d', false))
    (hn : ∀ env, starEach [e] env = (false, eval e env) :: starEach [] env)
    (he : ∀ env, eval (.Call f [e] [] pos) env = (do callWith pos (← eval f env) [] (backTo pos (starEach [e] env)) (backToKw pos (keywordEach [] env)))) :
    EvF C l sc ρ (.Call f [e] [] pos) d' := by
  intro A s s₀ env O₀ own Q E R hA hfr hs F hQ
  have er := F.er
  refine Call_ (hf hs er ?_) (he env)
  obtain ⟨c, dd, sl, e1⟩ := h1
  refine callWith_function (o := ⟨c, dd, .func (fdAt a), sl⟩) (fd := fdAt a) ?_
  rw [hn env]
  refine evalArgs_plain (spliced_cons ?_)
  show wpAny _ _ (eval e env) _ _ _
  refine h R hA hfr hs F fun v s₁ F₁ g₁ gr₁ r₁ => spliced_nil ?_
  refine ⟨⟨F₁.base.keep _ _ (H.X _ _ e1), rfl⟩, ?_⟩
  refine hc R F₁.base F₁.er.lists (vs := [v]) ⟨_, _, rfl, r₁, rfl⟩ fun v' s₂ k₂ r₂ => ?_
  have gr₂ := k₂.grows F₁.base.grown
  exact hQ _ _ (F₁.ks k₂) (g₁.trans (Go.ks k₂) gr₁) (gr₁.trans gr₂) r₂

theorem K.assignF {A : Around} {Q : Flow → Shared → Prop} {E : Value → Shared → Prop} {x : Str} {p pos : Pos} {e : Expr} {d : V} {rest : List Stmt} (F : FR C s₀ env O₀ own ρ s) (R : Room l A) (hA : A.frames = some [env]) (hfr : env.frame = some env.locals) (hs : env.scope = sc) (h : EvF C l sc ρ e d)
    (k : ∀ s', FR C s₀ env O₀ (dropOwn x own) ((x, (d, false)) :: ρ) s' → Go C env own (dropOwn x own) s s' → Grows s s' → wpAny (model C.prog C.w) A (execs rest env) Q E s')
    (hx : HasPlace sc x) (hsw : ∀ env : Env, env.scope = sc → swapsWith e (some (.Name x p)) pos.line env = pure false) : wpAny (model C.prog C.w) A (execs (.Assign [.Name x p] e pos :: rest) env) Q E s := by
  refine wpAny_execs_cons (wpAny_Assign_Name (h R hA hfr hs F fun v s' F' g' gr' r => ?_) (hsw env hs))
  exact F'.store (hx.kind hs) r fun s'' F'' g gr => k s'' F'' (g'.trans g gr') (gr'.trans gr)
end
end

section
noncomputable def natP (q : Nat → Bool) : V → Bool
  | .int i => q i.toNat
  | _ => false
noncomputable def natG (g : Nat → V) : V → V
  | .int i => g i.toNat
  | d => d
theorem natsV_filter (q : Nat → Bool) (a : List Nat) : (natsV a).filter (natP q) = natsV (a.filter q) := by
  induction a with
  | nil => rfl
  | cons k a ih =>
    have e : natsV (k :: a) = V.int (k : Int) :: natsV a := rfl
    rw [e, List.filter_cons, List.filter_cons, ih]
    have : natP q (V.int (k : Int)) = q k := by show q ((k : Int).toNat) = q k; rw [Int.toNat_natCast]
    rw [this]
    split <;> rfl
theorem natsV_map (g : Nat → V) (a : List Nat) : (natsV a).map (natG g) = a.map g := by
  unfold natsV
  rw [List.map_map]
  refine List.map_congr_left fun k _ => ?_
  show g ((k : Int).toNat) = g k
  rw [Int.toNat_natCast]
theorem natsV_self (a : List Nat) : (natsV a).map id = natsV a := List.map_id _
theorem natsV_true (a : List V) : (a.filter fun _ => true) = a := List.filter_eq_self.mpr fun _ _ => rfl
theorem intsV_range (n : Nat) : intsV 0 n = natsV (List.range n) := by
  unfold intsV natsV
  refine List.map_congr_left fun k _ => ?_
  rw [Int.zero_add]
theorem natsV_ints (a : List Nat) : natsV a = (a.map fun (k : Nat) => (k : Int)).map .int := by
  unfold natsV; rw [List.map_map]; rfl
theorem natsV_len (a : List Nat) : (natsV a).length = a.length := List.length_map _
theorem natsV_at (a : List Nat) (i : Nat) : (natsV a)[i]? = a[i]?.map fun (k : Nat) => V.int (k : Int) := List.getElem?_map ..
theorem natsV_mem {a : List Nat} {d : V} (h : d ∈ natsV a) : ∃ k ∈ a, d = .int (k : Int) := by
  obtain ⟨k, hk, rfl⟩ := List.mem_map.mp h
  exact ⟨k, hk, rfl⟩
theorem swaps_no {elt : Expr} {gens : List Comprehension} {scope : Scope} {pos p : Pos} {t : Str} {line : Nat} {env : Env} {sc : Scope} (he : env.scope = sc)
    (h : (sc.names.lookup t == some .local) = false) : swapsWith (.ListComp elt gens scope pos) (some (.Name t p)) line env = pure false := by
  unfold swapsWith
  dsimp only
  rw [Env.kindOf, he, h, Bool.and_false, Bool.false_and, Bool.false_and]

noncomputable def wayAt (ns : List Node) (k : Nat) : Str := match ns[k]? with | some n => n.way | none => ""
noncomputable def outAt (ns : List Node) (k : Nat) : Nat × Str × Int := match ns[k]? with | some n => (n.depth, n.name, Builtin.bitAnd n.mode 4095) | none => (0, "", 0)
noncomputable def memB (a : List Nat) (k : Nat) : Bool := (a.map fun (x : Nat) => (x : Int)).any (· == (k : Int))

/-- what the law needs of its tree -/
structure LawOk (ns : List Node) (ah be : List Nat) (ws os : List Str) (lt : List Nat) (ov : Nat → List Nat) : Prop where
  nl : ns.length ≤ 6
  n0 : 0 < ns.length
  al : ah.length ≤ 6
  bl : be.length ≤ 6
  ain : ∀ k ∈ ah, k < ns.length
  bin : ∀ k ∈ be, k < ns.length
  ord : ordersF 6 (ns.map Node.up) 0 = (ah, be)
  nok : ∀ n ∈ ns, NodeOk n
  dep : ∀ n ∈ ns, n.depth ≤ 10
  nm : ∀ n ∈ ns, n.name ∈ (["", "a", "b.", "...", "a-", ".c"] : List Str)
  wsE : ws = ah.map (wayAt ns)
  osE : os = be.map (wayAt ns)
  wE : waysF (ah.map (outAt ns)) = ws
  oE : (waysF ((be.map (outAt ns)).reverse)).reverse = os
  mem : ∀ w ∈ ws, w ∈ os
  ltE : lt = ws.map fun w => os.idxOf w
  ovE : ∀ j < ws.length, ov j = (List.range (j + 1)).filter fun i => decide (lt.getD j 0 ≤ lt.getD i 0)
  climb : ∀ j w, ws[j]? = some w → ∃ r, Climb w r ∧ r.length ≤ 100 ∧ w :: r = (ov j).reverse.map fun i => ws.getD i ""
  rights : ∀ j k n, ah[j]? = some k → ns[k]? = some n → ((ov j).map fun i => (outAt ns (ah.getD i 0)).2.2).foldl Builtin.bitAnd 4095 = n.rights
  signs : ∀ n ∈ ns, Txt.slice (filemodeF n.rights) (some 1) none = signsF n.rights ∧ (filemodeF n.rights).length ≤ 1000
  com : ∀ i j, i < j → j < ws.length → ∃ b s1 s2, ((ov i).filter (memB (ov j))).getLast? = some b ∧ b < ws.length ∧ CPOk ((ws.take (j + 1)).drop i ++ ["/./" ++ ws.getD i ""]) s1 s2 ∧ commonF s1 s2 = ws.getD b ""
  wlen : ∀ w ∈ ws, w.length ≤ 100
end

section
theorem EvI.to {C : Ctx} {l : Nat} {sc : Scope} {ρ : Rho} {e : Expr} {b b' : List V} (h : EvI C l sc ρ e b') (q : b' = b) : EvI C l sc ρ e b := q ▸ h
noncomputable abbrev rhoR (ns : List Node) (ah be : List Nat) (ws os : List Str) : Rho :=
  [("others", (.list (os.map .str), false)), ("ways", (.list (ws.map .str), false)), ("listing", (.list ((ah.map (outAt ns)).map itemV), false)), ("behind", (.list (natsV be), false)), ("ahead", (.list (natsV ah), false)), ("tree", (.list (treeV ns), false))]
theorem k_law (P : Params) : isFdAt (KF P) 252 := ⟨.type "function", none, #[], by kernel_rfl⟩
theorem cd_law (P : Params) : codeIn (KF P) (fdAt 252).code (fdAt 252).qualname = true := by kernel_rfl
section
variable {C : Ctx} (H : Prog C)
include H
variable {ns : List Node} {ah be : List Nat} {ws os : List Str} {lt : List Nat} {ov : Nat → List Nat}
set_option maxHeartbeats 8000000 in
theorem law_rest (ok : LawOk ns ah be ws os lt ov) : Xs C 12 (fdAt 252).scope (rhoR ns ah be ws os) ((bodyAt 252).drop 7) (fun o => o = .ret (.bool true)) := by
  have Hc := H.calm
  have hTc : C.calm.T = [] := rfl
  have hal := ok.al
  have hbl := ok.bl
  have hwl : ws.length = ah.length := by rw [ok.wsE, List.length_map]
  have hol : os.length = be.length := by rw [ok.osE, List.length_map]
  have hll : lt.length = ws.length := by rw [ok.ltE, List.length_map]
  have treeWay : ∀ k, k < ns.length → ∃ n, ns[k]? = some n ∧ (treeV ns)[((k : Nat) : Int).toNat]? = some (.tuple [.int n.up, .int n.depth, .str n.name, .int n.mode, .str n.way, .int n.rights]) ∧ n.way = wayAt ns k := fun k hk => by
    refine ⟨ns[k], by simp [hk], ?_, ?_⟩
    · rw [Int.toNat_natCast, treeV, List.getElem?_map, List.getElem?_eq_getElem hk]; rfl
    · unfold wayAt; rw [List.getElem?_eq_getElem hk]
  unfold rhoR
  -- ways and others are the tree's own
  refine' Xs.if (b := (ws != ah.map (wayAt ns)) || ((os != be.map (wayAt ns)) || false)) ?a1 ?a2 ?a3
  case a2 =>
    intro hb
    rw [← ok.wsE, ← ok.osE] at hb
    simp at hb
  case a1 =>
    refine' Tr.or ?b1 fun _ => Tr.or ?b2 fun _ => Tr.or_nil
    case b1 =>
      refine' Tr.cmp (d₁ := (.list (ws.map .str), false)) (d₂ := (.list ((ah.map (wayAt ns)).map .str), false)) ?c1 ?c2 (op_ne_strs _ _ _ _) ?c4
      case c1 => walk_at "ev"
      case c4 => rfl
      case c2 =>
        refine Ev.to (d' := (.list (((natsV ah).filter fun _ => true).map (natG fun k => .str (wayAt ns k))), false)) (EvNew.ev ?_) (by rw [natsV_true, natsV_map, List.map_map]; rfl)
        refine' EvNew.comp (ds := natsV ah) (f := natG fun k => .str (wayAt ns k)) (ρf := [("tree", (.list (treeV ns), false))]) ?d1 ?d2 ?d3 ?d4 ?d5 ?d6 ?d7
        case d1 => walk_at "iter"
        case d2 => decide +kernel
        case d3 => walk_at "caught"
        case d4 => intro d hd; rfl
        case d6 => rw [natsV_len, sizeLine_eq]; omega
        case d7 => intro _ _; rfl
        case d5 =>
          intro d hd _
          obtain ⟨k, hk, rfl⟩ := natsV_mem hd
          have hkl := ok.ain k hk
          have hnl := ok.nl
          obtain ⟨n, hn, htn, hw⟩ := treeWay k hkl
          refine Ev.to (d' := (.str n.way, false)) ?_ (by rw [hw]; show _ = (V.str (wayAt ns ((k : Int).toNat)), false); rw [Int.toNat_natCast])
          walk_at "ev"
    case b2 =>
      refine' Tr.cmp (d₁ := (.list (os.map .str), false)) (d₂ := (.list ((be.map (wayAt ns)).map .str), false)) ?e1 ?e2 (op_ne_strs _ _ _ _) ?e4
      case e1 => walk_at "ev"
      case e4 => rfl
      case e2 =>
        refine Ev.to (d' := (.list (((natsV be).filter fun _ => true).map (natG fun k => .str (wayAt ns k))), false)) (EvNew.ev ?_) (by rw [natsV_true, natsV_map, List.map_map]; rfl)
        refine' EvNew.comp (ds := natsV be) (f := natG fun k => .str (wayAt ns k)) (ρf := [("tree", (.list (treeV ns), false))]) ?f1 ?f2 ?f3 ?f4 ?f5 ?f6 ?f7
        case f1 => walk_at "iter"
        case f2 => decide +kernel
        case f3 => walk_at "caught"
        case f4 => intro d hd; rfl
        case f6 => rw [natsV_len, sizeLine_eq]; omega
        case f7 => intro _ _; rfl
        case f5 =>
          intro d hd _
          obtain ⟨k, hk, rfl⟩ := natsV_mem hd
          have hkl := ok.bin k hk
          have hnl := ok.nl
          obtain ⟨n, hn, htn, hw⟩ := treeWay k hkl
          refine Ev.to (d' := (.str n.way, false)) ?_ (by rw [hw]; show _ = (V.str (wayAt ns ((k : Int).toNat)), false); rw [Int.toNat_natCast])
          walk_at "ev"
  intro _
  refine Xs.nil ?_
  -- last
  refine' Xs.assign (d := .list (natsV lt)) ?g1 ?g2 ?g3 ?g4
  case g3 => decide +kernel
  case g4 => intro env he; exact swaps_no he (by decide +kernel)
  case g1 =>
    have hlt : natsV lt = (((ws.map V.str).filter fun _ => true).map fun d => match d with | .str w => .int ((os.idxOf w : Nat) : Int) | d => d) := by
      rw [natsV_true, List.map_map, ok.ltE]
      unfold natsV
      rw [List.map_map]; rfl
    rw [hlt]
    refine EvNew.ev ?_
    refine' EvNew.comp (ds := ws.map .str) (ρf := [("others", (.list (os.map .str), false))]) ?h1 ?h2 ?h3 ?h4 ?h5 ?h6 ?h7
    case h1 => walk_at "iter"
    case h2 => decide +kernel
    case h3 => walk_at "caught"
    case h4 => intro d hd; rfl
    case h6 => rw [List.length_map, sizeLine_eq]; omega
    case h7 => intro _ _; rfl
    case h5 =>
      intro d hd _
      obtain ⟨w, hw, rfl⟩ := List.mem_map.mp hd
      refine' Ev.mList PySem.F.slot_list_index PySem.F.type_list_index ?i1 ?i2 (op_index_strs w os false (ok.mem w hw) (by rw [sizeLine_eq]; omega)) ?i4 ?i5 ?i6
      case i1 => walk_at "ev"
      case i2 => walk_at "args"
      case i4 => intro _; rfl
      case i5 => intro _ _; rfl
      case i6 => intro _; rfl
  walk_at "letn"
  have hwn : ws.length ≤ 6 := by omega
  have wsAt : ∀ i, i < ws.length → ws[i]? = some (ws.getD i "") := fun i hi => by
    rw [List.getD_eq_getElem?_getD, List.getElem?_eq_getElem hi]; rfl
  have ltAt : ∀ i, i < ws.length → (natsV lt)[((i : Nat) : Int).toNat]? = some (.int ((lt.getD i 0 : Nat) : Int)) := fun i hi => by
    rw [Int.toNat_natCast, natsV_at, List.getD_eq_getElem?_getD, List.getElem?_eq_getElem (by omega)]; rfl
  have wayI : ∀ i, i < ws.length → (ws.map V.str)[((i : Nat) : Int).toNat]? = some (.str (ws.getD i "")) := fun i hi => by
    rw [Int.toNat_natCast, List.getElem?_map, wsAt i hi]; rfl
  have ahAt : ∀ j, j < ws.length → ∃ k n, ah[j]? = some k ∧ k < ns.length ∧ ns[k]? = some n ∧ (natsV ah)[((j : Nat) : Int).toNat]? = some (.int ((k : Nat) : Int)) ∧ (treeV ns)[((k : Nat) : Int).toNat]? = some (.tuple [.int n.up, .int n.depth, .str n.name, .int n.mode, .str n.way, .int n.rights]) := fun j hj => by
    have hj' : j < ah.length := by omega
    obtain ⟨n, h1, h2, _⟩ := treeWay ah[j] (ok.ain _ (List.getElem_mem hj'))
    exact ⟨ah[j], n, List.getElem?_eq_getElem hj', ok.ain _ (List.getElem_mem hj'), h1, by rw [Int.toNat_natCast, natsV_at, List.getElem?_eq_getElem hj']; rfl, h2⟩
  have ovIn : ∀ j, j < ws.length → ∀ k ∈ ov j, k ≤ j := fun j hj k hk => by
    rw [ok.ovE j hj] at hk
    have := List.mem_range.mp (List.mem_filter.mp hk).1
    omega
  have ovLen : ∀ j, j < ws.length → (ov j).length ≤ 6 := fun j hj => by
    rw [ok.ovE j hj]
    have := List.length_filter_le (fun i => decide (lt.getD j 0 ≤ lt.getD i 0)) (List.range (j + 1))
    rw [List.length_range] at this
    omega
  let ovV : Nat → V := fun i => .list (natsV (ov i))
  refine Xs.forS (ds := natsV (List.range ws.length)) (fun (j : Nat) => [("over", (.list ((List.range j).map ovV), true)), ("last", (.list (natsV lt), false)), ("others", (.list (os.map .str), false)), ("ways", (.list (ws.map .str), false)), ("listing", (.list ((ah.map (outAt ns)).map itemV), false)), ("ahead", (.list (natsV ah), false)), ("tree", (.list (treeV ns), false))])
    (fun ds j => j ≤ ws.length ∧ ds = natsV (List.range' j (ws.length - j))) 0 ?_ ?_ ?_ ?_ ?_
  · refine EvW.to (b' := intsV 0 (Int.toNat ((ws.map V.str).length : Int))) ?_ (by rw [List.length_map, Int.toNat_natCast, intsV_range])
    have hq : (ws.map V.str).length ≤ 6 := by rw [List.length_map]; exact hwn
    walk_at "iterw"
  · walk_at "cov"
  · exact ⟨Nat.zero_le _, by rw [Nat.sub_zero, List.range_eq_range']⟩
  · rintro d ds j ⟨hj, hds⟩
    have hjn : j < ws.length := by
      rcases Nat.lt_or_ge j ws.length with q | q
      · exact q
      · rw [show ws.length - j = 0 by omega] at hds; cases hds
    rw [show ws.length - j = (ws.length - (j + 1)) + 1 by omega, List.range'_succ] at hds
    have hds' : d :: ds = V.int (j : Int) :: natsV (List.range' (j + 1) (ws.length - (j + 1))) := hds
    simp only [List.cons.injEq] at hds'
    obtain ⟨rfl, hds'⟩ := hds'
    refine ⟨_, by walk_at "tgt", ?_⟩
    have hlj := ltAt j hjn
    -- over.append
    refine' Xs.append (d := ovV j) (hx := ?hx) (hd := ?hd) (hsz := ?hsz) (hi := ?hi) (hn := ?hn) (he := ?he) ?q1 ?q2 ?q3
    case q1 => walk_at "look"
    case hx => decide +kernel
    case hd => decide +kernel
    case hsz => rw [List.length_map, List.length_range, sizeLine_eq]; omega
    case hi => intro _ _; rfl
    case hn => intro _; rfl
    case he => intro _; rfl
    case q2 =>
      refine Ev.to (d' := (.list (((natsV (List.range (j + 1))).filter (natP fun i => decide (lt.getD j 0 ≤ lt.getD i 0))).map id), false)) (EvNew.ev ?_) (by rw [natsV_filter, natsV_self, ← ok.ovE j hjn])
      refine' EvNew.comp (ds := natsV (List.range (j + 1))) (p := natP fun i => decide (lt.getD j 0 ≤ lt.getD i 0)) (f := id) (ρf := [("j", (.int (j : Int), false)), ("last", (.list (natsV lt), false))]) ?r1 ?r2 ?r3 ?r4 ?r5 ?r6 ?r7
      case r1 =>
        refine EvI.to (b' := intsV 0 ((j : Int) + 1).toNat) ?_ (by rw [show ((j : Int) + 1).toNat = j + 1 by omega, intsV_range])
        walk_at "iter"
      case r2 => decide +kernel
      case r3 => walk_at "caught"
      case r6 => rw [natsV_len, List.length_range, sizeLine_eq]; omega
      case r7 => intro _ _; rfl
      case r4 =>
        intro d hd
        obtain ⟨i, hi, rfl⟩ := natsV_mem hd
        have hil := List.mem_range.mp hi
        have hli := ltAt i (by omega)
        refine Tr.to (b' := decide (((lt.getD j 0 : Nat) : Int) ≤ ((lt.getD i 0 : Nat) : Int))) ?_ (by show _ = decide (lt.getD j 0 ≤ lt.getD ((i : Int).toNat) 0); rw [Int.toNat_natCast]; exact decide_eq_decide.mpr Int.ofNat_le)
        walk_at "tr"
      case r5 =>
        intro d hd _
        obtain ⟨i, hi, rfl⟩ := natsV_mem hd
        walk_at "ev"
    case q3 =>
      have hov : ((List.range j).map ovV ++ [ovV j]) = (List.range (j + 1)).map ovV := by rw [List.range_succ, List.map_append]; rfl
      rw [hov]
      have ovAt : ∀ i, i ≤ j → ((List.range (j + 1)).map ovV)[((i : Nat) : Int).toNat]? = some (.list (natsV (ov i))) := fun i hi => by
        rw [Int.toNat_natCast, List.getElem?_map, List.getElem?_range (by omega)]; rfl
      have hoj := ovAt j (Nat.le_refl _)
      have hwj := wayI j hjn
      have hovl := ovLen j hjn
      have hovi := ovIn j hjn
      obtain ⟨r, hclimb, hrl, hcr⟩ := ok.climb j _ (wsAt j hjn)
      -- the climb
      refine' Xs.if (b := ((ws.getD j "" :: r) != ((ov j).reverse.map fun i => ws.getD i ""))) ?s1 ?s2 ?s3
      case s2 => intro hb; rw [hcr] at hb; simp at hb
      case s1 =>
        refine' Tr.cmp (d₁ := (.list ((ws.getD j "" :: r).map .str), false)) (d₂ := (.list (((ov j).reverse.map fun i => ws.getD i "").map .str), false)) ?t1 ?t2 (op_ne_strs _ _ _ _) ?t4
        case t4 => rfl
        case t1 =>
          refine' Ev.lift (Ev.callD ?u0 ?u1 ?u2 ?u3 ?u4 ?u5 ?u6)
          case u0 => exact Hc
          case u1 => walk_at "glob"
          case u2 => walk_at "fdv"
          case u3 => walk_at "args"
          case u4 => exact Calls.mono (c_climb Hc hTc hclimb hrl) (by omega)
          case u5 => intro _; rfl
          case u6 => intro _; rfl
        case t2 =>
          refine Ev.to (d' := (.list (((natsV (ov j).reverse).filter fun _ => true).map (natG fun i => .str (ws.getD i ""))), false)) (EvNew.ev ?_) (by rw [natsV_true, natsV_map, List.map_map]; rfl)
          refine' EvNew.comp (ds := natsV (ov j).reverse) (f := natG fun i => .str (ws.getD i "")) (ρf := [("ways", (.list (ws.map .str), false))]) ?v1 ?v2 ?v3 ?v4 ?v5 ?v6 ?v7
          case v1 =>
            refine EvI.to (b' := pickV (natsV (ov j)) none none (some (-1))) ?_ (by rw [pick_rev]; unfold natsV; rw [List.map_reverse])
            have hsz : (natsV (ov j)).length ≤ 6 := by rw [natsV_len]; exact hovl
            walk_at "iter"
          case v2 => decide +kernel
          case v3 => walk_at "caught"
          case v4 => intro d hd; rfl
          case v6 => rw [natsV_len, List.length_reverse, sizeLine_eq]; omega
          case v7 => intro _ _; rfl
          case v5 =>
            intro d hd _
            obtain ⟨i, hi, rfl⟩ := natsV_mem hd
            have hij := hovi i (List.mem_reverse.mp hi)
            have hwi := wayI i (by omega)
            refine Ev.to (d' := (.str (ws.getD i ""), false)) ?_ (by show _ = (V.str (ws.getD ((i : Int).toNat) ""), false); rw [Int.toNat_natCast])
            walk_at "ev"
      case s3 =>
        intro _
        refine Xs.nil ?_
        walk_at "let"
        obtain ⟨k, n, hak, hkl, hnk, hakv, htn⟩ := ahAt j hjn
        have hnl := ok.nl
        have hright := ok.rights j k n hak hnk
        have lstAt : ∀ i, i < ws.length → ((ah.map (outAt ns)).map itemV)[((i : Nat) : Int).toNat]? = some (.tuple [.int ((outAt ns (ah.getD i 0)).1 : Nat), .str (outAt ns (ah.getD i 0)).2.1, .int (outAt ns (ah.getD i 0)).2.2]) := fun i hi => by
          have hi' : i < ah.length := by omega
          rw [Int.toNat_natCast, List.getElem?_map, List.getElem?_map, List.getD_eq_getElem?_getD, List.getElem?_eq_getElem hi']; rfl
        -- the rights
        refine Xs.forS (ds := natsV (ov j)) (fun (r : Int) => [("rights", (.int r, false)), ("j", (.int (j : Int), false)), ("over", (.list ((List.range (j + 1)).map ovV), true)), ("last", (.list (natsV lt), false)), ("others", (.list (os.map .str), false)), ("ways", (.list (ws.map .str), false)), ("listing", (.list ((ah.map (outAt ns)).map itemV), false)), ("ahead", (.list (natsV ah), false)), ("tree", (.list (treeV ns), false))])
          (fun ds r => ∃ ks : List Nat, ds = natsV ks ∧ (∀ i ∈ ks, i ≤ j) ∧ (ks.map fun i => (outAt ns (ah.getD i 0)).2.2).foldl Builtin.bitAnd r = n.rights) 4095 ?_ ?_ ?_ ?_ ?_
        · walk_at "iterw"
        · walk_at "cov"
        · exact ⟨_, rfl, hovi, hright⟩
        · rintro d ds r ⟨ks, hks, hin, hfold⟩
          cases ks with
          | nil => cases hks
          | cons i ks =>
            simp only [natsV, List.map_cons, List.cons.injEq] at hks
            obtain ⟨rfl, rfl⟩ := hks
            have hij := hin i List.mem_cons_self
            have hli := lstAt i (by omega)
            refine ⟨_, by walk_at "tgt", ?_⟩
            refine' Xs.aug (d := .int (Builtin.bitAnd r (outAt ns (ah.getD i 0)).2.2)) ?w1 ?w2 (op_iand _ _) ?w4 ?w5
            case w1 => walk_at "look"
            case w2 => walk_at "ev"
            case w5 => decide +kernel
            case w4 =>
              refine Xs.nil ⟨_, ⟨ks, rfl, fun q hq => hin q (List.mem_cons_of_mem _ hq), by rw [← hfold, List.map_cons, List.foldl_cons]⟩, ?_⟩
              walk_at "cov"
        · rintro r ⟨ks, hks, hin, hfold⟩
          cases ks with
          | cons i ks => cases hks
          | nil =>
            rw [List.map_nil, List.foldl_nil] at hfold
            subst hfold
            refine Xs.nil ?_
            obtain ⟨hsg, hsl⟩ := ok.signs n (List.mem_of_getElem? hnk)
            refine' Xs.if (b := (Txt.slice (filemodeF n.rights) (some 1) none != signsF n.rights)) ?x1 ?x2 ?x3
            case x2 => intro hb; rw [hsg] at hb; simp at hb
            case x1 =>
              refine' Tr.cmp (d₁ := (.str (Txt.slice (filemodeF n.rights) (some 1) none), false)) (d₂ := (.str (signsF n.rights), false)) ?y1 ?y2 (op_ne_str _ _) ?y4
              case y4 => rfl
              case y1 => refine Ev.lift ?_; walk_at "ev"
              case y2 => refine Ev.lift ?_; walk_at "ev"
            case x3 =>
              intro _
              refine Xs.nil ?_
              -- every earlier place
              refine Xs.forS (ds := natsV (List.range j)) (fun (_ : Unit) => [("j", (.int (j : Int), false)), ("over", (.list ((List.range (j + 1)).map ovV), true)), ("last", (.list (natsV lt), false)), ("others", (.list (os.map .str), false)), ("ways", (.list (ws.map .str), false)), ("listing", (.list ((ah.map (outAt ns)).map itemV), false)), ("ahead", (.list (natsV ah), false)), ("tree", (.list (treeV ns), false))])
                (fun ds _ => ∃ ks : List Nat, ds = natsV ks ∧ ∀ i ∈ ks, i < j) () ?_ ?_ ?_ ?_ ?_
              · refine EvW.to (b' := intsV 0 (Int.toNat (j : Int))) ?_ (by rw [Int.toNat_natCast, intsV_range])
                walk_at "iterw"
              · walk_at "cov"
              · exact ⟨_, rfl, fun i hi => List.mem_range.mp hi⟩
              · rintro d ds _ ⟨ks, hks, hin⟩
                cases ks with
                | nil => cases hks
                | cons i ks =>
                  simp only [natsV, List.map_cons, List.cons.injEq] at hks
                  obtain ⟨rfl, rfl⟩ := hks
                  have hij := hin i List.mem_cons_self
                  have hoi := ovAt i (by omega)
                  have hovi2 := ovLen i (by omega)
                  have hwi := wayI i (by omega)
                  obtain ⟨b, s1, s2, hb, hbl, hcp, hcom⟩ := ok.com i j hij hjn
                  have hwb := wayI b hbl
                  refine ⟨_, by walk_at "tgt", ?_⟩
                  refine' Xs.assignComp (y := "both") (ds := natsV (ov i)) (p := natP (memB (ov j))) (f := id) (ρf := [("j", (.int (j : Int), false)), ("over", (.list ((List.range (j + 1)).map ovV), true))]) ?z1 ?z2 ?z3 ?z4 ?z5 ?z6 ?z7 ?z8 ?z9 ?z10
                  case z1 => walk_at "iter"
                  case z2 => decide +kernel
                  case z3 => walk_at "caught"
                  case z6 => rw [natsV_len, sizeLine_eq]; omega
                  case z7 => decide +kernel
                  case z10 => intro _ _; rfl
                  case z8 => intro env he; exact swaps_comp he (by decide +kernel)
                  case z4 =>
                    intro d hd
                    obtain ⟨q, hq, rfl⟩ := natsV_mem hd
                    have hqi := ovIn i (by omega) q hq
                    refine Tr.to (b' := memB (ov j) q) ?_ (by show _ = memB (ov j) ((q : Int).toNat); rw [Int.toNat_natCast])
                    refine' Tr.cmp (d₁ := (.int (q : Int), false)) (d₂ := (.list (((ov j).map fun (x : Nat) => (x : Int)).map .int), false)) ?aa1 ?aa2 (op_in_ints _ _ _) ?aa4
                    case aa1 => walk_at "ev"
                    case aa4 => rfl
                    case aa2 =>
                      rw [← natsV_ints]
                      walk_at "ev"
                  case z5 =>
                    intro d hd _
                    obtain ⟨q, hq, rfl⟩ := natsV_mem hd
                    walk_at "ev"
                  case z9 =>
                    rw [natsV_filter, natsV_self]
                    have hbl2 : (natsV ((ov i).filter (memB (ov j)))).getLast? = some (.int (b : Int)) := by
                      unfold natsV
                      rw [List.getLast?_map, hb]; rfl
                    have hbz : (natsV ((ov i).filter (memB (ov j)))).length ≤ 6 := by
                      rw [natsV_len]
                      exact Nat.le_trans (List.length_filter_le _ _) hovi2
                    refine' Xs.if (b := (commonF s1 s2 != ws.getD b "")) ?bb1 ?bb2 ?bb3
                    case bb2 => intro hq; rw [hcom] at hq; simp at hq
                    case bb3 =>
                      intro _
                      refine Xs.nil (Xs.nil ⟨(), ⟨ks, rfl, fun q hq => hin q (List.mem_cons_of_mem _ hq)⟩, ?_⟩)
                      walk_at "cov"
                    case bb1 =>
                      refine' Tr.cmp (d₁ := (.str (commonF s1 s2), false)) (d₂ := (.str (ws.getD b ""), false)) ?cc1 ?cc2 (op_ne_str _ _) ?cc4
                      case cc4 => rfl
                      case cc2 =>
                        refine' Ev.idx (xs := ws.map .str) (i := (b : Int)) ?dd1 ?dd2 ?dd3 ?dd4 hwb
                        case dd1 => walk_at "ev"
                        case dd3 => omega
                        case dd4 => omega
                        case dd2 =>
                          refine' Ev.last ?ee1 ?ee2 hbl2 ?ee4
                          case ee1 => walk_at "ev"
                          case ee2 => walk_at "ev"
                          case ee4 => rw [sizeLine_eq]; omega
                      case cc1 =>
                        have hwli : (ws.getD i "").length ≤ 100 := ok.wlen _ (List.mem_of_getElem? (wsAt i (by omega)))
                        have hdot : Str.length "/./" = 3 := by decide +kernel
                        have hpk : pickV (ws.map V.str) (some (i : Int)) (some ((j : Int) + 1)) none = ((ws.take (j + 1)).drop i).map V.str := by
                          rw [show ((j : Int) + 1) = ((j + 1 : Nat) : Int) from rfl, pick_sub, List.map_drop, List.map_take]
                        have htk : ((ws.take (j + 1)).drop i).length ≤ 6 := by rw [List.length_drop, List.length_take]; omega
                        refine' Ev.lift (Ev.callD ?ff0 ?ff1 ?ff2 ?ff3 ?ff4 ?ff5 ?ff6)
                        case ff0 => exact Hc
                        case ff1 => walk_at "glob"
                        case ff2 => walk_at "fdv"
                        case ff4 => exact Calls.mono (c_commonpath Hc hTc _ s1 s2 hcp) (by omega)
                        case ff5 => intro _; rfl
                        case ff6 => intro _; rfl
                        case ff3 =>
                          refine' EvA.cons ?gg1 EvA.nil ?gg3
                          case gg3 => intro _; rfl
                          case gg1 =>
                            rw [List.map_append]
                            refine EvNew.ev ?_
                            refine' EvNew.addList (f := false) (g := false) ?hh1 ?hh2 ?hh3
                            case hh3 => simp only [List.length_map, List.length_singleton]; rw [sizeLine_eq]; omega
                            case hh1 =>
                              rw [← hpk]
                              refine EvNew.ev ?_
                              refine' EvNew.slice (f := false) ?ii1 ?ii2 ?ii3 ?ii4 ?ii5 ?ii6
                              case ii1 => walk_at "ev"
                              case ii2 => walk_at "part"
                              case ii3 => walk_at "part"
                              case ii4 => walk_at "part"
                              case ii5 => decide
                              case ii6 => rw [List.length_map, sizeLine_eq]; omega
                            case hh2 =>
                              refine EvNew.ev ?_
                              show EvNew _ _ _ _ _ [V.str ("/./" ++ ws.getD i "")]
                              refine' EvNew.disp ?jj1 ?jj2
                              case jj2 => walk_at "small"
                              case jj1 => walk_at "argl"
              · rintro _ ⟨ks, hks, hin⟩
                cases ks with
                | cons i ks => cases hks
                | nil =>
                  refine Xs.nil (Xs.nil ⟨j + 1, ⟨by omega, hds'⟩, ?_⟩)
                  walk_at "cov"
  · rintro j ⟨hj, hds⟩
    refine Xs.nil ?_
    walk_at "ret"
    rfl
end
end

section
/-- what stands on a tape for a node -/
noncomputable def itemAt (ns : List Node) (k : Nat) : Item := match ns[k]? with
  | some n => ⟨n.depth, n.name, (codesOf n.name).map fun c => c.toNat.toUInt8, (n.mode % 256).toNat.toUInt8, (n.mode / 256).toNat.toUInt8⟩
  | none => ⟨0, "", [], 0, 0⟩
theorem u8_back {m : Int} (h0 : 0 ≤ m) (h1 : m < 256) : ((m.toNat.toUInt8).toNat : Int) = m := by
  have : (m.toNat.toUInt8).toNat = m.toNat % 256 := by simp
  rw [this]; omega
theorem itemAt_out {ns : List Node} {k : Nat} (hok : ∀ n ∈ ns, NodeOk n) (hk : k < ns.length) : (itemAt ns k).out = outAt ns k := by
  unfold itemAt outAt
  rw [List.getElem?_eq_getElem hk]
  obtain ⟨h1, h2, h3, h4, h5⟩ := hok _ (List.getElem_mem hk)
  show (_, _, Builtin.bitAnd _ 4095) = _
  have e1 := u8_back (m := ns[k].mode % 256) (by omega) (by omega)
  have e2 := u8_back (m := ns[k].mode / 256) (by omega) (by omega)
  dsimp only
  rw [e1, e2]
  congr 2
  congr 1
  omega
theorem itemAt_v {ns : List Node} {ks : List Nat} (hok : ∀ n ∈ ns, NodeOk n) (hk : ∀ k ∈ ks, k < ns.length) : (ks.map (itemAt ns)).map Item.v = (ks.map (outAt ns)).map itemV := by
  rw [List.map_map, List.map_map]
  refine List.map_congr_left fun k h => ?_
  show Item.v (itemAt ns k) = itemV (outAt ns k)
  rw [← itemAt_out hok (hk k h)]
  rfl
theorem itemAt_enc {ns : List Node} {ks : List Nat} (hok : ∀ n ∈ ns, NodeOk n) (hk : ∀ k ∈ ks, k < ns.length) : (tapeF ns ks).map (fun n => n.toNat.toUInt8) = (ks.map (itemAt ns)).flatMap Item.enc := by
  unfold tapeF
  rw [List.map_flatMap, List.flatMap_map]
  rw [List.flatMap_def, List.flatMap_def]
  refine congrArg List.flatten (List.map_congr_left fun k h => ?_)
  unfold itemAt
  rw [List.getElem?_eq_getElem (hk k h)]
  unfold nodeTape Item.enc
  simp only [List.map_append, List.map_cons, List.map_nil, List.length_map, Int.toNat_natCast]
  have this : (codesOf (ns[k]'(hk k h)).name).length = (ns[k]'(hk k h)).name.length := by unfold codesOf Str.length; simp
  rw [this]
theorem dec_names : ∀ x ∈ (["", "a", "b.", "...", "a-", ".c"] : List Str), Dec ((codesOf x).map fun c => c.toNat.toUInt8) x := by
  intro x hx
  simp only [List.mem_cons, List.not_mem_nil, or_false] at hx
  rcases hx with rfl | rfl | rfl | rfl | rfl | rfl
  · exact .inl ⟨by decide +kernel, by decide +kernel⟩
  · exact .inr ⟨by decide +kernel, 1, fun id => by kernel_rfl⟩
  · exact .inr ⟨by decide +kernel, 2, fun id => by kernel_rfl⟩
  · exact .inr ⟨by decide +kernel, 3, fun id => by kernel_rfl⟩
  · exact .inr ⟨by decide +kernel, 2, fun id => by kernel_rfl⟩
  · exact .inr ⟨by decide +kernel, 2, fun id => by kernel_rfl⟩
theorem itemAt_ok {ns : List Node} {k : Nat} (hok : ∀ n ∈ ns, NodeOk n) (hnm : ∀ n ∈ ns, n.name ∈ (["", "a", "b.", "...", "a-", ".c"] : List Str)) (hk : k < ns.length) : (itemAt ns k).Ok := by
  unfold itemAt
  rw [List.getElem?_eq_getElem hk]
  obtain ⟨h1, h2, h3, h4, h5⟩ := hok _ (List.getElem_mem hk)
  have hl : (codesOf ns[k].name).length = ns[k].name.length := by unfold codesOf Str.length; simp
  exact ⟨h1, by rw [List.length_map, hl]; omega, dec_names _ (hnm _ (List.getElem_mem hk)), by dsimp only; omega⟩
theorem tape_len {ns : List Node} {ks : List Nat} (hok : ∀ n ∈ ns, NodeOk n) (hl : ks.length ≤ 6) (hk : ∀ k ∈ ks, k < ns.length) : ((ks.map (itemAt ns)).flatMap Item.enc).length ≤ 1000 := by
  have key : ∀ ks : List Nat, (∀ k ∈ ks, k < ns.length) → ((ks.map (itemAt ns)).flatMap Item.enc).length ≤ 14 * ks.length := by
    intro ks
    induction ks with
    | nil => intro _; simp
    | cons k ks ih =>
      intro h
      have := ih fun j hj => h j (List.mem_cons_of_mem _ hj)
      rw [List.map_cons, List.flatMap_cons, List.length_append, enc_len, List.length_cons]
      have hk := h k List.mem_cons_self
      obtain ⟨_, h2, _⟩ := hok _ (List.getElem_mem hk)
      have hb : (itemAt ns k).b.length ≤ 10 := by
        unfold itemAt
        rw [List.getElem?_eq_getElem hk]
        have hl : (codesOf ns[k].name).length = ns[k].name.length := by unfold codesOf Str.length; simp
        dsimp only
        rw [List.length_map, hl]; exact h2
      omega
  have := key ks hk
  omega
end

section
theorem ord_fold (f : Nat) (ups : List Nat) (at' : Nat) (ih : ∀ k, (ordersF f ups k).1.length ≤ 2 ^ (ups.length - k) ∧ (ordersF f ups k).2.length ≤ 2 ^ (ups.length - k)) :
    ∀ (m a : Nat) (ab : List Nat × List Nat), a + m = ups.length → ((List.range' a m).foldl (ordStep f ups at') ab).1.length + 2 ≤ ab.1.length + 2 ^ (m + 1) ∧ ((List.range' a m).foldl (ordStep f ups at') ab).2.length + 2 ≤ ab.2.length + 2 ^ (m + 1)
  | 0, a, ab, _ => ⟨Nat.le_refl _, Nat.le_refl _⟩
  | m + 1, a, ab, h => by
    rw [List.range'_succ, List.foldl_cons]
    have h2 := ord_fold f ups at' ih m (a + 1) (ordStep f ups at' ab a) (by omega)
    have hk := ih a
    rw [show ups.length - a = m + 1 by omega] at hk
    have e : 2 ^ (m + 1 + 1) = 2 ^ (m + 1) + 2 ^ (m + 1) := by rw [Nat.pow_succ]; omega
    have h3 : (ordStep f ups at' ab a).1.length ≤ ab.1.length + 2 ^ (m + 1) ∧ (ordStep f ups at' ab a).2.length ≤ ab.2.length + 2 ^ (m + 1) := by
      unfold ordStep
      split
      · simp only [List.length_append]; omega
      · exact ⟨Nat.le_add_right _ _, Nat.le_add_right _ _⟩
    omega
theorem ord_len (ups : List Nat) : ∀ f at', (ordersF f ups at').1.length ≤ 2 ^ (ups.length - at') ∧ (ordersF f ups at').2.length ≤ 2 ^ (ups.length - at')
  | 0, at' => ⟨Nat.zero_le _, Nat.zero_le _⟩
  | f + 1, at' => by
    rw [ordersF_succ]
    have ih := ord_len ups f
    rcases Nat.lt_or_ge at' ups.length with h | h
    · have h2 := ord_fold f ups at' ih (ups.length - (at' + 1)) (at' + 1) ([at'], []) (by omega)
      rw [show ups.length - (at' + 1) + 1 = ups.length - at' by omega] at h2
      simp only [List.length_append, List.length_cons, List.length_nil] at h2 ⊢
      omega
    · rw [show ups.length - (at' + 1) = 0 by omega, show ups.length - at' = 0 by omega]
      exact ⟨Nat.le_refl _, Nat.le_refl _⟩
theorem ord_small {ups : List Nat} (h : ups.length ≤ 6) : ∀ f < 100, ∀ k < 100, (ordersF f ups k).1.length ≤ 100 ∧ (ordersF f ups k).2.length ≤ 100 := fun f _ k _ => by
  have h2 := ord_len ups f k
  have h3 : 2 ^ (ups.length - k) ≤ 2 ^ 6 := Nat.pow_le_pow_right (by decide) (by omega)
  have : (2 : Nat) ^ 6 = 64 := rfl
  omega

section
variable {C : Ctx} {l : Nat} {s₀ s s' : Shared} {env : Env} {O₀ : List Addr} {own : List (Str × Addr)} {ρ : Rho} {sc : Scope} {A : Around} {Q : Flow → Shared → Prop} {E : Value → Shared → Prop}
theorem K.assignTgt {t : List Expr} {k : Nat} {p pos : Pos} {e : Expr} {d : V} {ρ₁ : Rho} {rest : List Stmt} (F : FR C s₀ env O₀ own ρ s) (R : Room l A) (hs : env.scope = sc) (h : Ev C l sc ρ e (d, false)) (ht : Tgt C l sc (.Tuple t k p) d ρ ρ₁)
    (kk : ∀ own' s', FR C s₀ env O₀ own' ρ₁ s' → wpAny (model C.prog C.w) A (execs rest env) Q E s')
    (hsw : ∀ env : Env, env.scope = sc → swapsWithSole [.Tuple t k p] e pos.line env = pure false) (hw : ∀ env : Env, swappedStores [.Tuple t k p] e env = pure none) : wpAny (model C.prog C.w) A (execs (.Assign [.Tuple t k p] e pos :: rest) env) Q E s :=
  wpAny_execs_cons (Assign_Tuple (h R hs F.er fun v s' k' r => ht R hs (F.ks k') r fun own' s'' F'' _ _ => kk own' s'' F'') (hsw env hs) (hw env))
end

theorem outs_ok {ns : List Node} {ah be : List Nat} {ws os : List Str} {lt : List Nat} {ov : Nat → List Nat} (ok : LawOk ns ah be ws os lt ov) {ks : List Nat} (hk : ∀ k ∈ ks, k < ns.length) : ∀ e ∈ ks.map (outAt ns), e.1 ≤ 100 ∧ e.2.1.length ≤ 10 := fun e he => by
  obtain ⟨k, hk', rfl⟩ := List.mem_map.mp he
  unfold outAt
  rw [List.getElem?_eq_getElem (hk k hk')]
  have := ok.dep _ (List.getElem_mem (hk k hk'))
  exact ⟨by dsimp only; omega, (ok.nok _ (List.getElem_mem (hk k hk'))).2.1⟩
section
variable {C : Ctx} (H : Prog C)
include H
variable {ns : List Node} {ah be : List Nat} {ws os : List Str} {lt : List Nat} {ov : Nat → List Nat}
noncomputable def ownNums : List Int := [1112896, 2257473, 2190592, 1179136]
set_option maxHeartbeats 8000000 in
theorem c_law (hT : C.T = [197]) {script : List Int} (hns : (script.take 5 ++ ownNums.drop (script.take 5).length).foldl treeStep [root] = ns) (ok : LawOk ns ah be ws os lt ov) (hsz : script.length ≤ sizeLine)
    {A : Around} {s : Shared} {a : Addr} {RR : Result → Shared → Prop} (R : Room 13 A) (hA : A.frames = some []) (B : Base C s.heap) (hv : VR s.heap [] (.list (script.map .int)) (.ref a))
    (h : ∀ s', Base C s'.heap → (∃ h tk, s' = { s with heap := h, toks := tk }) → RR (.ok (.ret (.bool true))) s') :
    codeAny (model C.prog C.w) A (.call (.ref 252) ⟨[.ref a], []⟩) RR s := by
  have Hc := H.calm
  have hTc : C.calm.T = [] := rfl
  have D : DefAt C 252 (fdAt 252) (bodyAt 252) := defAt H k_law (by decide +kernel) cd_law
  have hG197 : C.G.get? 197 = none := C.notab 197 (by rw [hT]; simp)
  obtain ⟨o, ho, hd⟩ := D.at'
  refine codeAny_call_cells R.room (B.keep _ _ ho) hd (C.lim.keeps B.keep) (D.code.keeps B.keep) D.body (binds := [("script", .ref a)]) rfl D.clo (fun y hy => ?_) (fun s₁ x => ?_) D.co D.gen D.kind
  · rw [List.mem_singleton] at hy; subst hy; exact .inl (show (fdAt 252).scope.names.lookup (Str.ofString "script") = some NameKind.local by decide +kernel)
  have F := fr_enterH (C := C) (names := ["script"]) (ds := [.list (script.map .int)]) (O₀ := []) (own := []) (vs := [.ref a]) [197] (by rw [hT]; simp) (by simpa using hG197) (fun p hp => nomatch hp) (fun a ha => nomatch ha) List.Pairwise.nil D B (fun a ha => nomatch ha) ⟨_, _, rfl, hv, rfl⟩ rfl (by decide +kernel) (fun n hn => by rw [List.mem_singleton] at hn; subst hn; exact .inl (by decide +kernel)) x
  have R' := R.deeper (callEnvC (fdAt 252) s.heap.objs.size 252)
  have hA' := Around.frames_deeper (env := callEnvC (fdAt 252) s.heap.objs.size 252) hA
  have hfr : (callEnvC (fdAt 252) s.heap.objs.size 252).frame = some (callEnvC (fdAt 252) s.heap.objs.size 252).locals := by rfl
  have hsc : (callEnvC (fdAt 252) s.heap.objs.size 252).scope = (fdAt 252).scope := rfl
  clear x
  generalize callEnvC (fdAt 252) s.heap.objs.size 252 = env at *
  replace F : FR C { s with heap := hideAll s.heap [197] } env [] [] [("script", (.list (script.map .int), false))] s₁ := F
  -- own = [..]
  have ln : (script.take 5).length ≤ 5 := by rw [List.length_take]; omega
  refine' K.assign (l := 12) (d := .list (ownNums.map .int)) F R' hsc ?a1 (fun s₂ F₂ _ _ => ?_) ?a2 ?a3
  case a2 => decide +kernel
  case a3 => intro _ _; rfl
  case a1 =>
    refine EvNew.ev ?_
    show EvNew _ _ _ _ _ [.int 1112896, .int 2257473, .int 2190592, .int 1179136]
    walk_at "new"
  -- numbers = script[:5]
  refine' K.assign (l := 12) (d := .list ((script.take 5).map .int)) F₂ R' hsc ?b1 (fun s₃ F₃ _ _ => ?_) ?b2 ?b3
  case b2 => decide +kernel
  case b3 => intro _ _; rfl
  case b1 =>
    refine Ev.to (d' := (.list (pickV (script.map .int) none (some ((5 : Nat) : Int)) none), false)) (EvNew.ev ?_) (by rw [pick_take, List.map_take])
    refine' EvNew.slice (f := false) ?c1 ?c2 ?c3 ?c4 ?c5 ?c6
    case c1 => walk_at "ev"
    case c2 => walk_at "part"
    case c3 => walk_at "part"
    case c4 => walk_at "part"
    case c5 => decide
    case c6 => rw [List.length_map]; exact hsz
  -- the tree
  refine' K.assign (l := 12) (d := .list (treeV ns)) F₃ R' hsc ?d1 (fun s₄ F₄ _ _ => ?_) ?d2 ?d3
  case d2 => decide +kernel
  case d3 => intro _ _; rfl
  case d1 =>
    rw [← hns]
    refine' Ev.lift (Ev.callD Hc ?e1 ?e2 ?e3 (Calls.mono (c_tree Hc hTc (nums := script.take 5 ++ ownNums.drop (script.take 5).length) ?e4) (by omega)) ?e5 ?e6)
    case e1 => walk_at "glob"
    case e2 => walk_at "fdv"
    case e4 =>
      have : ownNums.length = 4 := rfl
      rw [List.length_append, List.length_drop, this]; omega
    case e5 => intro _; rfl
    case e6 => intro _; rfl
    case e3 =>
      refine' EvA.cons ?f1 EvA.nil ?f2
      case f2 => intro _; rfl
      case f1 =>
        rw [List.map_append]
        refine EvNew.ev ?_
        refine' EvNew.addList (f := false) (g := false) ?g1 ?g2 ?g3
        case g1 => walk_at "ev"
        case g3 => simp only [List.length_map, List.length_drop]; rw [sizeLine_eq]; have : ownNums.length = 4 := rfl; omega
        case g2 =>
          refine Ev.to (d' := (.list (pickV (ownNums.map .int) (some (((script.take 5).map V.int).length : Int)) none none), false)) (EvNew.ev ?_) (by rw [pick_drop, List.map_drop, List.length_map])
          have hl5 : ((script.take 5).map V.int).length ≤ 5 := by rw [List.length_map]; exact ln
          refine' EvNew.slice (f := false) ?h1 ?h2 ?h3 ?h4 ?h5 ?h6
          case h1 => walk_at "ev"
          case h2 => walk_at "part"
          case h3 => walk_at "part"
          case h4 => walk_at "part"
          case h5 => simp
          case h6 => rw [List.length_map, sizeLine_eq]; decide
  -- both orders
  have hnl := ok.nl
  have hord := c_orders Hc hTc (ns := ns) rfl (by omega) (ord_small (by rw [List.length_map]; exact hnl)) 6 0 (by omega) ok.n0 (by omega)
  rw [ok.ord] at hord
  refine' K.assignTgt (l := 12) (d := .tuple [.list (natsV ah), .list (natsV be)]) F₄ R' hsc ?i1 ?i2 (fun own₅ s₅ F₅ => ?_) ?i3 ?i4
  case i3 => intro _ _; rfl
  case i4 => intro _; rfl
  case i2 => walk_at "tgt"
  case i1 =>
    refine' Ev.lift (Ev.callD Hc ?j1 ?j2 ?j3 (Calls.mono hord (by omega)) ?j5 ?j6)
    case j1 => walk_at "glob"
    case j2 => walk_at "fdv"
    case j3 => walk_at "args"
    case j5 => intro _; rfl
    case j6 => intro _; rfl
  -- the listing
  have tape : ∀ {ρ : Rho} {ks : List Nat} {e1 : Expr} {p1 p2 : Pos} (x : Str), EvA C.calm 12 (fdAt 252).scope ρ [.Name "tree" p1, e1] [(.list (treeV ns), false), (.list (natsV ks), false)] → ks.length ≤ 6 → (∀ k ∈ ks, k < ns.length) → True := fun _ _ _ _ => True.intro
  clear tape
  refine' K.assignF (l := 12) (d := .list ((ah.map (itemAt ns)).map Item.v)) F₅ R' hA' hfr hsc (EvF.listing (k := 8) H hT (by omega) ?k1 ?k2 ?k3 ?k4 ?k5 ?k6) (fun s₆ F₆ _ _ => ?_) ?k7 ?k8
  case k7 => decide +kernel
  case k8 => intro _ _; rfl
  case k1 => walk_at "glob"
  case k3 => intro i hi; obtain ⟨k, hk, rfl⟩ := List.mem_map.mp hi; exact itemAt_ok ok.nok ok.nm (ok.ain k hk)
  case k4 => exact tape_len ok.nok ok.al ok.ain
  case k5 => intro _; rfl
  case k6 => intro _; rfl
  case k2 =>
    rw [← itemAt_enc ok.nok ok.ain]
    have h1 := ok.al
    refine' Ev.lift (Ev.callD Hc ?l1 ?l2 ?l3 (Calls.mono (c_tape Hc hTc ns ah (by omega) (by omega) ok.ain ok.nok) (by omega)) ?l5 ?l6)
    case l1 => walk_at "glob"
    case l2 => walk_at "fdv"
    case l3 => walk_at "args"
    case l5 => intro _; rfl
    case l6 => intro _; rfl
  rw [itemAt_v ok.nok ok.ain] at F₆
  have h1 := ok.al
  have h2 := ok.bl
  -- the ways
  refine' K.assign (l := 12) (d := .list (ws.map .str)) F₆ R' hsc ?m1 (fun s₇ F₇ _ _ => ?_) ?m2 ?m3
  case m2 => decide +kernel
  case m3 => intro _ _; rfl
  case m1 =>
    rw [← ok.wE]
    refine' Ev.lift (Ev.callD Hc ?n1 ?n2 ?n3 (Calls.mono (c_ways Hc hTc (ah.map (outAt ns)) (by rw [List.length_map]; omega) (outs_ok ok ok.ain)) (by omega)) ?n5 ?n6)
    case n1 => walk_at "glob"
    case n2 => walk_at "fdv"
    case n3 => walk_at "args"
    case n5 => intro _; rfl
    case n6 => intro _; rfl
  -- the others
  refine' K.assignF (l := 12) (d := .list (os.map .str)) F₇ R' hA' hfr hsc ?o1 (fun s₈ F₈ _ _ => ?_) ?o2 ?o3
  case o2 => decide +kernel
  case o3 => intro _ _; rfl
  case o1 =>
    have e1 : V.list (os.map .str) = .list (pickV ((waysF ((be.map (outAt ns)).reverse)).map .str) none none (some (-1))) := by
      rw [pick_rev, ← ok.oE, List.map_reverse]
    rw [e1]
    have hwo : (waysF ((be.map (outAt ns)).reverse)).length = os.length := by rw [← ok.oE, List.length_reverse]
    have hol : os.length = be.length := by rw [ok.osE, List.length_map]
    refine' EvF.slice ?p1 ?p2 ?p3 ?p4 ?p5 ?p6
    case p2 => walk_at "part"
    case p3 => walk_at "part"
    case p4 => walk_at "part"
    case p5 => decide
    case p6 => rw [List.length_map, sizeLine_eq]; omega
    case p1 =>
      refine' EvF.call1 (d := .list (((be.map (outAt ns)).reverse).map itemV)) H ?q1 ?q2 ?q3 (Calls.lift (Calls.mono (c_ways Hc hTc ((be.map (outAt ns)).reverse) (by rw [List.length_reverse, List.length_map]; omega) (fun e he => outs_ok ok ok.bin e (List.mem_reverse.mp he))) (by omega))) ?q5 ?q6
      case q1 => walk_at "glob"
      case q2 => walk_at "fdv"
      case q5 => intro _; rfl
      case q6 => intro _; rfl
      case q3 =>
        have e2 : V.list (((be.map (outAt ns)).reverse).map itemV) = .list (pickV ((be.map (itemAt ns)).map Item.v) none none (some (-1))) := by
          rw [pick_rev, itemAt_v ok.nok ok.bin, List.map_reverse]
        rw [e2]
        refine' EvF.slice ?r1 ?r2 ?r3 ?r4 ?r5 ?r6
        case r2 => walk_at "part"
        case r3 => walk_at "part"
        case r4 => walk_at "part"
        case r5 => decide
        case r6 => rw [List.length_map, List.length_map, sizeLine_eq]; omega
        case r1 =>
          refine' EvF.listing (k := 8) H hT (by omega) ?t1 ?t2 ?t3 ?t4 ?t5 ?t6
          case t1 => walk_at "glob"
          case t3 => intro i hi; obtain ⟨k, hk, rfl⟩ := List.mem_map.mp hi; exact itemAt_ok ok.nok ok.nm (ok.bin k hk)
          case t4 => exact tape_len ok.nok ok.bl ok.bin
          case t5 => intro _; rfl
          case t6 => intro _; rfl
          case t2 =>
            rw [← itemAt_enc ok.nok ok.bin]
            refine' Ev.lift (Ev.callD Hc ?u1 ?u2 ?u3 (Calls.mono (c_tape Hc hTc ns be (by omega) (by omega) ok.bin ok.nok) (by omega)) ?u5 ?u6)
            case u1 => walk_at "glob"
            case u2 => walk_at "fdv"
            case u3 => walk_at "args"
            case u5 => intro _; rfl
            case u6 => intro _; rfl
  -- the rest
  refine wpAny_mono ((law_rest H ok) R' hsc (F₈.sub (Cov.get (by unfold rhoR; walk_at "cov")))) (fun f s' hq => ?_) fun _ _ e => e
  obtain ⟨o', rfl, v, own', rfl, F', _, _, r⟩ := hq
  have hvb : v = .bool true := by simpa only [VR] using r
  subst hvb
  refine h s' F'.base ?_
  obtain ⟨m, cm, X, _⟩ := F'.call
  obtain ⟨h', tk, rfl⟩ := X.toInCall.same
  exact ⟨h', tk, rfl⟩
end
end

section
theorem well_ints {P : Params} {h : Heap} : ∀ {xs : List Int} {vs : List Value}, WellAll P h vs (ofPys (xs.map .int)) → VRs h [] (xs.map V.int) vs
  | [], vs, w => by
    cases w
    exact VRs.nil
  | x :: xs, vs, w => by
    cases w with
    | cons h1 h2 =>
      cases h1
      refine VRs.cons ?_ (well_ints h2)
      simp only [VR]
      exact ⟨_, rfl⟩
theorem well_list {P : Params} {h : Heap} {xs : List Int} {a : Addr} (w : Well P h (.ref a) (ofPy (.list (xs.map .int)))) : VR h [] (.list (xs.map .int)) (.ref a) := by
  cases w with
  | list e w2 =>
    simp only [VR]
    exact ⟨a, _, rfl, by simp, ⟨_, _, e, rfl⟩, well_ints w2⟩
/-- what stands under the call of the law -/
noncomputable def lawCtx (P : Program) (w : World) {p : Program} {loose : List Str} {mean : ExcName → Option Value} {mg mb : Str → Option Value} {h : Heap} (hT : TabsAt [(201, 197)] h) (T : Top p loose mean mg mb h) : Ctx :=
  { prog := P, w := w, G := ghostOf h [(201, 197)], T := [197], mg := mg, mb := mb, g := (ghost_top hT T).g, b := (ghost_top hT T).b, lim := (ghost_top hT T).nolimit,
    notab := fun t ht => by rw [List.mem_singleton] at ht; subst ht; exact hideAll_none _ (by simp) }
theorem law_prog {P : Program} {w : World} {p : Program} {loose : List Str} {mean : ExcName → Option Value} {mg mb : Str → Option Value} {h : Heap} (hT : TabsAt [(201, 197)] h) (T : Top p loose mean mg mb h) (X : (KF w.params).In h) : Prog (lawCtx P w hT T) where
  X := ghost_K hT X (by kernel_rfl)
  builtins := (ghost_top hT T).builtins
  code := (ghost_code hT).1
  bm := (ghost_top hT T).bmain
theorem law_base {P : Program} {w : World} {p : Program} {loose : List Str} {mean : ExcName → Option Value} {mg mb : Str → Option Value} {h : Heap} (hT : TabsAt [(201, 197)] h) (T : Top p loose mean mg mb h) : Base (lawCtx P w hT T) h where
  keep := fun b o e => of_hideAll _ e
  grown := fun t ht => by
    have ht' : t = 197 := List.mem_singleton.mp ht
    subst ht'
    exact ⟨#[], (hT (201, 197) (by simp)).2, trivial, fun p cv _ _ h3 => by cases h3⟩
theorem g_law (P : Params) : nsIn (KF P) mainGlobals (Str.ofString "law") = some (some (.ref 252)) := by kernel_rfl
end

end
section
theorem bitT (r k : Nat) : r.testBit k = (r / 2 ^ k % 2 == 1) := by
  rw [Nat.testBit_eq_decide_div_mod_eq]; rfl
theorem and_two (r k : Nat) : r &&& 2 ^ k = if (r / 2 ^ k % 2 == 1) = true then 2 ^ k else 0 := by
  rw [← bitT]
  refine Nat.eq_of_testBit_eq fun i => ?_
  rw [Nat.testBit_and, Nat.testBit_two_pow]
  by_cases h : k = i
  · subst h
    cases hb : r.testBit k
    · rw [if_neg Bool.false_ne_true, Nat.zero_testBit]; rfl
    · rw [if_pos rfl, Nat.testBit_two_pow]; rfl
  · rw [decide_eq_false h, Bool.and_false]
    cases hb : r.testBit k
    · rw [if_neg Bool.false_ne_true, Nat.zero_testBit]
    · rw [if_pos rfl, Nat.testBit_two_pow, decide_eq_false h]
theorem one_bit (r k : Nat) : ((r &&& 2 ^ k) == 2 ^ k) = (r / 2 ^ k % 2 == 1) := by
  rw [and_two]
  have := Nat.two_pow_pos k
  cases (r / 2 ^ k % 2 == 1)
  · rw [if_neg Bool.false_ne_true]; exact beq_false_of_ne (by omega)
  · rw [if_pos rfl]; exact beq_self_eq_true _
theorem two_bits (r a b : Nat) (h : 2 ^ a ||| 2 ^ b ≠ 2 ^ a ∧ 2 ^ a ||| 2 ^ b ≠ 2 ^ b ∧ 2 ^ a ||| 2 ^ b ≠ 0) : ((r &&& (2 ^ a ||| 2 ^ b)) == 2 ^ a ||| 2 ^ b) = ((r / 2 ^ a % 2 == 1) && (r / 2 ^ b % 2 == 1)) := by
  rw [Nat.and_or_distrib_left, and_two, and_two]
  cases (r / 2 ^ a % 2 == 1) <;> cases (r / 2 ^ b % 2 == 1)
  · rw [if_neg Bool.false_ne_true, if_neg Bool.false_ne_true, Nat.or_zero]; exact beq_false_of_ne fun e => h.2.2 e.symm
  · rw [if_neg Bool.false_ne_true, if_pos rfl, Nat.zero_or]; exact beq_false_of_ne fun e => h.2.1 e.symm
  · rw [if_neg Bool.false_ne_true, if_pos rfl, Nat.or_zero]; exact beq_false_of_ne fun e => h.1 e.symm
  · rw [if_pos rfl, if_pos rfl]; exact beq_self_eq_true _
theorem high_none {r : Nat} (h : r < 4096) : (r &&& 61440) = 0 := by
  have e : r &&& (2 ^ 12 - 1) = r := by rw [Nat.and_two_pow_sub_one_eq_mod]; omega
  rw [← e, Nat.and_assoc]
  exact Nat.and_zero r
noncomputable def bitB (r k : Nat) : Bool := r / 2 ^ k % 2 == 1
noncomputable def maskB (r : Nat) : Bool :=
  ((List.range 12).all fun k => ((r &&& 2 ^ k) == 2 ^ k) == bitB r k) && (((r &&& 2112) == 2112) == (bitB r 11 && bitB r 6)) && (((r &&& 1032) == 1032) == (bitB r 10 && bitB r 3)) && (((r &&& 513) == 513) == (bitB r 9 && bitB r 0)) && ((r &&& 61440) == 0)
theorem mask_ok {r : Nat} (h : r < 4096) : maskB r = true := by
  unfold maskB
  have h1 : ((r &&& 2112) == 2112) = (bitB r 11 && bitB r 6) := two_bits r 11 6 (by decide)
  have h2 : ((r &&& 1032) == 1032) = (bitB r 10 && bitB r 3) := two_bits r 10 3 (by decide)
  have h3 : ((r &&& 513) == 513) = (bitB r 9 && bitB r 0) := two_bits r 9 0 (by decide)
  have h0 : ((List.range 12).all fun k => ((r &&& 2 ^ k) == 2 ^ k) == bitB r k) = true := by
    rw [List.all_eq_true]
    intro k _
    rw [one_bit]
    exact beq_self_eq_true _
  rw [h0, h1, h2, h3, high_none h, beq_self_eq_true, beq_self_eq_true, beq_self_eq_true]; rfl
theorem join_ten (c0 c1 c2 c3 c4 c5 c6 c7 c8 c9 : Nat) : Txt.join "" [⟨#[c0]⟩, ⟨#[c1]⟩, ⟨#[c2]⟩, ⟨#[c3]⟩, ⟨#[c4]⟩, ⟨#[c5]⟩, ⟨#[c6]⟩, ⟨#[c7]⟩, ⟨#[c8]⟩, ⟨#[c9]⟩] = ⟨#[c0, c1, c2, c3, c4, c5, c6, c7, c8, c9]⟩ := by kernel_rfl
theorem cut_ten (c0 c1 c2 c3 c4 c5 c6 c7 c8 c9 : Nat) : Txt.slice ⟨#[c0, c1, c2, c3, c4, c5, c6, c7, c8, c9]⟩ (some 1) none = ⟨#[c1, c2, c3, c4, c5, c6, c7, c8, c9]⟩ := by kernel_rfl
noncomputable def pickC (x : Str) (i : Int) : Nat := (Txt.charAt x i).getD 0
noncomputable def runC (r : Int) (c : Nat) : Nat := pickC (if bitF r (11 - (c : Int)) = 0 then "-x" else if c = 2 then "Tt" else "Ss") (bitF r (6 - 3 * (c : Int)))
theorem signs_cut (r : Int) : signsF r = ⟨#[pickC "-r" (bitF r 8), pickC "-w" (bitF r 7), runC r 0, pickC "-r" (bitF r 5), pickC "-w" (bitF r 4), runC r 1, pickC "-r" (bitF r 2), pickC "-w" (bitF r 1), runC r 2]⟩ := by kernel_rfl
theorem bitAnd_nat (r m : Nat) : Builtin.bitAnd (r : Int) (m : Int) = ((r &&& m : Nat) : Int) := by
  rw [bitAnd_pp (by omega) (by omega), Int.toNat_natCast, Int.toNat_natCast]
theorem bitAnd_beq (r m k : Nat) : (Builtin.bitAnd (r : Int) (m : Int) == (k : Int)) = ((r &&& m) == k) := by
  rw [bitAnd_nat]
  refine Bool.eq_iff_iff.mpr ?_
  simp only [beq_iff_eq]
  omega
theorem bitF_nat (r k : Nat) : bitF (r : Int) (k : Int) = if bitB r k then 1 else 0 := by
  unfold bitF bitB
  rw [Int.toNat_natCast]
  have e : (r : Int) / 2 ^ k = ((r / 2 ^ k : Nat) : Int) := by push_cast; rfl
  rw [e]
  rcases Nat.mod_two_eq_zero_or_one (r / 2 ^ k) with h | h
  · rw [h, if_neg (by decide)]; omega
  · rw [h, if_pos (by decide)]; omega
theorem sign_one (r m i : Nat) (x : Str) (b : Bool) (h : ((r &&& m) == m) = b) (hi : i ≠ 0) : signAt (r : Int) i [((m : Int), x)] = if b then x else "-" := by
  unfold signAt
  rw [List.find?_cons, List.find?_nil]
  have : hits (r : Int) i ((m : Int), x) = b := by unfold hits; rw [if_neg hi, bitAnd_beq, h]
  rw [this]
  cases b
  · dsimp only; rw [if_neg hi, if_neg Bool.false_ne_true]
  · rfl
theorem sign_three (r m1 m2 m3 i : Nat) (x1 x2 x3 : Str) (b1 b2 : Bool) (h1 : ((r &&& m1) == m1) = (b1 && b2)) (h2 : ((r &&& m2) == m2) = b1) (h3 : ((r &&& m3) == m3) = b2) (hi : i ≠ 0) :
    signAt (r : Int) i [((m1 : Int), x1), ((m2 : Int), x2), ((m3 : Int), x3)] = if b1 then (if b2 then x1 else x2) else (if b2 then x3 else "-") := by
  unfold signAt
  have e1 : hits (r : Int) i ((m1 : Int), x1) = (b1 && b2) := by unfold hits; rw [if_neg hi, bitAnd_beq, h1]
  have e2 : hits (r : Int) i ((m2 : Int), x2) = b1 := by unfold hits; rw [if_neg hi, bitAnd_beq, h2]
  have e3 : hits (r : Int) i ((m3 : Int), x3) = b2 := by unfold hits; rw [if_neg hi, bitAnd_beq, h3]
  rw [List.find?_cons, List.find?_cons, List.find?_cons, List.find?_nil, e1, e2, e3]
  cases b1 <;> cases b2 <;> simp [hi]
theorem signs_ok {r : Nat} (h : r < 4096) : Txt.slice (filemodeF (r : Int)) (some 1) none = signsF (r : Int) ∧ (filemodeF (r : Int)).length ≤ 1000 := by
  have hm := mask_ok h
  unfold maskB at hm
  simp only [Bool.and_eq_true, List.all_eq_true, beq_iff_eq] at hm
  obtain ⟨⟨⟨⟨hk, h11⟩, h10⟩, h9⟩, h0⟩ := hm
  have bit : ∀ k < 12, ((r &&& 2 ^ k) == 2 ^ k) = bitB r k := fun k hk' => hk k (List.mem_range.mpr hk')
  have s0 : signAt (r : Int) 0 [(40960, "l"), (49152, "s"), (32768, "-"), (24576, "b"), (16384, "d"), (8192, "c"), (4096, "p")] = "?" := by
    have hh : ∀ p : Int × Str, hits (r : Int) 0 p = ((0 : Int) == p.1) := fun p => by
      unfold hits
      rw [if_pos rfl, show ((61440 : Int)) = ((61440 : Nat) : Int) from rfl, bitAnd_nat, h0]; rfl
    unfold signAt
    simp only [List.find?_cons, List.find?_nil, hh]
    rfl
  have s1 := sign_one r (2 ^ 8) 1 "r" _ (bit 8 (by decide)) (by decide)
  have s2 := sign_one r (2 ^ 7) 2 "w" _ (bit 7 (by decide)) (by decide)
  have s3 := sign_three r 2112 (2 ^ 11) (2 ^ 6) 3 "s" "S" "x" _ _ h11 (bit 11 (by decide)) (bit 6 (by decide)) (by decide)
  have s4 := sign_one r (2 ^ 5) 4 "r" _ (bit 5 (by decide)) (by decide)
  have s5 := sign_one r (2 ^ 4) 5 "w" _ (bit 4 (by decide)) (by decide)
  have s6 := sign_three r 1032 (2 ^ 10) (2 ^ 3) 6 "s" "S" "x" _ _ h10 (bit 10 (by decide)) (bit 3 (by decide)) (by decide)
  have s7 := sign_one r (2 ^ 2) 7 "r" _ (bit 2 (by decide)) (by decide)
  have s8 := sign_one r (2 ^ 1) 8 "w" _ (bit 1 (by decide)) (by decide)
  have s9 := sign_three r 513 (2 ^ 9) (2 ^ 0) 9 "t" "T" "x" _ _ h9 (bit 9 (by decide)) (bit 0 (by decide)) (by decide)
  have hfs : fileSigns (r : Int) = [signAt (r : Int) 0 [(40960, "l"), (49152, "s"), (32768, "-"), (24576, "b"), (16384, "d"), (8192, "c"), (4096, "p")], signAt (r : Int) 1 [(((2 ^ 8 : Nat) : Int), "r")], signAt (r : Int) 2 [(((2 ^ 7 : Nat) : Int), "w")], signAt (r : Int) 3 [((2112 : Nat), "s"), (((2 ^ 11 : Nat) : Int), "S"), (((2 ^ 6 : Nat) : Int), "x")],
      signAt (r : Int) 4 [(((2 ^ 5 : Nat) : Int), "r")], signAt (r : Int) 5 [(((2 ^ 4 : Nat) : Int), "w")], signAt (r : Int) 6 [((1032 : Nat), "s"), (((2 ^ 10 : Nat) : Int), "S"), (((2 ^ 3 : Nat) : Int), "x")],
      signAt (r : Int) 7 [(((2 ^ 2 : Nat) : Int), "r")], signAt (r : Int) 8 [(((2 ^ 1 : Nat) : Int), "w")], signAt (r : Int) 9 [((513 : Nat), "t"), (((2 ^ 9 : Nat) : Int), "T"), (((2 ^ 0 : Nat) : Int), "x")]] := rfl
  have one : ∀ (k : Nat) (b : Bool) (x y : Str), bitF (r : Int) (k : Int) = (if b then 1 else 0) → (if b then y else "-") = ⟨#[pickC x (bitF (r : Int) (k : Int))]⟩ → True := fun _ _ _ _ _ _ => True.intro
  clear one
  have f : ∀ k : Nat, bitF (r : Int) (k : Int) = if bitB r k then 1 else 0 := bitF_nat r
  have r8 : (if bitB r 8 then ("r" : Str) else "-") = ⟨#[pickC "-r" (bitF (r : Int) 8)]⟩ := by rw [show bitF (r : Int) 8 = _ from f 8]; cases bitB r 8 <;> decide +kernel
  have r5 : (if bitB r 5 then ("r" : Str) else "-") = ⟨#[pickC "-r" (bitF (r : Int) 5)]⟩ := by rw [show bitF (r : Int) 5 = _ from f 5]; cases bitB r 5 <;> decide +kernel
  have r2 : (if bitB r 2 then ("r" : Str) else "-") = ⟨#[pickC "-r" (bitF (r : Int) 2)]⟩ := by rw [show bitF (r : Int) 2 = _ from f 2]; cases bitB r 2 <;> decide +kernel
  have r7 : (if bitB r 7 then ("w" : Str) else "-") = ⟨#[pickC "-w" (bitF (r : Int) 7)]⟩ := by rw [show bitF (r : Int) 7 = _ from f 7]; cases bitB r 7 <;> decide +kernel
  have r4 : (if bitB r 4 then ("w" : Str) else "-") = ⟨#[pickC "-w" (bitF (r : Int) 4)]⟩ := by rw [show bitF (r : Int) 4 = _ from f 4]; cases bitB r 4 <;> decide +kernel
  have r1 : (if bitB r 1 then ("w" : Str) else "-") = ⟨#[pickC "-w" (bitF (r : Int) 1)]⟩ := by rw [show bitF (r : Int) 1 = _ from f 1]; cases bitB r 1 <;> decide +kernel
  have x0 : (if bitB r 11 then (if bitB r 6 then ("s" : Str) else "S") else (if bitB r 6 then "x" else "-")) = ⟨#[runC (r : Int) 0]⟩ := by
    unfold runC
    rw [show bitF (r : Int) (11 - ((0 : Nat) : Int)) = _ from f 11, show bitF (r : Int) (6 - 3 * ((0 : Nat) : Int)) = _ from f 6]
    cases bitB r 11 <;> cases bitB r 6 <;> decide +kernel
  have x1 : (if bitB r 10 then (if bitB r 3 then ("s" : Str) else "S") else (if bitB r 3 then "x" else "-")) = ⟨#[runC (r : Int) 1]⟩ := by
    unfold runC
    rw [show bitF (r : Int) (11 - ((1 : Nat) : Int)) = _ from f 10, show bitF (r : Int) (6 - 3 * ((1 : Nat) : Int)) = _ from f 3]
    cases bitB r 10 <;> cases bitB r 3 <;> decide +kernel
  have x2 : (if bitB r 9 then (if bitB r 0 then ("t" : Str) else "T") else (if bitB r 0 then "x" else "-")) = ⟨#[runC (r : Int) 2]⟩ := by
    unfold runC
    rw [show bitF (r : Int) (11 - ((2 : Nat) : Int)) = _ from f 9, show bitF (r : Int) (6 - 3 * ((2 : Nat) : Int)) = _ from f 0]
    cases bitB r 9 <;> cases bitB r 0 <;> decide +kernel
  unfold filemodeF
  rw [hfs, s0, s1, s2, s3, s4, s5, s6, s7, s8, s9, r8, r7, x0, r5, r4, x1, r2, r1, x2, show ("?" : Str) = ⟨#[63]⟩ by decide +kernel, join_ten]
  exact ⟨(cut_ten ..).trans (signs_cut _).symm, by show 10 ≤ 1000; decide⟩
end

section
/-- a place of the tree, its modes left out -/
structure Plc where
  depth : Nat
  name : Str
  way : Str
  chain : List Nat
noncomputable def plc0 : Plc := ⟨0, "", "/", [0]⟩
noncomputable def plcStep (st : List Plc) (u : Nat) : List Plc := match st[u]? with
  | some e => st ++ [⟨e.depth + 1, nameAt (st.length - 1), (if u = 0 then ("" : Str) else e.way) ++ "/" ++ nameAt (st.length - 1), e.chain ++ [st.length]⟩]
  | none => st
noncomputable def plcs (us : List Nat) : List Plc := us.foldl plcStep [plc0]

/-- a list of ways down, by their own dirnames -/
noncomputable def climbB : Nat → Str → List Str → Bool
  | _, _, [] => false
  | 0, _, _ => false
  | f + 1, w, x :: r => (w == x) && (match r with
    | [] => w == "/"
    | y :: _ => (w != "/") && decide (w.length ≤ 1000) && (dirnameF w == y) && climbB f y r)
theorem climb_of : ∀ (f : Nat) (w : Str) (xs : List Str), climbB f w xs = true → ∃ r, Climb w r ∧ xs = w :: r
  | _, _, [], h => by cases ‹Nat› <;> cases h
  | 0, _, _ :: _, h => by cases h
  | f + 1, w, x :: r, h => by
    unfold climbB at h
    rw [Bool.and_eq_true] at h
    obtain ⟨h1, h2⟩ := h
    have hx : w = x := eq_of_beq h1
    subst hx
    cases r with
    | nil =>
      have : w = "/" := eq_of_beq h2
      subst this
      exact ⟨[], .top, rfl⟩
    | cons y r =>
      simp only [Bool.and_eq_true, decide_eq_true_eq] at h2
      obtain ⟨⟨⟨h3, h4⟩, h5⟩, h6⟩ := h2
      obtain ⟨r', hc, he⟩ := climb_of f y (y :: r) h6
      have hy : dirnameF w = y := eq_of_beq h5
      simp only [List.cons.injEq, true_and] at he
      subst he
      subst hy
      exact ⟨_, .up h3 h4 hc, rfl⟩

noncomputable def cpB (xs : List Str) (want : Str) : Bool :=
  let cs := xs.map compsF
  match cs[bestmin cs]?, cs[bestmax cs]? with
  | some s1, some s2 => decide (s1.length ≤ 1000) && (decide (s2.length ≤ 1000) && (cpOk s1 s2 && (JoinOk "/" (cpf s1 s2) && (decide ((Txt.join "/" (cpf s1 s2)).length ≤ 1000) && (commonF s1 s2 == want)))))
  | _, _ => false
noncomputable def pathB (x : Str) : Bool := decide (x.length ≤ 1000) && (Txt.startswith x "/" && splitOk x)
theorem cp_of {xs : List Str} {want : Str} (hne : 0 < xs.length) (hl : xs.length ≤ 100) (he : ∀ x ∈ xs, pathB x = true) (h : cpB xs want = true) : ∃ s1 s2, CPOk xs s1 s2 ∧ commonF s1 s2 = want := by
  unfold cpB at h
  dsimp only at h
  cases h1 : (xs.map compsF)[bestmin (xs.map compsF)]? with
  | none => rw [h1] at h; cases h
  | some s1 =>
    cases h2 : (xs.map compsF)[bestmax (xs.map compsF)]? with
    | none => rw [h1, h2] at h; cases h
    | some s2 =>
      rw [h1, h2] at h
      simp only [Bool.and_eq_true, decide_eq_true_eq, beq_iff_eq] at h
      obtain ⟨a1, a2, a3, a4, a5, a6⟩ := h
      refine ⟨s1, s2, ⟨hne, hl, fun x hx => ?_, h1, h2, a1, a2, a3, a4, a5⟩, a6⟩
      have := he x hx
      unfold pathB at this
      simp only [Bool.and_eq_true, decide_eq_true_eq] at this
      exact this

noncomputable def pairStep (st : List Str × List Str) (e : Nat × Str) : List Str × List Str :=
  (st.1.take e.1 ++ [match (st.1.take e.1).getLast? with | some u => joinF u e.2 | none => "/"], st.2 ++ [match (st.1.take e.1).getLast? with | some u => joinF u e.2 | none => "/"])
noncomputable def waysP (es : List (Nat × Str)) : List Str := (es.foldl pairStep ([], [])).2
theorem waysF_eq (es : List (Nat × Str × Int)) : waysF es = waysP (es.map fun e => (e.1, e.2.1)) := by
  unfold waysF waysP
  rw [List.foldl_map]
  rfl
noncomputable def dnP (ps : List Plc) (k : Nat) : Nat × Str := match ps[k]? with | some e => (e.depth, e.name) | none => (0, "")
noncomputable def wayP (ps : List Plc) (k : Nat) : Str := match ps[k]? with | some e => e.way | none => ""
noncomputable def chP (ps : List Plc) (k : Nat) : List Nat := match ps[k]? with | some e => e.chain | none => []
noncomputable def overP (lt : List Nat) (j : Nat) : List Nat := (List.range (j + 1)).filter fun i => decide (lt.getD j 0 ≤ lt.getD i 0)
noncomputable def comB (ws : List Str) (lt : List Nat) (i j : Nat) : Bool := match ((overP lt i).filter (memB (overP lt j))).getLast? with
  | some b => decide (b < ws.length) && cpB ((ws.take (j + 1)).drop i ++ ["/./" ++ ws.getD i ""]) (ws.getD b "")
  | none => false
/-- all that the law asks of a shape -/
noncomputable def shapeB (us : List Nat) : Bool :=
  let ps := plcs us
  let ab := ordersF 6 (0 :: us) 0
  let ws := ab.1.map (wayP ps)
  let os := ab.2.map (wayP ps)
  let lt := ws.map fun w => os.idxOf w
  decide (ab.1.length ≤ 6) && (decide (ab.2.length ≤ 6) && ((ab.1.all fun k => decide (k < ps.length)) && ((ab.2.all fun k => decide (k < ps.length)) &&
  ((waysP (ab.1.map (dnP ps)) == ws) && (((waysP ((ab.2.map (dnP ps)).reverse)).reverse == os) && ((ws.all fun w => os.contains w) && ((ws.all fun w => decide (w.length ≤ 100) && (pathB w && pathB ("/./" ++ w))) &&
  ((ps.all fun e => decide (e.depth ≤ 10)) &&
  (List.range ws.length).all fun j => climbB 10 (ws.getD j "") ((overP lt j).reverse.map fun i => ws.getD i "") && (((overP lt j).map fun i => ab.1.getD i 0) == chP ps (ab.1.getD j 0) && (List.range j).all fun i => comB ws lt i j)))))))))
end

section
/-- ways by the numbers of their names -/
noncomputable def wayT : List Nat → Str
  | [] => "/"
  | c :: t => (c :: t).foldl (fun w c => w ++ "/" ++ nameAt c) ""
noncomputable def compT (t : List Nat) : List Str := t.map nameAt
noncomputable def tails : List (List Nat) := [0, 1, 2, 3, 4].foldr (fun c ts => ts ++ ts.map (c :: ·)) [[]]
noncomputable def factB (t : List Nat) : Bool :=
  pathB (wayT t) && (pathB ("/./" ++ wayT t) && (decide ((wayT t).length ≤ 100) && ((compsF (wayT t) == compT t) && ((compsF ("/./" ++ wayT t) == compT t) && (JoinOk "/" (compT t) && (decide ((Txt.join "/" (compT t)).length ≤ 1000) && (("/" ++ Txt.join "/" (compT t) == wayT t) && (match t.getLast? with
  | none => true
  | some c => (wayT t != "/") && ((dirnameF (wayT t) == wayT t.dropLast) && (joinF (wayT t.dropLast) (nameAt c) == wayT t))))))))))
theorem facts0 : ((tails.take 8).all factB) = true := by decide +kernel
theorem facts1 : (((tails.drop 8).take 8).all factB) = true := by decide +kernel
theorem facts2 : (((tails.drop 16).take 8).all factB) = true := by decide +kernel
theorem facts3 : ((tails.drop 24).all factB) = true := by decide +kernel
theorem facts {t : List Nat} (h : t ∈ tails) : factB t = true := by
  have e : tails = tails.take 8 ++ ((tails.drop 8).take 8 ++ ((tails.drop 16).take 8 ++ tails.drop 24)) := by decide +kernel
  rw [e] at h
  rcases List.mem_append.mp h with h | h
  · exact List.all_eq_true.mp facts0 t h
  rcases List.mem_append.mp h with h | h
  · exact List.all_eq_true.mp facts1 t h
  rcases List.mem_append.mp h with h | h
  · exact List.all_eq_true.mp facts2 t h
  · exact List.all_eq_true.mp facts3 t h
structure Fact (t : List Nat) : Prop where
  path : pathB (wayT t) = true
  dot : pathB ("/./" ++ wayT t) = true
  len : (wayT t).length ≤ 100
  cs : compsF (wayT t) = compT t
  ds : compsF ("/./" ++ wayT t) = compT t
  jok : JoinOk "/" (compT t) = true
  jlen : (Txt.join "/" (compT t)).length ≤ 1000
  jn : "/" ++ Txt.join "/" (compT t) = wayT t
  last : ∀ c, t.getLast? = some c → wayT t ≠ "/" ∧ dirnameF (wayT t) = wayT t.dropLast ∧ joinF (wayT t.dropLast) (nameAt c) = wayT t
theorem fact {t : List Nat} (h : t ∈ tails) : Fact t := by
  have q := facts h
  unfold factB at q
  simp only [Bool.and_eq_true, decide_eq_true_eq, beq_iff_eq] at q
  obtain ⟨a1, a2, a3, a4, a5, a6, a7, a8, a9⟩ := q
  refine ⟨a1, a2, a3, a4, a5, a6, a7, a8, fun c hc => ?_⟩
  rw [hc] at a9
  simp only [Bool.and_eq_true, beq_iff_eq, bne_iff_ne] at a9
  exact a9
theorem tails_five : ∀ t ∈ tails, t.length ≤ 5 ∧ ∀ c ∈ t, c < 5 := by decide +kernel
theorem tails_up : ∀ t ∈ tails, t.dropLast ∈ tails := by decide +kernel
theorem name_inj : ∀ a < 5, ∀ b < 5, (nameAt a == nameAt b) = (a == b) := by decide +kernel
noncomputable def rk (c : Nat) : Nat := [2, 4, 0, 3, 1].getD c 0
theorem name_lt : ∀ a < 5, ∀ b < 5, strLt (nameAt a) (nameAt b) = decide (rk a < rk b) := by decide +kernel
noncomputable def ltT : List Nat → List Nat → Bool
  | [], [] => false
  | [], _ :: _ => true
  | _ :: _, [] => false
  | x :: xs, y :: ys => if x == y then ltT xs ys else decide (rk x < rk y)
theorem ltL_T : ∀ xs ys : List Nat, (∀ c ∈ xs, c < 5) → (∀ c ∈ ys, c < 5) → ltL (compT xs) (compT ys) = ltT xs ys
  | [], [], _, _ => rfl
  | [], _ :: _, _, _ => rfl
  | _ :: _, [], _, _ => rfl
  | x :: xs, y :: ys, hx, hy => by
    show (if nameAt x == nameAt y then ltL (compT xs) (compT ys) else strLt (nameAt x) (nameAt y)) = if x == y then ltT xs ys else decide (rk x < rk y)
    have h1 := hx x List.mem_cons_self
    have h2 := hy y List.mem_cons_self
    rw [name_inj x h1 y h2, name_lt x h1 y h2, ltL_T xs ys (fun c h => hx c (List.mem_cons_of_mem _ h)) (fun c h => hy c (List.mem_cons_of_mem _ h))]
theorem gtL_T (xs ys : List Nat) (hx : ∀ c ∈ xs, c < 5) (hy : ∀ c ∈ ys, c < 5) : gtL (compT xs) (compT ys) = ltT ys xs := by
  rw [gtL_eq, ltL_T ys xs hy hx]
noncomputable def cpT : List Nat → List Nat → List Nat
  | a :: as, b :: bs => if a != b then [] else a :: cpT as bs
  | _, _ => []
noncomputable def okT : List Nat → List Nat → Bool
  | [], _ => true
  | _ :: _, [] => false
  | a :: as, b :: bs => (a != b) || okT as bs
theorem cpf_T : ∀ xs ys : List Nat, (∀ c ∈ xs, c < 5) → (∀ c ∈ ys, c < 5) → cpf (compT xs) (compT ys) = compT (cpT xs ys) ∧ cpOk (compT xs) (compT ys) = okT xs ys
  | [], ys, _, _ => by cases ys <;> exact ⟨rfl, rfl⟩
  | _ :: _, [], _, _ => ⟨rfl, rfl⟩
  | x :: xs, y :: ys, hx, hy => by
    obtain ⟨i1, i2⟩ := cpf_T xs ys (fun c h => hx c (List.mem_cons_of_mem _ h)) (fun c h => hy c (List.mem_cons_of_mem _ h))
    have hn : (nameAt x != nameAt y) = (x != y) := by
      unfold bne; rw [name_inj x (hx x List.mem_cons_self) y (hy y List.mem_cons_self)]
    constructor
    · show (if nameAt x != nameAt y then [] else nameAt x :: cpf (compT xs) (compT ys)) = compT (if x != y then [] else x :: cpT xs ys)
      rw [hn, i1]
      split <;> rfl
    · show ((nameAt x != nameAt y) || cpOk (compT xs) (compT ys)) = ((x != y) || okT xs ys)
      rw [hn, i2]
theorem wayT_inj {s t : List Nat} (hs : s ∈ tails) (ht : t ∈ tails) (h : wayT s = wayT t) : s = t := by
  have q : compT s = compT t := by rw [← (fact hs).cs, ← (fact ht).cs, h]
  have gen : ∀ xs ys : List Nat, (∀ c ∈ xs, c < 5) → (∀ c ∈ ys, c < 5) → compT xs = compT ys → xs = ys := by
    intro xs
    induction xs with
    | nil => intro ys _ _ h; cases ys with
      | nil => rfl
      | cons => cases h
    | cons x xs ih =>
      intro ys hx hy h
      cases ys with
      | nil => cases h
      | cons y ys =>
        have h1 : nameAt x = nameAt y ∧ compT xs = compT ys := by simpa [compT] using h
        have h2 := name_inj x (hx x List.mem_cons_self) y (hy y List.mem_cons_self)
        rw [h1.1, beq_self_eq_true] at h2
        rw [eq_of_beq h2.symm, ih ys (fun c h => hx c (List.mem_cons_of_mem _ h)) (fun c h => hy c (List.mem_cons_of_mem _ h)) h1.2]
  exact gen s t (tails_five s hs).2 (tails_five t ht).2 q
noncomputable def bminT (tt : List (List Nat)) : Nat := argBest (fun i j => ltT (tt.getD i []) (tt.getD j [])) (tt.length - 1)
noncomputable def bmaxT (tt : List (List Nat)) : Nat := argBest (fun i j => ltT (tt.getD j []) (tt.getD i [])) (tt.length - 1)
theorem getD_five {tt : List (List Nat)} (h : ∀ t ∈ tt, t ∈ tails) (i : Nat) : tt.getD i [] ∈ tails := by
  rw [List.getD_eq_getElem?_getD]
  cases hi : tt[i]? with
  | none => exact (by decide +kernel : ([] : List Nat) ∈ tails)
  | some t => exact h t (List.mem_of_getElem? hi)
theorem getD_comp (tt : List (List Nat)) (i : Nat) : (tt.map compT).getD i [] = compT (tt.getD i []) := by
  rw [List.getD_eq_getElem?_getD, List.getD_eq_getElem?_getD, List.getElem?_map]
  cases tt[i]? <;> rfl
theorem best_T {tt : List (List Nat)} (h : ∀ t ∈ tt, t ∈ tails) : bestmin (tt.map compT) = bminT tt ∧ bestmax (tt.map compT) = bmaxT tt := by
  unfold bestmin bestmax bminT bmaxT
  rw [List.length_map]
  constructor
  · congr 1
    funext i j
    rw [getD_comp, getD_comp, ltL_T _ _ (tails_five _ (getD_five h i)).2 (tails_five _ (getD_five h j)).2]
  · congr 1
    funext i j
    rw [getD_comp, getD_comp, gtL_T _ _ (tails_five _ (getD_five h i)).2 (tails_five _ (getD_five h j)).2]
noncomputable def cpM (tt : List (List Nat)) (want : List Nat) : Bool := match tt[bminT tt]?, tt[bmaxT tt]? with
  | some a, some b => okT a b && (cpT a b == want)
  | _, _ => false
theorem cpB_M {tt : List (List Nat)} {xs : List Str} {want : List Nat} (h : ∀ t ∈ tt, t ∈ tails) (hw : want ∈ tails) (hx : xs.map compsF = tt.map compT) (q : cpM tt want = true) : cpB xs (wayT want) = true := by
  unfold cpM at q
  unfold cpB
  dsimp only
  rw [hx, (best_T h).1, (best_T h).2, List.getElem?_map, List.getElem?_map]
  cases h1 : tt[bminT tt]? with
  | none => rw [h1] at q; cases q
  | some a =>
    cases h2 : tt[bmaxT tt]? with
    | none => rw [h1, h2] at q; cases q
    | some b =>
      rw [h1, h2] at q
      simp only [Bool.and_eq_true, beq_iff_eq] at q
      obtain ⟨q1, q2⟩ := q
      obtain ⟨a1, a2⟩ := tails_five a (h a (List.mem_of_getElem? h1))
      obtain ⟨b1, b2⟩ := tails_five b (h b (List.mem_of_getElem? h2))
      obtain ⟨e1, e2⟩ := cpf_T a b a2 b2
      have F := fact hw
      simp only [Option.map_some, Bool.and_eq_true, decide_eq_true_eq, beq_iff_eq]
      unfold commonF
      rw [e1, e2, q1, q2]
      exact ⟨by unfold compT; rw [List.length_map]; omega, by unfold compT; rw [List.length_map]; omega, rfl, F.jok, F.jlen, F.jn⟩
noncomputable def climbM : Nat → List Nat → List (List Nat) → Bool
  | _, _, [] => false
  | 0, _, _ => false
  | f + 1, t, x :: r => (t == x) && (match r with
    | [] => t == []
    | y :: _ => (t != []) && ((t.dropLast == y) && climbM f y r))
theorem climb_M : ∀ (f : Nat) (t : List Nat) (xs : List (List Nat)), t ∈ tails → (∀ x ∈ xs, x ∈ tails) → climbM f t xs = true → climbB f (wayT t) (xs.map wayT) = true
  | _, _, [], _, _, h => by cases ‹Nat› <;> cases h
  | 0, _, _ :: _, _, _, h => by cases h
  | f + 1, t, x :: r, ht, hx, h => by
    unfold climbM at h
    rw [Bool.and_eq_true] at h
    obtain ⟨h1, h2⟩ := h
    have he : t = x := eq_of_beq h1
    subst he
    rw [List.map_cons]
    unfold climbB
    rw [Bool.and_eq_true]
    refine ⟨beq_self_eq_true _, ?_⟩
    cases r with
    | nil =>
      have : t = [] := eq_of_beq h2
      subst this
      exact beq_self_eq_true _
    | cons y r =>
      dsimp only at h2
      simp only [Bool.and_eq_true, beq_iff_eq, bne_iff_ne] at h2
      obtain ⟨h3, h4, h5⟩ := h2
      have hl : t.getLast? = some (t.getLast h3) := List.getLast?_eq_some_getLast h3
      obtain ⟨f1, f2, _⟩ := (fact ht).last _ hl
      have := (fact ht).len
      have hy : wayT y ∈ ((y :: r).map wayT) := by simp
      simp only [List.map_cons, Bool.and_eq_true, decide_eq_true_eq, beq_iff_eq, bne_iff_ne]
      refine ⟨⟨⟨f1, by omega⟩, by rw [f2, h4]⟩, ?_⟩
      have := climb_M f y (y :: r) (hx y (by simp)) (fun z hz => hx z (List.mem_cons_of_mem _ hz)) h5
      rw [List.map_cons] at this
      exact this
noncomputable def lastN (t : List Nat) : Str := match t.getLast? with | some c => nameAt c | none => ""
noncomputable def plcOf (t : List Nat) : Plc := ⟨t.length, lastN t, wayT t, 0 :: t.map (· + 1)⟩
noncomputable def tlStep (st : List (List Nat)) (u : Nat) : List (List Nat) := match st[u]? with
  | some t => st ++ [t ++ [st.length - 1]]
  | none => st
noncomputable def tls (us : List Nat) : List (List Nat) := us.foldl tlStep [[]]
theorem wayT_snoc (t : List Nat) (c : Nat) : wayT (t ++ [c]) = (if t = [] then ("" : Str) else wayT t) ++ "/" ++ nameAt c := by
  cases t with
  | nil => rfl
  | cons a t =>
    rw [if_neg (by simp)]
    show ((a :: t) ++ [c]).foldl (fun w c => w ++ "/" ++ nameAt c) "" = _
    rw [List.foldl_append]
    rfl
theorem tl_step {st : List (List Nat)} (h0 : 0 < st.length) (hI : ∀ u t, st[u]? = some t → (u = 0 ↔ t = [])) (u : Nat) :
    plcStep (st.map plcOf) u = (tlStep st u).map plcOf ∧ 0 < (tlStep st u).length ∧ ∀ v t, (tlStep st u)[v]? = some t → (v = 0 ↔ t = []) := by
  unfold plcStep tlStep
  rw [List.getElem?_map]
  cases h : st[u]? with
  | none => exact ⟨rfl, h0, hI⟩
  | some t =>
    refine ⟨?_, by simp, fun v q hv => ?_⟩
    · have hu := hI u t h
      show st.map plcOf ++ [_] = (st ++ [_]).map plcOf
      rw [List.map_append, List.map_singleton, List.length_map]
      refine congrArg (fun e => st.map plcOf ++ [e]) ?_
      have e1 : (if u = 0 then ("" : Str) else (plcOf t).way) ++ "/" ++ nameAt (st.length - 1) = wayT (t ++ [st.length - 1]) := by
        rw [wayT_snoc]
        by_cases q : t = []
        · rw [if_pos q, if_pos (hu.mpr q)]
        · rw [if_neg q, if_neg (fun w => q (hu.mp w))]; rfl
      rw [e1]
      have e2 : (plcOf t).chain ++ [st.length] = 0 :: (t ++ [st.length - 1]).map (· + 1) := by
        show (0 :: t.map (· + 1)) ++ [st.length] = _
        rw [List.map_append, List.map_singleton, Nat.sub_add_cancel h0]; rfl
      rw [e2]
      have e3 : nameAt (st.length - 1) = lastN (t ++ [st.length - 1]) := by
        unfold lastN; rw [List.getLast?_append]; rfl
      rw [e3]
      show (⟨(plcOf t).depth + 1, _, _, _⟩ : Plc) = ⟨(t ++ [st.length - 1]).length, _, _, _⟩
      rw [List.length_append]; rfl
    · rcases Nat.lt_or_ge v st.length with hk | hk
      · rw [List.getElem?_append_left hk] at hv
        exact hI v q hv
      · have : v = st.length := by
          have := (List.getElem?_eq_some_iff.mp hv).1
          simp at this
          omega
        subst this
        have hq : q = t ++ [st.length - 1] := by simpa using hv.symm
        rw [hq]
        constructor
        · intro e; omega
        · intro e; simp at e
theorem tls_ok (us : List Nat) : plcs us = (tls us).map plcOf := by
  have gen : ∀ (us : List Nat) (st : List (List Nat)), 0 < st.length → (∀ u t, st[u]? = some t → (u = 0 ↔ t = [])) → us.foldl plcStep (st.map plcOf) = (us.foldl tlStep st).map plcOf := by
    intro us
    induction us with
    | nil => intro st _ _; rfl
    | cons u us ih =>
      intro st h0 hI
      obtain ⟨s1, s2, s3⟩ := tl_step h0 hI u
      rw [List.foldl_cons, List.foldl_cons, s1]
      exact ih _ s2 s3
  have h := gen us [[]] (by decide) (fun u t h => by
    cases u with
    | zero => cases h; simp
    | succ u => cases h)
  exact h
noncomputable def runM : List (List Nat) → List (List Nat) → Bool
  | _, [] => true
  | ss, t :: r => (match t.getLast? with | none => true | some _ => (ss.take t.length).getLast? == some t.dropLast) && runM (ss.take t.length ++ [t]) r
noncomputable def nextW (st : List Str × List Str) (e : Nat × Str) : Str := match (st.1.take e.1).getLast? with | some u => joinF u e.2 | none => "/"
theorem pairStep_eq (st : List Str × List Str) (e : Nat × Str) : pairStep st e = (st.1.take e.1 ++ [nextW st e], st.2 ++ [nextW st e]) := rfl
theorem run_M : ∀ (r ss : List (List Nat)) (os : List Str), (∀ t ∈ r, t ∈ tails) → runM ss r = true → ((r.map fun t => (t.length, lastN t)).foldl pairStep (ss.map wayT, os)).2 = os ++ r.map wayT
  | [], _, os, _, _ => by rw [List.map_nil, List.map_nil, List.append_nil]; rfl
  | t :: r, ss, os, hr, h => by
    unfold runM at h
    rw [Bool.and_eq_true] at h
    obtain ⟨h1, h2⟩ := h
    have hst : pairStep (ss.map wayT, os) (t.length, lastN t) = ((ss.take t.length ++ [t]).map wayT, os ++ [wayT t]) := by
      have e : nextW (ss.map wayT, os) (t.length, lastN t) = wayT t := by
        unfold nextW
        dsimp only
        rw [← List.map_take, List.getLast?_map]
        cases hl : t.getLast? with
        | none =>
          have : t = [] := List.getLast?_eq_none_iff.mp hl
          subst this
          rfl
        | some c =>
          rw [hl] at h1
          rw [eq_of_beq h1]
          show joinF (wayT t.dropLast) (lastN t) = _
          unfold lastN
          rw [hl]
          exact ((fact (hr t List.mem_cons_self)).last c hl).2.2
      rw [pairStep_eq, e, List.map_append, ← List.map_take]
      rfl
    rw [List.map_cons, List.foldl_cons, hst, run_M r _ _ (fun x hx => hr x (List.mem_cons_of_mem _ hx)) h2, List.append_assoc, List.map_cons]
    rfl
noncomputable def comM (ts : List (List Nat)) (lt : List Nat) (i j : Nat) : Bool := match ((overP lt i).filter (memB (overP lt j))).getLast? with
  | some b => decide (b < ts.length) && cpM ((ts.take (j + 1)).drop i ++ [ts.getD i []]) (ts.getD b [])
  | none => false
/-- all that the law asks of a shape, by numbers -/
noncomputable def shapeM (us : List Nat) : Bool :=
  let ts := tls us
  let ab := ordersF 6 (0 :: us) 0
  let ta := ab.1.map fun k => ts.getD k []
  let tb := ab.2.map fun k => ts.getD k []
  let lt := ta.map fun t => tb.idxOf t
  decide (ab.1.length ≤ 6) && (decide (ab.2.length ≤ 6) && ((ab.1.all fun k => decide (k < ts.length)) && ((ab.2.all fun k => decide (k < ts.length)) &&
  ((ts.all fun t => tails.contains t) && (runM [] ta && (runM [] tb.reverse && ((ta.all fun t => tb.contains t) &&
  (List.range ta.length).all fun j => climbM 10 (ta.getD j []) ((overP lt j).reverse.map fun i => ta.getD i []) && ((((overP lt j).map fun i => ab.1.getD i 0) == 0 :: (ta.getD j []).map (· + 1)) && (List.range j).all fun i => comM ta lt i j))))))))
theorem idx_T {tb : List (List Nat)} (hb : ∀ t ∈ tb, t ∈ tails) {t : List Nat} (ht : t ∈ tails) : (tb.map wayT).idxOf (wayT t) = tb.idxOf t := by
  induction tb with
  | nil => rfl
  | cons x tb ih =>
    rw [List.map_cons, List.idxOf_cons, List.idxOf_cons, ih fun t h => hb t (List.mem_cons_of_mem _ h)]
    have : (wayT x == wayT t) = (x == t) := by
      by_cases q : x = t
      · rw [q, beq_self_eq_true, beq_self_eq_true]
      · rw [beq_false_of_ne q, beq_false_of_ne fun w => q (wayT_inj (hb x List.mem_cons_self) ht w)]
    rw [this]
theorem shapeB_of {us : List Nat} (h : shapeM us = true) : shapeB us = true := by
  unfold shapeM at h
  unfold shapeB
  dsimp only at h ⊢
  rw [tls_ok]
  generalize tls us = ts at *
  generalize ordersF 6 (0 :: us) 0 = ab at *
  obtain ⟨ah, be⟩ := ab
  dsimp only at h ⊢
  simp only [Bool.and_eq_true] at h
  obtain ⟨b1, b2, b3, b4, b5, b6, b7, b8, b9⟩ := h
  have hts : ∀ t ∈ ts, t ∈ tails := fun t ht => List.contains_iff_mem.mp (List.all_eq_true.mp b5 t ht)
  have hin : ∀ ks : List Nat, (ks.all fun k => decide (k < ts.length)) = true → ks.map (wayP (ts.map plcOf)) = (ks.map fun k => ts.getD k []).map wayT ∧ ks.map (dnP (ts.map plcOf)) = ((ks.map fun k => ts.getD k []).map fun t => (t.length, lastN t)) ∧ ∀ t ∈ (ks.map fun k => ts.getD k []), t ∈ tails := fun ks hk => by
    refine ⟨?_, ?_, fun t ht => ?_⟩
    · rw [List.map_map]
      refine List.map_congr_left fun k hm => ?_
      have hkl := of_decide_eq_true (List.all_eq_true.mp hk k hm)
      unfold wayP
      rw [List.getElem?_map, Function.comp, List.getD_eq_getElem?_getD, List.getElem?_eq_getElem hkl]; rfl
    · rw [List.map_map]
      refine List.map_congr_left fun k hm => ?_
      have hkl := of_decide_eq_true (List.all_eq_true.mp hk k hm)
      unfold dnP
      rw [List.getElem?_map, Function.comp, List.getD_eq_getElem?_getD, List.getElem?_eq_getElem hkl]; rfl
    · obtain ⟨k, _, rfl⟩ := List.mem_map.mp ht
      exact getD_five hts k
  obtain ⟨a1, a2, a3⟩ := hin ah b3
  obtain ⟨c1, c2, c3⟩ := hin be b4
  have hch : ∀ k, k < ts.length → chP (ts.map plcOf) k = 0 :: (ts.getD k []).map (· + 1) := fun k hk => by
    unfold chP
    rw [List.getElem?_map, List.getD_eq_getElem?_getD, List.getElem?_eq_getElem hk]; rfl
  rw [a1, a2, c1, c2]
  generalize hta : (ah.map fun k => ts.getD k []) = ta at *
  generalize htb : (be.map fun k => ts.getD k []) = tb at *
  have hlt : (ta.map wayT).map (fun w => (tb.map wayT).idxOf w) = ta.map fun t => tb.idxOf t := by
    rw [List.map_map]
    exact List.map_congr_left fun t ht => idx_T c3 (a3 t ht)
  rw [hlt]
  generalize (ta.map fun t => tb.idxOf t) = lt at *
  have getW : ∀ i, i < ta.length → (ta.map wayT).getD i "" = wayT (ta.getD i []) := fun i hi => by
    rw [List.getD_eq_getElem?_getD, List.getD_eq_getElem?_getD, List.getElem?_map, List.getElem?_eq_getElem hi]; rfl
  simp only [Bool.and_eq_true]
  refine ⟨b1, b2, by rw [List.length_map]; exact b3, by rw [List.length_map]; exact b4, ?_, ?_, ?_, ?_, ?_, ?_⟩
  · have := run_M ta [] [] a3 b6
    unfold waysP
    rw [show (([], []) : List Str × List Str) = (([] : List (List Nat)).map wayT, []) from rfl, this]
    exact beq_self_eq_true _
  · have := run_M tb.reverse [] [] (fun t ht => c3 t (List.mem_reverse.mp ht)) b7
    unfold waysP
    rw [← List.map_reverse, show (([], []) : List Str × List Str) = (([] : List (List Nat)).map wayT, []) from rfl, this, List.nil_append, List.map_reverse, List.reverse_reverse]
    exact beq_self_eq_true _
  · rw [List.all_eq_true]
    intro w hw
    obtain ⟨t, ht, rfl⟩ := List.mem_map.mp hw
    exact List.contains_iff_mem.mpr (List.mem_map_of_mem (List.contains_iff_mem.mp (List.all_eq_true.mp b8 t ht)))
  · rw [List.all_eq_true]
    intro w hw
    obtain ⟨t, ht, rfl⟩ := List.mem_map.mp hw
    have F := fact (a3 t ht)
    rw [F.path, F.dot, decide_eq_true F.len]; rfl
  · rw [List.all_eq_true]
    intro e he
    obtain ⟨t, ht, rfl⟩ := List.mem_map.mp he
    have := (tails_five t (hts t ht)).1
    exact decide_eq_true (show t.length ≤ 10 by omega)
  · rw [List.length_map, List.all_eq_true]
    intro j hj
    have hjl := List.mem_range.mp hj
    have q := List.all_eq_true.mp b9 j hj
    simp only [Bool.and_eq_true] at q ⊢
    obtain ⟨q1, q2, q3⟩ := q
    have hov : ∀ i ∈ (overP lt j), i < ta.length := fun i hi => by
      have := List.mem_range.mp (List.mem_filter.mp hi).1
      omega
    refine ⟨?_, ?_, ?_⟩
    · rw [getW j hjl]
      have e : ((overP lt j).reverse.map fun i => (ta.map wayT).getD i "") = ((overP lt j).reverse.map fun i => ta.getD i []).map wayT := by
        rw [List.map_map]
        exact List.map_congr_left fun i hi => getW i (hov i (List.mem_reverse.mp hi))
      rw [e]
      exact climb_M 10 _ _ (getD_five a3 j) (fun x hx => by obtain ⟨i, _, rfl⟩ := List.mem_map.mp hx; exact getD_five a3 i) q1
    · have hal : j < ah.length := by rw [← hta, List.length_map] at hjl; exact hjl
      have hk : ah.getD j 0 < ts.length := by
        rw [List.getD_eq_getElem?_getD, List.getElem?_eq_getElem hal]
        exact of_decide_eq_true (List.all_eq_true.mp b3 _ (List.getElem_mem hal))
      rw [hch _ hk]
      have : ta.getD j [] = ts.getD (ah.getD j 0) [] := by
        rw [← hta, List.getD_eq_getElem?_getD, List.getElem?_map, List.getD_eq_getElem?_getD (l := ah), List.getElem?_eq_getElem hal]; rfl
      rw [← this]
      exact q2
    · rw [List.all_eq_true]
      intro i hi
      have hij := List.mem_range.mp hi
      have q := List.all_eq_true.mp q3 i hi
      unfold comM at q
      unfold comB
      cases hb : ((overP lt i).filter (memB (overP lt j))).getLast? with
      | none => rw [hb] at q; exact absurd q Bool.false_ne_true
      | some b =>
        rw [hb] at q
        simp only [Bool.and_eq_true, decide_eq_true_eq] at q ⊢
        obtain ⟨r1, r2⟩ := q
        refine ⟨by rw [List.length_map]; exact r1, ?_⟩
        rw [getW b r1, getW i (by omega)]
        refine cpB_M (fun t ht => ?_) (getD_five a3 b) ?_ r2
        · rcases List.mem_append.mp ht with ht | ht
          · exact a3 t (List.mem_of_mem_take (List.mem_of_mem_drop ht))
          · rw [List.mem_singleton] at ht; rw [ht]; exact getD_five a3 i
        · rw [List.map_append, List.map_append, List.map_singleton, List.map_singleton, (fact (getD_five a3 i)).ds, ← List.map_take, ← List.map_drop, List.map_map]
          refine congrArg (· ++ [compT (ta.getD i [])]) (List.map_congr_left fun t ht => ?_)
          exact (fact (a3 t (List.mem_of_mem_take (List.mem_of_mem_drop ht)))).cs
theorem all4 : ((List.range 2).all fun u2 => (List.range 3).all fun u3 => (List.range 4).all fun u4 => shapeM [0, u2, u3, u4]) = true := by decide +kernel
theorem all5_00 : ((List.range 4).all fun u4 => (List.range 5).all fun u5 => shapeM [0, 0, 0, u4, u5]) = true := by decide +kernel
theorem all5_01 : ((List.range 4).all fun u4 => (List.range 5).all fun u5 => shapeM [0, 0, 1, u4, u5]) = true := by decide +kernel
theorem all5_02 : ((List.range 4).all fun u4 => (List.range 5).all fun u5 => shapeM [0, 0, 2, u4, u5]) = true := by decide +kernel
theorem all5_10 : ((List.range 4).all fun u4 => (List.range 5).all fun u5 => shapeM [0, 1, 0, u4, u5]) = true := by decide +kernel
theorem all5_11 : ((List.range 4).all fun u4 => (List.range 5).all fun u5 => shapeM [0, 1, 1, u4, u5]) = true := by decide +kernel
theorem all5_12 : ((List.range 4).all fun u4 => (List.range 5).all fun u5 => shapeM [0, 1, 2, u4, u5]) = true := by decide +kernel
theorem all_range {n : Nat} {f : Nat → Bool} (h : ((List.range n).all f) = true) (i : Nat) (hi : i < n) : f i = true := List.all_eq_true.mp h i (List.mem_range.mpr hi)
theorem shape4 {u2 u3 u4 : Nat} (h2 : u2 < 2) (h3 : u3 < 3) (h4 : u4 < 4) : shapeB [0, u2, u3, u4] = true :=
  shapeB_of (all_range (all_range (all_range all4 u2 h2) u3 h3) u4 h4)
theorem shape5 {u2 u3 u4 u5 : Nat} (h2 : u2 < 2) (h3 : u3 < 3) (h4 : u4 < 4) (h5 : u5 < 5) : shapeB [0, u2, u3, u4, u5] = true := by
  refine shapeB_of ?_
  rcases (show u2 = 0 ∨ u2 = 1 by omega) with rfl | rfl <;> rcases (show u3 = 0 ∨ u3 = 1 ∨ u3 = 2 by omega) with rfl | rfl | rfl
  · exact all_range (all_range all5_00 u4 h4) u5 h5
  · exact all_range (all_range all5_01 u4 h4) u5 h5
  · exact all_range (all_range all5_02 u4 h4) u5 h5
  · exact all_range (all_range all5_10 u4 h4) u5 h5
  · exact all_range (all_range all5_11 u4 h4) u5 h5
  · exact all_range (all_range all5_12 u4 h4) u5 h5
end

section
noncomputable abbrev nameList : List Str := ["", "a", "b.", "...", "a-", ".c"]
theorem names_small : ∀ x ∈ nameList, x.length ≤ 10 ∧ ∀ c ∈ x.cps.toList, c < 256 := by decide +kernel
theorem nameAt_in : ∀ k < 5, nameAt k ∈ nameList := by decide +kernel
noncomputable def modeAt (ns : List Node) (i : Nat) : Int := (outAt ns i).2.2
theorem and_4095 {m : Int} (h : 0 ≤ m) : Builtin.bitAnd m 4095 = m % 4096 := by
  rw [bitAnd_pp h (by decide), show ((4095 : Int)).toNat = 2 ^ 12 - 1 from rfl, Nat.and_two_pow_sub_one_eq_mod]
  omega
theorem and_bound {a b : Int} (h0 : 0 ≤ a) (h1 : a < 4096) (hb : 0 ≤ b) : 0 ≤ Builtin.bitAnd a b ∧ Builtin.bitAnd a b < 4096 := by
  rw [bitAnd_pp h0 hb]
  have := Nat.and_le_left (n := a.toNat) (m := b.toNat)
  omega

structure Rel (ns : List Node) (ps : List Plc) (us : List Nat) : Prop where
  len : ns.length = ps.length
  ups : ns.map Node.up = us
  pos : 0 < ns.length
  small : ns.length ≤ 6
  here : ∀ (k : Nat) (n : Node), ns[k]? = some n → ∃ e, ps[k]? = some e ∧ n.depth = e.depth ∧ n.name = e.name ∧ n.way = e.way ∧ (0 ≤ n.mode ∧ n.mode < 65536) ∧ (0 ≤ n.rights ∧ n.rights < 4096) ∧ n.name ∈ nameList ∧ (∀ i ∈ e.chain, i ≤ k) ∧ n.rights = (e.chain.map (modeAt ns)).foldl Builtin.bitAnd 4095

theorem Rel.start : Rel [root] [plc0] [0] := by
  refine ⟨rfl, rfl, by decide, by decide, fun k n hn => ?_⟩
  cases k with
  | zero =>
    cases hn
    exact ⟨plc0, rfl, rfl, rfl, rfl, by decide, by decide, by decide +kernel, by decide, by decide +kernel⟩
  | succ k => cases hn
theorem Rel.step {ns : List Node} {ps : List Plc} {us : List Nat} (R : Rel ns ps us) (h6 : ns.length < 6) (x : Int) :
    Rel (treeStep ns x) (plcStep ps (x % (ns.length : Int)).toNat) (us ++ [(x % (ns.length : Int)).toNat]) ∧ (treeStep ns x).length = ns.length + 1 := by
  have hpos := R.pos
  have h0 : 0 ≤ x % (ns.length : Int) := Int.emod_nonneg _ (by omega)
  have h1 : x % (ns.length : Int) < ns.length := Int.emod_lt_of_pos _ (by omega)
  unfold treeStep plcStep
  generalize hu : (x % (ns.length : Int)).toNat = u
  have hul : u < ns.length := by omega
  have hnu : ns[u]? = some ns[u] := by simp [hul]
  generalize hnn : ns[u] = n at hnu
  obtain ⟨e, he, e1, e2, e3, e4, e5, e6, e7, e8⟩ := R.here u n hnu
  rw [hnu, he]
  dsimp only
  have hm0 : 0 ≤ x / 64 % 65536 := Int.emod_nonneg _ (by decide)
  have hm1 : x / 64 % 65536 < 65536 := Int.emod_lt_of_pos _ (by decide)
  generalize x / 64 % 65536 = m at hm0 hm1
  generalize hnew : (⟨u, n.depth + 1, nameAt (ns.length - 1), m, (if u = 0 then ("" : Str) else n.way) ++ "/" ++ nameAt (ns.length - 1), Builtin.bitAnd n.rights (m % 4096)⟩ : Node) = new
  have hmo : ∀ i, i < ns.length → modeAt (ns ++ [new]) i = modeAt ns i := fun i hi => by
    unfold modeAt outAt
    rw [List.getElem?_append_left hi]
  refine ⟨⟨by simp [R.len], by rw [List.map_append, R.ups, ← hnew]; rfl, by simp, by simp; omega, fun k q hq => ?_⟩, by simp⟩
  rcases Nat.lt_or_ge k ns.length with hk | hk
  · rw [List.getElem?_append_left hk] at hq
    obtain ⟨f, f0, f1, f2, f3, f4, f5, f6, f7, f8⟩ := R.here k q hq
    refine ⟨f, by rw [List.getElem?_append_left (by rw [← R.len]; exact hk)]; exact f0, f1, f2, f3, f4, f5, f6, f7, ?_⟩
    rw [f8]
    congr 1
    refine List.map_congr_left fun i hi => (hmo i ?_).symm
    have := f7 i hi
    omega
  · have hke : k = ns.length := by
      have := (List.getElem?_eq_some_iff.mp hq).1
      simp at this
      omega
    subst hke
    have hqn : q = new := by simpa using hq.symm
    subst hqn
    refine ⟨⟨e.depth + 1, nameAt (ps.length - 1), (if u = 0 then ("" : Str) else e.way) ++ "/" ++ nameAt (ps.length - 1), e.chain ++ [ps.length]⟩, by rw [R.len]; simp, ?_⟩
    have hmlast : modeAt (ns ++ [q]) ps.length = m % 4096 := by
      unfold modeAt outAt
      rw [← R.len, List.getElem?_append_right (Nat.le_refl _), Nat.sub_self]
      show Builtin.bitAnd q.mode 4095 = _
      rw [← hnew]
      exact and_4095 hm0
    rw [← hnew]
    refine ⟨by rw [e1], by rw [R.len], by rw [e3, R.len], ⟨hm0, hm1⟩, and_bound e5.1 e5.2 (Int.emod_nonneg _ (by decide)), nameAt_in _ (by omega), fun i hi => ?_, ?_⟩
    · rcases List.mem_append.mp hi with hi | hi
      · have := e7 i hi; omega
      · rw [List.mem_singleton] at hi; rw [hi, R.len]; exact Nat.le_refl _
    · rw [hnew]
      dsimp only
      rw [List.map_append, List.foldl_append, List.map_singleton, hmlast]
      have : e.chain.map (modeAt (ns ++ [q])) = e.chain.map (modeAt ns) := List.map_congr_left fun i hi => hmo i (by have := e7 i hi; omega)
      rw [this, ← e8]
      show q.rights = Builtin.bitAnd n.rights (m % 4096)
      rw [← hnew]

noncomputable def usOf : Nat → List Int → List Nat
  | _, [] => []
  | L, x :: xs => (x % (L : Int)).toNat :: usOf (L + 1) xs
theorem Rel.steps : ∀ (xs : List Int) (ns : List Node) (ps : List Plc) (us : List Nat), Rel ns ps us → ns.length + xs.length ≤ 6 → Rel (xs.foldl treeStep ns) ((usOf ns.length xs).foldl plcStep ps) (us ++ usOf ns.length xs)
  | [], ns, ps, us, R, _ => by rw [usOf, List.append_nil]; exact R
  | x :: xs, ns, ps, us, R, h => by
    rw [List.length_cons] at h
    obtain ⟨R', hl⟩ := R.step (by omega) x
    have := Rel.steps xs _ _ _ R' (by omega)
    rw [hl, List.append_assoc] at this
    exact this
theorem Rel.of {nums : List Int} (h : nums.length ≤ 5) : Rel (nums.foldl treeStep [root]) (plcs (usOf 1 nums)) (0 :: usOf 1 nums) :=
  Rel.steps nums [root] [plc0] [0] Rel.start (by rw [List.length_singleton]; omega)
end

section
theorem Rel.way {ns : List Node} {ps : List Plc} {us : List Nat} (R : Rel ns ps us) (k : Nat) : wayAt ns k = wayP ps k := by
  unfold wayAt wayP
  cases h : ns[k]? with
  | none =>
    have : ps[k]? = none := by rw [List.getElem?_eq_none_iff] at h ⊢; rw [← R.len]; exact h
    rw [this]
  | some n =>
    obtain ⟨e, he, _, _, e3, _⟩ := R.here k n h
    rw [he]; exact e3
theorem Rel.dn {ns : List Node} {ps : List Plc} {us : List Nat} (R : Rel ns ps us) (k : Nat) : ((outAt ns k).1, (outAt ns k).2.1) = dnP ps k := by
  unfold outAt dnP
  cases h : ns[k]? with
  | none =>
    have : ps[k]? = none := by rw [List.getElem?_eq_none_iff] at h ⊢; rw [← R.len]; exact h
    rw [this]
  | some n =>
    obtain ⟨e, he, e1, e2, _⟩ := R.here k n h
    rw [he]
    show (n.depth, n.name) = (e.depth, e.name)
    rw [e1, e2]
theorem Rel.ways {ns : List Node} {ps : List Plc} {us : List Nat} (R : Rel ns ps us) (ks : List Nat) : (ks.map (outAt ns)).map (fun e => (e.1, e.2.1)) = ks.map (dnP ps) := by
  rw [List.map_map]
  exact List.map_congr_left fun k _ => R.dn k

theorem law_of {ns : List Node} {us : List Nat} (R : Rel ns (plcs us) (0 :: us)) (hB : shapeB us = true) : ∃ ah be ws os lt ov, LawOk ns ah be ws os lt ov := by
  unfold shapeB at hB
  dsimp only at hB
  simp only [Bool.and_eq_true, decide_eq_true_eq] at hB
  obtain ⟨b1, b2, b3, b4, b5, b6, b7, b8, b9, b10⟩ := hB
  generalize hab : ordersF 6 (0 :: us) 0 = ab at *
  obtain ⟨ah, be⟩ := ab
  dsimp only at b1 b2 b3 b4 b5 b6 b7 b8 b10
  generalize hps : plcs us = ps at *
  have hways : ∀ ks : List Nat, ks.map (wayAt ns) = ks.map (wayP ps) := fun ks => List.map_congr_left fun k _ => R.way k
  have hlen := R.len
  generalize hws : ah.map (wayP ps) = ws at *
  generalize hos : be.map (wayP ps) = os at *
  generalize hlt : ws.map (fun w => os.idxOf w) = lt at *
  have nodes : ∀ n ∈ ns, ∃ (k : Nat) (e : Plc), ns[k]? = some n ∧ ps[k]? = some e ∧ n.depth = e.depth ∧ (0 ≤ n.mode ∧ n.mode < 65536) ∧ (0 ≤ n.rights ∧ n.rights < 4096) ∧ n.name ∈ nameList ∧ n.depth ≤ 10 := fun n hn => by
    obtain ⟨k, hk⟩ := List.mem_iff_getElem?.mp hn
    obtain ⟨e, he, e1, _, _, e4, e5, e6, _⟩ := R.here k n hk
    refine ⟨k, e, hk, he, e1, e4, e5, e6, ?_⟩
    rw [e1]
    exact of_decide_eq_true (List.all_eq_true.mp b9 e (List.mem_of_getElem? he))
  have hal : ah.length ≤ 6 := b1
  have hwl : ws.length = ah.length := by rw [← hws, List.length_map]
  have wsGet : ∀ j w, ws[j]? = some w → ws.getD j "" = w := fun j w h => by rw [List.getD_eq_getElem?_getD, h]; rfl
  have paths : ∀ w ∈ ws, w.length ≤ 100 ∧ pathB w = true ∧ pathB ("/./" ++ w) = true := fun w hw => by
    have := List.all_eq_true.mp b8 w hw
    simp only [Bool.and_eq_true, decide_eq_true_eq] at this
    exact this
  have steps : ∀ j < ws.length, climbB 10 (ws.getD j "") ((overP lt j).reverse.map fun i => ws.getD i "") = true ∧ ((overP lt j).map fun i => ah.getD i 0) = chP ps (ah.getD j 0) ∧ ∀ i < j, comB ws lt i j = true := fun j hj => by
    have := List.all_eq_true.mp b10 j (List.mem_range.mpr hj)
    simp only [Bool.and_eq_true, beq_iff_eq] at this
    exact ⟨this.1, this.2.1, fun i hi => List.all_eq_true.mp this.2.2 i (List.mem_range.mpr hi)⟩
  have overLen : ∀ j, (overP lt j).length ≤ j + 1 := fun j => by
    unfold overP
    have := List.length_filter_le (fun i => decide (lt.getD j 0 ≤ lt.getD i 0)) (List.range (j + 1))
    rw [List.length_range] at this
    exact this
  refine ⟨ah, be, ws, os, lt, overP lt, R.small, R.pos, b1, b2, fun k hk => ?_, fun k hk => ?_, ?_, fun n hn => ?_, fun n hn => ?_, fun n hn => ?_, ?_, ?_, ?_, ?_, fun w hw => ?_, hlt.symm, fun j _ => rfl, fun j w hj => ?_, fun j k n hj hk => ?_, fun n hn => ?_, fun i j hij hj => ?_, fun w hw => (paths w hw).1⟩
  · rw [hlen]; exact of_decide_eq_true (List.all_eq_true.mp b3 k hk)
  · rw [hlen]; exact of_decide_eq_true (List.all_eq_true.mp b4 k hk)
  · rw [R.ups]; exact hab
  · obtain ⟨k, e, _, _, _, e4, _, e6, e7⟩ := nodes n hn
    obtain ⟨n1, n2⟩ := names_small _ e6
    exact ⟨by omega, n1, n2, e4.1, e4.2⟩
  · obtain ⟨k, e, _, _, _, _, _, _, e7⟩ := nodes n hn
    exact e7
  · obtain ⟨k, e, _, _, _, _, _, e6, _⟩ := nodes n hn
    exact e6
  · rw [hways, hws]
  · rw [hways, hos]
  · rw [waysF_eq, R.ways]; exact eq_of_beq b5
  · rw [waysF_eq, List.map_reverse, R.ways]; exact eq_of_beq b6
  · have := List.all_eq_true.mp b7 w hw
    exact List.contains_iff_mem.mp this
  · have hjl : j < ws.length := (List.getElem?_eq_some_iff.mp hj).1
    obtain ⟨s1, _, _⟩ := steps j hjl
    obtain ⟨r, hr, he⟩ := climb_of _ _ _ s1
    rw [wsGet j w hj] at hr he
    refine ⟨r, hr, ?_, he.symm⟩
    have h1 := overLen j
    have h2 := congrArg List.length he
    rw [List.length_map, List.length_reverse, List.length_cons] at h2
    omega
  · have hjl : j < ws.length := by rw [hwl]; exact (List.getElem?_eq_some_iff.mp hj).1
    obtain ⟨_, s2, _⟩ := steps j hjl
    have hkj : ah.getD j 0 = k := by rw [List.getD_eq_getElem?_getD, hj]; rfl
    obtain ⟨e, he, _, _, _, _, _, _, _, e8⟩ := R.here k n hk
    have hch : chP ps k = e.chain := by unfold chP; rw [he]
    rw [hkj, hch] at s2
    rw [e8, ← s2, List.map_map]
    rfl
  · obtain ⟨k, e, _, _, _, _, e5, _, _⟩ := nodes n hn
    obtain ⟨r, hr⟩ := Int.eq_ofNat_of_zero_le e5.1
    rw [hr]
    exact signs_ok (by omega)
  · obtain ⟨_, _, s3⟩ := steps j hj
    have hc := s3 i hij
    unfold comB at hc
    cases hb : ((overP lt i).filter (memB (overP lt j))).getLast? with
    | none => rw [hb] at hc; cases hc
    | some b =>
      rw [hb] at hc
      simp only [Bool.and_eq_true, decide_eq_true_eq] at hc
      obtain ⟨c1, c2⟩ := hc
      have hwi : ws[i]? = some (ws.getD i "") := by
        rw [List.getD_eq_getElem?_getD, List.getElem?_eq_getElem (by omega)]; rfl
      obtain ⟨s1, s2, h1, h2⟩ := cp_of (by simp) (by simp; omega) (fun x hx => by
        rcases List.mem_append.mp hx with hx | hx
        · exact (paths x (List.mem_of_mem_take (List.mem_of_mem_drop hx))).2.1
        · rw [List.mem_singleton] at hx
          rw [hx]
          exact (paths _ (List.mem_of_getElem? hwi)).2.2) c2
      exact ⟨b, s1, s2, rfl, c1, h1, h2⟩
end

section
theorem up_lt (x : Int) (L : Nat) (h : 0 < L) : (x % (L : Int)).toNat < L := by
  have h0 : 0 ≤ x % (L : Int) := Int.emod_nonneg _ (by omega)
  have h1 : x % (L : Int) < L := Int.emod_lt_of_pos _ (by omega)
  omega
theorem up_one (x : Int) : (x % ((1 : Nat) : Int)).toNat = 0 := by
  have := up_lt x 1 (by decide)
  omega
theorem shape_ok {nums : List Int} (h : nums.length = 4 ∨ nums.length = 5) : shapeB (usOf 1 nums) = true := by
  match nums, h with
  | [x1, x2, x3, x4], _ =>
    simp only [usOf, up_one]
    exact shape4 (up_lt x2 2 (by decide)) (up_lt x3 3 (by decide)) (up_lt x4 4 (by decide))
  | [x1, x2, x3, x4, x5], _ =>
    simp only [usOf, up_one]
    exact shape5 (up_lt x2 2 (by decide)) (up_lt x3 3 (by decide)) (up_lt x4 4 (by decide)) (up_lt x5 5 (by decide))
  | [], h => simp at h
  | [_], h => simp at h
  | [_, _], h => simp at h
  | [_, _, _], h => simp at h
  | _ :: _ :: _ :: _ :: _ :: _ :: _, h => simp at h
theorem law_ok (script : List Int) : ∃ ns ah be ws os lt ov, (script.take 5 ++ ownNums.drop (script.take 5).length).foldl treeStep [root] = ns ∧ LawOk ns ah be ws os lt ov := by
  have ho : ownNums.length = 4 := rfl
  have hl : (script.take 5 ++ ownNums.drop (script.take 5).length).length = 4 ∨ (script.take 5 ++ ownNums.drop (script.take 5).length).length = 5 := by
    rw [List.length_append, List.length_drop, ho]
    have : (script.take 5).length ≤ 5 := by rw [List.length_take]; omega
    omega
  obtain ⟨ah, be, ws, os, lt, ov, ok⟩ := law_of (Rel.of (by omega)) (shape_ok hl)
  exact ⟨_, ah, be, ws, os, lt, ov, rfl, ok⟩
end

section
noncomputable abbrev saidP : Program := PySem.Challenge.rw_rt0066_01.row.prog
theorem out_vars : readsOut saidP saidP.main.body "vars" = false := by decide +kernel
theorem out_dir : readsOut saidP saidP.main.body "dir" = false := by decide +kernel
theorem out_locals : readsOut saidP saidP.main.body "locals" = false := by decide +kernel
theorem bare0 : (["vars", "dir", "locals"] : List Str).filter (readsOut saidP saidP.main.body) = [] := by
  rw [List.filter_cons_of_neg (by rw [out_vars]; exact Bool.false_ne_true), List.filter_cons_of_neg (by rw [out_dir]; exact Bool.false_ne_true), List.filter_cons_of_neg (by rw [out_locals]; exact Bool.false_ne_true), List.filter_nil]
theorem said0 : PySem.Challenge.rw_rt0066_01.wellSaid = true := by
  unfold OpenLaw.wellSaid OpenRow.wellSaid OpenRow.partSaid looksOpen
  rw [bare0]
  repeat' (with_reducible refine look_both ?_ ?_)
  all_goals decide +kernel
end

end Mine
set_option maxHeartbeats 8000000 in
theorem PySem.Challenge.cw_rt0066_01_holds : PySem.Challenge.rw_rt0066_01.Holds := by
  w_on
  refine holds_law Mine.said0 fun said => ?_
  refine holds_open (q := Mine.lawQ) (loose := Mine.lawLoose) (Xt := fun s => recOk (RowW.records PySem.Challenge.rw_rt0066_01.row.toRowW) s) (XP := fun _ _ => True) (Yf := Hook.obs Mine.lawHook) (Ya := Hook.val Mine.lawHook) (YP := Hook.says Mine.lawHook) (N := 3400) Mine.left1 (Hook.of _) (Hook.keeps _) (fun _ _ => trivial) (fun _ _ _ _ _ => trivial) (by rfl) (by rfl) (by rfl) (fun s e => recFacts_of e) (by first | rfl | decide +kernel) said (by decide +kernel) ⟨rfl, rfl, rfl, rfl, rfl, by decide +kernel⟩ ?hw ?hc
  case hw => w_witness2
  intro w s₀ s₁ mg mb G Y fa o pm cd doc dV kV ho hd hcd hD hmg hg args vals as hpre hlay hrd hwl hlo
  have KX : (Mine.KF w.params).In s₁.heap := Y.1
  have hT8 : s₁.heap.get? 197 = some (tabObj #[]) := Y.2 197 (by simp)
  have hT9 : TabsAt [(201, 197)] s₁.heap := fun q hq => by
    rw [List.mem_singleton] at hq
    subst hq
    exact ⟨codeHd_of_K (c := 201) (P := 197) KX (by kernel_rfl), hT8⟩
  refine Ground.open G ?_
  intro T B D TE TW
  clear D B TE TW G Y ho hd hcd hD
  wrow_args hpre hlay hrd hwl hlo
  rename List Int => script
  rename Well _ _ _ _ => wl
  rename ¬ _ => hlen
  have CX := Mine.law_prog (P := PySem.Challenge.rw_rt0066_01.row.prog) hT9 T KX
  have hfa : fa = 252 := by
    have h1 := mg_of CX.X (Mine.lawCtx _ w hT9 T).g (Mine.g_law _)
    have h2 : mg (PySem.Str.ofString "law") = some (.ref fa) := hmg
    have h3 := h2.symm.trans (show mg (PySem.Str.ofString "law") = _ from h1)
    cases h3; rfl
  clear hmg
  subst hfa
  obtain ⟨ns, ah, be, ws, os, lt, ov, hns, ok⟩ := Mine.law_ok script
  refine enter_call (kn_post hT9 (fun _ _ => rfl) ?_)
  refine Mine.c_law CX rfl hns ok ?_ ⟨rfl, by decide +kernel, by decide +kernel⟩ rfl (Mine.law_base hT9 T) (Mine.well_list wl) fun s' B' same => ?_
  · rw [sizeLine_eq]; omega
  refine ⟨⟨.inl ⟨_, _, _, rfl, fun _ => rfl, .bool true, ?_, fun _ => ⟨List.nodup_nil, fun _ h => nomatch h⟩⟩, fun b o e => B'.keep b o e, ?_, ?_⟩, (B'.grown 197 (by simp [Mine.lawCtx])).get, trivial⟩
  · first | rfl | decide +kernel | kernel_rfl
  · obtain ⟨h, tk, rfl⟩ := same; rfl
  · obtain ⟨h, tk, rfl⟩ := same; exact hg


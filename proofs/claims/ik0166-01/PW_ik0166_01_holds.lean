import PyProof.Rows.All
import Wide.All
import OpenK.AllK
import Wide.FinOn
import Lean
import PySem.Challenge.RW_ik0166_01
open PySem PySem.W PySem.Calls PyProof.Rows
set_option Elab.async false
set_option compiler.extract_closed false
set_option maxRecDepth 100000
set_option maxHeartbeats 8000000
namespace Mine
noncomputable def drops : List Nat := [2, 4, 6, 9, 11, 14, 20, 24, 29, 55]
noncomputable def view : Program := { PySem.Challenge.pw_ik0166_01 with main := { PySem.Challenge.pw_ik0166_01.main with body := (PySem.Challenge.pw_ik0166_01.main.body.zipIdx.filter fun x => !drops.contains x.2).map (·.1) } }
noncomputable def fnAt (i : Nat) : Option (Arguments × List Stmt × Scope) := match PySem.Challenge.pw_ik0166_01.main.body[i]? with
  | some (.FunctionDef _ ps body _ _ _ scope _ _ _) => some (ps, body, scope)
  | _ => none
noncomputable def docAt (i : Nat) (t : Tok) : Value := match fnAt i with
  | some (_, .Expr (.Constant (.str s) _ _) _ :: _, _) => .str s t
  | _ => .none
noncomputable abbrev fO (name : Str) (x : Arguments × List Stmt × Scope) (doc pm cd : Value) : Obj := { cls := .type "function", data := .func (fnOf name name x.1 x.2.1 x.2.2 .none .none doc pm none cd .none) }
noncomputable def fn10 : {x // fnAt 10 = some x} := ⟨_, rfl⟩
noncomputable def fn12 : {x // fnAt 12 = some x} := ⟨_, rfl⟩
noncomputable def fn15 : {x // fnAt 15 = some x} := ⟨_, rfl⟩
noncomputable def fn16 : {x // fnAt 16 = some x} := ⟨_, rfl⟩
noncomputable def fn17 : {x // fnAt 17 = some x} := ⟨_, rfl⟩
noncomputable def fn18 : {x // fnAt 18 = some x} := ⟨_, rfl⟩
noncomputable def fn19 : {x // fnAt 19 = some x} := ⟨_, rfl⟩
noncomputable def fn21 : {x // fnAt 21 = some x} := ⟨_, rfl⟩
noncomputable def fn22 : {x // fnAt 22 = some x} := ⟨_, rfl⟩
noncomputable def fn23 : {x // fnAt 23 = some x} := ⟨_, rfl⟩
noncomputable def fn25 : {x // fnAt 25 = some x} := ⟨_, rfl⟩
noncomputable def fn26 : {x // fnAt 26 = some x} := ⟨_, rfl⟩
noncomputable def fn27 : {x // fnAt 27 = some x} := ⟨_, rfl⟩
noncomputable def fn28 : {x // fnAt 28 = some x} := ⟨_, rfl⟩
noncomputable def fn30 : {x // fnAt 30 = some x} := ⟨_, rfl⟩
noncomputable def fn31 : {x // fnAt 31 = some x} := ⟨_, rfl⟩
noncomputable def fn39 : {x // fnAt 39 = some x} := ⟨_, rfl⟩
noncomputable def fn40 : {x // fnAt 40 = some x} := ⟨_, rfl⟩
noncomputable def fn54 : {x // fnAt 54 = some x} := ⟨_, rfl⟩
noncomputable def fn56 : {x // fnAt 56 = some x} := ⟨_, rfl⟩
noncomputable def fn57 : {x // fnAt 57 = some x} := ⟨_, rfl⟩
noncomputable def fn58 : {x // fnAt 58 = some x} := ⟨_, rfl⟩
noncomputable def fn59 : {x // fnAt 59 = some x} := ⟨_, rfl⟩
noncomputable def fn60 : {x // fnAt 60 = some x} := ⟨_, rfl⟩
noncomputable def fn61 : {x // fnAt 61 = some x} := ⟨_, rfl⟩
noncomputable def fn62 : {x // fnAt 62 = some x} := ⟨_, rfl⟩
noncomputable def fn63 : {x // fnAt 63 = some x} := ⟨_, rfl⟩
noncomputable def fn64 : {x // fnAt 64 = some x} := ⟨_, rfl⟩
noncomputable def K : Params → Frag := fun P =>
  (nat_lit 3, { cls := Value.type "dict", data := Data.dict #[{ hash := PyData.keyHash P (Str.ofString "__name__"), key := Value.str (Str.ofString "__name__") 165, val := Value.str (Str.ofString "law_ik0166_01") 596 }, { hash := PyData.keyHash P (Str.ofString "__doc__"), key := Value.str (Str.ofString "__doc__") 166, val := Value.none }, { hash := PyData.keyHash P (Str.ofString "__package__"), key := Value.str (Str.ofString "__package__") 167, val := Value.none }, { hash := PyData.keyHash P (Str.ofString "__loader__"), key := Value.str (Str.ofString "__loader__") 168, val := Value.builtin "__main__.__loader__#opaque" }, { hash := PyData.keyHash P (Str.ofString "__spec__"), key := Value.str (Str.ofString "__spec__") 169, val := Value.none }, { hash := PyData.keyHash P (Str.ofString "__annotations__"), key := Value.str (Str.ofString "__annotations__") 170, val := Value.ref 6 }, { hash := PyData.keyHash P (Str.ofString "__builtins__"), key := Value.str (Str.ofString "__builtins__") 171, val := Value.ref 4 }, { hash := PyData.keyHash P (Str.ofString "__file__"), key := Value.str (Str.ofString "__file__") 173, val := Value.str (Str.ofString "/claim/cut.py") 172 }, { hash := PyData.keyHash P (Str.ofString "__cached__"), key := Value.str (Str.ofString "__cached__") 174, val := Value.none }, { hash := PyData.keyHash P (Str.ofString "_wall"), key := Value.str (Str.ofString "_wall") 193, val := Value.ref 21 }, { hash := PyData.keyHash P (Str.ofString "_pe_doc"), key := Value.str (Str.ofString "_pe_doc") 202, val := Value.ref 28 }, { hash := PyData.keyHash P (Str.ofString "_plain_name"), key := Value.str (Str.ofString "_plain_name") 213, val := Value.ref 35 }, { hash := PyData.keyHash P (Str.ofString "ABCMeta"), key := Value.str (Str.ofString "ABCMeta") 239, val := Value.ref 52 }, { hash := PyData.keyHash P (Str.ofString "_ABCLike"), key := Value.str (Str.ofString "_ABCLike") 282, val := Value.ref 85 }, { hash := PyData.keyHash P (Str.ofString "_abc_plain_meta"), key := Value.str (Str.ofString "_abc_plain_meta") 289, val := Value.ref 94 }, { hash := PyData.keyHash P (Str.ofString "fspath"), key := Value.str (Str.ofString "fspath") 301, val := Value.ref 101 }, { hash := PyData.keyHash P (Str.ofString "_splitext"), key := Value.str (Str.ofString "_splitext") 318, val := Value.ref 108 }, { hash := PyData.keyHash P (Str.ofString "_check_arg_types"), key := Value.str (Str.ofString "_check_arg_types") 329, val := Value.ref 115 }, { hash := PyData.keyHash P (Str.ofString "_get_sep"), key := Value.str (Str.ofString "_get_sep") 338, val := Value.ref 122 }, { hash := PyData.keyHash P (Str.ofString "isabs"), key := Value.str (Str.ofString "isabs") 347, val := Value.ref 129 }, { hash := PyData.keyHash P (Str.ofString "join"), key := Value.str (Str.ofString "join") 359, val := Value.ref 136 }, { hash := PyData.keyHash P (Str.ofString "split"), key := Value.str (Str.ofString "split") 371, val := Value.ref 143 }, { hash := PyData.keyHash P (Str.ofString "splitext"), key := Value.str (Str.ofString "splitext") 380, val := Value.ref 150 }, { hash := PyData.keyHash P (Str.ofString "splitroot"), key := Value.str (Str.ofString "splitroot") 423, val := Value.ref 160 }, { hash := PyData.keyHash P (Str.ofString "normpath"), key := Value.str (Str.ofString "normpath") 439, val := Value.ref 167 }, { hash := PyData.keyHash P (Str.ofString "commonpath"), key := Value.str (Str.ofString "commonpath") 446, val := Value.ref 172 }, { hash := PyData.keyHash P (Str.ofString "and_"), key := Value.str (Str.ofString "and_") 457, val := Value.ref 179 }, { hash := PyData.keyHash P (Str.ofString "or_"), key := Value.str (Str.ofString "or_") 466, val := Value.ref 186 }, { hash := PyData.keyHash P (Str.ofString "xor"), key := Value.str (Str.ofString "xor") 475, val := Value.ref 193 }, { hash := PyData.keyHash P (Str.ofString "getitem"), key := Value.str (Str.ofString "getitem") 484, val := Value.ref 200 }, { hash := PyData.keyHash P (Str.ofString "S_IMODE"), key := Value.str (Str.ofString "S_IMODE") 494, val := Value.ref 207 }, { hash := PyData.keyHash P (Str.ofString "S_IFMT"), key := Value.str (Str.ofString "S_IFMT") 502, val := Value.ref 214 }, { hash := PyData.keyHash P (Str.ofString "S_IFDIR"), key := Value.str (Str.ofString "S_IFDIR") 504, val := Value.int 16384 503 }, { hash := PyData.keyHash P (Str.ofString "S_IFCHR"), key := Value.str (Str.ofString "S_IFCHR") 506, val := Value.int 8192 505 }, { hash := PyData.keyHash P (Str.ofString "S_IFBLK"), key := Value.str (Str.ofString "S_IFBLK") 508, val := Value.int 24576 507 }, { hash := PyData.keyHash P (Str.ofString "S_IFREG"), key := Value.str (Str.ofString "S_IFREG") 510, val := Value.int 32768 509 }, { hash := PyData.keyHash P (Str.ofString "S_IFIFO"), key := Value.str (Str.ofString "S_IFIFO") 512, val := Value.int 4096 511 }, { hash := PyData.keyHash P (Str.ofString "S_IFLNK"), key := Value.str (Str.ofString "S_IFLNK") 514, val := Value.int 40960 513 }, { hash := PyData.keyHash P (Str.ofString "S_IFSOCK"), key := Value.str (Str.ofString "S_IFSOCK") 516, val := Value.int 49152 515 }, { hash := PyData.keyHash P (Str.ofString "S_ISDIR"), key := Value.str (Str.ofString "S_ISDIR") 524, val := Value.ref 221 }, { hash := PyData.keyHash P (Str.ofString "S_ISREG"), key := Value.str (Str.ofString "S_ISREG") 532, val := Value.ref 228 }, { hash := PyData.keyHash P (Str.ofString "S_ISUID"), key := Value.str (Str.ofString "S_ISUID") 534, val := Value.int 2048 533 }, { hash := PyData.keyHash P (Str.ofString "S_ISGID"), key := Value.str (Str.ofString "S_ISGID") 536, val := Value.int 1024 535 }, { hash := PyData.keyHash P (Str.ofString "S_ISVTX"), key := Value.str (Str.ofString "S_ISVTX") 538, val := Value.int 512 537 }, { hash := PyData.keyHash P (Str.ofString "S_IRUSR"), key := Value.str (Str.ofString "S_IRUSR") 540, val := Value.int 256 539 }, { hash := PyData.keyHash P (Str.ofString "S_IWUSR"), key := Value.str (Str.ofString "S_IWUSR") 542, val := Value.int 128 541 }, { hash := PyData.keyHash P (Str.ofString "S_IXUSR"), key := Value.str (Str.ofString "S_IXUSR") 544, val := Value.int 64 543 }, { hash := PyData.keyHash P (Str.ofString "S_IRGRP"), key := Value.str (Str.ofString "S_IRGRP") 546, val := Value.int 32 545 }, { hash := PyData.keyHash P (Str.ofString "S_IWGRP"), key := Value.str (Str.ofString "S_IWGRP") 548, val := Value.int 16 547 }, { hash := PyData.keyHash P (Str.ofString "S_IXGRP"), key := Value.str (Str.ofString "S_IXGRP") 550, val := Value.int 8 549 }, { hash := PyData.keyHash P (Str.ofString "S_IROTH"), key := Value.str (Str.ofString "S_IROTH") 552, val := Value.int 4 551 }, { hash := PyData.keyHash P (Str.ofString "S_IWOTH"), key := Value.str (Str.ofString "S_IWOTH") 554, val := Value.int 2 553 }, { hash := PyData.keyHash P (Str.ofString "S_IXOTH"), key := Value.str (Str.ofString "S_IXOTH") 556, val := Value.int 1 555 }, { hash := PyData.keyHash P (Str.ofString "_filemode_table"), key := Value.str (Str.ofString "_filemode_table") 582, val := Value.ref 261 }, { hash := PyData.keyHash P (Str.ofString "filemode"), key := Value.str (Str.ofString "filemode") 595, val := Value.ref 268 }, { hash := PyData.keyHash P (Str.ofString "_law_name"), key := Value.str (Str.ofString "_law_name") 603, val := Value.ref 273 }, { hash := PyData.keyHash P (Str.ofString "_law_part"), key := Value.str (Str.ofString "_law_part") 611, val := Value.ref 280 }, { hash := PyData.keyHash P (Str.ofString "_law_joined"), key := Value.str (Str.ofString "_law_joined") 620, val := Value.ref 287 }, { hash := PyData.keyHash P (Str.ofString "_law_run"), key := Value.str (Str.ofString "_law_run") 635, val := Value.ref 294 }, { hash := PyData.keyHash P (Str.ofString "_law_mixed"), key := Value.str (Str.ofString "_law_mixed") 648, val := Value.ref 301 }, { hash := PyData.keyHash P (Str.ofString "_law_pile"), key := Value.str (Str.ofString "_law_pile") 662, val := Value.ref 308 }, { hash := PyData.keyHash P (Str.ofString "_law_signs"), key := Value.str (Str.ofString "_law_signs") 673, val := Value.ref 315 }, { hash := PyData.keyHash P (Str.ofString "_law_both"), key := Value.str (Str.ofString "_law_both") 682, val := Value.ref 322 }, { hash := PyData.keyHash P (Str.ofString "law"), key := Value.str (Str.ofString "law") 688, val := Value.ref 327 }] 64 }) ::
  (nat_lit 100, { cls := Value.type "code", data := Data.fields #[Value.str (Str.ofString "fspath") 292, Value.str (Str.ofString "fspath") 293, Value.str (Str.ofString "/claim/cut.py") 294, Value.int 43 0, Value.int 1 0, Value.int 0 0, Value.int 0 0, Value.int 3 0, Value.ref 95, Value.bool true, Value.int 181 0, Value.ref 96, Value.none, Value.ref 97, Value.ref 98, Value.ref 99, Value.int 299 0, Value.int 43 0, Value.str (Str.ofString "/claim/cut.py") 300] }) ::
  (nat_lit 101, fO (Str.ofString "fspath") fn10.1 .none (Value.str (Str.ofString "os") 290) (.ref 100)) ::
  (nat_lit 107, { cls := Value.type "code", data := Data.fields #[Value.str (Str.ofString "_splitext") 304, Value.str (Str.ofString "_splitext") 305, Value.str (Str.ofString "/claim/cut.py") 306, Value.int 60 0, Value.int 4 0, Value.int 0 0, Value.int 0 0, Value.int 3 0, Value.ref 102, Value.bool true, Value.int 181 0, Value.ref 103, Value.none, Value.ref 104, Value.ref 105, Value.ref 106, Value.int 315 0, Value.int 60 0, Value.str (Str.ofString "/claim/cut.py") 316] }) ::
  (nat_lit 108, fO (Str.ofString "_splitext") fn12.1 (docAt 12 317) (Value.str (Str.ofString "cpy313.genericpath") 302) (.ref 107)) ::
  (nat_lit 121, { cls := Value.type "code", data := Data.fields #[Value.str (Str.ofString "_get_sep") 332, Value.str (Str.ofString "_get_sep") 333, Value.str (Str.ofString "/claim/cut.py") 334, Value.int 89 0, Value.int 1 0, Value.int 0 0, Value.int 0 0, Value.int 3 0, Value.ref 116, Value.bool true, Value.int 181 0, Value.ref 117, Value.none, Value.ref 118, Value.ref 119, Value.ref 120, Value.int 336 0, Value.int 89 0, Value.str (Str.ofString "/claim/cut.py") 337] }) ::
  (nat_lit 122, fO (Str.ofString "_get_sep") fn15.1 .none (Value.str (Str.ofString "cpy313.posixpath") 330) (.ref 121)) ::
  (nat_lit 128, { cls := Value.type "code", data := Data.fields #[Value.str (Str.ofString "isabs") 339, Value.str (Str.ofString "isabs") 340, Value.str (Str.ofString "/claim/cut.py") 341, Value.int 94 0, Value.int 1 0, Value.int 0 0, Value.int 0 0, Value.int 3 0, Value.ref 123, Value.bool true, Value.int 181 0, Value.ref 124, Value.none, Value.ref 125, Value.ref 126, Value.ref 127, Value.int 344 0, Value.int 94 0, Value.str (Str.ofString "/claim/cut.py") 345] }) ::
  (nat_lit 129, fO (Str.ofString "isabs") fn16.1 (docAt 16 346) (Value.str (Str.ofString "cpy313.posixpath") 330) (.ref 128)) ::
  (nat_lit 135, { cls := Value.type "code", data := Data.fields #[Value.str (Str.ofString "join") 348, Value.str (Str.ofString "join") 349, Value.str (Str.ofString "/claim/cut.py") 350, Value.int 99 0, Value.int 1 0, Value.int 0 0, Value.int 0 0, Value.int 7 0, Value.ref 130, Value.bool true, Value.int 181 0, Value.ref 131, Value.none, Value.ref 132, Value.ref 133, Value.ref 134, Value.int 356 0, Value.int 99 0, Value.str (Str.ofString "/claim/cut.py") 357] }) ::
  (nat_lit 136, fO (Str.ofString "join") fn17.1 (docAt 17 358) (Value.str (Str.ofString "cpy313.posixpath") 330) (.ref 135)) ::
  (nat_lit 142, { cls := Value.type "code", data := Data.fields #[Value.str (Str.ofString "split") 360, Value.str (Str.ofString "split") 361, Value.str (Str.ofString "/claim/cut.py") 362, Value.int 120 0, Value.int 1 0, Value.int 0 0, Value.int 0 0, Value.int 3 0, Value.ref 137, Value.bool true, Value.int 181 0, Value.ref 138, Value.none, Value.ref 139, Value.ref 140, Value.ref 141, Value.int 368 0, Value.int 120 0, Value.str (Str.ofString "/claim/cut.py") 369] }) ::
  (nat_lit 143, fO (Str.ofString "split") fn18.1 (docAt 18 370) (Value.str (Str.ofString "cpy313.posixpath") 330) (.ref 142)) ::
  (nat_lit 149, { cls := Value.type "code", data := Data.fields #[Value.str (Str.ofString "splitext") 372, Value.str (Str.ofString "splitext") 373, Value.str (Str.ofString "/claim/cut.py") 374, Value.int 130 0, Value.int 1 0, Value.int 0 0, Value.int 0 0, Value.int 3 0, Value.ref 144, Value.bool true, Value.int 181 0, Value.ref 145, Value.none, Value.ref 146, Value.ref 147, Value.ref 148, Value.int 378 0, Value.int 130 0, Value.str (Str.ofString "/claim/cut.py") 379] }) ::
  (nat_lit 150, fO (Str.ofString "splitext") fn19.1 (docAt 12 317) (Value.str (Str.ofString "cpy313.posixpath") 330) (.ref 149)) ::
  (nat_lit 159, { cls := Value.type "code", data := Data.fields #[Value.str (Str.ofString "splitroot") 414, Value.str (Str.ofString "splitroot") 415, Value.str (Str.ofString "/claim/cut.py") 416, Value.int 140 0, Value.int 1 0, Value.int 0 0, Value.int 0 0, Value.int 3 0, Value.ref 154, Value.bool true, Value.int 181 0, Value.ref 155, Value.none, Value.ref 156, Value.ref 157, Value.ref 158, Value.int 420 0, Value.int 140 0, Value.str (Str.ofString "/claim/cut.py") 421] }) ::
  (nat_lit 160, fO (Str.ofString "splitroot") fn21.1 (docAt 21 422) (Value.str (Str.ofString "cpy313.posixpath") 330) (.ref 159)) ::
  (nat_lit 166, { cls := Value.type "code", data := Data.fields #[Value.str (Str.ofString "normpath") 424, Value.str (Str.ofString "normpath") 425, Value.str (Str.ofString "/claim/cut.py") 426, Value.int 157 0, Value.int 1 0, Value.int 0 0, Value.int 0 0, Value.int 3 0, Value.ref 161, Value.bool true, Value.int 181 0, Value.ref 162, Value.none, Value.ref 163, Value.ref 164, Value.ref 165, Value.int 436 0, Value.int 157 0, Value.str (Str.ofString "/claim/cut.py") 437] }) ::
  (nat_lit 167, fO (Str.ofString "normpath") fn22.1 (docAt 22 438) (Value.str (Str.ofString "cpy313.posixpath") 330) (.ref 166)) ::
  (nat_lit 171, { cls := Value.type "code", data := Data.fields #[Value.str (Str.ofString "commonpath") 440, Value.str (Str.ofString "commonpath") 441, Value.str (Str.ofString "/claim/cut.py") 442, Value.int 183 0, Value.int 1 0, Value.int 0 0, Value.int 0 0, Value.int 3 0, Value.ref 168, Value.bool true, Value.int 181 0, Value.ref 169, Value.none, Value.none, Value.none, Value.ref 170, Value.int 443 0, Value.int 183 0, Value.str (Str.ofString "/claim/cut.py") 444] }) ::
  (nat_lit 172, fO (Str.ofString "commonpath") fn23.1 (docAt 23 445) (Value.str (Str.ofString "cpy313.posixpath") 330) (.ref 171)) ::
  (nat_lit 178, { cls := Value.type "code", data := Data.fields #[Value.str (Str.ofString "and_") 449, Value.str (Str.ofString "and_") 450, Value.str (Str.ofString "/claim/cut.py") 451, Value.int 214 0, Value.int 2 0, Value.int 0 0, Value.int 0 0, Value.int 3 0, Value.ref 173, Value.bool true, Value.int 181 0, Value.ref 174, Value.none, Value.ref 175, Value.ref 176, Value.ref 177, Value.int 454 0, Value.int 214 0, Value.str (Str.ofString "/claim/cut.py") 455] }) ::
  (nat_lit 179, fO (Str.ofString "and_") fn25.1 (docAt 25 456) (Value.str (Str.ofString "cpy313.operator") 447) (.ref 178)) ::
  (nat_lit 185, { cls := Value.type "code", data := Data.fields #[Value.str (Str.ofString "or_") 458, Value.str (Str.ofString "or_") 459, Value.str (Str.ofString "/claim/cut.py") 460, Value.int 217 0, Value.int 2 0, Value.int 0 0, Value.int 0 0, Value.int 3 0, Value.ref 180, Value.bool true, Value.int 181 0, Value.ref 181, Value.none, Value.ref 182, Value.ref 183, Value.ref 184, Value.int 463 0, Value.int 217 0, Value.str (Str.ofString "/claim/cut.py") 464] }) ::
  (nat_lit 186, fO (Str.ofString "or_") fn26.1 (docAt 26 465) (Value.str (Str.ofString "cpy313.operator") 447) (.ref 185)) ::
  (nat_lit 192, { cls := Value.type "code", data := Data.fields #[Value.str (Str.ofString "xor") 467, Value.str (Str.ofString "xor") 468, Value.str (Str.ofString "/claim/cut.py") 469, Value.int 220 0, Value.int 2 0, Value.int 0 0, Value.int 0 0, Value.int 3 0, Value.ref 187, Value.bool true, Value.int 181 0, Value.ref 188, Value.none, Value.ref 189, Value.ref 190, Value.ref 191, Value.int 472 0, Value.int 220 0, Value.str (Str.ofString "/claim/cut.py") 473] }) ::
  (nat_lit 193, fO (Str.ofString "xor") fn27.1 (docAt 27 474) (Value.str (Str.ofString "cpy313.operator") 447) (.ref 192)) ::
  (nat_lit 199, { cls := Value.type "code", data := Data.fields #[Value.str (Str.ofString "getitem") 476, Value.str (Str.ofString "getitem") 477, Value.str (Str.ofString "/claim/cut.py") 478, Value.int 223 0, Value.int 2 0, Value.int 0 0, Value.int 0 0, Value.int 3 0, Value.ref 194, Value.bool true, Value.int 181 0, Value.ref 195, Value.none, Value.ref 196, Value.ref 197, Value.ref 198, Value.int 481 0, Value.int 223 0, Value.str (Str.ofString "/claim/cut.py") 482] }) ::
  (nat_lit 200, fO (Str.ofString "getitem") fn28.1 (docAt 28 483) (Value.str (Str.ofString "cpy313.operator") 447) (.ref 199)) ::
  (nat_lit 206, { cls := Value.type "code", data := Data.fields #[Value.str (Str.ofString "S_IMODE") 487, Value.str (Str.ofString "S_IMODE") 488, Value.str (Str.ofString "/claim/cut.py") 489, Value.int 227 0, Value.int 1 0, Value.int 0 0, Value.int 0 0, Value.int 3 0, Value.ref 201, Value.bool true, Value.int 181 0, Value.ref 202, Value.none, Value.ref 203, Value.ref 204, Value.ref 205, Value.int 491 0, Value.int 227 0, Value.str (Str.ofString "/claim/cut.py") 492] }) ::
  (nat_lit 207, fO (Str.ofString "S_IMODE") fn30.1 (docAt 30 493) (Value.str (Str.ofString "cpy313.stat") 485) (.ref 206)) ::
  (nat_lit 213, { cls := Value.type "code", data := Data.fields #[Value.str (Str.ofString "S_IFMT") 495, Value.str (Str.ofString "S_IFMT") 496, Value.str (Str.ofString "/claim/cut.py") 497, Value.int 232 0, Value.int 1 0, Value.int 0 0, Value.int 0 0, Value.int 3 0, Value.ref 208, Value.bool true, Value.int 181 0, Value.ref 209, Value.none, Value.ref 210, Value.ref 211, Value.ref 212, Value.int 499 0, Value.int 232 0, Value.str (Str.ofString "/claim/cut.py") 500] }) ::
  (nat_lit 214, fO (Str.ofString "S_IFMT") fn31.1 (docAt 31 501) (Value.str (Str.ofString "cpy313.stat") 485) (.ref 213)) ::
  (nat_lit 220, { cls := Value.type "code", data := Data.fields #[Value.str (Str.ofString "S_ISDIR") 517, Value.str (Str.ofString "S_ISDIR") 518, Value.str (Str.ofString "/claim/cut.py") 519, Value.int 244 0, Value.int 1 0, Value.int 0 0, Value.int 0 0, Value.int 3 0, Value.ref 215, Value.bool true, Value.int 181 0, Value.ref 216, Value.none, Value.ref 217, Value.ref 218, Value.ref 219, Value.int 521 0, Value.int 244 0, Value.str (Str.ofString "/claim/cut.py") 522] }) ::
  (nat_lit 221, fO (Str.ofString "S_ISDIR") fn39.1 (docAt 39 523) (Value.str (Str.ofString "cpy313.stat") 485) (.ref 220)) ::
  (nat_lit 227, { cls := Value.type "code", data := Data.fields #[Value.str (Str.ofString "S_ISREG") 525, Value.str (Str.ofString "S_ISREG") 526, Value.str (Str.ofString "/claim/cut.py") 527, Value.int 247 0, Value.int 1 0, Value.int 0 0, Value.int 0 0, Value.int 3 0, Value.ref 222, Value.bool true, Value.int 181 0, Value.ref 223, Value.none, Value.ref 224, Value.ref 225, Value.ref 226, Value.int 529 0, Value.int 247 0, Value.str (Str.ofString "/claim/cut.py") 530] }) ::
  (nat_lit 228, fO (Str.ofString "S_ISREG") fn40.1 (docAt 40 531) (Value.str (Str.ofString "cpy313.stat") 485) (.ref 227)) ::
  (nat_lit 229, { cls := Value.type "tuple", data := Data.seq #[Value.int 40960 513, Value.str (Str.ofString "l") 557] }) ::
  (nat_lit 230, { cls := Value.type "tuple", data := Data.seq #[Value.int 49152 515, Value.str (Str.ofString "s") 558] }) ::
  (nat_lit 231, { cls := Value.type "tuple", data := Data.seq #[Value.int 32768 509, Value.str (Str.ofString "-") 559] }) ::
  (nat_lit 232, { cls := Value.type "tuple", data := Data.seq #[Value.int 24576 507, Value.str (Str.ofString "b") 560] }) ::
  (nat_lit 233, { cls := Value.type "tuple", data := Data.seq #[Value.int 16384 503, Value.str (Str.ofString "d") 561] }) ::
  (nat_lit 234, { cls := Value.type "tuple", data := Data.seq #[Value.int 8192 505, Value.str (Str.ofString "c") 562] }) ::
  (nat_lit 235, { cls := Value.type "tuple", data := Data.seq #[Value.int 4096 511, Value.str (Str.ofString "p") 563] }) ::
  (nat_lit 236, { cls := Value.type "tuple", data := Data.seq #[Value.ref 229, Value.ref 230, Value.ref 231, Value.ref 232, Value.ref 233, Value.ref 234, Value.ref 235] }) ::
  (nat_lit 237, { cls := Value.type "tuple", data := Data.seq #[Value.int 256 539, Value.str (Str.ofString "r") 564] }) ::
  (nat_lit 238, { cls := Value.type "tuple", data := Data.seq #[Value.ref 237] }) ::
  (nat_lit 239, { cls := Value.type "tuple", data := Data.seq #[Value.int 128 541, Value.str (Str.ofString "w") 565] }) ::
  (nat_lit 240, { cls := Value.type "tuple", data := Data.seq #[Value.ref 239] }) ::
  (nat_lit 241, { cls := Value.type "tuple", data := Data.seq #[Value.int 2112 566, Value.str (Str.ofString "s") 567] }) ::
  (nat_lit 242, { cls := Value.type "tuple", data := Data.seq #[Value.int 2048 533, Value.str (Str.ofString "S") 568] }) ::
  (nat_lit 243, { cls := Value.type "tuple", data := Data.seq #[Value.int 64 543, Value.str (Str.ofString "x") 569] }) ::
  (nat_lit 244, { cls := Value.type "tuple", data := Data.seq #[Value.ref 241, Value.ref 242, Value.ref 243] }) ::
  (nat_lit 245, { cls := Value.type "tuple", data := Data.seq #[Value.int 32 545, Value.str (Str.ofString "r") 570] }) ::
  (nat_lit 246, { cls := Value.type "tuple", data := Data.seq #[Value.ref 245] }) ::
  (nat_lit 247, { cls := Value.type "tuple", data := Data.seq #[Value.int 16 547, Value.str (Str.ofString "w") 571] }) ::
  (nat_lit 248, { cls := Value.type "tuple", data := Data.seq #[Value.ref 247] }) ::
  (nat_lit 249, { cls := Value.type "tuple", data := Data.seq #[Value.int 1032 572, Value.str (Str.ofString "s") 573] }) ::
  (nat_lit 250, { cls := Value.type "tuple", data := Data.seq #[Value.int 1024 535, Value.str (Str.ofString "S") 574] }) ::
  (nat_lit 251, { cls := Value.type "tuple", data := Data.seq #[Value.int 8 549, Value.str (Str.ofString "x") 575] }) ::
  (nat_lit 252, { cls := Value.type "tuple", data := Data.seq #[Value.ref 249, Value.ref 250, Value.ref 251] }) ::
  (nat_lit 253, { cls := Value.type "tuple", data := Data.seq #[Value.int 4 551, Value.str (Str.ofString "r") 576] }) ::
  (nat_lit 254, { cls := Value.type "tuple", data := Data.seq #[Value.ref 253] }) ::
  (nat_lit 255, { cls := Value.type "tuple", data := Data.seq #[Value.int 2 553, Value.str (Str.ofString "w") 577] }) ::
  (nat_lit 256, { cls := Value.type "tuple", data := Data.seq #[Value.ref 255] }) ::
  (nat_lit 257, { cls := Value.type "tuple", data := Data.seq #[Value.int 513 578, Value.str (Str.ofString "t") 579] }) ::
  (nat_lit 258, { cls := Value.type "tuple", data := Data.seq #[Value.int 512 537, Value.str (Str.ofString "T") 580] }) ::
  (nat_lit 259, { cls := Value.type "tuple", data := Data.seq #[Value.int 1 555, Value.str (Str.ofString "x") 581] }) ::
  (nat_lit 260, { cls := Value.type "tuple", data := Data.seq #[Value.ref 257, Value.ref 258, Value.ref 259] }) ::
  (nat_lit 261, { cls := Value.type "tuple", data := Data.seq #[Value.ref 236, Value.ref 238, Value.ref 240, Value.ref 244, Value.ref 246, Value.ref 248, Value.ref 252, Value.ref 254, Value.ref 256, Value.ref 260] }) ::
  (nat_lit 267, { cls := Value.type "code", data := Data.fields #[Value.str (Str.ofString "filemode") 583, Value.str (Str.ofString "filemode") 584, Value.str (Str.ofString "/claim/cut.py") 585, Value.int 263 0, Value.int 1 0, Value.int 0 0, Value.int 0 0, Value.int 3 0, Value.ref 262, Value.bool true, Value.int 181 0, Value.ref 263, Value.none, Value.ref 264, Value.ref 265, Value.ref 266, Value.int 592 0, Value.int 263 0, Value.str (Str.ofString "/claim/cut.py") 593] }) ::
  (nat_lit 268, fO (Str.ofString "filemode") fn54.1 (docAt 54 594) (Value.str (Str.ofString "cpy313.stat") 485) (.ref 267)) ::
  (nat_lit 272, { cls := Value.type "code", data := Data.fields #[Value.str (Str.ofString "_law_name") 598, Value.str (Str.ofString "_law_name") 599, Value.str (Str.ofString "/claim/cut.py") 600, Value.int 282 0, Value.int 2 0, Value.int 0 0, Value.int 0 0, Value.int 3 0, Value.ref 269, Value.bool true, Value.int 181 0, Value.ref 270, Value.none, Value.none, Value.none, Value.ref 271, Value.int 601 0, Value.int 282 0, Value.str (Str.ofString "/claim/cut.py") 602] }) ::
  (nat_lit 273, fO (Str.ofString "_law_name") fn56.1 .none (Value.str (Str.ofString "law_ik0166_01") 596) (.ref 272)) ::
  (nat_lit 279, { cls := Value.type "code", data := Data.fields #[Value.str (Str.ofString "_law_part") 604, Value.str (Str.ofString "_law_part") 605, Value.str (Str.ofString "/claim/cut.py") 606, Value.int 285 0, Value.int 1 0, Value.int 0 0, Value.int 0 0, Value.int 3 0, Value.ref 274, Value.bool true, Value.int 181 0, Value.ref 275, Value.none, Value.ref 276, Value.ref 277, Value.ref 278, Value.int 609 0, Value.int 285 0, Value.str (Str.ofString "/claim/cut.py") 610] }) ::
  (nat_lit 280, fO (Str.ofString "_law_part") fn57.1 .none (Value.str (Str.ofString "law_ik0166_01") 596) (.ref 279)) ::
  (nat_lit 286, { cls := Value.type "code", data := Data.fields #[Value.str (Str.ofString "_law_joined") 612, Value.str (Str.ofString "_law_joined") 613, Value.str (Str.ofString "/claim/cut.py") 614, Value.int 292 0, Value.int 1 0, Value.int 0 0, Value.int 0 0, Value.int 3 0, Value.ref 281, Value.bool true, Value.int 181 0, Value.ref 282, Value.none, Value.ref 283, Value.ref 284, Value.ref 285, Value.int 618 0, Value.int 292 0, Value.str (Str.ofString "/claim/cut.py") 619] }) ::
  (nat_lit 287, fO (Str.ofString "_law_joined") fn58.1 .none (Value.str (Str.ofString "law_ik0166_01") 596) (.ref 286)) ::
  (nat_lit 293, { cls := Value.type "code", data := Data.fields #[Value.str (Str.ofString "_law_run") 621, Value.str (Str.ofString "_law_run") 622, Value.str (Str.ofString "/claim/cut.py") 623, Value.int 299 0, Value.int 2 0, Value.int 0 0, Value.int 0 0, Value.int 3 0, Value.ref 288, Value.bool true, Value.int 181 0, Value.ref 289, Value.none, Value.ref 290, Value.ref 291, Value.ref 292, Value.int 633 0, Value.int 299 0, Value.str (Str.ofString "/claim/cut.py") 634] }) ::
  (nat_lit 294, fO (Str.ofString "_law_run") fn59.1 .none (Value.str (Str.ofString "law_ik0166_01") 596) (.ref 293)) ::
  (nat_lit 300, { cls := Value.type "code", data := Data.fields #[Value.str (Str.ofString "_law_mixed") 636, Value.str (Str.ofString "_law_mixed") 637, Value.str (Str.ofString "/claim/cut.py") 638, Value.int 312 0, Value.int 3 0, Value.int 0 0, Value.int 0 0, Value.int 3 0, Value.ref 295, Value.bool true, Value.int 181 0, Value.ref 296, Value.none, Value.ref 297, Value.ref 298, Value.ref 299, Value.int 646 0, Value.int 312 0, Value.str (Str.ofString "/claim/cut.py") 647] }) ::
  (nat_lit 301, fO (Str.ofString "_law_mixed") fn60.1 .none (Value.str (Str.ofString "law_ik0166_01") 596) (.ref 300)) ::
  (nat_lit 307, { cls := Value.type "code", data := Data.fields #[Value.str (Str.ofString "_law_pile") 649, Value.str (Str.ofString "_law_pile") 650, Value.str (Str.ofString "/claim/cut.py") 651, Value.int 319 0, Value.int 2 0, Value.int 0 0, Value.int 0 0, Value.int 3 0, Value.ref 302, Value.bool true, Value.int 181 0, Value.ref 303, Value.none, Value.ref 304, Value.ref 305, Value.ref 306, Value.int 660 0, Value.int 319 0, Value.str (Str.ofString "/claim/cut.py") 661] }) ::
  (nat_lit 308, fO (Str.ofString "_law_pile") fn61.1 .none (Value.str (Str.ofString "law_ik0166_01") 596) (.ref 307)) ::
  (nat_lit 314, { cls := Value.type "code", data := Data.fields #[Value.str (Str.ofString "_law_signs") 663, Value.str (Str.ofString "_law_signs") 664, Value.str (Str.ofString "/claim/cut.py") 665, Value.int 336 0, Value.int 1 0, Value.int 0 0, Value.int 0 0, Value.int 3 0, Value.ref 309, Value.bool true, Value.int 181 0, Value.ref 310, Value.none, Value.ref 311, Value.ref 312, Value.ref 313, Value.int 671 0, Value.int 336 0, Value.str (Str.ofString "/claim/cut.py") 672] }) ::
  (nat_lit 315, fO (Str.ofString "_law_signs") fn62.1 .none (Value.str (Str.ofString "law_ik0166_01") 596) (.ref 314)) ::
  (nat_lit 321, { cls := Value.type "code", data := Data.fields #[Value.str (Str.ofString "_law_both") 674, Value.str (Str.ofString "_law_both") 675, Value.str (Str.ofString "/claim/cut.py") 676, Value.int 342 0, Value.int 2 0, Value.int 0 0, Value.int 0 0, Value.int 3 0, Value.ref 316, Value.bool true, Value.int 181 0, Value.ref 317, Value.none, Value.ref 318, Value.ref 319, Value.ref 320, Value.int 680 0, Value.int 342 0, Value.str (Str.ofString "/claim/cut.py") 681] }) ::
  (nat_lit 322, fO (Str.ofString "_law_both") fn63.1 .none (Value.str (Str.ofString "law_ik0166_01") 596) (.ref 321)) ::
  (nat_lit 326, { cls := Value.type "code", data := Data.fields #[Value.str (Str.ofString "law") 683, Value.str (Str.ofString "law") 684, Value.str (Str.ofString "/claim/cut.py") 685, Value.int 347 0, Value.int 1 0, Value.int 0 0, Value.int 0 0, Value.int 3 0, Value.ref 323, Value.bool true, Value.int 181 0, Value.ref 324, Value.none, Value.none, Value.none, Value.ref 325, Value.int 686 0, Value.int 347 0, Value.str (Str.ofString "/claim/cut.py") 687] }) ::
  (nat_lit 327, fO (Str.ofString "law") fn64.1 .none (Value.str (Str.ofString "law_ik0166_01") 596) (.ref 326)) :: []
noncomputable def adrs : List Addr := [3, 100, 101, 107, 108, 121, 122, 128, 129, 135, 136, 142, 143, 149, 150, 159, 160, 166, 167, 171, 172, 178, 179, 185, 186, 192, 193, 199, 200, 206, 207, 213, 214, 220, 221, 227, 228, 229, 230, 231, 232, 233, 234, 235, 236, 237, 238, 239, 240, 241, 242, 243, 244, 245, 246, 247, 248, 249, 250, 251, 252, 253, 254, 255, 256, 257, 258, 259, 260, 261, 267, 268, 272, 273, 279, 280, 286, 287, 293, 294, 300, 301, 307, 308, 314, 315, 321, 322, 326, 327]
theorem adrs_ok : ∀ P, adrs = (K P).map (·.1) := fun _ => rfl
noncomputable def lawDef : {x // defOf view PySem.Challenge.rw_ik0166_01.row.name = some x} := ⟨_, rfl⟩
noncomputable abbrev prg : Program := PySem.Challenge.rw_ik0166_01.row.prog
noncomputable abbrev hook : Hook := kHook K adrs adrs_ok
noncomputable abbrev sees : Shared → Bool := fun s => xlAt view [] s && recOk (RowW.records (OpenRow.toRowW PySem.Challenge.rw_ik0166_01.row)) s
abbrev Side (w : World) : Prop := (openEnds treeTable prg w 4700).map (fun s => (openSeen view [Str.ofString "_filemode_table"] (importedModules prg.main.body) sees true s, hook.obs s)) = some (openGood view [Str.ofString "_filemode_table"], hook.val w)
theorem sideF (w : World) : Side (w.withFollow "special-get-raises" false) := by
  kernel_rfl
theorem sideT (w : World) : Side (w.withFollow "special-get-raises" true) := by
  kernel_rfl
theorem left : LeftO prg view [Str.ofString "_filemode_table"] sees hook.obs hook.val 4700 := fun w => byRow2 "special-get-raises" (P := Side) sideF sideT w




noncomputable def Kept (g h : Heap) : Prop := ∀ b o, g.get? b = some o → h.get? b = some o
theorem Kept.refl (g : Heap) : Kept g g := fun _ _ e => e
theorem Kept.trans {a b c : Heap} (x : Kept a b) (y : Kept b c) : Kept a c := fun p o e => y p o (x p o e)

noncomputable def PureEnd (s : Shared) (Post : Heap → Value → Prop) (v : Value) (s' : Shared) : Prop :=
  ∃ h' tk', s' = { s with heap := h', toks := tk' } ∧ Kept s.heap h' ∧ Post h' v

/-- a def that leaves all that stood: what a call of it gives back -/
noncomputable def Con (w : World) (f : Addr) (args : List Value) (D : Nat) (Pre : Heap → Prop) (Post : Heap → Heap → Value → Prop) : Prop :=
  ∀ (mean : ExcName → Option Value) (mg mb : Str → Option Value) (dp un : Nat) (gd : Option (List Code)) (cn : Str) (cs : Scope) (a : Addr) (ccd : Value) (cl : List (Str × Addr)) (outer : List Env) (A₀ : Around) (base h₀ : Heap) (L : Addr)
    (m : Str → Option Value) (s : Shared),
    Below A₀ base outer h₀ → Fr h₀ L s.heap m → (K w.params).In h₀ → Top view (looseW view [Str.ofString "_filemode_table"]) mean mg mb h₀ → cs.kind = .function → dp + D < recursionLimit → un + 8 * D < cLine → Pre s.heap →
    wpAny (model PySem.Challenge.rw_ik0166_01.row.prog w) (ktrTop dp un gd cn cs L a ccd cl outer) (call (.ref f) args) (PureEnd s (Post s.heap)) (fun _ _ => False) s

noncomputable def Fresh (g h : Heap) (objs : List (Addr × Obj)) : Prop := ∀ p ∈ objs, h.get? p.1 = some p.2 ∧ g.get? p.1 = none

theorem con_use {w : World} {f : Addr} {args : List Value} {D : Nat} {Pre : Heap → Prop} {Post : Heap → Heap → Value → Prop}
    {mean : ExcName → Option Value} {mg mb : Str → Option Value} {dp un : Nat} {gd : Option (List Code)} {cn : Str} {cs : Scope} {a : Addr} {ccd : Value} {cl : List (Str × Addr)} {outer : List Env} {A₀ : Around} {base h₀ : Heap} {L : Addr}
    {m : Str → Option Value} {s : Shared} {news : List (Addr × Obj)} {Q E : Value → Shared → Prop}
    (C : Con w f args D Pre Post) (B : Below A₀ base outer h₀) (F : Fr h₀ L s.heap m) (X : (K w.params).In h₀) (N : News h₀ L s.heap news) (T : Top view (looseW view [Str.ofString "_filemode_table"]) mean mg mb h₀) (hk : cs.kind = .function) (hd : dp + D < recursionLimit) (hu : un + 8 * D < cLine)
    (hp : Pre s.heap) (h : ∀ r h' tk', Fr h₀ L h' m → News h₀ L h' news → Kept s.heap h' → Post s.heap h' r → Q r { s with heap := h', toks := tk' }) :
    wpAny (model PySem.Challenge.rw_ik0166_01.row.prog w) (ktrTop dp un gd cn cs L a ccd cl outer) (call (.ref f) args) Q E s := by
  refine wpAny_mono (C _ _ _ _ _ _ _ _ _ _ _ _ _ _ _ _ _ _ B F X T hk hd hu hp) ?_ (fun _ _ x => x.elim)
  rintro r s' ⟨h', tk', rfl, hk', hpo⟩
  exact h r h' tk' (F.kept hk') (N.keepsAll hk') hk' hpo

theorem fresh_news {h₀ h h' : Heap} {L : Addr} {m : Str → Option Value} {news objs : List (Addr × Obj)} (F : Fr h₀ L h m) (N : News h₀ L h' news) (R : Fresh h h' objs) : News h₀ L h' (objs ++ news) := by
  intro p hp
  rcases List.mem_append.mp hp with hp | hp
  · obtain ⟨e, n⟩ := R p hp
    refine ⟨e, fun q => ?_, ?_⟩
    · obtain ⟨_, _, _, hL, _⟩ := F.ns
      rw [q, hL] at n; cases n
    · cases q : h₀.get? p.1 with
      | none => rfl
      | some o => rw [F.keep _ _ q] at n; cases n
  · exact N p hp
theorem fresh_ne {h₀ h h' : Heap} {L : Addr} {news objs : List (Addr × Obj)} (N : News h₀ L h news) (R : Fresh h h' objs) : ∀ p ∈ news, ∀ q ∈ objs, p.1 ≠ q.1 := fun p hp q hq e => by
  have h1 := (N p hp).1
  rw [e, (R q hq).2] at h1; cases h1

theorem code_pure {w : World} {K : Frag} {A₀ A : Around} {base h₀ : Heap} {outer : List Env} {env : Env} {L : Addr} {m : Str → Option Value} {s : Shared} {p : Program} {loose : List Str} {mean : ExcName → Option Value} {mg mb : Str → Option Value}
    {Q : Value → Shared → Prop} {name qual : Str} {params : Arguments} {body : List Stmt} {scope : Scope} {dV kV doc pm cdv ct oc : Value} {an od : Option Addr} {osl : Array (Option Value)} {f : Addr} {args : List Value} {binds : List (Str × Value)}
    (B : Below A₀ base outer h₀) (F : Fr h₀ L s.heap m) (X₀ : K.In h₀) (T : Top p loose mean mg mb h₀) (hA : A.frames = some (env :: outer)) (hf : env.frame = some L) (hke : env.scope.kind = .function)
    (ho : K.lookup f = some ⟨oc, od, .func (fnOf name qual params body scope dV kV doc pm an cdv ct), osl⟩) (hcd : codeIn K cdv qual = true) (hroom : A.depth < recursionLimit)
    (hbind : BindsTo s (fnOf name qual params body scope dV kV doc pm an cdv ct) ⟨args, []⟩ binds) (hloc : ∀ y ∈ binds, scope.names.lookup y.1 = some .local)
    (h : ∀ L' h₁, Fr s.heap L' h₁ (fun y => binds.reverse.lookup y) → News s.heap L' h₁ [] → Below A base (env :: outer) s.heap → K.In s.heap → Top p loose mean mg mb s.heap →
      wpAny (model PySem.Challenge.rw_ik0166_01.row.prog w) (A.deeper (envOf qual scope L' f cdv)) (execs body (envOf qual scope L' f cdv))
        (fun fl s' => Q (match fl with | .ret v => v | _ => .none) s') (fun _ _ => False)
        { s with heap := h₁, toks := s.toks + binds.length })
    (hco : scope.isCoroutine = false) (hgen : scope.isGenerator = false) (hk : scope.kind = .function)
    (hcell : ∀ x ∈ scope.names, x.2 ≠ .cell) : wpAny (model PySem.Challenge.rw_ik0166_01.row.prog w) A (call (.ref f) args) Q (fun _ _ => False) s := by
  have KS := X₀.keeps F.keep
  have TS := T.keeps F.keep
  refine wpAny_call ?_
  refine codeAny_call_def (fd := fnOf name qual params body scope dV kV doc pm an cdv ct) (body := body) (binds := binds) hroom (KS _ _ ho) rfl TS.nolimit (codeRec_of KS hcd) rfl hbind hcell hloc (fun h₁ hns hk₁ => ?_) hco hgen hk
  have B₁ := pushX B F hf hke
  refine wpAny_mono (h s.heap.objs.size h₁ ⟨hns, hk₁, Nat.le_refl _⟩ News.nil ⟨hA, B₁.stays, B₁.frames⟩ KS TS) (fun fl s' hl => hl) fun _ _ x => x.elim

theorem args_issubclass_nested_3 (a b c : Value) : argsOk "issubclass.nested" ⟨[a, b, c], []⟩ := by unfold argsOk; kernel_rfl
theorem kind_issubclass_nested : builtinKind "issubclass.nested" = none := by decide +kernel
theorem plain_issubclass_nested : plainId "issubclass.nested" = true := by decide +kernel
theorem sub_str : isSubtype (.type "str") (.type "str") = pure true := by rw [isSubtype_type]; kernel_rfl

theorem issub_str : ∀ (dep : Int) (tk : Tok), Meets (Builtin.«issubclass.nested» ⟨[.type "str", .type "str", .int dep tk], []⟩) (fun _ R s => R (.ok (.ret (.bool true))) s) := by
  intro dep tk prog w A R s hs
  have hm : typeOf (.type "str") = pure (.type "type") := by kernel_rfl
  have hself := sub_str
  repeat (any_goals (first | assumption | (rw [hm]) | (rw [hself]) | wp_step))

theorem issub_tuple {prog : Program} {w : World} {A : Around} {E : Value → Shared → Prop} {tp : Addr} {c : Value} {cs : List Value} {tk : Tok} {s : Shared} {Q : Fin → Shared → Prop}
    (htp : s.heap.get? tp = some { cls := .type "tuple", data := .seq cs.toArray }) (hcs : cs = [.type "str", c])
    (hq : Q (.done (.ret (.bool true))) s) : wpAny (model prog w) A (Builtin.«issubclass.nested» ⟨[.type "str", .ref tp, .int 0 tk], []⟩) Q E s := by
  obtain ⟨h, g, d, t, os⟩ := s
  have hT2 : (⟨h, g, d, t, os⟩ : Shared).TypeIs (.ref tp) "tuple" := ⟨_, htp, rfl⟩
  have f1 := F.isi_sub_tuple
  repeat (any_goals (first | assumption | wp_step))
  refine wpAny_arrayLoop ?_
  simp only [Option.getD_some, List.toList_toArray]
  rw [hcs, List.forIn_cons]
  refine wpAny_bind (wpAny_bind (call_function_meets kind_issubclass_nested plain_issubclass_nested F.entry_issubclass_nested (args_issubclass_nested_3 _ _ _) (issub_str _ _) ?_))
  show wpAny _ _ (truthy (.bool true) >>= _) _ _ _
  refine wpAny_bind (m := truthy (.bool true)) (wpAny_pure ?_)
  exact wpAny_bind (wpAny_pure (wpAny_pure (wpAny_pure (by repeat (any_goals (first | assumption | wp_step))))))

theorem issub_call {prog : Program} {w : World} {A : Around} {E : Value → Shared → Prop} {tp : Addr} {c : Value} {s : Shared} {Q : Value → Shared → Prop} {h₀ : Heap} {L : Addr} {news : List (Addr × Obj)}
    (N : News h₀ L s.heap news) (hm : (tp, ({ cls := .type "tuple", data := .seq #[.type "str", c] } : Obj)) ∈ news) (hq : Q (.bool true) s) :
    wpAny (model prog w) A (call (.builtin "issubclass") [.type "str", .ref tp]) Q E s :=
  call_issubclass (S := fun _ R s => s.heap.get? tp = some { cls := .type "tuple", data := .seq #[.type "str", c] } ∧ R (.ok (.ret (.bool true))) s)
    (fun _ _ _ _ _ hs => issubclass_outer (issub_tuple (cs := [.type "str", c]) hs.1 rfl hs.2)) ⟨(N _ hm).1, hq⟩

theorem pure_end {s : Shared} {Post : Heap → Value → Prop} {v : Value} {L : Addr} {h' : Heap} {m : Str → Option Value} {tk' : Nat} (F : Fr s.heap L h' m) (P : Post h' v) : PureEnd s Post v { s with heap := h', toks := tk' } :=
  ⟨h', tk', rfl, F.keep, P⟩
theorem fresh_of {g h : Heap} {L : Addr} {news objs : List (Addr × Obj)} (N : News g L h news) (hs : ∀ p ∈ objs, p ∈ news) : Fresh g h objs := fun p hp => ⟨(N p (hs p hp)).1, (N p (hs p hp)).2.2⟩

theorem wp_same {α : Type} {M : Model} {A : Around} {t : Sem α} {Q : α → Shared → Prop} {E : Value → Shared → Prop} {s : Shared} (h : wpAny M A t Q E s) : wpAny M A t Q E s := h
noncomputable def Stop (P : Prop) : Prop := P
theorem stop_of {P : Prop} (h : Stop P) : P := h
theorem of_stop {P : Prop} (h : P) : Stop P := h

noncomputable def Tup2 (a b : Str) (g h : Heap) (v : Value) : Prop := ∃ D t u, v = .ref D ∧ Fresh g h [(D, { cls := .type "tuple", data := .seq #[.str a t, .str b u] })]
noncomputable def Tup3 (a b c : Str) (g h : Heap) (v : Value) : Prop := ∃ D t u v', v = .ref D ∧ Fresh g h [(D, { cls := .type "tuple", data := .seq #[.str a t, .str b u, .str c v'] })]

noncomputable def St1 {σ : Type} (Led : σ → List (Addr × Obj)) (ps : σ → List (Str × Value)) (stored : List Str) (m₀ : Str → Option Value) (Inv : σ → Prop) (m : Str → Option Value) (nx : List (Addr × Obj)) : Prop :=
  ∃ c : σ, nx = Led c ∧ (∀ p ∈ ps c, m p.1 = some p.2) ∧ (∀ z, (∀ p ∈ ps c, z ≠ p.1) → stored.contains z = false → m z = m₀ z) ∧ Inv c

theorem st1_fr {h₀ h : Heap} {L : Addr} {ps : List (Str × Value)} {stored : List Str} {m₀ m₁ : Str → Option Value} (h1 : ∀ p ∈ ps, m₁ p.1 = some p.2) (h2 : ∀ z, (∀ p ∈ ps, z ≠ p.1) → stored.contains z = false → m₁ z = m₀ z)
    (F : Fr h₀ L h m₁) : Fr h₀ L h (kstB (fun z => if stored.contains z then m₁ z else m₀ z) ps) := by
  have em : kstB (fun z => if stored.contains z then m₁ z else m₀ z) ps = m₁ := by
    funext y
    refine kstB_eq h1 fun hn => ?_
    show (if stored.contains y = true then m₁ y else m₀ y) = m₁ y
    cases h3 : stored.contains y with
    | true => simp
    | false => simp only [Bool.false_eq_true, if_false]; exact (h2 y hn h3).symm
  rw [em]; exact F

section
variable {prog : Program} {w : World} {A : Around} {E : Value → Shared → Prop} {s : Shared} {env : Env} {h₀ : Heap} {target : Expr} {body : List Stmt} {Q : Flow → Shared → Prop}

theorem st1_end {σ : Type} {Led : σ → List (Addr × Obj)} {ps : σ → List (Str × Value)} {stored : List Str} {m₀ : Str → Option Value} {Inv : σ → Prop} (c : σ) {L : Addr} {m' : Str → Option Value} {own news' : List (Addr × Obj)} {adr : List Addr} {s₁ : Shared} {h' : Heap} {tk : Nat}
    (F : Fr h₀ L h' m') (N : News h₀ L h' news') (hn : ∀ p ∈ Led c, p ∈ news') (ho : ∀ p ∈ own, p ∈ news') (ha : (Led c).map (·.1) = adr) (hk : ∀ p ∈ ps c, m' p.1 = some p.2) (hr : ∀ z, (∀ p ∈ ps c, z ≠ p.1) → stored.contains z = false → m' z = m₀ z) (hp : Inv c) :
    InvEndN h₀ L (St1 Led ps stored m₀ Inv) own adr s₁ { s₁ with heap := h', toks := tk } :=
  InvEndN.intro F N ⟨c, rfl, hk, hr, hp⟩ ha hn ho

theorem turns_st {σ : Type} {I : Addr} {fp wr : List Addr} {n : Nat} {P Md : Nat → Value → Heap → Prop} {St : Nat → Heap → Prop} {m₀ : Str → Option Value} (Led : σ → List (Addr × Obj)) (ps : σ → List (Str × Value)) (stored : List Str) (Inv : Nat → σ → Prop) (c₀ : σ)
    (W : KTurns prog w A target I fp wr n P Md St) (hLf : env.locals ∉ fp) (hwr : ∀ b ∈ wr, h₀.get? b = none) (hoff : ∀ p ∈ Led c₀, p.1 ∉ fp) (hst : St 0 s.heap) (F : Fr h₀ env.locals s.heap m₀) (N : News h₀ env.locals s.heap (Led c₀)) (hk : ∀ p ∈ ps c₀, m₀ p.1 = some p.2) (hp : Inv 0 c₀)
    (turn : ∀ (c : σ) i v (u : Str → Option Value) h tk own, i < n → P i v h → OwnOff own ((Led c₀).map (·.1)) → Inv i c → Fr h₀ env.locals h (kstB (fun z => if stored.contains z then u z else m₀ z) (ps c)) → News h₀ env.locals h (Led c ++ own) →
      wpAny (model prog w) A (assign target env v) (fun _ s₃ => wpAny (model prog w) A (execs body env) (InvPostN h₀ env.locals (St1 Led ps stored m₀ (Inv (i + 1))) own ((Led c₀).map (·.1)) { s with heap := h, toks := tk } Q) E s₃) E { s with heap := h, toks := tk })
    (done : ∀ (c : σ) (u : Str → Option Value) h tk, Inv n c → Fr h₀ env.locals h (kstB (fun z => if stored.contains z then u z else m₀ z) (ps c)) → News h₀ env.locals h (Led c) → Q .next { s with heap := h, toks := tk }) :
    TurnsAt prog w A h₀ env target body Q E (.ref I) s := by
  let J : Nat → (Str → Option Value) → List (Addr × Obj) → Prop := fun i m nx => nx.map (·.1) = (Led c₀).map (·.1) ∧ St1 Led ps stored m₀ (Inv i) m nx
  refine ⟨I, fp, wr, n, P, Md, St, m₀, Led c₀, J, rfl, W, hLf, hwr, fun p hp hb => hoff p hp (W.sub _ hb), hst, F, N, ⟨rfl, c₀, rfl, hk, fun _ _ _ => rfl, hp⟩, ?_, ?_⟩
  · rintro i v m₁ news₁ h₁ tk₁ own hin hP ⟨hadr, c, rfl, h1, h2, hI⟩ _ hown _ _ _ F₁ N₁
    have hsep : OwnOff own ((Led c₀).map (·.1)) := by
      intro p hp b hb e
      obtain ⟨q, hq, rfl⟩ := List.mem_map.mp hb
      exact hoff q hq (e ▸ hown p hp)
    have N₂ : News h₀ env.locals h₁ (Led c ++ own) := fun p hp => N₁ p ((List.mem_append.mp hp).elim (fun h => List.mem_append.mpr (.inr h)) fun h => List.mem_append.mpr (.inl h))
    have fin : ∀ s₃, InvEndN h₀ env.locals (St1 Led ps stored m₀ (Inv (i + 1))) own ((Led c₀).map (·.1)) { s with heap := h₁, toks := tk₁ } s₃ → LoopStepU h₀ env.locals wr own (J (i + 1)) { s with heap := h₁, toks := tk₁ } .next s₃ := by
      rintro s₃ ⟨h', tk, m', news', nx, e, F', N', hn, ho, ha, hm⟩
      refine ⟨rfl, h', tk, m', nx, e, F', fun p hp => N' p ((List.mem_append.mp hp).elim (ho p) (hn p)), fun p hp hq => ?_, ha, hm⟩
      have h1 : p.1 ∈ nx.map (·.1) := List.mem_map.mpr ⟨p, hp, rfl⟩
      rw [ha] at h1
      obtain ⟨q, hq1, hq2⟩ := List.mem_map.mp h1
      exact hoff q hq1 (hq2 ▸ W.sub _ hq)
    refine wpAny_mono (turn c i v m₁ h₁ tk₁ own hin hP hsep hI (st1_fr h1 h2 F₁) N₂) (fun _ s₂ h₂ => wpAny_mono h₂ (fun f s₃ p => ?_) fun _ _ e => e) fun _ _ e => e
    cases f with
    | ret v => exact .ret p
    | brk => exact .brk p
    | next => exact .next (fin _ p)
    | cont => exact .cont (fin _ p)
  · rintro h' tk m' news' F' N' _ ⟨_, c, rfl, h1, h2, hI⟩
    exact done c m' h' tk hI (st1_fr h1 h2 F') N'

theorem iter_list {σ : Type} {l : Addr} {vs : List Value} {m₀ : Str → Option Value} (Led : σ → List (Addr × Obj)) (ps : σ → List (Str × Value)) (stored : List Str) (Inv : Nat → σ → Prop) (c₀ : σ)
    (hh : A.handled = none) (hl : s.heap.IsList l vs.toArray) (hlL : l ≠ env.locals) (hoff : ∀ p ∈ Led c₀, p.1 ≠ l) (F : Fr h₀ env.locals s.heap m₀) (N : News h₀ env.locals s.heap (Led c₀)) (hk : ∀ p ∈ ps c₀, m₀ p.1 = some p.2) (hp : Inv 0 c₀)
    (turn : ∀ (c : σ) i v (u : Str → Option Value) h tk own, vs[i]? = some v → OwnOff own ((Led c₀).map (·.1)) → Inv i c → Fr h₀ env.locals h (kstB (fun z => if stored.contains z then u z else m₀ z) (ps c)) → News h₀ env.locals h (Led c ++ own) →
      wpAny (model prog w) A (assign target env v) (fun _ s₃ => wpAny (model prog w) A (execs body env) (InvPostN h₀ env.locals (St1 Led ps stored m₀ (Inv (i + 1))) own ((Led c₀).map (·.1)) { s with heap := h, toks := tk } Q) E s₃) E { s with heap := h, toks := tk })
    (done : ∀ (c : σ) (u : Str → Option Value) h tk, Inv vs.length c → Fr h₀ env.locals h (kstB (fun z => if stored.contains z then u z else m₀ z) (ps c)) → News h₀ env.locals h (Led c) → Q .next { s with heap := h, toks := tk }) :
    wpAny (model prog w) A (pyIter (.ref l)) (fun it s₂ => TurnsAt prog w A h₀ env target body Q E it s₂) E s := by
  obtain ⟨ol, hol, hl2⟩ := id hl
  have hlt : l < s.heap.objs.size := Heap.lt_size hol
  have hne : l ≠ s.heap.objs.size := Nat.ne_of_lt hlt
  refine wpAny_pyIter_list hl ?_
  refine turns_st Led ps stored Inv c₀ (KTurns.ofWalks (Walks.list hh s.heap.objs.size l hne vs.toArray) fun i v s Q E st q => letGo_listiter st.1 q) ?_ ?_ ?_ ⟨⟨_, Heap.get?_push_size _ rfl, rfl, rfl⟩, hl.at fun o e => Heap.get?_push_of_some _ e⟩ (F.push _) (fun p hp => ⟨Heap.get?_push_of_some _ (N p hp).1, (N p hp).2⟩) hk hp ?_ ?_
  · intro hm
    rcases List.mem_cons.mp hm with e | hm
    · exact absurd F.ns.lt (e ▸ Nat.lt_irrefl _)
    · exact hlL (List.mem_singleton.mp hm).symm
  · intro b hb
    rw [List.mem_singleton.mp hb]
    exact next_is_new F
  · intro p hp hI
    rcases List.mem_cons.mp hI with e | hI
    · exact absurd (Heap.lt_size (N p hp).1) (e ▸ Nat.lt_irrefl _)
    · exact hoff p hp (List.mem_singleton.mp hI)
  · intro c i v u h tk own hi hP ho hI F₁ N₁
    exact turn c i v u h tk own (by simpa using hP) ho hI F₁ N₁
  · intro c u h tk hI F₁ N₁
    exact done c u h tk (by simpa using hI) F₁ N₁

theorem iter_tup {σ : Type} {l : Addr} {vs : List Value} {m₀ : Str → Option Value} (Led : σ → List (Addr × Obj)) (ps : σ → List (Str × Value)) (stored : List Str) (Inv : Nat → σ → Prop) (c₀ : σ)
    (hh : A.handled = none) (hl : s.heap.IsTuple l vs.toArray) (hlL : l ≠ env.locals) (hoff : ∀ p ∈ Led c₀, p.1 ≠ l) (F : Fr h₀ env.locals s.heap m₀) (N : News h₀ env.locals s.heap (Led c₀)) (hk : ∀ p ∈ ps c₀, m₀ p.1 = some p.2) (hp : Inv 0 c₀)
    (turn : ∀ (c : σ) i v (u : Str → Option Value) h tk own, vs[i]? = some v → OwnOff own ((Led c₀).map (·.1)) → Inv i c → Fr h₀ env.locals h (kstB (fun z => if stored.contains z then u z else m₀ z) (ps c)) → News h₀ env.locals h (Led c ++ own) →
      wpAny (model prog w) A (assign target env v) (fun _ s₃ => wpAny (model prog w) A (execs body env) (InvPostN h₀ env.locals (St1 Led ps stored m₀ (Inv (i + 1))) own ((Led c₀).map (·.1)) { s with heap := h, toks := tk } Q) E s₃) E { s with heap := h, toks := tk })
    (done : ∀ (c : σ) (u : Str → Option Value) h tk, Inv vs.length c → Fr h₀ env.locals h (kstB (fun z => if stored.contains z then u z else m₀ z) (ps c)) → News h₀ env.locals h (Led c) → Q .next { s with heap := h, toks := tk }) :
    wpAny (model prog w) A (pyIter (.ref l)) (fun it s₂ => TurnsAt prog w A h₀ env target body Q E it s₂) E s := by
  obtain ⟨ol, hol, hl2⟩ := id hl
  have hlt : l < s.heap.objs.size := Heap.lt_size hol
  have hne : l ≠ s.heap.objs.size := Nat.ne_of_lt hlt
  refine wpAny_pyIter_tuple hl ?_
  refine turns_st Led ps stored Inv c₀ (KTurns.ofWalks (Walks.tuple hh s.heap.objs.size l hne vs.toArray) fun i v s Q E st q => letGo_tupleiter st.1 q) ?_ ?_ ?_ ⟨⟨_, Heap.get?_push_size _ rfl, rfl, rfl⟩, hl.at fun o e => Heap.get?_push_of_some _ e⟩ (F.push _) (fun p hp => ⟨Heap.get?_push_of_some _ (N p hp).1, (N p hp).2⟩) hk hp ?_ ?_
  · intro hm
    rcases List.mem_cons.mp hm with e | hm
    · exact absurd F.ns.lt (e ▸ Nat.lt_irrefl _)
    · exact hlL (List.mem_singleton.mp hm).symm
  · intro b hb
    rw [List.mem_singleton.mp hb]
    exact next_is_new F
  · intro p hp hI
    rcases List.mem_cons.mp hI with e | hI
    · exact absurd (Heap.lt_size (N p hp).1) (e ▸ Nat.lt_irrefl _)
    · exact hoff p hp (List.mem_singleton.mp hI)
  · intro c i v u h tk own hi hP ho hI F₁ N₁
    exact turn c i v u h tk own (by simpa using hP) ho hI F₁ N₁
  · intro c u h tk hI F₁ N₁
    exact done c u h tk (by simpa using hI) F₁ N₁

theorem iter_range {σ : Type} {r : Addr} {a b c : Int} {t₀ u₀ v₀ : Tok} {n : Nat} {m₀ : Str → Option Value} (Led : σ → List (Addr × Obj)) (ps : σ → List (Str × Value)) (stored : List Str) (Inv : Nat → σ → Prop) (c₀ : σ)
    (hh : A.handled = none) (hr : IsRange s.heap r a b c t₀ u₀ v₀) (hsmall : Builtin.Range.small a b c = true) (hn : Builtin.Range.rangeSize a b c = (n : Int)) (F : Fr h₀ env.locals s.heap m₀) (N : News h₀ env.locals s.heap (Led c₀)) (hk : ∀ p ∈ ps c₀, m₀ p.1 = some p.2) (hp : Inv 0 c₀)
    (hgo : ∀ (I : Addr) x left step v (s : Shared) (Q : Unit → Shared → Prop) (E : Value → Shared → Prop), IsRangeIter s.heap I x left step → Q () s → wpAny (model prog w) A (letOwnedTupleGo target (.ref I) v) Q E s)
    (turn : ∀ (d : σ) i t (u : Str → Option Value) h tk own, i < n → OwnOff own ((Led c₀).map (·.1)) → Inv i d → Fr h₀ env.locals h (kstB (fun z => if stored.contains z then u z else m₀ z) (ps d)) → News h₀ env.locals h (Led d ++ own) →
      wpAny (model prog w) A (assign target env (.int (a + i * c) t)) (fun _ s₃ => wpAny (model prog w) A (execs body env) (InvPostN h₀ env.locals (St1 Led ps stored m₀ (Inv (i + 1))) own ((Led c₀).map (·.1)) { s with heap := h, toks := tk } Q) E s₃) E { s with heap := h, toks := tk })
    (done : ∀ (d : σ) (u : Str → Option Value) h tk, Inv n d → Fr h₀ env.locals h (kstB (fun z => if stored.contains z then u z else m₀ z) (ps d)) → News h₀ env.locals h (Led d) → Q .next { s with heap := h, toks := tk }) :
    wpAny (model prog w) A (pyIter (.ref r)) (fun it s₂ => TurnsAt prog w A h₀ env target body Q E it s₂) E s := by
  refine wpAny_pyIter_range hr hsmall ?_
  refine turns_st Led ps stored Inv c₀ (KTurns.ofWalks (Walks.range hh s.heap.objs.size a c n) fun i v s Q E st q => hgo _ _ _ _ v s Q E st q) ?_ ?_ ?_ (by show IsRangeIter _ _ _ _ _; rw [hn]; simpa using Heap.get?_push_size _ rfl) (F.push _) (fun p hp => ⟨Heap.get?_push_of_some _ (N p hp).1, (N p hp).2⟩) hk hp ?_ ?_
  · intro hm
    exact absurd F.ns.lt ((List.mem_singleton.mp hm) ▸ Nat.lt_irrefl _)
  · intro b hb
    rw [List.mem_singleton.mp hb]
    exact next_is_new F
  · intro p hp hI
    exact absurd (Heap.lt_size (N p hp).1) ((List.mem_singleton.mp hI) ▸ Nat.lt_irrefl _)
  · rintro d i v u h tk own hi ⟨t, rfl⟩ ho hI F₁ N₁
    exact turn d i t u h tk own hi ho hI F₁ N₁
  · intro d u h tk hI F₁ N₁
    exact done d u h tk hI F₁ N₁
end

section
variable {prog : Program} {w : World} {A : Around} {E : Value → Shared → Prop} {s : Shared} {env : Env} {h₀ : Heap} {target : Expr} {body : List Stmt} {Q : Flow → Shared → Prop}

/-- one object of the call's own turns; the list stands behind it on the ledger -/
theorem iter_one {σ : Type} {d l : Addr} {o₀ lo : Obj} {vs : List Value} {nn : Nat} {rest : List (Addr × Obj)} {m₀ : Str → Option Value} (ob : σ → Obj) (ps : σ → List (Str × Value)) (stored : List Str) (Inv : Nat → σ → Prop) (c₀ : σ)
    (hh : A.handled = none) (F : Fr h₀ env.locals s.heap m₀) (N : News h₀ env.locals s.heap ((d, o₀) :: (l, lo) :: rest)) (hlc : lo.cls = .type "list") (hld : lo.data = .seq vs.toArray nn) (hdl : d ≠ l) (ho : o₀ = ob c₀) (hk : ∀ p ∈ ps c₀, m₀ p.1 = some p.2) (hp : Inv 0 c₀)
    (turn : ∀ (c : σ) i v (u : Str → Option Value) h tk own, vs[i]? = some v → OwnOff own [d] → Inv i c → Fr h₀ env.locals h (kstB (fun z => if stored.contains z then u z else m₀ z) (ps c)) → News h₀ env.locals h ((d, ob c) :: own) →
      wpAny (model prog w) A (assign target env v) (fun _ s₃ => wpAny (model prog w) A (execs body env) (InvPostN h₀ env.locals (St1 (fun c => [(d, ob c)]) ps stored m₀ (Inv (i + 1))) own [d] { s with heap := h, toks := tk } Q) E s₃) E { s with heap := h, toks := tk })
    (done : ∀ (c : σ) (u : Str → Option Value) h tk, Inv vs.length c → Fr h₀ env.locals h (kstB (fun z => if stored.contains z then u z else m₀ z) (ps c)) → News h₀ env.locals h [(d, ob c)] → Q .next { s with heap := h, toks := tk }) :
    wpAny (model prog w) A (pyIter (.ref l)) (fun it s₂ => TurnsAt prog w A h₀ env target body Q E it s₂) E s := by
  subst ho
  refine iter_list (fun c => [(d, ob c)]) ps stored Inv c₀ hh ⟨lo, (N (l, lo) (by simp)).1, hlc, nn, hld⟩ (N (l, lo) (by simp)).2.1 (by simpa using hdl) F (fun p hp => N p (by rw [List.mem_singleton.mp hp]; simp)) hk hp turn done
/-- the same, where the list is no entry of the ledger -/
theorem iter_one_base {σ : Type} {d l : Addr} {o₀ : Obj} {vs : List Value} {rest : List (Addr × Obj)} {m₀ : Str → Option Value} (ob : σ → Obj) (ps : σ → List (Str × Value)) (stored : List Str) (Inv : Nat → σ → Prop) (c₀ : σ)
    (hh : A.handled = none) (F : Fr h₀ env.locals s.heap m₀) (N : News h₀ env.locals s.heap ((d, o₀) :: rest)) (hlo : h₀.IsList l vs.toArray) (ho : o₀ = ob c₀) (hk : ∀ p ∈ ps c₀, m₀ p.1 = some p.2) (hp : Inv 0 c₀)
    (turn : ∀ (c : σ) i v (u : Str → Option Value) h tk own, vs[i]? = some v → OwnOff own [d] → Inv i c → Fr h₀ env.locals h (kstB (fun z => if stored.contains z then u z else m₀ z) (ps c)) → News h₀ env.locals h ((d, ob c) :: own) →
      wpAny (model prog w) A (assign target env v) (fun _ s₃ => wpAny (model prog w) A (execs body env) (InvPostN h₀ env.locals (St1 (fun c => [(d, ob c)]) ps stored m₀ (Inv (i + 1))) own [d] { s with heap := h, toks := tk } Q) E s₃) E { s with heap := h, toks := tk })
    (done : ∀ (c : σ) (u : Str → Option Value) h tk, Inv vs.length c → Fr h₀ env.locals h (kstB (fun z => if stored.contains z then u z else m₀ z) (ps c)) → News h₀ env.locals h [(d, ob c)] → Q .next { s with heap := h, toks := tk }) :
    wpAny (model prog w) A (pyIter (.ref l)) (fun it s₂ => TurnsAt prog w A h₀ env target body Q E it s₂) E s := by
  subst ho
  obtain ⟨ol, hol, hl2⟩ := id hlo
  have hlt : l < h₀.objs.size := Heap.lt_size hol
  refine iter_list (fun c => [(d, ob c)]) ps stored Inv c₀ hh (hlo.at fun o e => F.keep l o e) (Nat.ne_of_lt (Nat.lt_of_lt_of_le hlt F.above)) ?_ F (fun p hp => N p (by rw [List.mem_singleton.mp hp]; simp)) hk hp turn done
  intro p hp e
  have h1 := (N (d, ob c₀) (by simp)).2.2
  rw [List.mem_singleton.mp hp] at e
  rw [show d = l from e, hol] at h1
  cases h1
/-- no object turns; the list stands in the base -/
theorem iter_zero_base {σ : Type} {l : Addr} {vs : List Value} {m₀ : Str → Option Value} (ps : σ → List (Str × Value)) (stored : List Str) (Inv : Nat → σ → Prop) (c₀ : σ)
    (hh : A.handled = none) (F : Fr h₀ env.locals s.heap m₀) (hlo : h₀.IsList l vs.toArray) (hk : ∀ p ∈ ps c₀, m₀ p.1 = some p.2) (hp : Inv 0 c₀)
    (turn : ∀ (c : σ) i v (u : Str → Option Value) h tk own, vs[i]? = some v → OwnOff own [] → Inv i c → Fr h₀ env.locals h (kstB (fun z => if stored.contains z then u z else m₀ z) (ps c)) → News h₀ env.locals h own →
      wpAny (model prog w) A (assign target env v) (fun _ s₃ => wpAny (model prog w) A (execs body env) (InvPostN h₀ env.locals (St1 (fun _ => []) ps stored m₀ (Inv (i + 1))) own [] { s with heap := h, toks := tk } Q) E s₃) E { s with heap := h, toks := tk })
    (done : ∀ (c : σ) (u : Str → Option Value) h tk, Inv vs.length c → Fr h₀ env.locals h (kstB (fun z => if stored.contains z then u z else m₀ z) (ps c)) → News h₀ env.locals h [] → Q .next { s with heap := h, toks := tk }) :
    wpAny (model prog w) A (pyIter (.ref l)) (fun it s₂ => TurnsAt prog w A h₀ env target body Q E it s₂) E s := by
  obtain ⟨ol, hol, hl2⟩ := id hlo
  have hlt : l < h₀.objs.size := Heap.lt_size hol
  refine iter_list (fun _ => []) ps stored Inv c₀ hh (hlo.at fun o e => F.keep l o e) (Nat.ne_of_lt (Nat.lt_of_lt_of_le hlt F.above)) (fun p hp => nomatch hp) F News.nil hk hp (fun c i v u h tk own a b d e f => turn c i v u h tk own a b d e f) done
end
theorem headAddr {h₀ h : Heap} {L a : Addr} {o : Obj} {r : List (Addr × Obj)} (_N : News h₀ L h ((a, o) :: r)) : ∃ d, d = a := ⟨a, rfl⟩

section
variable {prog : Program} {w : World} {A : Around} {E : Value → Shared → Prop} {s : Shared} {h₀ : Heap} {L l : Addr} {us : List Value} {v : Value} {n : Nat} {news : List (Addr × Obj)}
theorem truthy_snoc {Q : Bool → Shared → Prop} (N : News h₀ L s.heap news) (hm : (l, listOf (us ++ [v]).toArray n) ∈ news) (hz : us.length ≤ 1000000) (h : Q true { s with toks := s.toks + 1 + 1 }) : wpAny (model prog w) A (truthy (.ref l)) Q E s := by
  refine wpAny_truthy_list (items := (us ++ [v]).toArray) ⟨_, (N _ hm).1, rfl, n, rfl⟩ (by simp; omega) ?_
  have e : (!(us ++ [v]).toArray.isEmpty) = true := by simp
  rw [e]; exact h
theorem item_snoc {value slice : Expr} {u : Tok} {Q : Value → Shared → Prop} (N : News h₀ L s.heap news) (hm : (l, listOf (us ++ [v]).toArray n) ∈ news) (hz : us.length ≤ 1000000) (h : Q v s)
    (hs : subscripted slice false (.ref l) (.int (-1) u) = operate [.ref l, .int (-1) u] (getItem (.ref l) (.int (-1) u)) := by with_unfolding_all rfl) :
    wpAny (model prog w) A (subscriptTail value slice (.ref l) (.int (-1) u)) Q E s :=
  have hl : s.heap.IsList l (us ++ [v]).toArray := ⟨_, (N _ hm).1, rfl, n, rfl⟩
  tail_any hl.typeIs slot_list_getitem.lookup (wpAny_getItem_list_neg hl (by omega) (by simp; omega) (by omega) (by
    have e : ((-1 : Int) + ((us ++ [v]).toArray.size : Nat)).toNat = us.length := by simp; omega
    rw [e]; simp) h) hs
theorem kl_last_snoc : kl_last (us ++ [v]) = some (us, v) := by
  induction us with
  | nil => rfl
  | cons a r ih => rw [List.cons_append, kl_last, ih]
theorem kl_last_snoc' : kl_last ((us ++ [v]).toArray).toList = some (us, v) := kl_last_snoc
end

theorem code_pureC {w : World} {K : Frag} {A₀ A : Around} {base h₀ : Heap} {outer : List Env} {env : Env} {L : Addr} {m : Str → Option Value} {s : Shared} {p : Program} {loose : List Str} {mean : ExcName → Option Value} {mg mb : Str → Option Value}
    {Q : Value → Shared → Prop} {name qual : Str} {params : Arguments} {body : List Stmt} {scope : Scope} {dV kV doc pm cdv ct oc : Value} {an od : Option Addr} {osl : Array (Option Value)} {f : Addr} {args : List Value} {binds : List (Str × Value)}
    (B : Below A₀ base outer h₀) (F : Fr h₀ L s.heap m) (X₀ : K.In h₀) (T : Top p loose mean mg mb h₀) (hA : A.frames = some (env :: outer)) (hf : env.frame = some L) (hke : env.scope.kind = .function)
    (ho : K.lookup f = some ⟨oc, od, .func (fnOf name qual params body scope dV kV doc pm an cdv ct), osl⟩) (hcd : codeIn K cdv qual = true) (hroom : A.depth < recursionLimit)
    (hbind : BindsTo s (fnOf name qual params body scope dV kV doc pm an cdv ct) ⟨args, []⟩ binds)
    (hkind : (binds.all fun y => scope.names.lookup y.1 == some .local || scope.names.lookup y.1 == some .cell) = true) (hnd : ((cellsFrom 0 scope.names []).map (·.1)).Nodup)
    (h : ∀ L' h₁ tk cells, Fr s.heap L' h₁ (bindL (envOfC qual scope L' f cdv).kindOf binds fun _ => none) → News s.heap L' h₁ cells → CellsAre (bindC (envOfC qual scope L' f cdv).kindOf binds fun _ => none) (cellsFrom (L' + 1) scope.names []) cells →
      Below A base (env :: outer) s.heap → K.In s.heap → Top p loose mean mg mb s.heap →
      wpAny (model PySem.Challenge.rw_ik0166_01.row.prog w) (A.deeper (envOfC qual scope L' f cdv)) (execs body (envOfC qual scope L' f cdv))
        (fun fl s' => Q (match fl with | .ret v => v | _ => .none) s') (fun _ _ => False)
        { s with heap := h₁, toks := tk })
    (hco : scope.isCoroutine = false) (hgen : scope.isGenerator = false) (hk : scope.kind = .function) : wpAny (model PySem.Challenge.rw_ik0166_01.row.prog w) A (call (.ref f) args) Q (fun _ _ => False) s := by
  have KS := X₀.keeps F.keep
  have TS := T.keeps F.keep
  have B₁ := pushX B F hf hke
  refine wpAny_call (codeAny_call_function hroom (KS _ _ ho) rfl hco hgen rfl (codeRec_of KS hcd) (hbind _ _ _ _ ?_))
  refine wpAny_newFunctionEnv_cells hk (kindsX hkind _) fun env' he s' x => ?_
  subst he
  refine ⟨TS.nolimit.keeps x.toInCall.keep, codeAny_func ?_⟩
  obtain ⟨h₁, tk, rfl, _⟩ := x.done
  obtain ⟨cells, NC, Y⟩ := Cl.news (h₀ := s.heap) (Nat.le_refl _) fun n c hm => ⟨x.cell n c (lookup_of_mem_nodup (cellsFrom_names scope.names 0 (s.heap.objs.size + 1) [] [] rfl ▸ hnd) hm), x.above n c hm⟩
  exact wpAny_mono (h s.heap.objs.size h₁ tk cells ⟨x.toInCall.ns, x.toInCall.keep, Nat.le_refl _⟩ NC Y ⟨hA, B₁.stays, B₁.frames⟩ KS TS) (fun fl s' hl => hl) fun _ _ x => x.elim

theorem peek1_push {α : Type} {K : Frag} {M : Model} {A : Around} {E : Value → Shared → Prop} {Q : α → Shared → Prop} {s : Shared} {o : Obj} {r : Addr → α} (X : K.In s.heap)
    (q : Q (r s.heap.objs.size) { s with heap := s.heap.push o }) :
    ∀ (t : Sem α) (g : Addr → Option α), peek1 K ⟨M.prog, M.w.params⟩ t = some (o, g) → (∀ D, g D = some (r D)) → wpAny M A t Q E s := by
  intro t
  induction t with
  | rule _ k ih => exact fun g e hg Γ p hΓ => ih () g e hg Γ p hΓ
  | point _ k ih => exact fun g e hg Γ p hΓ => ih () g e hg Γ p hΓ
  | ask k ih => exact fun g e hg Γ p hΓ => ih _ g e hg Γ p hΓ
  | load a _ k ih =>
    intro g e hg Γ p hΓ
    unfold peek1 at e
    cases hl : K.lookup a with
    | none => rw [hl] at e; cases e
    | some ob => rw [hl] at e; exact ⟨ob, X _ _ hl, ih ob g e hg Γ p hΓ⟩
  | alloc ob k _ =>
    intro g e hg
    have e' : some (ob, fun D => peek K ⟨M.prog, M.w.params⟩ (k D)) = some (o, g) := e
    obtain ⟨rfl, rfl⟩ := Prod.mk.inj (Option.some.inj e')
    have X' : K.In (s.heap.push ob) := X.keeps fun b x hb => Heap.get?_push_of_some _ hb
    show wpAny M A (alloc ob >>= k) Q E s
    exact wpAny_bind (wpAny_alloc ((Looks.of_peek (M := M) (h := s.heap.push ob) X' (hg s.heap.objs.size)).here (s := { s with heap := s.heap.push ob }) q))
  | _ => intro g e; cases e

theorem code_pureV {w : World} {K : Frag} {A₀ A : Around} {base h₀ : Heap} {outer : List Env} {env : Env} {L : Addr} {m : Str → Option Value} {s : Shared} {p : Program} {loose : List Str} {mean : ExcName → Option Value} {mg mb : Str → Option Value}
    {Q : Value → Shared → Prop} {name qual : Str} {params : Arguments} {body : List Stmt} {scope : Scope} {dV kV doc pm cdv ct oc : Value} {an od : Option Addr} {osl : Array (Option Value)} {f : Addr} {args vs : List Value} {g₁ : Addr → Option (List (Str × Value))} {binds : Addr → List (Str × Value)}
    (B : Below A₀ base outer h₀) (F : Fr h₀ L s.heap m) (X₀ : K.In h₀) (T : Top p loose mean mg mb h₀) (hA : A.frames = some (env :: outer)) (hf : env.frame = some L) (hke : env.scope.kind = .function)
    (ho : K.lookup f = some ⟨oc, od, .func (fnOf name qual params body scope dV kV doc pm an cdv ct), osl⟩) (hcd : codeIn K cdv qual = true) (hroom : A.depth < recursionLimit)
    (_hv : args.drop (params.posonlyargs.length + params.args.length) = vs)
    (hp : peek1 K ⟨PySem.Challenge.rw_ik0166_01.row.prog, w.params⟩ (bindArgs (fnOf name qual params body scope dV kV doc pm an cdv ct) ⟨args, []⟩) = some (({ cls := .type "tuple", data := .seq vs.toArray } : Obj), g₁))
    (hg : ∀ D, g₁ D = some (binds D)) (hloc : ∀ D, ∀ y ∈ binds D, scope.names.lookup y.1 = some .local)
    (h : ∀ D L' h₁, Fr s.heap L' h₁ (fun y => (binds D).reverse.lookup y) → News s.heap L' h₁ [(D, ({ cls := .type "tuple", data := .seq vs.toArray } : Obj))] → Below A base (env :: outer) s.heap → K.In s.heap → Top p loose mean mg mb s.heap →
      wpAny (model PySem.Challenge.rw_ik0166_01.row.prog w) (A.deeper (envOf qual scope L' f cdv)) (execs body (envOf qual scope L' f cdv))
        (fun fl s' => Q (match fl with | .ret v => v | _ => .none) s') (fun _ _ => False)
        { s with heap := h₁, toks := s.toks + (binds D).length })
    (hco : scope.isCoroutine = false) (hgen : scope.isGenerator = false) (hk : scope.kind = .function)
    (hcell : ∀ x ∈ scope.names, x.2 ≠ .cell) : wpAny (model PySem.Challenge.rw_ik0166_01.row.prog w) A (call (.ref f) args) Q (fun _ _ => False) s := by
  have KS := X₀.keeps F.keep
  have TS := T.keeps F.keep
  have B₁ := pushX B F hf hke
  refine wpAny_call (codeAny_call_function hroom (KS _ _ ho) rfl hco hgen rfl (codeRec_of KS hcd) ?_)
  have old : ∀ b x, s.heap.get? b = some x → (s.heap.push ({ cls := .type "tuple", data := .seq vs.toArray } : Obj)).get? b = some x := fun b x e => Heap.get?_push_of_some _ e
  refine peek1_push (M := model PySem.Challenge.rw_ik0166_01.row.prog w) (o := ({ cls := .type "tuple", data := .seq vs.toArray } : Obj)) (r := binds) KS ?_ _ g₁ hp hg
  refine wpAny_newFunctionEnv hcell (hloc _) (fun h₁ hns hsb => ?_) hk
  have up : ∀ b x, s.heap.get? b = some x → h₁.get? b = some x := fun b x e => hsb.extBut b x (Nat.ne_of_lt (Heap.lt_size (old b x e))) (Heap.get?_push_of_some _ (old b x e))
  refine ⟨(TS.nolimit.keeps up), codeAny_func ?_⟩
  have hD : (s.heap.push ({ cls := .type "tuple", data := .seq vs.toArray } : Obj)).get? s.heap.objs.size = some { cls := .type "tuple", data := .seq vs.toArray } := Heap.get?_push_size _ rfl
  refine wpAny_mono (h s.heap.objs.size (s.heap.push _).objs.size h₁ ⟨hns, up, by rw [Heap.size_push]; exact Nat.le_succ _⟩ (fun p hp => ?_) ⟨hA, B₁.stays, B₁.frames⟩ KS TS) (fun fl s' hl => hl) fun _ _ x => x.elim
  rw [List.mem_singleton.mp hp]
  refine ⟨hsb.extBut _ _ (Nat.ne_of_lt (Heap.lt_size hD)) (Heap.get?_push_of_some _ hD), Nat.ne_of_lt (Heap.lt_size hD), ?_⟩
  cases e : s.heap.get? s.heap.objs.size with
  | none => rfl
  | some x => exact absurd (Heap.lt_size e) (Nat.lt_irrefl _)

theorem tup2_end {g h : Heap} {L D : Addr} {a b : Str} {t u : Tok} {news : List (Addr × Obj)} (N : News g L h ((D, ({ cls := .type "tuple", data := .seq #[.str a t, .str b u] } : Obj)) :: news)) : Tup2 a b g h (.ref D) :=
  ⟨D, t, u, rfl, fun p hp => by rw [List.mem_singleton.mp hp]; exact ⟨(N _ (.head _)).1, (N _ (.head _)).2.2⟩⟩

section
variable {prog : Program} {w : World} {A : Around} {E : Value → Shared → Prop} {s : Shared} {env : Env} {h₀ : Heap} {target : Expr} {body : List Stmt} {Q : Flow → Shared → Prop}

/-- the end of a turn of a while, the addresses free -/
noncomputable def WhEnd {σ : Type} (h₀ : Heap) (L : Addr) (Led : σ → List (Addr × Obj)) (ps : σ → List (Str × Value)) (stored : List Str) (m₀ : Str → Option Value) (Inv : σ → Prop) (s : Shared) (s₃ : Shared) : Prop :=
  ∃ h' tk' m' c', s₃ = { s with heap := h', toks := tk' } ∧ Fr h₀ L h' m' ∧ News h₀ L h' (Led c') ∧ (∀ p ∈ ps c', m' p.1 = some p.2) ∧ (∀ z, (∀ p ∈ ps c', z ≠ p.1) → stored.contains z = false → m' z = m₀ z) ∧ Inv c'
noncomputable def WhPost {σ : Type} (h₀ : Heap) (L : Addr) (Led : σ → List (Addr × Obj)) (ps : σ → List (Str × Value)) (stored : List Str) (m₀ : Str → Option Value) (Inv : σ → Prop) (Q : Flow → Shared → Prop) (s : Shared) (f : Flow) (s₃ : Shared) : Prop :=
  match f with
  | .ret v => Q (.ret v) s₃
  | .brk => Q .next s₃
  | _ => WhEnd h₀ L Led ps stored m₀ Inv s s₃
theorem wh_end {σ : Type} {L : Addr} {Led : σ → List (Addr × Obj)} {ps : σ → List (Str × Value)} {stored : List Str} {m₀ : Str → Option Value} {Inv : σ → Prop} {s : Shared} (c' : σ) {h' : Heap} {tk' : Nat} {m' : Str → Option Value}
    (F : Fr h₀ L h' m') (N : News h₀ L h' (Led c')) (hk : ∀ p ∈ ps c', m' p.1 = some p.2) (hr : ∀ z, (∀ p ∈ ps c', z ≠ p.1) → stored.contains z = false → m' z = m₀ z) (hi : Inv c') :
    WhEnd h₀ L Led ps stored m₀ Inv s { s with heap := h', toks := tk' } := ⟨h', tk', m', c', rfl, F, N, hk, hr, hi⟩

theorem while_st {σ : Type} {test : Expr} {pos : Pos} {m₀ : Str → Option Value} (Led : σ → List (Addr × Obj)) (ps : σ → List (Str × Value)) (stored : List Str) (Inv : σ → Prop) (meas : σ → Nat) (c₀ : σ)
    (F : Fr h₀ env.locals s.heap m₀) (N : News h₀ env.locals s.heap (Led c₀)) (hk : ∀ p ∈ ps c₀, m₀ p.1 = some p.2) (hp : Inv c₀)
    (turn : ∀ (c : σ) (u : Str → Option Value) h tk, Inv c → Fr h₀ env.locals h (kstB (fun z => if stored.contains z then u z else m₀ z) (ps c)) → News h₀ env.locals h (Led c) →
      wpAny (model prog w) A (isTrue test env (eval test env)) (fun b s₂ => if b = true then wpAny (model prog w) A (execs body env) (WhPost h₀ env.locals Led ps stored m₀ (fun c' => Inv c' ∧ meas c' < meas c) Q s) E s₂ else Q .next s₂) E { s with heap := h, toks := tk })
    (hE : PassesOwn (model prog w) A env E := by passes_own) :
    wpAny (model prog w) A (exec (.While test body [] pos) env) Q E s := by
  refine wpAny_While (codeAny_whileLoop (R := fun r s' => match r with | .ok f => Q f s' | .error e => cameBackBy (model prog w) A env E e s')
    (fun n s' => ∃ h tk m c, s' = { s with heap := h, toks := tk } ∧ Fr h₀ env.locals h m ∧ News h₀ env.locals h (Led c) ∧ (∀ p ∈ ps c, m p.1 = some p.2) ∧ (∀ z, (∀ p ∈ ps c, z ≠ p.1) → stored.contains z = false → m z = m₀ z) ∧ Inv c ∧ n = meas c) ?_ (meas c₀)
    ⟨s.heap, s.toks, m₀, c₀, rfl, F, N, hk, fun _ _ _ => rfl, hp, rfl⟩)
  rintro n s' ⟨h, tk, m, c, rfl, F', N', h1, h2, hI, rfl⟩
  refine wpAny_mono (wpAny_passesOwn hE (turn c m h tk hI (st1_fr h1 h2 F') N')) (fun b s₂ hb => ?_) fun _ _ x => x
  cases b with
  | true =>
    simp only [if_true] at hb ⊢
    refine wpAny_mono (wpAny_passesOwn hE hb) (fun f s₃ hf => ?_) fun _ _ x => x
    cases f with
    | ret v => exact hf
    | brk => exact hf
    | next => obtain ⟨h', tk', m', c', rfl, F3, N3, k3, r3, i3, l3⟩ := hf; exact ⟨_, l3, h', tk', m', c', rfl, F3, N3, k3, r3, i3, rfl⟩
    | cont => obtain ⟨h', tk', m', c', rfl, F3, N3, k3, r3, i3, l3⟩ := hf; exact ⟨_, l3, h', tk', m', c', rfl, F3, N3, k3, r3, i3, rfl⟩
  | false =>
    simp only [Bool.false_eq_true, if_false] at hb ⊢
    exact wpAny_execs_nil hb

/-- a for whose turns may make new objects of the state's own: the iterator's and the list's entries stand behind, in own -/
noncomputable def FoEnd {σ : Type} (h₀ : Heap) (L : Addr) (Led : σ → List (Addr × Obj)) (ps : σ → List (Str × Value)) (stored : List Str) (m₀ : Str → Option Value) (Inv : σ → Prop) (own : List (Addr × Obj)) (s : Shared) (s₃ : Shared) : Prop :=
  ∃ h' tk' m' c', s₃ = { s with heap := h', toks := tk' } ∧ Fr h₀ L h' m' ∧ News h₀ L h' (Led c' ++ own) ∧ (∀ p ∈ Led c', ∀ q ∈ own, p.1 ≠ q.1) ∧ (∀ p ∈ ps c', m' p.1 = some p.2) ∧ (∀ z, (∀ p ∈ ps c', z ≠ p.1) → stored.contains z = false → m' z = m₀ z) ∧ Inv c'
noncomputable def FoPost {σ : Type} (h₀ : Heap) (L : Addr) (Led : σ → List (Addr × Obj)) (ps : σ → List (Str × Value)) (stored : List Str) (m₀ : Str → Option Value) (Inv : σ → Prop) (own : List (Addr × Obj)) (Q : Flow → Shared → Prop) (s : Shared) (f : Flow) (s₃ : Shared) : Prop :=
  match f with
  | .ret v => Q (.ret v) s₃
  | .brk => Q .next s₃
  | _ => FoEnd h₀ L Led ps stored m₀ Inv own s s₃
theorem fo_end {σ : Type} {L : Addr} {Led : σ → List (Addr × Obj)} {ps : σ → List (Str × Value)} {stored : List Str} {m₀ : Str → Option Value} {Inv : σ → Prop} {own : List (Addr × Obj)} {s : Shared} (c' : σ) {h' : Heap} {tk' : Nat} {m' : Str → Option Value}
    (F : Fr h₀ L h' m') (N : News h₀ L h' (Led c' ++ own)) (ho : ∀ p ∈ Led c', ∀ q ∈ own, p.1 ≠ q.1) (hk : ∀ p ∈ ps c', m' p.1 = some p.2) (hr : ∀ z, (∀ p ∈ ps c', z ≠ p.1) → stored.contains z = false → m' z = m₀ z) (hi : Inv c') :
    FoEnd h₀ L Led ps stored m₀ Inv own s { s with heap := h', toks := tk' } := ⟨h', tk', m', c', rfl, F, N, ho, hk, hr, hi⟩

theorem turns_fo {σ : Type} {I : Addr} {fp wr : List Addr} {n : Nat} {P Md : Nat → Value → Heap → Prop} {St : Nat → Heap → Prop} {m₀ : Str → Option Value} (Led : σ → List (Addr × Obj)) (ps : σ → List (Str × Value)) (stored : List Str) (Inv : Nat → σ → Prop) (c₀ : σ)
    (W : KTurns prog w A target I fp wr n P Md St) (hLf : env.locals ∉ fp) (hwr : ∀ b ∈ wr, h₀.get? b = none) (hlive : ∀ i h, St i h → ∀ b ∈ fp, ∃ o, h.get? b = some o) (hoff : ∀ p ∈ Led c₀, p.1 ∉ fp) (hst : St 0 s.heap) (F : Fr h₀ env.locals s.heap m₀) (N : News h₀ env.locals s.heap (Led c₀)) (hk : ∀ p ∈ ps c₀, m₀ p.1 = some p.2) (hp : Inv 0 c₀)
    (turn : ∀ (c : σ) i v (u : Str → Option Value) h tk own, i < n → P i v h → (∀ p ∈ Led c, ∀ q ∈ own, p.1 ≠ q.1) → Inv i c → Fr h₀ env.locals h (kstB (fun z => if stored.contains z then u z else m₀ z) (ps c)) → News h₀ env.locals h (Led c ++ own) →
      wpAny (model prog w) A (assign target env v) (fun _ s₃ => wpAny (model prog w) A (execs body env) (FoPost h₀ env.locals Led ps stored m₀ (Inv (i + 1)) own Q { s with heap := h, toks := tk }) E s₃) E { s with heap := h, toks := tk })
    (done : ∀ (c : σ) (u : Str → Option Value) h tk, Inv n c → Fr h₀ env.locals h (kstB (fun z => if stored.contains z then u z else m₀ z) (ps c)) → News h₀ env.locals h (Led c) → Q .next { s with heap := h, toks := tk }) :
    TurnsAt prog w A h₀ env target body Q E (.ref I) s := by
  let J : Nat → (Str → Option Value) → List (Addr × Obj) → Prop := fun i m nx => (∀ p ∈ nx, p.1 ∉ fp) ∧ St1 Led ps stored m₀ (Inv i) m nx
  refine ⟨I, fp, wr, n, P, Md, St, m₀, Led c₀, J, rfl, W, hLf, hwr, fun p hp hb => hoff p hp (W.sub _ hb), hst, F, N, ⟨hoff, c₀, rfl, hk, fun _ _ _ => rfl, hp⟩, ?_, ?_⟩
  · rintro i v m₁ news₁ h₁ tk₁ own hin hP ⟨hof, c, rfl, h1, h2, hI⟩ _ hown hget hfp hst₁ F₁ N₁
    have N₂ : News h₀ env.locals h₁ (Led c ++ own) := fun p hp => N₁ p ((List.mem_append.mp hp).elim (fun h => List.mem_append.mpr (.inr h)) fun h => List.mem_append.mpr (.inl h))
    have hsep : ∀ p ∈ Led c, ∀ q ∈ own, p.1 ≠ q.1 := fun p hp q hq e => hof p hp (e ▸ hown q hq)
    have fin : ∀ s₃, FoEnd h₀ env.locals Led ps stored m₀ (Inv (i + 1)) own { s with heap := h₁, toks := tk₁ } s₃ → LoopStepU h₀ env.locals wr own (J (i + 1)) { s with heap := h₁, toks := tk₁ } .next s₃ := by
      rintro s₃ ⟨h', tk, m', c', e, F', N', ho, k', r', i'⟩
      have hoff' : ∀ p ∈ Led c', p.1 ∉ fp := fun p hp hb => by
        have n1 := (N' p (List.mem_append_left _ hp))
        obtain ⟨o, q0⟩ := hlive _ _ hst₁ _ hb
        exact ho p hp (p.1, o) (hfp _ hb n1.2.2 o q0) rfl
      refine ⟨rfl, h', tk, m', Led c', e, F', fun p hp => N' p ((List.mem_append.mp hp).elim (fun h => List.mem_append_right _ h) (fun h => List.mem_append_left _ h)), fun p hp hq => hoff' p hp (W.sub _ hq), hoff', c', rfl, k', r', i'⟩
    refine wpAny_mono (turn c i v m₁ h₁ tk₁ own hin hP hsep hI (st1_fr h1 h2 F₁) N₂) (fun _ s₂ h₂ => wpAny_mono h₂ (fun f s₃ p => ?_) fun _ _ e => e) fun _ _ e => e
    cases f with
    | ret v => exact .ret p
    | brk => exact .brk p
    | next => exact .next (fin _ p)
    | cont => exact .cont (fin _ p)
  · rintro h' tk m' news' F' N' _ ⟨_, c, rfl, h1, h2, hI⟩
    exact done c m' h' tk hI (st1_fr h1 h2 F') N'

theorem fo_base {σ : Type} {l : Addr} {vs : List Value} {m₀ : Str → Option Value} {news : List (Addr × Obj)} (Led : σ → List (Addr × Obj)) (ps : σ → List (Str × Value)) (stored : List Str) (Inv : Nat → σ → Prop) (c₀ : σ)
    (hh : A.handled = none) (F : Fr h₀ env.locals s.heap m₀) (N : News h₀ env.locals s.heap news) (hlo : h₀.IsList l vs.toArray) (hl : ∀ p ∈ Led c₀, p ∈ news) (hk : ∀ p ∈ ps c₀, m₀ p.1 = some p.2) (hp : Inv 0 c₀)
    (turn : ∀ (c : σ) i v (u : Str → Option Value) h tk own, vs[i]? = some v → (∀ p ∈ Led c, ∀ q ∈ own, p.1 ≠ q.1) → Inv i c → Fr h₀ env.locals h (kstB (fun z => if stored.contains z then u z else m₀ z) (ps c)) → News h₀ env.locals h (Led c ++ own) →
      wpAny (model prog w) A (assign target env v) (fun _ s₃ => wpAny (model prog w) A (execs body env) (FoPost h₀ env.locals Led ps stored m₀ (Inv (i + 1)) own Q { s with heap := h, toks := tk }) E s₃) E { s with heap := h, toks := tk })
    (done : ∀ (c : σ) (u : Str → Option Value) h tk, Inv vs.length c → Fr h₀ env.locals h (kstB (fun z => if stored.contains z then u z else m₀ z) (ps c)) → News h₀ env.locals h (Led c) → Q .next { s with heap := h, toks := tk }) :
    wpAny (model prog w) A (pyIter (.ref l)) (fun it s₂ => TurnsAt prog w A h₀ env target body Q E it s₂) E s := by
  obtain ⟨ol, hol, hl2⟩ := id hlo
  have hlt : l < h₀.objs.size := Heap.lt_size hol
  have hls : s.heap.IsList l vs.toArray := hlo.at fun o e => F.keep l o e
  have hlt2 : l < s.heap.objs.size := Heap.lt_size (F.keep _ _ hol)
  refine wpAny_pyIter_list hls ?_
  refine turns_fo Led ps stored Inv c₀ (KTurns.ofWalks (Walks.list hh s.heap.objs.size l (Nat.ne_of_lt hlt2) vs.toArray) fun i v s Q E st q => letGo_listiter st.1 q) ?_ ?_ ?_ ?_ ⟨⟨_, Heap.get?_push_size _ rfl, rfl, rfl⟩, hls.at fun o e => Heap.get?_push_of_some _ e⟩ (F.push _) (fun p hp => ⟨Heap.get?_push_of_some _ (N p (hl p hp)).1, (N p (hl p hp)).2⟩) hk hp ?_ ?_
  · intro hm
    rcases List.mem_cons.mp hm with e | hm
    · exact absurd F.ns.lt (e ▸ Nat.lt_irrefl _)
    · exact absurd (Nat.lt_of_lt_of_le hlt F.above) ((List.mem_singleton.mp hm) ▸ Nat.lt_irrefl _)
  · intro b hb
    rw [List.mem_singleton.mp hb]
    exact next_is_new F
  · rintro i h ⟨⟨oi, hoi, _⟩, ⟨ol', hol', _⟩⟩ b hb
    rcases List.mem_cons.mp hb with rfl | hb
    · exact ⟨_, hoi⟩
    · rw [List.mem_singleton.mp hb]; exact ⟨_, hol'⟩
  · intro p hp hI
    rcases List.mem_cons.mp hI with e | hI
    · exact absurd (Heap.lt_size (N p (hl p hp)).1) (e ▸ Nat.lt_irrefl _)
    · have h1 := (N p (hl p hp)).2.2
      rw [List.mem_singleton.mp hI, hol] at h1
      cases h1
  · intro c i v u h tk own hi hP ho hI F₁ N₁
    exact turn c i v u h tk own (by simpa using hP) ho hI F₁ N₁
  · intro c u h tk hI F₁ N₁
    exact done c u h tk (by simpa using hI) F₁ N₁
end

theorem item_last_base {prog : Program} {w : World} {A : Around} {E : Value → Shared → Prop} {s : Shared} {h₀ : Heap} {L l : Addr} {m : Str → Option Value} {vs : List Value} {v : Value} {value slice : Expr} {u : Tok} {Q : Value → Shared → Prop} (F : Fr h₀ L s.heap m) (hl : h₀.IsList l vs.toArray)
    (hx : vs[vs.length - 1]? = some v) (hz : 1 ≤ vs.length ∧ vs.length ≤ 1000000) (h : Q v s)
    (hs : subscripted slice false (.ref l) (.int (-1) u) = operate [.ref l, .int (-1) u] (getItem (.ref l) (.int (-1) u)) := by with_unfolding_all rfl) :
    wpAny (model prog w) A (subscriptTail value slice (.ref l) (.int (-1) u)) Q E s :=
  have hl' : s.heap.IsList l vs.toArray := hl.at fun o e => F.keep l o e
  tail_any hl'.typeIs slot_list_getitem.lookup (wpAny_getItem_list_neg hl' (by omega) (by simp; omega) (by omega) (by
    have e : ((-1 : Int) + (vs.toArray.size : Nat)).toNat = vs.length - 1 := by simp; omega
    rw [e]; simpa using hx) h) hs

section
variable {prog : Program} {w : World} {A : Around} {E : Value → Shared → Prop} {s : Shared} {env : Env} {h₀ : Heap} {L : Addr} {m : Str → Option Value} {news : List (Addr × Obj)} {Q : Value → Shared → Prop}
noncomputable def CompElt (prog : Program) (w : World) (A : Around) (env : Env) (elt : Expr) (x : Str) (scope : Scope) (cl : List (Str × Addr)) (Fel : Value → Value → Prop) (vs : List Value) (s₁ : Shared) : Prop :=
  ∀ C v s₃ m₃ E', v ∈ vs → s₃.heap.Ns (compEnvC scope cl C env).locals m₃ → m₃ x = some v → (∀ b o, s₁.heap.get? b = some o → s₃.heap.get? b = some o) → wpAny (model prog w) A (eval elt (compEnvC scope cl C env)) (fun y s₄ => Fel v y ∧ Keeps s₃ s₄) E' s₃
noncomputable def CompRet (h₀ : Heap) (L : Addr) (m : Str → Option Value) (news : List (Addr × Obj)) (Fel : Value → Value → Prop) (vs : List Value) (Q : Value → Shared → Prop) (s₁ : Shared) : Prop :=
  ∀ (D : Addr) (ys : List Value) (n : Nat) (h' : Heap) (tk : Nat), Fr h₀ L h' m → News h₀ L h' ((D, ({ cls := .type "list", data := .seq ys.toArray n } : Obj)) :: news) → (∀ p ∈ news, p.1 ≠ D) → Paired Fel vs ys → Q (.ref D) { s₁ with heap := h', toks := tk }
noncomputable def CompSeq (prog : Program) (w : World) (A : Around) (h₀ : Heap) (L : Addr) (m : Str → Option Value) (env : Env) (elt : Expr) (x : Str) (scope : Scope) (cl : List (Str × Addr)) (Fel : Value → Value → Prop) (Q : Value → Shared → Prop) (xv : Value) (s₁ : Shared) : Prop :=
  ∃ (l : Addr) (vs : List Value) (news : List (Addr × Obj)), xv = .ref l ∧ (s₁.heap.IsTuple l vs.toArray ∨ s₁.heap.IsList l vs.toArray) ∧ vs.length ≤ sizeLine ∧ A.handled = none ∧ Fr h₀ L s₁.heap m ∧ News h₀ L s₁.heap news ∧
    CompElt prog w A env elt x scope cl Fel vs s₁ ∧ CompRet h₀ L m news Fel vs Q s₁

theorem paired_all {Fel : Value → Value → Prop} {l r : List Value} (h : Paired Fel (l.filter fun _ => true) r) : Paired Fel l r := by
  rwa [List.filter_eq_self.mpr (fun _ _ => rfl)] at h

theorem comp_seq {elt iter : Expr} {x : Str} {px : Pos} {scope : Scope} {cl : List (Str × Addr)} {pos : Pos} (_F₀ : Fr h₀ L s.heap m) (Fel : Value → Value → Prop)
    (hclos : closureFor scope env = pure cl) (hcell : ∀ y ∈ scope.names, y.2 ≠ .cell) (hkind : scope.kind = .function)
    (hnames : ∀ y ∈ scope.names, y.2 = .local → scope.names.lookup y.1 = some .local) (hx : scope.names.lookup x = some .local)
    (h : wpAny (model prog w) A (eval iter env) (CompSeq prog w A h₀ L m env elt x scope cl Fel Q) E s)
    (hs : ∀ x, foldedSetIterable iter env x = pure x) :
    wpAny (model prog w) A (eval (.ListComp elt [⟨.Name x px, iter, [], 0⟩] scope pos) env) Q E s := by
  refine wpAny_ListComp_free (fun _ => true) Fel hclos hcell hkind hnames hx (wpAny_mono h (fun xv s₁ h₁ => ?_) fun _ _ e => e) hs
  obtain ⟨l, vs, news, rfl, hl, hsz, hh, F, N, hel, hret⟩ := h₁
  have fin : ∀ (I : Addr) (o : Obj) (St : Nat → Heap → Prop), I = s₁.heap.objs.size → (Walks prog w A I [I, l] [I] vs.toArray.size (fun i v => vs.toArray[i]? = some v) St) → l < s₁.heap.objs.size → St 0 (s₁.heap.push o) →
      (fun (it : Value) (s₂ : Shared) => ∃ I fp wr n P St, it = Value.ref I ∧ Walks prog w A I fp wr n P St ∧ n ≤ sizeLine ∧ St 0 s₂.heap ∧ (∀ b ∈ fp, b < s₂.heap.objs.size) ∧
        QuietOnC prog w A env scope cl x [] elt wr P (fun _ => true) Fel s₂ ∧
        (∀ D h' tk ys (vs : List Value), s₂.heap.get? D = none → h'.IsList D ys → h'.PlainList D ys → vs.length = n → (∀ j v, vs[j]? = some v → P j v) → Paired Fel (vs.filter fun _ => true) ys.toList →
          (∀ b o, b ∉ wr → s₂.heap.get? b = some o → h'.get? b = some o) → Q (.ref D) { s₂ with heap := h', toks := tk })) (Value.ref I) { s₁ with heap := s₁.heap.push o } := by
    intro I o St hI W hlt hst
    subst hI
    have up : ∀ b x, s₁.heap.get? b = some x → (s₁.heap.push o).get? b = some x := fun b x e => Heap.get?_push_of_some _ e
    have off : ∀ b x, s₁.heap.get? b = some x → b ∉ [s₁.heap.objs.size] := fun b x e hm => absurd (Heap.lt_size e) ((List.mem_singleton.mp hm) ▸ Nat.lt_irrefl _)
    refine ⟨_, _, _, _, _, St, rfl, W, by simpa using hsz, hst, ?_, ⟨?_, ?_⟩, ?_⟩
    · intro b hb
      show b < (s₁.heap.push o).objs.size
      rw [Heap.size_push]
      rcases List.mem_cons.mp hb with rfl | hb
      · exact Nat.lt_succ_self _
      · rw [List.mem_singleton.mp hb]; exact Nat.lt_succ_of_lt hlt
    · intro C i v s₃ m₃ E' _ _ _ _ _ _
      exact wpAny_pure ⟨rfl, _, _, rfl, fun _ _ e => e⟩
    · intro C i v s₃ m₃ E' _ hP _ hn hm hk _
      have hv : vs[i]? = some v := by simpa using hP
      exact hel C v s₃ m₃ E' (List.mem_of_getElem? hv) hn hm fun b x e => hk b x (off b x e) (up b x e)
    · intro D h' tk ys us hD _ hpl hlen hPs hpair hk
      have hus : us = vs := by
        apply List.ext_getElem?
        intro j
        by_cases hj : j < us.length
        · have e1 := hPs j us[j] (by simp [hj])
          rw [List.getElem?_eq_getElem hj]
          simpa using e1.symm
        · rw [List.getElem?_eq_none (by omega), List.getElem?_eq_none (by simp at hlen; omega)]
      subst hus
      obtain ⟨n, hn⟩ := hpl
      have keep : ∀ b x, s₁.heap.get? b = some x → h'.get? b = some x := fun b x e => hk b x (off b x e) (up b x e)
      have hD1 : s₁.heap.get? D = none := by
        cases e : s₁.heap.get? D with
        | none => rfl
        | some x => rw [up D x e] at hD; cases hD
      refine hret D ys.toList n h' tk (F.kept keep) ?_ (fun p hp e => ?_) (paired_all hpair)
      · intro p hp
        rcases List.mem_cons.mp hp with rfl | hp
        · refine ⟨by simpa using hn, fun e => ?_, ?_⟩
          · obtain ⟨_, _, _, hL, _⟩ := F.ns
            rw [show D = L from e, hL] at hD1; cases hD1
          · cases e : h₀.get? D with
            | none => rfl
            | some x => rw [F.keep D x e] at hD1; cases hD1
        · exact (N.keepsAll keep) p hp
      · have := (N p hp).1
        rw [e, hD1] at this; cases this
  rcases hl with hl | hl
  · obtain ⟨ol, hol, hl2⟩ := id hl
    have hlt : l < s₁.heap.objs.size := Heap.lt_size hol
    exact wpAny_pyIter_tuple hl (fin _ _ _ rfl (Walks.tuple hh _ l (Nat.ne_of_lt hlt) vs.toArray) hlt ⟨⟨_, Heap.get?_push_size _ rfl, rfl, rfl⟩, hl.at fun o e => Heap.get?_push_of_some _ e⟩)
  · obtain ⟨ol, hol, hl2⟩ := id hl
    have hlt : l < s₁.heap.objs.size := Heap.lt_size hol
    exact wpAny_pyIter_list hl (fin _ _ _ rfl (Walks.list hh _ l (Nat.ne_of_lt hlt) vs.toArray) hlt ⟨⟨_, Heap.get?_push_size _ rfl, rfl, rfl⟩, hl.at fun o e => Heap.get?_push_of_some _ e⟩)
end

/-- a written tuple of texts at an open place: one text in the place of the cases -/
theorem item_menu {prog : Program} {w : World} {A : Around} {E : Value → Shared → Prop} {s : Shared} {h₀ : Heap} {L D : Addr} {vs : List Value} {ws : List Str} {B : Nat} {k : Int} {u : Tok} {news : List (Addr × Obj)} {value slice : Expr} {Q : Value → Shared → Prop} (N : News h₀ L s.heap news)
    (hm : (D, ({ cls := .type "tuple", data := .seq vs.toArray } : Obj)) ∈ news) (hw : StrsAre vs ws) (h0 : 0 ≤ k) (h1 : k < (ws.length : Int)) (hB : ws.length ≤ 100 ∧ (ws.all fun x => decide (x.length ≤ B)) = true) (h : ∀ S T, S = ws.getD k.toNat Str.empty → S.length ≤ B → Q (.str S T) s)
    (hs : subscripted slice false (.ref D) (.int k u) = operate [.ref D, .int k u] (getItem (.ref D) (.int k u)) := by with_unfolding_all rfl) :
    wpAny (model prog w) A (subscriptTail value slice (.ref D) (.int k u)) Q E s := by
  refine KTb.item_tup (vs := vs) ⟨_, (N _ hm).1, rfl, _, rfl⟩ hw h0 h1 (by omega) (fun t' hlt => h _ t' rfl ?_) hs
  have hg : ws.getD k.toNat Str.empty = ws[k.toNat] := by rw [List.getD_eq_getElem?_getD, List.getElem?_eq_getElem hlt]; rfl
  rw [hg]
  exact of_decide_eq_true (List.all_eq_true.mp hB.2 _ (List.getElem_mem hlt))
section
variable {M : Model} {A : Around} {E : Value → Shared → Prop} {s : Shared} {h₀ : Heap} {L a : Addr} {m : Str → Option Value} {cn : Str} {cs : Scope} {ccd : Value} {cl : List (Str × Addr)} {x : Str} {Q : Unit → Shared → Prop} {news : List (Addr × Obj)}
theorem store_i {n : Int} {t : Tok} (F : Fr h₀ L s.heap m) (N : News h₀ L s.heap news)
    (h : ∀ t' tk' h', Fr h₀ L h' (fun y => if y = x then some (.int n t') else m y) → News h₀ L h' news → Q () { s with heap := h', toks := tk' })
    (hk : cs.kind = .function) (hx : (envX cn cs L a ccd cl).kindOf x = some .local) : wpAny M A (storeName (envX cn cs L a ccd cl) x (.int n t)) Q E s := storeX_L F N (h _ _) hk hx
theorem store_s {n : Str} {t : Tok} (F : Fr h₀ L s.heap m) (N : News h₀ L s.heap news)
    (h : ∀ t' tk' h', Fr h₀ L h' (fun y => if y = x then some (.str n t') else m y) → News h₀ L h' news → Q () { s with heap := h', toks := tk' })
    (hk : cs.kind = .function) (hx : (envX cn cs L a ccd cl).kindOf x = some .local) : wpAny M A (storeName (envX cn cs L a ccd cl) x (.str n t)) Q E s := storeX_L F N (h _ _) hk hx
theorem store_v {v : Value} (F : Fr h₀ L s.heap m) (N : News h₀ L s.heap news)
    (h : ∀ tk' h', Fr h₀ L h' (fun y => if y = x then some v else m y) → News h₀ L h' news → Q () { s with heap := h', toks := tk' })
    (hk : cs.kind = .function) (hx : (envX cn cs L a ccd cl).kindOf x = some .local) : wpAny M A (storeName (envX cn cs L a ccd cl) x v) Q E s := storeX_L F N (h _) hk hx
end
section
variable {w : World} {f : Addr} {args : List Value} {D : Nat} {Pre : Heap → Prop}
    {mean : ExcName → Option Value} {mg mb : Str → Option Value} {dp un : Nat} {gd : Option (List Code)} {cn : Str} {cs : Scope} {a : Addr} {ccd : Value} {cl : List (Str × Addr)} {outer : List Env} {A₀ : Around} {base h₀ : Heap} {L : Addr}
    {m : Str → Option Value} {s : Shared} {news : List (Addr × Obj)} {Q E : Value → Shared → Prop}
theorem con_useV {v : Value} (C : Con w f args D Pre (fun _ _ r => r = v)) (B : Below A₀ base outer h₀) (F : Fr h₀ L s.heap m) (X : (K w.params).In h₀) (N : News h₀ L s.heap news) (T : Top view (looseW view [Str.ofString "_filemode_table"]) mean mg mb h₀) (hk : cs.kind = .function) (hd : dp + D < recursionLimit) (hu : un + 8 * D < cLine)
    (hp : Pre s.heap) (h : ∀ h' tk', Fr h₀ L h' m → News h₀ L h' news → Q v { s with heap := h', toks := tk' }) :
    wpAny (model PySem.Challenge.rw_ik0166_01.row.prog w) (ktrTop dp un gd cn cs L a ccd cl outer) (call (.ref f) args) Q E s :=
  con_use C B F X N T hk hd hu hp fun r h' tk' F' N' _ P => by subst P; exact h h' tk' F' N'
theorem con_useE {g : Tok → Value} (C : Con w f args D Pre (fun _ _ r => ∃ t, r = g t)) (B : Below A₀ base outer h₀) (F : Fr h₀ L s.heap m) (X : (K w.params).In h₀) (N : News h₀ L s.heap news) (T : Top view (looseW view [Str.ofString "_filemode_table"]) mean mg mb h₀) (hk : cs.kind = .function) (hd : dp + D < recursionLimit) (hu : un + 8 * D < cLine)
    (hp : Pre s.heap) (h : ∀ t h' tk', Fr h₀ L h' m → News h₀ L h' news → Q (g t) { s with heap := h', toks := tk' }) :
    wpAny (model PySem.Challenge.rw_ik0166_01.row.prog w) (ktrTop dp un gd cn cs L a ccd cl outer) (call (.ref f) args) Q E s :=
  con_use C B F X N T hk hd hu hp fun r h' tk' F' N' _ P => by obtain ⟨t, rfl⟩ := P; exact h t h' tk' F' N'
theorem con_use2 {x y : Str} (C : Con w f args D Pre (Tup2 x y)) (B : Below A₀ base outer h₀) (F : Fr h₀ L s.heap m) (X : (K w.params).In h₀) (N : News h₀ L s.heap news) (T : Top view (looseW view [Str.ofString "_filemode_table"]) mean mg mb h₀) (hk : cs.kind = .function) (hd : dp + D < recursionLimit) (hu : un + 8 * D < cLine)
    (hp : Pre s.heap) (h : ∀ D t u h' tk', Fr h₀ L h' m → News h₀ L h' ((D, { cls := .type "tuple", data := .seq #[.str x t, .str y u] }) :: news) → Q (.ref D) { s with heap := h', toks := tk' }) :
    wpAny (model PySem.Challenge.rw_ik0166_01.row.prog w) (ktrTop dp un gd cn cs L a ccd cl outer) (call (.ref f) args) Q E s :=
  con_use C B F X N T hk hd hu hp fun r h' tk' F' N' _ P => by obtain ⟨D, t, u, rfl, P⟩ := P; exact h D t u h' tk' F' (fresh_news F N' P)
theorem con_use3 {x y z : Str} (C : Con w f args D Pre (Tup3 x y z)) (B : Below A₀ base outer h₀) (F : Fr h₀ L s.heap m) (X : (K w.params).In h₀) (N : News h₀ L s.heap news) (T : Top view (looseW view [Str.ofString "_filemode_table"]) mean mg mb h₀) (hk : cs.kind = .function) (hd : dp + D < recursionLimit) (hu : un + 8 * D < cLine)
    (hp : Pre s.heap) (h : ∀ D t u v h' tk', Fr h₀ L h' m → News h₀ L h' ((D, { cls := .type "tuple", data := .seq #[.str x t, .str y u, .str z v] }) :: news) → Q (.ref D) { s with heap := h', toks := tk' }) :
    wpAny (model PySem.Challenge.rw_ik0166_01.row.prog w) (ktrTop dp un gd cn cs L a ccd cl outer) (call (.ref f) args) Q E s :=
  con_use C B F X N T hk hd hu hp fun r h' tk' F' N' _ P => by obtain ⟨D, t, u, v, rfl, P⟩ := P; exact h D t u v h' tk' F' (fresh_news F N' P)
end
/-- an int expression of local names, literals, + - * // % **: its value, whatever the tokens -/
inductive IEv (env : Env) (m : Str → Option Value) : Expr → Int → Prop
  | name {x pos n t} : m x = some (.int n t) → env.kindOf x = some .local → (x == ("__debug__" : Str)) = false → IEv env m (.Name x pos) n
  | const {n k pos} : IEv env m (.Constant (.int n) k pos) n
  | add {a b pos i j} : IEv env m a i → IEv env m b j → IEv env m (.BinOp a .Add b pos) (i + j)
  | sub {a b pos i j} : IEv env m a i → IEv env m b j → IEv env m (.BinOp a .Sub b pos) (i - j)
  | mod {a b pos i j} : IEv env m a i → IEv env m b j → (decide (0 < j) && decide (j < 18446744073709551616)) = true → IEv env m (.BinOp a .Mod b pos) (i.fmod j)
  | fdiv {a b pos i j} : IEv env m a i → IEv env m b j → (decide (0 < j) && decide (j < 18446744073709551616)) = true → IEv env m (.BinOp a .FloorDiv b pos) (i.fdiv j)
  | mulR {a b pos i j} : IEv env m a i → IEv env m b j → decide (Builtin.Int.intBits j ≤ 64) = true → IEv env m (.BinOp a .Mult b pos) (i * j)
  | mulL {a b pos i j} : IEv env m a i → IEv env m b j → decide (Builtin.Int.intBits i ≤ 64) = true → IEv env m (.BinOp a .Mult b pos) (i * j)
  | pow {a b pos i j} : IEv env m a i → IEv env m b j → (decide (0 ≤ j) && decide (j ≤ 1000) && decide (i.natAbs < 1000)) = true → IEv env m (.BinOp a .Pow b pos) (i ^ j.toNat)
  | powv {a b pos i j c} : IEv env m a i → IEv env m b j → 0 ≤ j ∧ j ≤ 1000 → i.natAbs < 1000 → i ^ j.toNat = c → IEv env m (.BinOp a .Pow b pos) c
theorem ieval {prog : Program} {w : World} {A : Around} {E : Value → Shared → Prop} {h₀ : Heap} {m : Str → Option Value} {env : Env} {e : Expr} {n : Int} (hk : env.scope.kind = .function) (H : IEv env m e n) :
    ∀ {s : Shared} {Q : Value → Shared → Prop}, Fr h₀ env.locals s.heap m → (∀ t tk, Q (.int n t) { s with toks := tk }) → wpAny (model prog w) A (eval e env) Q E s := by
  have hlg : ∀ {j : Int}, (decide (0 < j) && decide (j < 18446744073709551616)) = true → j ≠ 0 ∧ ∀ i, Builtin.divisionGoesByPylong i j = false := by
    intro j h
    obtain ⟨h1, h2⟩ := Bool.and_eq_true_iff.mp h
    have h1 := of_decide_eq_true h1
    have h2 := of_decide_eq_true h2
    refine ⟨by omega, fun i => ?_⟩
    have h3 : j.natAbs < 2 ^ 64 := by omega
    have h4 : j.natAbs.log2 < 64 := (Nat.log2_lt (by omega)).mpr h3
    unfold Builtin.divisionGoesByPylong
    have h5 : (j == 0) = false := by simp; omega
    simp only [h5, Bool.false_eq_true, if_false, Bool.and_eq_false_iff, decide_eq_false_iff_not]
    left; omega
  induction H with
  | name hm hl hd => intro s Q F h; exact wpAny_Name (wpAny_loadName_local hk hl F.ns hm (h _ _)) hd
  | const => intro s Q F h; exact wpAny_Constant_int (h _ _)
  | add _ _ ih1 ih2 => intro s Q F h; exact wpAny_BinOp (ih1 F fun t tk => ih2 F fun u uk => add_int (h _ _))
  | sub _ _ ih1 ih2 => intro s Q F h; exact wpAny_BinOp (ih1 F fun t tk => ih2 F fun u uk => sub_int (h _ _))
  | mod _ _ hj ih1 ih2 => intro s Q F h; exact wpAny_BinOp (ih1 F fun t tk => ih2 F fun u uk => mod_int' (hlg hj).1 (h _ _))
  | fdiv _ _ hj ih1 ih2 => intro s Q F h; exact wpAny_BinOp (ih1 F fun t tk => ih2 F fun u uk => floordiv_int (hlg hj).1 (h _ _) (.inl ((hlg hj).2 _)))
  | mulR _ _ hm ih1 ih2 => intro s Q F h; exact wpAny_BinOp (ih1 F fun t tk => ih2 F fun u uk => mul_int (h _ _) (IntMulOk.of_right (of_decide_eq_true hm)))
  | mulL _ _ hm ih1 ih2 => intro s Q F h; exact wpAny_BinOp (ih1 F fun t tk => ih2 F fun u uk => mul_int (h _ _) (IntMulOk.of_left (of_decide_eq_true hm)))
  | pow _ _ hp ih1 ih2 =>
    intro s Q F h
    obtain ⟨h1, h3⟩ := Bool.and_eq_true_iff.mp hp
    obtain ⟨h1, h2⟩ := Bool.and_eq_true_iff.mp h1
    have h2 := of_decide_eq_true h2
    have h3 := of_decide_eq_true h3
    exact wpAny_BinOp (ih1 F fun t tk => ih2 F fun u uk => pow_int_small (of_decide_eq_true h1) (by omega) (by omega) (h _ _))
  | powv _ _ hj hi hc ih1 ih2 => intro s Q F h; subst hc; exact wpAny_BinOp (ih1 F fun t tk => ih2 F fun u uk => pow_int_small hj.1 (by omega) (by omega) (h _ _))
theorem ieval' {prog : Program} {w : World} {A : Around} {E : Value → Shared → Prop} {h₀ : Heap} {L : Addr} {m : Str → Option Value} {env : Env} {e : Expr} {n : Int} {s : Shared} {Q : Value → Shared → Prop} (F : Fr h₀ L s.heap m) (hk : env.scope.kind = .function) (hL : env.locals = L) (H : IEv env m e n)
    (h : ∀ t tk, Q (.int n t) { s with toks := tk }) : wpAny (model prog w) A (eval e env) Q E s := ieval hk H (hL ▸ F) h
theorem item_menu1 {prog : Program} {w : World} {A : Around} {E : Value → Shared → Prop} {s : Shared} {h₀ : Heap} {L D : Addr} {vs : List Value} {ws : List Str} {k : Int} {u : Tok} {news : List (Addr × Obj)} {value slice : Expr} {Q : Value → Shared → Prop} (N : News h₀ L s.heap news)
    (hm : (D, ({ cls := .type "tuple", data := .seq vs.toArray } : Obj)) ∈ news) (hw : StrsAre vs ws) (h0 : 0 ≤ k) (h1 : k < (ws.length : Int)) (hB : ws.length ≤ 100 ∧ (ws.all fun x => decide (x.length ≤ 16)) = true) (h : ∀ S T, S = ws.getD k.toNat Str.empty → S.length ≤ 16 → Q (.str S T) s)
    (hs : subscripted slice false (.ref D) (.int k u) = operate [.ref D, .int k u] (getItem (.ref D) (.int k u)) := by with_unfolding_all rfl) :
    wpAny (model prog w) A (subscriptTail value slice (.ref D) (.int k u)) Q E s := item_menu N hm hw h0 h1 hB h hs
theorem room1 {a c n : Nat} (h : a + c < n) : a < n := Nat.lt_of_le_of_lt (Nat.le_add_right a c) h
theorem room3 {a x b c n : Nat} (h : a + c < n) (hb : decide (x + b ≤ c) = true) : a + x + b < n := by have := of_decide_eq_true hb; omega
theorem room2 {a b c n : Nat} (h : a + c < n) (hb : decide (b ≤ c) = true) : a + b < n := by have := of_decide_eq_true hb; omega
section
open Lean
/-- what closes a place of a line, by a letter -/
def tcs (c : String) : MacroM (TSyntax `tactic) := match c with
  | "N" => `(tactic| k_asm)
  | "M" => `(tactic| k_mem)
  | "Z" => `(tactic| omega)
  | "A" => `(tactic| assumption)
  | "R" => `(tactic| with_reducible assumption)
  | "L" => `(tactic| exact News.isList (by k_asm) (by k_mem))
  | "O" => do
    let i : Ident := mkIdent (.mkSimple "ol2")
    `(tactic| exact $i (by k_asm) (by k_mem) (by assumption) (by assumption))
  | "G" => `(tactic| kmk_list)
  | "P" => `(tactic| kmk_part)
  | "U" => `(tactic| walk_at "room")
  | "D" => `(tactic| walk_at "room")
  | "C" => `(tactic| repeat constructor)
  | "d" => `(tactic| decide)
  | "r" => `(tactic| exact rfl)
  | "k" => `(tactic| first | exact rfl | assumption)
  | "u" => `(tactic| with_unfolding_all rfl)
  | "s" => `(tactic| (simp only [List.length_append, List.length_cons, List.length_nil, sizeLine_eq]; omega))
  | "E" => `(tactic| exact ⟨by decide, by decide⟩)
  | "n" => `(tactic| (simp only [List.length_cons, List.length_nil]; omega))
  | "p" => `(tactic| kmk_pure)
  | "S" => `(tactic| first | with_reducible assumption | (simp only [List.size_toArray, sizeLine_eq]; omega))
  | "T" => `(tactic| (simp only [List.size_toArray, List.length_map, sizeLine_eq]; omega))
  | c => `(tactic| walk_at $(Syntax.mkStrLit (c.map fun x => if x == '-' then ' ' else x)))
def seqT (l : List (TSyntax `tactic)) : MacroM (TSyntax `tactic) := do
  let a := l.toArray
  `(tactic| ($[$a];*))
/-- a line of the walk: "lemma places": `_` is the goal that stays, a figure a number, all else what closes it; a place with ' waits for the others; `iv` names what is brought in -/
def ln (spec : String) (iv : String := "") (wh : Bool := true) : MacroM (TSyntax `tactic) := do
  match spec.splitOn " " with
  | [] => Macro.throwUnsupported
  | f :: ps =>
    let mut args : Array Term := #[]
    let mut now : List (TSyntax `tactic) := []
    let mut late : List (TSyntax `tactic) := []
    for p in ps do
      let g : Ident := mkIdent (.mkSimple s!"g{args.size}")
      if p == "_" then args := args.push (← `(?_))
      else if p.isNat then args := args.push ⟨Syntax.mkNumLit p⟩
      else
        args := args.push (← `(?$g:ident))
        let w := p.endsWith "'"
        let t ← tcs (if w then (p.dropEnd 1).toString else p)
        let t ← `(tactic| (case $g:ident => $t:tactic))
        if w then late := late ++ [t] else now := now ++ [t]
    let tm := Syntax.mkApp (mkIdent f.toName) args
    let e ← `(tactic| k_whole)
    let s ← seqT ([← `(tactic| refine' $tm)] ++ now ++ late ++ if wh then [e] else [])
    let mut out := [← `(tactic| k_here), ← `(tactic| k_dflt $s:tactic)]
    for v in (iv.splitOn " ").filter (· != "") do
      let i : Ident := mkIdent (← Macro.addMacroScope (.mkSimple v))
      out := out ++ [← `(tactic| intro $i:ident)]
    seqT out
def stopT : MacroM (TSyntax `tactic) := `(tactic| refine stop_of ?_)
def stopAt (n : Nat) : MacroM (TSyntax `tactic) := do
  let a := Syntax.mkNumLit (toString n)
  `(tactic| (k_here; (with_reducible show wpAny _ _ (call (Value.ref $a) _) _ _ _); refine stop_of ?_))
def firstT (l : List (TSyntax `tactic)) : MacroM (TSyntax `tactic) := do
  let a ← l.toArray.mapM fun t => `(Lean.Parser.Tactic.tacticSeq| $t:tactic)
  `(tactic| first $[| $a]*)
def lns (l : List String) : MacroM (TSyntax `tactic) := do firstT (← l.mapM fun s => ln s "" false)
def findT (s : String) : MacroM (TSyntax `tactic) := do
  firstT (← (s.splitOn " ").mapM fun c => do
    match c.splitOn ":" with
    | [c, n] =>
      let h ← `(_)
      let t := Syntax.mkApp (mkIdent c.toName) (Array.replicate n.toNat! h)
      `(tactic| exact $t)
    | _ => Macro.throwUnsupported)
def nmT (x : String) : MacroM (TSyntax `tactic) := do
  let x := Syntax.mkStrLit x
  `(tactic| (k_here; (with_reducible show wpAny _ _ (eval (Expr.Name (Str.ofString $x) _) (compEnvC _ _ _ _)) _ _ _); (with_reducible rename Heap.Ns _ _ _ => hn9); k_dflt refine ldVarK hn9 (by with_reducible assumption) ?_))
def ivT (o c : String) (k : Bool) : MacroM (TSyntax `tactic) := do
  let i := mkIdent (Name.mkStr (.mkSimple "IEv") c)
  let o := mkIdent (Name.mkStr (.mkSimple "Operator") o)
  let r ← `(by walk_at "iev")
  let q ← `(by exact rfl)
  let t := Syntax.mkApp i (if k then #[r, r, q] else #[r, r])
  `(tactic| ((with_reducible show IEv _ _ (Expr.BinOp _ $o _ _) _); exact $t))
def goT (s : String) : MacroM (TSyntax `tactic) := `(tactic| walk_at $(Syntax.mkStrLit s))
end
local macro_rules | `(tactic| walk_at $s:str) => match s.getString with
  | "call builtin:issubclass" => ln "issub_call N M _"
  | "truthy ref" => ln "truthy_snoc N M Z _"
  | "call builtin:str.join" => ln "join_list L A A _" "t' k'"
  | _ => Lean.Macro.throwUnsupported
local macro_rules | `(tactic| walk_at "subscriptTail Name UnaryOp ref int") => ln "item_snoc N M Z _"
local macro_rules | `(tactic| walk_at "subscriptTail Name UnaryOp ref int") => ln "item_last_base N A A Z _"
local macro_rules | `(tactic| walk_at "call builtin:list.pop") => `(tactic| (k_here; k_dflt (refine' kl_pop ?gF ?gN ?ge ?gU ?gz ?_; (case gF => k_asm); (case gN => k_asm); (case gU => k_upd); (case ge => exact kl_last_snoc'); (case gz => (simp only [List.length_append, List.length_cons, List.length_nil, sizeLine_eq]; omega))); intro h' F' N'; (try dsimp only [List.nil_append, List.cons_append] at N')))
local macro_rules | `(tactic| walk_at "con pre") => `(tactic| first | exact True.intro | assumption | omega)
local macro_rules | `(tactic| walk_at "subscriptTail Tuple cons Name ref int") => `(tactic| walk_at "con menu")
local macro_rules | `(tactic| walk_at "con use") => do
  let a ← ln "con_useV con-find N N N N N k D U con-pre _" "h' tk' F' N'"
  let b ← ln "con_useE con-find N N N N N k D U con-pre _" "t' h' tk' F' N'"
  let c ← ln "con_use2 con-find N N N N N k D U con-pre _" "D' t' u' h' tk' F' N'"
  let d ← ln "con_use3 con-find N N N N N k D U con-pre _" "D' t' u' v' h' tk' F' N'"
  let e ← ln "con_use con-find N N N N N k D U con-pre _" "r' h' tk' F' N' K' P'"
  `(tactic| (first | $a:tactic | $b:tactic | $c:tactic | $d:tactic | $e:tactic))
local macro_rules | `(tactic| walk_at "call ref") => `(tactic| (k_here; (with_reducible show wpAny _ _ (call (Value.ref _) _) _ _ _); walk_at "con use"; (try dsimp only); (try k_sweep)))
local macro_rules | `(tactic| walk_at "con menu") => ln "item_menu1 N M C Z n E _" "S9 T9 hS9 hl9" false
local macro_rules | `(tactic| walk_at "storeName") => do
  let a ← ln "store_i N N _ r r" "t' tk' h' F' N'"
  let b ← ln "store_s N N _ r r" "t' tk' h' F' N'"
  let c ← ln "store_v N N _ r r" "tk' h' F' N'"
  `(tactic| ((first | $a:tactic | $b:tactic | $c:tactic); (try k_sweep)))
local macro_rules | `(tactic| walk_at "iev") => do
  firstT ([← `(tactic| exact IEv.const), ← `(tactic| ((with_reducible show IEv _ _ (Expr.Name _ _) _); exact IEv.name rfl rfl rfl))] ++ (← [("Add", "add", false), ("Sub", "sub", false), ("Mod", "mod", true), ("FloorDiv", "fdiv", true), ("Mult", "mulR", true), ("Mult", "mulL", true), ("Pow", "pow", true)].mapM fun (o, c, k) => ivT o c k))
local macro_rules | `(tactic| walk_at "room") => `(tactic| first | exact room3 (by with_reducible assumption) (by exact rfl) | exact room2 (by with_reducible assumption) (by exact rfl) | ktr_room | ktr_units)
local macro_rules | `(tactic| walk_at "eval BinOp") => ln "ieval' N k r iev _" "t' tk'"
local macro_rules | `(tactic| walk_at "con find") => findT "c_get_sep:3 c_fspath:3 c_ifmt:3 c_imode:3 c_and:5 c_or:5 c_xor:5 c_isreg:3 c_isdir:3 c_isabs:3 c_name:5 c_signs:3 c_mixed:7 c_both:7 c_joined:4 c_filemode:3 c_part:3 c_join1:5 c_join2:7 c_splitroot:3 c_getitem:4 c_deed:6 c_splitext_d:4 c_split_d:4 c_run:5 c_pile:6 c_common_d:6 c_norm_law:5 c_isabs_t:4 c_isabs_f:4"
section
theorem c_get_sep (w : World) (x : Str) (t : Tok) : Con w 122 [.str x t] 1 (fun _ => True) (fun _ _ v => ∃ t, v = .str (Str.ofString "/") t) := by
  unfold Con
  k_fill
  intro zmean zmg zmb zdp zun zgd zcn zcs za zccd zcl zouter zA₀ zbase zh₀ zL zm zs zB zF zX zT zhk zhd zhu zhp
  k_dflt (refine' code_pure ?k1 ?k2 ?k3 ?k5 ?kA ?kF ?kK ?k6 ?k7 ?k8 ?k9 ?kB ?_ ?c2 ?c3 ?c4 ?c5; (case kA => exact rfl); (case kF => exact rfl); (case kK => assumption); (case k1 => k_asm); (case k2 => k_asm); (case k3 => k_asm); (case k5 => k_asm); (case k6 => k_is); (case k7 => k_is); (case k8 => first | exact room1 zhd | ktr_room); (case k9 => first | exact BindsTo.of_eq rfl | exact binds_K (by k_in) rfl (by k_is) rfl rfl rfl); (case c5 => decide); (case kB => exact locs rfl); (case c2 => exact rfl); (case c3 => exact rfl); (case c4 => exact rfl); k_whole)
  clear zF zX zT zB
  intro zL' zh' zF' zN' zB' zX' zT'
  (try dsimp only)
  k_fold
  k_steps
  all_goals ((try (k_unfold; try dsimp only)); refine pure_end (by k_asm) ?_)
  exact ⟨_, rfl⟩
theorem c_fspath (w : World) (x : Str) (t : Tok) : Con w 101 [.str x t] 1 (fun _ => True) (fun _ h v => v = .str x t) := by
  unfold Con
  k_fill
  intro zmean zmg zmb zdp zun zgd zcn zcs za zccd zcl zouter zA₀ zbase zh₀ zL zm zs zB zF zX zT zhk zhd zhu zhp
  k_dflt (refine' code_pure ?k1 ?k2 ?k3 ?k5 ?kA ?kF ?kK ?k6 ?k7 ?k8 ?k9 ?kB ?_ ?c2 ?c3 ?c4 ?c5; (case kA => exact rfl); (case kF => exact rfl); (case kK => assumption); (case k1 => k_asm); (case k2 => k_asm); (case k3 => k_asm); (case k5 => k_asm); (case k6 => k_is); (case k7 => k_is); (case k8 => first | exact room1 zhd | ktr_room); (case k9 => first | exact BindsTo.of_eq rfl | exact binds_K (by k_in) rfl (by k_is) rfl rfl rfl); (case c5 => decide); (case kB => exact locs rfl); (case c2 => exact rfl); (case c3 => exact rfl); (case c4 => exact rfl); k_whole)
  clear zF zX zT zB
  intro zL' zh' zF' zN' zB' zX' zT'
  (try dsimp only)
  k_fold
  k_steps
  all_goals ((try (k_unfold; try dsimp only)); refine pure_end (by k_asm) ?_)
  rfl
theorem c_ifmt (w : World) (x : Int) (t : Tok) : Con w 214 [.int x t] 1 (fun _ => 0 ≤ x ∧ x < 4294967296) (fun g h v => ∃ t, v = .int (Builtin.bitAnd x 61440) t) := by
  unfold Con
  k_fill
  intro zmean zmg zmb zdp zun zgd zcn zcs za zccd zcl zouter zA₀ zbase zh₀ zL zm zs zB zF zX zT zhk zhd zhu zhp
  k_dflt (refine' code_pure ?k1 ?k2 ?k3 ?k5 ?kA ?kF ?kK ?k6 ?k7 ?k8 ?k9 ?kB ?_ ?c2 ?c3 ?c4 ?c5; (case kA => exact rfl); (case kF => exact rfl); (case kK => assumption); (case k1 => k_asm); (case k2 => k_asm); (case k3 => k_asm); (case k5 => k_asm); (case k6 => k_is); (case k7 => k_is); (case k8 => first | exact room1 zhd | ktr_room); (case k9 => first | exact BindsTo.of_eq rfl | exact binds_K (by k_in) rfl (by k_is) rfl rfl rfl); (case c5 => decide); (case kB => exact locs rfl); (case c2 => exact rfl); (case c3 => exact rfl); (case c4 => exact rfl); k_whole)
  clear zF zX zT zB
  intro zL' zh' zF' zN' zB' zX' zT'
  (try dsimp only)
  k_fold
  rename _ ∧ _ => hp
  obtain ⟨hp1, hp2⟩ := id hp
  k_steps
  all_goals ((try (k_unfold; try dsimp only)); refine pure_end (by k_asm) ?_)
  exact ⟨_, rfl⟩
theorem c_imode (w : World) (x : Int) (t : Tok) : Con w 207 [.int x t] 1 (fun _ => 0 ≤ x ∧ x < 4294967296) (fun g h v => ∃ t, v = .int (Builtin.bitAnd x 4095) t) := by
  unfold Con
  k_fill
  intro zmean zmg zmb zdp zun zgd zcn zcs za zccd zcl zouter zA₀ zbase zh₀ zL zm zs zB zF zX zT zhk zhd zhu zhp
  k_dflt (refine' code_pure ?k1 ?k2 ?k3 ?k5 ?kA ?kF ?kK ?k6 ?k7 ?k8 ?k9 ?kB ?_ ?c2 ?c3 ?c4 ?c5; (case kA => exact rfl); (case kF => exact rfl); (case kK => assumption); (case k1 => k_asm); (case k2 => k_asm); (case k3 => k_asm); (case k5 => k_asm); (case k6 => k_is); (case k7 => k_is); (case k8 => first | exact room1 zhd | ktr_room); (case k9 => first | exact BindsTo.of_eq rfl | exact binds_K (by k_in) rfl (by k_is) rfl rfl rfl); (case c5 => decide); (case kB => exact locs rfl); (case c2 => exact rfl); (case c3 => exact rfl); (case c4 => exact rfl); k_whole)
  clear zF zX zT zB
  intro zL' zh' zF' zN' zB' zX' zT'
  (try dsimp only)
  k_fold
  rename _ ∧ _ => hp
  obtain ⟨hp1, hp2⟩ := id hp
  k_steps
  all_goals ((try (k_unfold; try dsimp only)); refine pure_end (by k_asm) ?_)
  exact ⟨_, rfl⟩
theorem c_and (w : World) (x y : Int) (t u : Tok) : Con w 179 [.int x t, .int y u] 1 (fun _ => 0 ≤ x ∧ x < 4294967296 ∧ 0 ≤ y ∧ y < 4294967296) (fun g h v => ∃ t, v = .int (Builtin.bitAnd x y) t) := by
  unfold Con
  k_fill
  intro zmean zmg zmb zdp zun zgd zcn zcs za zccd zcl zouter zA₀ zbase zh₀ zL zm zs zB zF zX zT zhk zhd zhu zhp
  k_dflt (refine' code_pure ?k1 ?k2 ?k3 ?k5 ?kA ?kF ?kK ?k6 ?k7 ?k8 ?k9 ?kB ?_ ?c2 ?c3 ?c4 ?c5; (case kA => exact rfl); (case kF => exact rfl); (case kK => assumption); (case k1 => k_asm); (case k2 => k_asm); (case k3 => k_asm); (case k5 => k_asm); (case k6 => k_is); (case k7 => k_is); (case k8 => first | exact room1 zhd | ktr_room); (case k9 => first | exact BindsTo.of_eq rfl | exact binds_K (by k_in) rfl (by k_is) rfl rfl rfl); (case c5 => decide); (case kB => exact locs rfl); (case c2 => exact rfl); (case c3 => exact rfl); (case c4 => exact rfl); k_whole)
  clear zF zX zT zB
  intro zL' zh' zF' zN' zB' zX' zT'
  (try dsimp only)
  k_fold
  rename _ ∧ _ => hp
  obtain ⟨hp1, hp2, hp3, hp4⟩ := id hp
  k_steps
  all_goals ((try (k_unfold; try dsimp only)); refine pure_end (by k_asm) ?_)
  exact ⟨_, rfl⟩
theorem c_or (w : World) (x y : Int) (t u : Tok) : Con w 186 [.int x t, .int y u] 1 (fun _ => 0 ≤ x ∧ x < 4294967296 ∧ 0 ≤ y ∧ y < 4294967296) (fun g h v => ∃ t, v = .int (Builtin.bitOr x y) t) := by
  unfold Con
  k_fill
  intro zmean zmg zmb zdp zun zgd zcn zcs za zccd zcl zouter zA₀ zbase zh₀ zL zm zs zB zF zX zT zhk zhd zhu zhp
  k_dflt (refine' code_pure ?k1 ?k2 ?k3 ?k5 ?kA ?kF ?kK ?k6 ?k7 ?k8 ?k9 ?kB ?_ ?c2 ?c3 ?c4 ?c5; (case kA => exact rfl); (case kF => exact rfl); (case kK => assumption); (case k1 => k_asm); (case k2 => k_asm); (case k3 => k_asm); (case k5 => k_asm); (case k6 => k_is); (case k7 => k_is); (case k8 => first | exact room1 zhd | ktr_room); (case k9 => first | exact BindsTo.of_eq rfl | exact binds_K (by k_in) rfl (by k_is) rfl rfl rfl); (case c5 => decide); (case kB => exact locs rfl); (case c2 => exact rfl); (case c3 => exact rfl); (case c4 => exact rfl); k_whole)
  clear zF zX zT zB
  intro zL' zh' zF' zN' zB' zX' zT'
  (try dsimp only)
  k_fold
  rename _ ∧ _ => hp
  obtain ⟨hp1, hp2, hp3, hp4⟩ := id hp
  k_steps
  all_goals ((try (k_unfold; try dsimp only)); refine pure_end (by k_asm) ?_)
  exact ⟨_, rfl⟩
theorem c_xor (w : World) (x y : Int) (t u : Tok) : Con w 193 [.int x t, .int y u] 1 (fun _ => 0 ≤ x ∧ x < 4294967296 ∧ 0 ≤ y ∧ y < 4294967296) (fun g h v => ∃ t, v = .int (Builtin.bitXor x y) t) := by
  unfold Con
  k_fill
  intro zmean zmg zmb zdp zun zgd zcn zcs za zccd zcl zouter zA₀ zbase zh₀ zL zm zs zB zF zX zT zhk zhd zhu zhp
  k_dflt (refine' code_pure ?k1 ?k2 ?k3 ?k5 ?kA ?kF ?kK ?k6 ?k7 ?k8 ?k9 ?kB ?_ ?c2 ?c3 ?c4 ?c5; (case kA => exact rfl); (case kF => exact rfl); (case kK => assumption); (case k1 => k_asm); (case k2 => k_asm); (case k3 => k_asm); (case k5 => k_asm); (case k6 => k_is); (case k7 => k_is); (case k8 => first | exact room1 zhd | ktr_room); (case k9 => first | exact BindsTo.of_eq rfl | exact binds_K (by k_in) rfl (by k_is) rfl rfl rfl); (case c5 => decide); (case kB => exact locs rfl); (case c2 => exact rfl); (case c3 => exact rfl); (case c4 => exact rfl); k_whole)
  clear zF zX zT zB
  intro zL' zh' zF' zN' zB' zX' zT'
  (try dsimp only)
  k_fold
  rename _ ∧ _ => hp
  obtain ⟨hp1, hp2, hp3, hp4⟩ := id hp
  k_steps
  all_goals ((try (k_unfold; try dsimp only)); refine pure_end (by k_asm) ?_)
  exact ⟨_, rfl⟩
end
section
theorem allLt_mem {d : Addr} : ∀ {l : List (Addr × Obj)}, AllLt d l → ∀ p ∈ l, p.1 < d
  | [], _, _, h => nomatch h
  | _ :: _, x, p, h => by
    rcases List.mem_cons.mp h with rfl | h
    · exact x.1
    · exact allLt_mem x.2 p h
theorem news_sub {h₀ h : Heap} {L : Addr} {l l' : List (Addr × Obj)} (N : News h₀ L h l) (hs : ∀ p ∈ l', p ∈ l) : News h₀ L h l' := fun p hp => N p (hs p hp)
section
variable {prog : Program} {w : World} {A : Around} {E : Value → Shared → Prop} {s : Shared}
theorem nextOf_tup_item {it t : Addr} {i : Nat} {items : Array Value} {x : Value} {Q : Value → Shared → Prop} (hit : s.heap.IsTupleIter it t i) (ht : s.heap.IsTuple t items) (hx : items[i]? = some x)
    (hQ : ∀ h', h'.IsTupleIter it t (i + 1) → Heap.SameBut it s.heap h' → Q x { s with heap := h' }) : wpAny (model prog w) A (Builtin.SmallTypes.nextOf (.ref it)) Q E s := by
  obtain ⟨o, ho, hc, hd⟩ := id hit
  obtain ⟨ol, hol, _, nl, hdl⟩ := ht
  unfold Builtin.SmallTypes.nextOf
  refine wpAny_bind (wpAny_callSpecial?_slot (name := Str.ofString "__next__") hit.typeIs F.slot_tuple_iterator_next (wpAny_call_entry F.slot_tuple_iterator_next hit.typeIs F.entry_tuple_iterator_next ?_ (F.args_tuple_iterator_next_1 _)))
  show wpAny _ _ (field (.ref it) 0 >>= _) _ _ s
  refine wpAny_bind (wpAny_field ho hd (x := .ref t) rfl ?_)
  show wpAny _ _ (if (Value.ref t == Value.none) = true then _ else _) _ _ s
  rw [if_neg (show ¬ ((Value.ref t == Value.none) = true) from Bool.false_ne_true)]
  show wpAny _ _ (field (.ref it) 1 >>= _) _ _ s
  refine wpAny_bind (wpAny_field ho hd (x := .int i 0) rfl ?_)
  show wpAny _ _ (seqItems? (.ref t) >>= _) _ _ s
  refine wpAny_bind (wpAny_seqItems hol hdl ?_)
  simp only [Int.toNat_natCast, hx]
  refine wpAny_bind (wpAny_setField ho hd (by simp) (wpAny_pure ⟨x, rfl, wpAny_pure (hQ _ ?_ (Heap.SameBut.update ..))⟩))
  exact ⟨_, Heap.get?_update_self _ ho (Obj.isFreed_of_fields (Obj.data_mapFields hd _)), (Obj.cls_mapFields ..).trans hc, by
    rw [Obj.data_mapFields hd]; simp [rawInt]⟩
theorem nextOf_tup_end {it t : Addr} {i : Nat} {items : Array Value} {Q : Value → Shared → Prop} (hh : A.handled = none) (hit : s.heap.IsTupleIter it t i) (ht : s.heap.IsTuple t items) (hx : items[i]? = none)
    (hE : ∀ h' e, Heap.ExtBut it s.heap h' → (∃ o, h'.get? e = some o ∧ o.cls = .type "StopIteration") → E (.ref e) { s with heap := h' }) : wpAny (model prog w) A (Builtin.SmallTypes.nextOf (.ref it)) Q E s := by
  obtain ⟨o, ho, hc, hd⟩ := id hit
  obtain ⟨ol, hol, _, nl, hdl⟩ := ht
  unfold Builtin.SmallTypes.nextOf
  refine wpAny_bind (wpAny_callSpecial?_slot (name := Str.ofString "__next__") hit.typeIs F.slot_tuple_iterator_next (wpAny_call_entry F.slot_tuple_iterator_next hit.typeIs F.entry_tuple_iterator_next ?_ (F.args_tuple_iterator_next_1 _)))
  show wpAny _ _ (field (.ref it) 0 >>= _) _ _ s
  refine wpAny_bind (wpAny_field ho hd (x := .ref t) rfl ?_)
  show wpAny _ _ (if (Value.ref t == Value.none) = true then _ else _) _ _ s
  rw [if_neg (show ¬ ((Value.ref t == Value.none) = true) from Bool.false_ne_true)]
  show wpAny _ _ (field (.ref it) 1 >>= _) _ _ s
  refine wpAny_bind (wpAny_field ho hd (x := .int i 0) rfl ?_)
  show wpAny _ _ (seqItems? (.ref t) >>= _) _ _ s
  refine wpAny_bind (wpAny_seqItems hol hdl ?_)
  simp only [Int.toNat_natCast, hx]
  refine wpAny_bind (wpAny_rule (wpAny_bind (wpAny_setField ho hd (by simp) ?_)))
  show wpAny _ _ (newExc (.type "StopIteration") [] >>= _) _ _ _
  refine wpAny_bind ?_
  simp only [newExc, newTuple]
  refine wpAny_bind (wpAny_newObj_type ?_ (by size_fits))
  refine wpAny_bind (m := firstArgMember _ _) (wpAny_of_eq (a := Value.none) (by first | rfl | (simp only [firstArgMember]; rfl)) ?_)
  refine wpAny_newObj_type ?_ (by size_fits)
  simp only [raiseNew]
  refine wpAny_bind (wpAny_handled ?_)
  first | rw [show A.in1.handled = none from hh] | rw [hh]
  refine wpAny_bind (wpAny_pure (wpAny_throw ?_))
  exact hE _ _ (((Heap.SameBut.update ..).extBut.push _).push _) ⟨_, Heap.get?_push_size _ rfl, rfl⟩
theorem draws_tup (hh : A.handled = none) (it l : Addr) (hne : l ≠ it) (items : Array Value) :
    Draws prog w A it [it, l] items.size (fun i v => items[i]? = some v) (fun i h => h.IsTupleIter it l i ∧ h.IsTuple l items) where
  live := fun _ _ st => let ⟨o, ho, _⟩ := st.1; ⟨o, ho⟩
  frame := fun _ _ _ st hk => ⟨let ⟨o, ho, r⟩ := st.1; ⟨o, hk it (by simp) o ho, r⟩, let ⟨o, ho, r⟩ := st.2; ⟨o, hk l (by simp) o ho, r⟩⟩
  item := fun i s Q E hi st hQ => by
    refine nextOf_tup_item st.1 st.2 (x := items[i]) (by simp [hi]) fun h' hit' hs' => ?_
    exact hQ _ h' s.toks (by simp [hi]) ⟨hit', let ⟨o, ho, r⟩ := st.2; ⟨o, (hs'.2 l hne).trans ho, r⟩⟩ hs'
  done := fun s Q E st hE => nextOf_tup_end hh st.1 st.2 (by simp) hE
theorem enum_new_tup (l : Addr) (items : Array Value) (n : Nat) (dct : Option Addr) (sl : Array (Option Value)) :
    Meets (Builtin.«enumerate.__new__» ⟨[.type "enumerate", .ref l], []⟩) (fun _ R s => s.heap.get? l = some { cls := .type "tuple", dict := dct, data := .seq items n, slots := sl } ∧
      R (.ok (.ret (.ref (s.heap.push { cls := .type "tuple_iterator", data := .fields #[.ref l, .int 0 0] }).objs.size)))
        { s with heap := (s.heap.push { cls := .type "tuple_iterator", data := .fields #[.ref l, .int 0 0] }).push { cls := .type "enumerate", data := .fields #[.none, .bool false, .ref s.heap.objs.size, rawInt 0, .none, .none] } }) :=
  .of_wp fun prog w A R s h => by
    obtain ⟨hp, g, d, tk, os⟩ := s; obtain ⟨hl, h⟩ := h
    have hsub := sub_enumerate
    have hL : Heap.IsTuple (Shared.heap ⟨hp, g, d, tk, os⟩) l items := ⟨_, hl, rfl, n, rfl⟩
    wp_walk using wpAny_loadPart' hl
    refine wpAny_stack_any fun st => wpAny_pure ?_
    split
    · rename_i c _ _ _ _ _
      cases (c == Value.type "enumerate")
      · wp_walk using wpAny_loadPart' hl, wpAny_pyIter_tuple hL
        exact ⟨_, rfl, h⟩
      · wp_walk using wpAny_loadPart' hl, wpAny_pyIter_tuple hL
        exact ⟨_, rfl, h⟩
    · wp_walk using wpAny_loadPart' hl, wpAny_pyIter_tuple hL
      exact ⟨_, rfl, h⟩
theorem call_enum_tup {l : Addr} {items : Array Value} {Q : Value → Shared → Prop} (hL : s.heap.IsTuple l items)
    (h : ∀ h', IsEnum h' (s.heap.objs.size + 1) s.heap.objs.size 0 .none → h'.IsTupleIter s.heap.objs.size l 0 → h'.objs.size = s.heap.objs.size + 2 → (∀ b o, s.heap.get? b = some o → h'.get? b = some o) → Q (.ref (s.heap.objs.size + 1)) { s with heap := h' }) :
    wpAny (model prog w) A (call (.type "enumerate") [.ref l]) Q E s := by
  obtain ⟨⟨c, dct, dt, sl⟩, hl, hc, n, hd⟩ := hL
  replace hc : c = .type "tuple" := hc
  replace hd : dt = .seq items n := hd
  subst hc hd
  refine callType_new F.called_enumerate (by decide) (F.typeCall_enumerate_1 _) (F.newCall_enumerate_1 _) (fun obj => F.args_object_init_2 obj _) F.entry_enumerate_new (enum_new_tup l items n dct sl) ⟨hl, ?_⟩
  have hz : (s.heap.push { cls := .type "tuple_iterator", data := .fields #[.ref l, .int 0 0] }).objs.size = s.heap.objs.size + 1 := Heap.size_push ..
  show _ ∧ _
  rw [hz]
  have he : IsEnum ((s.heap.push { cls := .type "tuple_iterator", data := .fields #[.ref l, .int 0 0] }).push { cls := .type "enumerate", data := .fields #[.none, .bool false, .ref s.heap.objs.size, rawInt 0, .none, .none] }) (s.heap.objs.size + 1) s.heap.objs.size 0 .none := by
    have := Heap.get?_push_size (s.heap.push { cls := .type "tuple_iterator", data := .fields #[.ref l, .int 0 0] }) (o := { cls := .type "enumerate", data := .fields #[.none, .bool false, .ref s.heap.objs.size, rawInt 0, .none, .none] }) rfl
    rw [hz] at this; exact this
  refine ⟨⟨_, he, rfl⟩, h _ he ⟨_, Heap.get?_push_of_some _ (Heap.get?_push_size _ rfl), rfl, rfl⟩ (by rw [Heap.size_push, hz]) fun b o x => Heap.get?_push_of_some _ (Heap.get?_push_of_some _ x)⟩
end
section
variable {prog : Program} {w : World} {A : Around} {E : Value → Shared → Prop} {s : Shared} {env : Env} {h₀ : Heap} {elts : List Expr} {ek : Nat} {epos : Pos} {body : List Stmt} {Q : Flow → Shared → Prop}
noncomputable def EnPt (vs : List Value) (i : Nat) (v : Value) (h : Heap) : Prop := ∃ T t x, v = .ref T ∧ vs[i]? = some x ∧ IsTup h T #[.int i t, x]
theorem iter_enum_tup {σ : Type} {l : Addr} {vs : List Value} {m₀ : Str → Option Value} (Led : σ → List (Addr × Obj)) (ps : σ → List (Str × Value)) (stored : List Str) (Inv : Nat → σ → Prop) (c₀ : σ)
    (hh : A.handled = none) (hl : s.heap.IsTuple l vs.toArray) (hlL : l ≠ env.locals) (hoff : ∀ p ∈ Led c₀, p.1 ≠ l) (F : Fr h₀ env.locals s.heap m₀) (N : News h₀ env.locals s.heap (Led c₀)) (hk : ∀ p ∈ ps c₀, m₀ p.1 = some p.2) (hp : Inv 0 c₀)
    (turn : ∀ (c : σ) i v (u : Str → Option Value) h tk own, EnPt vs i v h → OwnOff own ((Led c₀).map (·.1)) → Inv i c → Fr h₀ env.locals h (kstB (fun z => if stored.contains z then u z else m₀ z) (ps c)) → News h₀ env.locals h (Led c ++ own) →
      wpAny (model prog w) A (assign (.Tuple elts ek epos) env v) (fun _ s₃ => wpAny (model prog w) A (execs body env) (InvPostN h₀ env.locals (St1 Led ps stored m₀ (Inv (i + 1))) own ((Led c₀).map (·.1)) { s with heap := h, toks := tk } Q) E s₃) E { s with heap := h, toks := tk })
    (done : ∀ (c : σ) (u : Str → Option Value) h tk, Inv vs.length c → Fr h₀ env.locals h (kstB (fun z => if stored.contains z then u z else m₀ z) (ps c)) → News h₀ env.locals h (Led c) → Q .next { s with heap := h, toks := tk }) :
    wpAny (model prog w) A (call (.type "enumerate") [.ref l]) (fun xv s₁ => wpAny (model prog w) A (pyIter xv) (fun it s₂ => TurnsAt prog w A h₀ env (.Tuple elts ek epos) body Q E it s₂) E s₁) E s := by
  have hlt : l < s.heap.objs.size := let ⟨_, e, _⟩ := hl; Heap.lt_size e
  have hLs : env.locals < s.heap.objs.size := F.ns.lt
  refine call_enum_tup hl fun h' hE hI hsz hk' => ?_
  refine wpAny_pyIter_enum hE ?_
  refine turns_st (s := { s with heap := h' }) Led ps stored Inv c₀ (KTurns.ofWalksU (WalksT.enumerateD (draws_tup (A := A.in1) hh s.heap.objs.size l (Nat.ne_of_lt hlt) vs.toArray) (s.heap.objs.size + 1) (Nat.succ_ne_self _) (fun hm => ?_) (by simp)).toU) ?_ ?_ ?_ ⟨⟨_, hE⟩, hI, let ⟨o, e, r⟩ := hl; ⟨o, hk' _ _ e, r⟩⟩ (F.keeps hk') (N.grown hk') hk hp ?_ ?_
  · have hm' : s.heap.objs.size + 1 = s.heap.objs.size ∨ s.heap.objs.size + 1 = l := by simpa using hm
    rcases hm' with e | e
    · exact Nat.succ_ne_self _ e
    · exact absurd hlt (by rw [← e]; exact Nat.not_lt.mpr (Nat.le_succ _))
  · intro hm
    have hm' : env.locals = s.heap.objs.size + 1 ∨ env.locals = s.heap.objs.size ∨ env.locals = l := by simpa using hm
    rcases hm' with e | e | e
    · exact absurd hLs (by rw [e]; exact Nat.not_lt.mpr (Nat.le_succ _))
    · exact absurd hLs (by rw [e]; exact Nat.lt_irrefl _)
    · exact hlL e.symm
  · intro b hb
    have hb' : b = s.heap.objs.size + 1 ∨ b = s.heap.objs.size := by simpa using hb
    rcases hb' with e | e
    · rw [e]; exact ktu_new F (Nat.le_add_right _ _)
    · rw [e]; exact ktu_new F (Nat.le_refl _)
  · intro p hp hm
    have hpl : p.1 < s.heap.objs.size := Heap.lt_size (N p hp).1
    have hm' : p.1 = s.heap.objs.size + 1 ∨ p.1 = s.heap.objs.size ∨ p.1 = l := by simpa using hm
    rcases hm' with e | e | e
    · exact absurd hpl (by rw [e]; exact Nat.not_lt.mpr (Nat.le_succ _))
    · exact absurd hpl (by rw [e]; exact Nat.lt_irrefl _)
    · exact hoff p hp e
  · rintro c i v u h tk own hi ⟨T, vals, rfl, ⟨t, x, hx, rfl⟩, hT⟩ ho hI F₁ N₁
    exact turn c i _ u h tk own ⟨T, t, x, rfl, by simpa using hx, hT⟩ ho hI F₁ N₁
  · intro c u h tk hI F₁ N₁
    exact done c u h tk (by simpa using hI) F₁ N₁
theorem iter_enum_list {σ : Type} {l : Addr} {vs : List Value} {m₀ : Str → Option Value} (Led : σ → List (Addr × Obj)) (ps : σ → List (Str × Value)) (stored : List Str) (Inv : Nat → σ → Prop) (c₀ : σ)
    (hh : A.handled = none) (hl : s.heap.IsList l vs.toArray) (hlL : l ≠ env.locals) (hoff : ∀ p ∈ Led c₀, p.1 ≠ l) (F : Fr h₀ env.locals s.heap m₀) (N : News h₀ env.locals s.heap (Led c₀)) (hk : ∀ p ∈ ps c₀, m₀ p.1 = some p.2) (hp : Inv 0 c₀)
    (turn : ∀ (c : σ) i v (u : Str → Option Value) h tk own, EnPt vs i v h → OwnOff own ((Led c₀).map (·.1)) → Inv i c → Fr h₀ env.locals h (kstB (fun z => if stored.contains z then u z else m₀ z) (ps c)) → News h₀ env.locals h (Led c ++ own) →
      wpAny (model prog w) A (assign (.Tuple elts ek epos) env v) (fun _ s₃ => wpAny (model prog w) A (execs body env) (InvPostN h₀ env.locals (St1 Led ps stored m₀ (Inv (i + 1))) own ((Led c₀).map (·.1)) { s with heap := h, toks := tk } Q) E s₃) E { s with heap := h, toks := tk })
    (done : ∀ (c : σ) (u : Str → Option Value) h tk, Inv vs.length c → Fr h₀ env.locals h (kstB (fun z => if stored.contains z then u z else m₀ z) (ps c)) → News h₀ env.locals h (Led c) → Q .next { s with heap := h, toks := tk }) :
    wpAny (model prog w) A (call (.type "enumerate") [.ref l]) (fun xv s₁ => wpAny (model prog w) A (pyIter xv) (fun it s₂ => TurnsAt prog w A h₀ env (.Tuple elts ek epos) body Q E it s₂) E s₁) E s := by
  have hlt : l < s.heap.objs.size := let ⟨_, e, _⟩ := hl; Heap.lt_size e
  have hLs : env.locals < s.heap.objs.size := F.ns.lt
  refine call_enumerate_list hl fun h' hE hI hsz hk' => ?_
  refine wpAny_pyIter_enum hE ?_
  refine turns_st (s := { s with heap := h' }) Led ps stored Inv c₀ (KTurns.ofWalksU (WalksT.enumerate hh (s.heap.objs.size + 1) s.heap.objs.size l (Nat.succ_ne_self _) (Nat.ne_of_lt (Nat.lt_succ_of_lt hlt)) (Nat.ne_of_lt hlt) vs.toArray).toU) ?_ ?_ ?_ ⟨⟨_, hE⟩, hI, hl.at fun o e => hk' _ _ e⟩ (F.keeps hk') (N.grown hk') hk hp ?_ ?_
  · intro hm
    have hm' : env.locals = s.heap.objs.size + 1 ∨ env.locals = s.heap.objs.size ∨ env.locals = l := by simpa using hm
    rcases hm' with e | e | e
    · exact absurd hLs (by rw [e]; exact Nat.not_lt.mpr (Nat.le_succ _))
    · exact absurd hLs (by rw [e]; exact Nat.lt_irrefl _)
    · exact hlL e.symm
  · intro b hb
    have hb' : b = s.heap.objs.size + 1 ∨ b = s.heap.objs.size := by simpa using hb
    rcases hb' with e | e
    · rw [e]; exact ktu_new F (Nat.le_add_right _ _)
    · rw [e]; exact ktu_new F (Nat.le_refl _)
  · intro p hp hm
    have hpl : p.1 < s.heap.objs.size := Heap.lt_size (N p hp).1
    have hm' : p.1 = s.heap.objs.size + 1 ∨ p.1 = s.heap.objs.size ∨ p.1 = l := by simpa using hm
    rcases hm' with e | e | e
    · exact absurd hpl (by rw [e]; exact Nat.not_lt.mpr (Nat.le_succ _))
    · exact absurd hpl (by rw [e]; exact Nat.lt_irrefl _)
    · exact hoff p hp e
  · rintro c i v u h tk own hi ⟨T, vals, rfl, ⟨t, x, hx, rfl⟩, hT⟩ ho hI F₁ N₁
    exact turn c i _ u h tk own ⟨T, t, x, rfl, by simpa using hx, hT⟩ ho hI F₁ N₁
  · intro c u h tk hI F₁ N₁
    exact done c u h tk (by simpa using hI) F₁ N₁
end
section
variable {prog : Program} {w : World} {A : Around} {E : Value → Shared → Prop} {s : Shared} {env : Env} {h₀ : Heap} {target : Expr} {body orelse : List Stmt} {Q : Flow → Shared → Prop}
/-- a for with an else over a tuple: nothing that the ledger names turns but by a break -/
noncomputable def ElPost (h₀ : Heap) (L : Addr) (own : List (Addr × Obj)) (stored : List Str) (m₀ : Str → Option Value) (Inv : Prop) (Q : Flow → Shared → Prop) (s : Shared) (f : Flow) (s₃ : Shared) : Prop :=
  match f with
  | .ret v => Q (.ret v) s₃
  | .brk => Q .next s₃
  | _ => Inv ∧ ∃ h' tk' m', s₃ = { s with heap := h', toks := tk' } ∧ Fr h₀ L h' m' ∧ News h₀ L h' own ∧ ∀ z, stored.contains z = false → m' z = m₀ z
theorem for_else {l : Addr} {vs : List Value} {m₀ : Str → Option Value} {news : List (Addr × Obj)} (stored : List Str) (Inv : Nat → Prop)
    (hh : A.handled = none) (hlo : h₀.IsTuple l vs.toArray) (F : Fr h₀ env.locals s.heap m₀) (N : News h₀ env.locals s.heap news) (h0 : Inv 0) (hE : PassesOwn (model prog w) A env E)
    (turn : ∀ i v (u : Str → Option Value) h tk rest, vs[i]? = some v → Inv i → (∀ p ∈ news, ∀ q ∈ rest, p.1 ≠ q.1) → Fr h₀ env.locals h (fun z => if stored.contains z then u z else m₀ z) → News h₀ env.locals h (news ++ rest) →
      wpAny (model prog w) A (assign target env v) (fun _ s₃ => wpAny (model prog w) A (execs body env) (ElPost h₀ env.locals (news ++ rest) stored m₀ (Inv (i + 1)) Q s) E s₃) E { s with heap := h, toks := tk })
    (done : ∀ (u : Str → Option Value) h tk, Inv vs.length → Fr h₀ env.locals h (fun z => if stored.contains z then u z else m₀ z) → News h₀ env.locals h news → wpAny (model prog w) A (execs orelse env) Q E { s with heap := h, toks := tk }) :
    wpAny (model prog w) A (pyIter (.ref l)) (fun it s₂ => codeAny (model prog w) A (.forLoop target it body orelse env) (fun r s' => match r with | .ok f => Q f s' | .error e => cameBackBy (model prog w) A env E e s') s₂) E s := by
  have hl : s.heap.IsTuple l vs.toArray := let ⟨o, e, r⟩ := hlo; ⟨o, F.keep _ _ e, r⟩
  have hlt : l < s.heap.objs.size := let ⟨_, e, _⟩ := hl; Heap.lt_size e
  have hLs : env.locals < s.heap.objs.size := F.ns.lt
  refine wpAny_pyIter_tuple hl ?_
  have W := Walks.tuple (prog := prog) (w := w) (A := A) hh s.heap.objs.size l (Nat.ne_of_lt hlt) vs.toArray
  have hI₀ : h₀.get? s.heap.objs.size = none := next_is_new F
  refine codeAny_forLoop_any (fun k s' => ∃ h' tk m' i, s' = { s with heap := h', toks := tk } ∧ (h'.IsTupleIter s.heap.objs.size l i ∧ h'.IsTuple l vs.toArray) ∧ Fr h₀ env.locals h' m' ∧ News h₀ env.locals h' news ∧ (∀ z, stored.contains z = false → m' z = m₀ z) ∧ Inv i ∧ i ≤ vs.length ∧ k = vs.length + 1 - i) ?_ (vs.length + 1)
    ⟨_, s.toks, m₀, 0, rfl, ⟨⟨_, Heap.get?_push_size _ rfl, rfl, rfl⟩, let ⟨o, e, r⟩ := hl; ⟨o, Heap.get?_push_of_some _ e, r⟩⟩, F.push _, fun p hp => ⟨Heap.get?_push_of_some _ (N p hp).1, (N p hp).2⟩, fun _ _ => rfl, h0, Nat.zero_le _, rfl⟩
  rintro k s' ⟨h', tk, m', i, rfl, hst, F', N', hm, hI, hi, rfl⟩
  have hoff : ∀ p ∈ news, p.1 ≠ s.heap.objs.size := fun p hp => Nat.ne_of_lt (Heap.lt_size (N p hp).1)
  have next : ∀ h₁ : Heap, (∀ b o, b ∉ [s.heap.objs.size] → h'.get? b = some o → h₁.get? b = some o) → Fr h₀ env.locals h₁ m' ∧ News h₀ env.locals h₁ news := fun h₁ hk₁ =>
    ⟨⟨F'.ns.at' fun o e => hk₁ _ o (by simpa using Nat.ne_of_lt hLs) e, fun b o e => hk₁ b o (fun hb => by rw [List.mem_singleton.mp hb, hI₀] at e; cases e) (F'.keep b o e), F'.above⟩, fun p hp => ⟨hk₁ _ _ (by simpa using hoff p hp) (N' p hp).1, (N' p hp).2⟩⟩
  have em : ∀ h₁, Fr h₀ env.locals h₁ m' → Fr h₀ env.locals h₁ (fun z => if stored.contains z then m' z else m₀ z) := fun h₁ Fx => by
    have e : (fun z => if stored.contains z = true then m' z else m₀ z) = m' := by
      funext z
      cases h3 : stored.contains z with
      | true => simp
      | false => simp only [Bool.false_eq_true, if_false]; exact (hm z h3).symm
    rw [e]; exact Fx
  by_cases hlt2 : i < vs.length
  · refine W.item i _ _ _ (by simpa using hlt2) hst fun v h₁ tk₁ hP hst₁ hk₁ => ?_
    obtain ⟨F₁, N₁⟩ := next h₁ hk₁
    obtain ⟨oI, hoI, hIc⟩ := id hst₁.1
    have NI : News h₀ env.locals h₁ (news ++ [(s.heap.objs.size, oI)]) := fun p hp => by
      rcases List.mem_append.mp hp with hp | hp
      · exact N₁ p hp
      · rw [List.mem_singleton.mp hp]; exact ⟨hoI, Nat.ne_of_gt hLs, hI₀⟩
    refine letGo_tupleiter hst₁.1 ?_
    refine wpAny_mono (turn i v m' h₁ tk₁ _ (by simpa using hP) hI (fun p hp q hq => by rw [List.mem_singleton.mp hq]; exact hoff p hp) (em _ F₁) NI) (fun _ s₂ h₂' => wpAny_mono h₂' (fun f s₃ h₃ => ?_) hE) hE
    have fin : ∀ s₃ : Shared, (Inv (i + 1) ∧ ∃ h' tk' m', s₃ = { s with heap := h', toks := tk' } ∧ Fr h₀ env.locals h' m' ∧ News h₀ env.locals h' (news ++ [(s.heap.objs.size, oI)]) ∧ ∀ z, stored.contains z = false → m' z = m₀ z) →
        ∃ m, m < vs.length + 1 - i ∧ ∃ h' tk m' i, s₃ = { s with heap := h', toks := tk } ∧ (h'.IsTupleIter s.heap.objs.size l i ∧ h'.IsTuple l vs.toArray) ∧ Fr h₀ env.locals h' m' ∧ News h₀ env.locals h' news ∧ (∀ z, stored.contains z = false → m' z = m₀ z) ∧ Inv i ∧ i ≤ vs.length ∧ m = vs.length + 1 - i := by
      rintro s₃ ⟨hI3, h3, tk3, m3, rfl, F3, N3, hm3⟩
      have z := (N3 (s.heap.objs.size, oI) (List.mem_append_right _ (.head _))).1
      refine ⟨vs.length + 1 - (i + 1), by omega, h3, tk3, m3, i + 1, rfl, ⟨⟨oI, z, hIc⟩, let ⟨o, e, r⟩ := hlo; ⟨o, F3.keep _ _ e, r⟩⟩, F3, fun p hp => N3 p (List.mem_append_left _ hp), hm3, hI3, hlt2, rfl⟩
    cases f with
    | ret v => exact h₃
    | brk => exact h₃
    | cont => exact fin _ h₃
    | next => exact fin _ h₃
  · have hin : i = vs.length := by omega
    subst hin
    refine W.done _ _ _ (by simpa using hst) fun h₁ tk₁ hk₁ => ?_
    obtain ⟨F₁, N₁⟩ := next h₁ hk₁
    exact wpAny_mono (done m' h₁ tk₁ hI (em _ F₁) N₁) (fun _ _ x => x) hE
end
section
variable {prog : Program} {w : World} {A : Around} {E : Value → Shared → Prop} {s : Shared} {env : Env} {h₀ : Heap} {target : Expr} {body : List Stmt} {Q : Flow → Shared → Prop}
theorem iter_str {σ : Type} {x : Str} {t : Tok} {m₀ : Str → Option Value} (Led : σ → List (Addr × Obj)) (ps : σ → List (Str × Value)) (stored : List Str) (Inv : Nat → σ → Prop) (c₀ : σ)
    (hh : A.handled = none) (F : Fr h₀ env.locals s.heap m₀) (N : News h₀ env.locals s.heap (Led c₀)) (hk : ∀ p ∈ ps c₀, m₀ p.1 = some p.2) (hp : Inv 0 c₀)
    (hgo : ∀ (I : Addr) v (s : Shared) (Q : Unit → Shared → Prop) (E : Value → Shared → Prop), Q () s → wpAny (model prog w) A (letOwnedTupleGo target (.ref I) v) Q E s)
    (turn : ∀ (d : σ) i c u' (u : Str → Option Value) h tk own, x.cps[i]? = some c → OwnOff own ((Led c₀).map (·.1)) → Inv i d → Fr h₀ env.locals h (kstB (fun z => if stored.contains z then u z else m₀ z) (ps d)) → News h₀ env.locals h (Led d ++ own) →
      wpAny (model prog w) A (assign target env (.str ⟨#[c]⟩ u')) (fun _ s₃ => wpAny (model prog w) A (execs body env) (InvPostN h₀ env.locals (St1 Led ps stored m₀ (Inv (i + 1))) own ((Led c₀).map (·.1)) { s with heap := h, toks := tk } Q) E s₃) E { s with heap := h, toks := tk })
    (done : ∀ (d : σ) (u : Str → Option Value) h tk, Inv x.cps.size d → Fr h₀ env.locals h (kstB (fun z => if stored.contains z then u z else m₀ z) (ps d)) → News h₀ env.locals h (Led d) → Q .next { s with heap := h, toks := tk }) :
    wpAny (model prog w) A (pyIter (.str x t)) (fun it s₂ => TurnsAt prog w A h₀ env target body Q E it s₂) E s := by
  have go : ∀ (o : Obj) (St : Nat → Heap → Prop), Walks prog w A s.heap.objs.size [s.heap.objs.size] [s.heap.objs.size] x.cps.size (SignAt x) St → St 0 (s.heap.push o) → TurnsAt prog w A h₀ env target body Q E (.ref s.heap.objs.size) { s with heap := s.heap.push o } := by
    intro o St W hst
    refine turns_st (s := { s with heap := s.heap.push o }) Led ps stored Inv c₀ (KTurns.ofWalks W fun i v s Q E st q => hgo _ _ s Q E q) ?_ ?_ ?_ hst (F.push _) (fun p hp => ⟨Heap.get?_push_of_some _ (N p hp).1, (N p hp).2⟩) hk hp ?_ ?_
    · intro hm
      exact absurd F.ns.lt ((List.mem_singleton.mp hm) ▸ Nat.lt_irrefl _)
    · intro b hb
      rw [List.mem_singleton.mp hb]
      exact next_is_new F
    · intro p hp hI
      exact absurd (Heap.lt_size (N p hp).1) ((List.mem_singleton.mp hI) ▸ Nat.lt_irrefl _)
    · rintro d i v u h tk own hi ⟨c, u', hc, rfl⟩ ho hI F₁ N₁
      exact turn d i c u' u h tk own hc ho hI F₁ N₁
    · intro d u h tk hI F₁ N₁
      exact done d u h tk hI F₁ N₁
  cases ha : x.cps.all (· < 128)
  · exact wpAny_pyIter_wide ha (go _ _ (Walks.strWide hh _ x t) ⟨_, Heap.get?_push_size _ rfl, rfl, rfl⟩)
  · exact wpAny_pyIter_ascii ha (go _ _ (Walks.strAscii hh _ x t) ⟨_, Heap.get?_push_size _ rfl, rfl, rfl⟩)
end
section
variable {prog : Program} {w : World} {A : Around} {E : Value → Shared → Prop} {s : Shared} {a b : Int} {t u : Tok} {Q : Value → Shared → Prop}
theorem floordiv_c (c : Int) (hb : b ≠ 0) (hz : a.fdiv b = c) (h : Q (.int c s.toks) { s with toks := s.toks + 1 })
    (hp : Builtin.divisionGoesByPylong a b = false) : wpAny (model prog w) A (binaryOp .FloorDiv (.int a t) (.int b u)) Q E s := floordiv_int hb (hz ▸ h) (.inl hp)
theorem pow_c (c : Int) (hn : 0 ≤ b) (hn2 : b ≤ 1000000) (ha : a.natAbs < 2 ^ 64) (hz : a ^ b.toNat = c) (h : Q (.int c s.toks) { s with toks := s.toks + 1 }) : wpAny (model prog w) A (binaryOp .Pow (.int a t) (.int b u)) Q E s := pow_int_small hn hn2 ha (hz ▸ h)
end
section
variable {prog : Program} {w : World} {A : Around} {E : Value → Shared → Prop} {s : Shared} {env : Env} {h₀ : Heap} {target : Expr} {body : List Stmt} {Q : Flow → Shared → Prop}
/-- a for over a tuple that the call has made, whose turns may make new objects -/
theorem fo_tup {σ : Type} {l : Addr} {vs : List Value} {m₀ : Str → Option Value} {news : List (Addr × Obj)} (Led : σ → List (Addr × Obj)) (ps : σ → List (Str × Value)) (stored : List Str) (Inv : Nat → σ → Prop) (c₀ : σ)
    (hh : A.handled = none) (F : Fr h₀ env.locals s.heap m₀) (N : News h₀ env.locals s.heap news) (hlo : s.heap.IsTuple l vs.toArray) (hlL : l ≠ env.locals) (hoff : ∀ p ∈ Led c₀, p.1 ≠ l) (hl : ∀ p ∈ Led c₀, p ∈ news) (hk : ∀ p ∈ ps c₀, m₀ p.1 = some p.2) (hp : Inv 0 c₀)
    (turn : ∀ (c : σ) i v (u : Str → Option Value) h tk own, vs[i]? = some v → (∀ p ∈ Led c, ∀ q ∈ own, p.1 ≠ q.1) → Inv i c → Fr h₀ env.locals h (kstB (fun z => if stored.contains z then u z else m₀ z) (ps c)) → News h₀ env.locals h (Led c ++ own) →
      wpAny (model prog w) A (assign target env v) (fun _ s₃ => wpAny (model prog w) A (execs body env) (FoPost h₀ env.locals Led ps stored m₀ (Inv (i + 1)) own Q { s with heap := h, toks := tk }) E s₃) E { s with heap := h, toks := tk })
    (done : ∀ (c : σ) (u : Str → Option Value) h tk, Inv vs.length c → Fr h₀ env.locals h (kstB (fun z => if stored.contains z then u z else m₀ z) (ps c)) → News h₀ env.locals h (Led c) → Q .next { s with heap := h, toks := tk }) :
    wpAny (model prog w) A (pyIter (.ref l)) (fun it s₂ => TurnsAt prog w A h₀ env target body Q E it s₂) E s := by
  obtain ⟨ol, hol, hl2⟩ := id hlo
  have hlt2 : l < s.heap.objs.size := Heap.lt_size hol
  refine wpAny_pyIter_tuple hlo ?_
  refine turns_fo Led ps stored Inv c₀ (KTurns.ofWalks (Walks.tuple hh s.heap.objs.size l (Nat.ne_of_lt hlt2) vs.toArray) fun i v s Q E st q => letGo_tupleiter st.1 q) ?_ ?_ ?_ ?_ ⟨⟨_, Heap.get?_push_size _ rfl, rfl, rfl⟩, ⟨ol, Heap.get?_push_of_some _ hol, hl2⟩⟩ (F.push _) (fun p hp => ⟨Heap.get?_push_of_some _ (N p (hl p hp)).1, (N p (hl p hp)).2⟩) hk hp ?_ ?_
  · intro hm
    rcases List.mem_cons.mp hm with e | hm
    · exact absurd F.ns.lt (e ▸ Nat.lt_irrefl _)
    · exact hlL (List.mem_singleton.mp hm).symm
  · intro b hb
    rw [List.mem_singleton.mp hb]
    exact next_is_new F
  · rintro i h ⟨⟨oi, hoi, _⟩, ⟨ol', hol', _⟩⟩ b hb
    rcases List.mem_cons.mp hb with rfl | hb
    · exact ⟨_, hoi⟩
    · rw [List.mem_singleton.mp hb]; exact ⟨_, hol'⟩
  · intro p hp hI
    rcases List.mem_cons.mp hI with e | hI
    · exact absurd (Heap.lt_size (N p (hl p hp)).1) (e ▸ Nat.lt_irrefl _)
    · exact hoff p hp (List.mem_singleton.mp hI)
  · intro c i v u h tk own hi hP ho hI F₁ N₁
    exact turn c i v u h tk own (by simpa using hP) ho hI F₁ N₁
  · intro c u h tk hI F₁ N₁
    exact done c u h tk (by simpa using hI) F₁ N₁
end
end
section
local macro_rules | `(tactic| walk_at "fmod") => `(tactic| exact ⟨Int.fmod_nonneg_of_pos _ (by decide), Int.fmod_lt_of_pos _ (by decide)⟩)
theorem item2 {prog : Program} {w : World} {A : Around} {E : Value → Shared → Prop} {s : Shared} {h₀ : Heap} {L D : Addr} {a b : Str} {t u' : Tok} {k : Int} {u : Tok} {news : List (Addr × Obj)} {value slice : Expr} {Q : Value → Shared → Prop} (N : News h₀ L s.heap news)
    (hm : (D, ({ cls := .type "tuple", data := .seq #[.str a t, .str b u'] } : Obj)) ∈ news) (hk : 0 ≤ k ∧ k < 2) (hl : a.length = 2 ∧ b.length = 2) (h : ∀ S T, S.length = 2 → (S = if k = 0 then a else b) → Q (.str S T) s)
    (hs : subscripted slice false (.ref D) (.int k u) = operate [.ref D, .int k u] (getItem (.ref D) (.int k u)) := by with_unfolding_all rfl) :
    wpAny (model prog w) A (subscriptTail value slice (.ref D) (.int k u)) Q E s := by
  have ht : IsTup s.heap D #[.str a t, .str b u'] := ⟨_, (N _ hm).1, rfl, _, rfl⟩
  rcases (by omega : k = 0 ∨ k = 1) with e | e
  · subst e; exact item_tupleT (l := [.str a t, .str b u']) ht (by decide) (by decide) rfl rfl (h _ _ hl.1 rfl) hs
  · subst e; exact item_tupleT (l := [.str a t, .str b u']) ht (by decide) (by decide) rfl rfl (h _ _ hl.2 rfl) hs
local macro_rules | `(tactic| walk_at "subscriptTail Name BinOp ref int") => ln "item2 N M fmod E _" "S9 T9 hl9 hk9" false
local macro_rules | `(tactic| walk_at "subscriptTail Name BinOp str int") => `(tactic| (k_here; k_dflt (refine KXi.item (n := 2) (by assumption) (Int.le_trans (by decide) (Int.fmod_nonneg_of_pos _ (by decide))) (Int.fmod_lt_of_pos _ (by decide)) (by decide) ?_); intro kxiE))
noncomputable def sgn (x p c : Int) (l0 l1 : Str) : Str :=
  Txt.item (Str.ofString "-r") (((x.fdiv p).fmod 8).fdiv 4) ++ Txt.item (Str.ofString "-w") ((((x.fdiv p).fmod 8).fdiv 2).fmod 2) ++ Txt.item (if (x.fdiv c).fmod 2 = 0 then l0 else l1) (((x.fdiv p).fmod 8).fmod 2)
noncomputable def signsS (x : Int) : Str :=
  Txt.item (Str.ofString "?pc?d?b?-?l?s???") (x.fdiv 4096) ++ sgn x 64 2048 (Str.ofString "-x") (Str.ofString "Ss") ++ sgn x 8 1024 (Str.ofString "-x") (Str.ofString "Ss") ++ sgn x 1 512 (Str.ofString "-x") (Str.ofString "Tt")
local macro_rules | `(tactic| walk_at "subscriptTail Name BinOp ref int") => ln "item2 N A fmod A _" "S9 T9 hl9 hk9" false
local macro_rules | `(tactic| walk_at "iev") => `(tactic| first
  | ((with_reducible show IEv _ _ (Expr.BinOp _ Operator.Pow _ _) _); exact IEv.powv (by walk_at "iev") (by walk_at "iev") (by assumption) (by decide) (by assumption))
  | ((with_reducible show IEv _ _ (Expr.BinOp _ Operator.FloorDiv (Expr.BinOp _ Operator.Pow _ _) _) _); exact IEv.fdiv (by walk_at "iev") (by walk_at "iev") (by assumption)))
noncomputable def sbody : List Stmt := match fn62.1.2.1 with
  | _ :: .For _ _ b _ _ :: _ => b
  | _ => []
/-- the loop's body, one turn -/
theorem sturn {w : World} (P C : Int) {x p : Int} {E : Addr} {a b T : Str} {t0 t1 t2 ta tb : Tok} {dp un : Nat} {gd : Option (List Code)} {cn : Str} {cs : Scope} {c : Addr} {ccd : Value} {cl : List (Str × Addr)} {outer : List Env} {h₀ : Heap} {L L' : Addr} {m : Str → Option Value} {s : Shared} {news : List (Addr × Obj)}
    {Q : Flow → Shared → Prop} {Er : Value → Shared → Prop}
    (F : Fr h₀ L s.heap m) (N : News h₀ L s.heap news) (hm : (E, ({ cls := .type "tuple", data := .seq #[.str a ta, .str b tb] } : Obj)) ∈ news) (X : (K w.params).In h₀)
    (m1 : m "mode" = some (.int x t0)) (m2 : m "place" = some (.int p t1)) (m3 : m "text" = some (.str T t2)) (m4 : m "last" = some (.ref E)) (hp : 0 ≤ p ∧ p ≤ 1000) (hp3 : 0 ≤ 9 + p.fdiv 3 ∧ 9 + p.fdiv 3 ≤ 1000) (hP : (2 : Int) ^ p.toNat = P) (hC : (2 : Int) ^ (9 + p.fdiv 3).toNat = C) (hP2 : (decide (0 < P) && decide (P < 18446744073709551616)) = true) (hC2 : (decide (0 < C) && decide (C < 18446744073709551616)) = true) (hab : a.length = 2 ∧ b.length = 2) (hx : 0 ≤ x ∧ x < 65536) {B : Nat} (hT : T.length ≤ B) (hB : decide (B ≤ 100) = true)
    (h : ∀ t' u' tk' h', Fr h₀ L h' (fun y => if y = Str.ofString "text" then some (.str (T ++ sgn x P C a b) t') else if y = Str.ofString "three" then some (.int ((x.fdiv P).fmod 8) u') else m y) → News h₀ L h' news → (T ++ sgn x P C a b).length ≤ B + 3 → Q .next { s with heap := h', toks := tk' }) :
    wpAny (model PySem.Challenge.rw_ik0166_01.row.prog w) ((ktrTop dp un gd cn cs L' c ccd cl outer).deeper (envOf (Str.ofString "_law_signs") fn62.1.2.2 L 315 (.ref 314))) (execs sbody (envOf (Str.ofString "_law_signs") fn62.1.2.2 L 315 (.ref 314))) Q Er s := by
  k_fill
  obtain ⟨hx1, hx2⟩ := hx
  have hT2 := Nat.le_trans hT (of_decide_eq_true hB)
  have em : kstB m [(Str.ofString "mode", .int x t0), (Str.ofString "place", .int p t1), (Str.ofString "text", .str T t2), (Str.ofString "last", .ref E)] = m := by
    funext y
    refine kstB_eq (fun q hq => ?_) fun _ => rfl
    simp only [List.mem_cons, List.not_mem_nil, or_false] at hq
    rcases hq with rfl | rfl | rfl | rfl <;> assumption
  rw [← em] at F
  dsimp only [kstB] at F
  clear m1 m2 m3 m4
  k_steps
  all_goals (
    (rename Fr _ _ _ _ => F9); (rename News _ _ _ _ => N9); (rename _ = ite _ _ _ => hS)
    subst hS
    refine h _ _ _ _ ((congrArg (fun f : Str → Option Value => Fr h₀ L _ (fun y => if y = Str.ofString "text" then some (.str (T ++ sgn x P C a b) _) else if y = Str.ofString "three" then some (.int ((x.fdiv P).fmod 8) _) else f y)) em).mp F9) N9 ?_
    unfold sgn
    omega)
local macro_rules | `(tactic| walk_at "len") => `(tactic| first | assumption | exact Nat.le_of_eq (by assumption))
local macro_rules | `(tactic| walk_at "sturn") => do
  let l ← ["64 2048", "8 1024", "1 512"].mapM fun n => ln ("sturn " ++ n ++ " N N M' N r r r r d d d d d d E' A len r _") "t' u' tk' h' F' N' l9"
  firstT l
local macro_rules | `(tactic| walk_at "execs cons Assign cons") => `(tactic| (k_here; (with_reducible show wpAny _ _ (execs [Stmt.Assign [Expr.Name (Str.ofString "three") _] _ _, _] _) _ _ _); walk_at "sturn"; (try dsimp only); (try k_sweep)))
theorem c_signs (w : World) (x : Int) (t : Tok) : Con w 315 [.int x t] 2 (fun _ => 0 ≤ x ∧ x < 65536) (fun g h v => ∃ t, v = .str (signsS x) t) := by
  unfold Con
  k_fill
  intro zmean zmg zmb zdp zun zgd zcn zcs za zccd zcl zouter zA₀ zbase zh₀ zL zm zs zB zF zX zT zhk zhd zhu zhp
  k_dflt (refine' code_pure ?k1 ?k2 ?k3 ?k5 ?kA ?kF ?kK ?k6 ?k7 ?k8 ?k9 ?kB ?_ ?c2 ?c3 ?c4 ?c5; (case kA => exact rfl); (case kF => exact rfl); (case kK => assumption); (case k1 => k_asm); (case k2 => k_asm); (case k3 => k_asm); (case k5 => k_asm); (case k6 => k_is); (case k7 => k_is); (case k8 => first | exact room1 zhd | ktr_room); (case k9 => first | exact BindsTo.of_eq rfl | exact binds_K (by k_in) rfl (by k_is) rfl rfl rfl); (case c5 => decide); (case kB => exact locs rfl); (case c2 => exact rfl); (case c3 => exact rfl); (case c4 => exact rfl); k_whole)
  clear zF zX zT zB
  intro zL' zh' zF' zN' zB' zX' zT'
  (try dsimp only)
  k_fold
  rename _ ∧ _ => hp
  obtain ⟨hp1, hp2⟩ := id hp
  k_steps
  all_goals ((try (k_unfold; try dsimp only)); refine pure_end (by k_asm) ?_)
  all_goals (
    exact ⟨_, rfl⟩)
end
section
theorem strValues_get {l : List (Str × Tok)} {i : Nat} {v : Value} (h : (strValues l)[i]? = some v) : ∃ y t, v = .str y t ∧ (l.map (·.1))[i]? = some y := by
  unfold strValues at h
  rw [List.getElem?_map] at h
  cases hq : l[i]? with
  | none => rw [hq] at h; cases h
  | some p => rw [hq] at h; cases h; exact ⟨p.1, p.2, rfl, by rw [List.getElem?_map, hq]; rfl⟩
noncomputable def stepS (st : List Str) (y : Str) : List Str :=
  if y = Str.ofString "" ∨ y = Str.ofString "." then st else if y = Str.ofString ".." then st.dropLast else st ++ [y]
noncomputable def stk (cs : List Str) : List Str := cs.foldl stepS []
theorem stepS_ne {st : List Str} {y : Str} (h : ∀ z ∈ st, z ≠ Str.ofString "..") : ∀ z ∈ stepS st y, z ≠ Str.ofString ".." := by
  unfold stepS
  split
  · exact h
  · split
    · exact fun z hz => h z (List.dropLast_subset _ hz)
    · rename_i h1 h2
      intro z hz
      rcases List.mem_append.mp hz with hz | hz
      · exact h z hz
      · rw [List.mem_singleton.mp hz]; exact h2
theorem stk_ne' : ∀ (cs st : List Str), (∀ z ∈ st, z ≠ Str.ofString "..") → ∀ z ∈ cs.foldl stepS st, z ≠ Str.ofString ".."
  | [], _, h => h
  | _ :: cs, _, h => stk_ne' cs _ (stepS_ne h)
theorem stk_ne (cs : List Str) : ∀ z ∈ stk cs, z ≠ Str.ofString ".." := stk_ne' cs [] (fun _ h => nomatch h)
theorem stk_take {cs : List Str} {i : Nat} {y : Str} (h : cs[i]? = some y) : stk (cs.take (i + 1)) = stepS (stk (cs.take i)) y := by
  unfold stk
  rw [List.take_add_one, h]
  simp
theorem stepS_len (st : List Str) (y : Str) : (stepS st y).length ≤ st.length + 1 := by
  unfold stepS
  split
  · omega
  · split
    · rw [List.length_dropLast]; omega
    · simp
theorem stk_len' : ∀ (cs st : List Str), (cs.foldl stepS st).length ≤ st.length + cs.length
  | [], _ => by simp
  | y :: cs, st => by
    have := stk_len' cs (stepS st y)
    have h2 := stepS_len st y
    simp only [List.foldl_cons, List.length_cons]
    omega
theorem stk_len (cs : List Str) : (stk cs).length ≤ cs.length := by
  have := stk_len' cs []
  simpa [stk] using this
theorem strsAre_snoc {vs : List Value} {ys : List Str} (h : StrsAre vs ys) : vs = [] ∧ ys = [] ∨ ∃ us zs z t, vs = us ++ [.str z t] ∧ ys = zs ++ [z] ∧ StrsAre us zs := by
  induction h with
  | nil => exact .inl ⟨rfl, rfl⟩
  | cons y t h ih =>
    rename_i vs ys
    refine .inr ?_
    rcases ih with ⟨rfl, rfl⟩ | ⟨us, zs, z, t', rfl, rfl, h'⟩
    · exact ⟨[], [], y, t, rfl, rfl, .nil⟩
    · exact ⟨.str y t :: us, y :: zs, z, t', rfl, rfl, .cons y t h'⟩

theorem str_len0 {y : Str} (h : (y.length : Int) = 0) : y = Str.ofString "" := by
  have h1 : y.cps = #[] := Array.eq_empty_of_size_eq_zero (by unfold Str.length at h; omega)
  cases y; cases h1; rfl
theorem str_len_ne {y : Str} (h : (y.length : Int) ≠ 0) : y ≠ Str.ofString "" := fun e => h (by rw [e]; decide)
theorem stepS_dot {st : List Str} {y : Str} (h : (y == Str.ofString ".") = true) : stepS st y = st := by
  unfold stepS; rw [if_pos (.inr (beq_iff_eq.mp h))]
theorem stepS_nil {st : List Str} {y : Str} (h : (y.length : Int) = 0) : stepS st y = st := by
  unfold stepS; rw [if_pos (.inl (str_len0 h))]
theorem stepS_push {st : List Str} {y : Str} (h0 : (y.length : Int) ≠ 0) (h1 : (y == Str.ofString ".") = false) (h2 : (y != Str.ofString "..") = true) : stepS st y = st ++ [y] := by
  unfold stepS
  rw [if_neg (fun h => h.elim (str_len_ne h0) (by simpa using h1)), if_neg (by simpa using h2)]
theorem stepS_pop {st : List Str} {y : Str} (h0 : (y.length : Int) ≠ 0) (h1 : (y == Str.ofString ".") = false) (h2 : (y != Str.ofString "..") = false) : stepS st y = st.dropLast := by
  unfold stepS
  rw [if_neg (fun h => h.elim (str_len_ne h0) (by simpa using h1)), if_pos (by simpa using h2)]
theorem lt_of_get? {α : Type} {l : List α} {i : Nat} {x : α} (h : l[i]? = some x) : i < l.length := (List.getElem?_eq_some_iff.mp h).1

theorem join_len (sep : Str) : ∀ ys : List Str, (Txt.join sep ys).length ≤ (ys.map (·.length)).sum + ys.length * sep.length := by
  intro ys
  unfold Txt.join
  rw [StrLaws.glued_eq_join]
  induction ys with
  | nil => simp [Str.join, Str.empty, Str.length]
  | cons y r ih =>
    cases r with
    | nil => simp [Str.join]
    | cons z r =>
      show (y ++ sep ++ Str.join sep (z :: r)).length ≤ _
      rw [Str.length_append, Str.length_append]
      simp only [List.map_cons, List.sum_cons, List.length_cons] at ih ⊢
      have e : (r.length + 1 + 1) * sep.length = sep.length + (r.length + 1) * sep.length := by rw [Nat.add_mul (r.length + 1) 1]; omega
      omega
theorem stk_mem' : ∀ (cs st : List Str) (y : Str), y ∈ cs.foldl stepS st → y ∈ st ∨ y ∈ cs
  | [], _, _, h => .inl h
  | c :: cs, st, y, h => by
    rcases stk_mem' cs _ y h with h | h
    · unfold stepS at h
      split at h
      · exact .inl h
      · split at h
        · exact .inl (List.dropLast_subset _ h)
        · rcases List.mem_append.mp h with h | h
          · exact .inl h
          · exact .inr (by rw [List.mem_singleton.mp h]; exact .head _)
    · exact .inr (.tail _ h)
theorem stk_mem {cs : List Str} {y : Str} (h : y ∈ stk cs) : y ∈ cs := by
  rcases stk_mem' cs [] y h with h | h
  · cases h
  · exact h
end
section
theorem c_splitext1 (w : World) (x : Str) (t u v : Tok) (a b : Int) (ha : Txt.rfind x (Str.ofString "/") = a) (hb : Txt.rfind x (Str.ofString ".") = b) (hab : 0 ≤ a ∧ a + 1 < b) (hne : Txt.slice x (some (a + 1)) (some (a + 1 + 1)) ≠ Str.ofString ".") :
    Con w 108 [.str x t, .str (Str.ofString "/") u, .none, .str (Str.ofString ".") v] 1 (fun _ => x.length ≤ 2000) (Tup2 (Txt.slice x none (some b)) (Txt.slice x (some b) none)) := by
  unfold Con
  k_fill
  intro zmean zmg zmb zdp zun zgd zcn zcs za zccd zcl zouter zA₀ zbase zh₀ zL zm zs zB zF zX zT zhk zhd zhu zhp
  k_dflt (refine' code_pure ?k1 ?k2 ?k3 ?k5 ?kA ?kF ?kK ?k6 ?k7 ?k8 ?k9 ?kB ?_ ?c2 ?c3 ?c4 ?c5; (case kA => exact rfl); (case kF => exact rfl); (case kK => assumption); (case k1 => k_asm); (case k2 => k_asm); (case k3 => k_asm); (case k5 => k_asm); (case k6 => k_is); (case k7 => k_is); (case k8 => first | exact room1 zhd | ktr_room); (case k9 => first | exact BindsTo.of_eq rfl | exact binds_K (by k_in) rfl (by k_is) rfl rfl rfl); (case c5 => decide); (case kB => exact locs rfl); (case c2 => exact rfl); (case c3 => exact rfl); (case c4 => exact rfl); k_whole)
  clear zF zX zT zB
  intro zL' zh' zF' zN' zB' zX' zT'
  (try dsimp only)
  k_fold
  k_steps
  all_goals ((try (k_unfold; try dsimp only)); refine pure_end (by k_asm) ?_)
  all_goals (
    (rename News _ _ _ _ => N9)
    subst ha hb
    first
      | exact tup2_end N9
      | (exfalso; omega)
      | (exfalso
         (rename Passed _ _ _ => hP)
         have h0 := (hP 0 (by omega) (by omega)).2
         simp at h0
         exact hne h0))
theorem c_splitext (w : World) (x : Str) (t : Tok) (a b : Int) (ha : Txt.rfind x (Str.ofString "/") = a) (hb : Txt.rfind x (Str.ofString ".") = b) (hab : 0 ≤ a ∧ a + 1 < b) (hne : Txt.slice x (some (a + 1)) (some (a + 1 + 1)) ≠ Str.ofString ".") :
    Con w 150 [.str x t] 2 (fun _ => x.length ≤ 2000) (Tup2 (Txt.slice x none (some b)) (Txt.slice x (some b) none)) := by
  unfold Con
  k_fill
  intro zmean zmg zmb zdp zun zgd zcn zcs za zccd zcl zouter zA₀ zbase zh₀ zL zm zs zB zF zX zT zhk zhd zhu zhp
  k_dflt (refine' code_pure ?k1 ?k2 ?k3 ?k5 ?kA ?kF ?kK ?k6 ?k7 ?k8 ?k9 ?kB ?_ ?c2 ?c3 ?c4 ?c5; (case kA => exact rfl); (case kF => exact rfl); (case kK => assumption); (case k1 => k_asm); (case k2 => k_asm); (case k3 => k_asm); (case k5 => k_asm); (case k6 => k_is); (case k7 => k_is); (case k8 => first | exact room1 zhd | ktr_room); (case k9 => first | exact BindsTo.of_eq rfl | exact binds_K (by k_in) rfl (by k_is) rfl rfl rfl); (case c5 => decide); (case kB => exact locs rfl); (case c2 => exact rfl); (case c3 => exact rfl); (case c4 => exact rfl); k_whole)
  clear zF zX zT zB
  intro zL' zh' zF' zN' zB' zX' zT'
  (try dsimp only)
  k_fold
  k_steps
  k_dflt refine' con_use (c_splitext1 w x _ _ _ a b ha hb hab hne) ?gB ?gF ?gX ?gN ?gT ?gk ?gd ?gu ?gp ?_
  case gB => k_asm
  case gF => k_asm
  case gX => k_asm
  case gN => k_asm
  case gT => k_asm
  case gk => exact rfl
  case gd => ktr_room
  case gu => ktr_units
  case gp => assumption
  intro r' h' tk' F' N' K' P'
  obtain ⟨D', t', u', e', P'⟩ := P'
  subst e'
  replace N' := fresh_news (by k_asm) N' P'
  clear K'
  simp only [List.cons_append, List.nil_append] at N'
  k_unmd
  ((try (k_unfold; try dsimp only)); refine pure_end (by k_asm) ?_)
  exact tup2_end (by k_asm)
end
local macro_rules | `(tactic| walk_at "pyIter ref") => `(tactic| (first | (with_reducible show wpAny _ _ _ (fun it s₂ => TurnsAt _ _ _ _ _ _ _ _ _ it s₂) _ _) | (with_reducible show wpAny _ _ _ (fun it s₂ => codeAny _ _ _ _ s₂) _ _)); refine stop_of ?_)
local macro_rules | `(tactic| walk_at "con for") => `(tactic| (k_here; (with_reducible rename Fr _ _ _ _ => lF'); (first | (with_reducible refine' For_turns lF' ?_ ?ghs ?ghE) | (with_unfolding_all refine' For_turns lF' ?_ ?ghs ?ghE)); (case ghs => k_dflt exact fun _ => rfl); (case ghE => with_unfolding_all passes_own); k_whole))
local macro_rules | `(tactic| walk_at $s:str) => match s.getString with
  | "exec For Name Name cons nil" | "exec For Name Call cons nil" | "exec For Tuple Call cons nil" | "exec For Tuple Name cons nil" | "exec For Tuple Subscript cons nil" | "exec For Name Subscript cons nil" | "exec For Name Tuple cons nil" | "exec For Tuple Tuple cons nil" => goT "con for"
  | "exec While" | "InvEndN" | "call type:enumerate" | "pyIter str" => stopT
  | _ => Lean.Macro.throwUnsupported
section
theorem es_canLayAll0 : ∀ ns : List Str, (∀ x ∈ ns, PyData.strOk x = true) → PyData.canLayAll0 (ns.map PyData.str) = true
  | [], _ => rfl
  | a :: r, h => by
    have h1 := h a (.head _)
    have h2 := es_canLayAll0 r fun x hx => h x (.tail _ hx)
    simp [PyData.canLayAll0, PyData.canLay0, h1, h2]
theorem es_depthAll : ∀ ns : List Str, PyData.depthAll (ns.map PyData.str) = 0
  | [] => rfl
  | _ :: r => by simp [PyData.depthAll, PyData.depth, es_depthAll r]
theorem es_shaped {ns : List Str} (hok : ∀ x ∈ ns, PyData.strOk x = true) : SeqAt.shaped (.list (ns.map PyData.str)) = true := by
  simp [SeqAt.shaped, PyData.canLay0, PyData.depth, es_canLayAll0 ns hok, es_depthAll]
theorem es_sameAll : ∀ ns ms : List Str, PySem.Spec.sameAll (ns.map PyData.str) (ms.map PyData.str) = decide (ns = ms)
  | [], [] => by simp [PySem.Spec.sameAll]
  | [], _ :: _ => by simp [PySem.Spec.sameAll]
  | _ :: _, [] => by simp [PySem.Spec.sameAll]
  | a :: r, b :: t => by
    simp only [List.map_cons, PySem.Spec.sameAll, PySem.Spec.same, es_sameAll r t]
    by_cases h : a = b <;> by_cases h' : r = t <;> simp [h, h']
theorem es_same (ns ms : List Str) : PySem.Spec.same (.list (ns.map PyData.str)) (.list (ms.map PyData.str)) = decide (ns = ms) := by
  simp only [PySem.Spec.same]; exact es_sameAll ns ms
theorem es_carried : ∀ {vs : List Value} {ns : List Str}, StrsAre vs ns → CarriedAll vs (ns.map PyData.str)
  | _, _, .nil => .nil
  | _, _, .cons _ t r => .cons (.str _ t) (es_carried r)
section
variable {prog : Program} {w : World} {A : Around} {E : Value → Shared → Prop} {s : Shared} {a b : Addr} {xs ys : List Value} {ns ms : List Str} {Q : Value → Shared → Prop}
theorem eq_strs (ha : s.heap.IsList a xs.toArray) (hb : s.heap.IsList b ys.toArray) (hi : StrsAre xs ns) (hj : StrsAre ys ms) (hki : ∀ x ∈ ns, PyData.strOk x = true) (hkj : ∀ x ∈ ms, PyData.strOk x = true) (hu : A.units + 64 < cLine) (h : Q (.bool (decide (ns = ms))) s) :
    wpAny (model prog w) A (compareOp .Eq (.ref a) (.ref b)) Q E s :=
  eq_dataH_same (reads_newData ha (es_carried hi)) (reads_newData hb (es_carried hj)) (es_shaped hki) (es_shaped hkj) hu (SeqAt.noMix_of_shape (.list .str) rfl _ _ (list_map_has fun _ => rfl) (list_map_has fun _ => rfl)) (by rw [es_same]; exact h)
theorem ne_strs (ha : s.heap.IsList a xs.toArray) (hb : s.heap.IsList b ys.toArray) (hi : StrsAre xs ns) (hj : StrsAre ys ms) (hki : ∀ x ∈ ns, PyData.strOk x = true) (hkj : ∀ x ∈ ms, PyData.strOk x = true) (hu : A.units + 64 < cLine) (h : Q (.bool (!decide (ns = ms))) s) :
    wpAny (model prog w) A (compareOp .NotEq (.ref a) (.ref b)) Q E s :=
  ne_dataH_same (reads_newData ha (es_carried hi)) (reads_newData hb (es_carried hj)) (es_shaped hki) (es_shaped hkj) hu (SeqAt.noMix_of_shape (.list .str) rfl _ _ (list_map_has fun _ => rfl) (list_map_has fun _ => rfl)) (by rw [es_same]; exact h)
end
theorem mm_nat {x : Int} (h : 0 ≤ x) (n : Nat) : max 0 (min x (n : Int)) = ((min x.toNat n : Nat) : Int) := by
  obtain ⟨m, rfl⟩ := Int.eq_ofNat_of_zero_le h
  rw [Int.toNat_natCast]
  by_cases q : m ≤ n
  · rw [Nat.min_eq_left q, Int.min_eq_left (Int.ofNat_le.mpr q), Int.max_eq_right (Int.natCast_nonneg _)]
  · have q := Nat.le_of_not_le q
    rw [Nat.min_eq_right q, Int.min_eq_right (Int.ofNat_le.mpr q), Int.max_eq_right (Int.natCast_nonneg _)]
theorem pick_nn (vs : List Value) {x y : Int} (h : 0 ≤ x) (h2 : x ≤ y) : (slicePick vs.toArray (some x) (some y) none).toList = (vs.drop x.toNat).take (y.toNat - x.toNat) := by
  have e : sliceBounds (some x) (some y) none vs.toArray.size = (((min x.toNat vs.length : Nat) : Int), ((min y.toNat vs.length : Nat) : Int), 1) := by
    simp only [sliceBounds, Option.getD_none, show (1 : Int) > 0 by decide, if_true, if_neg (show ¬ (y < 0) by omega), if_neg (show ¬ (x < 0) by omega), List.size_toArray]
    rw [mm_nat h, mm_nat (Int.le_trans h h2)]
  rw [kmk_pick_nat _ e]
  show (vs.drop (min x.toNat vs.length)).take (min y.toNat vs.length - min x.toNat vs.length) = _
  rw [kmk_drop_min]
  by_cases hx : x.toNat ≤ vs.length
  · rw [Nat.min_eq_left hx]
    by_cases hy : y.toNat ≤ vs.length
    · rw [Nat.min_eq_left hy]
    · rw [Nat.min_eq_right (by omega), List.take_of_length_le (by rw [List.length_drop]; omega), List.take_of_length_le (by rw [List.length_drop]; omega)]
  · rw [List.drop_of_length_le (by omega)]; simp
theorem one_strs {vs : List Value} {xs : List Str} (h : StrsAre vs xs) (k : Nat) : (∃ y t, xs[k]? = some y ∧ (vs.drop k).take 1 = [.str y t] ∧ k < xs.length) ∨ (xs[k]? = none ∧ (vs.drop k).take 1 = [] ∧ xs.length ≤ k) := by
  induction h generalizing k with
  | nil => exact .inr ⟨by simp, by simp, by simp⟩
  | cons y t h ih =>
    cases k with
    | zero => exact .inl ⟨y, t, rfl, by simp, by simp⟩
    | succ k =>
      rcases ih k with ⟨y', t', a, b, c⟩ | ⟨a, b, c⟩
      · exact .inl ⟨y', t', by simpa using a, by simpa using b, by simpa using c⟩
      · exact .inr ⟨by simpa using a, by simpa using b, by simpa using c⟩
theorem pick_up (vs : List Value) {y : Int} (h2 : 0 ≤ y) : (slicePick vs.toArray none (some y) none).toList = vs.take y.toNat := by
  have e : sliceBounds none (some y) none vs.toArray.size = (((0 : Nat) : Int), ((min y.toNat vs.length : Nat) : Int), 1) := by
    simp only [sliceBounds, Option.getD_none, show (1 : Int) > 0 by decide, if_true, if_neg (show ¬ (y < 0) by omega), List.size_toArray]
    rw [mm_nat h2]
    rfl
  rw [kmk_pick_nat _ e]
  show (vs.drop 0).take (min y.toNat vs.length - 0) = _
  rw [List.drop_zero, Nat.sub_zero, kmk_take_min]
theorem strsAre_take {vs : List Value} {xs : List Str} (h : StrsAre vs xs) : ∀ k, StrsAre (vs.take k) (xs.take k) := by
  induction h with
  | nil => intro k; simp; exact .nil
  | cons y t h ih =>
    intro k
    cases k with
    | zero => exact .nil
    | succ k => exact .cons y t (ih k)
noncomputable def bothN : List Str → List Str → Nat
  | x :: xs, y :: ys => if x = y then bothN xs ys + 1 else 0
  | _, _ => 0
theorem bothN_eq : ∀ (k : Nat) (xs ys : List Str), xs.take k = ys.take k → k ≤ xs.length → k ≤ ys.length → (xs[k]? = none ∨ ys[k]? = none ∨ xs[k]? ≠ ys[k]?) → bothN xs ys = k
  | 0, [], _, _, _, _, _ => by simp [bothN]
  | 0, _ :: _, [], _, _, _, _ => by simp [bothN]
  | 0, x :: xs, y :: ys, _, _, _, h => by
    have : x ≠ y := by simpa using h
    simp [bothN, this]
  | k + 1, [], _, _, h, _, _ => by simp at h
  | k + 1, _ :: _, [], _, _, h, _ => by simp at h
  | k + 1, x :: xs, y :: ys, ht, h1, h2, h => by
    simp only [List.take_succ_cons, List.cons.injEq] at ht
    have := bothN_eq k xs ys ht.2 (by simpa using h1) (by simpa using h2) (by simpa using h)
    simp [bothN, ht.1, this]
theorem take_more {xs ys : List Str} {k : Nat} {y : Str} (h : xs.take k = ys.take k) (h1 : xs[k]? = some y) (h2 : ys[k]? = some y) : xs.take (k + 1) = ys.take (k + 1) := by
  rw [List.take_add_one, List.take_add_one, h, h1, h2]
end
section
theorem and_nat {x y : Int} (hx : 0 ≤ x) (hy : 0 ≤ y) : Builtin.bitAnd x y = ((x.toNat &&& y.toNat : Nat) : Int) := by simp [Builtin.bitAnd, hx, hy]
theorem or_nat {x y : Int} (hx : 0 ≤ x) (hy : 0 ≤ y) : Builtin.bitOr x y = ((x.toNat ||| y.toNat : Nat) : Int) := by
  rw [bitOr_and, and_nat hx hy]
  have := nat_or_add_and x.toNat y.toNat
  omega
theorem nat_xor_and (m : Nat) : ∀ n : Nat, (m ^^^ n) + 2 * (m &&& n) = m + n := by
  induction m using Nat.strongRecOn with
  | ind m ih =>
    intro n
    by_cases h0 : m = 0
    · subst h0; simp
    · have ih' := ih (m / 2) (by omega) (n / 2)
      rw [← Nat.xor_div_two, ← Nat.and_div_two] at ih'
      have hx : (m ^^^ n) % 2 + 2 * ((m &&& n) % 2) = m % 2 + n % 2 := by
        have o1 := @Nat.xor_mod_two_eq_one m n
        have a1 := @Nat.and_mod_two_eq_one m n
        have hx0 := Nat.mod_two_eq_zero_or_one (m ^^^ n)
        have hy0 := Nat.mod_two_eq_zero_or_one (m &&& n)
        generalize (m ^^^ n) % 2 = x at *
        generalize (m &&& n) % 2 = y at *
        rcases Nat.mod_two_eq_zero_or_one m with a | a <;> rcases Nat.mod_two_eq_zero_or_one n with b | b <;> rw [a, b] at o1 a1 ⊢ <;> rcases hx0 with rfl | rfl <;> rcases hy0 with rfl | rfl <;> simp at o1 a1 <;> rfl
      clear ih
      generalize m ^^^ n = x at *
      generalize m &&& n = y at *
      omega
theorem xor_nat {x y : Int} (hx : 0 ≤ x) (hy : 0 ≤ y) : Builtin.bitXor x y = ((x.toNat ^^^ y.toNat : Nat) : Int) := by
  unfold Builtin.bitXor
  rw [bitOr_and, and_nat hx hy]
  have := nat_xor_and x.toNat y.toNat
  omega
theorem and_bd {x y : Int} (hx : 0 ≤ x) (hy : 0 ≤ y) : 0 ≤ Builtin.bitAnd x y ∧ Builtin.bitAnd x y ≤ y := by
  rw [and_nat hx hy]
  have h : x.toNat &&& y.toNat ≤ y.toNat := Nat.and_le_right
  omega
theorem or_bd {x y : Int} (hx : 0 ≤ x) (hx2 : x < 4294967296) (hy : 0 ≤ y) (hy2 : y < 4294967296) : 0 ≤ Builtin.bitOr x y ∧ Builtin.bitOr x y < 4294967296 := by
  rw [or_nat hx hy]
  have h : x.toNat ||| y.toNat < 2 ^ 32 := Nat.or_lt_two_pow (by omega) (by omega)
  omega
theorem xor_bd {x y : Int} (hx : 0 ≤ x) (hx2 : x < 4294967296) (hy : 0 ≤ y) (hy2 : y < 4294967296) : 0 ≤ Builtin.bitXor x y ∧ Builtin.bitXor x y < 4294967296 := by
  rw [xor_nat hx hy]
  have h : x.toNat ^^^ y.toNat < 2 ^ 32 := Nat.xor_lt_two_pow (by omega) (by omega)
  omega
noncomputable def opS (k x y : Int) : Int := if k = 0 then Builtin.bitAnd x y else if k = 1 then Builtin.bitOr x y else Builtin.bitXor x y
theorem opS_bd {x y : Int} (k : Int) (hx : 0 ≤ x) (hx2 : x < 4294967296) (hy : 0 ≤ y) (hy2 : y < 4096) : 0 ≤ opS k x y ∧ opS k x y < 4294967296 := by
  unfold opS
  split
  · have := and_bd hx hy; omega
  · split
    · exact or_bd hx hx2 hy (by omega)
    · exact xor_bd hx hx2 hy (by omega)
noncomputable def stepR (m : Int) (q : Int × Int) : Int := Builtin.bitOr (Builtin.bitAnd m 61440) (Builtin.bitAnd (opS q.1 m q.2) 4095)
theorem stepR_bd {m : Int} {q : Int × Int} (hx : 0 ≤ m) (hx2 : m < 4294967296) (hy : 0 ≤ q.2) (hy2 : q.2 < 4096) : 0 ≤ stepR m q ∧ stepR m q < 4294967296 := by
  have h1 := and_bd hx (show (0 : Int) ≤ 61440 by decide)
  have h2 := opS_bd q.1 hx hx2 hy hy2
  have h3 := and_bd h2.1 (show (0 : Int) ≤ 4095 by decide)
  exact or_bd h1.1 (by omega) h3.1 (by omega)
end
section
theorem c_isreg (w : World) (x : Int) (t : Tok) : Con w 228 [.int x t] 2 (fun _ => 0 ≤ x ∧ x < 4294967296) (fun g h v => v = .bool (Builtin.bitAnd x 61440 == 32768)) := by
  unfold Con
  k_fill
  intro zmean zmg zmb zdp zun zgd zcn zcs za zccd zcl zouter zA₀ zbase zh₀ zL zm zs zB zF zX zT zhk zhd zhu zhp
  k_dflt (refine' code_pure ?k1 ?k2 ?k3 ?k5 ?kA ?kF ?kK ?k6 ?k7 ?k8 ?k9 ?kB ?_ ?c2 ?c3 ?c4 ?c5; (case kA => exact rfl); (case kF => exact rfl); (case kK => assumption); (case k1 => k_asm); (case k2 => k_asm); (case k3 => k_asm); (case k5 => k_asm); (case k6 => k_is); (case k7 => k_is); (case k8 => first | exact room1 zhd | ktr_room); (case k9 => first | exact BindsTo.of_eq rfl | exact binds_K (by k_in) rfl (by k_is) rfl rfl rfl); (case c5 => decide); (case kB => exact locs rfl); (case c2 => exact rfl); (case c3 => exact rfl); (case c4 => exact rfl); k_whole)
  clear zF zX zT zB
  intro zL' zh' zF' zN' zB' zX' zT'
  (try dsimp only)
  k_fold
  rename _ ∧ _ => hp
  obtain ⟨hp1, hp2⟩ := id hp
  k_steps
  all_goals ((try (k_unfold; try dsimp only)); refine pure_end (by k_asm) ?_)
  rfl
theorem c_isdir (w : World) (x : Int) (t : Tok) : Con w 221 [.int x t] 2 (fun _ => 0 ≤ x ∧ x < 4294967296) (fun g h v => v = .bool (Builtin.bitAnd x 61440 == 16384)) := by
  unfold Con
  k_fill
  intro zmean zmg zmb zdp zun zgd zcn zcs za zccd zcl zouter zA₀ zbase zh₀ zL zm zs zB zF zX zT zhk zhd zhu zhp
  k_dflt (refine' code_pure ?k1 ?k2 ?k3 ?k5 ?kA ?kF ?kK ?k6 ?k7 ?k8 ?k9 ?kB ?_ ?c2 ?c3 ?c4 ?c5; (case kA => exact rfl); (case kF => exact rfl); (case kK => assumption); (case k1 => k_asm); (case k2 => k_asm); (case k3 => k_asm); (case k5 => k_asm); (case k6 => k_is); (case k7 => k_is); (case k8 => first | exact room1 zhd | ktr_room); (case k9 => first | exact BindsTo.of_eq rfl | exact binds_K (by k_in) rfl (by k_is) rfl rfl rfl); (case c5 => decide); (case kB => exact locs rfl); (case c2 => exact rfl); (case c3 => exact rfl); (case c4 => exact rfl); k_whole)
  clear zF zX zT zB
  intro zL' zh' zF' zN' zB' zX' zT'
  (try dsimp only)
  k_fold
  rename _ ∧ _ => hp
  obtain ⟨hp1, hp2⟩ := id hp
  k_steps
  all_goals ((try (k_unfold; try dsimp only)); refine pure_end (by k_asm) ?_)
  rfl
end
section
local macro_rules | `(tactic| walk_at "no such key") => `(tactic| skip)
theorem c_isabs (w : World) (x : Str) (t : Tok) : Con w 129 [.str x t] 2 (fun _ => x.length ≤ 2000) (fun _ h v => v = .bool (Txt.startswith x (Str.ofString "/"))) := by
  unfold Con
  k_fill
  intro zmean zmg zmb zdp zun zgd zcn zcs za zccd zcl zouter zA₀ zbase zh₀ zL zm zs zB zF zX zT zhk zhd zhu zhp
  k_dflt (refine' code_pure ?k1 ?k2 ?k3 ?k5 ?kA ?kF ?kK ?k6 ?k7 ?k8 ?k9 ?kB ?_ ?c2 ?c3 ?c4 ?c5; (case kA => exact rfl); (case kF => exact rfl); (case kK => assumption); (case k1 => k_asm); (case k2 => k_asm); (case k3 => k_asm); (case k5 => k_asm); (case k6 => k_is); (case k7 => k_is); (case k8 => first | exact room1 zhd | ktr_room); (case k9 => first | exact BindsTo.of_eq rfl | exact binds_K (by k_in) rfl (by k_is) rfl rfl rfl); (case c5 => decide); (case kB => exact locs rfl); (case c2 => exact rfl); (case c3 => exact rfl); (case c4 => exact rfl); k_whole)
  clear zF zX zT zB
  intro zL' zh' zF' zN' zB' zX' zT'
  (try dsimp only)
  k_fold
  k_steps
  all_goals ((try (k_unfold; try dsimp only)); refine pure_end (by k_asm) ?_)
  rfl
end
section
local macro_rules | `(tactic| walk_at "eval ListComp") => stopT
local macro_rules | `(tactic| walk_at "eval Name") => nmT "size"
local macro_rules | `(tactic| walk_at "eval Name") => `(tactic| (k_here; (with_reducible show wpAny _ _ (eval (Expr.Name (Str.ofString "mask") _) (compEnvC _ _ _ _)) _ _ _); (with_reducible rename (_ = Data.cell _) => hc9); k_dflt refine kcf_cell (by k_asm) (by rfl) (by k_mem) hc9 ?_))
noncomputable def figS (m k : Int) : Str := ⟨#[(48 + (m.fdiv k).fmod 8).toNat]⟩
noncomputable def figsS (m : Int) : List Str := [figS m 512, figS m 64, figS m 8, figS m 1]
noncomputable def nameS (k m : Int) : Str := [Str.ofString "and", Str.ofString "or", Str.ofString "xor"].getD k.toNat Str.empty ++ Str.ofString "." ++ Txt.join (Str.ofString "") (figsS m)
noncomputable def FigFel (m : Int) (v y : Value) : Prop := ∃ k u t, v = Value.int k u ∧ y = .str (figS m k) t
theorem figs_of {m : Int} {t0 t1 t2 t3 : Tok} {ys : List Value} (h : Paired (FigFel m) [.int 512 t0, .int 64 t1, .int 8 t2, .int 1 t3] ys) : StrsAre ys (figsS m) := by
  rcases h with _ | ⟨⟨k, u, t, e, rfl⟩, _ | ⟨⟨k, u, t, e', rfl⟩, _ | ⟨⟨k, u, t, e2, rfl⟩, _ | ⟨⟨k, u, t, e3, rfl⟩, h⟩⟩⟩⟩
  cases h
  cases e; cases e'; cases e2; cases e3
  exact .cons _ _ (.cons _ _ (.cons _ _ (.cons _ _ .nil)))
theorem figs_len (m : Int) : (Txt.join (Str.ofString "") (figsS m)).length = 4 := by
  unfold Txt.join
  rw [StrLaws.glued_eq_join]
  rfl
theorem c_name (w : World) (k m : Int) (t u : Tok) : Con w 273 [.int k t, .int m u] 2 (fun _ => 0 ≤ k ∧ k < 3 ∧ 0 ≤ m ∧ m < 4096) (fun g h v => ∃ t, v = .str (nameS k m) t) := by
  unfold Con
  k_fill
  intro zmean zmg zmb zdp zun zgd zcn zcs za zccd zcl zouter zA₀ zbase zh₀ zL zm zs zB zF zX zT zhk zhd zhu zhp
  k_dflt (refine' code_pureC ?k1 ?k2 ?k3 ?k5 ?kA ?kF ?kK ?k6 ?k7 ?k8 ?k9 ?kB ?kD ?_ ?c2 ?c3 ?c4; (case kA => exact rfl); (case kF => exact rfl); (case kK => assumption); (case k1 => k_asm); (case k2 => k_asm); (case k3 => k_asm); (case k5 => k_asm); (case k6 => k_is); (case k7 => k_is); (case k8 => first | exact room1 zhd | ktr_room); (case k9 => first | exact BindsTo.of_eq rfl | exact binds_K (by k_in) rfl (by k_is) rfl rfl rfl); (case kB => exact rfl); (case kD => decide +kernel); (case c2 => exact rfl); (case c3 => exact rfl); (case c4 => exact rfl))
  clear zF zX zT zB
  intro zL' zh' ztk' zcells' zF' zN' zY' zB' zX' zT'
  k_cells zY'
  (try simp only [List.cons_append, List.nil_append] at zN')
  (try dsimp only)
  refine wp_same ?_
  k_fold
  rename _ ∧ _ => hp
  obtain ⟨hp1, hp2, hp3, hp4⟩ := id hp
  k_steps
  show wpAny _ _ _ _ _ _
  (rename Fr _ _ _ _ => F')
  refine comp_seq F' (FigFel m) (by rfl) (by decide) (by rfl) (by decide) (by rfl) ?_ (by intro _; rfl)
  k_steps
  refine ⟨_, _, _, rfl, .inl ⟨_, (News.get (by k_asm) (by k_mem)), rfl, _, rfl⟩, by simp [sizeLine_eq], rfl, by k_asm, by k_asm, ?_, ?_⟩
  · intro C v s₃ m₃ E' hv hn hm hk
    have hv' : ∃ k9 u9, v = .int k9 u9 ∧ 0 < k9 ∧ k9 ≤ 512 := by
      simp only [List.mem_cons, List.not_mem_nil, or_false] at hv
      rcases hv with e | e | e | e <;> exact ⟨_, _, e, by decide, by decide⟩
    obtain ⟨k9, u9, rfl, hk1, hk2⟩ := hv'
    (rename News _ _ _ _ => N9); (rename Fr _ _ _ _ => F9)
    have F3 := F9.kept hk
    have N3 := N9.keepsAll hk
    rename Obj => o9
    rename o9.data = _ => d9
    clear N9 F9 hv hp hk hp1 hp2
    obtain ⟨h3, g3, d3, t3, os3⟩ := s₃
    refine wp_same ?_
    k_steps
    · exact ⟨_, _, _, rfl, rfl⟩
    · exact ⟨_, _, rfl, fun _ _ e => e⟩
  · intro D ys n h' tk F' N' hne hpa
    have hys : StrsAre ys (figsS m) := figs_of hpa
    have hj3 : ((figsS m).map (·.length)).sum + (figsS m).length * (Str.ofString "").length ≤ 16777216 := by show 4 + 4 * 0 ≤ 16777216; decide
    have hj5 : (Txt.join (Str.ofString "") (figsS m)).length = 4 := figs_len m
    clear hpa hne
    refine wp_same ?_
    k_steps
    all_goals ((try (k_unfold; try dsimp only)); refine pure_end (by k_asm) ?_)
    exact ⟨_, by subst_vars; rfl⟩
theorem nameS_len (k m : Int) : (nameS k m).length ≤ 8 := by
  unfold nameS
  rw [Str.length_append, Str.length_append, figs_len]
  have h1 : (Str.ofString ".").length = 1 := by decide
  have h2 : ([Str.ofString "and", Str.ofString "or", Str.ofString "xor"].getD k.toNat Str.empty).length ≤ 3 := by
    rcases k.toNat with _ | _ | _ | n
    · decide
    · decide
    · decide
    · exact Nat.zero_le _
  omega
end
section
noncomputable def bitPick (k a b : Int) : Int := [a * b, if b > a then b else a, (a + b).fmod 2].getD k.toNat 0
noncomputable def mixTerm (x k m : Int) (i : Nat) : Int := 2 ^ (0 + (i : Int) * 1).toNat * bitPick k ((x.fdiv (2 ^ (0 + (i : Int) * 1).toNat)).fmod 2) ((m.fdiv (2 ^ (0 + (i : Int) * 1).toNat)).fmod 2)
noncomputable def mixedS (x k m : Int) (n : Nat) : Int := (List.range n).foldl (fun e i => e + mixTerm x k m i) ((x.fdiv 4096).fmod 16 * 4096)
theorem mixedS_succ (x k m : Int) (n : Nat) : mixedS x k m (n + 1) = mixedS x k m n + mixTerm x k m n := by
  unfold mixedS
  rw [List.range_succ, List.foldl_append]
  rfl
theorem c_mixed (w : World) (x k m : Int) (t u v : Tok) : Con w 301 [.int x t, .int k u, .int m v] 2 (fun _ => 0 ≤ x ∧ x < 65536 ∧ 0 ≤ k ∧ k < 3 ∧ 0 ≤ m ∧ m < 4096) (fun g h v => ∃ t, v = .int (mixedS x k m 12) t) := by
  unfold Con
  k_fill
  intro zmean zmg zmb zdp zun zgd zcn zcs za zccd zcl zouter zA₀ zbase zh₀ zL zm zs zB zF zX zT zhk zhd zhu zhp
  k_dflt (refine' code_pure ?k1 ?k2 ?k3 ?k5 ?kA ?kF ?kK ?k6 ?k7 ?k8 ?k9 ?kB ?_ ?c2 ?c3 ?c4 ?c5; (case kA => exact rfl); (case kF => exact rfl); (case kK => assumption); (case k1 => k_asm); (case k2 => k_asm); (case k3 => k_asm); (case k5 => k_asm); (case k6 => k_is); (case k7 => k_is); (case k8 => first | exact room1 zhd | ktr_room); (case k9 => first | exact BindsTo.of_eq rfl | exact binds_K (by k_in) rfl (by k_is) rfl rfl rfl); (case c5 => decide); (case kB => exact locs rfl); (case c2 => exact rfl); (case c3 => exact rfl); (case c4 => exact rfl); k_whole)
  clear zF zX zT zB
  intro zL' zh' zF' zN' zB' zX' zT'
  (try dsimp only)
  k_fold
  rename _ ∧ _ => hp
  obtain ⟨hp1, hp2, hp3, hp4, hp5, hp6⟩ := id hp
  k_steps
  show wpAny _ _ _ _ _ _
  (rename News _ _ _ _ => N'); (rename Fr _ _ _ _ => F'); (rename IsRange _ _ _ _ _ _ _ _ => hr)
  have kMark : KstMark := kstMark
  k_dflt refine iter_range (σ := Int × Tok) (n := 12) (fun _ => []) (fun c => [(Str.ofString "mixed", .int c.1 c.2)]) [Str.ofString "k", Str.ofString "one", Str.ofString "other"] (fun i c => c.1 = mixedS x k m i) (_, _) rfl hr (by decide) (by rfl) F' N' (fun p hp => by rw [List.mem_singleton.mp hp]; rfl) rfl ?_ ?_ ?_
  · intro I x left step v s Q E _ h
    exact wpAny_pure h
  · intro d i t u h tk own hi hoff hI Fk Nk
    refine wp_same ?_
    k_fold
    obtain ⟨e, te⟩ := d
    clear F' N' hr
    dsimp only [kstB] at Fk Nk hI
    refine wp_same ?_
    k_steps
    (rename News _ _ _ _ => N9)
    refine of_stop (st1_end (⟨_, _⟩ : Int × Tok) (by k_asm) N9 (fun p hp => nomatch hp) (fun p hp => ?_) rfl (fun p hp => by rw [List.mem_singleton.mp hp]; rfl) (fun z h2 h3 => ?_) ?_)
    · exact .tail _ hp
    · simp only [List.forall_mem_cons, List.not_mem_nil, false_implies, implies_true, and_true, ne_eq] at h2
      simp only [List.contains_cons, List.contains_nil, Bool.or_false, Bool.or_eq_false_iff, beq_eq_false_iff_ne, ne_eq] at h3
      simp [h2, h3]
    · rw [mixedS_succ, ← hI]; rfl
  · intro d u h tk hI Fk Nk
    obtain ⟨e, te⟩ := d
    clear F' N' hr
    dsimp only [kstB] at Fk Nk hI
    refine wp_same ?_
    k_steps
    all_goals ((try (k_unfold; try dsimp only)); refine pure_end (by k_asm) ?_)
    exact ⟨_, by rw [← hI]⟩
end
section
local macro_rules | `(tactic| walk_at "subscriptTail Name Slice ref ref") => do
  let t ← ln "kmk_slice_lit N N G P P A _ u p S" "D' h' F' N' l1" false
  `(tactic| (k_here; (with_reducible show wpAny _ _ (subscriptTail _ (PySem.Expr.Slice _ _ none _) (Value.ref _) (Value.ref _)) _ _ _); $t:tactic; (try k_lt l1); (try k_sweep)))
local macro_rules | `(tactic| walk_at "compareOp Eq ref ref") => ln "eq_strs G G C C A A U _"
local macro_rules | `(tactic| walk_at "compareOp NotEq ref ref") => ln "ne_strs G G C C A A U _"
theorem nx0 {e : Int} (h : 0 ≤ e) : 0 ≤ e + 1 := Int.add_nonneg h (by decide)
theorem nx4 {e : Int} (h : 0 ≤ e) : (e + 1).toNat = e.toNat + 1 := Int.toNat_add h (by decide)
theorem nx1 {e : Int} (h : 0 ≤ e) : (e + 1).toNat - e.toNat = 1 := by rw [nx4 h, Nat.add_sub_cancel_left]
theorem nx2 {e : Int} {n : Nat} (h : 0 ≤ e) (h1 : e.toNat < n) : (e + 1).toNat ≤ n := by rw [nx4 h]; exact h1
theorem nx3 {e : Int} {n : Nat} (h : 0 ≤ e) (h1 : e.toNat < n) : n - (e + 1).toNat < n - e.toNat := by rw [nx4 h]; exact Nat.sub_lt_sub_left h1 (Nat.lt_succ_self _)
theorem c_both (w : World) (l1 l2 : Addr) (vs1 vs2 : List Value) (xs1 xs2 : List Str) : Con w 322 [.ref l1, .ref l2] 10 (fun h => h.IsList l1 vs1.toArray ∧ h.IsList l2 vs2.toArray ∧ StrsAre vs1 xs1 ∧ StrsAre vs2 xs2 ∧ xs1.length ≤ 20 ∧ xs2.length ≤ 20 ∧ (∀ x ∈ xs1, x.length ≤ 10 ∧ PyData.strOk x = true) ∧ (∀ x ∈ xs2, x.length ≤ 10 ∧ PyData.strOk x = true)) (fun g h v => ∃ t, v = .str (Str.ofString "/" ++ Txt.join (Str.ofString "/") (xs1.take (bothN xs1 xs2))) t) := by
  unfold Con
  k_fill
  intro zmean zmg zmb zdp zun zgd zcn zcs za zccd zcl zouter zA₀ zbase zh₀ zL zm zs zB zF zX zT zhk zhd zhu zhp
  k_dflt (refine' code_pure ?k1 ?k2 ?k3 ?k5 ?kA ?kF ?kK ?k6 ?k7 ?k8 ?k9 ?kB ?_ ?c2 ?c3 ?c4 ?c5; (case kA => exact rfl); (case kF => exact rfl); (case kK => assumption); (case k1 => k_asm); (case k2 => k_asm); (case k3 => k_asm); (case k5 => k_asm); (case k6 => k_is); (case k7 => k_is); (case k8 => first | exact room1 zhd | ktr_room); (case k9 => first | exact BindsTo.of_eq rfl | exact binds_K (by k_in) rfl (by k_is) rfl rfl rfl); (case c5 => decide); (case kB => exact locs rfl); (case c2 => exact rfl); (case c3 => exact rfl); (case c4 => exact rfl); k_whole)
  clear zF zX zT zB
  intro zL' zh' zF' zN' zB' zX' zT'
  (try dsimp only)
  k_fold
  rename _ ∧ _ => hp
  obtain ⟨hp1, hp2, hp3, hp4, hp5, hp6, hp7, hp8⟩ := id hp
  k_steps
  show wpAny _ _ _ _ _ _
  (rename News _ _ _ _ => N'); (rename Fr _ _ _ _ => F')
  have kMark : KstMark := kstMark
  have hl1 := hp3.length
  have hl2 := hp4.length
  have hv1 : vs1.toArray.size ≤ sizeLine := by rw [List.size_toArray, sizeLine_eq]; omega
  have hv2 : vs2.toArray.size ≤ sizeLine := by rw [List.size_toArray, sizeLine_eq]; omega
  have hk0 : ∀ x ∈ ([] : List Str), PyData.strOk x = true := fun x hx => nomatch hx
  k_dflt refine while_st (σ := Int × Tok) (fun _ => []) (fun c => [(Str.ofString "count", .int c.1 c.2)]) [] (fun c => 0 ≤ c.1 ∧ c.1.toNat ≤ xs1.length ∧ c.1.toNat ≤ xs2.length ∧ xs1.take c.1.toNat = xs2.take c.1.toNat) (fun c => xs1.length - c.1.toNat) (_, _) F' N' (fun p hp => by rw [List.mem_singleton.mp hp]; rfl) ?_ ?_ ?_
  · exact ⟨Int.le_refl 0, by simp, by simp, by simp⟩
  · intro c u h tk hI Fk Nk
    refine wp_same ?_
    k_fold
    obtain ⟨e, te⟩ := c
    clear F' N' hp
    dsimp only [kstB] at Fk Nk hI
    obtain ⟨hI0, hI1, hI2, hI3⟩ := hI
    have hs1 := pick_nn vs1 hI0 (Int.le_add_of_nonneg_right (show (0 : Int) ≤ 1 by decide))
    have hs2 := pick_nn vs2 hI0 (Int.le_add_of_nonneg_right (show (0 : Int) ≤ 1 by decide))
    have he1 : (e + 1).toNat - e.toNat = 1 := nx1 hI0
    rw [he1] at hs1 hs2
    have hsu := pick_up vs1 hI0
    have hst := strsAre_take hp3 e.toNat
    have hj1 := StrLaws.sumLen_le (B := 10) (xs1.take e.toNat) fun y hy => (hp7 y (List.mem_of_mem_take hy)).1
    have hj2 : (xs1.take e.toNat).length ≤ 20 := by rw [List.length_take]; omega
    have hj3 : ((xs1.take e.toNat).map (·.length)).sum + (xs1.take e.toNat).length * (Str.ofString "/").length ≤ 16777216 := by
      rw [show (Str.ofString "/").length = 1 from by decide]; omega
    have hj4 := join_len (Str.ofString "/") (xs1.take e.toNat)
    have hj5 : (Txt.join (Str.ofString "/") (xs1.take e.toNat)).length ≤ 1000000 := by
      rw [show (Str.ofString "/").length = 1 from by decide] at hj4; omega
    clear hj1 hj2 hj4
    rcases one_strs hp3 e.toNat with ⟨y1, t1, a1, b1, c1⟩ | ⟨a1, b1, c1⟩ <;> rcases one_strs hp4 e.toNat with ⟨y2, t2, a2, b2, c2⟩ | ⟨a2, b2, c2⟩ <;> rw [b1] at hs1 <;> rw [b2] at hs2
    · have hk1 : ∀ x ∈ [y1], PyData.strOk x = true := fun x hx => by rw [List.mem_singleton.mp hx]; exact (hp7 _ (List.mem_of_getElem? a1)).2
      have hk2 : ∀ x ∈ [y2], PyData.strOk x = true := fun x hx => by rw [List.mem_singleton.mp hx]; exact (hp8 _ (List.mem_of_getElem? a2)).2
      refine wp_same ?_
      k_steps
      all_goals first
        | (exfalso; simp_all; done)
        | (((try (k_unfold; try dsimp only)); refine pure_end (by k_asm) ?_); exact ⟨_, by rw [bothN_eq e.toNat xs1 xs2 hI3 hI1 hI2 (.inr (.inr (by rw [a1, a2]; simp_all)))]⟩)
        | (refine wh_end (⟨e + 1, _⟩ : Int × Tok) (by k_asm) News.nil (fun p hp => by rw [List.mem_singleton.mp hp]; rfl) (fun z h2 h3 => ?_) ⟨⟨nx0 hI0, nx2 hI0 (by assumption), nx2 hI0 (by assumption), ?_⟩, nx3 hI0 (by assumption)⟩
           · simp only [List.forall_mem_cons, List.not_mem_nil, false_implies, implies_true, and_true, ne_eq] at h2
             simp [h2]
           · have e3 : (e + 1).toNat = e.toNat + 1 := nx4 hI0
             have e4 : y1 = y2 := by simp_all
             subst e4
             rw [e3]; exact take_more hI3 a1 a2)
    · have hk1 : ∀ x ∈ [y1], PyData.strOk x = true := fun x hx => by rw [List.mem_singleton.mp hx]; exact (hp7 _ (List.mem_of_getElem? a1)).2
      refine wp_same ?_
      k_steps
      all_goals first
        | (exfalso; simp_all; done)
        | (((try (k_unfold; try dsimp only)); refine pure_end (by k_asm) ?_); exact ⟨_, by rw [bothN_eq e.toNat xs1 xs2 hI3 hI1 hI2 (.inr (.inl a2))]⟩)
    · have hk2 : ∀ x ∈ [y2], PyData.strOk x = true := fun x hx => by rw [List.mem_singleton.mp hx]; exact (hp8 _ (List.mem_of_getElem? a2)).2
      refine wp_same ?_
      k_steps
      all_goals first
        | (exfalso; simp_all; done)
        | (((try (k_unfold; try dsimp only)); refine pure_end (by k_asm) ?_); exact ⟨_, by rw [bothN_eq e.toNat xs1 xs2 hI3 hI1 hI2 (.inl a1)]⟩)
    · refine wp_same ?_
      k_steps
      all_goals first
        | (exfalso; simp_all; done)
        | (((try (k_unfold; try dsimp only)); refine pure_end (by k_asm) ?_); exact ⟨_, by rw [bothN_eq e.toNat xs1 xs2 hI3 hI1 hI2 (.inl a1)]⟩)
  · with_unfolding_all passes_own
end
section
noncomputable def joinS (x b : Str) : Str := if Txt.startswith b (Str.ofString "/") = true ∨ (x.length : Int) = 0 then b else if Txt.endswith x (Str.ofString "/") = true then x ++ b else x ++ (Str.ofString "/" ++ b)
theorem joinS_len (x b : Str) : (joinS x b).length ≤ x.length + 1 + b.length := by
  unfold joinS
  split
  · omega
  · split
    · rw [Str.length_append]; omega
    · rw [Str.length_append, Str.length_append, show (Str.ofString "/").length = 1 from by decide]; omega
theorem strsAre_at {vs : List Value} {xs : List Str} (h : StrsAre vs xs) {i : Nat} {v : Value} (hv : vs[i]? = some v) : ∃ y t, v = .str y t ∧ xs[i]? = some y := by
  induction h generalizing i with
  | nil => simp at hv
  | cons y t h ih =>
    cases i with
    | zero => simp at hv; exact ⟨y, t, hv.symm, rfl⟩
    | succ i => exact ih (by simpa using hv)
noncomputable def joinAll (x : Str) (ys : List Str) : Str := ys.foldl joinS x
theorem joinAll_take {x : Str} {ys : List Str} {i : Nat} {y : Str} (h : ys[i]? = some y) : joinAll x (ys.take (i + 1)) = joinS (joinAll x (ys.take i)) y := by
  unfold joinAll
  rw [List.take_add_one, h]
  simp
theorem c_join1 (w : World) (x y : Str) (t u : Tok) : Con w 136 [.str x t, .str y u] 2 (fun _ => x.length ≤ 2000 ∧ y.length ≤ 20) (fun g h v => ∃ t, v = .str (joinS x y) t) := by
  unfold Con
  k_fill
  intro zmean zmg zmb zdp zun zgd zcn zcs za zccd zcl zouter zA₀ zbase zh₀ zL zm zs zB zF zX zT zhk zhd zhu zhp
  k_dflt (refine' code_pureV ?k1 ?k2 ?k3 ?k5 ?kA ?kF ?kK ?k6 ?k7 ?k8 ?kV ?kP ?kG ?kB ?_ ?c2 ?c3 ?c4 ?c5; (case kA => exact rfl); (case kF => exact rfl); (case kK => assumption); (case k1 => k_asm); (case k2 => k_asm); (case k3 => k_asm); (case k5 => k_asm); (case k6 => k_is); (case k7 => k_is); (case k8 => first | exact room1 zhd | ktr_room); (case kV => kl_lit); (case kP => exact rfl); (case kG => exact fun _ => rfl); (case kB => exact fun _ => locs rfl); (case c5 => decide); (case c2 => exact rfl); (case c3 => exact rfl); (case c4 => exact rfl))
  clear zF zX zT zB
  intro zD' zL' zh' zF' zN' zB' zX' zT'
  (try dsimp only)
  refine wp_same ?_
  k_fold
  rename _ ∧ _ => hp
  obtain ⟨hp1, hp2⟩ := id hp
  have hys : StrsAre [Value.str y u] [y] := .cons _ _ .nil
  have hyl : ∀ q ∈ [y], q.length ≤ 20 := fun q hq => by rcases List.mem_cons.mp hq with rfl | hq; exact hp2; exact absurd hq (by simp)
  refine wp_same ?_
  k_steps
  show wpAny _ _ _ _ _ _
  (rename News _ _ _ _ => N'); (rename Fr _ _ _ _ => F')
  have kMark : KstMark := kstMark
  k_dflt refine iter_tup (σ := Str × Tok) (vs := [Value.str y u]) (fun _ => []) (fun c => [(Str.ofString "path", .str c.1 c.2)]) [Str.ofString "b"] (fun i c => c.1 = joinAll x ([y].take i) ∧ c.1.length ≤ 2000 + 21 * i) (x, _) rfl ⟨_, (N' _ (.head _)).1, rfl, _, rfl⟩ (N' _ (.head _)).2.1 (fun p hp => nomatch hp) F' News.nil (fun p hp => by rw [List.mem_singleton.mp hp]; rfl) ⟨rfl, hp1⟩ ?_ ?_
  · intro c i v u h tk own hv hoff hI Fk Nk
    refine wp_same ?_
    k_fold
    obtain ⟨q9, ty, rfl, hy⟩ := strsAre_at hys hv
    have hyl' := hyl q9 (List.mem_of_getElem? hy)
    have hlt := lt_of_get? hy
    obtain ⟨e, te⟩ := c
    obtain ⟨hI, hIl⟩ := hI
    clear F' N' hv hyl hys hp
    dsimp only [kstB] at Fk Nk hI hIl
    have hlen := joinS_len e q9
    have hsl : (Str.ofString "/").length = 1 := by decide
    have hel : e.length ≤ 2100 := by simp only [List.length_cons, List.length_nil] at hlt; omega
    have hin : joinS e q9 = joinAll x ([y].take (i + 1)) ∧ (joinS e q9).length ≤ 2000 + 21 * (i + 1) := ⟨by rw [joinAll_take hy, ← hI], by omega⟩
    clear hI hIl hlen hy hlt
    refine wp_same ?_
    k_steps
    all_goals (
      (rename News _ _ _ _ => N9)
      refine of_stop (st1_end (⟨_, _⟩ : Str × Tok) (by k_asm) N9 (fun p hp => nomatch hp) (fun p hp => by first | exact hp | exact .tail _ hp | exact .tail _ (.tail _ hp)) rfl (fun p hp => by rw [List.mem_singleton.mp hp]; rfl) (fun z h2 h3 => ?_) ?_)
      · simp only [List.forall_mem_cons, List.not_mem_nil, false_implies, implies_true, and_true, ne_eq] at h2
        simp only [List.contains_cons, List.contains_nil, Bool.or_false, beq_eq_false_iff_ne, ne_eq] at h3
        simp [h2, h3]
      · refine ⟨Eq.trans ?_ hin.1, Nat.le_trans (Nat.le_of_eq (congrArg Str.length ?_)) hin.2⟩ <;> (clear hin; simp_all [joinS]; done))
  · intro c u h tk hI Fk Nk
    obtain ⟨e, te⟩ := c
    obtain ⟨hI, hIl⟩ := hI
    clear F' N' hp
    dsimp only [kstB] at Fk Nk hI
    refine wp_same ?_
    k_steps
    all_goals ((try (k_unfold; try dsimp only)); refine pure_end (by k_asm) ?_)
    exact ⟨_, by rw [hI]; rfl⟩
theorem c_join2 (w : World) (x y z : Str) (t u v : Tok) : Con w 136 [.str x t, .str y u, .str z v] 2 (fun _ => x.length ≤ 2000 ∧ y.length ≤ 20 ∧ z.length ≤ 20) (fun g h v => ∃ t, v = .str (joinS (joinS x y) z) t) := by
  unfold Con
  k_fill
  intro zmean zmg zmb zdp zun zgd zcn zcs za zccd zcl zouter zA₀ zbase zh₀ zL zm zs zB zF zX zT zhk zhd zhu zhp
  k_dflt (refine' code_pureV ?k1 ?k2 ?k3 ?k5 ?kA ?kF ?kK ?k6 ?k7 ?k8 ?kV ?kP ?kG ?kB ?_ ?c2 ?c3 ?c4 ?c5; (case kA => exact rfl); (case kF => exact rfl); (case kK => assumption); (case k1 => k_asm); (case k2 => k_asm); (case k3 => k_asm); (case k5 => k_asm); (case k6 => k_is); (case k7 => k_is); (case k8 => first | exact room1 zhd | ktr_room); (case kV => kl_lit); (case kP => exact rfl); (case kG => exact fun _ => rfl); (case kB => exact fun _ => locs rfl); (case c5 => decide); (case c2 => exact rfl); (case c3 => exact rfl); (case c4 => exact rfl))
  clear zF zX zT zB
  intro zD' zL' zh' zF' zN' zB' zX' zT'
  (try dsimp only)
  refine wp_same ?_
  k_fold
  rename _ ∧ _ => hp
  obtain ⟨hp1, hp2, hp3⟩ := id hp
  have hys : StrsAre [Value.str y u, Value.str z v] [y, z] := .cons _ _ (.cons _ _ .nil)
  have hyl : ∀ q ∈ [y, z], q.length ≤ 20 := fun q hq => by rcases List.mem_cons.mp hq with rfl | hq; exact hp2; rcases List.mem_cons.mp hq with rfl | hq; exact hp3; exact absurd hq (by simp)
  refine wp_same ?_
  k_steps
  show wpAny _ _ _ _ _ _
  (rename News _ _ _ _ => N'); (rename Fr _ _ _ _ => F')
  have kMark : KstMark := kstMark
  k_dflt refine iter_tup (σ := Str × Tok) (vs := [Value.str y u, Value.str z v]) (fun _ => []) (fun c => [(Str.ofString "path", .str c.1 c.2)]) [Str.ofString "b"] (fun i c => c.1 = joinAll x ([y, z].take i) ∧ c.1.length ≤ 2000 + 21 * i) (x, _) rfl ⟨_, (N' _ (.head _)).1, rfl, _, rfl⟩ (N' _ (.head _)).2.1 (fun p hp => nomatch hp) F' News.nil (fun p hp => by rw [List.mem_singleton.mp hp]; rfl) ⟨rfl, hp1⟩ ?_ ?_
  · intro c i v u h tk own hv hoff hI Fk Nk
    refine wp_same ?_
    k_fold
    obtain ⟨q9, ty, rfl, hy⟩ := strsAre_at hys hv
    have hyl' := hyl q9 (List.mem_of_getElem? hy)
    have hlt := lt_of_get? hy
    obtain ⟨e, te⟩ := c
    obtain ⟨hI, hIl⟩ := hI
    clear F' N' hv hyl hys hp
    dsimp only [kstB] at Fk Nk hI hIl
    have hlen := joinS_len e q9
    have hsl : (Str.ofString "/").length = 1 := by decide
    have hel : e.length ≤ 2100 := by simp only [List.length_cons, List.length_nil] at hlt; omega
    have hin : joinS e q9 = joinAll x ([y, z].take (i + 1)) ∧ (joinS e q9).length ≤ 2000 + 21 * (i + 1) := ⟨by rw [joinAll_take hy, ← hI], by omega⟩
    clear hI hIl hlen hy hlt
    refine wp_same ?_
    k_steps
    all_goals (
      (rename News _ _ _ _ => N9)
      refine of_stop (st1_end (⟨_, _⟩ : Str × Tok) (by k_asm) N9 (fun p hp => nomatch hp) (fun p hp => by first | exact hp | exact .tail _ hp | exact .tail _ (.tail _ hp)) rfl (fun p hp => by rw [List.mem_singleton.mp hp]; rfl) (fun z h2 h3 => ?_) ?_)
      · simp only [List.forall_mem_cons, List.not_mem_nil, false_implies, implies_true, and_true, ne_eq] at h2
        simp only [List.contains_cons, List.contains_nil, Bool.or_false, beq_eq_false_iff_ne, ne_eq] at h3
        simp [h2, h3]
      · refine ⟨Eq.trans ?_ hin.1, Nat.le_trans (Nat.le_of_eq (congrArg Str.length ?_)) hin.2⟩ <;> (clear hin; simp_all [joinS]; done))
  · intro c u h tk hI Fk Nk
    obtain ⟨e, te⟩ := c
    obtain ⟨hI, hIl⟩ := hI
    clear F' N' hp
    dsimp only [kstB] at Fk Nk hI
    refine wp_same ?_
    k_steps
    all_goals ((try (k_unfold; try dsimp only)); refine pure_end (by k_asm) ?_)
    exact ⟨_, by rw [hI]; rfl⟩
end
section
local macro_rules | `(tactic| walk_at "no such key") => `(tactic| skip)
noncomputable def joinedS (xs : List Str) : Nat → Str
  | 0 => Str.ofString "/"
  | i + 1 => joinS (joinS (joinedS xs i) (xs.getD (0 + (i : Int) * 2).toNat Str.empty)) (xs.getD (0 + (i : Int) * 2 + 1).toNat Str.empty)
theorem getD_len {xs : List Str} (h : ∀ x ∈ xs, x.length ≤ 10) (i : Nat) : (xs.getD i Str.empty).length ≤ 10 := by
  by_cases hi : i < xs.length
  · rw [List.getD_eq_getElem?_getD, List.getElem?_eq_getElem hi, Option.getD_some]
    exact h _ (List.getElem_mem hi)
  · rw [List.getD_eq_getElem?_getD, List.getElem?_eq_none (by omega), Option.getD_none]
    decide
theorem small_two {b : Int} (h1 : -1 ≤ b) (h2 : b ≤ 1000) : Builtin.Range.small 0 b 2 = true := by
  unfold Builtin.Range.small Builtin.Range.rangeSize
  simp only [Builtin.Range.rangeFitsLong, Bool.and_eq_true, Bool.or_eq_true, decide_eq_true_eq, beq_iff_eq, show (2 : Int) > 0 by decide, if_true]
  split <;> omega
theorem size_two {n : Nat} (h1 : n ≤ 1000) : Builtin.Range.rangeSize 0 ((n : Int) - 1) 2 = ((n / 2 : Nat) : Int) := by
  unfold Builtin.Range.rangeSize
  simp only [show (2 : Int) > 0 by decide, if_true]
  split <;> omega
theorem strsAre_get {vs : List Value} {xs : List Str} (h : StrsAre vs xs) : ∀ i, i < xs.length → ∃ t, vs[i]? = some (.str (xs.getD i Str.empty) t) := by
  induction h with
  | nil => intro i hi; simp at hi
  | cons y t h ih =>
    intro i hi
    cases i with
    | zero => exact ⟨t, rfl⟩
    | succ i => exact ih i (by simpa using hi)
noncomputable def joinedAll (xs : List Str) : Str := if (xs.length : Int).fmod 2 = 1 then joinS (joinedS xs (xs.length / 2)) (xs.getD (xs.length - 1) Str.empty) else joinedS xs (xs.length / 2)
theorem c_joined (w : World) (l1 : Addr) (vs1 : List Value) (xs1 : List Str) : Con w 287 [.ref l1] 3 (fun h => h.IsList l1 vs1.toArray ∧ StrsAre vs1 xs1 ∧ xs1.length ≤ 20 ∧ (∀ x ∈ xs1, x.length ≤ 10)) (fun g h v => ∃ t, v = .str (joinedAll xs1) t) := by
  unfold Con
  k_fill
  intro zmean zmg zmb zdp zun zgd zcn zcs za zccd zcl zouter zA₀ zbase zh₀ zL zm zs zB zF zX zT zhk zhd zhu zhp
  k_dflt (refine' code_pure ?k1 ?k2 ?k3 ?k5 ?kA ?kF ?kK ?k6 ?k7 ?k8 ?k9 ?kB ?_ ?c2 ?c3 ?c4 ?c5; (case kA => exact rfl); (case kF => exact rfl); (case kK => assumption); (case k1 => k_asm); (case k2 => k_asm); (case k3 => k_asm); (case k5 => k_asm); (case k6 => k_is); (case k7 => k_is); (case k8 => first | exact room1 zhd | ktr_room); (case k9 => first | exact BindsTo.of_eq rfl | exact binds_K (by k_in) rfl (by k_is) rfl rfl rfl); (case c5 => decide); (case kB => exact locs rfl); (case c2 => exact rfl); (case c3 => exact rfl); (case c4 => exact rfl); k_whole)
  clear zF zX zT zB
  intro zL' zh' zF' zN' zB' zX' zT'
  (try dsimp only)
  k_fold
  rename _ ∧ _ => hp
  obtain ⟨hp1, hp2, hp3, hp4⟩ := id hp
  k_steps
  show wpAny _ _ _ _ _ _
  (rename News _ _ _ _ => N'); (rename Fr _ _ _ _ => F'); (rename IsRange _ _ _ _ _ _ _ _ => hr)
  have kMark : KstMark := kstMark
  (rename StrsAre _ _ => hp2)
  k_dflt refine iter_range (σ := Str × Tok) (n := xs1.length / 2) (fun _ => []) (fun c => [(Str.ofString "path", .str c.1 c.2)]) [Str.ofString "k"] (fun i c => c.1 = joinedS xs1 i ∧ c.1.length ≤ 1 + 30 * i) (_, _) rfl hr ?_ ?_ F' N' (fun p hp => by rw [List.mem_singleton.mp hp]; rfl) ?_ ?_ ?_ ?_
  · exact small_two (by omega) (by omega)
  · exact size_two (by omega)
  · exact ⟨rfl, by show (Str.ofString "/").length ≤ _; decide⟩
  · intro I x left step v s Q E _ h
    exact wpAny_pure h
  · intro d i t u h tk own hi hoff hI Fk Nk
    refine wp_same ?_
    k_fold
    obtain ⟨e, te⟩ := d
    obtain ⟨hI, hIl⟩ := hI
    clear F' N' hr
    dsimp only [kstB] at Fk Nk hI hIl
    have hy1 := getD_len hp4 (0 + (i : Int) * 2).toNat
    have hy2 := getD_len hp4 (0 + (i : Int) * 2 + 1).toNat
    have hn := hp2.length
    refine wp_same ?_
    k_steps
    (rename News _ _ _ _ => N9)
    refine of_stop (st1_end (⟨joinS (joinS e (xs1.getD (0 + (i : Int) * 2).toNat Str.empty)) (xs1.getD (0 + (i : Int) * 2 + 1).toNat Str.empty), _⟩ : Str × Tok) (by k_asm) N9 (fun p hp => nomatch hp) (fun p hp => hp) rfl (fun p hp => by rw [List.mem_singleton.mp hp]; rfl) (fun z h2 h3 => ?_) ⟨?_, ?_⟩)
    · simp only [List.forall_mem_cons, List.not_mem_nil, false_implies, implies_true, and_true, ne_eq] at h2
      simp only [List.contains_cons, List.contains_nil, Bool.or_false, Bool.or_eq_false_iff, beq_eq_false_iff_ne, ne_eq] at h3
      simp [h2, h3]
    · show _ = joinedS xs1 (i + 1)
      rw [joinedS, ← hI]
    · show (joinS (joinS e _) _).length ≤ _
      have h8 := joinS_len (joinS e (xs1.getD (0 + (i : Int) * 2).toNat Str.empty)) (xs1.getD (0 + (i : Int) * 2 + 1).toNat Str.empty)
      have h9 := joinS_len e (xs1.getD (0 + (i : Int) * 2).toNat Str.empty)
      omega
  · intro d u h tk hI Fk Nk
    obtain ⟨e, te⟩ := d
    obtain ⟨hI, hIl⟩ := hI
    clear F' N' hr
    dsimp only [kstB] at Fk Nk hI hIl
    have hy1 := getD_len hp4 ((xs1.length : Int) - 1).toNat
    have hn := hp2.length
    by_cases hodd : (xs1.length : Int).fmod 2 = 1
    · have hpos : 1 ≤ xs1.length := by
        rcases Nat.eq_zero_or_pos xs1.length with h0 | h0
        · rw [h0] at hodd; exact absurd hodd (by decide)
        · exact h0
      obtain ⟨t9, hx8⟩ := strsAre_get hp2 (xs1.length - 1) (by omega)
      have hy3 := getD_len hp4 (xs1.length - 1)
      have hx9 : vs1[vs1.length - 1]? = some (.str (xs1.getD (xs1.length - 1) Str.empty) t9) := by rw [hn]; exact hx8
      clear hx8
      refine wp_same ?_
      k_steps
      all_goals first
        | (exfalso; omega)
        | (((try (k_unfold; try dsimp only)); refine pure_end (by k_asm) ?_); exact ⟨_, by unfold joinedAll; rw [if_pos hodd, ← hI]⟩)
    · refine wp_same ?_
      k_steps
      all_goals first
        | (exfalso; omega)
        | (((try (k_unfold; try dsimp only)); refine pure_end (by k_asm) ?_); exact ⟨_, by unfold joinedAll; rw [if_neg hodd, ← hI]⟩)
end
section
section
variable {prog : Program} {w : World} {A : Around} {E : Value → Shared → Prop} {s : Shared} {env : Env} {h₀ : Heap} {L : Addr} {m : Str → Option Value} {Q : Flow → Shared → Prop}
noncomputable def OElt (prog : Program) (w : World) (A : Around) (env : Env) (elt : Expr) (x : Str) (scope : Scope) (cl : List (Str × Addr)) (G : Value → Array Value → Prop) (v1 v2 : Value) (s₁ : Shared) : Prop :=
  ∀ C v s₃ m₃ E', (v = v1 ∨ v = v2) → s₃.heap.Ns C m₃ → m₃ x = some v → (∀ b o, s₁.heap.get? b = some o → s₃.heap.get? b = some o) →
    wpAny (model prog w) A (eval elt (compEnvC scope cl C env)) (fun y s₄ => (∃ T its, y = .ref T ∧ s₃.heap.get? T = none ∧ s₄.heap.IsList T its ∧ G v its) ∧ Keeps s₃ s₄) E' s₃
noncomputable def OFin (h₀ : Heap) (L : Addr) (m : Str → Option Value) (news : List (Addr × Obj)) (G : Value → Array Value → Prop) (v1 v2 : Value) (y : Str) (Q : Flow → Shared → Prop) (s₁ : Shared) : Prop :=
  ∀ D T1 T2 its1 its2 o1 o2 n1 n2 n h' tk, Fr h₀ L h' (fun z => if z = y then some (.ref D) else m z) → News h₀ L h' ((D, ({ cls := .type "list", data := .seq #[.ref T1, .ref T2] n } : Obj)) :: (T1, o1) :: (T2, o2) :: news) →
    T1 ≠ T2 → o1.cls = .type "list" → o1.data = .seq its1 n1 → o2.cls = .type "list" → o2.data = .seq its2 n2 → G v1 its1 → G v2 its2 → Q .next { s₁ with heap := h', toks := tk }
noncomputable def OSrc (prog : Program) (w : World) (A : Around) (h₀ : Heap) (L : Addr) (m : Str → Option Value) (env : Env) (elt : Expr) (x : Str) (scope : Scope) (cl : List (Str × Addr)) (G : Value → Array Value → Prop) (v1 v2 : Value) (y : Str) (Q : Flow → Shared → Prop) (xv : Value) (s₁ : Shared) : Prop :=
  ∃ (l : Addr) (news : List (Addr × Obj)), xv = .ref l ∧ (s₁.heap.IsTuple l #[v1, v2] ∨ s₁.heap.IsList l #[v1, v2]) ∧ A.handled = none ∧ Fr h₀ L s₁.heap m ∧ News h₀ L s₁.heap news ∧
    OElt prog w A env elt x scope cl G v1 v2 s₁ ∧ OFin h₀ L m news G v1 v2 y Q s₁
theorem asg_compO {elt iter : Expr} {x y : Str} {px py : Pos} {scope : Scope} {cl : List (Str × Addr)} {pos spos : Pos} (_F₀ : Fr h₀ L s.heap m) (G : Value → Array Value → Prop) (v1 v2 : Value) (hLe : env.locals = L)
    (hsw : swapsWith (.ListComp elt [⟨.Name x px, iter, [], 0⟩] scope pos) (some (.Name y py)) spos.line env = pure true)
    (hclos : closureFor scope env = pure cl) (hcell : ∀ z ∈ scope.names, z.2 ≠ .cell) (hkind : scope.kind = .function)
    (hnames : ∀ z ∈ scope.names, z.2 = .local → scope.names.lookup z.1 = some .local) (hx : scope.names.lookup x = some .local)
    (hy : env.kindOf y = some .local) (hp : (env.scope.kind == .class || (env.scope.kind == .module && env.locals != env.globals)) = false)
    (h : wpAny (model prog w) A (eval iter env) (OSrc prog w A h₀ L m env elt x scope cl G v1 v2 y Q) E s)
    (hs : ∀ x, foldedSetIterable iter env x = pure x) :
    wpAny (model prog w) A (exec (.Assign [.Name y py] (.ListComp elt [⟨.Name x px, iter, [], 0⟩] scope pos) spos) env) Q E s := by
  subst hLe
  rw [exec_Assign_Name_used _ _ _ _ hsw]
  refine wpAny_bind (wpAny_standAt (wpAny_bind ?_))
  show wpAny _ A (do let _ ← comprehension (.ListComp elt [⟨.Name x px, iter, [], 0⟩] scope pos) scope env _ (newList []) false (eval iter env) (some (assign (.Name y py) env))) _ _ s
  refine wpAny_bind (wpAny_mono (wpAny_comprehension_free (use := some (assign (.Name y py) env)) (Q := fun _ s' => Q .next s') rfl hs hclos hkind hnames
    (wpAny_mono h (fun xv s₁ h₁ => ?_) fun _ _ e => e)) (fun _ s' hq => wpAny_pure (wpAny_pure hq)) fun _ _ e => e)
  obtain ⟨l, news, rfl, hl, hh, F, N, hel, hfin⟩ := h₁
  have fin : ∀ (o : Obj) (St : Nat → Heap → Prop), (∀ i h, St i h → ∀ b ∈ [s₁.heap.objs.size], ∃ o, h.get? b = some o) → Walks prog w A s₁.heap.objs.size [s₁.heap.objs.size, l] [s₁.heap.objs.size] 2 (fun i v => (#[v1, v2] : Array Value)[i]? = some v) St → l < s₁.heap.objs.size → St 0 (s₁.heap.push o) →
      wpAny (model prog w) A (newList []) (fun acc s₃ => wpAny (model prog w) A (newFunctionEnv scope env.globals cl [] env.qual none .none (some env)) (fun cenv s₄ =>
      codeAny (model prog w) A (.compStart (.ListComp elt [⟨.Name x px, iter, [], 0⟩] scope pos) 0 (.ref s₁.heap.objs.size) acc { cenv with scope := relabel scope env }) (compPost (model prog w) A E (some (assign (.Name y py) env)) (fun _ s' => Q .next s') acc cenv.locals) s₄) E s₃) E { s₁ with heap := s₁.heap.push o } := by
    intro o St hlive W hlt hst
    have up : ∀ b x, s₁.heap.get? b = some x → (s₁.heap.push o).get? b = some x := fun b x e => Heap.get?_push_of_some _ e
    have off : ∀ b x, s₁.heap.get? b = some x → b ∉ [s₁.heap.objs.size] := fun b x e hm => absurd (Heap.lt_size e) ((List.mem_singleton.mp hm) ▸ Nat.lt_irrefl _)
    refine comp_block_walkCO (s₂ := { s₁ with heap := s₁.heap.push o }) (RR := fun acc C => compPost (model prog w) A E (some (assign (.Name y py) env)) (fun _ s' => Q .next s') acc C) W (by rw [sizeLine_eq]; omega) (fun _ => true) G hlive hcell hkind hx hst ?_ ⟨?_, ?_⟩ ?_
    · intro b hb
      show b < (s₁.heap.push o).objs.size
      rw [Heap.size_push]
      rcases List.mem_cons.mp hb with rfl | hb
      · exact Nat.lt_succ_self _
      · rw [List.mem_singleton.mp hb]; exact Nat.lt_succ_of_lt hlt
    · intro C i v s₃ m₃ E' _ _ _ _ _ _
      exact wpAny_pure ⟨rfl, _, _, rfl, fun _ _ e => e⟩
    · intro C i v s₃ m₃ E' _ hP _ hn hm hk _
      have hv : v = v1 ∨ v = v2 := by
        rcases i with _ | _ | i
        · exact .inl (by simpa using hP.symm)
        · exact .inr (by simpa using hP.symm)
        · simp at hP
      exact hel C v s₃ m₃ E' hv hn hm fun b x e => hk b x (off b x e) (up b x e)
    · intro D C h' tk m' ys us hD hC hDC hnC hlD hpD hlen hPs hpair hnd hk
      show wpAny _ A (assign (.Name y py) env (.ref D)) _ _ _
      refine wp_same ?_
      k_fold
      have hus : us = [v1, v2] := by
        clear hpair hnd
        rcases us with _ | ⟨a, _ | ⟨b, _ | ⟨c, us⟩⟩⟩
        · exact absurd hlen (by simp)
        · exact absurd hlen (by simp)
        · have e1 := hPs 0 a rfl
          have e2 := hPs 1 b rfl
          rw [show a = v1 by simpa using e1.symm, show b = v2 by simpa using e2.symm]
        · exact absurd hlen (by simp)
      subst hus
      rw [List.filter_eq_self.mpr (fun _ _ => rfl)] at hpair
      obtain ⟨ysl⟩ := ys
      obtain ⟨n, hn⟩ := hpD
      dsimp only at hpair hnd hn
      have keep : ∀ b x, s₁.heap.get? b = some x → h'.get? b = some x := fun b x e => hk b x (off b x e) (up b x e)
      have old : ∀ a, (s₁.heap.push o).get? a = none → s₁.heap.get? a = none := fun a ha => by
        cases e : s₁.heap.get? a with
        | none => rfl
        | some x => rw [up a x e] at ha; cases ha
      have hL1 : ∃ x, s₁.heap.get? env.locals = some x := by obtain ⟨_, _, _, hL, _⟩ := F.ns; exact ⟨_, hL⟩
      have hLC : env.locals ≠ C := by rintro rfl; obtain ⟨x, e⟩ := hL1; rw [old _ hC] at e; cases e
      have hLD : env.locals ≠ D := by rintro rfl; obtain ⟨x, e⟩ := hL1; rw [old _ hD] at e; cases e
      have ent : ∀ {v y h}, LstAt (s₁.heap.push o) C D [s₁.heap.objs.size] G h v y → ∃ T oT its nT, y = .ref T ∧ s₁.heap.get? T = none ∧ T ≠ C ∧ T ≠ env.locals ∧ h.get? T = some oT ∧ oT.cls = .type "list" ∧ oT.data = .seq its nT ∧ G v its := by
        rintro v y h ⟨T, its, rfl, h1, hTC, hTw, hTD, ⟨oT, e1, e2, nT, e3⟩, hG⟩
        exact ⟨T, oT, its, nT, rfl, old _ h1, hTC, (fun e => by obtain ⟨x, e'⟩ := hL1; rw [← e, old _ h1] at e'; cases e'), e1, e2, e3, hG⟩
      rcases hpair with _ | ⟨ha, _ | ⟨hb, hc⟩⟩
      cases hc
      obtain ⟨T1, o1, its1, n1, rfl, f1, c1, l1, g1, k1, d1, G1⟩ := ent ha
      obtain ⟨T2, o2, its2, n2, rfl, f2, c2, l2, g2, k2, d2, G2⟩ := ent hb
      refine wpAny_assign_Name (wpAny_storeName_local hy (F.ns.at' fun o e => keep _ o e) (fun h₂ hn₂ hs₂ => ?_) hp)
      k_unfold
      refine ⟨m', hnC.sameBut hs₂ (Ne.symm hLC), fun h₃ hs₃ => ?_⟩
      have to3 : ∀ b x, b ≠ env.locals → b ≠ C → h'.get? b = some x → h₃.get? b = some x := fun b x hb hc e => hs₃.extBut b x hc (hs₂.extBut b x hb e)
      have hL0 : h₀.get? env.locals = none := Heap.get?_none_of_le F.above
      have none0 : ∀ a, s₁.heap.get? a = none → h₀.get? a = none := fun a ha => by
        cases e : h₀.get? a with
        | none => rfl
        | some x => rw [F.keep a x e] at ha; cases ha
      have hC1 := old _ hC
      have hD1 := old _ hD
      have F3 : Fr h₀ env.locals h₃ (fun z => if z = y then some (.ref D) else m z) := ⟨hn₂.sameBut hs₃ hLC, fun b x e => to3 b x (fun q => by rw [q, hL0] at e; cases e) (fun q => by have := F.keep b x e; rw [q, hC1] at this; cases this) (keep b x (F.keep b x e)), F.above⟩
      have h12 : T1 ≠ T2 := fun e => by
        have h9 := (List.pairwise_cons.mp hnd).1 (.ref T2) (.head _)
        rw [e] at h9; exact h9 rfl
      refine hfin D T1 T2 its1 its2 o1 o2 n1 n2 n h₃ _ F3 (fun p hp => ?_) h12 k1 d1 k2 d2 G1 G2
      rcases List.mem_cons.mp hp with rfl | hp
      · exact ⟨to3 _ _ (Ne.symm hLD) hDC hn, Ne.symm hLD, none0 _ hD1⟩
      · rcases List.mem_cons.mp hp with rfl | hp
        · exact ⟨to3 _ _ l1 c1 g1, l1, none0 _ f1⟩
        · rcases List.mem_cons.mp hp with rfl | hp
          · exact ⟨to3 _ _ l2 c2 g2, l2, none0 _ f2⟩
          · obtain ⟨e1, e2, e3⟩ := N p hp
            exact ⟨to3 _ _ e2 (fun q => by rw [q, hC1] at e1; cases e1) (keep _ _ e1), e2, e3⟩
  rcases hl with hl | hl
  · obtain ⟨ol, hol, hl2⟩ := id hl
    have hlt : l < s₁.heap.objs.size := Heap.lt_size hol
    exact wpAny_pyIter_tuple hl (fin _ _ (fun i h st b hb => by rw [List.mem_singleton.mp hb]; obtain ⟨⟨o, e, _⟩, _⟩ := st; exact ⟨o, e⟩) (Walks.tuple hh _ l (Nat.ne_of_lt hlt) #[v1, v2]) hlt ⟨⟨_, Heap.get?_push_size _ rfl, rfl, rfl⟩, hl.at fun o e => Heap.get?_push_of_some _ e⟩)
  · obtain ⟨ol, hol, hl2⟩ := id hl
    have hlt : l < s₁.heap.objs.size := Heap.lt_size hol
    exact wpAny_pyIter_list hl (fin _ _ (fun i h st b hb => by rw [List.mem_singleton.mp hb]; obtain ⟨⟨o, e, _⟩, _⟩ := st; exact ⟨o, e⟩) (Walks.list hh _ l (Nat.ne_of_lt hlt) #[v1, v2]) hlt ⟨⟨_, Heap.get?_push_size _ rfl, rfl, rfl⟩, hl.at fun o e => Heap.get?_push_of_some _ e⟩)
end
theorem split_push {prog : Program} {w : World} {A : Around} {E : Value → Shared → Prop} {s : Shared} {x y : Str} {t u : Tok} {Q : Value → Shared → Prop} (hy : (y.length == 0) = false) (hsz : x.length ≤ 1000000)
    (h : ∀ l k, l.map (·.1) = Txt.split x y → Q (.ref s.heap.objs.size) { s with heap := s.heap.push { cls := .type "list", data := .seq (strValues l).toArray }, toks := k }) :
    wpAny (model prog w) A (call (.builtin "str.split") [.str x t, .str y u]) Q E s := by
  have hx : x.length ≤ sizeLine := by rw [sizeLine_eq]; omega
  have hn : (Builtin.Str.partsBetween x (Builtin.Str.occurrences x y 0 x.length (x.length + 1)) y.length).length ≤ sizeLine := by
    have e1 := StrLaws.occ_length_le x y 0 x.length (x.length + 1)
    rw [length_partsBetween, sizeLine_eq]; omega
  cases h1 : (decide (x.length < y.length) || decide (Builtin.Str.strKind x < Builtin.Str.strKind y))
  · cases hf : (Builtin.Str.occurrences x y 0 x.length (x.length + 1)).isEmpty
    · refine call_meets F.slot_str_split (typeIs_str _ _ _) F.entry_str_split (F.args_str_split_2 _ _) (meets_str_split_sep x y t u h1 hy hf hx hn) ?_
      show wants Q E _ { s with toks := _, heap := s.heap.push { cls := .type "list", data := .seq (strsFrom s.toks (Builtin.Str.partsBetween x (Builtin.Str.occurrences x y 0 x.length (x.length + 1)) y.length)).toArray } }
      rw [strsFrom_eq]
      exact h (numbered s.toks _) _ ((numbered_texts _ _).trans ((if_neg (ne_true_of_eq_false h1)).trans (if_neg (ne_true_of_eq_false hf))).symm)
    · exact call_meets F.slot_str_split (typeIs_str _ _ _) F.entry_str_split (F.args_str_split_2 _ _) (meets_str_split_not_found x y t u h1 hy hf) (h [(x, t)] s.toks ((if_neg (ne_true_of_eq_false h1)).trans (if_pos hf)).symm)
  · exact call_meets F.slot_str_split (typeIs_str _ _ _) F.entry_str_split (F.args_str_split_2 _ _) (meets_str_split_cannot_occur x y t u h1) (h [(x, t)] s.toks (if_pos h1).symm)
theorem new_none (h : Heap) : h.get? h.objs.size = none := by
  cases e : h.get? h.objs.size with
  | none => rfl
  | some o => exact absurd (Heap.lt_size e) (Nat.lt_irrefl _)
noncomputable def keepS (y : Str) : Bool := !(y == Str.ofString "") && !(y == Str.ofString ".")
noncomputable def keepV (v : Value) : Bool := match v with
  | .str y _ => keepS y
  | _ => false
theorem strsAre_at' {vs : List Value} {xs : List Str} (h : StrsAre vs xs) {i : Nat} {v : Value} (hv : vs[i]? = some v) : ∃ (y : Str) (t : Tok), v = Value.str y t ∧ xs[i]? = some y := by
  induction h generalizing i with
  | nil => simp at hv
  | cons y t h ih =>
    cases i with
    | zero => simp at hv; exact ⟨y, t, hv.symm, rfl⟩
    | succ i => exact ih (by simpa using hv)
theorem strsAre_filter {vs : List Value} {xs : List Str} (h : StrsAre vs xs) : StrsAre (vs.filter keepV) (xs.filter keepS) := by
  induction h with
  | nil => exact .nil
  | cons y t h ih =>
    have e : keepV (.str y t) = keepS y := rfl
    cases hk : keepS y with
    | true => rw [List.filter_cons_of_pos (by rw [e, hk]), List.filter_cons_of_pos hk]; exact .cons y t ih
    | false => rw [List.filter_cons_of_neg (by rw [e, hk]; simp), List.filter_cons_of_neg (by rw [hk]; simp)]; exact ih
theorem paired_eq {l r : List Value} (h : Paired (fun v y => y = v) l r) : r = l := by
  induction h with
  | nil => rfl
  | cons e _ ih => rw [e, ih]
section
variable {prog : Program} {w : World} {A : Around} {E : Value → Shared → Prop} {s : Shared} {env : Env}
theorem filt_comp {elt iter : Expr} {x : Str} {px : Pos} {ifs : List Expr} {scope : Scope} {cl : List (Str × Addr)} {pos : Pos} {l : Addr} {vs : List Value} {xs : List Str} (hh : A.handled = none) (hl : s.heap.IsList l vs.toArray) (hx9 : StrsAre vs xs) (hsz : vs.length ≤ 1000)
    (hclos : closureFor scope env = pure cl) (hcell : ∀ y ∈ scope.names, y.2 ≠ .cell) (hkind : scope.kind = .function) (hnames : ∀ y ∈ scope.names, y.2 = .local → scope.names.lookup y.1 = some .local) (hx : scope.names.lookup x = some .local)
    (hs : ∀ x, foldedSetIterable iter env x = pure x)
    (hev : wpAny (model prog w) A (eval iter env) (fun xv s₁ => xv = .ref l ∧ s₁ = s) E s)
    (tests : ∀ C y t s₃ m₃ E', y ∈ xs → s₃.heap.Ns C m₃ → m₃ x = some (.str y t) → (∀ b o, s.heap.get? b = some o → s₃.heap.get? b = some o) →
      wpAny (model prog w) A (forIn ifs true fun c r => if r = true then do let ok ← isTrue c (compEnvC scope cl C env) (eval c (compEnvC scope cl C env)); pure (ForInStep.yield ok) else pure (ForInStep.yield r)) (fun ok s₄ => ok = keepS y ∧ Keeps s₃ s₄) E' s₃)
    (helt : ∀ C y t s₃ m₃ E', s₃.heap.Ns C m₃ → m₃ x = some (.str y t) → wpAny (model prog w) A (eval elt (compEnvC scope cl C env)) (fun y' s₄ => y' = .str y t ∧ Keeps s₃ s₄) E' s₃) :
    wpAny (model prog w) A (eval (.ListComp elt [⟨.Name x px, iter, ifs, 0⟩] scope pos) env) (fun y s₄ => (∃ T its, y = .ref T ∧ s.heap.get? T = none ∧ s₄.heap.IsList T its ∧ StrsAre its.toList (xs.filter keepS)) ∧ Keeps s s₄) E s := by
  refine wpAny_ListComp_free keepV (fun v y => y = v) hclos hcell hkind hnames hx (wpAny_mono hev (fun xv s₁ h₁ => ?_) fun _ _ e => e) hs
  obtain ⟨rfl, rfl⟩ := h₁
  obtain ⟨ol, hol, hl2⟩ := id hl
  have hlt : l < s₁.heap.objs.size := Heap.lt_size hol
  refine wpAny_pyIter_list hl ⟨_, _, _, _, _, _, rfl, Walks.list hh s₁.heap.objs.size l (Nat.ne_of_lt hlt) vs.toArray, by rw [List.size_toArray, sizeLine_eq]; omega, ⟨⟨_, Heap.get?_push_size _ rfl, rfl, rfl⟩, hl.at fun o e => Heap.get?_push_of_some _ e⟩, ?_, ⟨?_, ?_⟩, ?_⟩
  · intro b hb
    show b < (s₁.heap.push _).objs.size
    rw [Heap.size_push]
    rcases List.mem_cons.mp hb with rfl | hb
    · exact Nat.lt_succ_self _
    · rw [List.mem_singleton.mp hb]; exact Nat.lt_succ_of_lt hlt
  all_goals have off : ∀ b x, s₁.heap.get? b = some x → b ∉ [s₁.heap.objs.size] := fun b x e hm => absurd (Heap.lt_size e) ((List.mem_singleton.mp hm) ▸ Nat.lt_irrefl _)
  · intro C i v s₃ m₃ E' _ hP hn hm hk _
    have hP' : vs[i]? = some v := by simpa using hP
    obtain ⟨y, t, rfl, hy⟩ := strsAre_at' hx9 hP'
    exact tests C y t s₃ m₃ E' (List.mem_of_getElem? hy) hn hm fun b o e => hk b o (off b o e) (Heap.get?_push_of_some _ e)
  · intro C i v s₃ m₃ E' _ hP _ hn hm hk _
    have hP' : vs[i]? = some v := by simpa using hP
    obtain ⟨y, t, rfl, hy⟩ := strsAre_at' hx9 hP'
    exact helt C y t s₃ m₃ E' hn hm
  · intro D h' tk ys us hD hlD hpl hlen hPs hpair hk
    have hus : us = vs := by
      apply List.ext_getElem?
      intro j
      by_cases hj : j < us.length
      · have e1 := hPs j us[j] (by simp [hj])
        rw [List.getElem?_eq_getElem hj]
        simpa using e1.symm
      · rw [List.getElem?_eq_none (by omega), List.getElem?_eq_none (by simp at hlen; omega)]
    subst hus
    refine ⟨⟨D, ys, rfl, ?_, hlD, by rw [paired_eq hpair]; exact strsAre_filter hx9⟩, h', tk, rfl, fun b o e => hk b o (off b o e) (Heap.get?_push_of_some _ e)⟩
    cases e : s₁.heap.get? D with
    | none => rfl
    | some o => rw [Heap.get?_push_of_some _ e] at hD; cases hD
end
theorem split_le (x : Str) : (Txt.split x (Str.ofString "/")).length ≤ x.length + 2 := by
  have h := StrLaws.occ_length_le x (Str.ofString "/") 0 x.length (x.length + 1)
  unfold Txt.split
  split
  · simp
  · split
    · simp
    · rw [length_partsBetween]; omega
end
section
section
variable {prog : Program} {w : World} {A : Around} {E : Value → Shared → Prop} {s : Shared} {env : Env} {h₀ : Heap} {target : Expr} {body : List Stmt} {Q : Flow → Shared → Prop}
theorem turns_kp {σ : Type} {I : Addr} {fp wr : List Addr} {n : Nat} {P Md : Nat → Value → Heap → Prop} {St : Nat → Heap → Prop} {m₀ : Str → Option Value} (Led : σ → List (Addr × Obj)) (ps : σ → List (Str × Value)) (stored : List Str) (Inv : Nat → σ → Prop) (c₀ : σ)
    (W : KTurns prog w A target I fp wr n P Md St) (hLf : env.locals ∉ fp) (hwr : ∀ b ∈ wr, h₀.get? b = none) (hoff : ∀ p ∈ Led c₀, p.1 ∉ wr) (hst : St 0 s.heap) (F : Fr h₀ env.locals s.heap m₀) (N : News h₀ env.locals s.heap (Led c₀)) (hk : ∀ p ∈ ps c₀, m₀ p.1 = some p.2) (hp : Inv 0 c₀)
    (turn : ∀ (c : σ) i v (u : Str → Option Value) h tk own, i < n → P i v h → Inv i c → Fr h₀ env.locals h (kstB (fun z => if stored.contains z then u z else m₀ z) (ps c)) → News h₀ env.locals h (Led c ++ own) →
      wpAny (model prog w) A (assign target env v) (fun _ s₃ => wpAny (model prog w) A (execs body env) (InvPostN h₀ env.locals (St1 Led ps stored m₀ (Inv (i + 1))) own ((Led c₀).map (·.1)) { s with heap := h, toks := tk } Q) E s₃) E { s with heap := h, toks := tk })
    (done : ∀ (c : σ) (u : Str → Option Value) h tk, Inv n c → Fr h₀ env.locals h (kstB (fun z => if stored.contains z then u z else m₀ z) (ps c)) → News h₀ env.locals h (Led c) → Q .next { s with heap := h, toks := tk }) :
    TurnsAt prog w A h₀ env target body Q E (.ref I) s := by
  let J : Nat → (Str → Option Value) → List (Addr × Obj) → Prop := fun i m nx => nx.map (·.1) = (Led c₀).map (·.1) ∧ St1 Led ps stored m₀ (Inv i) m nx
  refine ⟨I, fp, wr, n, P, Md, St, m₀, Led c₀, J, rfl, W, hLf, hwr, hoff, hst, F, N, ⟨rfl, c₀, rfl, hk, fun _ _ _ => rfl, hp⟩, ?_, ?_⟩
  · rintro i v m₁ news₁ h₁ tk₁ own hin hP ⟨hadr, c, rfl, h1, h2, hI⟩ _ _ _ _ _ F₁ N₁
    have N₂ : News h₀ env.locals h₁ (Led c ++ own) := fun p hp => N₁ p ((List.mem_append.mp hp).elim (fun h => List.mem_append.mpr (.inr h)) fun h => List.mem_append.mpr (.inl h))
    have fin : ∀ s₃, InvEndN h₀ env.locals (St1 Led ps stored m₀ (Inv (i + 1))) own ((Led c₀).map (·.1)) { s with heap := h₁, toks := tk₁ } s₃ → LoopStepU h₀ env.locals wr own (J (i + 1)) { s with heap := h₁, toks := tk₁ } .next s₃ := by
      rintro s₃ ⟨h', tk, m', news', nx, e, F', N', hn, ho, ha, hm⟩
      refine ⟨rfl, h', tk, m', nx, e, F', fun p hp => N' p ((List.mem_append.mp hp).elim (ho p) (hn p)), fun p hp hq => ?_, ha, hm⟩
      have h1 : p.1 ∈ nx.map (·.1) := List.mem_map.mpr ⟨p, hp, rfl⟩
      rw [ha] at h1
      obtain ⟨q, hq1, hq2⟩ := List.mem_map.mp h1
      exact hoff q hq1 (hq2 ▸ hq)
    refine wpAny_mono (turn c i v m₁ h₁ tk₁ own hin hP hI (st1_fr h1 h2 F₁) N₂) (fun _ s₂ h₂ => wpAny_mono h₂ (fun f s₃ p => ?_) fun _ _ e => e) fun _ _ e => e
    cases f with
    | ret v => exact .ret p
    | brk => exact .brk p
    | next => exact .next (fin _ p)
    | cont => exact .cont (fin _ p)
  · rintro h' tk m' news' F' N' _ ⟨_, c, rfl, h1, h2, hI⟩
    exact done c m' h' tk hI (st1_fr h1 h2 F') N'

end
section
variable {prog : Program} {w : World} {A : Around} {E : Value → Shared → Prop} {s : Shared} {env : Env} {h₀ : Heap} {elts : List Expr} {ek : Nat} {epos : Pos} {body : List Stmt} {Q : Flow → Shared → Prop}
theorem enum_keep {σ : Type} {l : Addr} {vs : List Value} {m₀ : Str → Option Value} (Led : σ → List (Addr × Obj)) (ps : σ → List (Str × Value)) (stored : List Str) (Inv : Nat → σ → Prop) (c₀ : σ)
    (hh : A.handled = none) (hl : s.heap.IsList l vs.toArray) (hlL : l ≠ env.locals) (F : Fr h₀ env.locals s.heap m₀) (N : News h₀ env.locals s.heap (Led c₀)) (hk : ∀ p ∈ ps c₀, m₀ p.1 = some p.2) (hp : Inv 0 c₀)
    (turn : ∀ (c : σ) i v (u : Str → Option Value) h tk own, EnPt vs i v h → Inv i c → Fr h₀ env.locals h (kstB (fun z => if stored.contains z then u z else m₀ z) (ps c)) → News h₀ env.locals h (Led c ++ own) →
      wpAny (model prog w) A (assign (.Tuple elts ek epos) env v) (fun _ s₃ => wpAny (model prog w) A (execs body env) (InvPostN h₀ env.locals (St1 Led ps stored m₀ (Inv (i + 1))) own ((Led c₀).map (·.1)) { s with heap := h, toks := tk } Q) E s₃) E { s with heap := h, toks := tk })
    (done : ∀ (c : σ) (u : Str → Option Value) h tk, Inv vs.length c → Fr h₀ env.locals h (kstB (fun z => if stored.contains z then u z else m₀ z) (ps c)) → News h₀ env.locals h (Led c) → Q .next { s with heap := h, toks := tk }) :
    wpAny (model prog w) A (call (.type "enumerate") [.ref l]) (fun xv s₁ => wpAny (model prog w) A (pyIter xv) (fun it s₂ => TurnsAt prog w A h₀ env (.Tuple elts ek epos) body Q E it s₂) E s₁) E s := by
  have hlt : l < s.heap.objs.size := let ⟨_, e, _⟩ := hl; Heap.lt_size e
  have hLs : env.locals < s.heap.objs.size := F.ns.lt
  refine call_enumerate_list hl fun h' hE hI hsz hk' => ?_
  refine wpAny_pyIter_enum hE ?_
  refine turns_kp (s := { s with heap := h' }) Led ps stored Inv c₀ (KTurns.ofWalksU (WalksT.enumerate hh (s.heap.objs.size + 1) s.heap.objs.size l (Nat.succ_ne_self _) (Nat.ne_of_lt (Nat.lt_succ_of_lt hlt)) (Nat.ne_of_lt hlt) vs.toArray).toU) ?_ ?_ ?_ ⟨⟨_, hE⟩, hI, hl.at fun o e => hk' _ _ e⟩ (F.keeps hk') (N.grown hk') hk hp ?_ ?_
  · intro hm
    have hm' : env.locals = s.heap.objs.size + 1 ∨ env.locals = s.heap.objs.size ∨ env.locals = l := by simpa using hm
    rcases hm' with e | e | e
    · exact absurd hLs (by rw [e]; exact Nat.not_lt.mpr (Nat.le_succ _))
    · exact absurd hLs (by rw [e]; exact Nat.lt_irrefl _)
    · exact hlL e.symm
  · intro b hb
    have hb' : b = s.heap.objs.size + 1 ∨ b = s.heap.objs.size := by simpa using hb
    rcases hb' with e | e
    · rw [e]; exact ktu_new F (Nat.le_add_right _ _)
    · rw [e]; exact ktu_new F (Nat.le_refl _)
  · intro p hp hm
    have hpl : p.1 < s.heap.objs.size := Heap.lt_size (N p hp).1
    have hm' : p.1 = s.heap.objs.size + 1 ∨ p.1 = s.heap.objs.size := by simpa using hm
    rcases hm' with e | e
    · exact absurd hpl (by rw [e]; exact Nat.not_lt.mpr (Nat.le_succ _))
    · exact absurd hpl (by rw [e]; exact Nat.lt_irrefl _)
  · rintro c i v u h tk own hi ⟨T, vals, rfl, ⟨t, x, hx, rfl⟩, hT⟩ hI F₁ N₁
    exact turn c i _ u h tk own ⟨T, t, x, rfl, by simpa using hx, hT⟩ hI F₁ N₁
  · intro c u h tk hI F₁ N₁
    exact done c u h tk (by simpa using hI) F₁ N₁
end
end
section
open AutoSeq1 (wpAny_loadPart')
noncomputable def ltS : List Str → List Str → Bool
  | [], [] => false
  | [], _ :: _ => true
  | _ :: _, [] => false
  | x :: xs, y :: ys => if x = y then ltS xs ys else decide (x.cps.toList < y.cps.toList)
theorem strs_item {items : Array Value} {xs : List Str} (h : StrsAre items.toList xs) (i : Nat) : (∃ y t, xs[i]? = some y ∧ items[i]? = some (.str y t) ∧ i < xs.length) ∨ (xs[i]? = none ∧ items[i]? = none ∧ xs.length ≤ i) := by
  rcases Nat.lt_or_ge i xs.length with hi | hi
  · obtain ⟨t, e⟩ := h.get i xs[i] (by simp [hi])
    exact .inl ⟨xs[i], t, by simp [hi], by simpa using e, hi⟩
  · have h1 : items.size = xs.length := by simpa using h.length
    exact .inr ⟨List.getElem?_eq_none hi, Array.getElem?_eq_none (by rw [h1]; exact hi), hi⟩
theorem drop_some {xs : List Str} {i : Nat} {y : Str} (h : xs[i]? = some y) : xs.drop i = y :: xs.drop (i + 1) := by
  obtain ⟨h1, h2⟩ := List.getElem?_eq_some_iff.mp h
  rw [List.drop_eq_getElem_cons h1, h2]
theorem lt_sizes {xs ys : List Str} {i : Nat} (hx : i ≤ xs.length) (hy : i ≤ ys.length) (h : xs[i]? = none ∨ ys[i]? = none) : ltS (xs.drop i) (ys.drop i) = decide (xs.length < ys.length) := by
  rcases Nat.lt_or_ge i xs.length with h1 | h1 <;> rcases Nat.lt_or_ge i ys.length with h2 | h2
  · exfalso
    rcases h with h | h
    · have := List.getElem?_eq_none_iff.mp h; omega
    · have := List.getElem?_eq_none_iff.mp h; omega
  · rw [List.drop_eq_getElem_cons h1, List.drop_of_length_le h2]
    exact (decide_eq_false (by omega)).symm
  · rw [List.drop_eq_getElem_cons h2, List.drop_of_length_le h1]
    exact (decide_eq_true (by omega)).symm
  · rw [List.drop_of_length_le h1, List.drop_of_length_le h2]
    exact (decide_eq_false (by omega)).symm
theorem lt_next {xs ys : List Str} {i : Nat} {x y : Str} (hx : xs[i]? = some x) (hy : ys[i]? = some y) : ltS (xs.drop i) (ys.drop i) = if x = y then ltS (xs.drop (i + 1)) (ys.drop (i + 1)) else decide (x.cps.toList < y.cps.toList) := by
  rw [drop_some hx, drop_some hy, ltS]
theorem lt_loop (l b : Addr) (items items2 : Array Value) (n n2 : Nat) (dd dd2 : Option Addr) (sl sl2 : Array (Option Value)) (xs ys : List Str) (h1 : StrsAre items.toList xs) (h2 : StrsAre items2.toList ys) (k : Nat) :
    ∀ i : Nat, xs.length - i = k → i ≤ xs.length → i ≤ ys.length → Meets (Builtin.«list.__eq__.loop» ⟨[.ref l, .ref b, rawInt i, rawInt 0], []⟩)
      (fun A R s => s.heap.get? l = some { cls := .type "list", dict := dd, data := .seq items n, slots := sl } ∧ s.heap.get? b = some { cls := .type "list", dict := dd2, data := .seq items2 n2, slots := sl2 } ∧
        R (.ok (.ret (.bool (ltS (xs.drop i) (ys.drop i))))) s) := by
  induction k with
  | zero =>
    intro i hk hx hy prog w A R s h
    obtain ⟨hp, g, d, tk, os⟩ := s; obtain ⟨hl, hb, h⟩ := h
    wp_walk using wpAny_loadPart' hl, wpAny_loadPart' hb
    have z1 : items.size = xs.length := by simpa using h1.length
    have z2 : items2.size = ys.length := by simpa using h2.length
    have hi1 : items[((i : Nat) : Int).toNat]? = none := by simp; omega
    rw [lt_sizes hx hy (.inl (List.getElem?_eq_none (by omega)))] at h
    rw [hi1]
    dsimp only
    wp_walk using wpAny_loadPart' hl, wpAny_loadPart' hb
    show R (.ok (.ret (.bool (decide (items.size < items2.size))))) _
    rw [z1, z2]
    exact h
  | succ k ih =>
    intro i hk hx hy prog w A R s h
    obtain ⟨hp, g, d, tk, os⟩ := s; obtain ⟨hl, hb, h⟩ := h
    have z1 : items.size = xs.length := by simpa using h1.length
    have z2 : items2.size = ys.length := by simpa using h2.length
    wp_walk using wpAny_loadPart' hl, wpAny_loadPart' hb
    rcases strs_item h1 i with ⟨x, t, a1, a2, a3⟩ | ⟨_, _, a3⟩
    · have hi1 : items[((i : Nat) : Int).toNat]? = some (.str x t) := by simpa using a2
      rcases strs_item h2 i with ⟨y, u, b1, b2, b3⟩ | ⟨b1, b2, b3⟩
      · have hi2 : items2[((i : Nat) : Int).toNat]? = some (.str y u) := by simpa using b2
        rw [lt_next a1 b1] at h
        have hc : ((i : Int) + 1) = ((i + 1 : Nat) : Int) := by push_cast; rfl
        rw [hi1, hi2]
        refine wpAny_bind (wpAny_eqBool_str ?_)
        by_cases hxy : x = y
        · rw [if_pos hxy] at h
          rw [decide_eq_true hxy]
          wp_walk
          rw [hc]
          exact ⟨plainId_quiet MeetsSeq3.plain_eq_loop _, codeAny_builtin MeetsSeq3.entry_eq_loop (by
            rw [Around.under_plainId MeetsSeq3.plain_eq_loop _]
            exact ih (i + 1) (by omega) (by omega) (by omega) prog w A R _ ⟨hl, hb, h⟩)⟩
        · rw [if_neg hxy] at h
          rw [decide_eq_false hxy]
          wp_walk using wpAny_loadPart' hl, wpAny_loadPart' hb
          rw [hi1, hi2]
          refine wpAny_bind ?_
          show wpAny _ _ (compareOp .Lt (.str x t) (.str y u)) _ _ _
          exact lt_str (wpAny_pure h)
      · have hi2 : items2[((i : Nat) : Int).toNat]? = none := by simpa using b2
        rw [lt_sizes hx hy (.inr b1)] at h
        rw [hi1, hi2]
        dsimp only
        wp_walk using wpAny_loadPart' hl, wpAny_loadPart' hb
        show R (.ok (.ret (.bool (decide (items.size < items2.size))))) _
        rw [z1, z2]
        exact h
    · omega
theorem list_lt (l b : Addr) (items items2 : Array Value) (n n2 : Nat) (dd dd2 : Option Addr) (sl sl2 : Array (Option Value)) (xs ys : List Str) (h1 : StrsAre items.toList xs) (h2 : StrsAre items2.toList ys) :
    Meets (Builtin.«list.__lt__» ⟨[.ref l, .ref b], []⟩)
      (fun A R s => s.heap.get? l = some { cls := .type "list", dict := dd, data := .seq items n, slots := sl } ∧ s.heap.get? b = some { cls := .type "list", dict := dd2, data := .seq items2 n2, slots := sl2 } ∧
        R (.ok (.ret (.bool (ltS xs ys)))) s) := by
  intro prog w A R s h
  obtain ⟨hp, g, d, tk, os⟩ := s; obtain ⟨hl, hb, h⟩ := h
  have f3 := AutoSeq1.sub_list_list
  wp_walk using wpAny_loadPart' hl, wpAny_loadPart' hb
  exact ⟨plainId_quiet MeetsSeq3.plain_eq_loop _, codeAny_builtin MeetsSeq3.entry_eq_loop (by
    rw [Around.under_plainId MeetsSeq3.plain_eq_loop _]
    exact lt_loop l b items items2 n n2 dd dd2 sl sl2 xs ys h1 h2 _ 0 rfl (Nat.zero_le _) (Nat.zero_le _) prog w A R _ ⟨hl, hb, by simpa using h⟩)⟩
theorem rich_lt {prog : Program} {w : World} {A : Around} {E : Value → Shared → Prop} {s : Shared} {l b : Addr} {vs us : List Value} {xs ys : List Str} {Q : Value → Shared → Prop} (hl : s.heap.IsList l vs.toArray) (hb : s.heap.IsList b us.toArray) (h1 : StrsAre vs xs) (h2 : StrsAre us ys) (hu : A.units < cLine) (h : Q (.bool (ltS xs ys)) s) :
    wpAny (model prog w) A (richCompare .Lt (.ref l) (.ref b)) Q E s := by
  obtain ⟨⟨c, d, dt, sl⟩, e1, e2, n, e3⟩ := hl
  obtain ⟨⟨c', d', dt', sl'⟩, e1', e2', n', e3'⟩ := hb
  cases (show c = _ from e2); cases (show dt = _ from e3); cases (show c' = _ from e2'); cases (show dt' = _ from e3')
  exact richCompare_meets_room ⟨_, e1, rfl⟩ ⟨_, e1', rfl⟩ F.slot_list_lt F.entry_list_lt (F.args_list_lt_2 _ _) (list_lt l b vs.toArray us.toArray n n' d d' sl sl' xs ys h1 h2) ⟨e1, e1', ⟨(fun e => nomatch e), h⟩⟩ hu
theorem gt_loop (l b : Addr) (items items2 : Array Value) (n n2 : Nat) (dd dd2 : Option Addr) (sl sl2 : Array (Option Value)) (xs ys : List Str) (h1 : StrsAre items.toList xs) (h2 : StrsAre items2.toList ys) (k : Nat) :
    ∀ i : Nat, xs.length - i = k → i ≤ xs.length → i ≤ ys.length → Meets (Builtin.«list.__eq__.loop» ⟨[.ref l, .ref b, rawInt i, rawInt 4], []⟩)
      (fun A R s => s.heap.get? l = some { cls := .type "list", dict := dd, data := .seq items n, slots := sl } ∧ s.heap.get? b = some { cls := .type "list", dict := dd2, data := .seq items2 n2, slots := sl2 } ∧
        R (.ok (.ret (.bool (ltS (ys.drop i) (xs.drop i))))) s) := by
  induction k with
  | zero =>
    intro i hk hx hy prog w A R s h
    obtain ⟨hp, g, d, tk, os⟩ := s; obtain ⟨hl, hb, h⟩ := h
    wp_walk using wpAny_loadPart' hl, wpAny_loadPart' hb
    have z1 : items.size = xs.length := by simpa using h1.length
    have z2 : items2.size = ys.length := by simpa using h2.length
    have hi1 : items[((i : Nat) : Int).toNat]? = none := by simp; omega
    rw [lt_sizes hy hx (.inr (List.getElem?_eq_none (by omega)))] at h
    rw [hi1]
    dsimp only
    wp_walk using wpAny_loadPart' hl, wpAny_loadPart' hb
    show R (.ok (.ret (.bool (decide (items2.size < items.size))))) _
    rw [z1, z2]
    exact h
  | succ k ih =>
    intro i hk hx hy prog w A R s h
    obtain ⟨hp, g, d, tk, os⟩ := s; obtain ⟨hl, hb, h⟩ := h
    have z1 : items.size = xs.length := by simpa using h1.length
    have z2 : items2.size = ys.length := by simpa using h2.length
    wp_walk using wpAny_loadPart' hl, wpAny_loadPart' hb
    rcases strs_item h1 i with ⟨x, t, a1, a2, a3⟩ | ⟨_, _, a3⟩
    · have hi1 : items[((i : Nat) : Int).toNat]? = some (.str x t) := by simpa using a2
      rcases strs_item h2 i with ⟨y, u, b1, b2, b3⟩ | ⟨b1, b2, b3⟩
      · have hi2 : items2[((i : Nat) : Int).toNat]? = some (.str y u) := by simpa using b2
        rw [lt_next b1 a1] at h
        have hc : ((i : Int) + 1) = ((i + 1 : Nat) : Int) := by push_cast; rfl
        rw [hi1, hi2]
        refine wpAny_bind (wpAny_eqBool_str ?_)
        by_cases hxy : x = y
        · rw [if_pos hxy.symm] at h
          rw [decide_eq_true hxy]
          wp_walk
          rw [hc]
          exact ⟨plainId_quiet MeetsSeq3.plain_eq_loop _, codeAny_builtin MeetsSeq3.entry_eq_loop (by
            rw [Around.under_plainId MeetsSeq3.plain_eq_loop _]
            exact ih (i + 1) (by omega) (by omega) (by omega) prog w A R _ ⟨hl, hb, h⟩)⟩
        · rw [if_neg (Ne.symm hxy)] at h
          rw [decide_eq_false hxy]
          wp_walk using wpAny_loadPart' hl, wpAny_loadPart' hb
          rw [hi1, hi2]
          refine wpAny_bind ?_
          show wpAny _ _ (compareOp .Gt (.str x t) (.str y u)) _ _ _
          exact PySem.P.gt_str (wpAny_pure h)
      · have hi2 : items2[((i : Nat) : Int).toNat]? = none := by simpa using b2
        rw [lt_sizes hy hx (.inl b1)] at h
        rw [hi1, hi2]
        dsimp only
        wp_walk using wpAny_loadPart' hl, wpAny_loadPart' hb
        show R (.ok (.ret (.bool (decide (items2.size < items.size))))) _
        rw [z1, z2]
        exact h
    · omega
theorem list_gt (l b : Addr) (items items2 : Array Value) (n n2 : Nat) (dd dd2 : Option Addr) (sl sl2 : Array (Option Value)) (xs ys : List Str) (h1 : StrsAre items.toList xs) (h2 : StrsAre items2.toList ys) :
    Meets (Builtin.«list.__gt__» ⟨[.ref l, .ref b], []⟩)
      (fun A R s => s.heap.get? l = some { cls := .type "list", dict := dd, data := .seq items n, slots := sl } ∧ s.heap.get? b = some { cls := .type "list", dict := dd2, data := .seq items2 n2, slots := sl2 } ∧
        R (.ok (.ret (.bool (ltS ys xs)))) s) := by
  intro prog w A R s h
  obtain ⟨hp, g, d, tk, os⟩ := s; obtain ⟨hl, hb, h⟩ := h
  have f3 := AutoSeq1.sub_list_list
  wp_walk using wpAny_loadPart' hl, wpAny_loadPart' hb
  exact ⟨plainId_quiet MeetsSeq3.plain_eq_loop _, codeAny_builtin MeetsSeq3.entry_eq_loop (by
    rw [Around.under_plainId MeetsSeq3.plain_eq_loop _]
    exact gt_loop l b items items2 n n2 dd dd2 sl sl2 xs ys h1 h2 _ 0 rfl (Nat.zero_le _) (Nat.zero_le _) prog w A R _ ⟨hl, hb, by simpa using h⟩)⟩
theorem rich_gt {prog : Program} {w : World} {A : Around} {E : Value → Shared → Prop} {s : Shared} {l b : Addr} {vs us : List Value} {xs ys : List Str} {Q : Value → Shared → Prop} (hl : s.heap.IsList l vs.toArray) (hb : s.heap.IsList b us.toArray) (h1 : StrsAre vs xs) (h2 : StrsAre us ys) (hu : A.units < cLine) (h : Q (.bool (ltS ys xs)) s) :
    wpAny (model prog w) A (richCompare .Gt (.ref l) (.ref b)) Q E s := by
  obtain ⟨⟨c, d, dt, sl⟩, e1, e2, n, e3⟩ := hl
  obtain ⟨⟨c', d', dt', sl'⟩, e1', e2', n', e3'⟩ := hb
  cases (show c = _ from e2); cases (show dt = _ from e3); cases (show c' = _ from e2'); cases (show dt' = _ from e3')
  exact richCompare_meets_room ⟨_, e1, rfl⟩ ⟨_, e1', rfl⟩ F.slot_list_gt F.entry_list_gt (F.args_list_gt_2 _ _) (list_gt l b vs.toArray us.toArray n n' d d' sl sl' xs ys h1 h2) ⟨e1, e1', ⟨(fun e => nomatch e), h⟩⟩ hu
end
section
theorem cps_lt_asymm {a b : List Nat} (h : a < b) : ¬ b < a := fun h2 => List.lt_irrefl _ (List.lt_trans h h2)
theorem ltS_irrefl : ∀ xs : List Str, ltS xs xs = false
  | [] => rfl
  | x :: xs => by rw [ltS, if_pos rfl]; exact ltS_irrefl xs
theorem ltS_asymm : ∀ xs ys : List Str, ltS xs ys = true → ltS ys xs = false
  | [], [], h => by cases h
  | [], _ :: _, _ => rfl
  | _ :: _, [], h => by cases h
  | x :: xs, y :: ys, h => by
    rw [ltS] at h ⊢
    by_cases e : x = y
    · rw [if_pos e] at h; rw [if_pos e.symm]; exact ltS_asymm xs ys h
    · rw [if_neg e] at h; rw [if_neg (Ne.symm e)]
      exact decide_eq_false (cps_lt_asymm (of_decide_eq_true h))
theorem ltS_total : ∀ xs ys : List Str, ltS xs ys = false → ltS ys xs = false → xs = ys
  | [], [], _, _ => rfl
  | [], _ :: _, h, _ => by cases h
  | _ :: _, [], _, h => by cases h
  | x :: xs, y :: ys, h, h' => by
    rw [ltS] at h h'
    by_cases e : x = y
    · rw [if_pos e] at h; rw [if_pos e.symm] at h'
      rw [e, ltS_total xs ys h h']
    · rw [if_neg e] at h; rw [if_neg (Ne.symm e)] at h'
      exact absurd (Str.ext' (Array.toList_inj.mp (List.le_antisymm (List.not_lt.mp (of_decide_eq_false h')) (List.not_lt.mp (of_decide_eq_false h))))) e
theorem lt_in {xs ys : List Str} {i : Nat} (h : ltS ys xs = false) (ht : xs.take i = ys.take i) (hi : i < xs.length) : i < ys.length := by
  rcases Nat.lt_or_ge i ys.length with h1 | h1
  · exact h1
  · exfalso
    rw [List.take_of_length_le h1] at ht
    have key : ∀ (i : Nat) (xs : List Str), i < xs.length → ltS (xs.take i) xs = true := by
      intro i
      induction i with
      | zero => intro xs hx; cases xs with
        | nil => simp at hx
        | cons x xs => rfl
      | succ i ih => intro xs hx; cases xs with
        | nil => simp at hx
        | cons x xs => rw [List.take_succ_cons, ltS, if_pos rfl]; exact ih xs (by simpa using hx)
    rw [← ht, key i xs hi] at h
    cases h
theorem bothN_comm : ∀ xs ys : List Str, bothN xs ys = bothN ys xs
  | [], [] => rfl
  | [], _ :: _ => rfl
  | _ :: _, [] => rfl
  | x :: xs, y :: ys => by
    rw [bothN, bothN]
    by_cases e : x = y
    · rw [if_pos e, if_pos e.symm, bothN_comm xs ys]
    · rw [if_neg e, if_neg (Ne.symm e)]
theorem bothN_take : ∀ xs ys : List Str, xs.take (bothN xs ys) = ys.take (bothN xs ys)
  | [], [] => rfl
  | [], _ :: _ => rfl
  | _ :: _, [] => rfl
  | x :: xs, y :: ys => by
    rw [bothN]
    by_cases e : x = y
    · rw [if_pos e, List.take_succ_cons, List.take_succ_cons, bothN_take xs ys, e]
    · rw [if_neg e]; rfl
theorem mm_le {fa fb xs1 xs2 : List Str} (x1 : xs1 = (if ltS fb fa = true then fb else fa)) (x2 : xs2 = (if ltS fa fb = true then fb else fa)) : ltS xs2 xs1 = false := by
  cases h : ltS fb fa with
  | true =>
    rw [h, if_pos rfl] at x1
    have h2 := ltS_asymm _ _ h
    rw [h2, if_neg Bool.false_ne_true] at x2
    rw [x1, x2]; exact h2
  | false =>
    rw [h, if_neg Bool.false_ne_true] at x1
    cases h2 : ltS fa fb with
    | true => rw [h2, if_pos rfl] at x2; rw [x1, x2]; exact h
    | false => rw [h2, if_neg Bool.false_ne_true] at x2; rw [x1, x2]; exact ltS_irrefl _
theorem mm_both {fa fb xs1 xs2 : List Str} (x1 : xs1 = (if ltS fb fa = true then fb else fa)) (x2 : xs2 = (if ltS fa fb = true then fb else fa)) : xs1.take (bothN xs1 xs2) = fa.take (bothN fa fb) := by
  cases h : ltS fb fa with
  | true =>
    rw [h, if_pos rfl] at x1
    rw [ltS_asymm _ _ h, if_neg Bool.false_ne_true] at x2
    rw [x1, x2, bothN_comm fb fa, bothN_take fa fb]
  | false =>
    rw [h, if_neg Bool.false_ne_true] at x1
    cases h2 : ltS fa fb with
    | true => rw [h2, if_pos rfl] at x2; rw [x1, x2]
    | false =>
      have e := ltS_total _ _ h h2
      rw [h2, if_neg Bool.false_ne_true] at x2
      rw [x1, x2, e]
end
section
theorem m_mro : mroOf (.type "map") = pure [.type "map", .type "object"] := by rw [mroOf_type]; kernel_rfl
theorem m_slot_init : Slot "map" "__init__" "object.__init__" :=
  .of (owner := "object") (n := "__init__") (by rw [typeLookup_type, builtinLookup_eq_fast]; kernel_rfl) (by decide +kernel) (by decide +kernel) (by decide +kernel) (by first | exact .inl (by decide +kernel) | exact .inr (by decide +kernel)) (by rw [isSubtype_type]; kernel_rfl)
theorem m_slot_next : Slot "map" "__next__" "map.__next__" :=
  .of (owner := "map") (n := "__next__") (by rw [typeLookup_type, builtinLookup_eq_fast]; kernel_rfl) (by decide +kernel) (by decide +kernel) (by decide +kernel) (by first | exact .inl (by decide +kernel) | exact .inr (by decide +kernel)) (by rw [isSubtype_type]; kernel_rfl)
theorem m_slot_iter : Slot "map" "__iter__" "map.__iter__" :=
  .of (owner := "map") (n := "__iter__") (by rw [typeLookup_type, builtinLookup_eq_fast]; kernel_rfl) (by decide +kernel) (by decide +kernel) (by decide +kernel) (by first | exact .inl (by decide +kernel) | exact .inr (by decide +kernel)) (by rw [isSubtype_type]; kernel_rfl)
theorem m_lookup_new : typeLookup (.type "map") "__new__" = pure (some (.builtin "map.__new__")) := by rw [typeLookup_type, builtinLookup_eq_fast]; kernel_rfl
theorem m_called : TypeCalled "map" "map.__new__" "object.__init__" :=
  ⟨by decide +kernel, by decide +kernel, ⟨_, _, m_mro⟩, madeBy_type m_mro m_lookup_new (by decide +kernel), by decide +kernel, by rw [isSubtype_type]; kernel_rfl, m_slot_init⟩
theorem m_typeCall (a b : Value) : checkTypeCall "map" ⟨[a, b], []⟩ = pure () := by kernel_rfl
theorem m_newCall (a b : Value) : checkBuiltinCall "map.__new__" ⟨[.type "map", a, b], []⟩ = pure () := by kernel_rfl
theorem m_entry_new : entryFor table "map.__new__" = some Builtin.«map.__new__» := entryFor_of_tree (by kernel_rfl)
theorem m_entry_next : entryFor table "map.__next__" = some Builtin.«map.__next__» := entryFor_of_tree (by kernel_rfl)
theorem m_entry_iter : entryFor table "map.__iter__" = some Builtin.«dict_keyiterator.__iter__» :=
  entryFor_alias (id' := "dict_keyiterator.__iter__") (by kernel_rfl) (by first | rfl | decide +kernel | (unfold String.splitOn; simp +decide [String.splitOnAux])) (by decide +kernel) (by kernel_rfl)
theorem m_owner : Manifest.owners.lookup (String.ofList ['p', 'a', 'm'].reverse) = some Manifest.sig_map := by kernel_rfl
theorem m_args_next (a : Value) : argsOk "map.__next__" ⟨[a], []⟩ := by
  unfold argsOk; rw [signature?_of (id := "map.__next__") (n := ['_', '_', 't', 'x', 'e', 'n', '_', '_']) (o := ['p', 'a', 'm']) (by kernel_rfl) m_owner]; kernel_rfl
theorem m_args_iter (a : Value) : argsOk "map.__iter__" ⟨[a], []⟩ := by
  unfold argsOk; rw [signature?_of (id := "map.__iter__") (n := ['_', '_', 'r', 'e', 't', 'i', '_', '_']) (o := ['p', 'a', 'm']) (by kernel_rfl) m_owner]; kernel_rfl
theorem m_nolen : typeLookup (.type "map") "__len__" = pure none := by rw [typeLookup_type, builtinLookup_eq_fast]; kernel_rfl
theorem m_nohint : typeLookup (.type "map") "__length_hint__" = pure none := by rw [typeLookup_type, builtinLookup_eq_fast]; kernel_rfl
theorem m_sub : isSubtype (.type "map") (.type "map") = pure true := by rw [isSubtype_type]; kernel_rfl
abbrev IsMap (h : Heap) (M T I : Addr) (f : Value) : Prop := h.get? M = some { cls := .type "map", data := .fields #[.ref T, f] } ∧ h.get? T = some { cls := .type "tuple", data := .seq #[.ref I] }
theorem m_meets_new (l : Addr) (xs : Array Value) (f : Value) :
    Meets (Builtin.«map.__new__» ⟨[.type "map", f, .ref l], []⟩) (fun _ R s => s.heap.IsList l xs ∧
      R (.ok (.ret (.ref (s.heap.objs.size + 2)))) { s with heap := ((s.heap.push { cls := .type "list_iterator", data := .fields #[.ref l, .int 0 0] }).push { cls := .type "tuple", data := .seq #[.ref s.heap.objs.size] }).push { cls := .type "map", data := .fields #[.ref (s.heap.objs.size + 1), f] } }) :=
  .of_wp fun prog w A R s h => by
    obtain ⟨hp, g, d, tk, os⟩ := s; obtain ⟨hl1, h⟩ := h
    have hsub := m_sub
    have hL1 : Heap.IsList (Shared.heap ⟨hp, g, d, tk, os⟩) l xs := hl1
    have z1 : (hp.push { cls := .type "list_iterator", data := .fields #[.ref l, .int 0 0] }).objs.size = hp.objs.size + 1 := Heap.size_push ..
    wp_walk using wpAny_pyIter_list hL1
    refine ⟨_, rfl, ?_⟩
    show R (.ok (.ret (.ref ((hp.push { cls := .type "list_iterator", data := .fields #[.ref l, .int 0 0] }).push { cls := .type "tuple", data := .seq #[.ref hp.objs.size] }).objs.size))) ⟨((hp.push { cls := .type "list_iterator", data := .fields #[.ref l, .int 0 0] }).push { cls := .type "tuple", data := .seq #[.ref hp.objs.size] }).push { cls := .type "map", data := .fields #[.ref (hp.push { cls := .type "list_iterator", data := .fields #[.ref l, .int 0 0] }).objs.size, f] }, g, d, tk, os⟩
    rw [Heap.size_push, z1]
    exact h
section
variable {prog : Program} {w : World} {A : Around} {E : Value → Shared → Prop} {s : Shared}
theorem call_map {l : Addr} {xs : Array Value} {f : Value} {Q : Value → Shared → Prop} (hl : s.heap.IsList l xs)
    (h : ∀ h', IsMap h' (s.heap.objs.size + 2) (s.heap.objs.size + 1) s.heap.objs.size f → h'.IsListIter s.heap.objs.size l 0 → h'.objs.size = s.heap.objs.size + 3 → (∀ c o, s.heap.get? c = some o → h'.get? c = some o) → Q (.ref (s.heap.objs.size + 2)) { s with heap := h' }) :
    wpAny (model prog w) A (call (.type "map") [f, .ref l]) Q E s := by
  refine callType_new m_called (by decide) (m_typeCall _ _) (m_newCall _ _) (fun obj => F.args_object_init_3 obj _ _) m_entry_new (m_meets_new l xs f) ⟨hl, ?_⟩
  generalize e1 : s.heap.push { cls := .type "list_iterator", data := .fields #[.ref l, .int 0 0] } = h1
  generalize e2 : h1.push { cls := .type "tuple", data := .seq #[.ref s.heap.objs.size] } = h2
  have z1 : h1.objs.size = s.heap.objs.size + 1 := by rw [← e1]; exact Heap.size_push ..
  have z2 : h2.objs.size = s.heap.objs.size + 2 := by rw [← e2, Heap.size_push, z1]
  have g3 : (h2.push { cls := .type "map", data := .fields #[.ref (s.heap.objs.size + 1), f] }).get? (s.heap.objs.size + 2) = some _ := z2 ▸ Heap.get?_push_size h2 rfl
  have g2 : h2.get? (s.heap.objs.size + 1) = some { cls := .type "tuple", data := .seq #[.ref s.heap.objs.size] } := by rw [← e2, ← z1]; exact Heap.get?_push_size h1 rfl
  have g1 : h1.get? s.heap.objs.size = some { cls := .type "list_iterator", data := .fields #[.ref l, .int 0 0] } := by rw [← e1]; exact Heap.get?_push_size _ rfl
  refine ⟨⟨_, g3, rfl⟩, h _ ⟨g3, Heap.get?_push_of_some _ g2⟩ ⟨_, Heap.get?_push_of_some _ (by rw [← e2]; exact Heap.get?_push_of_some _ g1), rfl, rfl⟩ (by rw [Heap.size_push, z2]) fun c o x => ?_⟩
  refine Heap.get?_push_of_some _ ?_
  rw [← e2]
  refine Heap.get?_push_of_some _ ?_
  rw [← e1]
  exact Heap.get?_push_of_some _ x
end
end
section
section
variable {prog : Program} {w : World} {A : Around} {E : Value → Shared → Prop} {s : Shared} {n : Nat}
/-- the function may be called from any state that keeps what stood -/
noncomputable def FsCall (prog : Program) (w : World) (A : Around) (f : Value) (g : Heap) : Prop :=
  ∀ (u : Nat) (x : Str) (t : Tok) (s₁ : Shared) (Q' : Value → Shared → Prop) (E' : Value → Shared → Prop), u ≤ A.units + 20 → (∀ b o, g.get? b = some o → s₁.heap.get? b = some o) →
    (∀ h' tk', (∀ b o, s₁.heap.get? b = some o → h'.get? b = some o) → Q' (.str x t) { s₁ with heap := h', toks := tk' }) → wpAny (model prog w) { A with units := u } (call f [.str x t]) Q' E' s₁
theorem FsCall.in1 {f : Value} {g : Heap} (H : FsCall prog w A f g) (n : Nat) (hn : n ≤ A.units + 10) : FsCall prog w { A with units := n } f g → True := fun _ => trivial
noncomputable def MapSt (g : Heap) (M T I l : Addr) (f : Value) (i : Nat) (s : Shared) : Prop := (∀ b o, g.get? b = some o → s.heap.get? b = some o) ∧ IsMap s.heap M T I f ∧ s.heap.IsListIter I l i
theorem map_next_item {g : Heap} {M T I l : Addr} {f : Value} {i : Nat} {xs : Array Value} {x : Str} {t : Tok} {Q : Value → Shared → Prop} (H : FsCall prog w A f g) (hu : n ≤ A.units + 10) (hst : MapSt g M T I l f i s) (hl : g.IsList l xs) (hM : g.get? M = none) (hT : g.get? T = none) (hI : g.get? I = none) (hMI : M ≠ I) (hTI : T ≠ I) (hx : xs[i]? = some (.str x t))
    (hQ : ∀ h' tk', MapSt g M T I l f (i + 1) { s with heap := h', toks := tk' } → (∀ b o, b ≠ I → s.heap.get? b = some o → h'.get? b = some o) → Q (.str x t) { s with heap := h', toks := tk' }) :
    wpAny (model prog w) { A with units := n } (Builtin.«map.__next__» ⟨[.ref M], []⟩) (fun fin s' => ∃ v, fin = .done (.ret v) ∧ Q v s') E s := by
  obtain ⟨hk, ⟨hM', hT'⟩, hI'⟩ := hst
  have hls : s.heap.IsList l xs := hl.at fun o e => hk l o e
  have hlI : l ≠ I := fun e => by obtain ⟨o, e1, _⟩ := hl; rw [e, hI] at e1; cases e1
  show wpAny _ _ (field (.ref M) 0 >>= _) _ _ _
  refine wpAny_bind (wpAny_field hM' rfl (x := .ref T) rfl ?_)
  refine wpAny_bind (wpAny_seqItems hT' rfl ?_)
  dsimp only
  refine wpAny_bind (wpAny_arrayLoop ?_)
  simp only [List.forIn_cons, List.forIn_nil]
  refine wpAny_bind (wpAny_bind (wpAny_holding (wpAny_nextOf_list_item hI' hls hx fun h₁ h1 hs₁ => ?_)))
  refine wpAny_pure (wpAny_pure ?_)
  have hk₁ : ∀ b o, b ≠ I → s.heap.get? b = some o → h₁.get? b = some o := fun b o hb e => hs₁.extBut b o hb e
  have hkg : ∀ b o, g.get? b = some o → h₁.get? b = some o := fun b o e => hk₁ b o (fun e2 => by rw [e2, hI] at e; cases e) (hk b o e)
  refine wpAny_bind (wpAny_field (hk₁ _ _ hMI hM') rfl (x := f) rfl ?_)
  refine wpAny_bind (wpAny_holding (H n x t _ _ _ (by omega) hkg fun h' tk' hk' => ?_))
  refine wpAny_bind (wpAny_letGo (wpAny_pure ⟨_, rfl, ?_⟩))
  exact hQ h' tk' ⟨fun b o e => hk' b o (hkg b o e), ⟨hk' _ _ (hk₁ _ _ hMI hM'), hk' _ _ (hk₁ _ _ hTI hT')⟩, h1.at fun o e => hk' I o e⟩ fun b o hb e => hk' b o (hk₁ b o hb e)
theorem map_next_end {g : Heap} {M T I l : Addr} {f : Value} {i : Nat} {xs : Array Value} {Q : Fin → Shared → Prop} (hh : A.handled = none) (hst : MapSt g M T I l f i s) (hl : g.IsList l xs) (hx : xs[i]? = none)
    (hE : ∀ h' e, (∀ b o, b ≠ I → s.heap.get? b = some o → h'.get? b = some o) → (∃ o, h'.get? e = some o ∧ o.cls = .type "StopIteration") → E (.ref e) { s with heap := h' }) :
    wpAny (model prog w) A (Builtin.«map.__next__» ⟨[.ref M], []⟩) Q E s := by
  obtain ⟨hk, ⟨hM', hT'⟩, hI'⟩ := hst
  have hls : s.heap.IsList l xs := hl.at fun o e => hk l o e
  show wpAny _ _ (field (.ref M) 0 >>= _) _ _ _
  refine wpAny_bind (wpAny_field hM' rfl (x := .ref T) rfl ?_)
  refine wpAny_bind (wpAny_seqItems hT' rfl ?_)
  dsimp only
  refine wpAny_bind (wpAny_arrayLoop ?_)
  simp only [List.forIn_cons, List.forIn_nil]
  refine wpAny_bind (wpAny_bind (wpAny_holding (wpAny_nextOf_list_end hh hI' hls hx fun h₂ e hs₂ he => ?_)))
  exact hE h₂ e (fun b o hb e => hs₂ b o hb e) he
theorem map_walks {g : Heap} {M T I l : Addr} {f : Value} {xs : Array Value} (hh : A.handled = none) (H : FsCall prog w A f g) (hn : n ≤ A.units + 8) (hl : g.IsList l xs) (hxs : ∀ (i : Nat) v, xs[i]? = some v → ∃ (x : Str) (t : Tok), v = Value.str x t) (hM : g.get? M = none) (hT : g.get? T = none) (hI : g.get? I = none) (hMI : M ≠ I) (hTI : T ≠ I) :
    WalksS prog w { A with units := n } M (M :: T :: I :: (List.range g.objs.size).filter fun b => (g.get? b).isSome) [I] (fun a b => b = a) xs.size (fun i v => xs[i]? = some v) (fun i s => MapSt g M T I l f i s) where
  sub := fun b hb => by rw [List.mem_singleton.mp hb]; simp
  grefl := fun _ => rfl
  gtrans := fun _ _ _ h1 h2 => h2.trans h1
  frame := fun i s h' tk st _ hk => by
    obtain ⟨a, ⟨b, c⟩, d⟩ := st
    exact ⟨fun p o e => hk p (by have := Heap.lt_size e; simp [this, e]) o (a p o e), ⟨hk M (by simp) _ b, hk T (by simp) _ c⟩, d.at fun o e => hk I (by simp) o e⟩
  item := fun i s Q E hi st hQ => by
    obtain ⟨x, t, hx⟩ := hxs i xs[i] (by simp [hi])
    have hx' : xs[i]? = some (.str x t) := by rw [← hx]; simp [hi]
    have hT' : s.TypeIs (.ref M) "map" := ⟨_, st.2.1.1, rfl⟩
    unfold pyNext
    refine wpAny_with_toks (n := s.toks) (Nat.le_refl _) (wpAny_bind (wpAny_attempt (wpAny_callSpecial?_slot (name := Str.ofString "__next__") hT' m_slot_next
      (wpAny_call_entry m_slot_next hT' m_entry_next (map_next_item (A := A) H (n := n + 1) (by omega) st hl hM hT hI hMI hTI hx' fun h' tk' st' hk' => wpAny_pure fun htk => hQ _ _ hx' st' ⟨fun b o hb e => hk' b o (by simpa using hb) e, rfl, rfl, rfl, htk⟩) (m_args_next _)))))
  done := fun s Q E st hQ => by
    have hT' : s.TypeIs (.ref M) "map" := ⟨_, st.2.1.1, rfl⟩
    unfold pyNext
    refine wpAny_bind (wpAny_attempt (wpAny_callSpecial?_slot (name := Str.ofString "__next__") hT' m_slot_next
      (wpAny_call_entry m_slot_next hT' m_entry_next (map_next_end (by exact hh) st hl (by simp) fun h' e hk he => ?_) (m_args_next _))))
    obtain ⟨o, ho, hc⟩ := he
    refine wpAny_bind (wpAny_isInstance (T := "StopIteration") (b := true) ⟨o, ho, hc⟩ isSubtype_stop ?_)
    exact wpAny_pure (hQ _ ⟨fun b o hb e => hk b o (by simpa using hb) e, rfl, rfl, rfl, Nat.le_refl _⟩)
  self := fun i s Q E st hQ => by
    have hT' : s.TypeIs (.ref M) "map" := ⟨_, st.2.1.1, rfl⟩
    refine wpAny_pyIter_slot hT' m_slot_iter (wpAny_call_entry m_slot_iter hT' m_entry_iter ?_ (m_args_iter _))
    show wpAny _ _ (ret (.ref M)) _ _ s
    exact wpAny_pure ⟨_, rfl, "map", _, hT', m_slot_next.lookup, hQ⟩
end
end
section
theorem min_pair {prog : Program} {w : World} {A : Around} {E : Value → Shared → Prop} {s : Shared} {D a b : Addr} {vs us : List Value} {xs ys : List Str} {Q : Value → Shared → Prop} (hh : A.handled = none) (hD : s.heap.IsList D #[.ref a, .ref b]) (ha : s.heap.IsList a vs.toArray) (hb : s.heap.IsList b us.toArray) (h1 : StrsAre vs xs) (h2 : StrsAre us ys) (hu : A.units + 10 < cLine)
    (h : ∀ h' tk, (∀ p o, s.heap.get? p = some o → h'.get? p = some o) → Q (if ltS ys xs = true then .ref b else .ref a) { s with heap := h', toks := tk }) : wpAny (model prog w) A (call (.builtin "min") [.ref D]) Q E s := by
  have hname : (toString "min" ++ toString ".loop" : String) = "min.loop" := by decide
  have hu1 : A.in1.units < cLine := by show A.units + 1 < cLine; omega
  obtain ⟨oD, hoD, hD2⟩ := id hD
  have hltD : D < s.heap.objs.size := Heap.lt_size hoD
  refine call_function_tree F.kind_min F.plain_min F.entry_min (F.args_min1 _) ?_
  show wpAny _ A.in1 (Builtin.Builtins.bindParams "min" ["key", "default"] 0 ⟨[], []⟩ >>= _) _ _ s
  refine wpAny_bind (wpAny_of_eq (show Builtin.Builtins.bindParams "min" ["key", "default"] 0 ⟨[], []⟩ = pure [none, none] from rfl) ?_)
  refine wpAny_bind (wpAny_pure ?_)
  refine wpAny_bind (wpAny_pyIter_list hD ?_)
  generalize hI : s.heap.objs.size = I at hltD
  generalize hh1 : s.heap.push { cls := .type "list_iterator", data := .fields #[.ref D, .int 0 0] } = h1'
  have z1 : h1'.objs.size = I + 1 := by rw [← hh1, Heap.size_push, hI]
  have k1 : ∀ b o, s.heap.get? b = some o → h1'.get? b = some o := fun b o e => by rw [← hh1]; exact Heap.get?_push_of_some _ e
  have i1 : h1'.IsListIter I D 0 := ⟨_, by rw [← hh1, ← hI]; exact Heap.get?_push_size _ rfl, rfl, rfl⟩
  refine wpAny_bind (wpAny_newObj_type ?_)
  rw [hname]
  generalize hh2 : h1'.push { cls := .type "list", data := .seq ([] : List Value).toArray } = h2'
  rw [show ({ s with heap := h1' } : Shared).heap.objs.size = I + 1 from z1]
  have k2 : ∀ b o, h1'.get? b = some o → h2'.get? b = some o := fun b o e => by rw [← hh2]; exact Heap.get?_push_of_some _ e
  have hS : h2'.get? (I + 1) = some { cls := .type "list", data := .seq #[] } := by rw [← hh2, ← z1]; exact Heap.get?_push_size _ rfl
  have i2 : h2'.IsListIter I D 0 := by obtain ⟨o, e, r⟩ := i1; exact ⟨o, k2 _ _ e, r⟩
  have kk : ∀ b o, s.heap.get? b = some o → h2'.get? b = some o := fun b o e => k2 b o (k1 b o e)
  have off : ∀ b o, s.heap.get? b = some o → b ≠ I ∧ b ≠ I + 1 := fun b o e => by
    have h9 : @LT.lt Nat _ b I := hI ▸ Heap.lt_size e
    exact ⟨Nat.ne_of_lt h9, Nat.ne_of_lt (Nat.lt_succ_of_lt h9)⟩
  have hSI : @Ne Addr (I + 1) I := Nat.succ_ne_self I
  have hDI : D ≠ I := (off _ _ hoD).1
  clear hh1 hh2 k1 k2 i1 z1
  have W := Walks.list (prog := prog) (w := w) (A := A.in1) hh I D hDI #[.ref a, .ref b]
  refine wpAny_pure ⟨plainId_quiet F.plain_min_loop _, ?_⟩
  refine codeAny_builtin F.entry_min_loop ?_
  rw [Around.under_plainId F.plain_min_loop _]
  show wpAny _ A.in1 (seqItems? (.ref (I + 1)) >>= _) _ _ _
  refine wpAny_bind (wpAny_seqItems hS rfl ?_)
  show wpAny _ A.in1 (tryCatch (pyNext (.ref I)) _ >>= _) _ _ _
  refine wpAny_bind (wpAny_tryCatch (W.item 0 _ _ _ (by simp) ⟨i2, hD.at fun o e => kk _ o e⟩ fun v h3 tk3 hP st3 hk3 => ?_))
  obtain rfl : v = .ref a := by simpa using hP.symm
  have hS3 := hk3 (I + 1) _ (by simpa using hSI) hS
  have kk3 : ∀ b o, s.heap.get? b = some o → h3.get? b = some o := fun b o e => hk3 b o (by simpa using (off b o e).1) (kk b o e)
  show wpAny _ A.in1 (updateSeq (I + 1) (fun _ => #[.ref a, .ref a]) >>= _) _ _ _
  refine wpAny_bind (wpAny_updateSeq hS3 rfl ?_)
  have hS4 := Heap.get?_update_self (Obj.mapSeq (fun _ => (#[.ref a, .ref a] : Array Value))) hS3 rfl
  generalize hh4 : h3.update (I + 1) (Obj.mapSeq (fun _ => (#[.ref a, .ref a] : Array Value))) = h4 at hS4
  have k4 : ∀ b o, b ≠ I + 1 → h3.get? b = some o → h4.get? b = some o := fun b o hb e => by rw [← hh4]; exact (Heap.get?_update_other _ _ (Ne.symm hb)).trans e
  have kk4 : ∀ b o, s.heap.get? b = some o → h4.get? b = some o := fun b o e => k4 b o (off b o e).2 (kk3 b o e)
  have st4 : h4.IsListIter I D 1 ∧ h4.IsList D #[.ref a, .ref b] := ⟨by obtain ⟨o, e, r⟩ := st3.1; exact ⟨o, k4 _ _ (Ne.symm hSI) e, r⟩, hD.at fun o e => kk4 _ o e⟩
  clear hh4
  rw [hname]
  refine wpAny_pure ⟨plainId_quiet F.plain_min_loop _, ?_⟩
  refine codeAny_builtin F.entry_min_loop ?_
  rw [Around.under_plainId F.plain_min_loop _]
  show wpAny _ A.in1 (seqItems? (.ref (I + 1)) >>= _) _ _ _
  refine wpAny_bind (wpAny_seqItems hS4 rfl ?_)
  show wpAny _ A.in1 (tryCatch (pyNext (.ref I)) _ >>= _) _ _ _
  refine wpAny_bind (wpAny_tryCatch (W.item 1 _ _ _ (by simp) st4 fun v h5 tk5 hP st5 hk5 => ?_))
  obtain rfl : v = .ref b := by simpa using hP.symm
  have hS5 := hk5 (I + 1) _ (by simpa using hSI) hS4
  have kk5 : ∀ b o, s.heap.get? b = some o → h5.get? b = some o := fun b o e => hk5 b o (by simpa using (off b o e).1) (kk4 b o e)
  show wpAny _ A.in1 (tryCatch (holding [.ref b, .ref b] (richCompare .Lt (.ref b) (.ref a) >>= _)) _ >>= _) _ _ _
  refine wpAny_bind (wpAny_tryCatch (wpAny_holding (wpAny_bind (rich_lt (hb.at fun o e => kk5 _ o e) (ha.at fun o e => kk5 _ o e) h2 h1 hu1 ?_))))
  refine wpAny_bind (wpAny_holding (wpAny_truthy_bool ?_))
  refine wpAny_bind (wpAny_letGo (wpAny_pure ?_))
  have last : ∀ (best : Value) (h6 : Heap) tk6 (c6 : Nat), h6.get? (I + 1) = some { cls := .type "list", data := .seq #[best, best] c6 } → (h6.IsListIter I D 2 ∧ h6.IsList D #[.ref a, .ref b]) → (∀ b o, s.heap.get? b = some o → h6.get? b = some o) → (∀ h' tk, (∀ p o, s.heap.get? p = some o → h'.get? p = some o) → Q best { s with heap := h', toks := tk }) →
      codeAny (model prog w) A (.builtin "min.loop" ⟨[.ref I, .none, .ref (I + 1)], []⟩) (wants Q E) { s with heap := h6, toks := tk6 } := by
    intro best h6 tk6 c6 hS6 st6 kk6 hq
    refine codeAny_builtin F.entry_min_loop ?_
    rw [Around.under_plainId F.plain_min_loop _]
    show wpAny _ A.in1 (seqItems? (.ref (I + 1)) >>= _) _ _ _
    refine wpAny_bind (wpAny_seqItems hS6 rfl ?_)
    show wpAny _ A.in1 (tryCatch (pyNext (.ref I)) _ >>= _) _ _ _
    refine wpAny_bind (wpAny_tryCatch (W.done _ _ _ st6 fun h7 tk7 hk7 => ?_))
    have hS7 := hk7 (I + 1) _ (by simpa using hSI) hS6
    show wpAny _ A.in1 (updateSeq (I + 1) (fun _ => #[]) >>= _) _ _ _
    refine wpAny_bind (wpAny_updateSeq hS7 rfl (wpAny_bind (wpAny_letGo (wpAny_pure ?_))))
    exact hq _ tk7 fun b o e => (Heap.get?_update_other _ _ (Ne.symm (off b o e).2)).trans (hk7 b o (by simpa using (off b o e).1) (kk6 b o e))
  cases hbt : ltS ys xs with
  | true =>
    simp only [if_true]
    refine wpAny_bind (wpAny_updateSeq hS5 rfl (wpAny_bind (wpAny_letGo ?_)))
    have hS6 := Heap.get?_update_self (Obj.mapSeq (fun _ => (#[.ref b, .ref b] : Array Value))) hS5 rfl
    have k6 : ∀ p o, p ≠ I + 1 → h5.get? p = some o → (h5.update (I + 1) (Obj.mapSeq (fun _ => (#[.ref b, .ref b] : Array Value)))).get? p = some o := fun p o hb e => (Heap.get?_update_other _ _ (Ne.symm hb)).trans e
    rw [hname]
    refine wpAny_pure ⟨plainId_quiet F.plain_min_loop _, last (.ref b) _ _ _ hS6 ⟨?_, hD.at fun o e => k6 _ o (off _ _ e).2 (kk5 _ o e)⟩ (fun p o e => k6 p o (off p o e).2 (kk5 p o e)) fun h' tk hk => ?_⟩
    · obtain ⟨o, e, r⟩ := st5.1; exact ⟨o, k6 _ _ (Ne.symm hSI) e, r⟩
    · have := h h' tk hk; rw [hbt, if_pos rfl] at this; exact this
  | false =>
    simp only [Bool.false_eq_true, if_false]
    refine wpAny_bind (wpAny_letGo ?_)
    rw [hname]
    refine wpAny_pure ⟨plainId_quiet F.plain_min_loop _, last (.ref a) h5 _ _ hS5 st5 kk5 fun h' tk hk => ?_⟩
    have := h h' tk hk; rw [hbt, if_neg Bool.false_ne_true] at this; exact this
theorem max_pair {prog : Program} {w : World} {A : Around} {E : Value → Shared → Prop} {s : Shared} {D a b : Addr} {vs us : List Value} {xs ys : List Str} {Q : Value → Shared → Prop} (hh : A.handled = none) (hD : s.heap.IsList D #[.ref a, .ref b]) (ha : s.heap.IsList a vs.toArray) (hb : s.heap.IsList b us.toArray) (h1 : StrsAre vs xs) (h2 : StrsAre us ys) (hu : A.units + 10 < cLine)
    (h : ∀ h' tk, (∀ p o, s.heap.get? p = some o → h'.get? p = some o) → Q (if ltS xs ys = true then .ref b else .ref a) { s with heap := h', toks := tk }) : wpAny (model prog w) A (call (.builtin "max") [.ref D]) Q E s := by
  have hname : (toString "max" ++ toString ".loop" : String) = "max.loop" := by decide
  have hu1 : A.in1.units < cLine := by show A.units + 1 < cLine; omega
  obtain ⟨oD, hoD, hD2⟩ := id hD
  have hltD : D < s.heap.objs.size := Heap.lt_size hoD
  refine call_function_tree F.kind_max F.plain_max F.entry_max (F.args_max1 _) ?_
  show wpAny _ A.in1 (Builtin.Builtins.bindParams "max" ["key", "default"] 0 ⟨[], []⟩ >>= _) _ _ s
  refine wpAny_bind (wpAny_of_eq (show Builtin.Builtins.bindParams "max" ["key", "default"] 0 ⟨[], []⟩ = pure [none, none] from rfl) ?_)
  refine wpAny_bind (wpAny_pure ?_)
  refine wpAny_bind (wpAny_pyIter_list hD ?_)
  generalize hI : s.heap.objs.size = I at hltD
  generalize hh1 : s.heap.push { cls := .type "list_iterator", data := .fields #[.ref D, .int 0 0] } = h1'
  have z1 : h1'.objs.size = I + 1 := by rw [← hh1, Heap.size_push, hI]
  have k1 : ∀ b o, s.heap.get? b = some o → h1'.get? b = some o := fun b o e => by rw [← hh1]; exact Heap.get?_push_of_some _ e
  have i1 : h1'.IsListIter I D 0 := ⟨_, by rw [← hh1, ← hI]; exact Heap.get?_push_size _ rfl, rfl, rfl⟩
  refine wpAny_bind (wpAny_newObj_type ?_)
  rw [hname]
  generalize hh2 : h1'.push { cls := .type "list", data := .seq ([] : List Value).toArray } = h2'
  rw [show ({ s with heap := h1' } : Shared).heap.objs.size = I + 1 from z1]
  have k2 : ∀ b o, h1'.get? b = some o → h2'.get? b = some o := fun b o e => by rw [← hh2]; exact Heap.get?_push_of_some _ e
  have hS : h2'.get? (I + 1) = some { cls := .type "list", data := .seq #[] } := by rw [← hh2, ← z1]; exact Heap.get?_push_size _ rfl
  have i2 : h2'.IsListIter I D 0 := by obtain ⟨o, e, r⟩ := i1; exact ⟨o, k2 _ _ e, r⟩
  have kk : ∀ b o, s.heap.get? b = some o → h2'.get? b = some o := fun b o e => k2 b o (k1 b o e)
  have off : ∀ b o, s.heap.get? b = some o → b ≠ I ∧ b ≠ I + 1 := fun b o e => by
    have h9 : @LT.lt Nat _ b I := hI ▸ Heap.lt_size e
    exact ⟨Nat.ne_of_lt h9, Nat.ne_of_lt (Nat.lt_succ_of_lt h9)⟩
  have hSI : @Ne Addr (I + 1) I := Nat.succ_ne_self I
  have hDI : D ≠ I := (off _ _ hoD).1
  clear hh1 hh2 k1 k2 i1 z1
  have W := Walks.list (prog := prog) (w := w) (A := A.in1) hh I D hDI #[.ref a, .ref b]
  refine wpAny_pure ⟨plainId_quiet F.plain_max_loop _, ?_⟩
  refine codeAny_builtin F.entry_max_loop ?_
  rw [Around.under_plainId F.plain_max_loop _]
  show wpAny _ A.in1 (seqItems? (.ref (I + 1)) >>= _) _ _ _
  refine wpAny_bind (wpAny_seqItems hS rfl ?_)
  show wpAny _ A.in1 (tryCatch (pyNext (.ref I)) _ >>= _) _ _ _
  refine wpAny_bind (wpAny_tryCatch (W.item 0 _ _ _ (by simp) ⟨i2, hD.at fun o e => kk _ o e⟩ fun v h3 tk3 hP st3 hk3 => ?_))
  obtain rfl : v = .ref a := by simpa using hP.symm
  have hS3 := hk3 (I + 1) _ (by simpa using hSI) hS
  have kk3 : ∀ b o, s.heap.get? b = some o → h3.get? b = some o := fun b o e => hk3 b o (by simpa using (off b o e).1) (kk b o e)
  show wpAny _ A.in1 (updateSeq (I + 1) (fun _ => #[.ref a, .ref a]) >>= _) _ _ _
  refine wpAny_bind (wpAny_updateSeq hS3 rfl ?_)
  have hS4 := Heap.get?_update_self (Obj.mapSeq (fun _ => (#[.ref a, .ref a] : Array Value))) hS3 rfl
  generalize hh4 : h3.update (I + 1) (Obj.mapSeq (fun _ => (#[.ref a, .ref a] : Array Value))) = h4 at hS4
  have k4 : ∀ b o, b ≠ I + 1 → h3.get? b = some o → h4.get? b = some o := fun b o hb e => by rw [← hh4]; exact (Heap.get?_update_other _ _ (Ne.symm hb)).trans e
  have kk4 : ∀ b o, s.heap.get? b = some o → h4.get? b = some o := fun b o e => k4 b o (off b o e).2 (kk3 b o e)
  have st4 : h4.IsListIter I D 1 ∧ h4.IsList D #[.ref a, .ref b] := ⟨by obtain ⟨o, e, r⟩ := st3.1; exact ⟨o, k4 _ _ (Ne.symm hSI) e, r⟩, hD.at fun o e => kk4 _ o e⟩
  clear hh4
  rw [hname]
  refine wpAny_pure ⟨plainId_quiet F.plain_max_loop _, ?_⟩
  refine codeAny_builtin F.entry_max_loop ?_
  rw [Around.under_plainId F.plain_max_loop _]
  show wpAny _ A.in1 (seqItems? (.ref (I + 1)) >>= _) _ _ _
  refine wpAny_bind (wpAny_seqItems hS4 rfl ?_)
  show wpAny _ A.in1 (tryCatch (pyNext (.ref I)) _ >>= _) _ _ _
  refine wpAny_bind (wpAny_tryCatch (W.item 1 _ _ _ (by simp) st4 fun v h5 tk5 hP st5 hk5 => ?_))
  obtain rfl : v = .ref b := by simpa using hP.symm
  have hS5 := hk5 (I + 1) _ (by simpa using hSI) hS4
  have kk5 : ∀ b o, s.heap.get? b = some o → h5.get? b = some o := fun b o e => hk5 b o (by simpa using (off b o e).1) (kk4 b o e)
  show wpAny _ A.in1 (tryCatch (holding [.ref b, .ref b] (richCompare .Gt (.ref b) (.ref a) >>= _)) _ >>= _) _ _ _
  refine wpAny_bind (wpAny_tryCatch (wpAny_holding (wpAny_bind (rich_gt (hb.at fun o e => kk5 _ o e) (ha.at fun o e => kk5 _ o e) h2 h1 hu1 ?_))))
  refine wpAny_bind (wpAny_holding (wpAny_truthy_bool ?_))
  refine wpAny_bind (wpAny_letGo (wpAny_pure ?_))
  have last : ∀ (best : Value) (h6 : Heap) tk6 (c6 : Nat), h6.get? (I + 1) = some { cls := .type "list", data := .seq #[best, best] c6 } → (h6.IsListIter I D 2 ∧ h6.IsList D #[.ref a, .ref b]) → (∀ b o, s.heap.get? b = some o → h6.get? b = some o) → (∀ h' tk, (∀ p o, s.heap.get? p = some o → h'.get? p = some o) → Q best { s with heap := h', toks := tk }) →
      codeAny (model prog w) A (.builtin "max.loop" ⟨[.ref I, .none, .ref (I + 1)], []⟩) (wants Q E) { s with heap := h6, toks := tk6 } := by
    intro best h6 tk6 c6 hS6 st6 kk6 hq
    refine codeAny_builtin F.entry_max_loop ?_
    rw [Around.under_plainId F.plain_max_loop _]
    show wpAny _ A.in1 (seqItems? (.ref (I + 1)) >>= _) _ _ _
    refine wpAny_bind (wpAny_seqItems hS6 rfl ?_)
    show wpAny _ A.in1 (tryCatch (pyNext (.ref I)) _ >>= _) _ _ _
    refine wpAny_bind (wpAny_tryCatch (W.done _ _ _ st6 fun h7 tk7 hk7 => ?_))
    have hS7 := hk7 (I + 1) _ (by simpa using hSI) hS6
    show wpAny _ A.in1 (updateSeq (I + 1) (fun _ => #[]) >>= _) _ _ _
    refine wpAny_bind (wpAny_updateSeq hS7 rfl (wpAny_bind (wpAny_letGo (wpAny_pure ?_))))
    exact hq _ tk7 fun b o e => (Heap.get?_update_other _ _ (Ne.symm (off b o e).2)).trans (hk7 b o (by simpa using (off b o e).1) (kk6 b o e))
  cases hbt : ltS xs ys with
  | true =>
    simp only [if_true]
    refine wpAny_bind (wpAny_updateSeq hS5 rfl (wpAny_bind (wpAny_letGo ?_)))
    have hS6 := Heap.get?_update_self (Obj.mapSeq (fun _ => (#[.ref b, .ref b] : Array Value))) hS5 rfl
    have k6 : ∀ p o, p ≠ I + 1 → h5.get? p = some o → (h5.update (I + 1) (Obj.mapSeq (fun _ => (#[.ref b, .ref b] : Array Value)))).get? p = some o := fun p o hb e => (Heap.get?_update_other _ _ (Ne.symm hb)).trans e
    rw [hname]
    refine wpAny_pure ⟨plainId_quiet F.plain_max_loop _, last (.ref b) _ _ _ hS6 ⟨?_, hD.at fun o e => k6 _ o (off _ _ e).2 (kk5 _ o e)⟩ (fun p o e => k6 p o (off p o e).2 (kk5 p o e)) fun h' tk hk => ?_⟩
    · obtain ⟨o, e, r⟩ := st5.1; exact ⟨o, k6 _ _ (Ne.symm hSI) e, r⟩
    · have := h h' tk hk; rw [hbt, if_pos rfl] at this; exact this
  | false =>
    simp only [Bool.false_eq_true, if_false]
    refine wpAny_bind (wpAny_letGo ?_)
    rw [hname]
    refine wpAny_pure ⟨plainId_quiet F.plain_max_loop _, last (.ref a) h5 _ _ hS5 st5 kk5 fun h' tk hk => ?_⟩
    have := h h' tk hk; rw [hbt, if_neg Bool.false_ne_true] at this; exact this
end
section
noncomputable def setT0 (led : Bool) : Obj := { cls := .type "set", data := .set #[] 0 (.fresh 0 0 led) }
noncomputable def tabT1 (led : Bool) : SetTable := { mask := 7, place := #[1], dummies := #[], finger := 0, led := led, moves := 0, plain := true }
noncomputable def setT1 (led : Bool) : Obj := { cls := .type "set", data := .set #[(1, .bool true)] 1 (tabT1 led) }
theorem lay_true (led : Bool) : layNew (.fresh 0 0 led) #[] 1 (.bool true) = (#[(1, .bool true)], tabT1 led, false, false) := by cases led <;> rfl
section
variable {prog : Program} {w : World} {A : Around} {E : Value → Shared → Prop} {s : Shared}
theorem hash_true {Q : Int → Shared → Prop} (h : Q 1 { s with toks := s.toks + 1 }) : wpAny (model prog w) A (pyHash (.bool true)) Q E s := by
  have hT : s.TypeIs (.bool true) "bool" := rfl
  unfold pyHash
  have hv : [Value.bool true].any Value.onHeap = false := rfl
  refine wpAny_bind ?_
  rw [cRoomFor, if_neg (by rw [hv]; exact Bool.false_ne_true)]
  refine wpAny_pure ?_
  refine wpAny_bind (wpAny_specialOf hT F.slot_bool_hash.lookup ?_)
  show wpAny _ _ (if (some (Value.builtin "int.__hash__") == some Value.none) = true then _ else _) Q E s
  rw [if_neg (by rw [beq_builtin_none]; exact Bool.false_ne_true)]
  refine wpAny_bind (wpAny_specialOf hT F.slot_bool_hash.lookup ?_)
  show wpAny _ _ (callSpecialIfBoundUnlessNone? (.bool true) "__hash__" _ >>= _) Q E s
  refine wpAny_bind (wpAny_callSpecialIfBoundUnlessNone?_slot hT F.slot_bool_hash (wpAny_call_entry F.slot_bool_hash hT entry_int_hash (show wpAny _ _ (do ret (← mkInt 1)) _ _ s from wpAny_ret_mkInt ?_) (args_int_hash _)))
  exact wpAny_pure h
theorem set_add0 {D : Addr} {led : Bool} {Q : Value → Shared → Prop} (h0 : s.heap.get? D = some (setT0 led))
    (h : ∀ h', h'.get? D = some (setT1 led) → Heap.SameBut D s.heap h' → Q .none { s with heap := h', toks := s.toks + 1 }) : wpAny (model prog w) A (call (.builtin "set.add") [.ref D, .bool true]) Q E s := by
  refine wpAny_call_entry (T := "set") F.slot_set_add ⟨_, h0, rfl⟩ F.entry_set_add ?_ (F.args_set_add_2 _ _)
  unfold Builtin.«set.add» Builtin.Frozenset.oneOther
  simp only [List.isEmpty_nil, bind_assoc]
  unfold Builtin.Frozenset.addrOf setAdd
  refine wpAny_bind (wpAny_pure ?_)
  try dsimp only
  refine wpAny_bind (wpAny_pure ?_)
  try dsimp only
  refine wpAny_bind ?_
  refine wpAny_holding ?_
  refine wpAny_bind (hash_true ?_)
  unfold setAddHashed setAddHashedIn
  refine wpAny_holding (wpAny_bind (wpAny_setState_of h0 rfl (by cases led <;> rfl) ?_))
  dsimp only
  rw [show byScan (.bool true) #[] = true from by simp [byScan, Value.scannable, scanBound]]
  simp only [↓reduceIte]
  unfold setAddByScan
  refine wpAny_bind (wpAny_bind (wpAny_rule ?_))
  refine wpAny_bind (m := setScan D (.bool true) 1 true #[]) (wpAny_pure ?_)
  dsimp only
  rw [lay_true]
  dsimp only
  refine wpAny_bind (wpAny_of_eq (a := ()) rfl ?_)
  rw [if_pos (show (tabT1 led).plain = true from rfl)]
  refine wpAny_bind (wpAny_of_eq (a := true) rfl ?_)
  rw [if_pos (rfl : true = true), show (!false && (tabT1 led).tooFull) = false from by cases led <;> rfl, if_neg Bool.false_ne_true]
  refine wpAny_bind ?_
  refine wpAny_storeSet_of h0 rfl ?_ (by rw [sizeLine_eq]; decide)
  refine wpAny_pure ?_
  dsimp only
  refine wpAny_pure ?_
  exact wpAny_pure ⟨_, rfl, h _ (Heap.get?_update_self (Obj.putSet #[(1, .bool true)] (tabT1 led)) h0 rfl) (Heap.SameBut.update ..)⟩
theorem set_add1 {D : Addr} {led : Bool} {Q : Value → Shared → Prop} (h0 : s.heap.get? D = some (setT1 led))
    (h : Q .none { s with toks := s.toks + 1 }) : wpAny (model prog w) A (call (.builtin "set.add") [.ref D, .bool true]) Q E s := by
  refine wpAny_call_entry (T := "set") F.slot_set_add ⟨_, h0, rfl⟩ F.entry_set_add ?_ (F.args_set_add_2 _ _)
  unfold Builtin.«set.add» Builtin.Frozenset.oneOther
  simp only [List.isEmpty_nil, bind_assoc]
  unfold Builtin.Frozenset.addrOf setAdd
  refine wpAny_bind (wpAny_pure ?_)
  try dsimp only
  refine wpAny_bind (wpAny_pure ?_)
  try dsimp only
  refine wpAny_bind ?_
  refine wpAny_holding ?_
  refine wpAny_bind (hash_true ?_)
  unfold setAddHashed setAddHashedIn
  refine wpAny_holding (wpAny_bind (wpAny_setState_of h0 rfl (by cases led <;> rfl) ?_))
  dsimp only
  rw [show byScan (.bool true) #[(1, .bool true)] = true from by simp [byScan, Value.scannable, scanBound]]
  simp only [↓reduceIte]
  unfold setAddByScan
  refine wpAny_bind (wpAny_bind (wpAny_rule ?_))
  refine wpAny_bind ?_
  show wpAny _ _ (setScanFrom D (.bool true) 1 true [(1, .bool true)] 0) _ _ _
  unfold setScanFrom
  rw [if_pos (by decide)]
  refine wpAny_bind (wpAny_setEpoch_of h0 rfl (by cases led <;> rfl) ?_)
  refine wpAny_bind ?_
  unfold eqBool
  refine wpAny_holding ?_
  rw [if_pos (by decide)]
  refine wpAny_bind (wpAny_rule (wpAny_pure ?_))
  rw [if_pos (by decide)]
  refine wpAny_pure ?_
  refine wpAny_pure (wpAny_pure ?_)
  exact wpAny_pure ⟨_, rfl, h⟩
theorem st_entry_iter : entryFor table "set.__iter__" = some Builtin.«frozenset.__iter__» :=
  entryFor_alias (id' := "frozenset.__iter__") (by kernel_rfl) rfl (by decide +kernel) (by kernel_rfl)
theorem si_slot_next : Slot "set_iterator" "__next__" "set_iterator.__next__" :=
  .of (owner := "set_iterator") (n := "__next__") (by rw [typeLookup_type, builtinLookup_eq_fast]; kernel_rfl) (by decide +kernel) (by decide +kernel) (by decide +kernel) (by first | exact .inl (by decide +kernel) | exact .inr (by decide +kernel)) (by rw [isSubtype_type]; kernel_rfl)
theorem si_entry_next : entryFor table "set_iterator.__next__" = some Builtin.«set_iterator.__next__» := entryFor_of_tree (by kernel_rfl)
theorem si_owner : Manifest.owners.lookup (String.ofList ['r', 'o', 't', 'a', 'r', 'e', 't', 'i', '_', 't', 'e', 's'].reverse) = some Manifest.sig_set_iterator := by kernel_rfl
theorem si_args_next (a : Value) : argsOk "set_iterator.__next__" ⟨[a], []⟩ := by
  unfold argsOk; rw [signature?_of (id := "set_iterator.__next__") (n := ['_', '_', 't', 'x', 'e', 'n', '_', '_']) (o := ['r', 'o', 't', 'a', 'r', 'e', 't', 'i', '_', 't', 'e', 's']) (by kernel_rfl) si_owner]; kernel_rfl
abbrev SetIt (h : Heap) (I D : Addr) (a b : Nat) : Prop := h.get? I = some { cls := .type "set_iterator", data := .fields #[.int a 0, .int b 0, .ref D, .int 1 0, .int 1 0] }
end
end
section
section
variable {prog : Program} {w : World} {A : Around} {E : Value → Shared → Prop} {s : Shared}
theorem pyIter_set {D : Addr} {led : Bool} {Q : Value → Shared → Prop} (hD : s.heap.get? D = some (setT1 led))
    (h : Q (.ref s.heap.objs.size) { s with heap := s.heap.push { cls := .type "set_iterator", data := .fields #[.int (0 : Nat) 0, .int (0 : Nat) 0, .ref D, .int 1 0, .int 1 0] } }) : wpAny (model prog w) A (pyIter (.ref D)) Q E s := by
  have hT : s.TypeIs (.ref D) "set" := ⟨_, hD, rfl⟩
  have hf : (tabT1 led).fits (#[(1, Value.bool true)] : Array (Int × Value)).size = true := by cases led <;> rfl
  refine wpAny_pyIter_slot hT F.slot_set_iter (wpAny_call_entry F.slot_set_iter hT st_entry_iter ?_ (F.args_set_iter_1 _))
  unfold Builtin.«frozenset.__iter__» Builtin.Frozenset.slot0
  show wpAny _ _ (Builtin.Frozenset.addrOf (.ref D) >>= _) _ _ _
  refine wpAny_bind (m := Builtin.Frozenset.addrOf (.ref D)) (wpAny_pure ?_)
  unfold Builtin.Frozenset.sizeOf setEntries
  refine wpAny_bind (wpAny_bind (wpAny_bind (wpAny_setState_of hD rfl hf (wpAny_pure (wpAny_pure ?_)))))
  unfold setDrawn
  refine wpAny_bind (wpAny_bind (wpAny_setState_of hD rfl hf ?_))
  dsimp only
  unfold setsByText
  refine wpAny_bind (wpAny_bind (wpAny_askSetting (wpAny_pure (wpAny_pure ?_))))
  show wpAny _ _ (if (!(w.params.followText "set-order") && false) = true then _ else _) _ _ _
  rw [Bool.and_false, if_neg Bool.false_ne_true]
  refine wpAny_bind (wpAny_pure ?_)
  unfold setEpoch
  refine wpAny_bind (wpAny_bind (wpAny_setState_of hD rfl hf (wpAny_pure ?_)))
  unfold newFields
  refine wpAny_bind (wpAny_newObj_type ?_ (by size_fits))
  exact wpAny_pure ⟨_, rfl, "set_iterator", _, ⟨_, Heap.get?_push_size _ rfl, rfl⟩, si_slot_next.lookup, h⟩
theorem pick_one {α : Type} (f : Nat → Nat) (x : α) : pickOrder f #[x] = #[x] := by
  unfold pickOrder
  show pickOrder.go f 1 0 [x] #[] = #[x]
  unfold pickOrder.go
  simp [Nat.mod_one, pickOrder.go]
theorem setNext_eq {D : Addr} {a b : Nat} {Q : Option (Value × Nat) → Shared → Prop} (hD : s.heap.get? D = some (setT1 (!w.params.followText "set-order"))) (r : Option (Value × Nat)) (r1 : w.params.followText "set-order" = true → ((#[((1 : Int), Value.bool true)] : Array (Int × Value))[b]?).map (fun e => (e.2, a)) = r) (r2 : w.params.followText "set-order" = false → (match (#[((1 : Int), Value.bool true)] : Array (Int × Value))[SetTable.below #[1] a]?, (#[1] : Array Nat)[SetTable.below #[1] a]? with
    | some (_, x), some j => some (x, j + 1)
    | _, _ => none) = r) (h : Q r s) : wpAny (model prog w) A (setNext D a b 1) Q E s := by
  generalize hled : (!w.params.followText "set-order") = led at hD
  have hf : (tabT1 led).fits (#[(1, Value.bool true)] : Array (Int × Value)).size = true := by cases led <;> rfl
  unfold setNext
  refine wpAny_bind (wpAny_setState_of hD rfl hf ?_)
  dsimp only
  unfold setsByText
  refine wpAny_bind (wpAny_bind (wpAny_askSetting (wpAny_pure ?_)))
  show wpAny _ _ (if w.params.followText "set-order" = true then _ else _) _ _ _
  cases hb : w.params.followText "set-order" with
  | true =>
    rw [if_pos rfl, if_neg (by decide)]
    refine wpAny_bind ?_
    unfold setWalk
    refine wpAny_bind (wpAny_setState_of hD rfl hf ?_)
    dsimp only
    unfold setsByText
    refine wpAny_bind (wpAny_bind (wpAny_askSetting (wpAny_pure ?_)))
    show wpAny _ _ (if w.params.followText "set-order" = true then _ else _) _ _ _
    rw [if_pos hb]
    refine wpAny_bind (wpAny_askSetting (wpAny_pure (wpAny_pure ?_)))
    rw [pick_one, r1 hb]
    exact h
  | false =>
    rw [hb] at hled
    subst hled
    rw [if_neg Bool.false_ne_true]
    show wpAny _ _ (if false = true then _ else _) _ _ _
    rw [if_neg Bool.false_ne_true]
    refine wpAny_bind (wpAny_of_eq (a := ()) rfl (wpAny_pure ?_))
    exact (congrArg (fun z => Q z s) (r2 hb)).mpr h
theorem setNext_ok {D : Addr} {a b : Nat} {Q : Option (Value × Nat) → Shared → Prop} {r : Option (Value × Nat)} (hD : s.heap.get? D = some (setT1 (!w.params.followText "set-order"))) (r1 : w.params.followText "set-order" = true → ((#[((1 : Int), Value.bool true)] : Array (Int × Value))[b]?).map (fun e => (e.2, a)) = r) (r2 : w.params.followText "set-order" = false → (match (#[((1 : Int), Value.bool true)] : Array (Int × Value))[SetTable.below #[1] a]?, (#[1] : Array Nat)[SetTable.below #[1] a]? with
    | some (_, x), some j => some (x, j + 1)
    | _, _ => none) = r) (h : Q r s) : wpAny (model prog w) A (setNext D a b 1) Q E s := setNext_eq hD r r1 r2 h
theorem set_next_item {I D : Addr} {Q : Option Value → Shared → Prop} (hI : SetIt s.heap I D 0 0) (hD : s.heap.get? D = some (setT1 (!w.params.followText "set-order"))) (hne : D ≠ I)
    (h : ∀ h' a, (a = 0 ∧ w.params.followText "set-order" = true ∨ a = 2) → SetIt h' I D a 1 → Heap.SameBut I s.heap h' → Q (some (.bool true)) { s with heap := h' }) : wpAny (model prog w) A (pyNext (.ref I)) Q E s := by
  have hT : s.TypeIs (.ref I) "set_iterator" := ⟨_, hI, rfl⟩
  have hf : ∀ led, (tabT1 led).fits (#[(1, Value.bool true)] : Array (Int × Value)).size = true := fun led => by cases led <;> rfl
  unfold pyNext
  refine wpAny_bind (wpAny_attempt (wpAny_callSpecial?_slot (name := Str.ofString "__next__") hT si_slot_next (wpAny_call_entry si_slot_next hT si_entry_next ?_ (si_args_next _))))
  unfold Builtin.«set_iterator.__next__»
  show wpAny _ _ (fieldsOf (.ref I) >>= _) _ _ _
  unfold fieldsOf
  refine wpAny_bind (wpAny_bind (wpAny_load hI (wpAny_pure ?_)))
  dsimp only
  unfold setEntries
  refine wpAny_bind (wpAny_bind (wpAny_setState_of hD rfl (hf _) (wpAny_pure ?_)))
  dsimp only
  rw [if_neg (by decide)]
  generalize hr : (match (#[((1 : Int), Value.bool true)] : Array (Int × Value))[0]? with | some e => if w.params.followText "set-order" = true then (0 : Nat) else 2 | none => 0) = a
  have ha : (a = 0 ∧ w.params.followText "set-order" = true) ∨ (a = 2 ∧ w.params.followText "set-order" = false) := by
    rw [← hr]
    cases w.params.followText "set-order"
    · exact .inr ⟨rfl, rfl⟩
    · exact .inl ⟨rfl, rfl⟩
  refine wpAny_bind (setNext_ok (r := some (.bool true, a)) hD ?_ ?_ ?_)
  · intro hb
    rcases ha with ⟨rfl, _⟩ | ⟨_, hn⟩
    · rfl
    · rw [hb] at hn; cases hn
  · intro hb
    rcases ha with ⟨_, hn⟩ | ⟨rfl, _⟩
    · rw [hb] at hn; cases hn
    · rfl
  dsimp only
  refine wpAny_bind (wpAny_setField_rec hI (by simp) fun h₁ hI₁ hs₁ => ?_)
  refine wpAny_bind (wpAny_setField_rec hI₁ (by simp) fun h₂ hI₂ hs₂ => ?_)
  refine wpAny_pure ⟨_, rfl, wpAny_pure ?_⟩
  exact h h₂ a (ha.imp id And.left) hI₂ (hs₁.trans hs₂)
theorem set_next_end {I D : Addr} {a : Nat} {Q : Option Value → Shared → Prop} (hh : A.handled = none) (hI : SetIt s.heap I D a 1) (ha : a = 0 ∧ w.params.followText "set-order" = true ∨ a = 2) (hD : s.heap.get? D = some (setT1 (!w.params.followText "set-order")))
    (h : ∀ h', Heap.ExtBut I s.heap h' → Q none { s with heap := h' }) : wpAny (model prog w) A (pyNext (.ref I)) Q E s := by
  have hT : s.TypeIs (.ref I) "set_iterator" := ⟨_, hI, rfl⟩
  have hf : ∀ led, (tabT1 led).fits (#[(1, Value.bool true)] : Array (Int × Value)).size = true := fun led => by cases led <;> rfl
  unfold pyNext
  refine wpAny_bind (wpAny_attempt (wpAny_callSpecial?_slot (name := Str.ofString "__next__") hT si_slot_next (wpAny_call_entry si_slot_next hT si_entry_next ?_ (si_args_next _))))
  unfold Builtin.«set_iterator.__next__»
  show wpAny _ _ (fieldsOf (.ref I) >>= _) _ _ _
  unfold fieldsOf
  refine wpAny_bind (wpAny_bind (wpAny_load hI (wpAny_pure ?_)))
  dsimp only
  unfold setEntries
  refine wpAny_bind (wpAny_bind (wpAny_setState_of hD rfl (hf _) (wpAny_pure ?_)))
  dsimp only
  rw [if_neg (by decide)]
  refine wpAny_bind (setNext_ok (r := none) hD (fun _ => rfl) ?_ ?_)
  · intro hb
    rcases ha with ⟨_, hn⟩ | rfl
    · rw [hb] at hn; cases hn
    · rfl
  dsimp only
  refine wpAny_bind (wpAny_setField_rec hI (by simp) fun h₁ hI₁ hs₁ => ?_)
  show wpAny _ _ (newExc (.type "StopIteration") [] >>= _) _ _ _
  refine wpAny_bind ?_
  simp only [newExc, newTuple]
  refine wpAny_bind (wpAny_newObj_type ?_ (by size_fits))
  refine wpAny_bind (m := firstArgMember _ _) (wpAny_of_eq (a := Value.none) (by first | rfl | (simp only [firstArgMember]; rfl)) ?_)
  refine wpAny_newObj_type ?_ (by size_fits)
  simp only [raiseNew]
  refine wpAny_bind (wpAny_handled ?_)
  rw [show A.in1.handled = none from hh]
  refine wpAny_bind (wpAny_pure (wpAny_throw ?_))
  refine wpAny_bind (wpAny_isInstance (T := "StopIteration") (b := true) ⟨_, Heap.get?_push_size _ rfl, rfl⟩ isSubtype_stop ?_)
  exact wpAny_pure (h _ ((hs₁.extBut.push _).push _))
theorem unpack_set1 {D : Addr} {targets : List (Bool × (Value → Sem Unit))} {Q : Unit → Shared → Prop} (hh : A.handled = none) (hD : s.heap.get? D = some (setT1 (!w.params.followText "set-order"))) (hn : targets.length = 1) (hstar : targets.findIdx? (·.1) = none)
    (h : ∀ h', (∀ b o, s.heap.get? b = some o → h'.get? b = some o) → wpAny (model prog w) A (assignInOrder (targets.map (·.2)) [.bool true]) Q E { s with heap := h' }) : wpAny (model prog w) A (unpack (.ref D) targets) Q E s := by
  have hT : s.TypeIs (.ref D) "set" := ⟨_, hD, rfl⟩
  have hlt : D ≠ s.heap.objs.size := Nat.ne_of_lt (Heap.lt_size hD)
  unfold unpack
  rw [hn, hstar]
  refine wpAny_bind (wpAny_holding ?_)
  unfold unpackItems
  refine wpAny_bind ?_
  unfold notIterableAtAll
  refine wpAny_bind (wpAny_specialOf hT F.slot_set_iter.lookup (wpAny_pure ?_))
  simp only [Bool.false_eq_true, if_false]
  refine wpAny_bind (wpAny_holding (pyIter_set hD ?_))
  have hD₁ : (s.heap.push { cls := .type "set_iterator", data := .fields #[.int (0 : Nat) 0, .int (0 : Nat) 0, .ref D, .int 1 0, .int 1 0] }).get? D = some (setT1 (!w.params.followText "set-order")) := Heap.get?_push_of_some _ hD
  refine wpAny_bind (wpAny_holding ?_)
  show wpAny _ _ (pyNext (.ref s.heap.objs.size) >>= _) _ _ _
  refine wpAny_bind (set_next_item (Heap.get?_push_size _ rfl) hD₁ hlt fun h₁ a ha hI₁ hs₁ => ?_)
  refine wpAny_bind (wpAny_holding (wpAny_pure (wpAny_pure ?_)))
  rw [if_neg (by simp)]
  refine wpAny_bind (wpAny_holding (set_next_end hh hI₁ ha (hs₁.extBut _ _ hlt hD₁) fun h₂ hs₂ => ?_))
  simp only [Option.isSome_none, Bool.false_eq_true, if_false]
  refine wpAny_pure (h h₂ fun b o e => ?_)
  have hb : b ≠ s.heap.objs.size := Nat.ne_of_lt (Heap.lt_size e)
  exact hs₂ b o hb (hs₁.extBut b o hb (Heap.get?_push_of_some _ e))
end
end
section
theorem a_ne {a b : Nat} (h : a ≠ b) : @Ne Addr a b := h
theorem compTurn_set (elt target iter : Expr) (scope : Scope) (pos : Pos) (it acc : Value) (env : Env) :
    compTurn (.SetComp elt [⟨target, iter, [], 0⟩] scope pos) 0 it acc env = (standAt iter.pos >>= fun _ => pyNext it >>= fun r => match r with
      | none => pure (.done .next)
      | some v => letOwnedTupleGo target it v >>= fun _ => assign target env v >>= fun _ =>
        (eval elt env >>= fun x => standAt elt.pos >>= fun _ => call (.builtin "set.add") [acc, x] >>= fun _ => pure ()) >>= fun _ =>
          again (.compLoop (.SetComp elt [⟨target, iter, [], 0⟩] scope pos) 0 it acc env)) := by rfl
section
variable {prog : Program} {w : World} {A : Around} {E : Value → Shared → Prop} {s : Shared} {env : Env} {h₀ : Heap} {L : Addr} {m : Str → Option Value} {R : Result → Shared → Prop}
theorem compStart_set {elt target iter scope pos it acc env}
    (h0 : codeAny (model prog w) A (.compLoop (.SetComp elt [⟨target, iter, [], 0⟩] scope pos) 0 it acc env) R s)
    (h : wpAny (model prog w) A (pyIter it) (fun it' s' => codeAny (model prog w) A (.compLoop (.SetComp elt [⟨target, iter, [], 0⟩] scope pos) 0 it' acc env) R s') (notedBy (model prog w) A env fun x s' => R (.error x) s') s) :
    codeAny (model prog w) A (.compStart (.SetComp elt [⟨target, iter, [], 0⟩] scope pos) 0 it acc env) R s := by
  refine codeAny_of_tree ?_
  show wpAny _ _ ((compStart (.SetComp elt [⟨target, iter, [], 0⟩] scope pos) 0 it acc env).onRaise (fun x => do noteFrame x env; standAt theWindowsPlace)) _ _ s
  refine wpAny_notedAt ?_
  unfold compStart
  show wpAny _ _ (ask >>= _) _ _ s
  refine wpAny_bind (wpAny_askSetting (wpAny_ite ?_))
  split
  · first
      | exact wpAny_bind (wpAny_pure (wpAny_pure (And.intro rfl h0)))
      | exact wpAny_pure (And.intro rfl h0)
  · refine wpAny_bind (wpAny_rule ?_)
    first
      | exact wpAny_bind (wpAny_standAt (wpAny_bind (wpAny_mono h (fun it' s' h' => wpAny_pure (And.intro rfl h')) fun _ _ x => x)))
      | (show wpAny _ _ (standAt iter.pos >>= _) _ _ s; exact wpAny_bind (wpAny_standAt (wpAny_bind (wpAny_mono h (fun it' s' h' => wpAny_pure (And.intro rfl h')) fun _ _ x => x))))
noncomputable def SElt (prog : Program) (w : World) (A : Around) (env : Env) (elt : Expr) (x : Str) (scope : Scope) (cl : List (Str × Addr)) (v1 v2 : Value) (s₁ : Shared) : Prop :=
  ∀ C v s₃ m₃ E', (v = v1 ∨ v = v2) → s₃.heap.Ns C m₃ → m₃ x = some v → (∀ b o, s₁.heap.get? b = some o → s₃.heap.get? b = some o) →
    wpAny (model prog w) A (eval elt (compEnvC scope cl C env)) (fun y s₄ => y = .bool true ∧ Keeps s₃ s₄) E' s₃
noncomputable def SFin (w : World) (h₀ : Heap) (L : Addr) (m : Str → Option Value) (news : List (Addr × Obj)) (Q : Value → Shared → Prop) (s₁ : Shared) : Prop :=
  ∀ D h' tk, Fr h₀ L h' m → News h₀ L h' ((D, setT1 (!w.params.followText "set-order")) :: news) → Q (.ref D) { s₁ with heap := h', toks := tk }
noncomputable def SSrc (prog : Program) (w : World) (A : Around) (h₀ : Heap) (L : Addr) (m : Str → Option Value) (env : Env) (elt : Expr) (x : Str) (scope : Scope) (cl : List (Str × Addr)) (v1 v2 : Value) (Q : Value → Shared → Prop) (xv : Value) (s₁ : Shared) : Prop :=
  ∃ (l : Addr) (news : List (Addr × Obj)), xv = .ref l ∧ s₁.heap.IsTuple l #[v1, v2] ∧ A.handled = none ∧ Fr h₀ L s₁.heap m ∧ News h₀ L s₁.heap news ∧ SElt prog w A env elt x scope cl v1 v2 s₁ ∧ SFin w h₀ L m news Q s₁
theorem set_loop {elt iter : Expr} {x : Str} {px : Pos} {scope : Scope} {cl : List (Str × Addr)} {pos : Pos} {v1 v2 : Value} {I l D C : Addr} {led : Bool} {m₀ : Str → Option Value} {g : Shared}
    (W : Walks prog w A I [I, l] [I] 2 (fun i v => (#[v1, v2] : Array Value)[i]? = some v) (fun i h => h.IsTupleIter I l i ∧ h.IsTuple l #[v1, v2]))
    (hx : (compEnvC scope cl C env).kindOf x = some .local) (hp : ((compEnvC scope cl C env).scope.kind == .class || ((compEnvC scope cl C env).scope.kind == .module && (compEnvC scope cl C env).locals != (compEnvC scope cl C env).globals)) = false)
    (hDI : D ≠ I) (hDl : D ≠ l) (hCI : C ≠ I) (hCl : C ≠ l) (hDC : D ≠ C) (hst : s.heap.IsTupleIter I l 0 ∧ s.heap.IsTuple l #[v1, v2]) (hD : s.heap.get? D = some (setT0 led)) (hC : s.heap.Ns C m₀)
    (hg : ∀ b o, g.heap.get? b = some o → b ≠ I ∧ b ≠ C ∧ b ≠ D) (hk : ∀ b o, g.heap.get? b = some o → s.heap.get? b = some o)
    (hel : SElt prog w A env elt x scope cl v1 v2 g)
    (hR : ∀ h' tk m', h'.Ns C m' → h'.get? D = some (setT1 led) → (∀ b o, g.heap.get? b = some o → h'.get? b = some o) → R (.ok .next) { s with heap := h', toks := tk }) :
    codeAny (model prog w) A (.compLoop (.SetComp elt [⟨.Name x px, iter, [], 0⟩] scope pos) 0 (.ref I) (.ref D) (compEnvC scope cl C env)) R s := by
  refine codeAny_loop rfl (fun n s' => ∃ h' tk m' i, s' = { s with heap := h', toks := tk } ∧ (h'.IsTupleIter I l i ∧ h'.IsTuple l #[v1, v2]) ∧ h'.Ns C m' ∧ h'.get? D = some (if i = 0 then setT0 led else setT1 led) ∧ (∀ b o, g.heap.get? b = some o → h'.get? b = some o) ∧ i ≤ 2 ∧ n = 3 - i) (fun n s' hI => ?_) 3 ⟨s.heap, s.toks, m₀, 0, rfl, hst, hC, hD, hk, by omega, rfl⟩
  obtain ⟨h', tk, m', i, rfl, hst', hC', hD', hk', hi, rfl⟩ := hI
  show wpAny _ _ ((compTurn (.SetComp elt [⟨.Name x px, iter, [], 0⟩] scope pos) 0 (.ref I) (.ref D) (compEnvC scope cl C env)).onRaise (fun x => do noteFrame x (compEnvC scope cl C env); theTreesLotGoes x)) _ _ _
  refine wpAny_noted ?_
  rw [compTurn_set]
  refine wpAny_bind (wpAny_standAt (wpAny_bind ?_))
  by_cases hlt : i < 2
  · refine W.item i _ _ _ hlt hst' fun v h₁ tk₁ hP hst₁ hk₁ => ?_
    have hv : v = v1 ∨ v = v2 := by
      rcases i with _ | _ | i
      · exact .inl (by simpa using hP.symm)
      · exact .inr (by simpa using hP.symm)
      · simp at hP
    dsimp only
    refine wpAny_bind (wpAny_of_eq (a := ()) rfl (wpAny_bind ?_))
    refine wpAny_assign_Name (wpAny_storeName_local hx (hC'.at' fun o e => hk₁ _ o (by simpa using hCI) e) (fun h₂ hn₂ hs₂ => ?_) hp)
    have hk₂ : ∀ b o, b ≠ I → b ≠ C → h'.get? b = some o → h₂.get? b = some o := fun b o hb hc e => hs₂.extBut b o hc (hk₁ b o (by simpa using hb) e)
    have hg₂ : ∀ b o, g.heap.get? b = some o → h₂.get? b = some o := fun b o e => hk₂ b o (hg b o e).1 (hg b o e).2.1 (hk' b o e)
    refine wpAny_bind (wpAny_bind (wpAny_mono (hel C v _ _ _ hv hn₂ (by simp) hg₂) (fun y s₄ h₄ => ?_) fun _ _ e => e))
    obtain ⟨rfl, h₄, tk₄, rfl, hk₄⟩ := h₄
    have hD₄ := hk₄ _ _ (hk₂ _ _ hDI hDC hD')
    have hst₄ : h₄.IsTupleIter I l (i + 1) ∧ h₄.IsTuple l #[v1, v2] := W.frame _ _ _ hst₁ fun b hb o e => hk₄ b o (hs₂.extBut b o (fun q => by
      rcases List.mem_cons.mp hb with h | h
      · exact hCI (q.symm.trans h)
      · exact hCl (q.symm.trans (List.mem_singleton.mp h))) e)
    have hC₄ := hn₂.keeps hk₄
    have fin : ∀ (h₅ : Heap) tk₅, h₅.get? D = some (setT1 led) → Heap.SameBut D h₄ h₅ → ∃ m, m < 3 - i ∧ ∃ h'' tk m' j, ({ s with heap := h₅, toks := tk₅ } : Shared) = { s with heap := h'', toks := tk } ∧ (h''.IsTupleIter I l j ∧ h''.IsTuple l #[v1, v2]) ∧ h''.Ns C m' ∧ h''.get? D = some (if j = 0 then setT0 led else setT1 led) ∧ (∀ b o, g.heap.get? b = some o → h''.get? b = some o) ∧ j ≤ 2 ∧ m = 3 - j := fun h₅ tk₅ hD₅ hs₅ =>
      ⟨3 - (i + 1), by omega, h₅, tk₅, _, i + 1, rfl, W.frame _ _ _ hst₄ (fun b hb o e => hs₅.extBut b o (fun q => by
        rcases List.mem_cons.mp hb with h | h
        · exact hDI (q.symm.trans h)
        · exact hDl (q.symm.trans (List.mem_singleton.mp h))) e), hC₄.sameBut hs₅ (Ne.symm hDC), by rw [if_neg (Nat.succ_ne_zero i)]; exact hD₅, fun b o e => hs₅.extBut b o (hg b o e).2.2 (hk₄ b o (hg₂ b o e)), by omega, rfl⟩
    refine wpAny_bind (wpAny_standAt (wpAny_bind ?_))
    by_cases h0 : i = 0
    · rw [if_pos h0] at hD₄
      exact set_add0 hD₄ fun h₅ hD₅ hs₅ => wpAny_pure (wpAny_pure ⟨rfl, fin h₅ _ hD₅ hs₅⟩)
    · rw [if_neg h0] at hD₄
      exact set_add1 hD₄ (wpAny_pure (wpAny_pure ⟨rfl, fin h₄ _ hD₄ (Heap.SameBut.refl ..)⟩))
  · have h2 : i = 2 := by omega
    subst h2
    refine W.done _ _ _ hst' fun h₁ tk₁ hk₁ => ?_
    refine wpAny_pure (hR h₁ tk₁ m' (hC'.at' fun o e => hk₁ _ o (by simpa using hCI) e) (hk₁ _ _ (by simpa using hDI) hD') fun b o e => hk₁ b o (by simpa using (hg b o e).1) (hk' b o e))
theorem eval_setcomp {elt iter : Expr} {x : Str} {px : Pos} {scope : Scope} {cl : List (Str × Addr)} {pos : Pos} {Q : Value → Shared → Prop} (_F₀ : Fr h₀ L s.heap m) (v1 v2 : Value)
    (hclos : closureFor scope env = pure cl) (hcell : ∀ z ∈ scope.names, z.2 ≠ .cell) (hkind : scope.kind = .function)
    (hnames : ∀ z ∈ scope.names, z.2 = .local → scope.names.lookup z.1 = some .local) (hx : scope.names.lookup x = some .local)
    (h : wpAny (model prog w) A (eval iter env) (SSrc prog w A h₀ L m env elt x scope cl v1 v2 Q) E s)
    (hs : ∀ x, foldedSetIterable iter env x = pure x) :
    wpAny (model prog w) A (eval (.SetComp elt [⟨.Name x px, iter, [], 0⟩] scope pos) env) Q E s := by
  show wpAny _ _ (comprehension (.SetComp elt [⟨.Name x px, iter, [], 0⟩] scope pos) scope env (firstIterPos [⟨.Name x px, iter, [], 0⟩] pos) (newSet (.type "set")) false (eval iter env)) _ _ _
  refine wpAny_comprehension_free (use := none) rfl hs hclos hkind hnames (wpAny_mono h (fun xv s₁ h₁ => ?_) fun _ _ e => e)
  obtain ⟨l, news, rfl, hl, hh, F, N, hel, hfin⟩ := h₁
  obtain ⟨ol, hol, hl2⟩ := id hl
  have hlt : l < s₁.heap.objs.size := Heap.lt_size hol
  refine wpAny_pyIter_tuple hl ?_
  generalize hI : s₁.heap.objs.size = I at hlt
  generalize hh1 : s₁.heap.push { cls := .type "tuple_iterator", data := .fields #[.ref l, .int 0 0] } = h1
  have z1 : h1.objs.size = I + 1 := by rw [← hh1, Heap.size_push, hI]
  have k1 : ∀ b o, s₁.heap.get? b = some o → h1.get? b = some o := fun b o e => by rw [← hh1]; exact Heap.get?_push_of_some _ e
  have i1 : h1.IsTupleIter I l 0 := ⟨_, by rw [← hh1, ← hI]; exact Heap.get?_push_size _ rfl, rfl, rfl⟩
  unfold newSet setsByText
  refine wpAny_bind (wpAny_bind (wpAny_askSetting (wpAny_pure ?_)))
  show wpAny _ _ (newObj (.type "set") (.set #[] 0 (.fresh 0 0 (!w.params.followText "set-order")))) _ _ _
  refine wpAny_newObj_type ?_ (by size_fits)
  show wpAny _ _ (newFunctionEnv scope env.globals cl [] env.qual none .none (some env)) _ _ _
  refine wpAny_newFunctionEnv hcell (by intro y hy; simp at hy) (fun h₂ hns₂ hsb₂ => ?_) hkind
  dsimp only at hns₂ hsb₂ ⊢
  generalize hH2 : h1.push { cls := .type "set", data := .set #[] 0 (.fresh 0 0 (!w.params.followText "set-order")) } = H2 at hns₂ hsb₂ ⊢
  have z2 : H2.objs.size = I + 2 := by rw [← hH2, Heap.size_push, z1]
  rw [z2] at hns₂ hsb₂ ⊢
  rw [z1]
  have d2 : H2.get? (I + 1) = some (setT0 (!w.params.followText "set-order")) := by rw [← hH2, ← z1]; exact Heap.get?_push_size _ rfl
  have k2 : ∀ b o, h1.get? b = some o → h₂.get? b = some o := fun b o e => hsb₂.extBut b o (a_ne (by have e9 : @LT.lt Nat _ b h1.objs.size := Heap.lt_size e; omega)) (Heap.get?_push_of_some _ (by rw [← hH2]; exact Heap.get?_push_of_some _ e))
  have d3 : h₂.get? (I + 1) = some (setT0 (!w.params.followText "set-order")) := hsb₂.extBut _ _ (a_ne (by omega)) (Heap.get?_push_of_some _ d2)
  have W := Walks.tuple (prog := prog) (w := w) (A := A) hh I l (Nat.ne_of_lt hlt) #[v1, v2]
  have st2 : h₂.IsTupleIter I l 0 ∧ h₂.IsTuple l #[v1, v2] := ⟨by obtain ⟨o, e, r⟩ := i1; exact ⟨o, k2 _ _ e, r⟩, by exact ⟨ol, k2 _ _ (k1 _ _ hol), hl2⟩⟩
  have hsmall : ∀ (b : Nat) o, s₁.heap.get? b = some o → @LT.lt Nat _ b I := fun b o e => hI ▸ Heap.lt_size e
  have old : ∀ b : Nat, @LE.le Nat _ I b → s₁.heap.get? b = none := fun b hb => by
    cases e : s₁.heap.get? b with
    | none => rfl
    | some o => exact absurd (hsmall b o e) (Nat.not_lt.mpr hb)
  have loop : codeAny (model prog w) A (.compLoop (.SetComp elt [⟨.Name x px, iter, [], 0⟩] scope pos) 0 (.ref I) (.ref (I + 1)) (compEnvC scope cl (I + 2) env)) (compPost (model prog w) A E none Q (.ref (I + 1)) (I + 2)) { s₁ with heap := h₂, toks := s₁.toks + ([] : List (Str × Value)).length } := by
    refine set_loop (g := s₁) W (lookup_relabel_local hx) (by simp [compEnvC, relabel, hkind]) (a_ne (by omega)) (a_ne (by have e9 : @LT.lt Nat _ l I := hlt; omega)) (a_ne (by omega)) (a_ne (by have e9 : @LT.lt Nat _ l I := hlt; omega)) (a_ne (by omega)) st2 d3 hns₂ (fun b o e => by have := hsmall b o e; exact ⟨a_ne (by omega), a_ne (by omega), a_ne (by omega)⟩) (fun b o e => k2 b o (k1 b o e)) hel fun h' tk m' hn hD hk => ?_
    refine ⟨m', hn, fun h'' hs'' => hfin (I + 1) h'' tk ?_ ?_⟩
    · exact F.kept fun b o e => hs''.extBut b o (a_ne (by have := hsmall b o e; omega)) (hk b o e)
    · intro p hp
      rcases List.mem_cons.mp hp with rfl | hp
      · refine ⟨hs''.extBut _ _ (a_ne (by omega)) hD, fun e => ?_, ?_⟩
        · obtain ⟨_, _, _, hL, _⟩ := F.ns
          have := hsmall _ _ hL
          have e' : @Eq Nat (I + 1) L := e
          have e8 : @LT.lt Nat _ L I := this
          omega
        · cases e : h₀.get? (I + 1) with
          | none => rfl
          | some o => have := hsmall _ _ (F.keep _ _ e); omega
      · have := hsmall _ _ (N p hp).1
        exact ⟨hs''.extBut _ _ (a_ne (by omega)) (hk _ _ (N p hp).1), (N p hp).2⟩
  exact compStart_set loop (W.self 0 _ _ _ st2 loop)
theorem asg_set1 {x : Str} {px tp : Pos} {k : Nat} {D : Addr} {news : List (Addr × Obj)} {Q : Unit → Shared → Prop} (hh : A.handled = none) (F : Fr h₀ L s.heap m) (N : News h₀ L s.heap news) (hm : (D, setT1 (!w.params.followText "set-order")) ∈ news)
    (h : ∀ h', Fr h₀ L h' m → News h₀ L h' news → wpAny (model prog w) A (storeName env x (.bool true)) Q E { s with heap := h' }) : wpAny (model prog w) A (assign (.Tuple [.Name x px] k tp) env (.ref D)) Q E s := by
  rw [arm_assign_Tuple]
  refine wpAny_bind (wpAny_standAt (unpack_set1 hh (News.get N hm) rfl rfl fun h' hk => ?_))
  show wpAny _ _ (holding [] (assign (.Name x px) env (.bool true)) >>= fun _ => pure ()) _ _ _
  exact wpAny_bind (wpAny_holding (wpAny_assign_Name (wpAny_mono (h h' (F.kept hk) (N.keepsAll hk)) (fun _ _ q => wpAny_pure q) fun _ _ e => e)))
end
end
section
section
variable {prog : Program} {w : World} {A : Around} {E : Value → Shared → Prop} {s : Shared} {I : Addr} {fp wr : List Addr} {G : Array GenState → Array GenState → Prop} {n : Nat} {P : Nat → Value → Prop} {St : Nat → Shared → Prop}
theorem ext_map {R : Result → Shared → Prop} (W : WalksS prog w A.in1 I fp wr G n P St) (hT : ∀ i s, St i s → s.TypeIs (.ref I) "map") {S : Addr} {res : Value} {c₀ : Nat} (hst : St 0 s) (hSf : S ∉ fp) (hI : I ∈ fp)
    (hS : s.heap.get? S = some { cls := .type "list", data := .seq #[] c₀ })
    (hR : ∀ s' acc' c', Moved (S :: wr) G s s' → s'.heap.get? S = some { cls := .type "list", dict := none, data := .seq acc' c', slots := #[] } → ItemsOf P acc' n → R (.ok (.ret res)) s') (hn : n ≤ sizeLine) :
    wpAny (model prog w) A.in1 (Builtin.List.listExtendWith (.ref S) (.ref I) res)
      (fun fin s' => match fin with | .done f => R (.ok f) s' | .again c' => c'.quiet = true ∧ codeAny (model prog w) A c' R s') (fun e s' => R (.error e) s') s := by
  have hSI : S ≠ I := fun e => hSf (e ▸ hI)
  have h1 : Builtin.List.listSameRef (.ref S) (.ref I) = false := by simp [Builtin.List.listSameRef, hSI]
  have h2 : (Value.type "map" == Value.type "list") = false := by decide
  have h3 : (Value.type "map" == Value.type "tuple") = false := by decide
  unfold Builtin.List.listExtendWith
  refine wpAny_bind (wpAny_typeOf (hT 0 _ hst) ?_)
  simp only [h1, h2, h3, Bool.or_false, Bool.false_eq_true, if_false]
  refine wpAny_bind (W.self 0 _ _ _ hst (wpAny_bind (wpAny_holding ?_)))
  unfold Builtin.List.listLengthHint
  refine wpAny_bind (wpAny_specialOf (hT 0 _ hst) m_nolen ?_)
  show wpAny _ A.in1 (specialOf (Value.ref I) (Str.ofString "__length_hint__") >>= _) _ _ _
  refine wpAny_bind (wpAny_specialOf (hT 0 _ hst) m_nohint (wpAny_pure ?_))
  show wpAny _ A.in1 (rule "list.extend.makes-room" >>= fun _ => Builtin.List.listTouch (.ref S) >>= fun _ => again (.builtin "list.extend.loop" ⟨[.ref S, .ref I, res], []⟩)) _ _ _
  refine wpAny_bind (wpAny_rule (wpAny_bind ?_))
  show wpAny _ A.in1 (updateSeq S (·.push .none) >>= fun _ => updateSeq S (·.pop)) _ _ _
  refine wpAny_bind (wpAny_updateSeq hS rfl ?_)
  have hS₂ := Heap.get?_update_self (Obj.mapSeq (·.push Value.none)) hS rfl
  refine wpAny_updateSeq (hz := by seq_fits) hS₂ rfl ?_
  have hS₃ := Heap.get?_update_self (Obj.mapSeq (·.pop)) hS₂ rfl
  have oth : ∀ b o, b ≠ S → s.heap.get? b = some o → ((s.heap.update S (Obj.mapSeq (·.push Value.none))).update S (Obj.mapSeq (·.pop))).get? b = some o :=
    fun b o hb e => (Heap.get?_update_other _ _ (Ne.symm hb)).trans ((Heap.get?_update_other _ _ (Ne.symm hb)).trans e)
  refine wpAny_pure ⟨plainId_quiet F.plain_extend_loop _, codeAny_extend_loopS W hn _ hSf _ n 0 _ _ _ rfl (Nat.zero_le _)
    (W.frame 0 s _ s.toks hst (Nat.le_refl _) fun b hb o e => oth b o (fun h => hSf (h ▸ hb)) e) hS₃ (ItemsOf.nil P) fun s' acc' c' hm hS' hacc => ?_⟩
  exact hR s' acc' c' (Moved.trans W.gtrans ((Moved.refl W.grefl).then_heap (Nat.le_refl _) fun b o hb e => oth b o (fun h => hb (h ▸ List.mem_cons_self)) e) hm) hS' hacc
theorem collect_map {Q : List Value → Shared → Prop} (W : WalksS prog w A.in1 I fp wr G n P St) (hT : ∀ i s, St i s → s.TypeIs (.ref I) "map") (hst : St 0 s) (hfp : ∀ b ∈ fp, b < s.heap.objs.size) (hI : I ∈ fp)
    (hQ : ∀ s' acc, Moved wr G s s' → ItemsOf P acc n → Q acc.toList s') (hn : n ≤ sizeLine) : wpAny (model prog w) A (collect (.ref I)) Q E s := by
  have hSf : s.heap.objs.size ∉ fp := fun hm => Nat.lt_irrefl _ (hfp _ hm)
  have hSI : s.heap.objs.size ≠ I := fun e => hSf (e ▸ hI)
  unfold collect
  refine wpAny_bind (wpAny_runValue (codeAny_builtin F.entry_proto_collect ?_))
  rw [Around.under_plainId F.plain_proto_collect _]
  show wpAny _ A.in1 (newList [] >>= fun l => again (.builtin "list.__iadd__" ⟨[l, .ref I], []⟩)) _ _ s
  refine wpAny_bind (wpAny_newObj_type ?_)
  refine wpAny_pure ⟨plainId_quiet F.plain_list_iadd _, codeAny_builtin F.entry_list_iadd ?_⟩
  rw [Around.under_plainId F.plain_list_iadd _]
  generalize hh1 : s.heap.push { cls := .type "list", data := .seq ([] : List Value).toArray } = h1
  have hk1 : ∀ b o, s.heap.get? b = some o → h1.get? b = some o := fun b o e => by rw [← hh1]; exact Heap.get?_push_of_some _ e
  have hst₁ := W.frame 0 s h1 s.toks hst (Nat.le_refl _) fun b _ o e => hk1 b o e
  have hS₁ : h1.get? s.heap.objs.size = some { cls := .type "list", data := .seq #[] 0 } := by rw [← hh1]; exact Heap.get?_push_size _ rfl
  show wpAny _ A.in1 (Builtin.List.listExtendWith (.ref s.heap.objs.size) (.ref I) (.ref s.heap.objs.size)) _ _ _
  have hnew : s.heap.get? s.heap.objs.size = none := by
    cases e : s.heap.get? s.heap.objs.size with
    | none => rfl
    | some o => exact absurd (Heap.lt_size e) (Nat.lt_irrefl _)
  refine wpAny_mono (ext_map (A := A) (S := s.heap.objs.size) (res := .ref s.heap.objs.size) (c₀ := 0) (R := fun r s' => r = .ok (.ret (.ref s.heap.objs.size)) ∧ ∃ acc' c', Moved (s.heap.objs.size :: wr) G { s with heap := h1 } s' ∧ s'.heap.get? s.heap.objs.size = some { cls := .type "list", dict := none, data := .seq acc' c', slots := #[] } ∧ ItemsOf P acc' n) (s := { s with heap := h1 }) W hT hst₁ hSf hI hS₁ (fun s' acc' c' a b c => ⟨rfl, acc', c', a, b, c⟩) hn) (fun fin s' h => ?_) (fun e s' h => absurd h.1 (by simp))
  have fin' : ∀ s' : Shared, (∃ acc' c', Moved (s.heap.objs.size :: wr) G { s with heap := h1 } s' ∧ s'.heap.get? s.heap.objs.size = some { cls := .type "list", dict := none, data := .seq acc' c', slots := #[] } ∧ ItemsOf P acc' n) → wpAny (model prog w) A (match Value.ref s.heap.objs.size with
      | Value.ref a => do
        match (← load a).data with
          | Data.seq xs _ => pure xs.toList
          | _ => unsupported "internal:collect"
      | _ => unsupported "internal:collect") Q E s' := by
    rintro s' ⟨acc', c', hm, hS', hacc⟩
    show wpAny _ A (load s.heap.objs.size >>= _) _ _ s'
    refine wpAny_bind (wpAny_load hS' ?_)
    refine wpAny_pure (hQ s' acc' ⟨fun b o hb e => hm.heap b o (fun hb2 => ?_) (hk1 b o e), hm.gens, hm.drawn, hm.os, hm.toks⟩ hacc)
    rcases List.mem_cons.mp hb2 with rfl | hb2
    · rw [hnew] at e; cases e
    · exact hb hb2
  cases fin with
  | done f =>
    obtain ⟨e, h⟩ := h
    cases e
    exact fin' _ h
  | again c' => exact ⟨h.1, codeAny_mono h.2 fun r s'' hr => by obtain ⟨rfl, h⟩ := hr; exact fin' _ h⟩
theorem code_tuple_map {Q₁ : Value → Shared → Prop} (W : WalksS prog w A.in1.in1 I fp wr G n P St) (hT : ∀ i s, St i s → s.TypeIs (.ref I) "map") (hst : St 0 s) (hfp : ∀ b ∈ fp, b < s.heap.objs.size) (hI : I ∈ fp)
    (h : ∀ s' acc, Moved wr G s s' → ItemsOf P acc n → Q₁ (.ref s'.heap.objs.size) { s' with heap := s'.heap.push { cls := .type "tuple", data := .seq acc } }) (hsz : n ≤ sizeLine) :
    codeAny (model prog w) A (.call (.builtin "tuple.__new__") ⟨[.type "tuple", .ref I], []⟩) (wants Q₁ E) s := by
  refine codeAny_of_tree ?_
  show wpAny _ A.in1 (do checkBuiltinCall "tuple.__new__" ⟨[.type "tuple", .ref I], []⟩; again (.builtin "tuple.__new__" ⟨[.type "tuple", .ref I], []⟩)) _ _ s
  refine wpAny_bind (wpAny_of_eq (F.newCall_tuple_1 _) (wpAny_pure ⟨plainId_quiet F.plain_tuple_new _, codeAny_builtin F.entry_tuple_new ?_⟩))
  rw [Around.under_plainId F.plain_tuple_new _]
  have hsub := sub_tuple_self
  have hinit := init_tuple_lookup
  have hmh := madeHere_tuple
  have hTI := hT 0 s hst
  wp_walk using wpAny_typeOf hTI, collect_map (hn := hsz) W hT hst hfp hI
  intro s' acc hm hacc
  show wpAny _ _ (Builtin.Tuple.tupleExact acc.toList.toArray >>= fun v => ret v) _ _ _
  unfold Builtin.Tuple.tupleExact
  have e : acc.toList.toArray = acc := by simp
  rw [e]
  exact wpAny_bind (wpAny_newObj_type (wpAny_pure (h s' acc hm hacc)) (by show acc.size ≤ sizeLine; rw [hacc.1]; exact hsz))
theorem call_tuple_map {Q : Value → Shared → Prop} (W : WalksS prog w A.in1.in1.in1 I fp wr G n P St) (hT : ∀ i s, St i s → s.TypeIs (.ref I) "map") (hst : St 0 s) (hfp : ∀ b ∈ fp, b < s.heap.objs.size) (hI : I ∈ fp)
    (hQ : ∀ s' acc, Moved wr G s s' → ItemsOf P acc n → Q (.ref s'.heap.objs.size) { s' with heap := s'.heap.push { cls := .type "tuple", data := .seq acc } }) (hsz : n ≤ sizeLine) :
    wpAny (model prog w) A (call (.type "tuple") [.ref I]) Q E s := by
  refine callType_codes (Q₁ := fun obj s₁ => s₁.TypeIs obj "tuple" ∧ Q obj s₁) F.called_tuple (F.typeCall_tuple_1 _) F.entry_object_init
    (code_tuple_map (hsz := hsz) W hT hst hfp hI fun s' acc hm hacc => ⟨⟨_, Heap.get?_push_size _ rfl, rfl⟩, hQ s' acc hm hacc⟩) fun obj s₁ h₁ => ?_
  exact ⟨h₁.1, F.args_object_init_2 obj _, object_init_meets F.called_tuple.init.lookup F.called_tuple.made (by decide) prog w A.in1 _ s₁ ⟨h₁.1, rfl, h₁.2⟩⟩
end
end
section
theorem fs_call {w : World} {mean : ExcName → Option Value} {mg mb : Str → Option Value} {dp un : Nat} {gd : Option (List Code)} {cn : Str} {cs : Scope} {a : Addr} {ccd : Value} {cl : List (Str × Addr)} {outer : List Env} {A₀ : Around} {base h₀ g : Heap} {L : Addr} {m : Str → Option Value}
    (B : Below A₀ base outer h₀) (F : Fr h₀ L g m) (X : (K w.params).In h₀) (T : Top view (looseW view [Str.ofString "_filemode_table"]) mean mg mb h₀) (hk : cs.kind = .function) (hd : dp + 1 < recursionLimit) (hu : un + 28 < cLine) :
    FsCall PySem.Challenge.rw_ik0166_01.row.prog w (ktrTop dp un gd cn cs L a ccd cl outer) (.ref 101) g := by
  intro u x t s₁ Q' E' hu' hk9 hq
  have hu2 : u + 8 * 1 < cLine := by
    have : u ≤ un + 20 := hu'
    omega
  refine wpAny_mono (c_fspath w x t mean mg mb dp u gd cn cs a ccd cl outer A₀ base h₀ L m s₁ B (F.kept hk9) X T hk hd hu2 trivial) ?_ (fun _ _ x => x.elim)
  rintro r s' ⟨h', tk', rfl, hk', hpo⟩
  subst hpo
  exact hq h' tk' hk'
section
variable {prog : Program} {w : World} {A : Around} {E : Value → Shared → Prop} {s : Shared}
noncomputable def MapAt (h₀ : Heap) (L : Addr) (m : Str → Option Value) (news : List (Addr × Obj)) (l : Addr) (f : Value) (g h : Heap) (M : Addr) : Prop := ∃ T I, (∀ b o, g.get? b = some o → h.get? b = some o) ∧ IsMap h M T I f ∧ h.IsListIter I l 0 ∧ Fr h₀ L g m ∧ News h₀ L g news ∧ g.get? M = none ∧ g.get? T = none ∧ g.get? I = none ∧ M ≠ I ∧ T ≠ I
theorem map_at {h₀ : Heap} {L l : Addr} {m : Str → Option Value} {news : List (Addr × Obj)} {f : Value} {vs : List Value} {Q : Value → Shared → Prop} (F : Fr h₀ L s.heap m) (N : News h₀ L s.heap news) (hl : s.heap.IsList l vs.toArray)
    (h : ∀ M h', MapAt h₀ L m news l f s.heap h' M → Fr h₀ L h' m → News h₀ L h' news → Q (.ref M) { s with heap := h' }) : wpAny (model prog w) A (call (.type "map") [f, .ref l]) Q E s := by
  have fresh : ∀ a, s.heap.objs.size ≤ a → s.heap.get? a = none := fun a ha => by
    cases e : s.heap.get? a with
    | none => rfl
    | some o' => exact absurd (Heap.lt_size e) (Nat.not_lt.mpr ha)
  refine call_map hl fun h' hM hI hz hk => h _ h' ⟨_, _, hk, hM, hI, F, N, fresh _ (Nat.le_add_right _ _), fresh _ (Nat.le_add_right _ _), fresh _ (Nat.le_refl _), ?_, ?_⟩ (F.kept hk) (N.keepsAll hk)
  · exact Nat.ne_of_gt (Nat.lt_add_of_pos_right (by decide))
  · exact Nat.ne_of_gt (Nat.lt_add_of_pos_right (by decide))
theorem tuple_map {h₀ : Heap} {L l M : Addr} {m : Str → Option Value} {news : List (Addr × Obj)} {f : Value} {vs : List Value} {g : Heap} {Q : Value → Shared → Prop} (hh : A.handled = none) (R : MapAt h₀ L m news l f g s.heap M) (hl : g.IsList l vs.toArray) (H : FsCall prog w A f g) (hxs : ∀ v ∈ vs, ∃ (x : Str) (t : Tok), v = Value.str x t) (hsz : vs.length ≤ 1000)
    (h : ∀ D h' tk', Fr h₀ L h' m → News h₀ L h' ((D, ({ cls := .type "tuple", data := .seq vs.toArray } : Obj)) :: news) → (∀ p ∈ news, p.1 < D) → Q (.ref D) { s with heap := h', toks := tk' }) :
    wpAny (model prog w) A (call (.type "tuple") [.ref M]) Q E s := by
  obtain ⟨T, I, hk, hM, hI, F, N, nM, nT, nI, hMI, hTI⟩ := R
  have lt : ∀ {b o}, s.heap.get? b = some o → b < s.heap.objs.size := fun e => Heap.lt_size e
  have hxs' : ∀ (i : Nat) v, vs.toArray[i]? = some v → ∃ (x : Str) (t : Tok), v = Value.str x t := fun i v e => hxs v (List.mem_of_getElem? (by simpa using e))
  refine call_tuple_map (I := M) (n := vs.toArray.size) (map_walks (A := A) (n := A.units + 3) hh H (by omega) hl hxs' nM nT nI hMI hTI) (fun i s st => ⟨_, st.2.1.1, rfl⟩) ⟨hk, hM, hI⟩ (fun b hb => ?_) (by simp) (fun s' acc hm hacc => ?_) (by rw [List.size_toArray, sizeLine_eq]; omega)
  · rcases List.mem_cons.mp hb with rfl | hb
    · exact lt hM.1
    · rcases List.mem_cons.mp hb with rfl | hb
      · exact lt hM.2
      · rcases List.mem_cons.mp hb with rfl | hb
        · obtain ⟨o, e, _⟩ := hI; exact lt e
        · obtain ⟨o, e⟩ := Option.isSome_iff_exists.mp (List.mem_filter.mp hb).2
          exact lt (hk b o e)
  · obtain ⟨hg, gn, dr, tk, os⟩ := s'
    obtain ⟨k1, k2, k3, k4, k5⟩ := hm
    have hacc' : acc = vs.toArray := by
      apply Array.ext_getElem?
      intro i
      rcases Nat.lt_or_ge i acc.size with hi | hi
      · rw [hacc.2 i acc[i] (by simp [hi])]; simp [hi]
      · rw [Array.getElem?_eq_none hi, Array.getElem?_eq_none (by rw [← hacc.1]; exact hi)]
    subst hacc'
    have keep0 : ∀ b o, g.get? b = some o → hg.get? b = some o := fun b o e => k1 b o (by intro hb; rw [List.mem_singleton.mp hb, nI] at e; cases e) (hk b o e)
    have keep : ∀ b o, g.get? b = some o → (hg.push { cls := .type "tuple", data := .seq vs.toArray }).get? b = some o := fun b o e => Heap.get?_push_of_some _ (keep0 b o e)
    obtain rfl : gn = s.gens := k2
    obtain rfl : dr = s.drawn := k3
    obtain rfl : os = s.os := k4
    refine h hg.objs.size (hg.push { cls := .type "tuple", data := .seq vs.toArray }) tk (F.kept keep) (fun p hp => ?_) (fun p hp => Heap.lt_size (keep0 _ _ (N p hp).1))
    rcases List.mem_cons.mp hp with rfl | hp
    · refine ⟨Heap.get?_push_size _ rfl, fun e => ?_, ?_⟩
      · obtain ⟨_, _, _, hL, _⟩ := F.ns
        exact absurd (Heap.lt_size (keep0 _ _ hL)) (by rw [← show hg.objs.size = L from e]; exact Nat.lt_irrefl _)
      · cases e : h₀.get? hg.objs.size with
        | none => rfl
        | some x => exact absurd (Heap.lt_size (keep0 _ _ (F.keep _ _ e))) (Nat.lt_irrefl _)
    · exact ⟨keep _ _ (N p hp).1, (N p hp).2⟩
end
local macro_rules | `(tactic| walk_at "exec Try") => `(tactic| (k_here; (with_reducible show wpAny _ _ (exec (Stmt.Try _ (_ :: _) _ [] _) (envOfC _ _ _ _ _)) _ _ _); refine wpAny_Try_except ?_))
local macro_rules | `(tactic| walk_at "exec Assign cons ListComp") => stopT
local macro_rules | `(tactic| walk_at "eval Name") => nmT "path"
local macro_rules | `(tactic| walk_at "call builtin:str.split") => stopT
local macro_rules | `(tactic| walk_at "eval Name") => nmT "p"
local macro_rules | `(tactic| walk_at "eval Name") => nmT "s"
local macro_rules | `(tactic| walk_at "eval Name") => nmT "c"
noncomputable def FiltG (T1 T2 : Addr) (xs ys : List Str) (v : Value) (its : Array Value) : Prop := (v = .ref T1 → StrsAre its.toList (xs.filter keepS)) ∧ (v = .ref T2 → StrsAre its.toList (ys.filter keepS))
theorem keep_t {y : Str} (h0 : (y.length : Int) ≠ 0) (h1 : (y != Str.ofString ".") = true) : true = keepS y := by
  have h2 := str_len_ne h0
  unfold keepS
  have e1 : (y == Str.ofString "") = false := by simpa using h2
  have e2 : (y == Str.ofString ".") = false := by simpa using h1
  rw [e1, e2]; rfl
theorem keep_f1 {y : Str} (h1 : (y != Str.ofString ".") = false) : false = keepS y := by
  unfold keepS
  have e2 : (y == Str.ofString ".") = true := by simpa using h1
  rw [e2]; simp
theorem keep_f0 {y : Str} (h0 : (y.length : Int) = 0) : false = keepS y := by
  unfold keepS
  rw [str_len0 h0]; rfl
theorem ol {o : Obj} {l : Addr} {its : Array Value} {n : Nat} {h : Heap} (e : h.get? l = some o) (k : o.cls = .type "list") (d : o.data = .seq its n) : h.IsList l its.toList.toArray := ⟨o, e, k, n, by rw [d]⟩
theorem ol2 {h₀ h : Heap} {L l : Addr} {news : List (Addr × Obj)} {o : Obj} {vs : List Value} {n : Nat} (N : News h₀ L h news) (hm : (l, o) ∈ news) (k : o.cls = .type "list") (d : o.data = .seq vs.toArray n) : h.IsList l vs.toArray := ⟨o, News.get N hm, k, n, d⟩
theorem news_two {h₀ h : Heap} {L S1 S2 : Addr} {p1 p2 : Obj} {d t3 t4 d9 d1 t1 t2 tp c1 c2 : Addr × Obj} (N : News h₀ L h (d :: t3 :: t4 :: d9 :: d1 :: t1 :: t2 :: ([tp] ++ [c1, c2]))) (m1 : (S1, p1) ∈ [t3, t4]) (m2 : (S2, p2) ∈ [t3, t4]) : News h₀ L h [(S1, p1), (S2, p2), c1, c2] := fun p hp => by
  have N3 := N t3 (.tail _ (.head _))
  have N4 := N t4 (.tail _ (.tail _ (.head _)))
  have two : ∀ q ∈ [t3, t4], h.get? q.1 = some q.2 ∧ q.1 ≠ L ∧ h₀.get? q.1 = none := fun q hq => by
    rcases List.mem_cons.mp hq with rfl | hq
    · exact N3
    · rw [List.mem_singleton.mp hq]; exact N4
  rcases List.mem_cons.mp hp with rfl | hp
  · exact two _ m1
  · rcases List.mem_cons.mp hp with rfl | hp
    · exact two _ m2
    · exact N p (by simp only [List.mem_cons, List.mem_append]; simp only [List.mem_cons] at hp; rcases hp with h | h | h <;> simp [h])
local macro_rules | `(tactic| walk_at "subscriptTail Name Name ref int") => ln "KTb.item_list O A Z Z Z _" "t9' h9'" false
local macro_rules | `(tactic| walk_at "subscriptTail Name Slice ref ref") => do
  let t ← ln "kmk_slice_lit N N O P P A _ u p S" "D' h' F' N' l1" false
  `(tactic| (k_here; (with_reducible show wpAny _ _ (subscriptTail _ (PySem.Expr.Slice none _ none _) (Value.ref _) (Value.ref _)) _ _ _); $t:tactic; (try k_sweep)))
local macro_rules | `(tactic| walk_at "call builtin:str.join") => ln "join_list O A A _" "t' k'"
theorem sums_le {xs : List Str} (h1 : xs.length ≤ 302) (h2 : ∀ y ∈ xs, y.length ≤ 300) : (xs.map (·.length)).sum + xs.length * (Str.ofString "/").length ≤ 16777216 ∧ (Txt.join (Str.ofString "/") xs).length ≤ 1000000 := by
  have hj1 := StrLaws.sumLen_le (B := 300) xs h2
  have hj4 := join_len (Str.ofString "/") xs
  rw [show (Str.ofString "/").length = 1 from by decide] at hj4 ⊢
  omega
theorem filt_len {x : Str} (h : x.length ≤ 300) : ((Txt.split x (Str.ofString "/")).filter keepS).length ≤ 302 := by
  have h1 := split_le x
  have h2 := List.length_filter_le keepS (Txt.split x (Str.ofString "/"))
  omega
theorem filt_elt {x : Str} (h : x.length ≤ 300) : ∀ y ∈ (Txt.split x (Str.ofString "/")).filter keepS, y.length ≤ 300 := fun y hy => Nat.le_trans (part_short (List.mem_filter.mp hy).1) h
theorem both_brk {xs ys : List Str} {i : Nat} {y : Str} (h1 : xs.take i = ys.take i) (h2 : i ≤ xs.length) (h3 : i < ys.length) (hy : xs[i]? = some y) (hne : (y != ys.getD ((i : Int).toNat) Str.empty) = true) : xs.take (bothN xs ys) = xs.take ((i : Int).toNat) := by
  rw [bothN_eq i xs ys h1 h2 (Nat.le_of_lt h3) (.inr (.inr ?_))]
  · rfl
  · rw [hy]
    intro e
    rw [show ((i : Int)).toNat = i from rfl, List.getD_eq_getElem?_getD, ← e] at hne
    simp at hne
theorem both_next {xs ys : List Str} {i : Nat} {y : Str} (h1 : xs.take i = ys.take i) (h3 : i < ys.length) (hy : xs[i]? = some y) (he : (y != ys.getD ((i : Int).toNat) Str.empty) = false) : xs.take (i + 1) = ys.take (i + 1) := by
  refine take_more h1 hy ?_
  rw [show ((i : Int)).toNat = i from rfl, List.getD_eq_getElem?_getD, List.getElem?_eq_getElem h3] at he
  rw [List.getElem?_eq_getElem h3]
  have : y = ys[i] := by simpa using he
  rw [this]
theorem both_all {xs ys : List Str} (h1 : xs.take xs.length = ys.take xs.length) : xs.take (bothN xs ys) = xs := by
  have hl : xs.length ≤ ys.length := by
    have h2 := congrArg List.length h1
    rw [List.length_take, List.length_take] at h2
    omega
  rw [bothN_eq xs.length xs ys h1 (Nat.le_refl _) hl (.inl (by simp)), List.take_length]
noncomputable def SplitG (v : Value) (its : Array Value) : Prop := ∃ (x : Str) (t : Tok), v = Value.str x t ∧ StrsAre its.toList (Txt.split x (Str.ofString "/"))
theorem c_common (w : World) (l1 : Addr) (a b : Str) (t u : Tok) : Con w 172 [.ref l1] 4 (fun h => h.IsList l1 #[.str a t, .str b u] ∧ a.length ≤ 300 ∧ b.length ≤ 300 ∧ Txt.startswith a (Str.ofString "/") = true ∧ Txt.startswith b (Str.ofString "/") = true) (fun g h v => ∃ t, v = .str (Str.ofString "/" ++ Txt.join (Str.ofString "/") (((Txt.split a (Str.ofString "/")).filter keepS).take (bothN ((Txt.split a (Str.ofString "/")).filter keepS) ((Txt.split b (Str.ofString "/")).filter keepS)))) t) := by
  unfold Con
  k_fill
  intro zmean zmg zmb zdp zun zgd zcn zcs za zccd zcl zouter zA₀ zbase zh₀ zL zm zs zB zF zX zT zhk zhd zhu zhp
  k_dflt (refine' code_pureC ?k1 ?k2 ?k3 ?k5 ?kA ?kF ?kK ?k6 ?k7 ?k8 ?k9 ?kB ?kD ?_ ?c2 ?c3 ?c4; (case kA => exact rfl); (case kF => exact rfl); (case kK => assumption); (case k1 => k_asm); (case k2 => k_asm); (case k3 => k_asm); (case k5 => k_asm); (case k6 => k_is); (case k7 => k_is); (case k8 => first | exact room1 zhd | ktr_room); (case k9 => first | exact BindsTo.of_eq rfl | exact binds_K (by k_in) rfl (by k_is) rfl rfl rfl); (case kB => exact rfl); (case kD => decide +kernel); (case c2 => exact rfl); (case c3 => exact rfl); (case c4 => exact rfl))
  clear zF zX zT zB
  intro zL' zh' ztk' zcells' zF' zN' zY' zB' zX' zT'
  k_cells zY'
  (try simp only [List.cons_append, List.nil_append] at zN')
  (try dsimp only)
  refine wp_same ?_
  k_fold
  rename _ ∧ _ => hp
  obtain ⟨hp1, hp2, hp3, hp4, hp5⟩ := id hp
  k_steps
  (rename News _ _ _ _ => N'); (rename Fr _ _ _ _ => F')
  have hMap0 := F'
  refine map_at (vs := [_, _]) F' N' (hp1.at fun o e => F'.keep _ _ e) ?_
  intro M h' hMap F' N'
  k_steps
  refine tuple_map (vs := [_, _]) rfl hMap (hp1.at fun o e => hMap0.keep _ _ e) ?_ ?_ (by simp) ?_
  · exact fs_call (by k_asm) (by k_asm) (by k_asm) (by k_asm) rfl (by exact Nat.lt_of_le_of_lt (Nat.add_le_add_left (show 2 ≤ 4 by decide) _) (by assumption)) (by ktr_units)
  · intro v hv; rcases List.mem_cons.mp hv with rfl | hv; exact ⟨_, _, rfl⟩; rw [List.mem_singleton.mp hv]; exact ⟨_, _, rfl⟩
  intro D h' tk' F' N' l1
  k_steps
  show wpAny _ _ _ _ _ _
  (rename Fr _ _ _ _ => F')
  refine asg_compO F' SplitG (.str a t) (.str b u) rfl (by with_unfolding_all rfl) (by with_unfolding_all rfl) (by decide) (by rfl) (by decide) (by rfl) (by rfl) (by rfl) ?_ (by intro _; rfl)
  k_steps
  refine ⟨_, _, rfl, .inl ⟨_, (News.get (by k_asm) (by k_mem)), rfl, _, rfl⟩, rfl, by k_asm, by k_asm, ?_, ?_⟩
  · intro C v s₃ m₃ E' hv hn hm hk
    have hv' : ∃ (x9 : Str) (u9 : Tok), v = .str x9 u9 ∧ x9.length ≤ 300 := by
      rcases hv with e | e <;> exact ⟨_, _, e, by assumption⟩
    obtain ⟨x9, u9, rfl, hx9⟩ := hv'
    (rename News _ _ _ _ => N9); (rename Fr _ _ _ _ => F9)
    have F3 := F9.kept hk
    have N3 := N9.keepsAll hk
    clear N9 F9 hv hp hk hp1
    obtain ⟨h3, g3, d3, t3, os3⟩ := s₃
    refine wp_same ?_
    k_steps
    show wpAny _ _ _ _ _ _
    refine split_push (by decide) (by omega) fun l k hl => ?_
    exact ⟨⟨_, _, rfl, new_none _, ⟨_, Heap.get?_push_size _ rfl, rfl, _, rfl⟩, x9, u9, rfl, by rw [← hl]; exact strsAre_of_values l⟩, _, _, rfl, fun _ _ e => Heap.get?_push_of_some _ e⟩
  · intro D T1 T2 its1 its2 o1 o2 n1 n2 n h' tk F' N' hT12 k1 d1 k2 d2 G1 G2
    k_steps
    (rename Fr _ _ _ _ => F')
    refine eval_setcomp F' (.str a t) (.str b u) (by with_unfolding_all rfl) (by decide) (by rfl) (by decide) (by rfl) ?_ (by intro _; rfl)
    k_steps
    refine ⟨_, _, rfl, ⟨_, (News.get (by k_asm) (by k_mem)), rfl, _, rfl⟩, rfl, by k_asm, by k_asm, ?_, ?_⟩
    · intro C v s₃ m₃ E' hv hn hm hk
      have hv' : ∃ (x9 : Str) (u9 : Tok), v = .str x9 u9 ∧ x9.length ≤ 300 ∧ Txt.startswith x9 (Str.ofString "/") = true := by
        rcases hv with e | e
        · exact ⟨_, _, e, hp2, hp4⟩
        · exact ⟨_, _, e, hp3, hp5⟩
      obtain ⟨x9, u9, rfl, hx9, hw9⟩ := hv'
      (rename News _ _ _ _ => N9); (rename Fr _ _ _ _ => F9)
      have F3 := F9.kept hk
      have N3 := N9.keepsAll hk
      clear N9 F9 hv hp hk hp1
      obtain ⟨h3, g3, d3, t3, os3⟩ := s₃
      refine wp_same ?_
      k_steps
      · rw [hw9]
      · exact ⟨_, _, rfl, fun _ _ e => e⟩
    · intro D9 h' tk F' N'
      k_steps
      show wpAny _ _ (assign _ _ _) _ _ _
      refine asg_set1 rfl (by k_asm) N' (.head _) fun h' F' N' => ?_
      k_steps
      obtain ⟨xa, ta, ea, ga⟩ := G1
      obtain ⟨xb, tb, eb, gb⟩ := G2
      cases ea; cases eb
      show wpAny _ _ _ _ _ _
      (rename Fr _ _ _ _ => F')
      refine asg_compO F' (FiltG T1 T2 (Txt.split a (Str.ofString "/")) (Txt.split b (Str.ofString "/"))) (.ref T1) (.ref T2) rfl (by with_unfolding_all rfl) (by with_unfolding_all rfl) (by decide) (by rfl) (by decide) (by rfl) (by rfl) (by rfl) ?_ (by intro _; rfl)
      k_steps
      refine ⟨_, _, rfl, .inr ⟨_, (News.get (by k_asm) (by k_mem)), rfl, _, rfl⟩, rfl, by k_asm, by k_asm, ?_, ?_⟩
      · intro C v s₃ m₃ E' hv hn hm hk
        (rename News _ _ _ _ => N9); (rename Fr _ _ _ _ => F9)
        have F3 := F9.kept hk
        have N3 := N9.keepsAll hk
        obtain ⟨l9, vs9, xs9, rfl, hl9, hx9, hsz9, hy9, hG9⟩ : ∃ (l9 : Addr) (vs9 : List Value) (xs9 : List Str), v = .ref l9 ∧ s₃.heap.IsList l9 vs9.toArray ∧ StrsAre vs9 xs9 ∧ vs9.length ≤ 1000 ∧ (∀ y ∈ xs9, y.length ≤ 300) ∧ ∀ its : Array Value, StrsAre its.toList (xs9.filter keepS) → FiltG T1 T2 (Txt.split a (Str.ofString "/")) (Txt.split b (Str.ofString "/")) v its := by
          have l1 := split_le a
          have l2 := split_le b
          have q1 := ga.length
          have q2 := gb.length
          rcases hv with rfl | rfl
          · exact ⟨T1, its1.toList, _, rfl, ⟨o1, News.get N3 (by k_mem), k1, n1, by rw [d1]⟩, ga, by omega, fun y hy => Nat.le_trans (part_short hy) hp2, fun its h => ⟨fun _ => h, fun e => absurd (Value.ref.inj e) hT12⟩⟩
          · exact ⟨T2, its2.toList, _, rfl, ⟨o2, News.get N3 (by k_mem), k2, n2, by rw [d2]⟩, gb, by omega, fun y hy => Nat.le_trans (part_short hy) hp3, fun its h => ⟨fun e => absurd (Value.ref.inj e).symm hT12, fun _ => h⟩⟩
        clear hk F9 N9 hp hp1 ga gb
        refine wpAny_mono (filt_comp rfl hl9 hx9 hsz9 (by with_unfolding_all rfl) (by decide) (by rfl) (by decide) (by rfl) (by intro _; rfl) ?_ ?_ ?_) (fun y s₄ h₄ => ?_) fun _ _ e => e
        · obtain ⟨h3, g3, d3, t3, os3⟩ := s₃
          k_steps
        · intro C2 y2 t2 s₅ m₅ E5 hy2 hn2 hm2 hk2
          have F5 := F3.kept hk2
          have N5 := N3.keepsAll hk2
          clear hk2 F3 N3 hn hm hl9 hx9
          obtain ⟨h5, g5, d5, t5, os5⟩ := s₅
          simp only [List.forIn_cons, List.forIn_nil]
          refine wpAny_bind ?_
          rw [if_pos True.intro]
          have hy3 := hy9 y2 hy2
          clear hy9 hG9
          refine wpAny_bind ?_
          k_steps
          all_goals (
            refine wpAny_pure (wpAny_pure ⟨?_, _, _, rfl, fun _ _ e => e⟩)
            first
              | exact keep_t (by assumption) (by assumption)
              | exact keep_f1 (by assumption)
              | exact keep_f0 (by assumption))
        · intro C2 y2 t2 s₅ m₅ E5 hn2 hm2
          clear F3 N3 hn hm hl9 hx9
          obtain ⟨h5, g5, d5, t5, os5⟩ := s₅
          k_steps
          · exact ⟨_, _, rfl, fun _ _ e => e⟩
        · obtain ⟨⟨T, its, e1, e2, e3, e4⟩, e5⟩ := h₄
          exact ⟨⟨T, its, e1, e2, e3, hG9 its e4⟩, e5⟩
      · intro D T3 T4 its3 its4 o3 o4 n3 n4 n h' tk F' N' hT34 k3 d3 k4 d4 G3 G4
        have f3 := G3.1 rfl
        have f4 := G4.2 rfl
        clear G3 G4
        generalize hfa : (Txt.split a (Str.ofString "/")).filter keepS = fa at f3
        generalize hfb : (Txt.split b (Str.ofString "/")).filter keepS = fb at f4
        k_steps
        (rename Fr _ _ _ _ => F'); (rename News _ _ _ _ => N')
        obtain ⟨S1, p1, ws1, m1, xs1, e1, mem1, c1, q1, st1, x1⟩ : ∃ (S1 : Addr) (p1 : Obj) (ws1 : List Value) (m1 : Nat) (xs1 : List Str), (if ltS fb fa = true then Value.ref T4 else Value.ref T3) = .ref S1 ∧ (S1, p1) ∈ [(T3, o3), (T4, o4)] ∧ p1.cls = .type "list" ∧ p1.data = .seq ws1.toArray m1 ∧ StrsAre ws1 xs1 ∧ xs1 = (if ltS fb fa = true then fb else fa) := by
          cases ltS fb fa
          · exact ⟨T3, o3, its3.toList, n3, fa, rfl, .head _, k3, by rw [d3], f3, rfl⟩
          · exact ⟨T4, o4, its4.toList, n4, fb, rfl, .tail _ (.head _), k4, by rw [d4], f4, rfl⟩
        obtain ⟨S2, p2, ws2, m2, xs2, e2, mem2, c2, q2, st2, x2⟩ : ∃ (S2 : Addr) (p2 : Obj) (ws2 : List Value) (m2 : Nat) (xs2 : List Str), (if ltS fa fb = true then Value.ref T4 else Value.ref T3) = .ref S2 ∧ (S2, p2) ∈ [(T3, o3), (T4, o4)] ∧ p2.cls = .type "list" ∧ p2.data = .seq ws2.toArray m2 ∧ StrsAre ws2 xs2 ∧ xs2 = (if ltS fa fb = true then fb else fa) := by
          cases ltS fa fb
          · exact ⟨T3, o3, its3.toList, n3, fa, rfl, .head _, k3, by rw [d3], f3, rfl⟩
          · exact ⟨T4, o4, its4.toList, n4, fb, rfl, .tail _ (.head _), k4, by rw [d4], f4, rfl⟩
        refine min_pair rfl (News.isList N' (.head _)) (ol (N' (T3, o3) (.tail _ (.head _))).1 k3 d3) (ol (N' (T4, o4) (.tail _ (.tail _ (.head _)))).1 k4 d4) f3 f4 (by ktr_units) fun h' tk hk9 => ?_
        have F2 := F'.kept hk9
        have N2 := N'.keepsAll hk9
        clear hk9
        rw [e1]
        k_steps
        (rename Fr _ _ _ _ => F'); (rename News _ _ _ _ => N')
        refine max_pair rfl (News.isList N' (.head _)) (ol (N' (T3, o3) (.tail _ (.head _))).1 k3 d3) (ol (N' (T4, o4) (.tail _ (.tail _ (.head _)))).1 k4 d4) f3 f4 (by ktr_units) fun h' tk hk9 => ?_
        have F2 := F'.kept hk9
        have N2 := N'.keepsAll hk9
        clear hk9
        rw [e2]
        k_steps
        show wpAny _ _ _ _ _ _
        (rename Fr _ _ _ _ => F'); (rename News _ _ _ _ => N')
        replace N' := news_two N' mem1 mem2
        have hle := mm_le x1 x2
        have hfin := mm_both x1 x2
        have hlen1 : xs1.length ≤ 302 := by rw [x1]; split; rw [← hfb]; exact filt_len hp3; rw [← hfa]; exact filt_len hp2
        have hlen2 : xs2.length ≤ 302 := by rw [x2]; split; rw [← hfb]; exact filt_len hp3; rw [← hfa]; exact filt_len hp2
        have hel1 : ∀ y ∈ xs1, y.length ≤ 300 := by rw [x1]; split; rw [← hfb]; exact filt_elt hp3; rw [← hfa]; exact filt_elt hp2
        subst hfa hfb
        clear x1 x2 e1 e2 mem1 mem2 f3 f4
        have kMark : KstMark := kstMark
        obtain ⟨hs3, hs5⟩ := sums_le hlen1 hel1
        have hwl1 := st1.length
        have hwl2 := st2.length
        k_dflt refine enum_keep (σ := Unit) (vs := ws1) (fun _ => _) (fun _ => [(Str.ofString "common", .ref S1)]) [Str.ofString "i", Str.ofString "c"] (fun i _ => xs1.take i = xs2.take i ∧ i ≤ xs1.length) () rfl (ol2 N' (.head _) c1 q1) ?_ F' N' ?_ ?_ ?_ ?_
        · exact (N' _ (.head _)).2.1
        · intro p hp; rw [List.mem_singleton.mp hp]; rfl
        · exact ⟨rfl, Nat.zero_le _⟩
        · intro c i v u h tk own hv hI Fk Nk
          refine wp_same ?_
          k_fold
          obtain ⟨T9, t9, x9, rfl, hx9, hT9⟩ := hv
          obtain ⟨hI1, hI2⟩ := hI
          obtain ⟨y9, ty9, rfl, hy9⟩ := strsAre_at' st1 hx9
          have hi1 : i < xs1.length := (List.getElem?_eq_some_iff.mp hy9).1
          have hi2 := lt_in hle hI1 hi1
          have hsu := pick_up ws1 (y := (i : Int)) (by omega)
          have hj := strsAre_take st1 (i : Int).toNat
          obtain ⟨hj3, hj5⟩ := sums_le (xs := xs1.take (i : Int).toNat) (by rw [List.length_take]; omega) (fun y hy => hel1 y (List.mem_of_mem_take hy))
          clear F' N' hp hp1 hx9
          dsimp only [kstB] at Fk Nk
          simp only [List.cons_append, List.nil_append] at Nk
          refine wp_same ?_
          k_steps
          · ((try (k_unfold; try dsimp only)); refine pure_end (by k_asm) ?_)
            exact ⟨_, congrArg (fun z => Value.str z _) (congrArg (fun z => Str.ofString "/" ++ Txt.join (Str.ofString "/") z) ((both_brk hI1 hI2 hi2 hy9 (by assumption)).symm.trans hfin))⟩
          · (rename News _ _ _ _ => N9)
            refine of_stop (st1_end () (by k_asm) N9 (fun p hp => List.mem_append_left own hp) (fun p hp => .tail _ (.tail _ (.tail _ (.tail _ hp)))) rfl (fun p hp => by rw [List.mem_singleton.mp hp]; rfl) (fun z h2 h3 => ?_) ?_)
            · simp only [List.forall_mem_cons, List.not_mem_nil, false_implies, implies_true, and_true, ne_eq] at h2
              simp only [List.contains_cons, List.contains_nil, Bool.or_false, Bool.or_eq_false_iff, beq_eq_false_iff_ne, ne_eq] at h3
              simp [h2, h3]
            · exact ⟨both_next hI1 hi2 hy9 (by assumption), hi1⟩
        · intro c u h tk hI Fk Nk
          obtain ⟨hI1, hI2⟩ := hI
          clear F' N' hp hp1
          dsimp only [kstB] at Fk Nk
          refine wp_same ?_
          k_steps
          all_goals ((try (k_unfold; try dsimp only)); refine pure_end (by k_asm) ?_)
          exact ⟨_, congrArg (fun z => Value.str z _) (congrArg (fun z => Str.ofString "/" ++ Txt.join (Str.ofString "/") z) ((both_all (hwl1 ▸ hI1)).symm.trans hfin))⟩
end
section
local macro_rules | `(tactic| walk_at "exec For Tuple Name cons cons") => `(tactic| (k_here; k_dflt (refine wpAny_For ?_ (by intro _; rfl)); k_whole))
local macro_rules | `(tactic| walk_at "ElPost") => stopT
noncomputable def ftabs : List (List (Int × Str)) := [[(40960, Str.ofString "l"), (49152, Str.ofString "s"), (32768, Str.ofString "-"), (24576, Str.ofString "b"), (16384, Str.ofString "d"), (8192, Str.ofString "c"), (4096, Str.ofString "p")],
  [(256, Str.ofString "r")], [(128, Str.ofString "w")], [(2112, Str.ofString "s"), (2048, Str.ofString "S"), (64, Str.ofString "x")], [(32, Str.ofString "r")], [(16, Str.ofString "w")], [(1032, Str.ofString "s"), (1024, Str.ofString "S"), (8, Str.ofString "x")], [(4, Str.ofString "r")], [(2, Str.ofString "w")], [(513, Str.ofString "t"), (512, Str.ofString "T"), (1, Str.ofString "x")]]
noncomputable def fhit (x : Int) (i : Nat) (p : Int × Str) : Bool := if (i : Int) = 0 then decide (Builtin.bitAnd x 61440 = p.1) else decide (Builtin.bitAnd x p.1 = p.1)
theorem fh0 {x b : Int} {i : Nat} {c : Str} (h : (i : Int) = 0) (h2 : Builtin.bitAnd x 61440 = b) : fhit x i (b, c) = true := by unfold fhit; rw [if_pos h]; exact decide_eq_true h2
theorem fh0n {x b : Int} {i : Nat} {c : Str} (h : (i : Int) = 0) (h2 : Builtin.bitAnd x 61440 ≠ b) : fhit x i (b, c) = false := by unfold fhit; rw [if_pos h]; exact decide_eq_false h2
theorem fh1 {x b : Int} {i : Nat} {c : Str} (h : (i : Int) ≠ 0) (h2 : Builtin.bitAnd x b = b) : fhit x i (b, c) = true := by unfold fhit; rw [if_neg h]; exact decide_eq_true h2
theorem fh1n {x b : Int} {i : Nat} {c : Str} (h : (i : Int) ≠ 0) (h2 : Builtin.bitAnd x b ≠ b) : fhit x i (b, c) = false := by unfold fhit; rw [if_neg h]; exact decide_eq_false h2
noncomputable def fpick (x : Int) (i : Nat) (ps : List (Int × Str)) : Str := match ps.find? (fhit x i) with
  | some p => p.2
  | none => if (i : Int) = 0 then Str.ofString "?" else Str.ofString "-"
noncomputable def fperm (x : Int) : Nat → List Str
  | 0 => []
  | i + 1 => fperm x i ++ [fpick x i (ftabs.getD i [])]
theorem fpick_hit {x : Int} {i j : Nat} {ps : List (Int × Str)} {b : Int} {c : Str} (h : (ps.take j).find? (fhit x i) = none) (hj : ps[j]? = some (b, c)) (hh : fhit x i (b, c) = true) : fpick x i ps = c := by
  have e : ps.find? (fhit x i) = some (b, c) := by
    obtain ⟨hl, hg⟩ := List.getElem?_eq_some_iff.mp hj
    have e2 : ps = ps.take j ++ (b, c) :: ps.drop (j + 1) := by
      rw [← hg, List.getElem_cons_drop, List.take_append_drop]
    rw [e2, List.find?_append, h]
    simp [hh]
  unfold fpick; rw [e]
theorem fpick_next {x : Int} {i j : Nat} {ps : List (Int × Str)} {b : Int} {c : Str} (h : (ps.take j).find? (fhit x i) = none) (hj : ps[j]? = some (b, c)) (hh : fhit x i (b, c) = false) : (ps.take (j + 1)).find? (fhit x i) = none := by
  rw [List.take_add_one, hj, List.find?_append, h]
  simp [hh]
theorem fpick_miss {x : Int} {i : Nat} {ps : List (Int × Str)} (h : ps.find? (fhit x i) = none) : fpick x i ps = if (i : Int) = 0 then Str.ofString "?" else Str.ofString "-" := by
  unfold fpick; rw [h]
theorem fperm_len (x : Int) : ∀ i, (fperm x i).length = i
  | 0 => rfl
  | i + 1 => by rw [fperm, List.length_append, fperm_len x i]; rfl
theorem fpick_len (x : Int) {i : Nat} {ps : List (Int × Str)} (h : ∀ p ∈ ps, p.2.length = 1) : (fpick x i ps).length = 1 := by
  unfold fpick
  split
  · rename_i p hp
    exact h p (List.mem_of_find?_eq_some hp)
  · split <;> decide
theorem fperm_one (x : Int) : ∀ i, ∀ y ∈ fperm x i, y.length ≤ 1
  | 0, _, h => nomatch h
  | i + 1, y, h => by
    rcases List.mem_append.mp h with h | h
    · exact fperm_one x i y h
    · rw [List.mem_singleton.mp h]
      refine Nat.le_of_eq (fpick_len x fun p hp => ?_)
      have h9 : (ftabs.all fun ps => ps.all fun p => decide (p.2.length = 1)) = true := by decide
      by_cases hi : i < ftabs.length
      · rw [List.getD_eq_getElem?_getD, List.getElem?_eq_getElem hi] at hp
        exact of_decide_eq_true (List.all_eq_true.mp (List.all_eq_true.mp h9 _ (List.getElem_mem hi)) p hp)
      · rw [List.getD_eq_getElem?_getD, List.getElem?_eq_none (by omega)] at hp
        cases hp
theorem fperm_sum (x : Int) : ((fperm x 10).map (·.length)).sum + (fperm x 10).length * (Str.ofString "").length ≤ 16777216 := by
  have h1 := StrLaws.sumLen_le (B := 1) (fperm x 10) (fperm_one x 10)
  have h2 : (Str.ofString "").length = 0 := by decide
  rw [fperm_len] at h1
  rw [fperm_len, h2]; omega
noncomputable def TabAt (h : Heap) (a : Addr) (ps : List (Int × Str)) : Prop := ∃ rs : List Value, h.IsTuple a rs.toArray ∧ rs.length = ps.length ∧ ∀ (j : Nat) (r : Value), rs[j]? = some r → ∃ P b c t u, r = Value.ref P ∧ IsTup h P #[.int b t, .str c u] ∧ ps[j]? = some (b, c) ∧ 0 ≤ b ∧ b < 65536 ∧ c.length = 1
noncomputable def frefs : List Value := [.ref 236, .ref 238, .ref 240, .ref 244, .ref 246, .ref 248, .ref 252, .ref 254, .ref 256, .ref 260]
theorem tab1 {P : Params} {h : Heap} (X : (K P).In h) {a a1 : Addr} {t1 u1 : Tok} {b1 : Int} {c1 : Str} (e : (K P).lookup a = some { cls := .type "tuple", data := .seq #[.ref a1] }) (e1 : (K P).lookup a1 = some { cls := .type "tuple", data := .seq #[.int b1 t1, .str c1 u1] }) (hb : 0 ≤ b1 ∧ b1 < 65536 ∧ c1.length = 1) : TabAt h a [(b1, c1)] :=
  ⟨[.ref a1], ⟨_, X _ _ e, rfl, _, rfl⟩, rfl, fun j r hr => by
    rcases j with _ | j
    · cases hr; exact ⟨_, _, _, _, _, rfl, ⟨_, X _ _ e1, rfl, _, rfl⟩, rfl, hb⟩
    · simp at hr⟩
theorem tab3 {P : Params} {h : Heap} (X : (K P).In h) {a a1 a2 a3 : Addr} {t1 u1 t2 u2 t3 u3 : Tok} {b1 b2 b3 : Int} {c1 c2 c3 : Str} (e : (K P).lookup a = some { cls := .type "tuple", data := .seq #[.ref a1, .ref a2, .ref a3] }) (e1 : (K P).lookup a1 = some { cls := .type "tuple", data := .seq #[.int b1 t1, .str c1 u1] }) (e2 : (K P).lookup a2 = some { cls := .type "tuple", data := .seq #[.int b2 t2, .str c2 u2] }) (e3 : (K P).lookup a3 = some { cls := .type "tuple", data := .seq #[.int b3 t3, .str c3 u3] })
    (hb : (0 ≤ b1 ∧ b1 < 65536 ∧ c1.length = 1) ∧ (0 ≤ b2 ∧ b2 < 65536 ∧ c2.length = 1) ∧ (0 ≤ b3 ∧ b3 < 65536 ∧ c3.length = 1)) : TabAt h a [(b1, c1), (b2, c2), (b3, c3)] :=
  ⟨[.ref a1, .ref a2, .ref a3], ⟨_, X _ _ e, rfl, _, rfl⟩, rfl, fun j r hr => by
    rcases j with _ | _ | _ | j
    · cases hr; exact ⟨_, _, _, _, _, rfl, ⟨_, X _ _ e1, rfl, _, rfl⟩, rfl, hb.1⟩
    · cases hr; exact ⟨_, _, _, _, _, rfl, ⟨_, X _ _ e2, rfl, _, rfl⟩, rfl, hb.2.1⟩
    · cases hr; exact ⟨_, _, _, _, _, rfl, ⟨_, X _ _ e3, rfl, _, rfl⟩, rfl, hb.2.2⟩
    · simp at hr⟩
theorem tab0 {P : Params} {h : Heap} (X : (K P).In h) : TabAt h 236 (ftabs.getD 0 []) :=
  ⟨[.ref 229, .ref 230, .ref 231, .ref 232, .ref 233, .ref 234, .ref 235], ⟨_, X _ _ (by rfl), rfl, _, rfl⟩, rfl, fun j r hr => by
    rcases j with _ | _ | _ | _ | _ | _ | _ | j
    all_goals first
      | (cases hr; exact ⟨_, _, _, _, _, rfl, ⟨_, X _ _ (by rfl), rfl, _, rfl⟩, rfl, by decide, by decide, by decide⟩)
      | simp at hr⟩
theorem tab_at {P : Params} {h : Heap} (X : (K P).In h) {i : Nat} {v : Value} (hv : frefs[i]? = some v) : ∃ a, v = .ref a ∧ TabAt h a (ftabs.getD i []) := by
  rcases i with _ | _ | _ | _ | _ | _ | _ | _ | _ | _ | i
  · cases hv; exact ⟨_, rfl, tab0 X⟩
  · cases hv; exact ⟨_, rfl, tab1 X (by rfl) (by rfl) (by decide)⟩
  · cases hv; exact ⟨_, rfl, tab1 X (by rfl) (by rfl) (by decide)⟩
  · cases hv; exact ⟨_, rfl, tab3 X (by rfl) (by rfl) (by rfl) (by rfl) (by decide)⟩
  · cases hv; exact ⟨_, rfl, tab1 X (by rfl) (by rfl) (by decide)⟩
  · cases hv; exact ⟨_, rfl, tab1 X (by rfl) (by rfl) (by decide)⟩
  · cases hv; exact ⟨_, rfl, tab3 X (by rfl) (by rfl) (by rfl) (by rfl) (by decide)⟩
  · cases hv; exact ⟨_, rfl, tab1 X (by rfl) (by rfl) (by decide)⟩
  · cases hv; exact ⟨_, rfl, tab1 X (by rfl) (by rfl) (by decide)⟩
  · cases hv; exact ⟨_, rfl, tab3 X (by rfl) (by rfl) (by rfl) (by rfl) (by decide)⟩
  · simp [frefs] at hv
theorem c_filemode (w : World) (x : Int) (t : Tok) : Con w 268 [.int x t] 3 (fun _ => 0 ≤ x ∧ x < 4294967296) (fun g h v => ∃ t, v = .str (Txt.join (Str.ofString "") (fperm x 10)) t) := by
  unfold Con
  k_fill
  intro zmean zmg zmb zdp zun zgd zcn zcs za zccd zcl zouter zA₀ zbase zh₀ zL zm zs zB zF zX zT zhk zhd zhu zhp
  k_dflt (refine' code_pure ?k1 ?k2 ?k3 ?k5 ?kA ?kF ?kK ?k6 ?k7 ?k8 ?k9 ?kB ?_ ?c2 ?c3 ?c4 ?c5; (case kA => exact rfl); (case kF => exact rfl); (case kK => assumption); (case k1 => k_asm); (case k2 => k_asm); (case k3 => k_asm); (case k5 => k_asm); (case k6 => k_is); (case k7 => k_is); (case k8 => first | exact room1 zhd | ktr_room); (case k9 => first | exact BindsTo.of_eq rfl | exact binds_K (by k_in) rfl (by k_is) rfl rfl rfl); (case c5 => decide); (case kB => exact locs rfl); (case c2 => exact rfl); (case c3 => exact rfl); (case c4 => exact rfl); k_whole)
  clear zF zX zT zB
  intro zL' zh' zF' zN' zB' zX' zT'
  (try dsimp only)
  k_fold
  rename _ ∧ _ => hp
  obtain ⟨hp1, hp2⟩ := id hp
  k_steps
  show wpAny _ _ _ _ _ _
  (rename News _ _ _ _ => N'); (rename Fr _ _ _ _ => F'); (rename Frag.In _ _ => X9)
  obtain ⟨d, hd⟩ := headAddr N'; subst hd
  have kMark : KstMark := kstMark
  k_dflt refine iter_enum_tup (σ := List Value × Nat) (vs := frefs) (fun c => [(d, W.listOf c.1.toArray c.2)]) (fun _ => []) [Str.ofString "index", Str.ofString "table", Str.ofString "bit", Str.ofString "char"] (fun i c => StrsAre c.1 (fperm x i) ∧ i ≤ 10) ([], 0) rfl ⟨_, F'.keep _ _ (X9 _ _ (by rfl)), rfl, _, rfl⟩ ?_ ?_ F' N' (fun p hp => nomatch hp) ⟨.nil, by decide⟩ ?_ ?_
  · exact Nat.ne_of_lt (Nat.lt_of_lt_of_le (Heap.lt_size (X9 _ _ (by rfl) : _ = some { cls := .type "tuple", data := .seq frefs.toArray })) F'.above)
  · intro p hp e
    have h1 := (N' _ (.head _)).2.2
    rw [List.mem_singleton.mp hp] at e
    rw [show d = 261 from e, (X9 _ _ (by rfl) : _ = some { cls := .type "tuple", data := .seq frefs.toArray })] at h1
    cases h1
  · intro c i v u h tk own hv hoff hI Fk Nk
    refine wp_same ?_
    k_fold
    obtain ⟨T, t9, x9, rfl, hx, hT⟩ := hv
    have hi2 : i + 1 ≤ 10 := lt_of_get? hx
    obtain ⟨a9, rfl, rs, hrt, hrl, hrs⟩ := tab_at X9 hx
    clear F' N' hp hx
    obtain ⟨vs, nn⟩ := c
    obtain ⟨hI, hi⟩ := hI
    dsimp only [kstB] at Fk Nk hI
    refine wp_same ?_
    k_steps
    show wpAny _ _ _ _ _ _
    (rename News _ _ _ _ => N'); (rename Fr _ _ _ _ => F')
    have hvl : vs.length ≤ 10 := by rw [hI.length, fperm_len]; exact hi
    k_dflt refine for_else (vs := rs) [Str.ofString "bit", Str.ofString "char"] (fun j => ((ftabs.getD i []).take j).find? (fhit x i) = none) rfl hrt F' N' rfl (by passes_own) ?_ ?_
    · intro j r u h tk rest hr hI2 hne F2 N2
      obtain ⟨P, b, c, tb, tc, rfl, hTb, hps, hb0, hb1, hc1⟩ := hrs j r hr
      replace hTb : IsTup h P #[.int b tb, .str c tc] := let ⟨o, e, r⟩ := hTb; ⟨o, F2.keep _ _ e, r⟩
      obtain ⟨own2, ho2⟩ : ∃ o, o = own ++ rest := ⟨_, rfl⟩
      replace N2 := news_sub (l' := (d, W.listOf vs.toArray nn) :: own2) N2 (fun p hp => by rw [ho2] at hp; simpa [or_assoc] using hp)
      have hoff2 : OwnOff own2 [d] := by
        intro p hp b hb e
        rw [List.mem_singleton.mp hb] at e
        rw [ho2] at hp
        rcases List.mem_append.mp hp with hp | hp
        · exact hoff p hp d (.head _) e
        · exact hne (d, W.listOf vs.toArray nn) (.head _) p hp e.symm
      clear hrs hr hne N' F' hrt hrl hoff
      refine wp_same ?_
      k_fold
      k_steps
      all_goals (
        refine of_stop ?_
        first
          | (refine ⟨fpick_next hI2 hps (by first | exact fh0n (by assumption) (by assumption) | exact fh1n (by assumption) (by assumption)), _, _, _, rfl, by k_asm, news_sub (by k_asm) (fun p hp => by rw [ho2]; simpa [or_assoc] using hp), fun z h3 => ?_⟩
             simp only [List.contains_cons, List.contains_nil, Bool.or_false, Bool.or_eq_false_iff, beq_eq_false_iff_ne, ne_eq] at h3
             simp [h3])
          | ((show wpAny _ _ (execs [] _) _ _ _)
             k_steps
             (rename News _ _ _ _ => N9)
             simp only [List.push_toArray] at N9
             refine of_stop (st1_end (⟨vs ++ [_], nn + 1⟩ : List Value × Nat) (by k_asm) N9 (fun p hp => by rw [List.mem_singleton.mp hp]; exact .head _) (fun p hp => .tail _ (by rw [ho2]; exact List.mem_append_left _ hp)) rfl (fun p hp => nomatch hp) (fun z _ h3 => ?_) ⟨?_, ?_⟩)
             · simp only [List.contains_cons, List.contains_nil, Bool.or_false, Bool.or_eq_false_iff, beq_eq_false_iff_ne, ne_eq] at h3
               simp [h3]
             · rw [fperm, fpick_hit hI2 hps (by first | exact fh0 (by assumption) (by assumption) | exact fh1 (by assumption) (by assumption))]
               exact StrsAre.append' hI (.cons _ _ .nil)
             · exact hi2))
    · intro u h tk hI2 F2 N2
      rw [hrl, List.take_length] at hI2
      clear hrs hrt hrl N' F'
      refine wp_same ?_
      k_fold
      k_steps
      all_goals (
        (rename News _ _ _ _ => N9)
        simp only [List.push_toArray, List.append_eq, List.nil_append] at N9
        refine of_stop (st1_end (⟨vs ++ [_], nn + 1⟩ : List Value × Nat) (by k_asm) N9 (fun p hp => by rw [List.mem_singleton.mp hp]; exact .head _) (fun p hp => .tail _ hp) rfl (fun p hp => nomatch hp) (fun z _ h3 => ?_) ⟨?_, ?_⟩)
        · simp only [List.contains_cons, List.contains_nil, Bool.or_false, Bool.or_eq_false_iff, beq_eq_false_iff_ne, ne_eq] at h3
          simp [h3]
        · rw [fperm, fpick_miss hI2]
          first
            | (rw [if_pos (by assumption)]; exact StrsAre.append' hI (.cons _ _ .nil))
            | (rw [if_neg (by assumption)]; exact StrsAre.append' hI (.cons _ _ .nil))
        · exact hi2)
  · intro c u h tk hI Fk Nk
    obtain ⟨vs, nn⟩ := c
    obtain ⟨hI, hi⟩ := hI
    clear F' N' hp hi
    dsimp only [kstB] at Fk Nk hI
    have hj3 : ((fperm x 10).map (·.length)).sum + (fperm x 10).length * (Str.ofString "").length ≤ 16777216 := fperm_sum x
    refine wp_same ?_
    k_steps
    all_goals ((try (k_unfold; try dsimp only)); refine pure_end (by k_asm) ?_)
    exact ⟨_, rfl⟩
end
section
noncomputable def partS (x : Int) : Str :=
  if x.fmod 7 < 3 then [Str.ofString "..", Str.ofString ".//.", Str.ofString ""].getD (x.fmod 7).toNat Str.empty
  else if x.fmod 7 = 6 then Str.ofString "/" ++ nameS 2 ((x.fdiv 7).fmod 4096)
  else nameS (x.fmod 7 - 3) ((x.fdiv 7).fmod 4096)
theorem c_part (w : World) (x : Int) (t : Tok) : Con w 280 [.int x t] 4 (fun _ => 0 ≤ x ∧ x < 1000000) (fun g h v => ∃ t, v = .str (partS x) t) := by
  unfold Con
  k_fill
  intro zmean zmg zmb zdp zun zgd zcn zcs za zccd zcl zouter zA₀ zbase zh₀ zL zm zs zB zF zX zT zhk zhd zhu zhp
  k_dflt (refine' code_pure ?k1 ?k2 ?k3 ?k5 ?kA ?kF ?kK ?k6 ?k7 ?k8 ?k9 ?kB ?_ ?c2 ?c3 ?c4 ?c5; (case kA => exact rfl); (case kF => exact rfl); (case kK => assumption); (case k1 => k_asm); (case k2 => k_asm); (case k3 => k_asm); (case k5 => k_asm); (case k6 => k_is); (case k7 => k_is); (case k8 => first | exact room1 zhd | ktr_room); (case k9 => first | exact BindsTo.of_eq rfl | exact binds_K (by k_in) rfl (by k_is) rfl rfl rfl); (case c5 => decide); (case kB => exact locs rfl); (case c2 => exact rfl); (case c3 => exact rfl); (case c4 => exact rfl); k_whole)
  clear zF zX zT zB
  intro zL' zh' zF' zN' zB' zX' zT'
  (try dsimp only)
  k_fold
  rename _ ∧ _ => hp
  obtain ⟨hp1, hp2⟩ := id hp
  have h7a : 0 ≤ x.fmod 7 := Int.fmod_nonneg_of_pos _ (by decide)
  have h7b : x.fmod 7 < 7 := Int.fmod_lt_of_pos _ (by decide)
  have hma : 0 ≤ (x.fdiv 7).fmod 4096 := Int.fmod_nonneg_of_pos _ (by decide)
  have hmb : (x.fdiv 7).fmod 4096 < 4096 := Int.fmod_lt_of_pos _ (by decide)
  have hsl : (Str.ofString "/").length = 1 := by decide
  have hnl := nameS_len 2 ((x.fdiv 7).fmod 4096)
  refine wp_same ?_
  k_steps
  all_goals ((try (k_unfold; try dsimp only)); refine pure_end (by k_asm) ?_)
  all_goals (
    refine ⟨_, congrArg (fun q => Value.str q _) ?_⟩
    unfold partS
    first
      | (rw [if_pos (by assumption)]; assumption)
      | rw [if_neg (by assumption), if_pos (by assumption)]
      | rw [if_neg (by assumption), if_neg (by assumption)])
end
section
abbrev cl (x : Str) : List Nat := x.cps.toList
theorem cl_ext {a b : Str} (h : cl a = cl b) : a = b := Str.ext' (Array.toList_inj.mp h)
theorem cl_app (a b : Str) : cl (a ++ b) = cl a ++ cl b := by show (a.cps ++ b.cps).toList = _; simp
theorem cl_len (x : Str) : (cl x).length = x.length := by simp [Str.length]
theorem cl_mk (l : List Nat) : cl ⟨l.toArray⟩ = l := rfl
theorem slash_eq : Str.ofString "/" = ⟨#[47]⟩ := by decide
theorem dot_eq : Str.ofString "." = ⟨#[46]⟩ := by decide
theorem sl_to {x : Str} {n : Nat} (h : n ≤ x.length) : cl (Txt.slice x none (some (n : Int))) = (cl x).take n := by
  have h1 := eq_of_beq (slice_closes_to (x := x) (j := (n : Int)) ⟨by omega, by rw [show x.cps.toList.length = x.length from cl_len x]; omega⟩)
  rw [h1]
  show List.take _ (List.drop _ _) = _
  simp
theorem sl_from {x : Str} {n : Nat} (h : n ≤ x.length) : cl (Txt.slice x (some (n : Int)) none) = (cl x).drop n := by
  rw [slice_from_eq (b := (x.length : Int)) (by omega) (by omega) rfl]
  show List.take _ (List.drop _ _) = _
  have e : ((x.length : Int) - (n : Int)).toNat = (x.cps.toList.drop n).length := by rw [List.length_drop, show x.cps.toList.length = x.length from cl_len x]; omega
  rw [e, show ((n : Int)).toNat = n from rfl, List.take_length]
theorem sl_mid {x : Str} {a b : Nat} (hab : a ≤ b) (h : b ≤ x.length) : cl (Txt.slice x (some (a : Int)) (some (b : Int))) = ((cl x).drop a).take (b - a) := by
  have h1 := eq_of_beq (slice_closes (x := x) (i := (a : Int)) (j := (b : Int)) ⟨by omega, by omega, by rw [show x.cps.toList.length = x.length from cl_len x]; omega⟩)
  rw [h1]
  show List.take _ (List.drop _ _) = _
  rw [show ((b : Int) - (a : Int)).toNat = b - a by omega, show ((a : Int)).toNat = a from rfl]
theorem at_one {x : Str} {c i : Nat} : StrLaws.At x ⟨#[c]⟩ x.length i ↔ (cl x)[i]? = some c := by
  unfold StrLaws.At
  rw [StrLaws.subAt_eq]
  show i + 1 ≤ x.length ∧ ((List.take 1 (List.drop i (cl x))) == [c]) = true ↔ _
  rw [← cl_len]
  constructor
  · rintro ⟨h1, h2⟩
    have h3 := eq_of_beq h2
    rw [List.drop_eq_getElem_cons (show i < (cl x).length by omega), List.take_succ_cons, List.take_zero] at h3
    rw [List.getElem?_eq_getElem (show i < (cl x).length by omega)]
    exact congrArg some (List.cons.inj h3).1
  · intro h
    obtain ⟨h1, h2⟩ := List.getElem?_eq_some_iff.mp h
    refine ⟨h1, ?_⟩
    rw [List.drop_eq_getElem_cons h1, List.take_succ_cons, List.take_zero, h2]
    simp
theorem rfind_at {x : Str} {c : Nat} {l r : List Nat} (hx : cl x = l ++ c :: r) (hr : c ∉ r) : Txt.rfind x ⟨#[c]⟩ = (l.length : Int) := by
  have here : StrLaws.At x ⟨#[c]⟩ x.length l.length := at_one.mpr (by rw [hx]; simp)
  rcases rfind_whole x ⟨#[c]⟩ with ⟨_, hn⟩ | ⟨i, e, hi, hn⟩
  · exact absurd here (hn _)
  · rw [e]
    have h1 : l.length ≤ i := Nat.le_of_not_lt fun hlt => hn _ hlt here
    have h2 := at_one.mp hi
    rw [hx] at h2
    rcases Nat.lt_or_ge l.length i with h3 | h3
    · rw [List.getElem?_append_right h1] at h2
      obtain ⟨j, hj⟩ : ∃ j, i - l.length = j + 1 := ⟨i - l.length - 1, by omega⟩
      rw [hj, List.getElem?_cons_succ] at h2
      exact absurd (List.mem_of_getElem? h2) hr
    · omega
/-- the texts of the law's paths -/
noncomputable def wayN (ns : List Str) : Str := Str.ofString "/" ++ Txt.join (Str.ofString "/") ns
noncomputable def preN (ns : List Str) : List Nat := if ns = [] then [] else cl (wayN ns)
theorem join_snoc (sep y : Str) : ∀ ns : List Str, ns ≠ [] → Str.join sep (ns ++ [y]) = Str.join sep ns ++ sep ++ y
  | [], h => absurd rfl h
  | [x], _ => rfl
  | x :: z :: r, _ => by
    show x ++ sep ++ Str.join sep ((z :: r) ++ [y]) = x ++ sep ++ Str.join sep (z :: r) ++ sep ++ y
    rw [join_snoc sep y (z :: r) (by simp)]
    simp only [Str.append_assoc]
theorem cl_way_nil : cl (wayN []) = [47] := by decide
theorem cl_way_snoc (ns : List Str) (y : Str) : cl (wayN (ns ++ [y])) = preN ns ++ 47 :: cl y := by
  unfold preN
  have sl : cl (Str.ofString "/") = [47] := by decide
  split
  · rename_i h
    subst h
    unfold wayN Txt.join
    rw [StrLaws.glued_eq_join, cl_app, sl]
    rfl
  · rename_i h
    unfold wayN Txt.join
    rw [StrLaws.glued_eq_join, StrLaws.glued_eq_join, join_snoc _ _ ns h]
    simp only [cl_app, sl, List.append_assoc, List.singleton_append, List.cons_append, List.nil_append]
noncomputable def kindS (k : Int) : Str := [Str.ofString "and", Str.ofString "or", Str.ofString "xor"].getD k.toNat Str.empty
noncomputable def endS (m : Int) : Str := Str.ofString "." ++ Txt.join (Str.ofString "") (figsS m)
noncomputable def figN (m k : Int) : Nat := (48 + (m.fdiv k).fmod 8).toNat
noncomputable def figL (m : Int) : List Nat := [figN m 512, figN m 64, figN m 8, figN m 1]
theorem cl_figs (m : Int) : cl (Txt.join (Str.ofString "") (figsS m)) = figL m := by
  unfold Txt.join
  rw [StrLaws.glued_eq_join]
  rfl
theorem cl_end (m : Int) : cl (endS m) = 46 :: figL m := by
  unfold endS
  rw [cl_app, cl_figs, dot_eq]; rfl
theorem name_eq (k m : Int) : nameS k m = kindS k ++ endS m := by
  unfold nameS kindS endS
  rw [Str.append_assoc]
theorem figN_range (m k : Int) : 48 ≤ figN m k ∧ figN m k ≤ 55 := by
  have h1 : 0 ≤ (m.fdiv k).fmod 8 := Int.fmod_nonneg_of_pos _ (by decide)
  have h2 : (m.fdiv k).fmod 8 < 8 := Int.fmod_lt_of_pos _ (by decide)
  unfold figN
  omega
theorem figL_mem {m : Int} {c : Nat} (h : c ∈ figL m) : 48 ≤ c ∧ c ≤ 55 := by
  unfold figL at h
  simp only [List.mem_cons, List.not_mem_nil, or_false] at h
  rcases h with h | h | h | h <;> (rw [h]; exact figN_range _ _)
noncomputable def Deed (q : Int × Int) : Prop := 0 ≤ q.1 ∧ q.1 < 3 ∧ 0 ≤ q.2 ∧ q.2 < 4096
theorem kind_word {k : Int} (h0 : 0 ≤ k) (h3 : k < 3) : (∀ c ∈ cl (kindS k), c ≠ 47 ∧ c ≠ 46) ∧ ∃ a r, cl (kindS k) = a :: r ∧ r.length ≤ 2 ∧ 1 ≤ r.length := by
  rcases (by omega : k = 0 ∨ k = 1 ∨ k = 2) with h | h | h <;> subst h
  · exact ⟨by decide, 97, [110, 100], by decide, by decide, by decide⟩
  · exact ⟨by decide, 111, [114], by decide, by decide, by decide⟩
  · exact ⟨by decide, 120, [111, 114], by decide, by decide, by decide⟩
noncomputable def nmD (q : Int × Int) : Str := nameS q.1 q.2
noncomputable def wayD (ds : List (Int × Int)) : Str := wayN (ds.map nmD)
noncomputable def preD (ds : List (Int × Int)) : List Nat := preN (ds.map nmD)
noncomputable def stemD (ds : List (Int × Int)) (q : Int × Int) : Str := ⟨(preD ds ++ 47 :: cl (kindS q.1)).toArray⟩
theorem cl_wayD (ds : List (Int × Int)) (q : Int × Int) : cl (wayD (ds ++ [q])) = preD ds ++ 47 :: (cl (kindS q.1) ++ 46 :: figL q.2) := by
  unfold wayD preD
  rw [List.map_append, List.map_singleton, cl_way_snoc]
  unfold nmD
  rw [name_eq, cl_app, cl_end]
theorem snoc_rec {α : Type} {P : List α → Prop} (l : List α) (nil : P []) (snoc : ∀ l a, P l → P (l ++ [a])) : P l := by
  have h : ∀ r : List α, P r.reverse := fun r => by
    induction r with
    | nil => exact nil
    | cons a r ih => rw [List.reverse_cons]; exact snoc _ _ ih
  have := h l.reverse
  rwa [List.reverse_reverse] at this
theorem preD_len (ds : List (Int × Int)) : (∀ q ∈ ds, Deed q) → (preD ds).length ≤ 9 * ds.length := by
  refine snoc_rec (P := fun ds => (∀ q ∈ ds, Deed q) → (preD ds).length ≤ 9 * ds.length) ds (fun _ => by simp [preD, preN]) fun ds q ih h => ?_
  have h1 := ih fun p hp => h p (List.mem_append_left _ hp)
  obtain ⟨_, a, r, e, hr, _⟩ := kind_word (h q (by simp)).1 (h q (by simp)).2.1
  have h2 : preD (ds ++ [q]) = cl (wayD (ds ++ [q])) := by unfold preD preN wayD; rw [if_neg (by simp)]
  rw [h2, cl_wayD, e]
  simp only [List.length_append, List.length_cons, figL, List.length_nil]
  omega
theorem preD_nil_or (ds : List (Int × Int)) : (ds = [] ∧ preD ds = []) ∨ ∃ ds' q, ds = ds' ++ [q] ∧ preD ds = cl (wayD ds) := by
  rcases List.eq_nil_or_concat ds with h | ⟨ds', q, h⟩
  · exact .inl ⟨h, by rw [h]; rfl⟩
  · refine .inr ⟨ds', q, by simpa using h, ?_⟩
    unfold preD preN wayD
    rw [if_neg (by rw [h]; simp)]
theorem word_end_no (q : Int × Int) (hq : Deed q) : 47 ∉ cl (kindS q.1) ++ 46 :: figL q.2 := by
  intro hm
  rcases List.mem_append.mp hm with hm | hm
  · exact ((kind_word hq.1 hq.2.1).1 _ hm).1 rfl
  · rcases List.mem_cons.mp hm with hm | hm
    · exact absurd hm (by decide)
    · have := figL_mem hm; omega
theorem way_slash (ds : List (Int × Int)) (q : Int × Int) (hq : Deed q) : Txt.rfind (wayD (ds ++ [q])) (Str.ofString "/") = ((preD ds).length : Int) := by
  rw [slash_eq]
  exact rfind_at (cl_wayD ds q) (word_end_no q hq)
theorem way_dot (ds : List (Int × Int)) (q : Int × Int) (hq : Deed q) : Txt.rfind (wayD (ds ++ [q])) (Str.ofString ".") = (((preD ds).length + 1 + (cl (kindS q.1)).length : Nat) : Int) := by
  rw [dot_eq]
  have h := rfind_at (x := wayD (ds ++ [q])) (c := 46) (l := preD ds ++ 47 :: cl (kindS q.1)) (r := figL q.2) (by rw [cl_wayD]; simp) (fun hm => by have := figL_mem hm; omega)
  rw [h]
  simp only [List.length_append, List.length_cons]
  omega
theorem way_len (ds : List (Int × Int)) (q : Int × Int) : (wayD (ds ++ [q])).length = (preD ds).length + 1 + (cl (kindS q.1)).length + 5 := by
  rw [← cl_len, cl_wayD]
  simp only [List.length_append, List.length_cons, figL, List.length_nil]
  omega
theorem way_root (ds : List (Int × Int)) (q : Int × Int) : Txt.slice (wayD (ds ++ [q])) none (some (((preD ds).length + 1 + (cl (kindS q.1)).length : Nat) : Int)) = stemD ds q := by
  apply cl_ext
  rw [sl_to (by rw [way_len]; omega), cl_wayD]
  show _ = preD ds ++ 47 :: cl (kindS q.1)
  rw [show preD ds ++ 47 :: (cl (kindS q.1) ++ 46 :: figL q.2) = (preD ds ++ 47 :: cl (kindS q.1)) ++ 46 :: figL q.2 by simp]
  exact List.take_left' (by simp only [List.length_append, List.length_cons]; omega)
theorem way_ext (ds : List (Int × Int)) (q : Int × Int) : Txt.slice (wayD (ds ++ [q])) (some (((preD ds).length + 1 + (cl (kindS q.1)).length : Nat) : Int)) none = endS q.2 := by
  apply cl_ext
  rw [sl_from (by rw [way_len]; omega), cl_wayD, cl_end]
  rw [show preD ds ++ 47 :: (cl (kindS q.1) ++ 46 :: figL q.2) = (preD ds ++ 47 :: cl (kindS q.1)) ++ 46 :: figL q.2 by simp]
  exact List.drop_left' (by simp only [List.length_append, List.length_cons]; omega)
theorem way_first (ds : List (Int × Int)) (q : Int × Int) (hq : Deed q) : Txt.slice (wayD (ds ++ [q])) (some (((preD ds).length : Int) + 1)) (some (((preD ds).length : Int) + 1 + 1)) ≠ Str.ofString "." := by
  intro h
  have h1 := congrArg cl h
  obtain ⟨hw, a, r, e, _, _⟩ := kind_word hq.1 hq.2.1
  rw [show ((preD ds).length : Int) + 1 = (((preD ds).length + 1 : Nat) : Int) by omega, show ((((preD ds).length + 1 : Nat) : Int)) + 1 = (((preD ds).length + 2 : Nat) : Int) by omega, sl_mid (by omega) (by rw [way_len, e]; simp only [List.length_cons]; omega), cl_wayD, e] at h1
  rw [show preD ds ++ 47 :: (a :: r ++ 46 :: figL q.2) = (preD ds ++ [47]) ++ (a :: (r ++ 46 :: figL q.2)) by simp, List.drop_left' (by simp), show (preD ds).length + 2 - ((preD ds).length + 1) = 1 by omega, dot_eq] at h1
  have h2 : [a] = [46] := h1
  exact (hw a (by rw [e]; exact .head _)).2 (List.cons.inj h2).1
theorem stem_slash (ds : List (Int × Int)) (q : Int × Int) (hq : Deed q) : Txt.rfind (stemD ds q) (Str.ofString "/") = ((preD ds).length : Int) := by
  rw [slash_eq]
  exact rfind_at (x := stemD ds q) (cl_mk _) fun hm => ((kind_word hq.1 hq.2.1).1 _ hm).1 rfl
theorem stem_len (ds : List (Int × Int)) (q : Int × Int) : (stemD ds q).length = (preD ds).length + 1 + (cl (kindS q.1)).length := by
  rw [← cl_len]
  show (preD ds ++ 47 :: cl (kindS q.1)).length = _
  simp only [List.length_append, List.length_cons]
  omega
theorem mul_all : ∀ (k : Nat) (acc : Array Nat), (∀ c ∈ acc.toList, c = 47) → ∀ c ∈ ((List.replicate k #[47]).foldl (· ++ ·) acc).toList, c = 47
  | 0, _, h => h
  | k + 1, acc, h => by
    rw [List.replicate_succ, List.foldl_cons]
    exact mul_all k _ fun c hc => by
      rw [Array.toList_append] at hc
      rcases List.mem_append.mp hc with hc | hc
      · exact h c hc
      · simpa using hc
theorem mul_slash (n : Int) : ∀ c ∈ cl (Txt.mul (Str.ofString "/") n), c = 47 := by
  rw [slash_eq]
  unfold Txt.mul
  split
  · intro c hc; cases hc
  · split
    · intro c hc; simpa using hc
    · exact mul_all _ #[] (fun c hc => by cases hc)
end
section
local macro_rules | `(tactic| walk_at "no such key") => `(tactic| skip)
noncomputable def splitHead (x : Str) : Str :=
  if ((Txt.slice x none (some (Txt.rfind x (Str.ofString "/") + 1))).length : Int) = 0 then Txt.slice x none (some (Txt.rfind x (Str.ofString "/") + 1))
  else if (Txt.slice x none (some (Txt.rfind x (Str.ofString "/") + 1)) != Txt.mul (Str.ofString "/") (Txt.slice x none (some (Txt.rfind x (Str.ofString "/") + 1))).length) = true then Txt.rstripChars (Txt.slice x none (some (Txt.rfind x (Str.ofString "/") + 1))) (Str.ofString "/")
  else Txt.slice x none (some (Txt.rfind x (Str.ofString "/") + 1))
noncomputable def splitTail (x : Str) : Str := Txt.slice x (some (Txt.rfind x (Str.ofString "/") + 1)) none
theorem c_split (w : World) (x : Str) (t : Tok) : Con w 143 [.str x t] 2 (fun _ => x.length ≤ 2000) (Tup2 (splitHead x) (splitTail x)) := by
  unfold Con
  k_fill
  intro zmean zmg zmb zdp zun zgd zcn zcs za zccd zcl zouter zA₀ zbase zh₀ zL zm zs zB zF zX zT zhk zhd zhu zhp
  k_dflt (refine' code_pure ?k1 ?k2 ?k3 ?k5 ?kA ?kF ?kK ?k6 ?k7 ?k8 ?k9 ?kB ?_ ?c2 ?c3 ?c4 ?c5; (case kA => exact rfl); (case kF => exact rfl); (case kK => assumption); (case k1 => k_asm); (case k2 => k_asm); (case k3 => k_asm); (case k5 => k_asm); (case k6 => k_is); (case k7 => k_is); (case k8 => first | exact room1 zhd | ktr_room); (case k9 => first | exact BindsTo.of_eq rfl | exact binds_K (by k_in) rfl (by k_is) rfl rfl rfl); (case c5 => decide); (case kB => exact locs rfl); (case c2 => exact rfl); (case c3 => exact rfl); (case c4 => exact rfl); k_whole)
  clear zF zX zT zB
  intro zL' zh' zF' zN' zB' zX' zT'
  (try dsimp only)
  k_fold
  k_steps
  all_goals ((try (k_unfold; try dsimp only)); refine pure_end (by k_asm) ?_)
  all_goals (
    (rename News _ _ _ _ => N9)
    unfold splitHead splitTail
    first
      | (rw [if_neg (by assumption), if_pos (by assumption)]; exact tup2_end N9)
      | (rw [if_neg (by assumption), if_neg (ne_true_of_eq_false (by assumption))]; exact tup2_end N9)
      | (rw [if_pos (by assumption)]; exact tup2_end N9))
end
section
theorem c_splitroot (w : World) (x : Str) (t : Tok) : Con w 160 [.str x t] 2 (fun _ => x.length ≤ 2000 ∧ Txt.slice x none (some 1) = Str.ofString "/" ∧ Txt.slice x (some 1) (some 2) ≠ Str.ofString "/") (Tup3 (Str.ofString "") (Str.ofString "/") (Txt.slice x (some 1) none)) := by
  unfold Con
  k_fill
  intro zmean zmg zmb zdp zun zgd zcn zcs za zccd zcl zouter zA₀ zbase zh₀ zL zm zs zB zF zX zT zhk zhd zhu zhp
  k_dflt (refine' code_pure ?k1 ?k2 ?k3 ?k5 ?kA ?kF ?kK ?k6 ?k7 ?k8 ?k9 ?kB ?_ ?c2 ?c3 ?c4 ?c5; (case kA => exact rfl); (case kF => exact rfl); (case kK => assumption); (case k1 => k_asm); (case k2 => k_asm); (case k3 => k_asm); (case k5 => k_asm); (case k6 => k_is); (case k7 => k_is); (case k8 => first | exact room1 zhd | ktr_room); (case k9 => first | exact BindsTo.of_eq rfl | exact binds_K (by k_in) rfl (by k_is) rfl rfl rfl); (case c5 => decide); (case kB => exact locs rfl); (case c2 => exact rfl); (case c3 => exact rfl); (case c4 => exact rfl); k_whole)
  clear zF zX zT zB
  intro zL' zh' zF' zN' zB' zX' zT'
  (try dsimp only)
  k_fold
  rename _ ∧ _ => hp
  obtain ⟨hp1, hp2, hp3⟩ := id hp
  k_steps
  all_goals ((try (k_unfold; try dsimp only)); refine pure_end (by k_asm) ?_)
  all_goals first
    | (exfalso; simp_all; done)
    | exact ⟨_, _, _, _, rfl, fresh_of (by k_asm) (fun p hp => hp)⟩
end
section
local macro_rules | `(tactic| walk_at "no such key") => `(tactic| skip)
theorem c_normpath (w : World) (x : Str) (t : Tok) (cs : List Str) (hcs0 : Txt.split (Txt.slice x (some 1) none) (Str.ofString "/") = cs) (hcl : cs.length ≤ 300) : Con w 167 [.str x t] 4 (fun _ => x.length ≤ 2000 ∧ Txt.slice x none (some 1) = Str.ofString "/" ∧ Txt.slice x (some 1) (some 2) ≠ Str.ofString "/") (fun g h v => ∃ t, v = .str (Str.ofString "/" ++ Txt.join (Str.ofString "/") (stk cs)) t) := by
  unfold Con
  k_fill
  intro zmean zmg zmb zdp zun zgd zcn zcs za zccd zcl zouter zA₀ zbase zh₀ zL zm zs zB zF zX zT zhk zhd zhu zhp
  k_dflt (refine' code_pure ?k1 ?k2 ?k3 ?k5 ?kA ?kF ?kK ?k6 ?k7 ?k8 ?k9 ?kB ?_ ?c2 ?c3 ?c4 ?c5; (case kA => exact rfl); (case kF => exact rfl); (case kK => assumption); (case k1 => k_asm); (case k2 => k_asm); (case k3 => k_asm); (case k5 => k_asm); (case k6 => k_is); (case k7 => k_is); (case k8 => first | exact room1 zhd | ktr_room); (case k9 => first | exact BindsTo.of_eq rfl | exact binds_K (by k_in) rfl (by k_is) rfl rfl rfl); (case c5 => decide); (case kB => exact locs rfl); (case c2 => exact rfl); (case c3 => exact rfl); (case c4 => exact rfl); k_whole)
  clear zF zX zT zB
  intro zL' zh' zF' zN' zB' zX' zT'
  (try dsimp only)
  k_fold
  rename _ ∧ _ => hp
  obtain ⟨hp1, hp2, hp3⟩ := id hp
  k_steps
  · show wpAny _ _ _ _ _ _
    (rename News _ _ _ _ => N'); (rename Fr _ _ _ _ => F')
    obtain ⟨d, hd⟩ := headAddr N'; subst hd
    rename List.map _ _ = Txt.split _ _ => hcs
    rename (_ : Nat) < d ∧ _ => hlt
    have kMark : KstMark := kstMark
    rename ∀ a ∈ List.map _ _, _ => hll
    rename Heap.IsList _ _ _ => hil
    rename StrsAre _ _ => hsa
    rw [hcs0] at hcs
    rename List (Str × Tok) => l9
    have hvl : (strValues l9).length = cs.length := by rw [← hcs]; simp [strValues]
    have hyl' : ∀ (i : Nat) (y : Str), cs[i]? = some y → y.length ≤ 2000 := fun i y hy => Nat.le_trans (hll y (List.mem_of_getElem? (hcs ▸ hy))) (Nat.le_trans (Txt.slice_le _ _ _) hp1)
    k_dflt refine iter_one (σ := List Value × Nat) (fun c => W.listOf c.1.toArray c.2) (fun _ => []) [Str.ofString "comp"] (fun i c => StrsAre c.1 (stk (cs.take i)) ∧ i ≤ 2000) ([], 0) rfl F' N' rfl rfl ?_ rfl (fun p hp => nomatch hp) ?_ ?_ ?_
    · exact Nat.ne_of_gt hlt.1
    · exact ⟨.nil, Nat.zero_le _⟩
    · intro c i v u h tk own hv hoff hI Fk Nk
      refine wp_same ?_
      k_fold
      obtain ⟨y, ty, rfl, hy⟩ := strValues_get hv
      rw [hcs] at hy
      clear F' N' hv hll hil hsa hcs hp hp1 hp2 hp3 hcs0 hvl
      obtain ⟨vs, nn⟩ := c
      obtain ⟨hI, hi⟩ := hI
      have hyl := hyl' i y hy
      clear hyl'
      dsimp only [kstB] at Fk Nk hI
      refine wp_same ?_
      rcases strsAre_snoc hI with ⟨rfl, e0⟩ | ⟨us, zs, z, tz, rfl, e0, hus⟩
      · k_steps
        all_goals (
          have hlt2 := lt_of_get? hy
          (rename News _ _ _ _ => N9); (try simp only [List.push_toArray, List.nil_append] at N9)
          refine of_stop (st1_end (⟨_, _⟩ : List Value × Nat) (by k_asm) N9 (fun p hp => by rw [List.mem_singleton.mp hp]; exact List.Mem.head _) (fun p hp => .tail _ hp) rfl (fun p hp => nomatch hp) (fun z _ h3 => ?_) ⟨?_, by omega⟩)
          · have h4 : z ≠ Str.ofString "comp" := by simpa using h3
            simp [h3, h4]
          · rw [stk_take hy, e0]
            first
              | (rw [stepS_dot (by assumption)]; exact .nil)
              | (rw [stepS_nil (by assumption)]; exact .nil)
              | (rw [stepS_push (by assumption) (by assumption) (by assumption)]; exact .cons _ _ .nil)
              | (rw [stepS_pop (by assumption) (by assumption) (by assumption)]; exact .nil))
      · have hul : us.length + 1 ≤ 300 := by
          have h1 := hus.length
          have h2 := stk_len (cs.take i)
          rw [e0, List.length_append, List.length_take] at h2
          simp only [List.length_cons, List.length_nil] at h2
          omega
        have hz : (z == Str.ofString "..") = false := by
          have := stk_ne (cs.take i) z (by rw [e0]; simp)
          simpa using this
        refine wp_same ?_
        k_steps
        all_goals (
          have hlt2 := lt_of_get? hy
          (rename News _ _ _ _ => N9); (try simp only [List.push_toArray, List.nil_append] at N9)
          first
            | (exfalso; simp_all; done)
            | (refine of_stop (st1_end (⟨_, _⟩ : List Value × Nat) (by k_asm) N9 (fun p hp => by rw [List.mem_singleton.mp hp]; exact List.Mem.head _) (fun p hp => .tail _ hp) rfl (fun p hp => nomatch hp) (fun z _ h3 => ?_) ⟨?_, by omega⟩)
               · have h4 : z ≠ Str.ofString "comp" := by simpa using h3
                 simp [h3, h4]
               · rw [stk_take hy, e0]
                 first
                   | (rw [stepS_dot (by assumption)]; exact e0 ▸ hI)
                   | (rw [stepS_nil (by assumption)]; exact e0 ▸ hI)
                   | (rw [stepS_push (by assumption) (by assumption) (by assumption)]; exact StrsAre.append' (e0 ▸ hI) (.cons _ _ .nil))
                   | (rw [stepS_pop (by assumption) (by assumption) (by assumption), List.dropLast_concat]; exact hus)))
    · intro c u h tk hI Fk Nk
      obtain ⟨vs, nn⟩ := c
      obtain ⟨hI, hi⟩ := hI
      rw [hvl, List.take_length] at hI
      have hyl2 : ∀ y ∈ stk cs, y.length ≤ 2000 := fun y hy => by
        obtain ⟨i, hi⟩ := List.getElem?_of_mem (stk_mem hy)
        exact hyl' i y hi
      clear F' N' hll hil hsa hcs hp hp1 hp2 hp3 hcs0 hvl hyl'
      dsimp only [kstB] at Fk Nk hI
      have hj1 := StrLaws.sumLen_le (stk cs) hyl2
      have hj2 := stk_len cs
      have hj3 : ((stk cs).map (·.length)).sum + (stk cs).length * (Str.ofString "/").length ≤ 16777216 := by
        rw [show (Str.ofString "/").length = 1 from by decide]; omega
      have hj4 := join_len (Str.ofString "/") (stk cs)
      have hj5 : (Txt.join (Str.ofString "/") (stk cs)).length ≤ 1000000 := by
        rw [show (Str.ofString "/").length = 1 from by decide] at hj4; omega
      refine wp_same ?_
      k_steps
      all_goals ((try (k_unfold; try dsimp only)); refine pure_end (by k_asm) ?_)
      exact ⟨_, rfl⟩
  · exfalso
    rename ((_ : Nat) : Int) = 0 => h0
    have h1 := Txt.slice_le x none (some 1)
    rw [hp2, show (Str.ofString "/").length = 1 from by decide] at h1
    omega
end
section
local macro_rules | `(tactic| walk_at "no such key") => `(tactic| skip)
noncomputable def deedAt (k : Int) : Addr := if k = 0 then 179 else if k = 1 then 186 else 193
noncomputable def deedTab : List (Str × Value) := [(Str.ofString "and", .ref 179), (Str.ofString "or", .ref 186), (Str.ofString "xor", .ref 193)]
theorem deedTab_at {k : Int} (h0 : 0 ≤ k) (h1 : k < 3) : valueAt deedTab (kindS k) = some (.ref (deedAt k)) := by
  rcases (by omega : k = 0 ∨ k = 1 ∨ k = 2) with h | h | h <;> subst h <;> decide
local macro_rules | `(tactic| walk_at "subscriptTail Name Name ref str") => stopT
theorem c_getitem (w : World) (d : Addr) (k : Int) (t : Tok) : Con w 200 [.ref d, .str (kindS k) t] 1 (fun h => h.DictOf (PySem.strKind PySem.Challenge.rw_ik0166_01.row.prog w) d deedTab ∧ 0 ≤ k ∧ k < 3) (fun g h v => v = .ref (deedAt k)) := by
  unfold Con
  k_fill
  intro zmean zmg zmb zdp zun zgd zcn zcs za zccd zcl zouter zA₀ zbase zh₀ zL zm zs zB zF zX zT zhk zhd zhu zhp
  k_dflt (refine' code_pure ?k1 ?k2 ?k3 ?k5 ?kA ?kF ?kK ?k6 ?k7 ?k8 ?k9 ?kB ?_ ?c2 ?c3 ?c4 ?c5; (case kA => exact rfl); (case kF => exact rfl); (case kK => assumption); (case k1 => k_asm); (case k2 => k_asm); (case k3 => k_asm); (case k5 => k_asm); (case k6 => k_is); (case k7 => k_is); (case k8 => first | exact room1 zhd | ktr_room); (case k9 => first | exact BindsTo.of_eq rfl | exact binds_K (by k_in) rfl (by k_is) rfl rfl rfl); (case c5 => decide); (case kB => exact locs rfl); (case c2 => exact rfl); (case c3 => exact rfl); (case c4 => exact rfl); k_whole)
  clear zF zX zT zB
  intro zL' zh' zF' zN' zB' zX' zT'
  (try dsimp only)
  k_fold
  rename _ ∧ _ => hp
  obtain ⟨hp1, hp2, hp3⟩ := id hp
  k_steps
  show wpAny _ _ _ _ _ _
  (rename Fr _ _ _ _ => F')
  obtain ⟨o, ho, hd⟩ := Heap.dictOf_iff.mp hp1
  have hd2 := Heap.dictOf_iff.mpr ⟨o, F'.keep _ _ ho, hd⟩
  refine subscriptTail_builtin hd2.typeIs slot_dict_getitem.lookup (wpAny_getItem_of (v := .ref (deedAt k)) (strKind_is _ _ _ _) hd2.mapOf (deedTab_at hp2 hp3) ?_) (by with_unfolding_all rfl) (by intro _; with_unfolding_all rfl)
  k_steps
  all_goals ((try (k_unfold; try dsimp only)); refine pure_end (by k_asm) ?_)
  rfl
theorem c_deed (w : World) (k x y : Int) (t u : Tok) : Con w (deedAt k) [.int x t, .int y u] 1 (fun _ => 0 ≤ x ∧ x < 4294967296 ∧ 0 ≤ y ∧ y < 4294967296) (fun g h v => ∃ t, v = .int (opS k x y) t) := by
  unfold deedAt opS
  by_cases h0 : k = 0
  · rw [if_pos h0, if_pos h0]; exact c_and w x y t u
  · rw [if_neg h0, if_neg h0]
    by_cases h1 : k = 1
    · rw [if_pos h1, if_pos h1]; exact c_or w x y t u
    · rw [if_neg h1, if_neg h1]; exact c_xor w x y t u
theorem deed_keep (P : Params) (k : Int) : keepIn (K P) (.ref (deedAt k)) = true := by
  unfold deedAt
  split
  · rfl
  · split <;> rfl
end
section
theorem head_of (ds : List (Int × Int)) (q : Int × Int) (hd : ∀ p ∈ ds, Deed p) (hq : Deed q) : splitHead (stemD ds q) = wayD ds := by
  have e1 : Txt.rfind (stemD ds q) (Str.ofString "/") + 1 = (((preD ds).length + 1 : Nat) : Int) := by rw [stem_slash ds q hq]; omega
  have eH : cl (Txt.slice (stemD ds q) none (some (((preD ds).length + 1 : Nat) : Int))) = preD ds ++ [47] := by
    rw [sl_to (by rw [stem_len]; omega)]
    show List.take _ (preD ds ++ 47 :: cl (kindS q.1)) = _
    rw [show preD ds ++ 47 :: cl (kindS q.1) = (preD ds ++ [47]) ++ cl (kindS q.1) by simp]
    exact List.take_left' (by simp)
  unfold splitHead
  rw [e1]
  generalize Txt.slice (stemD ds q) none (some (((preD ds).length + 1 : Nat) : Int)) = H at eH
  have hl : H.length = (preD ds).length + 1 := by rw [← cl_len, eH]; simp
  rw [if_neg (by rw [hl]; omega)]
  rcases preD_nil_or ds with ⟨h0, h1⟩ | ⟨ds', q', h0, h1⟩
  · have eH' : H = Str.ofString "/" := cl_ext (by rw [eH, h1]; decide)
    subst eH'
    rw [if_neg (by decide), h0]
    decide
  · have hP : preD ds = preD ds' ++ 47 :: (cl (kindS q'.1) ++ 46 :: figL q'.2) := by rw [h1, h0, cl_wayD]
    have hne : (H != Txt.mul (Str.ofString "/") H.length) = true := by
      rw [bne_iff_ne]
      intro e
      have h2 : (46 : Nat) ∈ cl H := by rw [eH, hP]; simp
      rw [e] at h2
      exact absurd (mul_slash _ _ h2) (by decide)
    rw [if_pos hne]
    apply cl_ext
    unfold Txt.rstripChars
    rw [PyProof.Rows.stripBy_eq]
    show cl (Builtin.Str.strSub H 0 (stripHi _ true H 0)) = _
    unfold stripHi
    rw [if_pos rfl]
    show cl (Builtin.Str.strSub H 0 (H.length - ((List.drop 0 (cl H)).reverse.takeWhile _).length)) = _
    rw [show cl (Builtin.Str.strSub H 0 (H.length - ((List.drop 0 (cl H)).reverse.takeWhile (Str.ofString "/").cps.contains).length)) = ((cl H).drop 0).take _ from StrLaws.strSub_toList _ _ _, List.drop_zero, eH, List.reverse_append, List.reverse_singleton, List.singleton_append]
    have hf := figN_range q'.2 1
    have hrev : (preD ds).reverse = figN q'.2 1 :: ((preD ds' ++ 47 :: (cl (kindS q'.1) ++ 46 :: [figN q'.2 512, figN q'.2 64, figN q'.2 8])).reverse) := by
      rw [hP]
      simp [figL]
    have ht : List.takeWhile (Str.ofString "/").cps.contains (47 :: (preD ds).reverse) = [47] := by
      have c1 : (Str.ofString "/").cps.contains 47 = true := by rw [slash_eq]; simp
      have c2 : (Str.ofString "/").cps.contains (figN q'.2 1) = false := by
        rw [slash_eq]
        simp
        omega
      rw [hrev, List.takeWhile_cons_of_pos c1, List.takeWhile_cons_of_neg (by rw [c2]; simp)]
    rw [ht, hl]
    simp only [List.length_singleton, Nat.add_sub_cancel, Nat.sub_zero]
    rw [List.take_left' rfl, h1]
theorem tail_of (ds : List (Int × Int)) (q : Int × Int) (hq : Deed q) : splitTail (stemD ds q) = kindS q.1 := by
  have e1 : Txt.rfind (stemD ds q) (Str.ofString "/") + 1 = (((preD ds).length + 1 : Nat) : Int) := by rw [stem_slash ds q hq]; omega
  unfold splitTail
  rw [e1]
  apply cl_ext
  rw [sl_from (by rw [stem_len]; omega)]
  show List.drop _ (preD ds ++ 47 :: cl (kindS q.1)) = _
  rw [show preD ds ++ 47 :: cl (kindS q.1) = (preD ds ++ [47]) ++ cl (kindS q.1) by simp]
  exact List.drop_left' (by simp)
theorem con_pre {w : World} {f : Addr} {args : List Value} {D : Nat} {Pre Pre' : Heap → Prop} {Post : Heap → Heap → Value → Prop} (C : Con w f args D Pre Post) (h : ∀ g, Pre' g → Pre g) : Con w f args D Pre' Post :=
  fun mean mg mb dp un gd cn cs a ccd cl outer A₀ base h₀ L m s B F X T hk hd hu hp => C mean mg mb dp un gd cn cs a ccd cl outer A₀ base h₀ L m s B F X T hk hd hu (h _ hp)
theorem kind_len {k : Int} (h0 : 0 ≤ k) (h3 : k < 3) : (cl (kindS k)).length ≤ 3 := by
  obtain ⟨_, a, r, e, h, _⟩ := kind_word h0 h3
  rw [e, List.length_cons]; omega
theorem c_splitext_d (w : World) (ds : List (Int × Int)) (q : Int × Int) (t : Tok) : Con w 150 [.str (wayD (ds ++ [q])) t] 2 (fun _ => ds.length ≤ 20 ∧ ∀ p ∈ ds ++ [q], Deed p) (Tup2 (stemD ds q) (endS q.2)) := by
  by_cases hq : Deed q
  · have h1 := way_slash ds q hq
    have h2 := way_dot ds q hq
    obtain ⟨_, a, r, e, _, hr⟩ := kind_word hq.1 hq.2.1
    have C := c_splitext w (wayD (ds ++ [q])) t _ _ h1 h2 ⟨by omega, by rw [e, List.length_cons]; omega⟩ (way_first ds q hq)
    rw [way_root, way_ext] at C
    refine con_pre C fun g hg => ?_
    have h3 := preD_len ds fun p hp => hg.2 p (List.mem_append_left _ hp)
    have h4 := kind_len hq.1 hq.2.1
    rw [way_len]
    omega
  · exact con_pre (Pre := fun _ => False) (fun mean mg mb dp un gd cn cs a ccd cl outer A₀ base h₀ L m s B F X T hk hd hu hp => hp.elim) fun g hg => hq (hg.2 q (by simp))
theorem c_split_d (w : World) (ds : List (Int × Int)) (q : Int × Int) (t : Tok) : Con w 143 [.str (stemD ds q) t] 2 (fun _ => ds.length ≤ 20 ∧ ∀ p ∈ ds ++ [q], Deed p) (Tup2 (wayD ds) (kindS q.1)) := by
  by_cases hq : ∀ p ∈ ds ++ [q], Deed p
  · have C := c_split w (stemD ds q) t
    have hq1 := hq q (by simp)
    rw [head_of ds q (fun p hp => hq p (List.mem_append_left _ hp)) hq1, tail_of ds q hq1] at C
    refine con_pre C fun g hg => ?_
    have h3 := preD_len ds fun p hp => hg.2 p (List.mem_append_left _ hp)
    have h4 := kind_len hq1.1 hq1.2.1
    rw [stem_len]
    omega
  · exact con_pre (Pre := fun _ => False) (fun mean mg mb dp un gd cn cs a ccd cl outer A₀ base h₀ L m s B F X T hk hd hu hp => hp.elim) fun g hg => hq hg.2
end
section
noncomputable def Ents (es : List (Addr × Obj)) (qs : List (Int × Int)) : Prop := es.length = qs.length ∧ ∀ (i : Nat) p, es[i]? = some p → ∃ q t u, qs[i]? = some q ∧ p.2 = ({ cls := .type "tuple", data := .seq #[.str (kindS q.1) t, .str (endS q.2) u] } : Obj)
theorem Ents.nil : Ents [] [] := ⟨rfl, fun i p h => by simp at h⟩
theorem Ents.snoc {es : List (Addr × Obj)} {qs : List (Int × Int)} (H : Ents es qs) (D : Addr) (q : Int × Int) (t u : Tok) : Ents (es ++ [(D, { cls := .type "tuple", data := .seq #[.str (kindS q.1) t, .str (endS q.2) u] })]) (qs ++ [q]) := by
  refine ⟨by simp [H.1], fun i p h => ?_⟩
  rcases Nat.lt_or_ge i es.length with hi | hi
  · rw [List.getElem?_append_left hi] at h
    obtain ⟨q', t', u', h1, h2⟩ := H.2 i p h
    exact ⟨q', t', u', by rw [List.getElem?_append_left (H.1 ▸ hi)]; exact h1, h2⟩
  · rw [List.getElem?_append_right hi] at h
    obtain ⟨j, hj⟩ : ∃ j, i - es.length = j := ⟨_, rfl⟩
    rw [hj] at h
    cases j with
    | zero => cases h; exact ⟨q, t, u, by rw [List.getElem?_append_right (H.1 ▸ hi), ← H.1, hj]; rfl, rfl⟩
    | succ j => simp at h
theorem Ents.rev_at {es : List (Addr × Obj)} {ds : List (Int × Int)} (H : Ents es ds.reverse) {i : Nat} {v : Value} (hv : (es.map fun p => Value.ref p.1).reverse[i]? = some v) : ∃ q t u D, ds[i]? = some q ∧ v = Value.ref D ∧ (D, ({ cls := .type "tuple", data := .seq #[.str (kindS q.1) t, .str (endS q.2) u] } : Obj)) ∈ es := by
  have hl : es.length = ds.length := by rw [H.1, List.length_reverse]
  have hi : i < es.length := by have := lt_of_get? hv; simpa using this
  rw [List.getElem?_reverse (by simpa using hi), List.length_map, List.getElem?_map] at hv
  obtain ⟨p, hp, rfl⟩ := Option.map_eq_some_iff.mp hv
  obtain ⟨q, t, u, h1, h2⟩ := H.2 _ p hp
  rw [List.getElem?_reverse (by omega), show ds.length - 1 - (es.length - 1 - i) = i by omega] at h1
  exact ⟨q, t, u, p.1, h1, rfl, by rw [← h2]; exact List.mem_of_getElem? hp⟩
theorem take_snoc {α : Type} {l : List α} {r : Nat} {q : α} (h : l[r]? = some q) : l.take (r + 1) = l.take r ++ [q] := by rw [List.take_add_one, h]; rfl
theorem drop_rev {α : Type} {l : List α} {r : Nat} {q : α} (h : l[r]? = some q) : (l.drop r).reverse = (l.drop (r + 1)).reverse ++ [q] := by
  obtain ⟨h1, h2⟩ := List.getElem?_eq_some_iff.mp h
  rw [List.drop_eq_getElem_cons h1, h2, List.reverse_cons]
theorem way_ne (ds : List (Int × Int)) (q : Int × Int) (hq : Deed q) : (wayD (ds ++ [q]) != Str.ofString "/") = true := by
  rw [bne_iff_ne]
  intro e
  have h1 := congrArg Str.length e
  rw [way_len, show (Str.ofString "/").length = 1 from by decide] at h1
  omega
theorem append_deed {prog : Program} {w : World} {A : Around} {E : Value → Shared → Prop} {s : Shared} {h₀ : Heap} {L d D : Addr} {m : Str → Option Value} {oD : Obj} {p1 p2 : Addr × Obj} {es : List (Addr × Obj)} {nn : Nat} {Q : Value → Shared → Prop} (F : Fr h₀ L s.heap m)
    (N : News h₀ L s.heap ((D, oD) :: p1 :: p2 :: (d, W.listOf (es.map fun p => Value.ref p.1).toArray nn) :: es)) (hD : d < D) (ho : OwnOff es [d]) (hz : es.length ≤ 20)
    (h : ∀ h', Fr h₀ L h' m → News h₀ L h' ((d, W.listOf ((es ++ [(D, oD)]).map fun p => Value.ref p.1).toArray (nn + 1)) :: (es ++ [(D, oD)])) → Q .none { s with heap := h' }) :
    wpAny (model prog w) A (call (.builtin "list.append") [.ref d, .ref D]) Q E s := by
  have N2 := news_sub (l' := (d, W.listOf (es.map fun p => Value.ref p.1).toArray nn) :: (es ++ [(D, oD)])) N fun p hp => by
    rcases List.mem_cons.mp hp with rfl | hp
    · exact .tail _ (.tail _ (.tail _ (.head _)))
    · rcases List.mem_append.mp hp with hp | hp
      · exact .tail _ (.tail _ (.tail _ (.tail _ hp)))
      · rw [List.mem_singleton.mp hp]; exact .head _
  refine append_K F N2 (.head fun p hp => ?_) (fun h' F' N' => ?_) (by rw [List.size_toArray, List.length_map, sizeLine_eq]; omega)
  · rcases List.mem_append.mp hp with hp | hp
    · exact ho p hp d (.head _)
    · rw [List.mem_singleton.mp hp]; exact Nat.ne_of_gt hD
  · refine h h' F' ?_
    rw [List.push_toArray] at N'
    rw [List.map_append]
    exact N'
local macro_rules | `(tactic| walk_at "callWith ref") => `(tactic| (k_here; (with_reducible show wpAny _ _ (callWith _ (Value.ref (deedAt _)) _ _ _) _ _ _); k_dflt (refine' callWith_K ?k1 (deed_keep _ _) ?_; (case k1 => k_asm); k_whole)))
local macro_rules | `(tactic| walk_at "con pre") => `(tactic| ((rename Obj.IsDictOf _ _ _ => hd9); exact ⟨Heap.dictOf_iff.mpr ⟨_, News.get (by k_asm) (by k_mem), hd9⟩, by omega, by omega⟩))
local macro_rules | `(tactic| walk_at "part") => `(tactic| exact IsPart.int _ _)
local macro_rules | `(tactic| walk_at "subscriptTail Name Slice ref ref") => do
  let t ← ln "krv_lit N N L part r _ u p T" "D' h' F' N' l1" false
  `(tactic| (k_here; (with_reducible show wpAny _ _ (subscriptTail _ (PySem.Expr.Slice none none (some _) _) (Value.ref _) (Value.ref _)) _ _ _); $t:tactic; (try k_lt l1); (try k_sweep)))
local macro_rules | `(tactic| walk_at "star") => `(tactic| simp only [*])
local macro_rules | `(tactic| walk_at "call builtin:list.append cons nil") => ln "append_deed N N star A A _" "h' F' N'" false
noncomputable def runS (m : Int) (ds : List (Int × Int)) : Int := ds.foldl stepR m
theorem runS_take {m : Int} {ds : List (Int × Int)} {i : Nat} {q : Int × Int} (h : ds[i]? = some q) : runS m (ds.take (i + 1)) = stepR (runS m (ds.take i)) q := by
  unfold runS
  rw [take_snoc h, List.foldl_append]; rfl
noncomputable def octN (l : List Nat) : Int := l.foldl (fun (a : Int) (c : Nat) => a * 8 + (c : Int) - 48) 0
theorem octN_take {l : List Nat} {i c : Nat} (h : l[i]? = some c) : octN (l.take (i + 1)) = octN (l.take i) * 8 + (c : Int) - 48 := by
  unfold octN
  rw [take_snoc h, List.foldl_append]; rfl
theorem figN_eq (m : Int) {k : Int} (hk : 0 ≤ k) : ((figN m k : Nat) : Int) = 48 + m / k % 8 := by
  unfold figN
  rw [Int.fdiv_eq_ediv_of_nonneg _ hk, Int.fmod_eq_emod_of_nonneg _ (by decide), Int.toNat_of_nonneg (by omega)]
theorem oct_all {m : Int} (h0 : 0 ≤ m) (h1 : m < 4096) : octN ((figL m).take (figL m).length) = m := by
  rw [List.take_length]
  show (((0 * 8 + (figN m 512 : Int) - 48) * 8 + (figN m 64 : Int) - 48) * 8 + (figN m 8 : Int) - 48) * 8 + (figN m 1 : Int) - 48 = m
  rw [figN_eq m (by decide), figN_eq m (by decide), figN_eq m (by decide), figN_eq m (by decide)]
  omega
theorem end_tail (m : Int) : Txt.slice (endS m) (some 1) none = ⟨(figL m).toArray⟩ := by
  apply cl_ext
  have h := sl_from (x := endS m) (n := 1) (by rw [← cl_len, cl_end]; simp [figL])
  rw [show ((1 : Nat) : Int) = 1 from rfl] at h
  rw [h, cl_end]
  rfl
theorem c_run (w : World) (ds : List (Int × Int)) (m : Int) (t u : Tok) : Con w 294 [.str (wayD ds) t, .int m u] 6 (fun _ => 0 ≤ m ∧ m < 4294967296 ∧ ds.length ≤ 20 ∧ ∀ q ∈ ds, Deed q) (fun g h v => ∃ t, v = .int (runS m ds) t) := by
  unfold Con
  k_fill
  intro zmean zmg zmb zdp zun zgd zcn zcs za zccd zcl zouter zA₀ zbase zh₀ zL zm zs zB zF zX zT zhk zhd zhu zhp
  k_dflt (refine' code_pure ?k1 ?k2 ?k3 ?k5 ?kA ?kF ?kK ?k6 ?k7 ?k8 ?k9 ?kB ?_ ?c2 ?c3 ?c4 ?c5; (case kA => exact rfl); (case kF => exact rfl); (case kK => assumption); (case k1 => k_asm); (case k2 => k_asm); (case k3 => k_asm); (case k5 => k_asm); (case k6 => k_is); (case k7 => k_is); (case k8 => first | exact room1 zhd | ktr_room); (case k9 => first | exact BindsTo.of_eq rfl | exact binds_K (by k_in) rfl (by k_is) rfl rfl rfl); (case c5 => decide); (case kB => exact locs rfl); (case c2 => exact rfl); (case c3 => exact rfl); (case c4 => exact rfl); k_whole)
  clear zF zX zT zB
  intro zL' zh' zF' zN' zB' zX' zT'
  (try dsimp only)
  k_fold
  rename _ ∧ _ => hp
  obtain ⟨hp1, hp2, hp3, hp4⟩ := id hp
  k_steps
  show wpAny _ _ _ _ _ _
  (rename News _ _ _ _ => N'); (rename Fr _ _ _ _ => F')
  obtain ⟨d, hd⟩ := headAddr N'; subst hd
  have kMark : KstMark := kstMark
  k_dflt refine while_st (σ := Nat × List (Addr × Obj) × Nat × Tok) (fun c => (d, W.listOf (c.2.1.map fun p => Value.ref p.1).toArray c.2.2.1) :: c.2.1) (fun c => [(Str.ofString "way", .str (wayD (ds.take c.1)) c.2.2.2)]) [Str.ofString "stem", Str.ofString "ending", Str.ofString "word"] (fun c => c.1 ≤ ds.length ∧ Ents c.2.1 (ds.drop c.1).reverse ∧ OwnOff c.2.1 [d]) (fun c => c.1) (ds.length, [], 0, t) F' N' (fun p hp => by rw [List.mem_singleton.mp hp]; show _ = some (Value.str (wayD (ds.take ds.length)) t); rw [List.take_length]; rfl) ⟨Nat.le_refl _, by rw [List.drop_length]; exact .nil, fun p hp => nomatch hp⟩ ?_ (by passes_own)
  intro c uw h tk hI Fk Nk
  refine wp_same ?_
  k_fold
  obtain ⟨r, es, nn, tw⟩ := c
  obtain ⟨hI1, hI2, hI3⟩ := hI
  clear F' N' hp
  dsimp only [kstB] at Fk Nk hI1 hI2 hI3
  have hel : es.length ≤ 20 := by rw [hI2.1, List.length_reverse, List.length_drop]; omega
  cases r with
  | zero =>
    rw [List.take_zero] at Fk
    have hw0 : wayD [] = Str.ofString "/" := by decide
    rw [hw0] at Fk
    rw [List.drop_zero] at hI2
    refine wp_same ?_
    k_steps
    show wpAny _ _ _ _ _ _
    (rename News _ _ _ _ => N'); (rename Fr _ _ _ _ => F')
    (rename _ ∧ AllLt _ _ => hlt)
    k_dflt refine iter_list (σ := Int × Tok) (vs := (es.map fun p => Value.ref p.1).reverse) (fun _ => es) (fun c => [(Str.ofString "mode", .int c.1 c.2)]) [Str.ofString "word", Str.ofString "ending", Str.ofString "mask", Str.ofString "sign", Str.ofString "deed"] (fun i c => c.1 = runS m (ds.take i) ∧ 0 ≤ c.1 ∧ c.1 < 4294967296) (m, u) rfl ⟨_, (N' _ (.head _)).1, rfl, _, rfl⟩ (N' _ (.head _)).2.1 ?_ F' (news_sub N' fun p hp => .tail _ (.tail _ hp)) (fun p hp => by rw [List.mem_singleton.mp hp]; rfl) ⟨rfl, hp1, hp2⟩ ?_ ?_
    · exact fun p hp => Nat.ne_of_lt (allLt_mem hlt.2 p hp)
    · intro c i v u h tk own hv hoff hI Fk Nk
      refine wp_same ?_
      k_fold
      obtain ⟨e, te⟩ := c
      obtain ⟨hIe, hIl, hIh⟩ := hI
      have hiv := hI2.rev_at hv
      obtain ⟨q, tq, uq, D, hq, rfl, hm⟩ := hiv
      have hqd := hp4 q (List.mem_of_getElem? hq)
      obtain ⟨rest, hrest⟩ : ∃ r, r = es ++ own := ⟨_, rfl⟩
      replace Nk := news_sub (l' := (D, ({ cls := .type "tuple", data := .seq #[.str (kindS q.1) tq, .str (endS q.2) uq] } : Obj)) :: rest) Nk (fun p hp => by rcases List.mem_cons.mp hp with rfl | hp; exact List.mem_append_left _ hm; rw [hrest] at hp; exact hp)
      clear N' F' hlt hp1 hp2 hv hI1 hI3 hm
      have hen : (endS q.2).length = 5 := by rw [← cl_len, cl_end]; rfl
      dsimp only [kstB] at Fk Nk hIe hIl hIh
      refine wp_same ?_
      k_steps
      show wpAny _ _ _ _ _ _
      rw [end_tail]
      (rename News _ _ _ _ => N'); (rename Fr _ _ _ _ => F')
      k_dflt refine iter_str (σ := Int × Tok) (fun _ => (D, ({ cls := .type "tuple", data := .seq #[.str (kindS q.1) tq, .str (endS q.2) uq] } : Obj)) :: rest) (fun c => [(Str.ofString "mask", .int c.1 c.2)]) [Str.ofString "sign"] (fun i c => c.1 = octN ((figL q.2).take i) ∧ 0 ≤ c.1 ∧ c.1 < 4096 ∧ (i ≤ 3 → c.1 < 512) ∧ (i ≤ 2 → c.1 < 64) ∧ (i ≤ 1 → c.1 < 8) ∧ (i = 0 → c.1 = 0)) (0, _) rfl F' N' (fun p hp => by rw [List.mem_singleton.mp hp]; rfl) ⟨rfl, Int.le_refl 0, by show (0 : Int) < 4096; decide, fun _ => by show (0 : Int) < 512; decide, fun _ => by show (0 : Int) < 64; decide, fun _ => by show (0 : Int) < 8; decide, fun _ => rfl⟩ ?_ ?_ ?_
      · intro I v s Q E h
        exact wpAny_pure h
      · intro c i g ug u h tk own hg hoff2 hI Fk Nk
        refine wp_same ?_
        k_fold
        obtain ⟨f, tf⟩ := c
        obtain ⟨hI1, hI2, hI3, hI4, hI5, hI6, hI7⟩ := hI
        clear F' N'
        dsimp only [kstB] at Fk Nk hI1 hI2 hI3 hI4 hI5 hI6 hI7
        have hg2 : (figL q.2)[i]? = some g := by simpa using hg
        have hgr := figL_mem (List.mem_of_getElem? hg2)
        have hil : i < 4 := lt_of_get? hg2
        refine wp_same ?_
        k_steps
        (rename News _ _ _ _ => N9)
        refine of_stop (st1_end (⟨_, _⟩ : Int × Tok) (by k_asm) N9 (fun p hp => List.mem_append_left _ hp) (fun p hp => List.mem_append_right _ hp) rfl (fun p hp => by rw [List.mem_singleton.mp hp]; rfl) (fun z h2 h3 => ?_) ⟨?_, ?_, ?_, ?_, ?_, ?_, ?_⟩)
        · simp only [List.forall_mem_cons, List.not_mem_nil, false_implies, implies_true, and_true, ne_eq] at h2
          simp only [List.contains_cons, List.contains_nil, Bool.or_false, beq_eq_false_iff_ne, ne_eq] at h3
          simp [h2, h3]
        · rw [octN_take hg2, ← hI1]
        · show 0 ≤ f * 8 + (g : Int) - 48; omega
        · show f * 8 + (g : Int) - 48 < 4096; omega
        · intro h9; show f * 8 + (g : Int) - 48 < 512
          have := hI5 (by omega); omega
        · intro h9; show f * 8 + (g : Int) - 48 < 64
          have := hI6 (by omega); omega
        · intro h9; show f * 8 + (g : Int) - 48 < 8
          have := hI7 (by omega); omega
        · intro h9; omega
      · intro c u h tk hI Fk Nk
        obtain ⟨f, tf⟩ := c
        have hI1 := hI.1
        have hfm : f = q.2 := hI1.trans (oct_all hqd.2.2.1 hqd.2.2.2)
        subst hfm
        obtain ⟨hq1, hq2, hq3, hq4⟩ := id hqd
        have hb1 := opS_bd q.1 hIl hIh hq3 hq4
        have hb2 := and_bd hIl (show (0 : Int) ≤ 61440 by decide)
        have hb3 := and_bd hb1.1 (show (0 : Int) ≤ 4095 by decide)
        have hb4 := stepR_bd hIl hIh hq3 hq4
        clear F' N' hI1 hI hI2
        dsimp only [kstB] at Fk Nk
        refine wp_same ?_
        k_steps
        (rename News _ _ _ _ => N9)
        refine of_stop (st1_end (⟨_, _⟩ : Int × Tok) (by k_asm) N9 (fun p hp => .tail _ (.tail _ (by rw [hrest]; exact List.mem_append_left _ hp))) (fun p hp => .tail _ (.tail _ (by rw [hrest]; exact List.mem_append_right _ hp))) rfl (fun p hp => by rw [List.mem_singleton.mp hp]; rfl) (fun z h2 h3 => ?_) ⟨?_, hb4⟩)
        · simp only [List.forall_mem_cons, List.not_mem_nil, false_implies, implies_true, and_true, ne_eq] at h2
          simp only [List.contains_cons, List.contains_nil, Bool.or_false, Bool.or_eq_false_iff, beq_eq_false_iff_ne, ne_eq] at h3
          simp [h2, h3]
        · rw [runS_take hq, ← hIe]; rfl
    · intro c u h tk hI Fk Nk
      obtain ⟨e, te⟩ := c
      obtain ⟨hIe, hIl, hIh⟩ := hI
      clear F' N'
      dsimp only [kstB] at Fk Nk hIe
      rw [List.length_reverse, List.length_map, hI2.1, List.length_reverse, List.take_length] at hIe
      refine wp_same ?_
      k_steps
      all_goals ((try (k_unfold; try dsimp only)); refine pure_end (by k_asm) ?_)
      exact ⟨_, by rw [hIe]⟩
  | succ r =>
    obtain ⟨q, hq⟩ : ∃ q, ds[r]? = some q := ⟨ds[r]'hI1, List.getElem?_eq_getElem hI1⟩
    have hqd := hp4 q (List.mem_of_getElem? hq)
    have hw := way_ne (ds.take r) q hqd
    have hpre : (ds.take r).length ≤ 20 ∧ ∀ p ∈ ds.take r ++ [q], Deed p := ⟨by rw [List.length_take]; omega, fun p hp => hp4 p (by rw [← take_snoc hq] at hp; exact List.mem_of_mem_take hp)⟩
    rw [take_snoc hq] at Fk
    clear hp1 hp2
    refine wp_same ?_
    k_steps
    refine wh_end (⟨r, _, _, _⟩ : Nat × List (Addr × Obj) × Nat × Tok) (by k_asm) (by k_asm) (fun p hp => by rw [List.mem_singleton.mp hp]; rfl) (fun z h2 h3 => ?_) ⟨⟨by omega, ?_, ?_⟩, Nat.lt_succ_self r⟩
    · simp only [List.forall_mem_cons, List.not_mem_nil, false_implies, implies_true, and_true, ne_eq] at h2
      simp only [List.contains_cons, List.contains_nil, Bool.or_false, Bool.or_eq_false_iff, beq_eq_false_iff_ne, ne_eq] at h3
      simp [h2, h3]
    · rw [drop_rev hq]
      exact hI2.snoc _ _ _ _
    · intro p hp b hb
      rcases List.mem_append.mp hp with hp | hp
      · exact hI3 p hp b hb
      · rw [List.mem_singleton.mp hp, List.mem_singleton.mp hb]
        (rename _ ∧ _ ∧ _ ∧ AllLt _ _ => hlt)
        exact Nat.ne_of_gt hlt.2.2.1
end
section
noncomputable def opN (k : Int) (x y : Nat) : Nat := if k = 0 then x &&& y else if k = 1 then x ||| y else x ^^^ y
theorem pick_bits (a b : Bool) {k : Int} (h0 : 0 ≤ k) (h3 : k < 3) : bitPick k (a.toNat : Nat) (b.toNat : Nat) = (((if k = 0 then a && b else if k = 1 then a || b else a ^^ b).toNat : Nat) : Int) := by
  rcases (by omega : k = 0 ∨ k = 1 ∨ k = 2) with h | h | h <;> subst h <;> cases a <;> cases b <;> decide
theorem bit_nat (X i : Nat) : ((X : Int).fdiv (2 ^ i)).fmod 2 = ((X.testBit i).toNat : Int) := by
  have e : ((2 : Int) ^ i) = ((2 ^ i : Nat) : Int) := by simp
  rw [Nat.toNat_testBit, Int.fdiv_eq_ediv_of_nonneg _ (by rw [e]; exact Int.natCast_nonneg _), Int.fmod_eq_emod_of_nonneg _ (by decide), e]
  omega
theorem opN_bit (k : Int) (X M i : Nat) : (opN k X M).testBit i = (if k = 0 then X.testBit i && M.testBit i else if k = 1 then X.testBit i || M.testBit i else X.testBit i ^^ M.testBit i) := by
  unfold opN
  split
  · exact Nat.testBit_and ..
  · split
    · exact Nat.testBit_or ..
    · exact Nat.testBit_xor ..
theorem mixedS_nat {k : Int} (h0 : 0 ≤ k) (h3 : k < 3) (X M : Nat) : ∀ n : Nat, mixedS X k M n = ((X / 4096 % 16 * 4096 + opN k X M % 2 ^ n : Nat) : Int)
  | 0 => by
    show ((X : Int).fdiv 4096).fmod 16 * 4096 = _
    rw [Int.fdiv_eq_ediv_of_nonneg _ (by decide), Int.fmod_eq_emod_of_nonneg _ (by decide), Nat.pow_zero, Nat.mod_one]
    omega
  | n + 1 => by
    rw [mixedS_succ, mixedS_nat h0 h3 X M n]
    unfold mixTerm
    have en : (0 + (n : Int) * 1).toNat = n := by omega
    rw [en, bit_nat, bit_nat, pick_bits _ _ h0 h3, ← opN_bit, Nat.toNat_testBit, Nat.mod_pow_succ]
    have e : ((2 : Int) ^ n) = ((2 ^ n : Nat) : Int) := by simp
    rw [e]
    simp only [Int.natCast_add, Int.natCast_mul]
    omega
theorem and_top (m : Nat) : m &&& 61440 = m / 4096 % 16 * 4096 := by
  have h1 : m &&& 61440 = ((m >>> 12) &&& 15) <<< 12 := by
    apply Nat.eq_of_testBit_eq
    intro i
    have e : (61440 : Nat) = 15 <<< 12 := by decide
    rw [e, Nat.testBit_and, Nat.testBit_shiftLeft, Nat.testBit_shiftLeft, Nat.testBit_and, Nat.testBit_shiftRight]
    by_cases hi : 12 ≤ i
    · simp [hi, show 12 + (i - 12) = i by omega]
    · simp [hi]
  rw [h1, Nat.shiftLeft_eq, Nat.shiftRight_eq_div_pow, show (15 : Nat) = 2 ^ 4 - 1 by decide, Nat.and_two_pow_sub_one_eq_mod]
theorem opN_mod (k : Int) (X M n : Nat) : opN k (X % 2 ^ 16) M % 2 ^ 12 = opN k X M % 2 ^ 12 := by
  have e : X % 2 ^ 16 % 2 ^ 12 = X % 2 ^ 12 := Nat.mod_mod_of_dvd X ⟨16, rfl⟩
  unfold opN
  split
  · rw [Nat.and_mod_two_pow, e, ← Nat.and_mod_two_pow]
  · split
    · rw [Nat.or_mod_two_pow, e, ← Nat.or_mod_two_pow]
    · rw [Nat.xor_mod_two_pow, e, ← Nat.xor_mod_two_pow]
theorem opS_nat {k x y : Int} (hx : 0 ≤ x) (hy : 0 ≤ y) : opS k x y = (opN k x.toNat y.toNat : Nat) := by
  unfold opS opN
  split
  · exact and_nat hx hy
  · split
    · exact or_nat hx hy
    · exact xor_nat hx hy
theorem or_apart (a b : Nat) : (a / 4096 % 16 * 4096) ||| (b % 4096) = a / 4096 % 16 * 4096 + b % 4096 := by
  have h := nat_or_add_and (a / 4096 % 16 * 4096) (b % 4096)
  have h2 : (a / 4096 % 16 * 4096) &&& (b % 4096) = 0 := by
    apply Nat.eq_of_testBit_eq
    intro i
    rw [Nat.testBit_and, Nat.zero_testBit, show (4096 : Nat) = 2 ^ 12 by decide, Nat.testBit_mul_two_pow, Nat.testBit_mod_two_pow]
    by_cases hi : 12 ≤ i
    · simp [show ¬ i < 12 by omega]
    · simp [hi]
  omega
theorem stepR_eq {m : Int} {q : Int × Int} (hm : 0 ≤ m) (hk : 0 ≤ q.1 ∧ q.1 < 3) (hq : 0 ≤ q.2) : stepR m q = mixedS (m.fmod 65536) q.1 q.2 12 := by
  obtain ⟨X, rfl⟩ := Int.eq_ofNat_of_zero_le hm
  obtain ⟨k, b⟩ := q
  obtain ⟨M, rfl⟩ := Int.eq_ofNat_of_zero_le hq
  have e1 : ((X : Int)).fmod 65536 = ((X % 2 ^ 16 : Nat) : Int) := by rw [Int.fmod_eq_emod_of_nonneg _ (by decide)]; omega
  show Builtin.bitOr (Builtin.bitAnd X 61440) (Builtin.bitAnd (opS k X M) 4095) = mixedS ((X : Int).fmod 65536) k M 12
  rw [e1, mixedS_nat hk.1 hk.2, opN_mod k X M 0, opS_nat (Int.natCast_nonneg _) (Int.natCast_nonneg _)]
  rw [and_nat (Int.natCast_nonneg _) (by decide), and_nat (Int.natCast_nonneg _) (by decide), or_nat (Int.natCast_nonneg _) (Int.natCast_nonneg _)]
  simp only [Int.toNat_natCast, show (61440 : Int).toNat = 61440 from rfl, show (4095 : Int).toNat = 4095 from rfl]
  rw [and_top, show (4095 : Nat) = 2 ^ 12 - 1 by decide, Nat.and_two_pow_sub_one_eq_mod, show (2 : Nat) ^ 12 = 4096 by decide, or_apart, show X % 2 ^ 16 / 4096 % 16 = X / 4096 % 16 from (congrArg (· % 16) (Nat.mod_mul_right_div_self X 4096 16)).trans (Nat.mod_mod _ _)]
theorem mixed_bd {x k m : Int} (hx : 0 ≤ x ∧ x < 65536) (hk : 0 ≤ k ∧ k < 3) (hm : 0 ≤ m ∧ m < 4096) : 0 ≤ mixedS x k m 12 ∧ mixedS x k m 12 < 65536 := by
  obtain ⟨X, rfl⟩ := Int.eq_ofNat_of_zero_le hx.1
  obtain ⟨M, rfl⟩ := Int.eq_ofNat_of_zero_le hm.1
  rw [mixedS_nat hk.1 hk.2]
  have : opN k X M % 2 ^ 12 < 2 ^ 12 := Nat.mod_lt _ (by decide)
  omega
end
section
theorem nmD_ok {q : Int × Int} (h : Deed q) : PyData.strOk (nmD q) = true := by
  have hc : cl (nmD q) = cl (kindS q.1) ++ 46 :: figL q.2 := by unfold nmD; rw [name_eq, cl_app, cl_end]
  have hk : ∀ c ∈ cl (kindS q.1), c < 0x110000 := by
    obtain ⟨h0, h3, _⟩ := h
    rcases (by omega : q.1 = 0 ∨ q.1 = 1 ∨ q.1 = 2) with e | e | e <;> rw [e] <;> decide
  unfold PyData.strOk
  rw [← Array.all_toList, List.all_eq_true]
  intro c hm
  rw [show (nmD q).cps.toList = cl (nmD q) from rfl, hc] at hm
  rw [decide_eq_true_eq]
  rcases List.mem_append.mp hm with hm | hm
  · exact hk c hm
  · rcases List.mem_cons.mp hm with rfl | hm
    · decide
    · have := figL_mem hm; omega
theorem nmD_len {q : Int × Int} (h : Deed q) : (nmD q).length ≤ 8 := nameS_len q.1 q.2
end
section
local macro_rules | `(tactic| walk_at "no such key") => `(tactic| skip)
local macro_rules | `(tactic| walk_at "nil") => `(tactic| exact .nil)
local macro_rules | `(tactic| walk_at "none") => `(tactic| exact fun x hx => nomatch hx)
local macro_rules | `(tactic| walk_at "compareOp NotEq ref ref") => ln "ne_strs L L A nil A none U _"
local macro_rules | `(tactic| walk_at "FoPost") => stopT
local macro_rules | `(tactic| walk_at "execs cons If cons") => `(tactic| ((with_reducible rename (_ = (0 : Int) ∨ _ ∨ _ ∨ _) => hq9); refine stop_of ?_))
local macro_rules | `(tactic| walk_at "ite") => `(tactic| (k_here; first | (refine ite_pos (by simp only [beq_iff_eq, decide_eq_true_eq, gt_iff_lt]; omega) ?_) | (refine ite_neg (by simp only [beq_iff_eq, decide_eq_true_eq, gt_iff_lt]; omega) ?_)))
noncomputable def kindX (x : Int) : Int := if 2 < x.fmod 7 - 3 then 2 else x.fmod 7 - 3
noncomputable def maskX (x : Int) : Int := (x.fdiv 7).fmod 4096
noncomputable def pileStep (first : Int) (st : List (Int × Int) × List Int) (x : Int) : List (Int × Int) × List Int :=
  if x.fmod 7 = 0 then (st.1.dropLast, if st.1 = [] then st.2 else st.2.dropLast)
  else if x.fmod 7 ≤ 2 then st
  else if x.fmod 7 = 6 then ([(kindX x, maskX x)], [first.fmod 65536, mixedS (first.fmod 65536) (kindX x) (maskX x) 12])
  else (st.1 ++ [(kindX x, maskX x)], st.2 ++ [mixedS (st.2.getLastD 0) (kindX x) (maskX x) 12])
noncomputable def pileS (first : Int) (xs : List Int) : List (Int × Int) × List Int := xs.foldl (pileStep first) ([], [first.fmod 65536])
noncomputable def PileOk (n : Nat) (st : List (Int × Int) × List Int) : Prop := st.2.length = st.1.length + 1 ∧ st.1.length ≤ n ∧ (∀ q ∈ st.1, Deed q) ∧ ∀ m ∈ st.2, 0 ≤ m ∧ m < 65536
theorem ints_snoc {vs : List Value} {ys : List Int} (h : IntsAre vs ys) (hn : 1 ≤ ys.length) : ∃ us zs z t, vs = us ++ [.int z t] ∧ ys = zs ++ [z] ∧ IntsAre us zs := by
  induction h with
  | nil => simp at hn
  | cons y t h ih =>
    rename_i vs ys
    cases h with
    | nil => exact ⟨[], [], y, t, rfl, rfl, .nil⟩
    | cons y' t' h' =>
      obtain ⟨us, zs, z, tz, e1, e2, h2⟩ := ih (by simp)
      exact ⟨.int y t :: us, y :: zs, z, tz, by rw [e1]; rfl, by rw [e2]; rfl, .cons y t h2⟩
theorem pileS_take {first x : Int} {xs : List Int} {i : Nat} (h : xs[i]? = some x) : pileS first (xs.take (i + 1)) = pileStep first (pileS first (xs.take i)) x := by
  unfold pileS
  rw [List.take_add_one, h, List.foldl_append]; rfl
theorem kindX_bd {x : Int} (h : 3 ≤ x.fmod 7) : 0 ≤ kindX x ∧ kindX x < 3 := by unfold kindX; split <;> omega
theorem maskX_bd (x : Int) : 0 ≤ maskX x ∧ maskX x < 4096 := ⟨Int.fmod_nonneg_of_pos _ (by decide), Int.fmod_lt_of_pos _ (by decide)⟩
theorem deedX {x : Int} (h : 3 ≤ x.fmod 7) : Deed (kindX x, maskX x) := ⟨(kindX_bd h).1, (kindX_bd h).2, (maskX_bd x).1, (maskX_bd x).2⟩
theorem pile_end {σ : Type} {h₀ h' : Heap} {L Dn' Dm' : Addr} {on om : Obj} {all own : List (Addr × Obj)} (_c : σ) (N : News h₀ L h' all) (h1 : (Dn', on) ∈ all) (h2 : (Dm', om) ∈ all) (h3 : ∀ p ∈ own, p ∈ all) : News h₀ L h' ([(Dn', on), (Dm', om)] ++ own) :=
  news_sub N fun p hp => by
    rcases List.mem_cons.mp hp with rfl | hp
    · exact h1
    · rcases List.mem_cons.mp hp with rfl | hp
      · exact h2
      · exact h3 p hp
theorem pile_off {Dn' Dm' : Addr} {on om : Obj} {own : List (Addr × Obj)} (h1 : ∀ q ∈ own, Dn' ≠ q.1) (h2 : ∀ q ∈ own, Dm' ≠ q.1) : ∀ p ∈ [(Dn', on), (Dm', om)], ∀ q ∈ own, p.1 ≠ q.1 := fun p hp q hq => by
  rcases List.mem_cons.mp hp with rfl | hp
  · exact h1 q hq
  · rw [List.mem_singleton.mp hp]; exact h2 q hq
theorem pile_ok {first x : Int} {i : Nat} {st : List (Int × Int) × List Int} (hf : 0 ≤ first.fmod 65536 ∧ first.fmod 65536 < 65536) (h7 : x.fmod 7 < 7) (h : PileOk i st) : PileOk (i + 1) (pileStep first st x) := by
  obtain ⟨h1, h2, h3, h4⟩ := h
  unfold pileStep
  split
  · refine ⟨?_, ?_, fun q hq => h3 q (List.dropLast_subset _ hq), fun m hm => ?_⟩
    · show (if st.1 = [] then st.2 else st.2.dropLast).length = st.1.dropLast.length + 1
      split
      · rename_i h; rw [h1, h]; rfl
      · rename_i h
        have : 0 < st.1.length := List.length_pos_iff.mpr h
        rw [List.length_dropLast, List.length_dropLast]; omega
    · show st.1.dropLast.length ≤ i + 1
      rw [List.length_dropLast]; omega
    · have hm' : m ∈ st.2 := by
        dsimp only at hm
        split at hm
        · exact hm
        · exact List.dropLast_subset _ hm
      exact h4 m hm'
  · split
    · exact ⟨h1, by omega, h3, h4⟩
    · rename_i h0 h9
      have hd := deedX (x := x) (by omega)
      split
      · refine ⟨rfl, by show 1 ≤ i + 1; omega, fun q hq => ?_, fun m hm => ?_⟩
        · rw [List.mem_singleton.mp hq]; exact hd
        · rcases List.mem_cons.mp hm with rfl | hm
          · exact hf
          · rw [List.mem_singleton.mp hm]; exact mixed_bd hf ⟨hd.1, hd.2.1⟩ hd.2.2
      · refine ⟨?_, ?_, fun q hq => ?_, fun m hm => ?_⟩
        · simp only [List.length_append, List.length_cons, List.length_nil]; omega
        · simp only [List.length_append, List.length_cons, List.length_nil]; omega
        · rcases List.mem_append.mp hq with hq | hq
          · exact h3 q hq
          · rw [List.mem_singleton.mp hq]; exact hd
        · rcases List.mem_append.mp hm with hm | hm
          · exact h4 m hm
          · rw [List.mem_singleton.mp hm]
            refine mixed_bd ?_ ⟨hd.1, hd.2.1⟩ hd.2.2
            have hne : st.2 ≠ [] := by intro e; rw [e] at h1; simp at h1
            have hl : st.2.getLastD 0 = st.2.getLast hne := by rw [List.getLastD_eq_getLast?, List.getLast?_eq_some_getLast hne]; rfl
            rw [hl]
            exact h4 _ (List.getLast_mem hne)
theorem heads2 {h₀ h : Heap} {L a b : Addr} {oa ob : Obj} {r : List (Addr × Obj)} (_N : News h₀ L h ((b, ob) :: (a, oa) :: r)) : ∃ a' b', a' = a ∧ b' = b := ⟨a, b, rfl, rfl⟩
theorem pile_start {h₀ h : Heap} {L a b : Addr} {z : Int} {t : Tok} (_N : News h₀ L h [(b, W.listOf #[Value.int z t] 0), (a, W.listOf #[] 0)]) : ∃ b' a' t', b' = b ∧ a' = a ∧ t' = t := ⟨b, a, t, rfl, rfl, rfl⟩
/-- what a call of the pile gives: the names' list and the top of the modes -/
noncomputable def PilePost (st : List (Int × Int) × List Int) (g h : Heap) (v : Value) : Prop := ∃ T Dn vs nn t, v = .ref T ∧ StrsAre vs (st.1.map nmD) ∧ Fresh g h [(T, { cls := .type "tuple", data := .seq #[.ref Dn, .int (st.2.getD (-1 + (st.2.length : Int)).toNat 0) t] }), (Dn, W.listOf vs.toArray nn)]
theorem pile_fin {st : List (Int × Int) × List Int} {g h : Heap} {L T Dn : Addr} {vs : List Value} {nn : Nat} {t : Tok} {r : List (Addr × Obj)} (hI : StrsAre vs (st.1.map nmD)) (N : News g L h ((T, ({ cls := .type "tuple", data := .seq #[.ref Dn, .int (st.2.getD (-1 + (st.2.length : Int)).toNat 0) t] } : Obj)) :: (Dn, W.listOf vs.toArray nn) :: r)) : PilePost st g h (.ref T) :=
  ⟨T, Dn, vs, nn, t, rfl, hI, fresh_of N fun p hp => by
    rcases List.mem_cons.mp hp with rfl | hp
    · exact .head _
    · rw [List.mem_singleton.mp hp]; exact .tail _ (.head _)⟩
def MixPre (z k m : Int) : Prop := 0 ≤ z ∧ z < 65536 ∧ 0 ≤ k ∧ k < 3 ∧ 0 ≤ m ∧ m < 4096
theorem c_pile (w : World) (first : Int) (l1 : Addr) (t : Tok) (vs1 : List Value) (xs1 : List Int) : Con w 308 [.int first t, .ref l1] 12 (fun h => h.IsList l1 vs1.toArray ∧ IntsAre vs1 xs1 ∧ xs1.length ≤ 20 ∧ (∀ x ∈ xs1, 0 ≤ x ∧ x < 1000000) ∧ 0 ≤ first ∧ first < 4294967296) (PilePost (pileS first xs1)) := by
  unfold Con
  k_fill
  intro zmean zmg zmb zdp zun zgd zcn zcs za zccd zcl zouter zA₀ zbase zh₀ zL zm zs zB zF zX zT zhk zhd zhu zhp
  k_dflt (refine' code_pure ?k1 ?k2 ?k3 ?k5 ?kA ?kF ?kK ?k6 ?k7 ?k8 ?k9 ?kB ?_ ?c2 ?c3 ?c4 ?c5; (case kA => exact rfl); (case kF => exact rfl); (case kK => assumption); (case k1 => k_asm); (case k2 => k_asm); (case k3 => k_asm); (case k5 => k_asm); (case k6 => k_is); (case k7 => k_is); (case k8 => first | exact room1 zhd | ktr_room); (case k9 => first | exact BindsTo.of_eq rfl | exact binds_K (by k_in) rfl (by k_is) rfl rfl rfl); (case c5 => decide); (case kB => exact locs rfl); (case c2 => exact rfl); (case c3 => exact rfl); (case c4 => exact rfl); k_whole)
  clear zF zX zT zB
  intro zL' zh' zF' zN' zB' zX' zT'
  (try dsimp only)
  k_fold
  rename _ ∧ _ => hp
  obtain ⟨hp1, hp2, hp3, hp4, hp5, hp6⟩ := id hp
  k_steps
  show wpAny _ _ _ _ _ _
  (rename News _ _ _ _ => N'); (rename Fr _ _ _ _ => F')
  obtain ⟨dm, dn, t0, ed1, ed2, et⟩ := pile_start N'
  subst ed1 ed2
  rw [← et] at N'
  have kMark : KstMark := kstMark
  have hf1 : 0 ≤ first.fmod 65536 ∧ first.fmod 65536 < 65536 := ⟨Int.fmod_nonneg_of_pos _ (by decide), Int.fmod_lt_of_pos _ (by decide)⟩
  k_dflt refine fo_base (σ := Addr × List Value × Nat × Addr × List Value × Nat) (fun c => [(c.1, W.listOf c.2.1.toArray c.2.2.1), (c.2.2.2.1, W.listOf c.2.2.2.2.1.toArray c.2.2.2.2.2)]) (fun c => [(Str.ofString "names", .ref c.1), (Str.ofString "modes", .ref c.2.2.2.1)]) [Str.ofString "number", Str.ofString "what", Str.ofString "mask", Str.ofString "kind"]
    (fun i c => StrsAre c.2.1 ((pileS first (xs1.take i)).1.map nmD) ∧ IntsAre c.2.2.2.2.1 (pileS first (xs1.take i)).2 ∧ PileOk i (pileS first (xs1.take i)) ∧ c.1 ≠ c.2.2.2.1) (dn, [], 0, dm, [Value.int (first.fmod 65536) t0], 0) rfl F' N' hp1 ?_ ?_ ⟨.nil, .cons _ _ .nil, ⟨rfl, Nat.le_refl _, (fun q hq => nomatch hq), fun m hm => by rw [List.mem_singleton.mp hm]; exact hf1⟩, ?_⟩ ?_ ?_
  · intro p hp
    rcases List.mem_cons.mp hp with rfl | hp
    · exact .tail _ (.head _)
    · rw [List.mem_singleton.mp hp]; exact .head _
  · intro p hp
    rcases List.mem_cons.mp hp with rfl | hp
    · rfl
    · rw [List.mem_singleton.mp hp]; rfl
  · (rename (_ : Nat) < _ => hlt)
    exact Nat.ne_of_lt hlt
  · intro c i v u h tk own hv ho hI Fk Nk
    refine wp_same ?_
    k_fold
    obtain ⟨Dn, vs, nn, Dm, ms, nm⟩ := c
    obtain ⟨hI1, hI2, hI3, hI4⟩ := hI
    obtain ⟨x, tx, rfl, hx⟩ := hp2.at i v hv
    have hi := lt_of_get? hx
    obtain ⟨hx0, hx1⟩ := hp4 x (List.mem_of_getElem? hx)
    have hstep := pileS_take (first := first) hx
    generalize pileS first (xs1.take i) = st at hI1 hI2 hI3 hstep
    obtain ⟨ds, qs⟩ := st
    obtain ⟨hk1, hk2, hk3, hk4⟩ := hI3
    clear F' N' hp
    dsimp only [kstB] at Fk Nk ho hI1 hI2 hI4 hk1 hk2 hk3 hk4
    simp only [List.cons_append, List.nil_append] at Nk
    have hvl : vs.length ≤ 20 := by rw [hI1.length, List.length_map]; omega
    have hml : ms.length ≤ 21 := by rw [hI2.length]; omega
    have h7a : 0 ≤ x.fmod 7 := Int.fmod_nonneg_of_pos _ (by decide)
    have h7b : x.fmod 7 < 7 := Int.fmod_lt_of_pos _ (by decide)
    have hma : 0 ≤ (x.fdiv 7).fmod 4096 := Int.fmod_nonneg_of_pos _ (by decide)
    have hmb : (x.fdiv 7).fmod 4096 < 4096 := Int.fmod_lt_of_pos _ (by decide)
    have hown : OwnOff own [Dn, Dm] := fun p hp b hb => by
      rcases List.mem_cons.mp hb with rfl | hb
      · exact (ho _ (.head _) p hp).symm
      · rw [List.mem_singleton.mp hb]; exact (ho _ (.tail _ (.head _)) p hp).symm
    have hon : ∀ q ∈ own, Dn ≠ q.1 := fun q hq => ho _ (.head _) q hq
    have hom : ∀ q ∈ own, Dm ≠ q.1 := fun q hq => ho _ (.tail _ (.head _)) q hq
    have hI5 := hI4.symm
    have hok := pile_ok (first := first) (st := (ds, qs)) hf1 h7b ⟨hk1, hk2, hk3, hk4⟩
    rw [← hstep] at hok
    have hw4 : x.fmod 7 = 0 ∨ (1 ≤ x.fmod 7 ∧ x.fmod 7 ≤ 2) ∨ (3 ≤ x.fmod 7 ∧ x.fmod 7 ≤ 5) ∨ x.fmod 7 = 6 := by omega
    refine wp_same ?_
    k_steps
    show wpAny _ _ _ _ _ _
    (rename (_ = (0 : Int) ∨ _ ∨ _ ∨ _) => hw4)
    rcases hw4 with hw | hw | hw | hw
    · have hst : pileS first (xs1.take (i + 1)) = (ds.dropLast, if ds = [] then qs else qs.dropLast) := by rw [hstep]; unfold pileStep; rw [if_pos hw]
      have hnb : ∀ x ∈ ds.map nmD, PyData.strOk x = true := fun y hy => by obtain ⟨q, hq, rfl⟩ := List.mem_map.mp hy; exact nmD_ok (hk3 q hq)
      clear ho hstep
      rcases strsAre_snoc hI1 with ⟨rfl, e0⟩ | ⟨us, zs, z, tz, rfl, e0, hus⟩
      · have hds : ds = [] := by simpa using e0
        subst hds
        rw [if_pos rfl] at hst
        k_steps
        refine of_stop (fo_end (⟨Dn, [], nn, Dm, ms, nm⟩ : Addr × List Value × Nat × Addr × List Value × Nat) (by k_asm) (pile_end Dn (by k_asm) (by k_mem) (by k_mem) (fun p hp => .tail _ (.tail _ (.tail _ hp)))) (pile_off hon hom) (fun p hp => ?_) (fun z h2 h3 => ?_) ⟨by rw [hst]; exact .nil, by rw [hst]; exact hI2, hok, hI4⟩)
        · rcases List.mem_cons.mp hp with rfl | hp
          · rfl
          · rw [List.mem_singleton.mp hp]; rfl
        · simp only [List.forall_mem_cons, List.not_mem_nil, false_implies, implies_true, and_true, ne_eq] at h2
          simp only [List.contains_cons, List.contains_nil, Bool.or_false, Bool.or_eq_false_iff, beq_eq_false_iff_ne, ne_eq] at h3
          simp [h2, h3]
      · have hds : ds ≠ [] := by intro e; rw [e] at e0; simp at e0
        have hq1 : 1 < qs.length := by have := List.length_pos_iff.mpr hds; omega
        obtain ⟨us2, zs2, z2, tz2, rfl, rfl, hz⟩ := ints_snoc hI2 (by omega)
        rw [if_neg hds, List.dropLast_concat] at hst
        have e1 : (ds.dropLast).map nmD = zs := by rw [List.map_dropLast, e0, List.dropLast_concat]
        have hvl2 : us.length + 1 ≤ 20 := by simpa using hvl
        have hml2 : us2.length + 1 ≤ 21 := by simpa using hml
        have hnn : decide (ds.map nmD = ([] : List Str)) = false := by simp [hds]
        k_steps
        refine of_stop (fo_end (⟨Dn, us, _, Dm, us2, _⟩ : Addr × List Value × Nat × Addr × List Value × Nat) (by k_asm) (pile_end Dn (by k_asm) (by k_mem) (by k_mem) (fun p hp => .tail _ (.tail _ (.tail _ hp)))) (pile_off hon hom) (fun p hp => ?_) (fun z h2 h3 => ?_) ⟨by rw [hst]; exact e1 ▸ hus, by rw [hst]; exact hz, hok, hI4⟩)
        · rcases List.mem_cons.mp hp with rfl | hp
          · rfl
          · rw [List.mem_singleton.mp hp]; rfl
        · simp only [List.forall_mem_cons, List.not_mem_nil, false_implies, implies_true, and_true, ne_eq] at h2
          simp only [List.contains_cons, List.contains_nil, Bool.or_false, Bool.or_eq_false_iff, beq_eq_false_iff_ne, ne_eq] at h3
          simp [h2, h3]
    · have hst : pileS first (xs1.take (i + 1)) = (ds, qs) := by rw [hstep]; unfold pileStep; rw [if_neg (by omega), if_pos hw.2]
      obtain ⟨hw1, hw2⟩ := hw
      clear ho hstep
      k_steps
      refine of_stop (fo_end (⟨Dn, vs, nn, Dm, ms, nm⟩ : Addr × List Value × Nat × Addr × List Value × Nat) (by k_asm) (pile_end Dn (by k_asm) (.head _) (.tail _ (.head _)) (fun p hp => .tail _ (.tail _ hp))) (pile_off hon hom) (fun p hp => ?_) (fun z h2 h3 => ?_) ⟨by rw [hst]; exact hI1, by rw [hst]; exact hI2, hok, hI4⟩)
      · rcases List.mem_cons.mp hp with rfl | hp
        · rfl
        · rw [List.mem_singleton.mp hp]; rfl
      · simp only [List.forall_mem_cons, List.not_mem_nil, false_implies, implies_true, and_true, ne_eq] at h2
        simp only [List.contains_cons, List.contains_nil, Bool.or_false, Bool.or_eq_false_iff, beq_eq_false_iff_ne, ne_eq] at h3
        simp [h2, h3]
    · have hst : pileS first (xs1.take (i + 1)) = (ds ++ [(kindX x, maskX x)], qs ++ [mixedS (qs.getLastD 0) (kindX x) (maskX x) 12]) := by rw [hstep]; unfold pileStep; rw [if_neg (by omega), if_neg (by omega), if_neg (by omega)]
      obtain ⟨hw1, hw2⟩ := hw
      obtain ⟨us, zs, z, tz, rfl, rfl, hz⟩ := ints_snoc hI2 (by omega)
      have hzb := hk4 z (by simp)
      have hgl : (zs ++ [z]).getLastD 0 = z := by simp
      have hdd := deedX hw1
      have hmp : MixPre z (kindX x) (maskX x) := ⟨hzb.1, hzb.2, hdd⟩
      rw [hgl] at hst
      clear ho hstep
      k_steps
      (rename News _ _ _ _ => N9)
      simp only [List.push_toArray] at N9
      refine of_stop (fo_end (⟨Dn, vs ++ [_], _, Dm, us ++ [.int z tz] ++ [_], _⟩ : Addr × List Value × Nat × Addr × List Value × Nat) (by k_asm) (pile_end Dn N9 (.head _) (.tail _ (.head _)) (fun p hp => .tail _ (.tail _ hp))) (pile_off hon hom) (fun p hp => ?_) (fun z h2 h3 => ?_) ⟨?_, ?_, hok, hI4⟩)
      · rcases List.mem_cons.mp hp with rfl | hp
        · rfl
        · rw [List.mem_singleton.mp hp]; rfl
      · simp only [List.forall_mem_cons, List.not_mem_nil, false_implies, implies_true, and_true, ne_eq] at h2
        simp only [List.contains_cons, List.contains_nil, Bool.or_false, Bool.or_eq_false_iff, beq_eq_false_iff_ne, ne_eq] at h3
        simp [h2, h3]
      · rw [hst, List.map_append]; exact StrsAre.append' hI1 (.cons _ _ .nil)
      · rw [hst]; exact hI2.append (.cons _ _ .nil)
    · have hst : pileS first (xs1.take (i + 1)) = ([(kindX x, maskX x)], [first.fmod 65536, mixedS (first.fmod 65536) (kindX x) (maskX x) 12]) := by rw [hstep]; unfold pileStep; rw [if_neg (by omega), if_neg (by omega), if_pos hw]
      clear ho hstep
      have hdd := deedX (show 3 ≤ x.fmod 7 by omega)
      have hmp : MixPre (first.fmod 65536) (kindX x) (maskX x) := ⟨hf1.1, hf1.2, hdd⟩
      k_steps
      (rename News _ _ _ _ => N9)
      (rename _ ∧ _ ∧ _ ∧ AllLt _ _ => hlt)
      (rename _ ∧ _ ∧ AllLt _ _ => hl0)
      obtain ⟨hl1, _, _, hl2⟩ := hlt
      simp only [List.push_toArray] at N9
      obtain ⟨a9, b9, e9, f9⟩ := heads2 N9
      refine of_stop (fo_end (⟨a9, [_], 1, b9, [_, _], 1⟩ : Addr × List Value × Nat × Addr × List Value × Nat) (by k_asm) (pile_end a9 (by k_asm) (by rw [e9]; exact .tail _ (.head _)) (by rw [f9]; exact .head _) (fun p hp => .tail _ (.tail _ (.tail _ (.tail _ hp))))) (pile_off (fun q hq => ?_) (fun q hq => ?_)) (fun p hp => ?_) (fun z h2 h3 => ?_) ⟨?_, ?_, hok, ?_⟩)
      · rw [e9]; exact Nat.ne_of_gt (allLt_mem hl0.2.2 q hq)
      · rw [f9]; exact Nat.ne_of_gt (allLt_mem hl2 q hq)
      · rcases List.mem_cons.mp hp with rfl | hp
        · rw [e9]; rfl
        · rw [List.mem_singleton.mp hp, f9]; rfl
      · simp only [List.forall_mem_cons, List.not_mem_nil, false_implies, implies_true, and_true, ne_eq] at h2
        simp only [List.contains_cons, List.contains_nil, Bool.or_false, Bool.or_eq_false_iff, beq_eq_false_iff_ne, ne_eq] at h3
        simp [h2, h3]
      · rw [hst]; exact .cons _ _ .nil
      · rw [hst]; exact .cons _ _ (.cons _ _ .nil)
      · rw [e9, f9]; exact Nat.ne_of_lt hl1
  · intro c u h tk hI Fk Nk
    obtain ⟨Dn, vs, nn, Dm, ms, nm⟩ := c
    obtain ⟨hI1, hI2, hI3, hI4⟩ := hI
    rw [hp2.length, List.take_length] at hI1 hI2 hI3
    clear F' N' hp
    dsimp only [kstB] at Fk Nk hI1 hI2 hI3 hI4
    have hml : ms.length ≤ 21 := by rw [hI2.length]; have := hI3.1; have := hI3.2.1; omega
    have hqn : 1 ≤ (pileS first xs1).2.length := by rw [hI3.1]; omega
    refine wp_same ?_
    k_steps
    all_goals ((try (k_unfold; try dsimp only)); refine pure_end (by k_asm) ?_)
    (rename News _ _ _ _ => N9)
    exact pile_fin hI1 N9
end
section
theorem and_pow (x i : Nat) : x &&& 2 ^ i = (x / 2 ^ i % 2) * 2 ^ i := by
  apply Nat.eq_of_testBit_eq
  intro j
  rw [Nat.testBit_and, Nat.testBit_two_pow, ← Nat.toNat_testBit, Nat.mul_comm]
  cases h : x.testBit i with
  | true =>
    rw [Bool.toNat_true, Nat.mul_one, Nat.testBit_two_pow]
    by_cases e : i = j
    · subst e; simp [h]
    · simp [e]
  | false =>
    rw [Bool.toNat_false, Nat.mul_zero, Nat.zero_testBit]
    by_cases e : i = j
    · subst e; simp [h]
    · simp [e]
theorem bit01 (X b : Nat) : X / 2 ^ b % 2 = 0 ∨ X / 2 ^ b % 2 = 1 := by omega
theorem f_one {X i b : Nat} {c : Str} (hi : (i : Int) ≠ 0) : fpick X i [(((2 ^ b : Nat) : Int), c)] = if X / 2 ^ b % 2 = 1 then c else Str.ofString "-" := by
  have e : Builtin.bitAnd (X : Int) ((2 ^ b : Nat) : Int) = ((X / 2 ^ b % 2 * 2 ^ b : Nat) : Int) := by rw [and_nat (Int.natCast_nonneg _) (Int.natCast_nonneg _), Int.toNat_natCast, Int.toNat_natCast, and_pow]
  have hp : 0 < 2 ^ b := Nat.two_pow_pos b
  rcases bit01 X b with h | h
  · rw [fpick_miss, if_neg hi, if_neg (by omega)]
    rw [List.find?_cons, fh1n hi (by rw [e, h]; omega)]; rfl
  · rw [fpick_hit (j := 0) rfl rfl (fh1 hi (by rw [e, h]; omega)), if_pos h]
theorem f_three {X i a b : Nat} {c d e' : Str} (hi : (i : Int) ≠ 0) (hab : a ≠ b) : fpick X i [(((2 ^ a ||| 2 ^ b : Nat) : Int), c), (((2 ^ a : Nat) : Int), d), (((2 ^ b : Nat) : Int), e')] =
    if X / 2 ^ a % 2 = 1 then (if X / 2 ^ b % 2 = 1 then c else d) else if X / 2 ^ b % 2 = 1 then e' else Str.ofString "-" := by
  have ea : Builtin.bitAnd (X : Int) ((2 ^ a : Nat) : Int) = ((X / 2 ^ a % 2 * 2 ^ a : Nat) : Int) := by rw [and_nat (Int.natCast_nonneg _) (Int.natCast_nonneg _), Int.toNat_natCast, Int.toNat_natCast, and_pow]
  have eb : Builtin.bitAnd (X : Int) ((2 ^ b : Nat) : Int) = ((X / 2 ^ b % 2 * 2 ^ b : Nat) : Int) := by rw [and_nat (Int.natCast_nonneg _) (Int.natCast_nonneg _), Int.toNat_natCast, Int.toNat_natCast, and_pow]
  have eab : Builtin.bitAnd (X : Int) ((2 ^ a ||| 2 ^ b : Nat) : Int) = (((X / 2 ^ a % 2 * 2 ^ a) ||| (X / 2 ^ b % 2 * 2 ^ b) : Nat) : Int) := by rw [and_nat (Int.natCast_nonneg _) (Int.natCast_nonneg _), Int.toNat_natCast, Int.toNat_natCast, Nat.and_or_distrib_left, and_pow, and_pow]
  have hpa : 0 < 2 ^ a := Nat.two_pow_pos a
  have hpb : 0 < 2 ^ b := Nat.two_pow_pos b
  have hoa : (2 ^ a ||| 2 ^ b) ≠ 2 ^ a := fun h => by
    have := congrArg (fun z => Nat.testBit z b) h
    simp [Nat.testBit_or, Nat.testBit_two_pow, hab] at this
  have hob : (2 ^ a ||| 2 ^ b) ≠ 2 ^ b := fun h => by
    have := congrArg (fun z => Nat.testBit z a) h
    simp [Nat.testBit_or, Nat.testBit_two_pow, Ne.symm hab] at this
  have ho0 : (2 ^ a ||| 2 ^ b) ≠ 0 := fun h => by
    have := congrArg (fun z => Nat.testBit z a) h
    simp [Nat.testBit_or, Nat.testBit_two_pow] at this
  rcases bit01 X a with h | h <;> rcases bit01 X b with h' | h' <;> rw [h] at ea eab <;> rw [h'] at eb eab
  · rw [fpick_miss, if_neg hi, if_neg (by omega), if_neg (by omega)]
    rw [List.find?_cons, fh1n hi (by rw [eab]; simp; exact fun q => ho0 (by omega))]
    rw [List.find?_cons, fh1n hi (by rw [ea]; omega)]
    rw [List.find?_cons, fh1n hi (by rw [eb]; omega)]; rfl
  · rw [fpick_hit (j := 2) (b := ((2 ^ b : Nat) : Int)) (c := e') ?_ rfl (fh1 hi (by rw [eb]; omega)), if_neg (by omega), if_pos h']
    rw [show [(((2 ^ a ||| 2 ^ b : Nat) : Int), c), (((2 ^ a : Nat) : Int), d), (((2 ^ b : Nat) : Int), e')].take 2 = [(((2 ^ a ||| 2 ^ b : Nat) : Int), c), (((2 ^ a : Nat) : Int), d)] from rfl, List.find?_cons, fh1n hi (by rw [eab]; simp; exact fun q => hob (by exact_mod_cast q.symm)), List.find?_cons, fh1n hi (by rw [ea]; omega)]; rfl
  · rw [fpick_hit (j := 1) (b := ((2 ^ a : Nat) : Int)) (c := d) ?_ rfl (fh1 hi (by rw [ea]; omega)), if_pos h, if_neg (by omega)]
    rw [show [(((2 ^ a ||| 2 ^ b : Nat) : Int), c), (((2 ^ a : Nat) : Int), d), (((2 ^ b : Nat) : Int), e')].take 1 = [(((2 ^ a ||| 2 ^ b : Nat) : Int), c)] from rfl, List.find?_cons, fh1n hi (by rw [eab]; simp; exact fun q => hoa (by exact_mod_cast q.symm))]; rfl
  · rw [fpick_hit (j := 0) rfl rfl (fh1 hi (by rw [eab, Nat.one_mul, Nat.one_mul])), if_pos h, if_pos h']
theorem f_kind (X : Nat) : fpick X 0 (ftabs.getD 0 []) = Txt.item (Str.ofString "?pc?d?b?-?l?s???") ((X / 4096 % 16 : Nat) : Int) := by
  have e : Builtin.bitAnd (X : Int) 61440 = ((X / 4096 % 16 * 4096 : Nat) : Int) := by rw [and_nat (Int.natCast_nonneg _) (by decide), Int.toNat_natCast, show (61440 : Int).toNat = 61440 from rfl, and_top]
  have hf : fhit (X : Int) 0 = fun p => decide (((X / 4096 % 16 * 4096 : Nat) : Int) = p.1) := by
    funext p
    unfold fhit
    rw [if_pos (show ((0 : Nat) : Int) = 0 from rfl), e]
  unfold fpick
  rw [hf]
  have hn : X / 4096 % 16 < 16 := Nat.mod_lt _ (by decide)
  generalize X / 4096 % 16 = n at hn
  have hall : ∀ n, n < 16 → (match (ftabs.getD 0 []).find? (fun p => decide (((n * 4096 : Nat) : Int) = p.1)) with
    | some p => p.2
    | none => if ((0 : Nat) : Int) = 0 then Str.ofString "?" else Str.ofString "-") = Txt.item (Str.ofString "?pc?d?b?-?l?s???") (n : Int) := by decide
  exact hall n hn
theorem sgn_of {Y p c : Int} {l0 l1 s1 s0 : Str} {b1 b2 b3 b4 : Nat} (h1 : ((Y.fdiv p).fmod 8).fdiv 4 = b1) (h2 : (((Y.fdiv p).fmod 8).fdiv 2).fmod 2 = b2) (h3 : ((Y.fdiv p).fmod 8).fmod 2 = b3) (h4 : (Y.fdiv c).fmod 2 = b4) (k1 : b1 = 0 ∨ b1 = 1) (k2 : b2 = 0 ∨ b2 = 1) (k3 : b3 = 0 ∨ b3 = 1) (k4 : b4 = 0 ∨ b4 = 1)
    (e0 : l0 = Str.ofString "-x") (e1 : Txt.item l1 1 = s1) (e2 : Txt.item l1 0 = s0) :
    sgn Y p c l0 l1 = (if b1 = 1 then Str.ofString "r" else Str.ofString "-") ++ (if b2 = 1 then Str.ofString "w" else Str.ofString "-") ++ (if b4 = 1 then (if b3 = 1 then s1 else s0) else if b3 = 1 then Str.ofString "x" else Str.ofString "-") := by
  unfold sgn
  rw [h1, h2, h3, h4, e0]
  congr 1
  · congr 1
    · rcases k1 with k | k <;> rw [k] <;> decide
    · rcases k2 with k | k <;> rw [k] <;> decide
  · rcases k4 with k | k <;> rcases k3 with k' | k' <;> rw [k, k']
    · show Txt.item (Str.ofString "-x") 0 = Str.ofString "-"; decide
    · show Txt.item (Str.ofString "-x") 1 = Str.ofString "x"; decide
    · exact e2
    · exact e1
theorem bt {X i : Nat} (h : i < 16) : X % 65536 / 2 ^ i % 2 = X / 2 ^ i % 2 := by
  rw [← Nat.toNat_testBit, ← Nat.toNat_testBit, show (65536 : Nat) = 2 ^ 16 from rfl, Nat.testBit_mod_two_pow]
  simp [h]
theorem bt1 {X i : Nat} (h : i + 1 < 16) : X % 65536 / 2 ^ i / 2 % 2 = X / 2 ^ (i + 1) % 2 := by
  rw [← bt h, Nat.pow_succ, Nat.div_div_eq_div_mul]
theorem bt2 {X i : Nat} (h : i + 2 < 16) : X % 65536 / 2 ^ i / 4 % 2 = X / 2 ^ (i + 2) % 2 := by
  rw [← bt h, Nat.pow_add, Nat.div_div_eq_div_mul]
theorem fd_nat (a b : Nat) : ((a : Nat) : Int).fdiv (b : Int) = ((a / b : Nat) : Int) := by
  rw [Int.fdiv_eq_ediv_of_nonneg _ (Int.natCast_nonneg b), Int.natCast_ediv]
theorem fm_nat (a b : Nat) : ((a : Nat) : Int).fmod (b : Int) = ((a % b : Nat) : Int) := by
  rw [Int.fmod_eq_emod_of_nonneg _ (Int.natCast_nonneg b), Int.natCast_emod]
theorem sgn_bits {X k i : Nat} {p c : Int} {l0 l1 s1 s0 : Str} (hp : p = ((2 ^ k : Nat) : Int)) (hc : c = ((2 ^ i : Nat) : Int)) (hk : k + 2 < 16) (hi : i < 16) (e0 : l0 = Str.ofString "-x") (e1 : Txt.item l1 1 = s1) (e2 : Txt.item l1 0 = s0) :
    sgn ((X % 65536 : Nat) : Int) p c l0 l1 = (if X / 2 ^ (k + 2) % 2 = 1 then Str.ofString "r" else Str.ofString "-") ++ (if X / 2 ^ (k + 1) % 2 = 1 then Str.ofString "w" else Str.ofString "-") ++ (if X / 2 ^ i % 2 = 1 then (if X / 2 ^ k % 2 = 1 then s1 else s0) else if X / 2 ^ k % 2 = 1 then Str.ofString "x" else Str.ofString "-") := by
  subst hp; subst hc
  have a0 := bt (X := X) (i := k) (by omega)
  have a1 := bt1 (X := X) (i := k) (by omega)
  have a2 := bt2 (X := X) (i := k) hk
  have a3 := bt (X := X) hi
  have g : (((X % 65536 : Nat) : Int).fdiv ((2 ^ k : Nat) : Int)).fmod 8 = ((X % 65536 / 2 ^ k % 8 : Nat) : Int) := by rw [fd_nat]; exact fm_nat _ 8
  refine sgn_of (b1 := X / 2 ^ (k + 2) % 2) (b2 := X / 2 ^ (k + 1) % 2) (b3 := X / 2 ^ k % 2) (b4 := X / 2 ^ i % 2) ?_ ?_ ?_ ?_ (bit01 ..) (bit01 ..) (bit01 ..) (bit01 ..) e0 e1 e2
  · rw [g]; refine (fd_nat _ 4).trans (congrArg _ ?_); rw [← a2]; exact Nat.mod_mul_right_div_self _ 4 2
  · rw [g]; refine (congrArg (Int.fmod · 2) (fd_nat _ 2)).trans ((fm_nat _ 2).trans (congrArg _ ?_)); rw [← a1]; exact (congrArg (· % 2) (Nat.mod_mul_right_div_self _ 2 4)).trans (Nat.mod_mod_of_dvd _ ⟨2, rfl⟩)
  · rw [g]; refine (fm_nat _ 2).trans (congrArg _ ?_); rw [← a0]; exact Nat.mod_mod_of_dvd _ ⟨4, rfl⟩
  · rw [fd_nat]; exact (fm_nat _ 2).trans (congrArg _ a3)
theorem signs_law (X : Nat) : Txt.join (Str.ofString "") (fperm X 10) = signsS ((X % 65536 : Nat) : Int) := by
  have p1 : fpick X 1 (ftabs.getD 1 []) = if X / 2 ^ 8 % 2 = 1 then Str.ofString "r" else Str.ofString "-" := f_one (i := 1) (b := 8) (by decide)
  have p2 : fpick X 2 (ftabs.getD 2 []) = if X / 2 ^ 7 % 2 = 1 then Str.ofString "w" else Str.ofString "-" := f_one (i := 2) (b := 7) (by decide)
  have p3 : fpick X 3 (ftabs.getD 3 []) = if X / 2 ^ 11 % 2 = 1 then (if X / 2 ^ 6 % 2 = 1 then Str.ofString "s" else Str.ofString "S") else if X / 2 ^ 6 % 2 = 1 then Str.ofString "x" else Str.ofString "-" := f_three (i := 3) (a := 11) (b := 6) (by decide) (by decide)
  have p4 : fpick X 4 (ftabs.getD 4 []) = if X / 2 ^ 5 % 2 = 1 then Str.ofString "r" else Str.ofString "-" := f_one (i := 4) (b := 5) (by decide)
  have p5 : fpick X 5 (ftabs.getD 5 []) = if X / 2 ^ 4 % 2 = 1 then Str.ofString "w" else Str.ofString "-" := f_one (i := 5) (b := 4) (by decide)
  have p6 : fpick X 6 (ftabs.getD 6 []) = if X / 2 ^ 10 % 2 = 1 then (if X / 2 ^ 3 % 2 = 1 then Str.ofString "s" else Str.ofString "S") else if X / 2 ^ 3 % 2 = 1 then Str.ofString "x" else Str.ofString "-" := f_three (i := 6) (a := 10) (b := 3) (by decide) (by decide)
  have p7 : fpick X 7 (ftabs.getD 7 []) = if X / 2 ^ 2 % 2 = 1 then Str.ofString "r" else Str.ofString "-" := f_one (i := 7) (b := 2) (by decide)
  have p8 : fpick X 8 (ftabs.getD 8 []) = if X / 2 ^ 1 % 2 = 1 then Str.ofString "w" else Str.ofString "-" := f_one (i := 8) (b := 1) (by decide)
  have p9 : fpick X 9 (ftabs.getD 9 []) = if X / 2 ^ 9 % 2 = 1 then (if X / 2 ^ 0 % 2 = 1 then Str.ofString "t" else Str.ofString "T") else if X / 2 ^ 0 % 2 = 1 then Str.ofString "x" else Str.ofString "-" := f_three (i := 9) (a := 9) (b := 0) (by decide) (by decide)
  have q0 : ((X % 65536 : Nat) : Int).fdiv 4096 = ((X / 4096 % 16 : Nat) : Int) := (fd_nat _ 4096).trans (congrArg _ (Nat.mod_mul_right_div_self X 4096 16))
  have q1 := sgn_bits (X := X) (k := 6) (i := 11) (p := 64) (c := 2048) (l0 := Str.ofString "-x") (l1 := Str.ofString "Ss") (s1 := Str.ofString "s") (s0 := Str.ofString "S") rfl rfl (by decide) (by decide) rfl (by decide) (by decide)
  have q2 := sgn_bits (X := X) (k := 3) (i := 10) (p := 8) (c := 1024) (l0 := Str.ofString "-x") (l1 := Str.ofString "Ss") (s1 := Str.ofString "s") (s0 := Str.ofString "S") rfl rfl (by decide) (by decide) rfl (by decide) (by decide)
  have q3 := sgn_bits (X := X) (k := 0) (i := 9) (p := 1) (c := 512) (l0 := Str.ofString "-x") (l1 := Str.ofString "Tt") (s1 := Str.ofString "t") (s0 := Str.ofString "T") rfl rfl (by decide) (by decide) rfl (by decide) (by decide)
  unfold signsS
  rw [q0, q1, q2, q3, ← f_kind, ← p1, ← p2, ← p3, ← p4, ← p5, ← p6, ← p7, ← p8, ← p9]
  unfold Txt.join
  rw [StrLaws.glued_eq_join]
  apply cl_ext
  simp only [fperm, List.nil_append, List.cons_append, Str.join, cl_app]
  have hn : cl (Str.ofString "") = [] := by decide
  simp only [hn, List.append_nil, List.append_assoc, List.nil_append]
end
section
noncomputable def modeOf (f : Int) (ds : List (Int × Int)) : Int := ds.foldl (fun m q => mixedS m q.1 q.2 12) f
theorem modeOf_snoc (f : Int) (ds : List (Int × Int)) (q : Int × Int) : modeOf f (ds ++ [q]) = mixedS (modeOf f ds) q.1 q.2 12 := by
  unfold modeOf; rw [List.foldl_append]; rfl
theorem modeOf_bd {f : Int} (hf : 0 ≤ f ∧ f < 65536) (ds : List (Int × Int)) : (∀ q ∈ ds, Deed q) → 0 ≤ modeOf f ds ∧ modeOf f ds < 65536 := by
  refine snoc_rec (P := fun ds => (∀ q ∈ ds, Deed q) → 0 ≤ modeOf f ds ∧ modeOf f ds < 65536) ds (fun _ => hf) fun ds q ih h => ?_
  have hq := h q (by simp)
  rw [modeOf_snoc]
  exact mixed_bd (ih fun p hp => h p (List.mem_append_left _ hp)) ⟨hq.1, hq.2.1⟩ hq.2.2
theorem runS_snoc (m : Int) (ds : List (Int × Int)) (q : Int × Int) : runS m (ds ++ [q]) = stepR (runS m ds) q := by
  unfold runS; rw [List.foldl_append]; rfl
theorem runS_law {m : Int} (hm : 0 ≤ m ∧ m < 4294967296) (ds : List (Int × Int)) : (∀ q ∈ ds, Deed q) → 0 ≤ runS m ds ∧ runS m ds < 4294967296 ∧ (runS m ds).fmod 65536 = modeOf (m.fmod 65536) ds := by
  refine snoc_rec (P := fun ds => (∀ q ∈ ds, Deed q) → 0 ≤ runS m ds ∧ runS m ds < 4294967296 ∧ (runS m ds).fmod 65536 = modeOf (m.fmod 65536) ds) ds (fun _ => ⟨hm.1, hm.2, rfl⟩) fun ds q ih h => ?_
  have hq := h q (by simp)
  obtain ⟨h1, h2, h3⟩ := ih fun p hp => h p (List.mem_append_left _ hp)
  have hf : 0 ≤ m.fmod 65536 ∧ m.fmod 65536 < 65536 := ⟨Int.fmod_nonneg_of_pos _ (by decide), Int.fmod_lt_of_pos _ (by decide)⟩
  have hb := modeOf_bd hf (ds ++ [q]) h
  have e : runS m (ds ++ [q]) = modeOf (m.fmod 65536) (ds ++ [q]) := by
    rw [runS_snoc, stepR_eq h1 ⟨hq.1, hq.2.1⟩ hq.2.2.1, h3, modeOf_snoc]
  rw [e]
  refine ⟨hb.1, by omega, ?_⟩
  rw [Int.fmod_eq_emod_of_nonneg _ (by decide)]
  omega
/-- the pile of modes stands beside the pile of names -/
noncomputable def Beside (f : Int) (st : List (Int × Int) × List Int) : Prop := st.2.length = st.1.length + 1 ∧ ∀ i, i ≤ st.1.length → st.2[i]? = some (modeOf f (st.1.take i))
theorem beside_last {f : Int} {st : List (Int × Int) × List Int} (h : Beside f st) : st.2.getLastD 0 = modeOf f st.1 := by
  rw [List.getLastD_eq_getLast?, List.getLast?_eq_getElem?, h.1, Nat.add_sub_cancel, h.2 _ (Nat.le_refl _), List.take_length]; rfl
theorem beside_push {f : Int} {st : List (Int × Int) × List Int} (h : Beside f st) (q : Int × Int) : Beside f (st.1 ++ [q], st.2 ++ [mixedS (modeOf f st.1) q.1 q.2 12]) := by
  refine ⟨by simp [h.1], fun i hi => ?_⟩
  simp only [List.length_append, List.length_cons, List.length_nil] at hi
  rcases Nat.lt_or_ge st.1.length i with hl | hl
  · have hi2 : i = st.1.length + 1 := by omega
    subst hi2
    show (st.2 ++ [mixedS (modeOf f st.1) q.1 q.2 12])[st.1.length + 1]? = some (modeOf f ((st.1 ++ [q]).take (st.1.length + 1)))
    rw [List.take_of_length_le (by simp), modeOf_snoc, List.getElem?_append_right (by rw [h.1]; exact Nat.le_refl _), h.1]
    simp
  · show (st.2 ++ [mixedS (modeOf f st.1) q.1 q.2 12])[i]? = some (modeOf f ((st.1 ++ [q]).take i))
    rw [List.getElem?_append_left (by rw [h.1]; omega), h.2 i hl, List.take_append_of_le_length hl]
theorem beside_pop {f : Int} {st : List (Int × Int) × List Int} (h : Beside f st) (hn : st.1 ≠ []) : Beside f (st.1.dropLast, st.2.dropLast) := by
  have hp := List.length_pos_iff.mpr hn
  refine ⟨by simp only [List.length_dropLast]; rw [h.1]; omega, fun i hi => ?_⟩
  simp only [List.length_dropLast] at hi
  show st.2.dropLast[i]? = some (modeOf f (st.1.dropLast.take i))
  rw [List.dropLast_eq_take, List.dropLast_eq_take, List.getElem?_take_of_lt (by rw [h.1]; omega), h.2 i (by omega), List.take_take, Nat.min_eq_left hi]
theorem beside_all (first : Int) : ∀ (xs : List Int), Beside (first.fmod 65536) (pileS first xs) := by
  intro xs
  refine snoc_rec (P := fun xs => Beside (first.fmod 65536) (pileS first xs)) xs ⟨rfl, fun i hi => ?_⟩ fun xs x ih => ?_
  · have : i = 0 := by simpa [pileS] using hi
    subst this; rfl
  · have e : pileS first (xs ++ [x]) = pileStep first (pileS first xs) x := by unfold pileS; rw [List.foldl_append]; rfl
    rw [e]
    generalize pileS first xs = st at ih
    unfold pileStep
    split
    · split
      · rename_i h
        have : st.1.dropLast = st.1 := by rw [h]; rfl
        rw [this]; exact ih
      · rename_i h; exact beside_pop ih h
    · split
      · exact ih
      · split
        · exact beside_push (f := first.fmod 65536) (st := ([], [first.fmod 65536])) ⟨rfl, fun i hi => by (have : i = 0 := (by simpa using hi)); subst this; rfl⟩ (kindX x, maskX x)
        · rw [beside_last ih]; exact beside_push ih (kindX x, maskX x)
theorem pile_top (first : Int) (xs : List Int) : (pileS first xs).2.getD (-1 + ((pileS first xs).2.length : Int)).toNat 0 = modeOf (first.fmod 65536) (pileS first xs).1 := by
  have h := beside_all first xs
  have e : (-1 + ((pileS first xs).2.length : Int)).toNat = (pileS first xs).1.length := by rw [h.1]; omega
  rw [e, List.getD_eq_getElem?_getD, h.2 _ (Nat.le_refl _), List.take_length]; rfl
end
section
/-- signs parted at the slashes -/
noncomputable def pcs : List Nat → List (List Nat)
  | [] => [[]]
  | c :: r => if c = 47 then [] :: pcs r else match pcs r with
    | [] => [[c]]
    | p :: ps => (c :: p) :: ps
theorem pcs_ne : ∀ l, pcs l ≠ []
  | [] => by simp [pcs]
  | c :: r => by
    unfold pcs
    split
    · simp
    · split <;> simp
theorem pcs_free : ∀ {a : List Nat}, 47 ∉ a → pcs a = [a]
  | [], _ => rfl
  | c :: r, h => by
    have hc : ¬ c = 47 := fun e => h (by rw [e]; exact .head _)
    unfold pcs
    rw [if_neg hc, pcs_free (fun hm => h (.tail _ hm))]
theorem pcs_app : ∀ (a b : List Nat), pcs (a ++ 47 :: b) = pcs a ++ pcs b
  | [], b => by
    show pcs (47 :: b) = [] :: pcs b
    rw [pcs, if_pos rfl]
  | c :: r, b => by
    show pcs (c :: (r ++ 47 :: b)) = pcs (c :: r) ++ pcs b
    rw [pcs, pcs, pcs_app r b]
    split
    · rfl
    · have := pcs_ne r
      cases h : pcs r with
      | nil => exact absurd h this
      | cons p ps => rfl
theorem pcs_last : ∀ (a : List Nat) {b : List Nat}, 47 ∉ b → ∃ i l, pcs a = i ++ [l] ∧ pcs (a ++ b) = i ++ [l ++ b]
  | [], b, h => ⟨[], [], rfl, by rw [List.nil_append, pcs_free h]; rfl⟩
  | c :: r, b, h => by
    obtain ⟨i, l, h1, h2⟩ := pcs_last r h
    by_cases hc : c = 47
    · subst hc
      exact ⟨[] :: i, l, by rw [pcs, if_pos rfl, h1]; rfl, by show pcs (47 :: (r ++ b)) = _; rw [pcs, if_pos rfl, h2]; rfl⟩
    · cases i with
      | nil => exact ⟨[], c :: l, by rw [pcs, if_neg hc, h1]; rfl, by show pcs (c :: (r ++ b)) = _; rw [pcs, if_neg hc, h2]; rfl⟩
      | cons p ps => exact ⟨(c :: p) :: ps, l, by rw [pcs, if_neg hc, h1]; rfl, by show pcs (c :: (r ++ b)) = _; rw [pcs, if_neg hc, h2]; rfl⟩
theorem join_pcs (sep : Str) (hs : cl sep = [47]) : ∀ (ps : List Str), ps ≠ [] → (∀ p ∈ ps, 47 ∉ cl p) → pcs (cl (Str.join sep ps)) = ps.map cl
  | [], h, _ => absurd rfl h
  | [x], _, h => pcs_free (h x (.head _))
  | x :: y :: r, _, h => by
    show pcs (cl (x ++ sep ++ Str.join sep (y :: r))) = _
    rw [cl_app, cl_app, hs, List.append_assoc, List.singleton_append, pcs_app, pcs_free (h x (.head _)), join_pcs sep hs (y :: r) (by simp) (fun p hp => h p (.tail _ hp))]
    rfl
theorem split_pcs (x : Str) : (Txt.split x (Str.ofString "/")).map cl = pcs (cl x) := by
  have h1 := StrLaws.join_split x (Str.ofString "/")
  have h2 := StrLaws.split_free x 47
  rw [← slash_eq] at h2
  have hne : Txt.split x (Str.ofString "/") ≠ [] := by
    have := split_pos x (Str.ofString "/")
    intro e; rw [e] at this; simp at this
  have := join_pcs (Str.ofString "/") (by decide) _ hne h2
  rw [← this, h1]
/-- the stack of normpath, on lists of signs -/
noncomputable def stepL (st : List (List Nat)) (y : List Nat) : List (List Nat) := if y = [] ∨ y = [46] then st else if y = [46, 46] then st.dropLast else st ++ [y]
theorem stepL_eq (st : List Str) (y : Str) : (stepS st y).map cl = stepL (st.map cl) (cl y) := by
  have e0 : y = Str.ofString "" ↔ cl y = [] := ⟨fun h => by rw [h]; decide, fun h => cl_ext (by rw [h]; decide)⟩
  have e1 : y = Str.ofString "." ↔ cl y = [46] := ⟨fun h => by rw [h]; decide, fun h => cl_ext (by rw [h]; decide)⟩
  have e2 : y = Str.ofString ".." ↔ cl y = [46, 46] := ⟨fun h => by rw [h]; decide, fun h => cl_ext (by rw [h]; decide)⟩
  unfold stepS stepL
  by_cases h : y = Str.ofString "" ∨ y = Str.ofString "."
  · rw [if_pos h, if_pos (h.imp e0.mp e1.mp)]
  · rw [if_neg h, if_neg (show ¬ (cl y = [] ∨ cl y = [46]) from fun q => h (q.imp e0.mpr e1.mpr))]
    by_cases h2 : y = Str.ofString ".."
    · rw [if_pos h2, if_pos (e2.mp h2), List.map_dropLast]
    · rw [if_neg h2, if_neg (show ¬ (cl y = [46, 46]) from fun q => h2 (e2.mpr q)), List.map_append]; rfl
theorem stk_cl : ∀ (cs : List Str) (st : List Str), (cs.foldl stepS st).map cl = (cs.map cl).foldl stepL (st.map cl)
  | [], _ => rfl
  | c :: cs, st => by
    show (cs.foldl stepS (stepS st c)).map cl = (cs.map cl).foldl stepL (stepL (st.map cl) (cl c))
    rw [stk_cl cs, stepL_eq]
end
section
theorem starts_iff (b : Str) : Txt.startswith b (Str.ofString "/") = true ↔ ∃ r, cl b = 47 :: r := by
  unfold Txt.startswith
  rw [StrLaws.subAt_eq, Bool.and_eq_true, decide_eq_true_eq, slash_eq]
  show 0 + 1 ≤ b.length ∧ ((List.take 1 (List.drop 0 (cl b))) == [47]) = true ↔ _
  rw [← cl_len, List.drop_zero]
  cases h : cl b with
  | nil => simp
  | cons c r => simp
theorem ends_iff (b : Str) : Txt.endswith b (Str.ofString "/") = true ↔ ∃ i, cl b = i ++ [47] := by
  unfold Txt.endswith
  rw [StrLaws.subAt_eq, Bool.and_eq_true, decide_eq_true_eq, slash_eq]
  show 0 + 1 ≤ b.length ∧ ((List.take 1 (List.drop (b.length - 1) (cl b))) == [47]) = true ↔ _
  rw [← cl_len]
  rcases List.eq_nil_or_concat (cl b) with h | ⟨i, c, h⟩
  · rw [h]; simp
  · rw [h, List.concat_eq_append]
    simp
/-- the stack of a path behind its slash -/
noncomputable def SP (T : List Nat) : List (List Nat) := (pcs T).foldl stepL []
noncomputable def Ends (T : List Nat) : Prop := T = [] ∨ ∃ i, T = i ++ [47]
theorem ends_pcs {T : List Nat} (h : Ends T) : ∃ I, pcs T = I ++ [[]] := by
  rcases h with h | ⟨i, h⟩
  · exact ⟨[], by rw [h]; rfl⟩
  · exact ⟨pcs i, by rw [h, pcs_app]; rfl⟩
theorem SP_glue {T y : List Nat} (h : Ends T) (hy : 47 ∉ y) : SP (T ++ y) = stepL (SP T) y := by
  obtain ⟨I, hI⟩ := ends_pcs h
  obtain ⟨i, l, h1, h2⟩ := pcs_last T hy
  have e := hI.symm.trans h1
  obtain ⟨e1, e2⟩ := List.append_inj' e rfl
  obtain rfl : l = [] := (List.cons.inj e2).1.symm
  subst e1
  have h0 : ∀ st, stepL st [] = st := fun st => by unfold stepL; rw [if_pos (.inl rfl)]
  unfold SP
  rw [h2, hI, List.foldl_append, List.foldl_append, List.nil_append]
  exact congrArg (fun q => stepL q y) (h0 _).symm
theorem SP_sep {T y : List Nat} (hy : 47 ∉ y) : SP (T ++ 47 :: y) = stepL (SP T) y := by
  unfold SP
  rw [pcs_app, pcs_free hy, List.foldl_append]
  rfl
theorem join_cl {x b : Str} {T : List Nat} (hx : cl x = 47 :: T) : ∃ T', cl (joinS x b) = 47 :: T' ∧ ((∃ r, cl b = 47 :: r ∧ T' = r) ∨ ((¬ ∃ r, cl b = 47 :: r) ∧ ((Ends T ∧ T' = T ++ cl b) ∨ (¬ Ends T ∧ T' = T ++ 47 :: cl b)))) := by
  have hne : ¬ ((x.length : Int) = 0) := by rw [← cl_len, hx]; simp; omega
  have hE : Txt.endswith x (Str.ofString "/") = true ↔ Ends T := by
    rw [ends_iff, hx]
    constructor
    · rintro ⟨i, h⟩
      cases i with
      | nil => exact .inl (by simpa using h)
      | cons c i => exact .inr ⟨i, by simpa using (List.cons.inj h).2⟩
    · rintro (h | ⟨i, h⟩)
      · exact ⟨[], by rw [h]; rfl⟩
      · exact ⟨47 :: i, by rw [h]; rfl⟩
  unfold joinS
  by_cases h1 : Txt.startswith b (Str.ofString "/") = true
  · rw [if_pos (.inl h1)]
    obtain ⟨r, hr⟩ := (starts_iff b).mp h1
    exact ⟨r, hr, .inl ⟨r, hr, rfl⟩⟩
  · rw [if_neg (fun q => q.elim h1 hne)]
    have h1' : ¬ ∃ r, cl b = 47 :: r := fun q => h1 ((starts_iff b).mpr q)
    by_cases h2 : Txt.endswith x (Str.ofString "/") = true
    · rw [if_pos h2]
      exact ⟨T ++ cl b, by rw [cl_app, hx]; rfl, .inr ⟨h1', .inl ⟨hE.mp h2, rfl⟩⟩⟩
    · rw [if_neg h2]
      exact ⟨T ++ 47 :: cl b, by rw [cl_app, cl_app, hx, show cl (Str.ofString "/") = [47] by decide]; rfl, .inr ⟨h1', .inr ⟨fun q => h2 (hE.mpr q), rfl⟩⟩⟩
noncomputable def Hd1 (T : List Nat) : Prop := ∀ r, T ≠ 47 :: r
theorem SP_one {T T' y : List Nat} (hy : 47 ∉ y) (hT : Hd1 T) (h : (Ends T ∧ T' = T ++ y) ∨ (¬ Ends T ∧ T' = T ++ 47 :: y)) : SP T' = stepL (SP T) y ∧ Hd1 T' := by
  rcases h with ⟨h1, h2⟩ | ⟨h1, h2⟩
  · refine ⟨by rw [h2]; exact SP_glue h1 hy, fun r e => ?_⟩
    rw [h2] at e
    cases T with
    | nil => exact hy (by rw [show y = 47 :: r from e]; exact .head _)
    | cons c t => exact hT t (by rw [(List.cons.inj e).1])
  · refine ⟨by rw [h2]; exact SP_sep hy, fun r e => ?_⟩
    rw [h2] at e
    cases T with
    | nil => exact h1 (.inl rfl)
    | cons c t => exact hT t (by rw [(List.cons.inj e).1])
theorem SP_dots {T T' : List Nat} (hT : Hd1 T) (h : (Ends T ∧ T' = T ++ [46, 47, 47, 46]) ∨ (¬ Ends T ∧ T' = T ++ 47 :: [46, 47, 47, 46])) : SP T' = SP T ∧ Hd1 T' := by
  have h46 : 47 ∉ [46] := by decide
  have d1 : ∀ st, stepL st [46] = st := fun st => by unfold stepL; rw [if_pos (.inr rfl)]
  have d0 : ∀ st, stepL st [] = st := fun st => by unfold stepL; rw [if_pos (.inl rfl)]
  have key : ∀ U, SP (U ++ 47 :: ([] ++ 47 :: [46])) = SP U := fun U => by
    unfold SP
    rw [pcs_app, pcs_app, pcs_free h46, List.foldl_append]
    show stepL (stepL _ []) [46] = _
    rw [d1]
    exact d0 _
  have hh : (Ends T ∧ T ++ [46] = T ++ [46]) ∨ (¬ Ends T ∧ T ++ 47 :: [46] = T ++ 47 :: [46]) := (Classical.em (Ends T)).imp (fun e => ⟨e, rfl⟩) (fun e => ⟨e, rfl⟩)
  rcases h with ⟨h1, h2⟩ | ⟨h1, h2⟩
  · obtain ⟨a, b⟩ := SP_one (T' := T ++ [46]) h46 hT (.inl ⟨h1, rfl⟩)
    refine ⟨?_, fun r e => ?_⟩
    · rw [h2, show T ++ [46, 47, 47, 46] = (T ++ [46]) ++ 47 :: ([] ++ 47 :: [46]) by simp, key, a, d1]
    · rw [h2] at e
      cases T with
      | nil => exact absurd (List.cons.inj e).1 (by decide)
      | cons c t => exact hT t (by rw [(List.cons.inj e).1])
  · obtain ⟨a, b⟩ := SP_one (T' := T ++ 47 :: [46]) h46 hT (.inr ⟨h1, rfl⟩)
    refine ⟨?_, fun r e => ?_⟩
    · rw [h2, show T ++ 47 :: [46, 47, 47, 46] = (T ++ 47 :: [46]) ++ 47 :: ([] ++ 47 :: [46]) by simp, key, a, d1]
    · rw [h2] at e
      cases T with
      | nil => exact h1 (.inl rfl)
      | cons c t => exact hT t (by rw [(List.cons.inj e).1])
theorem cl_nmD (q : Int × Int) : cl (nmD q) = cl (kindS q.1) ++ 46 :: figL q.2 := by unfold nmD; rw [name_eq, cl_app, cl_end]
theorem nmD_no {q : Int × Int} (h : Deed q) : 47 ∉ cl (nmD q) := by rw [cl_nmD]; exact word_end_no q h
theorem step_name (st : List (List Nat)) (q : Int × Int) : stepL st (cl (nmD q)) = st ++ [cl (nmD q)] := by
  have hl : 5 ≤ (cl (nmD q)).length := by rw [cl_nmD]; simp only [List.length_append, List.length_cons, figL, List.length_nil]; omega
  unfold stepL
  rw [if_neg (fun h => ?_), if_neg (fun h => ?_)]
  · rw [h] at hl; simp at hl
  · rcases h with h | h <;> (rw [h] at hl; simp at hl)
theorem part_law {P : Str} {T : List Nat} {first x : Int} {st : List (Int × Int) × List Int} (hP : cl P = 47 :: T) (hT : Hd1 T) (hs : SP T = st.1.map fun q => cl (nmD q)) :
    ∃ T', cl (joinS P (partS x)) = 47 :: T' ∧ Hd1 T' ∧ SP T' = (pileStep first st x).1.map fun q => cl (nmD q) := by
  have h7a : 0 ≤ x.fmod 7 := Int.fmod_nonneg_of_pos _ (by decide)
  have h7b : x.fmod 7 < 7 := Int.fmod_lt_of_pos _ (by decide)
  obtain ⟨T', h1, h2⟩ := join_cl (b := partS x) hP
  refine ⟨T', h1, ?_⟩
  have flat : ∀ y : List Nat, cl (partS x) = y → 47 ∉ y → SP T' = stepL (SP T) y ∧ Hd1 T' := fun y hy hn => by
    rcases h2 with ⟨r, hr, _⟩ | ⟨_, h2⟩
    · rw [hy] at hr; exact absurd (by rw [hr]; exact .head _) hn
    · rw [hy] at h2; exact SP_one hn hT h2
  unfold pileStep
  rcases (by omega : x.fmod 7 = 0 ∨ x.fmod 7 = 1 ∨ x.fmod 7 = 2 ∨ x.fmod 7 = 6 ∨ (3 ≤ x.fmod 7 ∧ x.fmod 7 ≤ 5)) with h | h | h | h | h
  · have e : cl (partS x) = [46, 46] := by unfold partS; rw [if_pos (by omega), h]; decide
    obtain ⟨a, b⟩ := flat _ e (by decide)
    rw [if_pos h]
    exact ⟨b, by rw [a, hs]; unfold stepL; rw [if_neg (by decide), if_pos rfl, List.map_dropLast]⟩
  · have e : cl (partS x) = [46, 47, 47, 46] := by unfold partS; rw [if_pos (by omega), h]; decide
    rw [if_neg (by omega), if_pos (by omega)]
    rcases h2 with ⟨r, hr, _⟩ | ⟨_, h2⟩
    · rw [e] at hr; exact absurd (List.cons.inj hr).1 (by decide)
    · rw [e] at h2
      obtain ⟨a, b⟩ := SP_dots hT h2
      exact ⟨b, by rw [a, hs]⟩
  · have e : cl (partS x) = [] := by unfold partS; rw [if_pos (by omega), h]; decide
    obtain ⟨a, b⟩ := flat _ e (by decide)
    rw [if_neg (by omega), if_pos (by omega)]
    exact ⟨b, by rw [a, hs]; unfold stepL; rw [if_pos (.inl rfl)]⟩
  · have hd := deedX (x := x) (by omega)
    have ek : kindX x = 2 := by unfold kindX; rw [if_pos (by omega)]
    have e : cl (partS x) = 47 :: cl (nmD (kindX x, maskX x)) := by
      unfold partS
      rw [if_neg (by omega), if_pos h, cl_app, ek]; rfl
    rw [if_neg (by omega), if_neg (by omega), if_pos h]
    rcases h2 with ⟨r, hr, hr2⟩ | ⟨hn, _⟩
    · rw [e] at hr
      have er : T' = cl (nmD (kindX x, maskX x)) := by rw [hr2]; exact (List.cons.inj hr).2.symm
      refine ⟨fun r' e' => nmD_no hd (by rw [← er, e']; exact .head _), ?_⟩
      rw [er]
      unfold SP
      rw [pcs_free (nmD_no hd)]
      show stepL [] _ = _
      rw [step_name]; rfl
    · exact absurd ⟨_, e⟩ hn
  · have hd := deedX (x := x) (by omega)
    have ek : kindX x = x.fmod 7 - 3 := by unfold kindX; rw [if_neg (by omega)]
    have e : cl (partS x) = cl (nmD (kindX x, maskX x)) := by
      unfold partS
      rw [if_neg (by omega), if_neg (by omega), ek]; rfl
    obtain ⟨a, b⟩ := flat _ e (nmD_no hd)
    rw [if_neg (by omega), if_neg (by omega), if_neg (by omega)]
    refine ⟨b, ?_⟩
    rw [a, hs, step_name, List.map_append]; rfl
theorem path_law (first : Int) (xs : List Int) : ∃ T, cl ((xs.map partS).foldl joinS (Str.ofString "/")) = 47 :: T ∧ Hd1 T ∧ SP T = (pileS first xs).1.map fun q => cl (nmD q) := by
  refine snoc_rec (P := fun xs => ∃ T, cl ((xs.map partS).foldl joinS (Str.ofString "/")) = 47 :: T ∧ Hd1 T ∧ SP T = (pileS first xs).1.map fun q => cl (nmD q)) xs ⟨[], by decide, (fun r e => nomatch e), rfl⟩ fun xs x ih => ?_
  obtain ⟨T, h1, h2, h3⟩ := ih
  have e : pileS first (xs ++ [x]) = pileStep first (pileS first xs) x := by unfold pileS; rw [List.foldl_append]; rfl
  rw [e, List.map_append, List.foldl_append]
  exact part_law h1 h2 h3
theorem joinedS_eq (ps : List Str) : ∀ i, 2 * i ≤ ps.length → joinedS ps i = (ps.take (2 * i)).foldl joinS (Str.ofString "/")
  | 0, _ => rfl
  | i + 1, h => by
    have e1 : (0 + (i : Int) * 2).toNat = 2 * i := by omega
    have e2 : (0 + (i : Int) * 2 + 1).toNat = 2 * i + 1 := by omega
    have g1 : ps[2 * i]? = some (ps.getD (2 * i) Str.empty) := by rw [List.getD_eq_getElem?_getD, List.getElem?_eq_getElem (by omega)]; rfl
    have g2 : ps[2 * i + 1]? = some (ps.getD (2 * i + 1) Str.empty) := by rw [List.getD_eq_getElem?_getD, List.getElem?_eq_getElem (by omega)]; rfl
    rw [joinedS, joinedS_eq ps i (by omega), e1, e2, show 2 * (i + 1) = 2 * i + 1 + 1 by omega, List.take_add_one, g2, List.take_add_one, g1]
    simp
theorem joinedAll_eq (ps : List Str) : joinedAll ps = ps.foldl joinS (Str.ofString "/") := by
  have em : (ps.length : Int).fmod 2 = ((ps.length % 2 : Nat) : Int) := by rw [Int.fmod_eq_emod_of_nonneg _ (by decide)]; omega
  unfold joinedAll
  rw [em, joinedS_eq ps (ps.length / 2) (by omega)]
  by_cases h : ps.length % 2 = 1
  · rw [if_pos (by omega)]
    have g : ps[ps.length - 1]? = some (ps.getD (ps.length - 1) Str.empty) := by rw [List.getD_eq_getElem?_getD, List.getElem?_eq_getElem (by omega)]; rfl
    have e : ps = ps.take (2 * (ps.length / 2)) ++ [ps.getD (ps.length - 1) Str.empty] := by
      have h2 : ps.length - 1 = 2 * (ps.length / 2) := by omega
      conv => lhs; rw [← List.take_length (l := ps), show ps.length = (ps.length - 1) + 1 by omega, List.take_add_one, g]
      rw [h2]; rfl
    conv => rhs; rw [e]
    rw [List.foldl_append]; rfl
  · rw [if_neg (by omega), show 2 * (ps.length / 2) = ps.length by omega, List.take_length]
theorem map_cl_inj : ∀ {a b : List Str}, a.map cl = b.map cl → a = b
  | [], [], _ => rfl
  | [], _ :: _, h => by cases h
  | _ :: _, [], h => by cases h
  | x :: a, y :: b, h => by
    obtain ⟨h1, h2⟩ := List.cons.inj h
    rw [cl_ext h1, map_cl_inj h2]
theorem norm_law (first : Int) (xs : List Int) : stk (Txt.split (Txt.slice (joinedAll (xs.map partS)) (some 1) none) (Str.ofString "/")) = (pileS first xs).1.map nmD ∧
    Txt.slice (joinedAll (xs.map partS)) none (some 1) = Str.ofString "/" ∧ Txt.slice (joinedAll (xs.map partS)) (some 1) (some 2) ≠ Str.ofString "/" := by
  obtain ⟨T, h1, h2, h3⟩ := path_law first xs
  rw [← joinedAll_eq] at h1
  generalize joinedAll (xs.map partS) = P at h1
  have hl : 1 ≤ P.length := by rw [← cl_len, h1]; simp
  have e1 := sl_from (x := P) (n := 1) hl
  have e2 := sl_to (x := P) (n := 1) hl
  rw [show ((1 : Nat) : Int) = 1 from rfl] at e1 e2
  refine ⟨map_cl_inj ?_, cl_ext (by rw [e2, h1]; rfl), fun h => ?_⟩
  · unfold stk
    rw [stk_cl, split_pcs, e1, h1]
    show (pcs T).foldl stepL [] = _
    rw [show (pcs T).foldl stepL [] = SP T from rfl, h3, List.map_map]; rfl
  · have h4 := congrArg cl h
    cases T with
    | nil =>
      have e3 : Txt.slice P (some 1) (some 2) = Str.ofString "" := by
        have hp : P = Str.ofString "/" := cl_ext (by rw [h1]; decide)
        rw [hp]; decide
      rw [e3] at h
      exact absurd h (by decide)
    | cons c t =>
      have e3 := sl_mid (x := P) (a := 1) (b := 2) (by decide) (by rw [← cl_len, h1]; simp)
      rw [show ((1 : Nat) : Int) = 1 from rfl, show ((2 : Nat) : Int) = 2 from rfl] at e3
      rw [e3, h1] at h4
      have h5 : [c] = [47] := h4
      exact h2 t (by rw [(List.cons.inj h5).1])
end
section
theorem reg_law {x : Int} (hx : 0 ≤ x) (k : Nat) : (Builtin.bitAnd x 61440 == ((k * 4096 : Nat) : Int)) = ((x.fmod 65536).fdiv 4096 == (k : Int)) := by
  obtain ⟨X, rfl⟩ := Int.eq_ofNat_of_zero_le hx
  rw [and_nat (Int.natCast_nonneg _) (by decide), Int.toNat_natCast, show (61440 : Int).toNat = 61440 from rfl, and_top, Int.fmod_eq_emod_of_nonneg _ (by decide), Int.fdiv_eq_ediv_of_nonneg _ (by decide)]
  rw [Bool.eq_iff_iff, beq_iff_eq, beq_iff_eq]
  omega
theorem is_reg {x : Int} (hx : 0 ≤ x) : (Builtin.bitAnd x 61440 == 32768) = ((x.fmod 65536).fdiv 4096 == 8) := reg_law hx 8
theorem is_dir {x : Int} (hx : 0 ≤ x) : (Builtin.bitAnd x 61440 == 16384) = ((x.fmod 65536).fdiv 4096 == 4) := reg_law hx 4
end
section
theorem way_cl (ds : List (Int × Int)) : cl (wayD ds) = 47 :: cl (Str.join (Str.ofString "/") (ds.map nmD)) := by
  unfold wayD wayN Txt.join
  rw [StrLaws.glued_eq_join, cl_app]
  rfl
theorem nm_keep {q : Int × Int} (h : Deed q) : keepS (nmD q) = true := by
  have hl : 5 ≤ (cl (nmD q)).length := by rw [cl_nmD]; simp only [List.length_append, List.length_cons, figL, List.length_nil]; omega
  have e0 : (nmD q == Str.ofString "") = false := by
    rw [beq_eq_false_iff_ne]; intro e; rw [e] at hl; exact absurd hl (by decide)
  have e1 : (nmD q == Str.ofString ".") = false := by
    rw [beq_eq_false_iff_ne]; intro e; rw [e] at hl; exact absurd hl (by decide)
  unfold keepS; rw [e0, e1]; rfl
theorem split_way (ds : List (Int × Int)) (h : ∀ q ∈ ds, Deed q) : (Txt.split (wayD ds) (Str.ofString "/")).filter keepS = ds.map nmD := by
  have e : Txt.split (wayD ds) (Str.ofString "/") = Str.ofString "" :: (if ds = [] then [Str.ofString ""] else ds.map nmD) := by
    apply map_cl_inj
    rw [split_pcs, way_cl]
    show pcs (47 :: _) = cl (Str.ofString "") :: _
    rw [pcs, if_pos rfl]
    congr 1
    by_cases hd : ds = []
    · subst hd; rw [if_pos rfl]; decide
    · rw [if_neg hd, join_pcs _ (by decide) _ (by simpa using hd) (fun p hp => by obtain ⟨q, hq, rfl⟩ := List.mem_map.mp hp; exact nmD_no (h q hq))]
  rw [e, List.filter_cons_of_neg (by decide)]
  by_cases hd : ds = []
  · subst hd; rw [if_pos rfl]; decide
  · rw [if_neg hd, List.filter_eq_self.mpr fun p hp => ?_]
    obtain ⟨q, hq, rfl⟩ := List.mem_map.mp hp
    exact nm_keep (h q hq)
theorem way_slash1 (ds : List (Int × Int)) : Txt.startswith (wayD ds) (Str.ofString "/") = true := (starts_iff _).mpr ⟨_, way_cl ds⟩
theorem way_le (ds : List (Int × Int)) (h : ∀ q ∈ ds, Deed q) (hl : ds.length ≤ 20) : (wayD ds).length ≤ 200 := by
  rcases preD_nil_or ds with ⟨h1, _⟩ | ⟨ds', q, _, h2⟩
  · rw [h1, ← cl_len]; decide
  · have := preD_len ds h
    rw [h2, cl_len] at this
    omega
theorem c_common_d (w : World) (l1 : Addr) (ds1 ds2 : List (Int × Int)) (t u : Tok) : Con w 172 [.ref l1] 4 (fun h => h.IsList l1 #[.str (wayD ds1) t, .str (wayD ds2) u] ∧ ds1.length ≤ 20 ∧ ds2.length ≤ 20 ∧ (∀ q ∈ ds1, Deed q) ∧ ∀ q ∈ ds2, Deed q)
    (fun g h v => ∃ t, v = .str (wayN ((ds1.map nmD).take (bothN (ds1.map nmD) (ds2.map nmD)))) t) := by
  by_cases h1 : ∀ q ∈ ds1, Deed q
  · by_cases h2 : ∀ q ∈ ds2, Deed q
    · have C := c_common w l1 (wayD ds1) (wayD ds2) t u
      rw [split_way ds1 h1, split_way ds2 h2] at C
      exact con_pre C fun g hg => ⟨hg.1, Nat.le_trans (way_le ds1 h1 hg.2.1) (by decide), Nat.le_trans (way_le ds2 h2 hg.2.2.1) (by decide), way_slash1 ds1, way_slash1 ds2⟩
    · exact con_pre (Pre := fun _ => False) (fun mean mg mb dp un gd cn cs a ccd cl outer A₀ base h₀ L m s B F X T hk hd hu hp => hp.elim) fun g hg => h2 hg.2.2.2.2
  · exact con_pre (Pre := fun _ => False) (fun mean mg mb dp un gd cn cs a ccd cl outer A₀ base h₀ L m s B F X T hk hd hu hp => hp.elim) fun g hg => h1 hg.2.2.2.1
end
section
noncomputable def FirstIs (_first : Int) : Prop := True
theorem partS_len (x : Int) : (partS x).length ≤ 10 := by
  unfold partS
  split
  · have h7a : 0 ≤ x.fmod 7 := Int.fmod_nonneg_of_pos _ (by decide)
    rcases (by omega : x.fmod 7 = 0 ∨ x.fmod 7 = 1 ∨ x.fmod 7 = 2) with h | h | h <;> rw [h] <;> decide
  · split
    · have := nameS_len 2 ((x.fdiv 7).fmod 4096)
      rw [Str.length_append, show (Str.ofString "/").length = 1 from by decide]; omega
    · have := nameS_len (x.fmod 7 - 3) ((x.fdiv 7).fmod 4096); omega
theorem path_le (xs : List Int) : (joinedAll (xs.map partS)).length ≤ 1 + 11 * xs.length := by
  rw [joinedAll_eq]
  refine snoc_rec (P := fun xs => ((xs.map partS).foldl joinS (Str.ofString "/")).length ≤ 1 + 11 * xs.length) xs (by decide) fun xs x ih => ?_
  rw [List.map_append, List.foldl_append]
  have h1 := joinS_len ((xs.map partS).foldl joinS (Str.ofString "/")) (partS x)
  have h2 := partS_len x
  show (joinS _ (partS x)).length ≤ _
  rw [List.length_append, List.length_singleton]
  omega
theorem c_norm_law (w : World) (first : Int) (xs : List Int) (t : Tok) (_hf : FirstIs first) : Con w 167 [.str (joinedAll (xs.map partS)) t] 4 (fun _ => xs.length ≤ 17) (fun g h v => ∃ t, v = .str (wayD (pileS first xs).1) t) := by
  by_cases hx : xs.length ≤ 17
  · obtain ⟨h1, h2, h3⟩ := norm_law first xs
    have hl := path_le xs
    have hs := split_le (Txt.slice (joinedAll (xs.map partS)) (some 1) none)
    have hs2 := Txt.slice_le (joinedAll (xs.map partS)) (some 1) none
    have C := c_normpath w (joinedAll (xs.map partS)) t _ rfl (by omega)
    rw [h1] at C
    exact con_pre C fun g hg => ⟨by omega, h2, h3⟩
  · exact con_pre (Pre := fun _ => False) (fun mean mg mb dp un gd cn cs a ccd cl outer A₀ base h₀ L m s B F X T hk hd hu hp => hp.elim) fun g hg => hx hg
theorem path_slash (xs : List Int) : Txt.startswith (joinedAll (xs.map partS)) (Str.ofString "/") = true := by
  obtain ⟨T, h1, _⟩ := path_law 0 xs
  rw [joinedAll_eq]
  exact (starts_iff _).mpr ⟨T, h1⟩
theorem way_behind (ds : List (Int × Int)) (h : ∀ q ∈ ds, Deed q) : Txt.startswith (Txt.slice (wayD ds) (some 1) none) (Str.ofString "/") = false := by
  cases e : Txt.startswith (Txt.slice (wayD ds) (some 1) none) (Str.ofString "/") with
  | false => rfl
  | true =>
    exfalso
    obtain ⟨r, hr⟩ := (starts_iff _).mp e
    have e1 := sl_from (x := wayD ds) (n := 1) (by rw [← cl_len, way_cl]; simp)
    rw [show ((1 : Nat) : Int) = 1 from rfl, hr, way_cl] at e1
    have e2 : cl (Str.join (Str.ofString "/") (ds.map nmD)) = 47 :: r := e1.symm
    cases ds with
    | nil => cases e2
    | cons q ds =>
      have hk := kind_word (h q (.head _)).1 (h q (.head _)).2.1
      obtain ⟨hk1, a, r', hk2, _⟩ := hk
      have e3 : ∃ t, cl (Str.join (Str.ofString "/") ((q :: ds).map nmD)) = a :: t := by
        cases ds with
        | nil => exact ⟨r' ++ 46 :: figL q.2, by show cl (nmD q) = _; rw [cl_nmD, hk2]; rfl⟩
        | cons q2 ds =>
          refine ⟨r' ++ 46 :: figL q.2 ++ cl (Str.ofString "/" ++ Str.join (Str.ofString "/") ((q2 :: ds).map nmD)), ?_⟩
          show cl (nmD q ++ Str.ofString "/" ++ Str.join (Str.ofString "/") ((q2 :: ds).map nmD)) = _
          rw [Str.append_assoc, cl_app, cl_nmD, hk2]
          simp only [List.cons_append, List.append_assoc]
      obtain ⟨t, e3⟩ := e3
      rw [e3] at e2
      exact (hk1 a (by rw [hk2]; exact .head _)).1 (List.cons.inj e2).1
end
section
local macro_rules | `(tactic| walk_at "subscriptTail Name Slice ref ref") => do
  let t ← ln "kmk_slice_lit N N G P P R _ u p R" "D' h' F' N' l1" false
  `(tactic| (k_here; (with_reducible show wpAny _ _ (subscriptTail _ (PySem.Expr.Slice none _ none _) (Value.ref _) (Value.ref _)) _ _ _); $t:tactic; (try k_sweep)))
local macro_rules | `(tactic| walk_at "call builtin:list.append cons nil") => stopT
local macro_rules | `(tactic| walk_at "FoPost") => stopT
local macro_rules | `(tactic| walk_at "call type:str") => stopT
local macro_rules | `(tactic| walk_at "compareOp NotEq str str") => stopT
local macro_rules | `(tactic| walk_at "eval ListComp") => stopT
local macro_rules | `(tactic| walk_at "eval Name") => nmT "number"
local macro_rules | `(tactic| walk_at "call ref") => stopAt 280
local macro_rules | `(tactic| walk_at "call ref") => stopAt 294
local macro_rules | `(tactic| walk_at "call ref") => stopAt 172
local macro_rules | `(tactic| walk_at "call ref") => stopAt 322
local macro_rules | `(tactic| walk_at "call ref") => stopAt 287
local macro_rules | `(tactic| walk_at "call ref") => stopAt 308
local macro_rules | `(tactic| walk_at "con find") => `(tactic| exact c_norm_law _ _ _ _ (by with_reducible assumption))
theorem c_isabs_t (w : World) (x : Str) (t : Tok) (hs : Txt.startswith x (Str.ofString "/") = true) : Con w 129 [.str x t] 2 (fun _ => x.length ≤ 2000) (fun _ h v => v = .bool true) := by
  have C := c_isabs w x t
  rw [hs] at C; exact C
theorem c_isabs_f (w : World) (x : Str) (t : Tok) (hs : Txt.startswith x (Str.ofString "/") = false) : Con w 129 [.str x t] 2 (fun _ => x.length ≤ 2000) (fun _ h v => v = .bool false) := by
  have C := c_isabs w x t
  rw [hs] at C; exact C
local macro_rules | `(tactic| walk_at "con find") => `(tactic| exact c_isabs_t _ _ _ (by with_reducible assumption))
local macro_rules | `(tactic| walk_at "con find") => `(tactic| exact c_isabs_f _ _ _ (by with_reducible assumption))
local macro_rules | `(tactic| walk_at "con pre") => `(tactic| with_reducible assumption)
theorem pile_okS {first : Int} (xs : List Int) : PileOk xs.length (pileS first xs) := by
  have hf1 : 0 ≤ first.fmod 65536 ∧ first.fmod 65536 < 65536 := ⟨Int.fmod_nonneg_of_pos _ (by decide), Int.fmod_lt_of_pos _ (by decide)⟩
  refine snoc_rec (P := fun xs => PileOk xs.length (pileS first xs)) xs ⟨rfl, Nat.le_refl _, (fun q hq => nomatch hq), fun m hm => by rw [List.mem_singleton.mp hm]; exact hf1⟩ fun xs x ih => ?_
  have e : pileS first (xs ++ [x]) = pileStep first (pileS first xs) x := by unfold pileS; rw [List.foldl_append]; rfl
  rw [e, List.length_append]
  exact pile_ok hf1 (Int.fmod_lt_of_pos _ (by decide)) ih
noncomputable def PartFel (v y : Value) : Prop := ∃ (x : Int) (u t : Tok), v = Value.int x u ∧ y = .str (partS x) t
theorem parts_of : ∀ {vs ys : List Value} {xs : List Int}, IntsAre vs xs → Paired PartFel vs ys → StrsAre ys (xs.map partS)
  | _, _, _, .nil, h => by cases h; exact .nil
  | _, _, _, .cons y t r, h => by
    rcases h with _ | ⟨⟨x, u, t', e, rfl⟩, h⟩
    cases e
    exact .cons _ _ (parts_of r h)
theorem ints_take {vs : List Value} {xs : List Int} (h : IntsAre vs xs) : ∀ k, IntsAre (vs.take k) (xs.take k) := by
  induction h with
  | nil => intro k; simp; exact .nil
  | cons y t h ih =>
    intro k
    cases k with
    | zero => exact .nil
    | succ k => exact .cons y t (ih k)
theorem bools_shown (bs : List Bool) (hl : bs.length ≤ 3) : (PyData.tuple (bs.map PyData.bool)).shown.length ≤ 30 ∧ (PyData.tuple (bs.map PyData.bool)).showable = true ∧ (PyData.tuple (bs.map PyData.bool)).hasDict = false := by
  rcases bs with _ | ⟨a, _ | ⟨b, _ | ⟨c, _ | ⟨d, bs⟩⟩⟩⟩
  · decide
  · cases a <;> decide
  · cases a <;> cases b <;> decide
  · cases a <;> cases b <;> cases c <;> decide
  · exact absurd hl (by simp)
section
variable {prog : Program} {w : World} {A : Around} {E : Value → Shared → Prop} {s : Shared} {h₀ : Heap} {L : Addr} {m : Str → Option Value} {news : List (Addr × Obj)} {x y : Str} {t u : Tok} {Q : Value → Shared → Prop}
theorem ne_same (e : x = y) (h : Q (.bool false) s) : wpAny (model prog w) A (compareOp .NotEq (.str x t) (.str y u)) Q E s :=
  PySem.P.ne_str (by rw [e, bne_self_eq_false]; exact h)
theorem str_bools {T : Addr} {bs : List Bool} (F : Fr h₀ L s.heap m) (N : News h₀ L s.heap news) (hm : (T, ({ cls := .type "tuple", data := .seq (bs.map Value.bool).toArray } : Obj)) ∈ news) (hl : bs.length ≤ 3) (hg : A.guards = some []) (hu : A.units + 10 < cLine)
    (h : ∀ h' u tk, Fr h₀ L h' m → News h₀ L h' news → Q (.str (PyData.tuple (bs.map PyData.bool)).shown u) { s with heap := h', toks := tk }) : wpAny (model prog w) A (call (.type "str") [.ref T]) Q E s := by
  have ra : ∀ bs : List Bool, ReadsAll s.heap (bs.map Value.bool) (bs.map PyData.bool) [] := fun bs => by
    induction bs with
    | nil => exact .nil
    | cons b bs ih => exact .cons (as := []) (.bool b) ih
  have r : Reads s.heap (.ref T) (.tuple (bs.map PyData.bool)) [] := .tuple (News.get N hm) rfl rfl (ra bs)
  have hd : (PyData.tuple (bs.map PyData.bool)).depth ≤ 1 := by
    have : ∀ bs : List Bool, PyData.depthAll (bs.map PyData.bool) = 0 := fun bs => by
      induction bs with
      | nil => rfl
      | cons b bs ih => simp [PyData.depthAll, PyData.depth, ih]
    simp [PyData.depth, this]
  have hsh : (PyData.tuple (bs.map PyData.bool)).shown.length ≤ 30 ∧ (PyData.tuple (bs.map PyData.bool)).showable = true ∧ (PyData.tuple (bs.map PyData.bool)).hasDict = false := bools_shown bs hl
  refine PySem.str_of_reads r hsh.2.1 (fun e => by rw [hsh.2.2] at e; cases e) hg (by omega) (fun _ _ e => e) (fun h' u tk hk => h h' u tk (F.keptAll hk) (N.grown hk)) (by rw [sizeLine_eq]; omega)
end
noncomputable def dsX (first : Int) (xs : List Int) (k : Int) : List (Int × Int) := (pileS first (xs.take k.toNat)).1
noncomputable def cs3 (n : Nat) : List Int := [(n : Int).fdiv 3, ((n : Int) * 2).fdiv 3, (n : Int)]
theorem cs3_bd {n i : Nat} {k : Int} (h : (cs3 n)[i]? = some k) : 0 ≤ k ∧ k ≤ n := by
  unfold cs3 at h
  have e1 : (n : Int).fdiv 3 = (n : Int) / 3 := Int.fdiv_eq_ediv_of_nonneg _ (by decide)
  have e2 : ((n : Int) * 2).fdiv 3 = ((n : Int) * 2) / 3 := Int.fdiv_eq_ediv_of_nonneg _ (by decide)
  rcases i with _ | _ | _ | i
  · cases h; omega
  · cases h; omega
  · cases h; omega
  · simp at h
noncomputable def EntsL (es : List (Addr × Obj)) (rows : List (List (Int × Int))) : Prop := es.length = rows.length ∧ ∀ (i : Nat) p, es[i]? = some p → ∃ us nn q, rows[i]? = some q ∧ p.2 = W.listOf (List.toArray us) nn ∧ StrsAre us (q.map nmD)
theorem led_start {g h : Heap} {L an aw ar Dn : Addr} {o1 o2 o3 o4 : Obj} {all es own : List (Addr × Obj)} (N : News g L h all) (h1 : (aw, o1) ∈ all) (h2 : (ar, o2) ∈ all) (h3 : (an, o3) ∈ all) (h4 : (Dn, o4) ∈ all) (h5 : ∀ p ∈ es ++ own, p ∈ all) : News g L h ((aw, o1) :: (ar, o2) :: (an, o3) :: (Dn, o4) :: (es ++ own)) :=
  news_sub N fun p hp => by
    rcases List.mem_cons.mp hp with rfl | hp
    · exact h1
    rcases List.mem_cons.mp hp with rfl | hp
    · exact h2
    rcases List.mem_cons.mp hp with rfl | hp
    · exact h3
    rcases List.mem_cons.mp hp with rfl | hp
    · exact h4
    · exact h5 p hp
theorem led_ne1 {an aw ar Dn : Addr} {o2 o3 o4 : Obj} {es own : List (Addr × Obj)} (hd1 : @LT.lt Nat _ an aw) (hd2 : @LT.lt Nat _ aw ar) (h1 : Dn ≠ aw) (h2 : ∀ p ∈ es, p.1 ≠ aw) (h3 : ∀ q ∈ own, q.1 ≠ aw) : ∀ p ∈ (ar, o2) :: (an, o3) :: (Dn, o4) :: (es ++ own), p.1 ≠ aw := fun p hp => by
  rcases List.mem_cons.mp hp with rfl | hp
  · exact a_ne (Nat.ne_of_gt hd2)
  rcases List.mem_cons.mp hp with rfl | hp
  · exact a_ne (Nat.ne_of_lt hd1)
  rcases List.mem_cons.mp hp with rfl | hp
  · exact h1
  · exact (List.mem_append.mp hp).elim (h2 p) (h3 p)
theorem led_ne2 {an aw ar Dn : Addr} {o3 o4 : Obj} {es own : List (Addr × Obj)} (hd1 : @LT.lt Nat _ an aw) (hd2 : @LT.lt Nat _ aw ar) (h1 : Dn ≠ ar) (h2 : ∀ p ∈ es, p.1 ≠ ar) (h3 : ∀ q ∈ own, q.1 ≠ ar) : ∀ p ∈ (an, o3) :: (Dn, o4) :: (es ++ own), p.1 ≠ ar := fun p hp => by
  rcases List.mem_cons.mp hp with rfl | hp
  · exact a_ne (Nat.ne_of_lt (Nat.lt_trans hd1 hd2))
  rcases List.mem_cons.mp hp with rfl | hp
  · exact h1
  · exact (List.mem_append.mp hp).elim (h2 p) (h3 p)
theorem led_end {g h : Heap} {L an aw ar Dn : Addr} {o3 o4 : Obj} {wv : List Value} {V : Value} {nw nr : Nat} {es own : List (Addr × Obj)} (N : News g L h ((aw, W.listOf (wv.toArray.push V) nw) :: (ar, W.listOf ((es.map fun p => Value.ref p.1).toArray.push (.ref Dn)) nr) :: (an, o3) :: (Dn, o4) :: (es ++ own))) :
    News g L h ((an, o3) :: (aw, W.listOf (wv ++ [V]).toArray nw) :: (ar, W.listOf ((es ++ [(Dn, o4)]).map fun p => Value.ref p.1).toArray nr) :: (es ++ [(Dn, o4)]) ++ own) := by
  simp only [List.push_toArray] at N
  rw [List.map_append]
  refine news_sub N fun p hp => ?_
  rcases List.mem_cons.mp hp with rfl | hp
  · exact .tail _ (.tail _ (.head _))
  rcases List.mem_cons.mp hp with rfl | hp
  · exact .head _
  rcases List.mem_cons.mp hp with rfl | hp
  · exact .tail _ (.head _)
  rcases List.mem_append.mp hp with hp | hp
  · rcases List.mem_append.mp hp with hp | hp
    · exact .tail _ (.tail _ (.tail _ (.tail _ (List.mem_append.mpr (.inl hp)))))
    · rw [List.mem_singleton.mp hp]; exact .tail _ (.tail _ (.tail _ (.head _)))
  · exact .tail _ (.tail _ (.tail _ (.tail _ (List.mem_append.mpr (.inr hp)))))
theorem led_off {an aw ar Dn : Addr} {o1 o2 o3 o1' o2' o3' o4 : Obj} {es own : List (Addr × Obj)} (ho : ∀ p ∈ (an, o1) :: (aw, o2) :: (ar, o3) :: es, ∀ q ∈ own, p.1 ≠ q.1) (hD : ∀ q ∈ own, q.1 ≠ Dn) : ∀ p ∈ (an, o1') :: (aw, o2') :: (ar, o3') :: (es ++ [(Dn, o4)]), ∀ q ∈ own, p.1 ≠ q.1 := fun p hp q hq => by
  rcases List.mem_cons.mp hp with rfl | hp
  · exact ho _ (.head _) q hq
  rcases List.mem_cons.mp hp with rfl | hp
  · exact ho _ (.tail _ (.head _)) q hq
  rcases List.mem_cons.mp hp with rfl | hp
  · exact ho _ (.tail _ (.tail _ (.head _))) q hq
  rcases List.mem_append.mp hp with hp | hp
  · exact ho _ (.tail _ (.tail _ (.tail _ hp))) q hq
  · rw [List.mem_singleton.mp hp]; exact (hD q hq).symm
theorem take_map_snoc {α β : Type} {l : List α} {i : Nat} {k : α} {f : α → β} (h : l[i]? = some k) : (l.take (i + 1)).map f = (l.take i).map f ++ [f k] := by
  rw [List.take_add_one, h, List.map_append]; rfl
theorem ents_snoc {es : List (Addr × Obj)} {rows : List (List (Int × Int))} {us : List Value} {nn : Nat} {q : List (Int × Int)} {Dn : Addr} (h : EntsL es rows) (hu : StrsAre us (q.map nmD)) : EntsL (es ++ [(Dn, W.listOf us.toArray nn)]) (rows ++ [q]) := by
  refine ⟨by rw [List.length_append, List.length_append, h.1]; rfl, fun i p hp => ?_⟩
  rcases Nat.lt_trichotomy i es.length with hi | hi | hi
  · rw [List.getElem?_append_left hi] at hp
    rw [List.getElem?_append_left (h.1 ▸ hi)]
    exact h.2 i p hp
  · subst hi
    rw [List.getElem?_append_right (Nat.le_refl _), Nat.sub_self] at hp
    cases hp
    refine ⟨us, nn, q, ?_, rfl, hu⟩
    rw [h.1, List.getElem?_append_right (Nat.le_refl _), Nat.sub_self]; rfl
  · rw [List.getElem?_eq_none (by rw [List.length_append]; exact hi)] at hp
    cases hp
theorem ents3 {es : List (Addr × Obj)} {q0 q1 q2 : List (Int × Int)} (h : EntsL es [q0, q1, q2]) : ∃ a0 us0 n0 a1 us1 n1 a2 us2 n2, es = [(a0, W.listOf (List.toArray us0) n0), (a1, W.listOf (List.toArray us1) n1), (a2, W.listOf (List.toArray us2) n2)] ∧ StrsAre us0 (q0.map nmD) ∧ StrsAre us1 (q1.map nmD) ∧ StrsAre us2 (q2.map nmD) := by
  obtain ⟨hl, h⟩ := h
  rcases es with _ | ⟨⟨a0, o0⟩, _ | ⟨⟨a1, o1⟩, _ | ⟨⟨a2, o2⟩, _ | ⟨p3, es⟩⟩⟩⟩
  · exact absurd hl (by simp)
  · exact absurd hl (by simp)
  · exact absurd hl (by simp)
  · obtain ⟨us0, n0, x0, e0, f0, g0⟩ := h 0 _ rfl
    obtain ⟨us1, n1, x1, e1, f1, g1⟩ := h 1 _ rfl
    obtain ⟨us2, n2, x2, e2, f2, g2⟩ := h 2 _ rfl
    have e0 := Option.some.inj e0
    have e1 := Option.some.inj e1
    have e2 := Option.some.inj e2
    dsimp only at f0 f1 f2
    subst e0 e1 e2 f0 f1 f2
    exact ⟨a0, us0, n0, a1, us1, n1, a2, us2, n2, rfl, g0, g1, g2⟩
  · exact absurd hl (by simp)
theorem strs3 {wv : List Value} {x y z : Str} (h : StrsAre wv [x, y, z]) : ∃ t0 t1 t2, wv = [.str x t0, .str y t1, .str z t2] := by
  cases h with | cons _ t0 h => cases h with | cons _ t1 h => cases h with | cons _ t2 h => cases h; exact ⟨t0, t1, t2, rfl⟩
theorem item_V {prog : Program} {w : World} {A : Around} {E : Value → Shared → Prop} {s : Shared} {value slice : Expr} {l : Addr} {its : List Value} {i : Int} {u : Tok} {V : Value} {Q : Value → Shared → Prop} (hl : s.heap.IsList l its.toArray) (h0 : 0 ≤ i) (h1 : i < 3) (hx : its[i.toNat]? = some V) (h : Q V s)
    (hs : subscripted slice false (.ref l) (.int i u) = operate [.ref l, .int i u] (getItem (.ref l) (.int i u)) := by with_unfolding_all rfl) : wpAny (model prog w) A (subscriptTail value slice (.ref l) (.int i u)) Q E s :=
  tail_any hl.typeIs slot_list_getitem.lookup (wpAny_getItem_list hl h0 (by omega) (x := V) (by simpa using hx) h) hs
local macro_rules | `(tactic| walk_at "subscriptTail Name Name ref int") => ln "item_V L R R R _"
theorem pick3 {ds0 ds1 ds2 : List (Int × Int)} {t0 t1 t2 : Tok} {a0 a1 a2 : Addr} {us0 us1 us2 : List Value} {n0 n1 n2 : Nat} (hu0 : StrsAre us0 (ds0.map nmD)) (hu1 : StrsAre us1 (ds1.map nmD)) (hu2 : StrsAre us2 (ds2.map nmD)) (hb0 : ds0.length ≤ 20 ∧ ∀ q ∈ ds0, Deed q) (hb1 : ds1.length ≤ 20 ∧ ∀ q ∈ ds1, Deed q) (hb2 : ds2.length ≤ 20 ∧ ∀ q ∈ ds2, Deed q) {i : Int} (h0 : 0 ≤ i) (h1 : i < 3) :
    ∃ d A us n t, [Value.str (wayD ds0) t0, .str (wayD ds1) t1, .str (wayD ds2) t2][i.toNat]? = some (.str (wayD d) t) ∧ [Value.ref a0, .ref a1, .ref a2][i.toNat]? = some (.ref A) ∧ (A, W.listOf (List.toArray us) n) ∈ [(a0, W.listOf us0.toArray n0), (a1, W.listOf us1.toArray n1), (a2, W.listOf us2.toArray n2)] ∧ StrsAre us (d.map nmD) ∧ d.length ≤ 20 ∧ ∀ q ∈ d, Deed q := by
  obtain ⟨k, rfl⟩ := Int.eq_ofNat_of_zero_le h0
  rcases k with _ | _ | _ | k
  · exact ⟨ds0, a0, us0, n0, t0, rfl, rfl, .head _, hu0, hb0⟩
  · exact ⟨ds1, a1, us1, n1, t1, rfl, rfl, .tail _ (.head _), hu1, hb1⟩
  · exact ⟨ds2, a2, us2, n2, t2, rfl, rfl, .tail _ (.tail _ (.head _)), hu2, hb2⟩
  · omega
section
variable {prog : Program} {w : World} {A : Around} {E : Value → Shared → Prop} {s : Shared} {env : Env} {h₀ : Heap} {target : Expr} {body : List Stmt} {Q : Flow → Shared → Prop}
theorem fo_tup1 {l : Addr} {vs : List Value} {m₀ : Str → Option Value} {rest : List (Addr × Obj)} (stored : List Str) (hh : A.handled = none) (F : Fr h₀ env.locals s.heap m₀) (N : News h₀ env.locals s.heap ((l, { cls := .type "tuple", data := .seq vs.toArray }) :: rest)) (hoff : ∀ p ∈ rest, p.1 ≠ l)
    (turn : ∀ (i : Nat) (v : Value) (u : Str → Option Value) (h : Heap) (tk : Nat) (own : List (Addr × Obj)), vs[i]? = some v → (∀ p ∈ rest, ∀ q ∈ own, p.1 ≠ q.1) → Fr h₀ env.locals h (fun z => if stored.contains z then u z else m₀ z) → News h₀ env.locals h (rest ++ own) →
      wpAny (model prog w) A (assign target env v) (fun _ s₃ => wpAny (model prog w) A (execs body env) (FoPost h₀ env.locals (fun _ : Unit => rest) (fun _ => []) stored m₀ (fun _ => True) own Q { s with heap := h, toks := tk }) E s₃) E { s with heap := h, toks := tk })
    (done : ∀ (u : Str → Option Value) (h : Heap) (tk : Nat), Fr h₀ env.locals h (fun z => if stored.contains z then u z else m₀ z) → News h₀ env.locals h rest → Q .next { s with heap := h, toks := tk }) :
    wpAny (model prog w) A (pyIter (.ref l)) (fun it s₂ => TurnsAt prog w A h₀ env target body Q E it s₂) E s :=
  fo_tup (vs := vs) (fun _ : Unit => rest) (fun _ => ([] : List (Str × Value))) stored (fun _ _ => True) () hh F N ⟨_, (N _ (.head (α := Addr × Obj) rest)).1, rfl, _, rfl⟩ (N _ (.head _)).2.1 hoff (fun p hp => .tail _ hp) (fun (p : Str × Value) hp => nomatch hp) True.intro
    (fun _ i v u h tk own hv ho _ F N => turn i v u h tk own hv ho F N) fun _ u h tk _ F N => done u h tk F N
end
theorem news_one {g h : Heap} {L : Addr} {p : Addr × Obj} {l : List (Addr × Obj)} (N : News g L h l) (hm : p ∈ l) : News g L h [p] := news_sub N fun q hq => by rw [List.mem_singleton.mp hq]; exact hm
theorem news_app {g h : Heap} {L : Addr} {l1 l2 : List (Addr × Obj)} (N1 : News g L h l1) (N2 : News g L h l2) : News g L h (l1 ++ l2) := fun p hp => (List.mem_append.mp hp).elim (N1 p) (N2 p)
theorem news_op {g h : Heap} {L : Addr} {l own : List (Addr × Obj)} (N : News g L h (l ++ own)) : ∃ rest, rest = l ++ own ∧ News g L h rest := ⟨_, rfl, N⟩
theorem nms_ok {ds : List (Int × Int)} (h : ∀ q ∈ ds, Deed q) : ∀ x ∈ ds.map nmD, x.length ≤ 10 ∧ PyData.strOk x = true := fun x hx => by
  obtain ⟨q, hq, rfl⟩ := List.mem_map.mp hx
  exact ⟨Nat.le_trans (nmD_len (h q hq)) (by decide), nmD_ok (h q hq)⟩
theorem dsX_bd (first : Int) {xs : List Int} (h : xs.length ≤ 17) (k : Int) : (dsX first xs k).length ≤ 20 ∧ ∀ q ∈ dsX first xs k, Deed q := by
  obtain ⟨-, h2, h3, -⟩ := pile_okS (first := first) (xs.take k.toNat)
  refine ⟨?_, h3⟩
  have : (xs.take k.toNat).length ≤ xs.length := by rw [List.length_take]; omega
  exact Nat.le_trans h2 (by omega)
noncomputable def RestPost (g : Heap) (L : Addr) (gs : Array GenState) (os : OsState) (fl : Flow) (s' : Shared) : Prop := fl = .ret (.bool true) ∧ (∃ m', Fr g L s'.heap m') ∧ s'.gens = gs ∧ s'.os = os
theorem law_rest (w : World) {mean : ExcName → Option Value} {mg mb : Str → Option Value} {fa : Addr} {cd : Value} {b0 g : Heap} {L : Addr} {h : Heap} {m : Str → Option Value} {gs : Array GenState} {dr : Drawn} {tk : Nat} {os : OsState} {an aw ar : Addr} {vs : List Value} {xs : List Int} {first : Int} {t : Tok}
    (B : Below callerA b0 [] g) (F : Fr g L h (fun y => if y = Str.ofString "rows" then some (.ref ar) else if y = Str.ofString "ways" then some (.ref aw) else if y = Str.ofString "numbers" then some (.ref an) else if y = Str.ofString "first" then some (.int first t) else m y)) (X : (K w.params).In g) (T : Top view (looseW view [Str.ofString "_filemode_table"]) mean mg mb g)
    (N : News g L h [(ar, W.listOf #[] 0), (aw, W.listOf #[] 0), (an, W.listOf vs.toArray 0)]) (hd1 : @LT.lt Nat _ an aw) (hd2 : @LT.lt Nat _ aw ar) (hI : IntsAre vs xs) (hx : ∀ x ∈ xs, 0 ≤ x ∧ x < 1000000) (h7 : 7 ≤ xs.length) (h17 : xs.length ≤ 17) (hf0 : 0 ≤ first) (hf1 : first < 4294967296) :
    wpAny (model PySem.Challenge.rw_ik0166_01.row.prog w) (callerA.deeper (envOf (Str.ofString "law") fn64.1.2.2 L fa cd)) (execs (fn64.1.2.1.drop 4) (envOf (Str.ofString "law") fn64.1.2.2 L fa cd)) (RestPost g L gs os) (fun _ _ => False) ⟨h, gs, dr, tk, os⟩ := by
  revert X
  k_fill
  intro X
  have hvl := hI.length
  show wpAny _ _ (execs (List.drop 4 [_, _, _, _, _, _, _]) _) _ _ _
  simp only [List.drop_succ_cons, List.drop_zero]
  refine wp_same ?_
  k_fold
  k_steps
  show wpAny _ _ _ _ _ _
  (rename News _ _ _ _ => N'); (rename Fr _ _ _ _ => F'); (rename _ ∧ _ ∧ _ => hlt)
  have kMark : KstMark := kstMark
  k_dflt refine fo_tup (σ := List Value × Nat × List (Addr × Obj) × Nat) (vs := [_, _, _]) (fun c => (an, W.listOf vs.toArray 0) :: (aw, W.listOf c.1.toArray c.2.1) :: (ar, W.listOf (c.2.2.1.map fun p => Value.ref p.1).toArray c.2.2.2) :: c.2.2.1) (fun _ => []) [Str.ofString "count", Str.ofString "path", Str.ofString "way", Str.ofString "names", Str.ofString "mode", Str.ofString "made"]
    (fun i c => StrsAre c.1 (((cs3 xs.length).take i).map fun k => wayD (dsX first xs k)) ∧ EntsL c.2.2.1 (((cs3 xs.length).take i).map (dsX first xs)) ∧ ∀ p ∈ c.2.2.1, p.1 ≠ an ∧ p.1 ≠ aw ∧ p.1 ≠ ar) ([], 0, [], 0) rfl F' N' ⟨_, (N' _ (.head _)).1, rfl, _, rfl⟩ (N' _ (.head _)).2.1 ?_ ?_ (fun p hp => nomatch hp) ⟨.nil, ⟨rfl, fun i p h => by simp at h⟩, fun p hp => nomatch hp⟩ ?_ ?_
  · intro p hp
    refine Nat.ne_of_lt ?_
    rcases List.mem_cons.mp hp with rfl | hp
    · exact hlt.2.2
    · rcases List.mem_cons.mp hp with rfl | hp
      · exact hlt.2.1
      · rw [List.mem_singleton.mp hp]; exact hlt.1
  · intro p hp
    rcases List.mem_cons.mp hp with rfl | hp
    · exact .tail _ (.tail _ (.tail _ (.head _)))
    · rcases List.mem_cons.mp hp with rfl | hp
      · exact .tail _ (.tail _ (.head _))
      · rw [List.mem_singleton.mp hp]; exact .tail _ (.head _)
  · intro c i v u h tk own hv ho hJ Fk Nk
    refine wp_same ?_
    k_fold
    obtain ⟨wv, nw, es, nr⟩ := c
    obtain ⟨hJ1, hJ2, hJ3⟩ := hJ
    obtain ⟨k, t9, rfl, hk⟩ : ∃ (k : Int) (t9 : Tok), v = .int k t9 ∧ (cs3 xs.length)[i]? = some k := by
      rcases i with _ | _ | _ | i
      · cases hv; exact ⟨_, _, rfl, rfl⟩
      · cases hv; exact ⟨_, _, rfl, rfl⟩
      · cases hv; exact ⟨_, _, rfl, rfl⟩
      · simp at hv
    obtain ⟨hk0, hk1⟩ := cs3_bd hk
    have hsu := pick_up vs hk0
    have hvz : vs.toArray.size ≤ sizeLine := by rw [List.size_toArray, sizeLine_eq]; omega
    clear F' N' hv hlt
    dsimp only [kstB] at Fk Nk hJ1 hJ2 hJ3 ho
    simp only [List.cons_append, List.nil_append] at Nk
    refine wp_same ?_
    k_steps
    show wpAny _ _ _ _ _ _
    (rename Fr _ _ _ _ => F')
    have hit := ints_take hI k.toNat
    refine comp_seq F' PartFel (by rfl) (by decide) (by rfl) (by decide) (by rfl) ?_ (by intro _; rfl)
    k_steps
    refine ⟨_, _, _, rfl, .inr (News.isList (by k_asm) (by k_mem)), by rw [List.length_take, sizeLine_eq]; omega, rfl, by k_asm, by k_asm, ?_, ?_⟩
    · intro C v s₃ m₃ E' hv9 hn hm hk9
      obtain ⟨x9, u9, rfl, hx9⟩ : ∃ (x9 : Int) (u9 : Tok), v = .int x9 u9 ∧ 0 ≤ x9 ∧ x9 < 1000000 := by
        obtain ⟨j, hj⟩ := List.getElem?_of_mem hv9
        obtain ⟨x9, u9, e9, h9⟩ := hit.at j v hj
        exact ⟨x9, u9, e9, hx x9 (List.mem_of_mem_take (List.mem_of_getElem? h9))⟩
      (rename News _ _ _ _ => N9); (rename Fr _ _ _ _ => F9)
      have F3 := F9.kept hk9
      have N3 := N9.keepsAll hk9
      clear N9 F9 hv9 hk9
      obtain ⟨h3, g3, d3, t3, os3⟩ := s₃
      refine wp_same ?_
      k_steps
      show wpAny _ _ _ _ _ _
      refine wpAny_mono (c_part w x9 u9 _ _ _ _ _ _ _ _ _ _ _ _ _ _ _ _ _ _ B F3 X T rfl (by ktr_room) (by ktr_units) ⟨hx9.1, hx9.2⟩) ?_ (fun _ _ x => x.elim)
      rintro r s' ⟨h', tk', rfl, hk', t', rfl⟩
      exact ⟨⟨x9, u9, t', rfl, rfl⟩, h', tk', rfl, hk'⟩
    · intro D ys n h' tk F' N' hne hpa
      have hys := parts_of hit hpa
      have hparts : ((xs.take k.toNat).map partS).length ≤ 20 := by rw [List.length_map, List.length_take]; omega
      have hpl : ∀ x ∈ (xs.take k.toNat).map partS, x.length ≤ 10 := fun x hx9 => by obtain ⟨z, _, rfl⟩ := List.mem_map.mp hx9; exact partS_len z
      have hxl : (xs.take k.toNat).length ≤ 17 := by rw [List.length_take]; omega
      have hfi : FirstIs first := trivial
      k_steps
      show wpAny _ _ _ _ _ _
      refine con_use (c_joined w _ ys ((xs.take k.toNat).map partS)) B (by k_asm) X (by k_asm) T rfl (by ktr_room) (by ktr_units) ⟨News.isList N' (.head _), hys, hparts, hpl⟩ ?_
      rintro r' h' tk' F' N' - ⟨t', rfl⟩
      k_steps
      show wpAny _ _ _ _ _ _
      (rename Fr _ _ _ _ => F'); (rename News _ _ _ _ => N')
      have Fo := F'
      have No := N'
      refine con_use (c_pile w first _ t (vs.take k.toNat) (xs.take k.toNat)) B F' X N' T rfl (by ktr_room) (by ktr_units) ⟨News.isList N' (.head _), hit, by omega, fun x hx9 => hx x (List.mem_of_mem_take hx9), hf0, hf1⟩ ?_
      rintro r' h' tk' F' N' - ⟨T8, Dn, us, nn, t8, rfl, hus, hfr⟩
      have hDo : ∀ p ∈ (an, W.listOf vs.toArray 0) :: (aw, W.listOf wv.toArray nw) :: (ar, W.listOf (es.map fun p => Value.ref p.1).toArray nr) :: (es ++ own), p.1 ≠ Dn := fun p hp => fresh_ne No hfr p (by repeat' first | exact hp | refine .tail _ ?_ | refine List.mem_append.mpr (.inr ?_)) (Dn, _) (.tail _ (.head _))
      replace N' := fresh_news Fo N' hfr
      clear No
      clear Fo hfr
      rw [pile_top] at N'
      obtain ⟨M, hM⟩ : ∃ M, M = modeOf (first.fmod 65536) (pileS first (xs.take k.toNat)).1 := ⟨_, rfl⟩
      rw [← hM] at N'
      obtain ⟨hok1, hok2, hok3, hok4⟩ := pile_okS (first := first) (xs.take k.toNat)
      obtain ⟨ds, hgd⟩ : ∃ ds, ds = (pileS first (xs.take k.toNat)).1 := ⟨_, rfl⟩
      (rename Fr _ _ _ _ => F')
      rw [← hgd] at hok2 hok3 F' hus hM
      clear hok1 hok4
      obtain ⟨P, hP⟩ : ∃ P, P = joinedAll ((xs.take k.toNat).map partS) := ⟨_, rfl⟩
      have hpa1 := path_slash (xs.take k.toNat)
      have hpa2 := path_le (xs.take k.toNat)
      rw [← hP] at hpa1 hpa2 F'
      replace hpa2 : P.length ≤ 2000 := by omega
      have hds : ds.length ≤ 17 := Nat.le_trans hok2 hxl
      have hwa1 := way_slash1 ds
      have hwa2 := way_le ds hok3 (by omega)
      have hwa3 := way_behind ds hok3
      have hwa4 : (Txt.slice (wayD ds) (some 1) none).length ≤ 2000 := Nat.le_trans (Txt.slice_le _ _ _) (by omega)
      obtain ⟨hj3, hj5⟩ := sums_le (xs := ds.map nmD) (by rw [List.length_map]; omega) (fun y hy => by obtain ⟨q, hq, rfl⟩ := List.mem_map.mp hy; have := nmD_len (hok3 q hq); omega)
      have hww : wayD ds = Str.ofString "/" ++ Txt.join (Str.ofString "/") (ds.map nmD) := rfl
      clear hP hpa hys hparts hpl hit hok2
      k_steps
      show wpAny _ _ _ _ _ _
      refine ne_same (by with_reducible assumption) ?_
      k_steps
      show wpAny _ _ _ _ _ _
      (rename Fr _ _ _ _ => F'); (rename News _ _ _ _ => N')
      refine str_bools (bs := [true, true, false]) F' N' (.head _) (by decide) rfl (by ktr_units) fun h' u tk F' N' => ?_
      k_steps
      show wpAny _ _ _ _ _ _
      (rename Fr _ _ _ _ => F'); (rename News _ _ _ _ => N')
      refine str_bools (bs := [true, true, false]) F' N' (.head _) (by decide) rfl (by ktr_units) fun h' u tk F' N' => ?_
      k_steps
      show wpAny _ _ _ _ _ _
      refine ne_same rfl ?_
      clear hpa1 hpa2 hwa1 hwa3 hwa4 hww
      have hrun : 0 ≤ first ∧ first < 4294967296 ∧ ds.length ≤ 20 ∧ ∀ q ∈ ds, Deed q := ⟨hf0, hf1, by omega, hok3⟩
      k_steps
      show wpAny _ _ _ _ _ _
      (rename Fr _ _ _ _ => F'); (rename News _ _ _ _ => N')
      refine con_use (c_run w ds first _ t) B F' X N' T rfl (by ktr_room) (by ktr_units) hrun ?_
      rintro r' h' tk' F' N' - ⟨t', rfl⟩
      obtain ⟨hr0, hr1, hr2⟩ := runS_law ⟨hf0, hf1⟩ ds hok3
      have hmb := modeOf_bd (f := first.fmod 65536) ⟨Int.fmod_nonneg_of_pos _ (by decide), Int.fmod_lt_of_pos _ (by decide)⟩ ds hok3
      rw [← hM] at hr2 hmb
      obtain ⟨R, hR⟩ : ∃ R, R = runS first ds := ⟨_, rfl⟩
      rw [← hR] at hr0 hr1 hr2
      rw [← hR]
      have hrb : 0 ≤ R ∧ R < 4294967296 := ⟨hr0, hr1⟩
      obtain ⟨hm0, hm1⟩ := id hmb
      have hsl : Txt.join (Str.ofString "") (fperm R 10) = signsS M := by
        obtain ⟨X, rfl⟩ := Int.eq_ofNat_of_zero_le hr0
        rw [signs_law, ← hr2, Int.fmod_eq_emod_of_nonneg _ (by decide)]
        rfl
      k_steps
      show wpAny _ _ _ _ _ _
      refine ne_same hsl ?_
      k_steps
      show wpAny _ _ _ _ _ _
      (rename Fr _ _ _ _ => F'); (rename News _ _ _ _ => N')
      refine str_bools (bs := [_, _]) F' N' (.head _) (Nat.le_of_ble_eq_true rfl) rfl (by ktr_units) fun h' u tk F' N' => ?_
      k_steps
      show wpAny _ _ _ _ _ _
      (rename Fr _ _ _ _ => F'); (rename News _ _ _ _ => N')
      refine str_bools (bs := [_, _]) F' N' (.head _) (Nat.le_of_ble_eq_true rfl) rfl (by ktr_units) fun h' u tk F' N' => ?_
      k_steps
      show wpAny _ _ _ _ _ _
      refine ne_same (by rw [is_reg hr0, is_dir hr0, hr2]) ?_
      k_steps
      rotate_left
      · exact absurd hr2 (by with_reducible assumption)
      show wpAny _ _ _ _ _ _
      (rename Fr _ _ _ _ => F'); (rename News _ _ _ _ => N')
      replace N' : News g L _ ((aw, W.listOf wv.toArray nw) :: (ar, W.listOf (es.map fun p => Value.ref p.1).toArray nr) :: (an, W.listOf vs.toArray 0) :: (Dn, W.listOf us.toArray nn) :: (es ++ own)) := led_start N' (by k_mem) (by k_mem) (by k_mem) (by k_mem) (fun p hp => by repeat' first | exact hp | refine .tail _ ?_ | refine List.mem_append.mpr (.inr ?_))
      have hwl := hJ1.length
      rw [List.length_map, List.length_take] at hwl
      have hel := hJ2.1
      rw [List.length_map, List.length_take] at hel
      have h3 : (cs3 xs.length).length = 3 := rfl
      k_dflt refine append_K (its := wv.toArray) (n := nw) F' N' (.head fun p hp => ?_) (fun h' F' N' => ?_) (by rw [List.size_toArray, sizeLine_eq]; omega)
      · exact led_ne1 hd1 hd2 (fun e => hDo _ (.tail _ (.head _)) e.symm) (fun p hp => (hJ3 p hp).2.1) (fun q hq => (ho _ (.tail _ (.head _)) q hq).symm) p hp
      k_steps
      show wpAny _ _ _ _ _ _
      (rename Fr _ _ _ _ => F'); (rename News _ _ _ _ => N')
      k_dflt refine append_K (its := (es.map fun p => Value.ref p.1).toArray) (n := nr) F' N' (.tail (a_ne (Nat.ne_of_lt hd2)) (.head fun p hp => ?_)) (fun h' F' N' => ?_) (by rw [List.size_toArray, sizeLine_eq, List.length_map]; omega)
      · exact led_ne2 hd1 hd2 (fun e => hDo _ (.tail _ (.tail _ (.head _))) e.symm) (fun p hp => (hJ3 p hp).2.2) (fun q hq => (ho _ (.tail _ (.tail _ (.head _))) q hq).symm) p hp
      k_steps
      refine of_stop (fo_end (⟨wv ++ [_], _, es ++ [_], _⟩ : List Value × Nat × List (Addr × Obj) × Nat) (by k_asm) (led_end (by k_asm)) (led_off ho (fun q hq => hDo q (.tail _ (.tail _ (.tail _ (List.mem_append.mpr (.inr hq))))))) (fun p hp => nomatch hp) (fun z h2 h3 => ?_) ⟨?_, ?_, ?_⟩)
      · simp only [List.contains_cons, List.contains_nil, Bool.or_false, Bool.or_eq_false_iff, beq_eq_false_iff_ne, ne_eq] at h3
        simp [h3]
      · rw [take_map_snoc hk]
        exact StrsAre.append' hJ1 (by rw [hgd]; exact .cons _ _ .nil)
      · rw [take_map_snoc hk]
        exact ents_snoc hJ2 (show StrsAre us ((dsX first xs k).map nmD) by rw [hgd] at hus; exact hus)
      · intro p hp
        rcases List.mem_append.mp hp with hp | hp
        · exact hJ3 p hp
        · rw [List.mem_singleton.mp hp]
          exact ⟨fun e => hDo _ (.head _) e.symm, fun e => hDo _ (.tail _ (.head _)) e.symm, fun e => hDo _ (.tail _ (.tail _ (.head _))) e.symm⟩
  · intro c u h tk hJ Fk Nk
    show wpAny _ _ _ _ _ _
    obtain ⟨wv, nw, es, nr⟩ := c
    obtain ⟨hJ1, hJ2, -⟩ := hJ
    obtain ⟨ds0, hd0⟩ : ∃ ds, ds = dsX first xs ((xs.length : Int).fdiv 3) := ⟨_, rfl⟩
    obtain ⟨ds1, hd1⟩ : ∃ ds, ds = dsX first xs (((xs.length : Int) * 2).fdiv 3) := ⟨_, rfl⟩
    obtain ⟨ds2, hd2⟩ : ∃ ds, ds = dsX first xs (xs.length : Int) := ⟨_, rfl⟩
    have hb0 := dsX_bd first h17 ((xs.length : Int).fdiv 3)
    have hb1 := dsX_bd first h17 (((xs.length : Int) * 2).fdiv 3)
    have hb2 := dsX_bd first h17 (xs.length : Int)
    have e1 : ((cs3 xs.length).take 3).map (dsX first xs) = [ds0, ds1, ds2] := by rw [hd0, hd1, hd2]; rfl
    have e2 : ((cs3 xs.length).take 3).map (fun k => wayD (dsX first xs k)) = [wayD ds0, wayD ds1, wayD ds2] := by rw [hd0, hd1, hd2]; rfl
    rw [← hd0] at hb0
    rw [← hd1] at hb1
    rw [← hd2] at hb2
    obtain ⟨a0, us0, n0, a1, us1, n1, a2, us2, n2, rfl, hu0, hu1, hu2⟩ := ents3 (show EntsL es [ds0, ds1, ds2] by rw [← e1]; exact hJ2)
    obtain ⟨t0, t1, t2, rfl⟩ := strs3 (show StrsAre wv [wayD ds0, wayD ds1, wayD ds2] by rw [← e2]; exact hJ1)
    clear F' N' hlt hJ1 hJ2 hd0 hd1 hd2 e1 e2
    dsimp only [kstB, List.map_cons, List.map_nil] at Fk Nk
    show wpAny _ _ _ _ _ _
    refine wp_same ?_
    k_steps
    show wpAny _ _ _ _ _ _
    (rename News _ _ _ _ => N'); (rename Fr _ _ _ _ => F')
    (rename _ ∧ _ ∧ _ ∧ _ ∧ _ ∧ _ ∧ _ ∧ _ ∧ _ ∧ _ => hlt)
    k_dflt refine fo_tup1 (vs := [_, _, _, _]) [Str.ofString "one", Str.ofString "other"] rfl F' N' (fun p hp => a_ne (Nat.ne_of_lt (allLt_mem (by simp only [AllLt, and_true]; exact hlt) p hp))) ?_ ?_
    · intro i v u h tk own hv ho Fk Nk
      refine wp_same ?_
      k_fold
      obtain ⟨T2, i1, i2, u1, u2, rfl, hm2, h10, h11, h20, h21⟩ : ∃ (T2 : Addr) (i1 i2 : Int) (u1 u2 : Tok), v = .ref T2 ∧ News g L h [(T2, { cls := .type "tuple", data := .seq #[.int i1 u1, .int i2 u2] })] ∧ 0 ≤ i1 ∧ i1 < 3 ∧ 0 ≤ i2 ∧ i2 < 3 := by
        rcases i with _ | _ | _ | _ | i
        · cases hv; exact ⟨_, _, _, _, _, rfl, news_one Nk (.tail _ (.tail _ (.tail _ (.head _)))), by decide, by decide, by decide, by decide⟩
        · cases hv; exact ⟨_, _, _, _, _, rfl, news_one Nk (.tail _ (.tail _ (.head _))), by decide, by decide, by decide, by decide⟩
        · cases hv; exact ⟨_, _, _, _, _, rfl, news_one Nk (.tail _ (.head _)), by decide, by decide, by decide, by decide⟩
        · cases hv; exact ⟨_, _, _, _, _, rfl, news_one Nk (.head _), by decide, by decide, by decide, by decide⟩
        · simp at hv
      have N0 : News g L h [(a0, W.listOf us0.toArray n0), (a1, W.listOf us1.toArray n1), (a2, W.listOf us2.toArray n2)] := news_sub Nk fun p hp => List.mem_append_left own (.tail _ (.tail _ (.tail _ (.tail _ (.tail _ (.tail _ (.tail _ hp)))))))
      have Na : News g L h [(aw, W.listOf (List.toArray [.str (wayD ds0) t0, .str (wayD ds1) t1, .str (wayD ds2) t2]) nw)] := news_one Nk (.tail _ (.tail _ (.tail _ (.tail _ (.tail _ (.head _))))))
      have Nb : News g L h [(ar, W.listOf (List.toArray [.ref a0, .ref a1, .ref a2]) nr)] := news_one Nk (.tail _ (.tail _ (.tail _ (.tail _ (.tail _ (.tail _ (.head _)))))))
      obtain ⟨d1, A1, vs1, m1, s1, hx1, hy1, hA1, hS1, hc1, hd1⟩ := pick3 (t0 := t0) (t1 := t1) (t2 := t2) (a0 := a0) (a1 := a1) (a2 := a2) (n0 := n0) (n1 := n1) (n2 := n2) hu0 hu1 hu2 hb0 hb1 hb2 h10 h11
      obtain ⟨d2, A2, vs2, m2, s2, hx2, hy2, hA2, hS2, hc2, hd2⟩ := pick3 (t0 := t0) (t1 := t1) (t2 := t2) (a0 := a0) (a1 := a1) (a2 := a2) (n0 := n0) (n1 := n1) (n2 := n2) hu0 hu1 hu2 hb0 hb1 hb2 h20 h21
      obtain ⟨rest, hrest, Nr⟩ := news_op Nk
      have Nw : News g L h ((T2, { cls := .type "tuple", data := .seq #[.int i1 u1, .int i2 u2] }) :: (aw, W.listOf (List.toArray [.str (wayD ds0) t0, .str (wayD ds1) t1, .str (wayD ds2) t2]) nw) :: (ar, W.listOf (List.toArray [.ref a0, .ref a1, .ref a2]) nr) :: (A1, W.listOf vs1.toArray m1) :: (A2, W.listOf vs2.toArray m2) :: rest) :=
        news_app hm2 (news_app Na (news_app Nb (news_app (news_one N0 hA1) (news_app (news_one N0 hA2) Nr))))
      clear N' F' Nk N0 Na Nb Nr hm2 hA1 hA2 hlt hv
      refine wp_same ?_
      k_steps
      show wpAny _ _ _ _ _ _
      (rename News _ _ _ _ => N'); (rename Fr _ _ _ _ => F')
      refine con_use (c_common_d w _ d1 d2 _ _) B F' X N' T rfl (by ktr_room) (by ktr_units) ⟨News.isList N' (.head _), hc1, hc2, hd1, hd2⟩ ?_
      rintro r' h' tk' F' N' - ⟨t', rfl⟩
      k_steps
      show wpAny _ _ _ _ _ _
      (rename News _ _ _ _ => N'); (rename Fr _ _ _ _ => F')
      refine con_use (c_both w A1 A2 vs1 vs2 (d1.map nmD) (d2.map nmD)) B F' X N' T rfl (by ktr_room) (by ktr_units) ⟨News.isList N' (by k_mem), News.isList N' (by k_mem), hS1, hS2, by rw [List.length_map]; exact hc1, by rw [List.length_map]; exact hc2, nms_ok hd1, nms_ok hd2⟩ ?_
      rintro r' h' tk' F' N' - ⟨t', rfl⟩
      k_steps
      show wpAny _ _ _ _ _ _
      refine ne_same rfl ?_
      k_steps
      refine of_stop (fo_end () (by k_asm) (news_sub (by k_asm) fun p hp => ?_) ho (fun (p : Str × Value) hp => nomatch hp) (fun z h2 h3 => ?_) True.intro)
      · have hp := hrest ▸ hp
        repeat' first | exact hp | refine .tail _ ?_
      · simp only [List.contains_cons, List.contains_nil, Bool.or_false, Bool.or_eq_false_iff, beq_eq_false_iff_ne, ne_eq] at h3
        simp [h3]
    · intro u h tk Fk Nk
      clear N' F'
      show wpAny _ _ _ _ _ _
      refine wp_same ?_
      k_steps
      exact ⟨rfl, ⟨_, Fk⟩, rfl, rfl⟩
end
section
theorem law_good {s₀ s₁ s : Shared} {ns : List Int} {L : Addr} {m9 : Str → Option Value} (F9 : Fr s₁.heap L s.heap m9) (hg9 : s.gens = #[]) (ho9 : s.os = s₁.os) :
    GoodW PySem.Challenge.rw_ik0166_01.row.claim (classAt s₀.heap) (ExcName.means s₀.heap) [ofPy (PyData.list (ns.map PyData.int))] s₁ (.ok (.ret (.bool true))) s := by
  refine goodW_bool F9 hg9 (raisesW_false ?_) ?_ ho9
  · wrow_none_raised
  · first | wrow_post | kc_post
end
section
local macro_rules | `(tactic| walk_at "binaryOp Pow int int") => lns ["pow_c 4294967296 d d d d _", "pow_c 1000000 d d d d _"]
theorem store_abs {M : Model} {A : Around} {env : Env} {x : Str} {t : Tok} {Q : Unit → Shared → Prop} {E : Value → Shared → Prop} {s : Shared} {e B : Int} (h0 : 0 ≤ e) (h1 : e < B) (h : ∀ f : Int, 0 ≤ f → f < B → wpAny M A (storeName env x (.int f t)) Q E s) : wpAny M A (storeName env x (.int e t)) Q E s := h e h0 h1
local macro_rules | `(tactic| walk_at "storeName") => `(tactic| (k_here; (with_reducible show wpAny _ _ (storeName _ (Str.ofString "first") (Value.int (Int.fmod _ _) _)) _ _ _); refine store_abs (Int.fmod_nonneg_of_pos _ (by decide)) (Int.fmod_lt_of_pos _ (by decide)) ?_; intro first hf0 hf1; refine any_tok ?_; intro tk1))
theorem any_tok {α : Type} {M : Model} {A : Around} {t : Sem α} {Q : α → Shared → Prop} {E : Value → Shared → Prop} {hp : Heap} {gs : Array GenState} {dr : Drawn} {tk : Nat} {os : OsState} (h : ∀ tk', wpAny M A t Q E ⟨hp, gs, dr, tk', os⟩) : wpAny M A t Q E ⟨hp, gs, dr, tk, os⟩ := h tk
theorem nums_add {prog : Program} {w : World} {A : Around} {E : Value → Shared → Prop} {s : Shared} {h₀ : Heap} {L a b : Addr} {m : Str → Option Value} {news : List (Addr × Obj)} {lit ys : List Value} {ks zs : List Int} {Q : Value → Shared → Prop}
    (F : Fr h₀ L s.heap m) (N : News h₀ L s.heap news) (ha : s.heap.IsList a lit.toArray) (hi : IntsAre lit ks) (hb : s.heap.IsList b ys.toArray) (hc : CarriedAll ys (List.map (fun a => PyData.int (a.fmod 1000000)) zs)) (hk : (ks.all fun x => decide (0 ≤ x) && decide (x < 1000000)) = true ∧ ks.length = 7) (hz : zs.length ≤ 10)
    (h : ∀ D us xs h', Fr h₀ L h' m → News h₀ L h' [(D, W.listOf (List.toArray us) 0)] → IntsAre us xs → (∀ x ∈ xs, 0 ≤ x ∧ x < 1000000) → 7 ≤ xs.length → xs.length ≤ 17 → Q (.ref D) { s with heap := h' }) :
    wpAny (model prog w) A (binaryOp .Add (.ref a) (.ref b)) Q E s := by
  have hj : IntsAre ys (zs.map fun a => a.fmod 1000000) := CarriedAll.intsOf hc
  refine kmk_add_ints F N ha hb hi hj (fun D us h' F' N' _ hI => h D us _ h' F' (news_sub N' fun p hp => by rw [List.mem_singleton.mp hp]; exact .head _) hI (fun x hx => ?_) ?_ ?_) ?_
  · rcases List.mem_append.mp hx with hx | hx
    · have := List.all_eq_true.mp hk.1 x hx
      simpa using this
    · obtain ⟨y, _, rfl⟩ := List.mem_map.mp hx
      exact ⟨Int.fmod_nonneg_of_pos _ (by decide), Int.fmod_lt_of_pos _ (by decide)⟩
  · rw [List.length_append, hk.2]; omega
  · rw [List.length_append, List.length_map, hk.2]; omega
  · rw [List.length_map, hk.2, sizeLine_eq]; omega
local macro_rules | `(tactic| walk_at "binaryOp Add ref ref") => `(tactic| (k_here; (with_reducible rename CarriedAll _ _ => hc9); k_dflt (refine' nums_add ?gF ?gN ?ga ?gi ?gb hc9 ?gk ?gz ?_; (case gF => k_asm); (case gN => k_asm); (case ga => exact News.isList (by k_asm) (by k_mem)); (case gi => repeat constructor); (case gb => assumption); (case gk => exact ⟨by decide, rfl⟩); (case gz => simp only [List.length_take, List.filter_eq_self.mpr (fun _ _ => rfl)]; omega)); intro D' us' xs' h' F' N' hI' hx' hl7 hl17; refine any_tok ?_; intro tk2))
local macro_rules | `(tactic| walk_at "con execs") => `(tactic| (k_here; (with_reducible refine wpAny_execs_cons ?_); try dsimp only))
local macro_rules | `(tactic| walk_at "execs cons") => goT "con execs"
local macro_rules | `(tactic| walk_at "execs cons Assign cons") => goT "con execs"
local macro_rules | `(tactic| walk_at "execs cons Assign nil") => goT "con execs"
local macro_rules | `(tactic| walk_at "execs cons For cons") => stopT
local macro_rules | `(tactic| walk_at "execs cons If cons") => goT "con execs"
local macro_rules | `(tactic| walk_at "execs cons Expr cons") => goT "con execs"
local macro_rules | `(tactic| walk_at "execs cons Expr nil") => goT "con execs"
theorem names_ok : namesOk view (looseW view [Str.ofString "_filemode_table"]) (namesW view [Str.ofString "_filemode_table"]) = true := by
  (try rw [PySem.W.Fast.te17448422675489707002]); (try rw [PySem.W.Fast.te821141287760084731]); kernel_rfl
theorem imps_ok : importsNone view = true := by
  (try rw [PySem.W.Fast.te2458874890965802552]); kernel_rfl
local macro_rules | `(tactic| walk_at "go law") => `(tactic| (
  intro w s₀ s₁ mg mb G Y fa o pm cd doc dV kV ho hd hcd hD hmg hg args vals as hpre hlay hrd hwl hlo
  have KX := kIn_of Y
  have X := (Ground.X G).1
  have V := (Ground.X G).2
  have GL := glob_more (Ground.glob G names_ok imps_ok) V
  refine Ground.open G ?_
  intro T B D TE TW
  clear D
  obtain ⟨_, _, M⟩ := bmod_of_top T
  have TA := at_of_top T
  (try (obtain ⟨_, _, he, B0⟩ := based_of_top T rfl hmg ho hd; have he' : cd = _ := he; subst he'; clear he))
  clear hmg
  wrow_args hpre hlay hrd hwl hlo
  all_goals (
    first | refine callC_kw (enter_call ?_) | refine enter_call ?_ | refine callC_kw (enter_callW ?_) | refine enter_callW ?_
    w_top on
    try refine codeAny_mono ?_ (fun _ _ g => GoodW.toG g)
    have K0 := below_caller (Top.heap T)
    w_call any ho hd hcd hD T F
    clear hd TA
    k_drop
    skip)))
theorem law_walk : WalkO view [Str.ofString "_filemode_table"] (XL view []) hook.says PySem.Challenge.rw_ik0166_01.row.toRowW lawDef.1.1 lawDef.1.2 fun f vs => PySem.call f vs := by
  k_fill
  walk_at "go law"
  all_goals try k_fold
  (rename List Int => ns)
  refine any_tok fun tk0 => ?_
  refine wp_same ?_
  k_steps
  show wpAny _ _ _ _ _ _
  (rename News _ _ _ _ => N'); (rename Fr _ _ _ _ => F'); (rename Below _ _ _ _ => hB); (rename Frag.In _ _ => hX); (rename Top _ _ _ _ _ _ => hT)
  (rename IntsAre _ _ => hI); (rename _ ≤ 17 => h17); (rename 7 ≤ _ => h7)
  (rename _ ∧ _ => hlt)
  refine wpAny_mono (law_rest _ hB F' hX hT N' (by assumption) hlt.1 hI (by assumption) h7 h17 (Int.fmod_nonneg_of_pos _ (by decide)) (Int.fmod_lt_of_pos _ (by decide))) ?_ (fun _ _ x => x.elim)
  rintro a s ⟨rfl, ⟨m9, F9⟩, hg9, ho9⟩
  (rename _ = #[] => hg0)
  exact law_good F9 (hg9.trans hg0) ho9
end
theorem said : OpenLaw.wellSaid PySem.Challenge.rw_ik0166_01 = true := by
  delta OpenLaw.wellSaid OpenRow.wellSaid OpenRow.partSaid looksOpen
  repeat' (with_reducible refine look_both ?_ ?_)
  all_goals kernel_rfl
theorem hd (hc : WalkO view [Str.ofString "_filemode_table"] (XL view []) hook.says PySem.Challenge.rw_ik0166_01.row.toRowW lawDef.1.1 lawDef.1.2 fun f vs => PySem.call f vs) : PySem.Challenge.rw_ik0166_01.Holds := by
  w_on
  refine holds_law said fun _ => ?_
  refine holds_open (q := view) (loose := [Str.ofString "_filemode_table"]) (Xt := sees) (XP := XL view []) (Yf := hook.obs) (Ya := hook.val) (YP := hook.says) (N := 4700) left (Hook.of hook) (Hook.keeps hook) (fun s e => xl_of s (Bool.and_eq_true_iff.mp e).1) XL.keeps (by rfl) (by rfl) (by rfl) (fun s e => recFacts_of (Bool.and_eq_true_iff.mp e).2) (by rfl) (by first | assumption | decide +kernel) (by decide +kernel) ⟨rfl, rfl, rfl, rfl, rfl, by decide +kernel⟩ ?hw hc
  case hw => w_witness2
end Mine
theorem PySem.Challenge.cw_ik0166_01_holds : PySem.Challenge.rw_ik0166_01.Holds :=
  Mine.hd Mine.law_walk

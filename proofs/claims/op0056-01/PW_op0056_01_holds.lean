import PyProof.Rows.All
import Wide.All
import OpenK.AllK
import Wide.FinOn
import Lean
import PySem.Challenge.RW_op0056_01
set_option genInjectivity false
set_option genSizeOf false
noncomputable section
open PySem PySem.W PyProof.Rows
set_option Elab.async false
set_option maxRecDepth 100000
set_option maxHeartbeats 8000000
set_option linter.unusedVariables false
namespace Mine.hd
abbrev St (x : String) : Str := Str.ofString x
abbrev kh (P : Params) (x : String) : Int := PyData.keyHash P (Str.ofString x)
/-- the text's statements -/
noncomputable def stAt (i : Nat) : Stmt := Challenge.pw_op0056_01.main.body.getD i (.Pass ⟨0, 0, 0, 0⟩)
noncomputable def inAt (i j : Nat) : Stmt := match stAt i with
  | .ClassDef _ _ _ body .. => body.getD j (.Pass ⟨0, 0, 0, 0⟩)
  | s => s
noncomputable def par20 : Arguments := (fun (a : Arguments) (_ : ∃ n b d r t s u k p, stAt 1 = .FunctionDef n a b d r t s u k p) => a) _ ⟨_, _, _, _, _, _, _, _, _, rfl⟩
noncomputable def bod20 : FuncBody := (fun (b : List Stmt) (_ : ∃ n a d r t s u k p, stAt 1 = .FunctionDef n a b d r t s u k p) => FuncBody.stmts b) _ ⟨_, _, _, _, _, _, _, _, _, rfl⟩
noncomputable def sco20 : Scope := (fun (s : Scope) (_ : ∃ n a b d r t u k p, stAt 1 = .FunctionDef n a b d r t s u k p) => s) _ ⟨_, _, _, _, _, _, _, _, _, rfl⟩
noncomputable def par27 : Arguments := (fun (a : Arguments) (_ : ∃ n b d r t s u k p, stAt 2 = .FunctionDef n a b d r t s u k p) => a) _ ⟨_, _, _, _, _, _, _, _, _, rfl⟩
noncomputable def bod27 : FuncBody := (fun (b : List Stmt) (_ : ∃ n a d r t s u k p, stAt 2 = .FunctionDef n a b d r t s u k p) => FuncBody.stmts b) _ ⟨_, _, _, _, _, _, _, _, _, rfl⟩
noncomputable def sco27 : Scope := (fun (s : Scope) (_ : ∃ n a b d r t u k p, stAt 2 = .FunctionDef n a b d r t s u k p) => s) _ ⟨_, _, _, _, _, _, _, _, _, rfl⟩
noncomputable def par34 : Arguments := (fun (a : Arguments) (_ : ∃ n b d r t s u k p, stAt 4 = .FunctionDef n a b d r t s u k p) => a) _ ⟨_, _, _, _, _, _, _, _, _, rfl⟩
noncomputable def bod34 : FuncBody := (fun (b : List Stmt) (_ : ∃ n a d r t s u k p, stAt 4 = .FunctionDef n a b d r t s u k p) => FuncBody.stmts b) _ ⟨_, _, _, _, _, _, _, _, _, rfl⟩
noncomputable def sco34 : Scope := (fun (s : Scope) (_ : ∃ n a b d r t u k p, stAt 4 = .FunctionDef n a b d r t s u k p) => s) _ ⟨_, _, _, _, _, _, _, _, _, rfl⟩
noncomputable def par41 : Arguments := (fun (a : Arguments) (_ : ∃ n b d r t s u k p, stAt 5 = .FunctionDef n a b d r t s u k p) => a) _ ⟨_, _, _, _, _, _, _, _, _, rfl⟩
noncomputable def bod41 : FuncBody := (fun (b : List Stmt) (_ : ∃ n a d r t s u k p, stAt 5 = .FunctionDef n a b d r t s u k p) => FuncBody.stmts b) _ ⟨_, _, _, _, _, _, _, _, _, rfl⟩
noncomputable def sco41 : Scope := (fun (s : Scope) (_ : ∃ n a b d r t u k p, stAt 5 = .FunctionDef n a b d r t s u k p) => s) _ ⟨_, _, _, _, _, _, _, _, _, rfl⟩
noncomputable def par55 : Arguments := (fun (a : Arguments) (_ : ∃ n b d r t s u k p, inAt 6 0 = .FunctionDef n a b d r t s u k p) => a) _ ⟨_, _, _, _, _, _, _, _, _, rfl⟩
noncomputable def bod55 : FuncBody := (fun (b : List Stmt) (_ : ∃ n a d r t s u k p, inAt 6 0 = .FunctionDef n a b d r t s u k p) => FuncBody.stmts b) _ ⟨_, _, _, _, _, _, _, _, _, rfl⟩
noncomputable def sco55 : Scope := (fun (s : Scope) (_ : ∃ n a b d r t u k p, inAt 6 0 = .FunctionDef n a b d r t s u k p) => s) _ ⟨_, _, _, _, _, _, _, _, _, rfl⟩
noncomputable def par69 : Arguments := (fun (a : Arguments) (_ : ∃ n b d r t s u k p, stAt 8 = .FunctionDef n a b d r t s u k p) => a) _ ⟨_, _, _, _, _, _, _, _, _, rfl⟩
noncomputable def bod69 : FuncBody := (fun (b : List Stmt) (_ : ∃ n a d r t s u k p, stAt 8 = .FunctionDef n a b d r t s u k p) => FuncBody.stmts b) _ ⟨_, _, _, _, _, _, _, _, _, rfl⟩
noncomputable def sco69 : Scope := (fun (s : Scope) (_ : ∃ n a b d r t u k p, stAt 8 = .FunctionDef n a b d r t s u k p) => s) _ ⟨_, _, _, _, _, _, _, _, _, rfl⟩
noncomputable def par109 : Arguments := (fun (a : Arguments) (_ : ∃ n b d r t s u k p, stAt 29 = .FunctionDef n a b d r t s u k p) => a) _ ⟨_, _, _, _, _, _, _, _, _, rfl⟩
noncomputable def bod109 : FuncBody := (fun (b : List Stmt) (_ : ∃ n a d r t s u k p, stAt 29 = .FunctionDef n a b d r t s u k p) => FuncBody.stmts b) _ ⟨_, _, _, _, _, _, _, _, _, rfl⟩
noncomputable def sco109 : Scope := (fun (s : Scope) (_ : ∃ n a b d r t u k p, stAt 29 = .FunctionDef n a b d r t s u k p) => s) _ ⟨_, _, _, _, _, _, _, _, _, rfl⟩
noncomputable def par116 : Arguments := (fun (a : Arguments) (_ : ∃ n b d r t s u k p, stAt 31 = .FunctionDef n a b d r t s u k p) => a) _ ⟨_, _, _, _, _, _, _, _, _, rfl⟩
noncomputable def bod116 : FuncBody := (fun (b : List Stmt) (_ : ∃ n a d r t s u k p, stAt 31 = .FunctionDef n a b d r t s u k p) => FuncBody.stmts b) _ ⟨_, _, _, _, _, _, _, _, _, rfl⟩
noncomputable def sco116 : Scope := (fun (s : Scope) (_ : ∃ n a b d r t u k p, stAt 31 = .FunctionDef n a b d r t s u k p) => s) _ ⟨_, _, _, _, _, _, _, _, _, rfl⟩
noncomputable def par123 : Arguments := (fun (a : Arguments) (_ : ∃ n b d r t s u k p, stAt 32 = .FunctionDef n a b d r t s u k p) => a) _ ⟨_, _, _, _, _, _, _, _, _, rfl⟩
noncomputable def bod123 : FuncBody := (fun (b : List Stmt) (_ : ∃ n a d r t s u k p, stAt 32 = .FunctionDef n a b d r t s u k p) => FuncBody.stmts b) _ ⟨_, _, _, _, _, _, _, _, _, rfl⟩
noncomputable def sco123 : Scope := (fun (s : Scope) (_ : ∃ n a b d r t u k p, stAt 32 = .FunctionDef n a b d r t s u k p) => s) _ ⟨_, _, _, _, _, _, _, _, _, rfl⟩
noncomputable def par128 : Arguments := (fun (a : Arguments) (_ : ∃ n b d r t s u k p, stAt 33 = .FunctionDef n a b d r t s u k p) => a) _ ⟨_, _, _, _, _, _, _, _, _, rfl⟩
noncomputable def bod128 : FuncBody := (fun (b : List Stmt) (_ : ∃ n a d r t s u k p, stAt 33 = .FunctionDef n a b d r t s u k p) => FuncBody.stmts b) _ ⟨_, _, _, _, _, _, _, _, _, rfl⟩
noncomputable def sco128 : Scope := (fun (s : Scope) (_ : ∃ n a b d r t u k p, stAt 33 = .FunctionDef n a b d r t s u k p) => s) _ ⟨_, _, _, _, _, _, _, _, _, rfl⟩
noncomputable def par135 : Arguments := (fun (a : Arguments) (_ : ∃ n b d r t s u k p, stAt 34 = .FunctionDef n a b d r t s u k p) => a) _ ⟨_, _, _, _, _, _, _, _, _, rfl⟩
noncomputable def bod135 : FuncBody := (fun (b : List Stmt) (_ : ∃ n a d r t s u k p, stAt 34 = .FunctionDef n a b d r t s u k p) => FuncBody.stmts b) _ ⟨_, _, _, _, _, _, _, _, _, rfl⟩
noncomputable def sco135 : Scope := (fun (s : Scope) (_ : ∃ n a b d r t u k p, stAt 34 = .FunctionDef n a b d r t s u k p) => s) _ ⟨_, _, _, _, _, _, _, _, _, rfl⟩
noncomputable def par142 : Arguments := (fun (a : Arguments) (_ : ∃ n b d r t s u k p, stAt 35 = .FunctionDef n a b d r t s u k p) => a) _ ⟨_, _, _, _, _, _, _, _, _, rfl⟩
noncomputable def bod142 : FuncBody := (fun (b : List Stmt) (_ : ∃ n a d r t s u k p, stAt 35 = .FunctionDef n a b d r t s u k p) => FuncBody.stmts b) _ ⟨_, _, _, _, _, _, _, _, _, rfl⟩
noncomputable def sco142 : Scope := (fun (s : Scope) (_ : ∃ n a b d r t u k p, stAt 35 = .FunctionDef n a b d r t s u k p) => s) _ ⟨_, _, _, _, _, _, _, _, _, rfl⟩
noncomputable def par147 : Arguments := (fun (a : Arguments) (_ : ∃ n b d r t s u k p, stAt 36 = .FunctionDef n a b d r t s u k p) => a) _ ⟨_, _, _, _, _, _, _, _, _, rfl⟩
noncomputable def bod147 : FuncBody := (fun (b : List Stmt) (_ : ∃ n a d r t s u k p, stAt 36 = .FunctionDef n a b d r t s u k p) => FuncBody.stmts b) _ ⟨_, _, _, _, _, _, _, _, _, rfl⟩
noncomputable def sco147 : Scope := (fun (s : Scope) (_ : ∃ n a b d r t u k p, stAt 36 = .FunctionDef n a b d r t s u k p) => s) _ ⟨_, _, _, _, _, _, _, _, _, rfl⟩
noncomputable def par154 : Arguments := (fun (a : Arguments) (_ : ∃ n b d r t s u k p, stAt 37 = .FunctionDef n a b d r t s u k p) => a) _ ⟨_, _, _, _, _, _, _, _, _, rfl⟩
noncomputable def bod154 : FuncBody := (fun (b : List Stmt) (_ : ∃ n a d r t s u k p, stAt 37 = .FunctionDef n a b d r t s u k p) => FuncBody.stmts b) _ ⟨_, _, _, _, _, _, _, _, _, rfl⟩
noncomputable def sco154 : Scope := (fun (s : Scope) (_ : ∃ n a b d r t u k p, stAt 37 = .FunctionDef n a b d r t s u k p) => s) _ ⟨_, _, _, _, _, _, _, _, _, rfl⟩
noncomputable def par159 : Arguments := (fun (a : Arguments) (_ : ∃ n b d r t s u k p, stAt 38 = .FunctionDef n a b d r t s u k p) => a) _ ⟨_, _, _, _, _, _, _, _, _, rfl⟩
noncomputable def bod159 : FuncBody := (fun (b : List Stmt) (_ : ∃ n a d r t s u k p, stAt 38 = .FunctionDef n a b d r t s u k p) => FuncBody.stmts b) _ ⟨_, _, _, _, _, _, _, _, _, rfl⟩
noncomputable def sco159 : Scope := (fun (s : Scope) (_ : ∃ n a b d r t u k p, stAt 38 = .FunctionDef n a b d r t s u k p) => s) _ ⟨_, _, _, _, _, _, _, _, _, rfl⟩
noncomputable def par164 : Arguments := (fun (a : Arguments) (_ : ∃ n b d r t s u k p, stAt 39 = .FunctionDef n a b d r t s u k p) => a) _ ⟨_, _, _, _, _, _, _, _, _, rfl⟩
noncomputable def bod164 : FuncBody := (fun (b : List Stmt) (_ : ∃ n a d r t s u k p, stAt 39 = .FunctionDef n a b d r t s u k p) => FuncBody.stmts b) _ ⟨_, _, _, _, _, _, _, _, _, rfl⟩
noncomputable def sco164 : Scope := (fun (s : Scope) (_ : ∃ n a b d r t u k p, stAt 39 = .FunctionDef n a b d r t s u k p) => s) _ ⟨_, _, _, _, _, _, _, _, _, rfl⟩
noncomputable def par169 : Arguments := (fun (a : Arguments) (_ : ∃ n b d r t s u k p, stAt 40 = .FunctionDef n a b d r t s u k p) => a) _ ⟨_, _, _, _, _, _, _, _, _, rfl⟩
noncomputable def bod169 : FuncBody := (fun (b : List Stmt) (_ : ∃ n a d r t s u k p, stAt 40 = .FunctionDef n a b d r t s u k p) => FuncBody.stmts b) _ ⟨_, _, _, _, _, _, _, _, _, rfl⟩
noncomputable def sco169 : Scope := (fun (s : Scope) (_ : ∃ n a b d r t u k p, stAt 40 = .FunctionDef n a b d r t s u k p) => s) _ ⟨_, _, _, _, _, _, _, _, _, rfl⟩
noncomputable def par176 : Arguments := (fun (a : Arguments) (_ : ∃ n b d r t s u k p, stAt 41 = .FunctionDef n a b d r t s u k p) => a) _ ⟨_, _, _, _, _, _, _, _, _, rfl⟩
noncomputable def bod176 : FuncBody := (fun (b : List Stmt) (_ : ∃ n a d r t s u k p, stAt 41 = .FunctionDef n a b d r t s u k p) => FuncBody.stmts b) _ ⟨_, _, _, _, _, _, _, _, _, rfl⟩
noncomputable def sco176 : Scope := (fun (s : Scope) (_ : ∃ n a b d r t u k p, stAt 41 = .FunctionDef n a b d r t s u k p) => s) _ ⟨_, _, _, _, _, _, _, _, _, rfl⟩
noncomputable def par181 : Arguments := (fun (a : Arguments) (_ : ∃ n b d r t s u k p, stAt 42 = .FunctionDef n a b d r t s u k p) => a) _ ⟨_, _, _, _, _, _, _, _, _, rfl⟩
noncomputable def bod181 : FuncBody := (fun (b : List Stmt) (_ : ∃ n a d r t s u k p, stAt 42 = .FunctionDef n a b d r t s u k p) => FuncBody.stmts b) _ ⟨_, _, _, _, _, _, _, _, _, rfl⟩
noncomputable def sco181 : Scope := (fun (s : Scope) (_ : ∃ n a b d r t u k p, stAt 42 = .FunctionDef n a b d r t s u k p) => s) _ ⟨_, _, _, _, _, _, _, _, _, rfl⟩
noncomputable def par186 : Arguments := (fun (a : Arguments) (_ : ∃ n b d r t s u k p, stAt 43 = .FunctionDef n a b d r t s u k p) => a) _ ⟨_, _, _, _, _, _, _, _, _, rfl⟩
noncomputable def bod186 : FuncBody := (fun (b : List Stmt) (_ : ∃ n a d r t s u k p, stAt 43 = .FunctionDef n a b d r t s u k p) => FuncBody.stmts b) _ ⟨_, _, _, _, _, _, _, _, _, rfl⟩
noncomputable def sco186 : Scope := (fun (s : Scope) (_ : ∃ n a b d r t u k p, stAt 43 = .FunctionDef n a b d r t s u k p) => s) _ ⟨_, _, _, _, _, _, _, _, _, rfl⟩
/-- what stands when the text has run -/
noncomputable def heap_39 : Params → Frag := fun P => [(2, { cls := Value.none, data := Data.dict #[] }),
  (3, { cls := Value.type "dict", data := Data.dict #[{ hash := kh P "__name__", key := Value.str (St "__name__") 165, val := Value.str (St "law_op0056_01") 340 }, { hash := kh P "__doc__", key := Value.str (St "__doc__") 166, val := Value.none }, { hash := kh P "__package__", key := Value.str (St "__package__") 167, val := Value.none }, { hash := kh P "__loader__", key := Value.str (St "__loader__") 168, val := Value.builtin "__main__.__loader__#opaque" }, { hash := kh P "__spec__", key := Value.str (St "__spec__") 169, val := Value.none }, { hash := kh P "__annotations__", key := Value.str (St "__annotations__") 170, val := Value.ref 6 }, { hash := kh P "__builtins__", key := Value.str (St "__builtins__") 171, val := Value.ref 4 }, { hash := kh P "__file__", key := Value.str (St "__file__") 173, val := Value.str (St "/claim/cut.py") 172 }, { hash := kh P "__cached__", key := Value.str (St "__cached__") 174, val := Value.none }, { hash := kh P "unorderable_list_difference", key := Value.str (St "unorderable_list_difference") 198, val := Value.ref 21 }, { hash := kh P "three_way_cmp", key := Value.str (St "three_way_cmp") 206, val := Value.ref 28 }, { hash := kh P "read_uint1", key := Value.str (St "read_uint1") 216, val := Value.ref 35 }, { hash := kh P "read_string1", key := Value.str (St "read_string1") 225, val := Value.ref 42 }, { hash := kh P "_Example", key := Value.str (St "_Example") 254, val := Value.ref 59 }, { hash := kh P "S_IFMT", key := Value.str (St "S_IFMT") 263, val := Value.ref 70 }, { hash := kh P "S_IFDIR", key := Value.str (St "S_IFDIR") 265, val := Value.int 16384 264 }, { hash := kh P "S_IFCHR", key := Value.str (St "S_IFCHR") 267, val := Value.int 8192 266 }, { hash := kh P "S_IFBLK", key := Value.str (St "S_IFBLK") 269, val := Value.int 24576 268 }, { hash := kh P "S_IFREG", key := Value.str (St "S_IFREG") 271, val := Value.int 32768 270 }, { hash := kh P "S_IFIFO", key := Value.str (St "S_IFIFO") 273, val := Value.int 4096 272 }, { hash := kh P "S_IFLNK", key := Value.str (St "S_IFLNK") 275, val := Value.int 40960 274 }, { hash := kh P "S_IFSOCK", key := Value.str (St "S_IFSOCK") 277, val := Value.int 49152 276 }, { hash := kh P "S_ISUID", key := Value.str (St "S_ISUID") 279, val := Value.int 2048 278 }, { hash := kh P "S_ISGID", key := Value.str (St "S_ISGID") 281, val := Value.int 1024 280 }, { hash := kh P "S_ISVTX", key := Value.str (St "S_ISVTX") 283, val := Value.int 512 282 }, { hash := kh P "S_IRUSR", key := Value.str (St "S_IRUSR") 285, val := Value.int 256 284 }, { hash := kh P "S_IWUSR", key := Value.str (St "S_IWUSR") 287, val := Value.int 128 286 }, { hash := kh P "S_IXUSR", key := Value.str (St "S_IXUSR") 289, val := Value.int 64 288 }, { hash := kh P "S_IRGRP", key := Value.str (St "S_IRGRP") 291, val := Value.int 32 290 }, { hash := kh P "S_IWGRP", key := Value.str (St "S_IWGRP") 293, val := Value.int 16 292 }, { hash := kh P "S_IXGRP", key := Value.str (St "S_IXGRP") 295, val := Value.int 8 294 }, { hash := kh P "S_IROTH", key := Value.str (St "S_IROTH") 297, val := Value.int 4 296 }, { hash := kh P "S_IWOTH", key := Value.str (St "S_IWOTH") 299, val := Value.int 2 298 }, { hash := kh P "S_IXOTH", key := Value.str (St "S_IXOTH") 301, val := Value.int 1 300 }, { hash := kh P "_filemode_table", key := Value.str (St "_filemode_table") 327, val := Value.ref 103 }, { hash := kh P "filemode", key := Value.str (St "filemode") 339, val := Value.ref 110 }, { hash := kh P "_law_stream", key := Value.str (St "_law_stream") 353, val := Value.ref 117 }, { hash := kh P "_law_row", key := Value.str (St "_law_row") 365, val := Value.ref 124 }, { hash := kh P "_law_wheels", key := Value.str (St "_law_wheels") 371, val := Value.ref 129 }, { hash := kh P "_law_cut", key := Value.str (St "_law_cut") 382, val := Value.ref 136 }, { hash := kh P "_law_read_all", key := Value.str (St "_law_read_all") 392, val := Value.ref 143 }, { hash := kh P "_law_from_tape", key := Value.str (St "_law_from_tape") 398, val := Value.ref 148 }, { hash := kh P "_law_told", key := Value.str (St "_law_told") 407, val := Value.ref 155 }, { hash := kh P "_law_together", key := Value.str (St "_law_together") 413, val := Value.ref 160 }, { hash := kh P "_law_turns", key := Value.str (St "_law_turns") 419, val := Value.ref 165 }, { hash := kh P "_law_is_wheel", key := Value.str (St "_law_is_wheel") 425, val := Value.ref 170 }, { hash := kh P "_law_parts", key := Value.str (St "_law_parts") 435, val := Value.ref 177 }, { hash := kh P "_law_bags_are_told", key := Value.str (St "_law_bags_are_told") 441, val := Value.ref 182 }, { hash := kh P "law", key := Value.str (St "law") 447, val := Value.ref 187 }] 49 }),
  (15, { cls := Value.type "tuple", data := Data.seq #[] }),
  (17, { cls := Value.type "tuple", data := Data.seq #[Value.str (St "expected") 192, Value.str (St "actual") 193, Value.str (St "missing") 194, Value.str (St "item") 195] }),
  (18, { cls := Value.type "tuple", data := Data.seq #[] }),
  (20, { cls := Value.type "code", data := Data.fields #[Value.str (St "unorderable_list_difference") 189, Value.str (St "unorderable_list_difference") 190, Value.str (St "/claim/cut.py") 191, Value.int 2 0, Value.int 2 0, Value.int 0 0, Value.int 0 0, Value.int 3 0, Value.ref 15, Value.bool true, Value.int 181 0, Value.ref 16, Value.none, Value.ref 17, Value.ref 18, Value.ref 19, Value.int 196 0, Value.int 2 0, Value.str (St "/claim/cut.py") 197] }),
  (21, { cls := Value.type "function", data := Data.func { name := St "unorderable_list_difference", qualname := St "unorderable_list_difference", params := par20, body := bod20, scope := sco20, globals := 3, closure := [], defaults := Value.none, kwdefaults := Value.none, pyModule := Value.str (St "cpy313.unittest.util") 187, code := Value.ref 20 } }),
  (22, { cls := Value.type "tuple", data := Data.seq #[] }),
  (24, { cls := Value.type "tuple", data := Data.seq #[Value.str (St "x") 202, Value.str (St "y") 203] }),
  (25, { cls := Value.type "tuple", data := Data.seq #[] }),
  (27, { cls := Value.type "code", data := Data.fields #[Value.str (St "three_way_cmp") 199, Value.str (St "three_way_cmp") 200, Value.str (St "/claim/cut.py") 201, Value.int 11 0, Value.int 2 0, Value.int 0 0, Value.int 0 0, Value.int 3 0, Value.ref 22, Value.bool true, Value.int 181 0, Value.ref 23, Value.none, Value.ref 24, Value.ref 25, Value.ref 26, Value.int 204 0, Value.int 11 0, Value.str (St "/claim/cut.py") 205] }),
  (28, { cls := Value.type "function", data := Data.func { name := St "three_way_cmp", qualname := St "three_way_cmp", params := par27, body := bod27, scope := sco27, globals := 3, closure := [], defaults := Value.none, kwdefaults := Value.none, pyModule := Value.str (St "cpy313.unittest.util") 187, code := Value.ref 27 } }),
  (29, { cls := Value.type "tuple", data := Data.seq #[] }),
  (31, { cls := Value.type "tuple", data := Data.seq #[Value.str (St "f") 212, Value.str (St "data") 213] }),
  (32, { cls := Value.type "tuple", data := Data.seq #[] }),
  (34, { cls := Value.type "code", data := Data.fields #[Value.str (St "read_uint1") 209, Value.str (St "read_uint1") 210, Value.str (St "/claim/cut.py") 211, Value.int 14 0, Value.int 1 0, Value.int 0 0, Value.int 0 0, Value.int 3 0, Value.ref 29, Value.bool true, Value.int 181 0, Value.ref 30, Value.none, Value.ref 31, Value.ref 32, Value.ref 33, Value.int 214 0, Value.int 14 0, Value.str (St "/claim/cut.py") 215] }),
  (35, { cls := Value.type "function", data := Data.func { name := St "read_uint1", qualname := St "read_uint1", params := par34, body := bod34, scope := sco34, globals := 3, closure := [], defaults := Value.none, kwdefaults := Value.none, pyModule := Value.str (St "cpy313.pickletools") 207, code := Value.ref 34 } }),
  (36, { cls := Value.type "tuple", data := Data.seq #[] }),
  (38, { cls := Value.type "tuple", data := Data.seq #[Value.str (St "f") 220, Value.str (St "n") 221, Value.str (St "data") 222] }),
  (39, { cls := Value.type "tuple", data := Data.seq #[] }),
  (41, { cls := Value.type "code", data := Data.fields #[Value.str (St "read_string1") 217, Value.str (St "read_string1") 218, Value.str (St "/claim/cut.py") 219, Value.int 19 0, Value.int 1 0, Value.int 0 0, Value.int 0 0, Value.int 3 0, Value.ref 36, Value.bool true, Value.int 181 0, Value.ref 37, Value.none, Value.ref 38, Value.ref 39, Value.ref 40, Value.int 223 0, Value.int 19 0, Value.str (St "/claim/cut.py") 224] }),
  (42, { cls := Value.type "function", data := Data.func { name := St "read_string1", qualname := St "read_string1", params := par41, body := bod41, scope := sco41, globals := 3, closure := [], defaults := Value.none, kwdefaults := Value.none, pyModule := Value.str (St "cpy313.pickletools") 207, code := Value.ref 41 } }),
  (50, { cls := Value.type "tuple", data := Data.seq #[] }),
  (52, { cls := Value.type "tuple", data := Data.seq #[Value.str (St "self") 241, Value.str (St "value") 242] }),
  (53, { cls := Value.type "tuple", data := Data.seq #[] }),
  (55, { cls := Value.type "code", data := Data.fields #[Value.str (St "__init__") 238, Value.str (St "_Example.__init__") 239, Value.str (St "/claim/cut.py") 240, Value.int 28 0, Value.int 2 0, Value.int 0 0, Value.int 0 0, Value.int 3 0, Value.ref 50, Value.bool true, Value.int 181 0, Value.ref 51, Value.none, Value.ref 52, Value.ref 53, Value.ref 54, Value.int 243 0, Value.int 28 0, Value.str (St "/claim/cut.py") 244] }),
  (56, { cls := Value.type "function", data := Data.func { name := St "__init__", qualname := St "_Example.__init__", params := par55, body := bod55, scope := sco55, globals := 3, closure := [], defaults := Value.none, kwdefaults := Value.none, pyModule := Value.str (St "cpy313.pickletools") 207, code := Value.ref 55 } }),
  (57, { cls := Value.type "tuple", data := Data.seq #[Value.str (St "value") 246] }),
  (58, { cls := Value.type "dict", data := Data.dict #[{ hash := kh P "__module__", key := Value.str (St "__module__") 233, val := Value.str (St "cpy313.pickletools") 207 }, { hash := kh P "__firstlineno__", key := Value.str (St "__firstlineno__") 237, val := Value.int 26 236 }, { hash := kh P "__init__", key := Value.str (St "__init__") 245, val := Value.ref 56 }, { hash := kh P "__static_attributes__", key := Value.str (St "__static_attributes__") 247, val := Value.ref 57 }, { hash := kh P "__dict__", key := Value.str (St "__dict__") 249, val := Value.ref 60 }, { hash := kh P "__weakref__", key := Value.str (St "__weakref__") 251, val := Value.ref 61 }, { hash := kh P "__doc__", key := Value.str (St "__doc__") 252, val := Value.none }] 4 }),
  (59, { cls := Value.type "type", data := Data.cls { name := St "_Example", bases := [Value.type "object"], mro := [Value.ref 59, Value.type "object"], ns := 58, qualname := St "_Example" }, slots := #[none, none, some (Value.str (St "_Example") 226), some (Value.str (St "_Example") 234), some (Value.builtin "object.__new__"), some (Value.bool true)] }),
  (60, { cls := Value.type "getset_descriptor", data := Data.fields #[Value.str (St "__dict__") 248, Value.ref 59, Value.builtin "function.__dict__", Value.builtin "function.__dict__#set"] }),
  (61, { cls := Value.type "getset_descriptor", data := Data.fields #[Value.str (St "__weakref__") 250, Value.ref 59, Value.builtin "ExceptionGroup.__weakref__", Value.none] }),
  (64, { cls := Value.type "tuple", data := Data.seq #[] }),
  (66, { cls := Value.type "tuple", data := Data.seq #[Value.str (St "mode") 260] }),
  (67, { cls := Value.type "tuple", data := Data.seq #[] }),
  (69, { cls := Value.type "code", data := Data.fields #[Value.str (St "S_IFMT") 257, Value.str (St "S_IFMT") 258, Value.str (St "/claim/cut.py") 259, Value.int 31 0, Value.int 1 0, Value.int 0 0, Value.int 0 0, Value.int 3 0, Value.ref 64, Value.bool true, Value.int 181 0, Value.ref 65, Value.none, Value.ref 66, Value.ref 67, Value.ref 68, Value.int 261 0, Value.int 31 0, Value.str (St "/claim/cut.py") 262] }),
  (70, { cls := Value.type "function", data := Data.func { name := St "S_IFMT", qualname := St "S_IFMT", params := par69, body := bod69, scope := sco69, globals := 3, closure := [], defaults := Value.none, kwdefaults := Value.none, pyModule := Value.str (St "cpy313.stat") 255, code := Value.ref 69 } }),
  (71, { cls := Value.type "tuple", data := Data.seq #[Value.int 40960 274, Value.str (St "l") 302] }),
  (72, { cls := Value.type "tuple", data := Data.seq #[Value.int 49152 276, Value.str (St "s") 303] }),
  (73, { cls := Value.type "tuple", data := Data.seq #[Value.int 32768 270, Value.str (St "-") 304] }),
  (74, { cls := Value.type "tuple", data := Data.seq #[Value.int 24576 268, Value.str (St "b") 305] }),
  (75, { cls := Value.type "tuple", data := Data.seq #[Value.int 16384 264, Value.str (St "d") 306] }),
  (76, { cls := Value.type "tuple", data := Data.seq #[Value.int 8192 266, Value.str (St "c") 307] }),
  (77, { cls := Value.type "tuple", data := Data.seq #[Value.int 4096 272, Value.str (St "p") 308] }),
  (78, { cls := Value.type "tuple", data := Data.seq #[Value.ref 71, Value.ref 72, Value.ref 73, Value.ref 74, Value.ref 75, Value.ref 76, Value.ref 77] }),
  (79, { cls := Value.type "tuple", data := Data.seq #[Value.int 256 284, Value.str (St "r") 309] }),
  (80, { cls := Value.type "tuple", data := Data.seq #[Value.ref 79] }),
  (81, { cls := Value.type "tuple", data := Data.seq #[Value.int 128 286, Value.str (St "w") 310] }),
  (82, { cls := Value.type "tuple", data := Data.seq #[Value.ref 81] }),
  (83, { cls := Value.type "tuple", data := Data.seq #[Value.int 2112 311, Value.str (St "s") 312] }),
  (84, { cls := Value.type "tuple", data := Data.seq #[Value.int 2048 278, Value.str (St "S") 313] }),
  (85, { cls := Value.type "tuple", data := Data.seq #[Value.int 64 288, Value.str (St "x") 314] }),
  (86, { cls := Value.type "tuple", data := Data.seq #[Value.ref 83, Value.ref 84, Value.ref 85] }),
  (87, { cls := Value.type "tuple", data := Data.seq #[Value.int 32 290, Value.str (St "r") 315] }),
  (88, { cls := Value.type "tuple", data := Data.seq #[Value.ref 87] }),
  (89, { cls := Value.type "tuple", data := Data.seq #[Value.int 16 292, Value.str (St "w") 316] }),
  (90, { cls := Value.type "tuple", data := Data.seq #[Value.ref 89] }),
  (91, { cls := Value.type "tuple", data := Data.seq #[Value.int 1032 317, Value.str (St "s") 318] }),
  (92, { cls := Value.type "tuple", data := Data.seq #[Value.int 1024 280, Value.str (St "S") 319] }),
  (93, { cls := Value.type "tuple", data := Data.seq #[Value.int 8 294, Value.str (St "x") 320] }),
  (94, { cls := Value.type "tuple", data := Data.seq #[Value.ref 91, Value.ref 92, Value.ref 93] }),
  (95, { cls := Value.type "tuple", data := Data.seq #[Value.int 4 296, Value.str (St "r") 321] }),
  (96, { cls := Value.type "tuple", data := Data.seq #[Value.ref 95] }),
  (97, { cls := Value.type "tuple", data := Data.seq #[Value.int 2 298, Value.str (St "w") 322] }),
  (98, { cls := Value.type "tuple", data := Data.seq #[Value.ref 97] }),
  (99, { cls := Value.type "tuple", data := Data.seq #[Value.int 513 323, Value.str (St "t") 324] }),
  (100, { cls := Value.type "tuple", data := Data.seq #[Value.int 512 282, Value.str (St "T") 325] }),
  (101, { cls := Value.type "tuple", data := Data.seq #[Value.int 1 300, Value.str (St "x") 326] }),
  (102, { cls := Value.type "tuple", data := Data.seq #[Value.ref 99, Value.ref 100, Value.ref 101] }),
  (103, { cls := Value.type "tuple", data := Data.seq #[Value.ref 78, Value.ref 80, Value.ref 82, Value.ref 86, Value.ref 88, Value.ref 90, Value.ref 94, Value.ref 96, Value.ref 98, Value.ref 102] }),
  (104, { cls := Value.type "tuple", data := Data.seq #[] }),
  (106, { cls := Value.type "tuple", data := Data.seq #[Value.str (St "mode") 331, Value.str (St "perm") 332, Value.str (St "index") 333, Value.str (St "table") 334, Value.str (St "bit") 335, Value.str (St "char") 336] }),
  (107, { cls := Value.type "tuple", data := Data.seq #[] }),
  (109, { cls := Value.type "code", data := Data.fields #[Value.str (St "filemode") 328, Value.str (St "filemode") 329, Value.str (St "/claim/cut.py") 330, Value.int 53 0, Value.int 1 0, Value.int 0 0, Value.int 0 0, Value.int 3 0, Value.ref 104, Value.bool true, Value.int 181 0, Value.ref 105, Value.none, Value.ref 106, Value.ref 107, Value.ref 108, Value.int 337 0, Value.int 53 0, Value.str (St "/claim/cut.py") 338] }),
  (110, { cls := Value.type "function", data := Data.func { name := St "filemode", qualname := St "filemode", params := par109, body := bod109, scope := sco109, globals := 3, closure := [], defaults := Value.none, kwdefaults := Value.none, pyModule := Value.str (St "cpy313.stat") 255, code := Value.ref 109 } }),
  (111, { cls := Value.type "tuple", data := Data.seq #[] }),
  (113, { cls := Value.type "tuple", data := Data.seq #[Value.str (St "octets") 345, Value.str (St "at") 346, Value.str (St "tape") 347, Value.str (St "_law_read") 348] }),
  (114, { cls := Value.type "tuple", data := Data.seq #[Value.str (St "octets") 349, Value.str (St "at") 350] }),
  (116, { cls := Value.type "code", data := Data.fields #[Value.str (St "_law_stream") 342, Value.str (St "_law_stream") 343, Value.str (St "/claim/cut.py") 344, Value.int 71 0, Value.int 2 0, Value.int 0 0, Value.int 0 0, Value.int 3 0, Value.ref 111, Value.bool true, Value.int 181 0, Value.ref 112, Value.none, Value.ref 113, Value.ref 114, Value.ref 115, Value.int 351 0, Value.int 71 0, Value.str (St "/claim/cut.py") 352] }),
  (117, { cls := Value.type "function", data := Data.func { name := St "_law_stream", qualname := St "_law_stream", params := par116, body := bod116, scope := sco116, globals := 3, closure := [], defaults := Value.none, kwdefaults := Value.none, pyModule := Value.str (St "law_op0056_01") 340, code := Value.ref 116 } }),
  (118, { cls := Value.type "tuple", data := Data.seq #[] }),
  (120, { cls := Value.type "tuple", data := Data.seq #[Value.str (St "kind") 357, Value.str (St "rights") 358, Value.str (St "row") 359, Value.str (St "turn") 360, Value.str (St "digit") 361, Value.str (St "last") 362] }),
  (121, { cls := Value.type "tuple", data := Data.seq #[] }),
  (123, { cls := Value.type "code", data := Data.fields #[Value.str (St "_law_row") 354, Value.str (St "_law_row") 355, Value.str (St "/claim/cut.py") 356, Value.int 80 0, Value.int 2 0, Value.int 0 0, Value.int 0 0, Value.int 3 0, Value.ref 118, Value.bool true, Value.int 181 0, Value.ref 119, Value.none, Value.ref 120, Value.ref 121, Value.ref 122, Value.int 363 0, Value.int 80 0, Value.str (St "/claim/cut.py") 364] }),
  (124, { cls := Value.type "function", data := Data.func { name := St "_law_row", qualname := St "_law_row", params := par123, body := bod123, scope := sco123, globals := 3, closure := [], defaults := Value.none, kwdefaults := Value.none, pyModule := Value.str (St "law_op0056_01") 340, code := Value.ref 123 } }),
  (125, { cls := Value.type "tuple", data := Data.seq #[] }),
  (128, { cls := Value.type "code", data := Data.fields #[Value.str (St "_law_wheels") 366, Value.str (St "_law_wheels") 367, Value.str (St "/claim/cut.py") 368, Value.int 88 0, Value.int 1 0, Value.int 0 0, Value.int 0 0, Value.int 3 0, Value.ref 125, Value.bool true, Value.int 181 0, Value.ref 126, Value.none, Value.none, Value.none, Value.ref 127, Value.int 369 0, Value.int 88 0, Value.str (St "/claim/cut.py") 370] }),
  (129, { cls := Value.type "function", data := Data.func { name := St "_law_wheels", qualname := St "_law_wheels", params := par128, body := bod128, scope := sco128, globals := 3, closure := [], defaults := Value.none, kwdefaults := Value.none, pyModule := Value.str (St "law_op0056_01") 340, code := Value.ref 128 } }),
  (130, { cls := Value.type "tuple", data := Data.seq #[] }),
  (132, { cls := Value.type "tuple", data := Data.seq #[Value.str (St "text") 375, Value.str (St "number") 376, Value.str (St "words") 377, Value.str (St "rest") 378, Value.str (St "left") 379] }),
  (133, { cls := Value.type "tuple", data := Data.seq #[] }),
  (135, { cls := Value.type "code", data := Data.fields #[Value.str (St "_law_cut") 372, Value.str (St "_law_cut") 373, Value.str (St "/claim/cut.py") 374, Value.int 102 0, Value.int 2 0, Value.int 0 0, Value.int 0 0, Value.int 3 0, Value.ref 130, Value.bool true, Value.int 181 0, Value.ref 131, Value.none, Value.ref 132, Value.ref 133, Value.ref 134, Value.int 380 0, Value.int 102 0, Value.str (St "/claim/cut.py") 381] }),
  (136, { cls := Value.type "function", data := Data.func { name := St "_law_cut", qualname := St "_law_cut", params := par135, body := bod135, scope := sco135, globals := 3, closure := [], defaults := Value.none, kwdefaults := Value.none, pyModule := Value.str (St "law_op0056_01") 340, code := Value.ref 135 } }),
  (137, { cls := Value.type "tuple", data := Data.seq #[] }),
  (139, { cls := Value.type "tuple", data := Data.seq #[Value.str (St "octets") 386, Value.str (St "tape") 387, Value.str (St "texts") 388, Value.str (St "err") 389] }),
  (140, { cls := Value.type "tuple", data := Data.seq #[] }),
  (142, { cls := Value.type "code", data := Data.fields #[Value.str (St "_law_read_all") 383, Value.str (St "_law_read_all") 384, Value.str (St "/claim/cut.py") 385, Value.int 111 0, Value.int 1 0, Value.int 0 0, Value.int 0 0, Value.int 3 0, Value.ref 137, Value.bool true, Value.int 181 0, Value.ref 138, Value.none, Value.ref 139, Value.ref 140, Value.ref 141, Value.int 390 0, Value.int 111 0, Value.str (St "/claim/cut.py") 391] }),
  (143, { cls := Value.type "function", data := Data.func { name := St "_law_read_all", qualname := St "_law_read_all", params := par142, body := bod142, scope := sco142, globals := 3, closure := [], defaults := Value.none, kwdefaults := Value.none, pyModule := Value.str (St "law_op0056_01") 340, code := Value.ref 142 } }),
  (144, { cls := Value.type "tuple", data := Data.seq #[] }),
  (147, { cls := Value.type "code", data := Data.fields #[Value.str (St "_law_from_tape") 393, Value.str (St "_law_from_tape") 394, Value.str (St "/claim/cut.py") 395, Value.int 120 0, Value.int 1 0, Value.int 0 0, Value.int 0 0, Value.int 3 0, Value.ref 144, Value.bool true, Value.int 181 0, Value.ref 145, Value.none, Value.none, Value.none, Value.ref 146, Value.int 396 0, Value.int 120 0, Value.str (St "/claim/cut.py") 397] }),
  (148, { cls := Value.type "function", data := Data.func { name := St "_law_from_tape", qualname := St "_law_from_tape", params := par147, body := bod147, scope := sco147, globals := 3, closure := [], defaults := Value.none, kwdefaults := Value.none, pyModule := Value.str (St "law_op0056_01") 340, code := Value.ref 147 } }),
  (149, { cls := Value.type "tuple", data := Data.seq #[] }),
  (151, { cls := Value.type "tuple", data := Data.seq #[Value.str (St "one") 402, Value.str (St "two") 403, Value.str (St "marks") 404] }),
  (152, { cls := Value.type "tuple", data := Data.seq #[] }),
  (154, { cls := Value.type "code", data := Data.fields #[Value.str (St "_law_told") 399, Value.str (St "_law_told") 400, Value.str (St "/claim/cut.py") 401, Value.int 131 0, Value.int 2 0, Value.int 0 0, Value.int 0 0, Value.int 3 0, Value.ref 149, Value.bool true, Value.int 181 0, Value.ref 150, Value.none, Value.ref 151, Value.ref 152, Value.ref 153, Value.int 405 0, Value.int 131 0, Value.str (St "/claim/cut.py") 406] }),
  (155, { cls := Value.type "function", data := Data.func { name := St "_law_told", qualname := St "_law_told", params := par154, body := bod154, scope := sco154, globals := 3, closure := [], defaults := Value.none, kwdefaults := Value.none, pyModule := Value.str (St "law_op0056_01") 340, code := Value.ref 154 } }),
  (156, { cls := Value.type "tuple", data := Data.seq #[] }),
  (159, { cls := Value.type "code", data := Data.fields #[Value.str (St "_law_together") 408, Value.str (St "_law_together") 409, Value.str (St "/claim/cut.py") 410, Value.int 136 0, Value.int 1 0, Value.int 0 0, Value.int 0 0, Value.int 3 0, Value.ref 156, Value.bool true, Value.int 181 0, Value.ref 157, Value.none, Value.none, Value.none, Value.ref 158, Value.int 411 0, Value.int 136 0, Value.str (St "/claim/cut.py") 412] }),
  (160, { cls := Value.type "function", data := Data.func { name := St "_law_together", qualname := St "_law_together", params := par159, body := bod159, scope := sco159, globals := 3, closure := [], defaults := Value.none, kwdefaults := Value.none, pyModule := Value.str (St "law_op0056_01") 340, code := Value.ref 159 } }),
  (161, { cls := Value.type "tuple", data := Data.seq #[] }),
  (164, { cls := Value.type "code", data := Data.fields #[Value.str (St "_law_turns") 414, Value.str (St "_law_turns") 415, Value.str (St "/claim/cut.py") 416, Value.int 147 0, Value.int 1 0, Value.int 0 0, Value.int 0 0, Value.int 3 0, Value.ref 161, Value.bool true, Value.int 181 0, Value.ref 162, Value.none, Value.none, Value.none, Value.ref 163, Value.int 417 0, Value.int 147 0, Value.str (St "/claim/cut.py") 418] }),
  (165, { cls := Value.type "function", data := Data.func { name := St "_law_turns", qualname := St "_law_turns", params := par164, body := bod164, scope := sco164, globals := 3, closure := [], defaults := Value.none, kwdefaults := Value.none, pyModule := Value.str (St "law_op0056_01") 340, code := Value.ref 164 } }),
  (166, { cls := Value.type "tuple", data := Data.seq #[] }),
  (169, { cls := Value.type "code", data := Data.fields #[Value.str (St "_law_is_wheel") 420, Value.str (St "_law_is_wheel") 421, Value.str (St "/claim/cut.py") 422, Value.int 149 0, Value.int 1 0, Value.int 0 0, Value.int 0 0, Value.int 3 0, Value.ref 166, Value.bool true, Value.int 181 0, Value.ref 167, Value.none, Value.none, Value.none, Value.ref 168, Value.int 423 0, Value.int 149 0, Value.str (St "/claim/cut.py") 424] }),
  (170, { cls := Value.type "function", data := Data.func { name := St "_law_is_wheel", qualname := St "_law_is_wheel", params := par169, body := bod169, scope := sco169, globals := 3, closure := [], defaults := Value.none, kwdefaults := Value.none, pyModule := Value.str (St "law_op0056_01") 340, code := Value.ref 169 } }),
  (171, { cls := Value.type "tuple", data := Data.seq #[] }),
  (173, { cls := Value.type "tuple", data := Data.seq #[Value.str (St "words") 429, Value.str (St "parts") 430, Value.str (St "word") 431, Value.str (St "size") 432] }),
  (174, { cls := Value.type "tuple", data := Data.seq #[] }),
  (176, { cls := Value.type "code", data := Data.fields #[Value.str (St "_law_parts") 426, Value.str (St "_law_parts") 427, Value.str (St "/claim/cut.py") 428, Value.int 152 0, Value.int 1 0, Value.int 0 0, Value.int 0 0, Value.int 3 0, Value.ref 171, Value.bool true, Value.int 181 0, Value.ref 172, Value.none, Value.ref 173, Value.ref 174, Value.ref 175, Value.int 433 0, Value.int 152 0, Value.str (St "/claim/cut.py") 434] }),
  (177, { cls := Value.type "function", data := Data.func { name := St "_law_parts", qualname := St "_law_parts", params := par176, body := bod176, scope := sco176, globals := 3, closure := [], defaults := Value.none, kwdefaults := Value.none, pyModule := Value.str (St "law_op0056_01") 340, code := Value.ref 176 } }),
  (178, { cls := Value.type "tuple", data := Data.seq #[] }),
  (181, { cls := Value.type "code", data := Data.fields #[Value.str (St "_law_bags_are_told") 436, Value.str (St "_law_bags_are_told") 437, Value.str (St "/claim/cut.py") 438, Value.int 160 0, Value.int 2 0, Value.int 0 0, Value.int 0 0, Value.int 3 0, Value.ref 178, Value.bool true, Value.int 181 0, Value.ref 179, Value.none, Value.none, Value.none, Value.ref 180, Value.int 439 0, Value.int 160 0, Value.str (St "/claim/cut.py") 440] }),
  (182, { cls := Value.type "function", data := Data.func { name := St "_law_bags_are_told", qualname := St "_law_bags_are_told", params := par181, body := bod181, scope := sco181, globals := 3, closure := [], defaults := Value.none, kwdefaults := Value.none, pyModule := Value.str (St "law_op0056_01") 340, code := Value.ref 181 } }),
  (183, { cls := Value.type "tuple", data := Data.seq #[] }),
  (186, { cls := Value.type "code", data := Data.fields #[Value.str (St "law") 442, Value.str (St "law") 443, Value.str (St "/claim/cut.py") 444, Value.int 168 0, Value.int 1 0, Value.int 0 0, Value.int 0 0, Value.int 3 0, Value.ref 183, Value.bool true, Value.int 181 0, Value.ref 184, Value.none, Value.none, Value.none, Value.ref 185, Value.int 445 0, Value.int 168 0, Value.str (St "/claim/cut.py") 446] }),
  (187, { cls := Value.type "function", data := Data.func { name := St "law", qualname := St "law", params := par186, body := bod186, scope := sco186, globals := 3, closure := [], defaults := Value.none, kwdefaults := Value.none, pyModule := Value.str (St "law_op0056_01") 340, code := Value.ref 186 } })]
noncomputable def keep : List Stmt := [1, 2, 4, 5, 6, 8, 9, 10, 11, 12, 13, 14, 15, 16, 17, 18, 19, 20, 21, 22, 23, 24, 25, 26, 27, 28, 29, 31, 32, 33, 34, 35, 36, 37, 38, 39, 40, 41, 42, 43].map stAt
noncomputable def view_39 : Program := { Challenge.pw_op0056_01 with main := { Challenge.pw_op0056_01.main with body := keep } }
def loose : List Str := [Str.ofString "_filemode_table"]
def vals : List (Str × WData) := [(Str.ofString "_filemode_table", WData.tuple [WData.tuple [WData.tuple [WData.int 40960, WData.str { cps := #[108] }], WData.tuple [WData.int 49152, WData.str { cps := #[115] }], WData.tuple [WData.int 32768, WData.str { cps := #[45] }], WData.tuple [WData.int 24576, WData.str { cps := #[98] }], WData.tuple [WData.int 16384, WData.str { cps := #[100] }], WData.tuple [WData.int 8192, WData.str { cps := #[99] }], WData.tuple [WData.int 4096, WData.str { cps := #[112] }]], WData.tuple [WData.tuple [WData.int 256, WData.str { cps := #[114] }]], WData.tuple [WData.tuple [WData.int 128, WData.str { cps := #[119] }]], WData.tuple [WData.tuple [WData.int 2112, WData.str { cps := #[115] }], WData.tuple [WData.int 2048, WData.str { cps := #[83] }], WData.tuple [WData.int 64, WData.str { cps := #[120] }]], WData.tuple [WData.tuple [WData.int 32, WData.str { cps := #[114] }]], WData.tuple [WData.tuple [WData.int 16, WData.str { cps := #[119] }]], WData.tuple [WData.tuple [WData.int 1032, WData.str { cps := #[115] }], WData.tuple [WData.int 1024, WData.str { cps := #[83] }], WData.tuple [WData.int 8, WData.str { cps := #[120] }]], WData.tuple [WData.tuple [WData.int 4, WData.str { cps := #[114] }]], WData.tuple [WData.tuple [WData.int 2, WData.str { cps := #[119] }]], WData.tuple [WData.tuple [WData.int 513, WData.str { cps := #[116] }], WData.tuple [WData.int 512, WData.str { cps := #[84] }], WData.tuple [WData.int 1, WData.str { cps := #[120] }]]])]
def places : List Addr := [2, 3, 15, 17, 18, 20, 21, 22, 24, 25, 27, 28, 29, 31, 32, 34, 35, 36, 38, 39, 41, 42, 50, 52, 53, 55, 56, 57, 58, 59, 60, 61, 64, 66, 67, 69, 70, 71, 72, 73, 74, 75, 76, 77, 78, 79, 80, 81, 82, 83, 84, 85, 86, 87, 88, 89, 90, 91, 92, 93, 94, 95, 96, 97, 98, 99, 100, 101, 102, 103, 104, 106, 107, 109, 110, 111, 113, 114, 116, 117, 118, 120, 121, 123, 124, 125, 128, 129, 130, 132, 133, 135, 136, 137, 139, 140, 142, 143, 144, 147, 148, 149, 151, 152, 154, 155, 156, 159, 160, 161, 164, 165, 166, 169, 170, 171, 173, 174, 176, 177, 178, 181, 182, 183, 186, 187]
theorem places_of (P : Params) : places = (heap_39 P).map (·.1) := by kernel_rfl
noncomputable abbrev hook : Hook := kmHook heap_39 places places_of [112]
theorem left : LeftO Challenge.pw_op0056_01 view_39 [Str.ofString "_filemode_table"] (fun s => xlAt view_39 vals s && recOk (RowW.records (OpenRow.toRowW Challenge.rw_op0056_01.row)) s) (Hook.obs hook) (Hook.val hook) 2434 := fun w => by kernel_rfl
end Mine.hd
end
noncomputable section
open PySem PySem.Calls PySem.W PyProof.Rows
set_option Elab.async false
set_option maxRecDepth 100000
set_option linter.unusedVariables false
namespace Mine

abbrev Le (h h' : Heap) : Prop := ∀ b o, h.get? b = some o → h'.get? b = some o
theorem Le.refl (h : Heap) : Le h h := fun _ _ e => e
theorem Le.trans {a b c : Heap} (x : Le a b) (y : Le b c) : Le a c := fun _ _ e => y _ _ (x _ _ e)
theorem Le.push (h : Heap) (o : Obj) : Le h (h.push o) := fun _ _ e => Heap.get?_push_of_some _ e

abbrev lo (vs : List Value) (n : Nat) : Obj := { cls := .type "list", dict := none, data := .seq vs.toArray n, slots := #[] }
abbrev tu (vs : List Value) (n : Nat) : Obj := { cls := .type "tuple", dict := none, data := .seq vs.toArray n, slots := #[] }

mutual
inductive Rd (U : List Addr) (h : Heap) : Value → PyData → Prop
  | none : Rd U h .none .none
  | bool (b : Bool) : Rd U h (.bool b) (.bool b)
  | int (i : Int) (t : Tok) : Rd U h (.int i t) (.int i)
  | str (x : Str) (t : Tok) : Rd U h (.str x t) (.str x)
  | list {a : Addr} {vs : List Value} {n : Nat} {ds : List PyData} : a ∉ U → h.get? a = some (lo vs n) → RdL U h vs ds → Rd U h (.ref a) (.list ds)
  | tuple {a : Addr} {vs : List Value} {n : Nat} {ds : List PyData} : a ∉ U → h.get? a = some (tu vs n) → RdL U h vs ds → Rd U h (.ref a) (.tuple ds)
inductive RdL (U : List Addr) (h : Heap) : List Value → List PyData → Prop
  | nil : RdL U h [] []
  | cons {v : Value} {vs : List Value} {d : PyData} {ds : List PyData} : Rd U h v d → RdL U h vs ds → RdL U h (v :: vs) (d :: ds)
end

mutual
/-- any change of the heap that keeps the objects of the footprint -/
theorem Rd.frame {U U' : List Addr} {h h' : Heap} (hk : ∀ b o, b ∉ U → h.get? b = some o → b ∉ U' ∧ h'.get? b = some o) : ∀ {v : Value} {d : PyData}, Rd U h v d → Rd U' h' v d
  | _, _, .none => .none
  | _, _, .bool b => .bool b
  | _, _, .int i t => .int i t
  | _, _, .str x t => .str x t
  | _, _, .list ha hg r => .list (hk _ _ ha hg).1 (hk _ _ ha hg).2 (RdL.frame hk r)
  | _, _, .tuple ha hg r => .tuple (hk _ _ ha hg).1 (hk _ _ ha hg).2 (RdL.frame hk r)
theorem RdL.frame {U U' : List Addr} {h h' : Heap} (hk : ∀ b o, b ∉ U → h.get? b = some o → b ∉ U' ∧ h'.get? b = some o) : ∀ {vs : List Value} {ds : List PyData}, RdL U h vs ds → RdL U' h' vs ds
  | _, _, .nil => .nil
  | _, _, .cons x r => .cons (Rd.frame hk x) (RdL.frame hk r)
end
mutual
theorem Rd.reads {U : List Addr} {h : Heap} : ∀ {v : Value} {d : PyData}, Rd U h v d → ∃ as, Reads h v d as
  | _, _, .none => ⟨_, .none⟩
  | _, _, .bool b => ⟨_, .bool b⟩
  | _, _, .int i t => ⟨_, .int i t⟩
  | _, _, .str x t => ⟨_, .str x t⟩
  | _, _, .list _ hg r => let ⟨as, q⟩ := RdL.reads r; ⟨_, .list hg rfl rfl (by simpa using q)⟩
  | _, _, .tuple _ hg r => let ⟨as, q⟩ := RdL.reads r; ⟨_, .tuple hg rfl rfl (by simpa using q)⟩
theorem RdL.reads {U : List Addr} {h : Heap} : ∀ {vs : List Value} {ds : List PyData}, RdL U h vs ds → ∃ as, ReadsAll h vs ds as
  | _, _, .nil => ⟨_, .nil⟩
  | _, _, .cons x r => let ⟨_, p⟩ := Rd.reads x; let ⟨_, q⟩ := RdL.reads r; ⟨_, .cons p q⟩
end

section
variable {U U' : List Addr} {h h' : Heap} {v : Value} {d : PyData} {vs ws : List Value} {ds es : List PyData}
theorem Rd.up (x : Rd U h v d) (k : Le h h') : Rd U h' v d := x.frame fun _ _ a e => ⟨a, k _ _ e⟩
theorem RdL.up (x : RdL U h vs ds) (k : Le h h') : RdL U h' vs ds := x.frame fun _ _ a e => ⟨a, k _ _ e⟩
theorem Rd.less (x : Rd U h v d) (k : ∀ a ∈ U', a ∈ U) : Rd U' h v d := x.frame fun _ _ a e => ⟨fun q => a (k _ q), e⟩
theorem RdL.less (x : RdL U h vs ds) (k : ∀ a ∈ U', a ∈ U) : RdL U' h vs ds := x.frame fun _ _ a e => ⟨fun q => a (k _ q), e⟩
theorem Rd.more {L : Addr} (x : Rd U h v d) (k : h.get? L = Option.none) : Rd (L :: U) h v d := x.frame fun b o a e => ⟨fun q => by
  rcases List.mem_cons.mp q with r | r
  · rw [r, k] at e; cases e
  · exact a r, e⟩
theorem RdL.more {L : Addr} (x : RdL U h vs ds) (k : h.get? L = none) : RdL (L :: U) h vs ds := x.frame fun b o a e => ⟨fun q => by
  rcases List.mem_cons.mp q with r | r
  · rw [r, k] at e; cases e
  · exact a r, e⟩
theorem RdL.length (x : RdL U h vs ds) : vs.length = ds.length := by
  induction vs generalizing ds with
  | nil => cases x; rfl
  | cons v vs ih => cases x with | cons _ r => simp [ih r]
theorem RdL.append (x : RdL U h vs ds) (y : RdL U h ws es) : RdL U h (vs ++ ws) (ds ++ es) := by
  induction vs generalizing ds with
  | nil => cases x; exact y
  | cons v vs ih => cases x with | cons p r => exact .cons p (ih r)
theorem RdL.one (x : Rd U h v d) : RdL U h [v] [d] := .cons x .nil
theorem RdL.get (x : RdL U h vs ds) {i : Nat} {d : PyData} (e : ds[i]? = some d) : ∃ v, vs[i]? = some v ∧ Rd U h v d := by
  induction vs generalizing ds i with
  | nil => cases x; cases e
  | cons v vs ih =>
    cases x with
    | cons p r =>
      cases i with
      | zero => simp only [List.getElem?_cons_zero, Option.some.injEq] at e; subst e; exact ⟨v, rfl, p⟩
      | succ i => exact ih r (by simpa using e)
theorem RdL.get' (x : RdL U h vs ds) {i : Nat} {v : Value} (e : vs[i]? = some v) : ∃ d, ds[i]? = some d ∧ Rd U h v d := by
  induction vs generalizing ds i with
  | nil => cases e
  | cons v vs ih =>
    cases x with
    | cons p r =>
      cases i with
      | zero => simp only [List.getElem?_cons_zero, Option.some.injEq] at e; subst e; exact ⟨_, rfl, p⟩
      | succ i => exact ih r (by simpa using e)
theorem RdL.take (x : RdL U h vs ds) (k : Nat) : RdL U h (vs.take k) (ds.take k) := by
  induction vs generalizing ds k with
  | nil => cases x; simpa using RdL.nil
  | cons v vs ih =>
    cases x with
    | cons p r => cases k with
      | zero => exact .nil
      | succ k => exact .cons p (ih r k)
theorem RdL.drop (x : RdL U h vs ds) (k : Nat) : RdL U h (vs.drop k) (ds.drop k) := by
  induction vs generalizing ds k with
  | nil => cases x; simpa using RdL.nil
  | cons v vs ih =>
    cases x with
    | cons p r => cases k with
      | zero => exact .cons p r
      | succ k => exact ih r k
theorem RdL.strs {ss : List Str} (x : RdL U h vs (ss.map .str)) : StrsAre vs ss := by
  induction vs generalizing ss with
  | nil => cases ss with
    | nil => exact .nil
    | cons => cases x
  | cons v vs ih => cases ss with
    | nil => cases x
    | cons y ys => cases x with | cons p r => cases p; exact .cons _ _ (ih r)
theorem RdL.of_strs {ss : List Str} (x : StrsAre vs ss) : RdL U h vs (ss.map .str) := by
  induction x with
  | nil => exact .nil
  | cons y t _ ih => exact .cons (.str y t) ih
theorem RdL.ints {ns : List Int} (x : RdL U h vs (ns.map .int)) : IntsAre vs ns := by
  induction vs generalizing ns with
  | nil => cases ns with
    | nil => exact .nil
    | cons => cases x
  | cons v vs ih => cases ns with
    | nil => cases x
    | cons y ys => cases x with | cons p r => cases p; exact .cons _ _ (ih r)
end

structure Ok (k : Nat) (fr : Option (List Env)) (A : Around) : Prop where
  handled : A.handled = none
  depth : A.depth + k < recursionLimit
  units : A.units + 100 + 10 * k < cLine
  frames : ∀ l, fr = some l → A.frames = some l
theorem Ok.less {k j : Nat} {fr : Option (List Env)} {A : Around} (x : Ok k fr A) (h : j ≤ k := by lia) : Ok j none A := ⟨x.handled, by have := x.depth; lia, by have := x.units; lia, fun _ q => nomatch q⟩
theorem Ok.lessF {k j : Nat} {fr : Option (List Env)} {A : Around} (x : Ok k fr A) (h : j ≤ k := by lia) : Ok j fr A := ⟨x.handled, by have := x.depth; lia, by have := x.units; lia, x.frames⟩
theorem Ok.deeper {k : Nat} {fr : Option (List Env)} {A : Around} (x : Ok (k + 1) fr A) (env : Env) : Ok k none (A.deeper env) :=
  ⟨x.handled, by have := x.depth; show A.depth + 1 + k < _; lia, by have := x.units; show A.units + 3 + 100 + 10 * k < _; lia, fun _ q => nomatch q⟩
theorem Ok.deeperF {k : Nat} {l : List Env} {A : Around} (x : Ok (k + 1) (some l) A) (env : Env) : Ok k (some (env :: l)) (A.deeper env) :=
  ⟨x.handled, by have := x.depth; show A.depth + 1 + k < _; lia, by have := x.units; show A.units + 3 + 100 + 10 * k < _; lia, fun _ q => by cases q; exact Around.frames_deeper (x.frames l rfl)⟩
theorem Ok.room {k : Nat} {fr : Option (List Env)} {A : Around} (x : Ok k fr A) : A.depth < recursionLimit := by have := x.depth; lia
theorem Ok.cl64 {k : Nat} {fr : Option (List Env)} {A : Around} (x : Ok k fr A) : A.units + 64 < cLine := by have := x.units; lia

theorem keeps_refl (s : Shared) : Keeps s s := ⟨s.heap, s.toks, rfl, fun _ _ e => e⟩
theorem keeps_trans {s s' s'' : Shared} (x : Keeps s s') (y : Keeps s' s'') : Keeps s s'' := by
  obtain ⟨h, t, rfl, k⟩ := x
  obtain ⟨h', t', rfl, k'⟩ := y
  exact ⟨h', t', rfl, fun b o e => k' b o (k b o e)⟩
theorem keeps_le {s s' : Shared} (x : Keeps s s') : Le s.heap s'.heap := by obtain ⟨h, t, rfl, k⟩ := x; exact k
theorem keeps_tok (s : Shared) (t : Nat) : Keeps s { s with toks := t } := ⟨s.heap, t, rfl, fun _ _ e => e⟩
theorem keeps_push (s : Shared) (o : Obj) (t : Nat) : Keeps s { s with heap := s.heap.push o, toks := t } := ⟨_, t, rfl, Le.push _ _⟩
theorem size_le {h h' : Heap} (k : Le h h') : ∀ {a : Addr}, h'.objs.size ≤ a → h.get? a = none := fun {a} e => by
  cases q : h.get? a with
  | none => rfl
  | some o => exact absurd (Heap.lt_size (k _ _ q)) (Nat.not_lt.mpr e)
theorem none_of_le {h : Heap} {a : Addr} (e : h.objs.size ≤ a) : h.get? a = none := size_le (Le.refl h) e

inductive Bd where
  | dat (d : PyData)
  | val (v : Value)
  | rng (a b c : Int)
def Bd.ok (U : List Addr) (h : Heap) (v : Value) : Bd → Prop
  | .dat d => Rd U h v d
  | .val u => v = u
  | .rng a b c => ∃ r t u w, v = .ref r ∧ r ∉ U ∧ IsRange h r a b c t u w
theorem Bd.ok_frame {U U' : List Addr} {h h' : Heap} {v : Value} {b : Bd} (hk : ∀ b o, b ∉ U → h.get? b = some o → b ∉ U' ∧ h'.get? b = some o) (x : b.ok U h v) : b.ok U' h' v := by
  cases b with
  | dat d => exact Rd.frame hk x
  | val u => exact x
  | rng a b c => obtain ⟨r, t, u, w, e, n, g⟩ := x; exact ⟨r, t, u, w, e, (hk _ _ n g).1, (hk _ _ n g).2⟩

def VarAt (h : Heap) (env : Env) (x : Str) (v : Value) : Prop :=
  (env.kindOf x = some .local ∧ ∃ m, h.Ns env.locals m ∧ m x = some v) ∨
  ((env.kindOf x = some .cell ∨ env.kindOf x = some .free) ∧ ∃ c, env.cells.lookup x = some c ∧ h.IsCell c (some v))
theorem VarAt.up {h h' : Heap} {env : Env} {x : Str} {v : Value} (y : VarAt h env x v) (k : Le h h') : VarAt h' env x v := by
  rcases y with ⟨a, m, n, e⟩ | ⟨a, c, l, n⟩
  · exact .inl ⟨a, m, n.keeps k, e⟩
  · exact .inr ⟨a, c, l, n.keeps k⟩

abbrev Rho := List (Str × Bd)
/-- a dict -/
def IsD (h : Heap) (a : Addr) : Prop := ∃ o es ep, h.get? a = some o ∧ o.data = .dict es ep
theorem IsD.of_ns {h : Heap} {a : Addr} {m : Str → Option Value} (x : h.Ns a m) : IsD h a := by obtain ⟨o, es, ep, e, d, _⟩ := x; exact ⟨o, es, ep, e, d⟩
theorem IsD.not_list {h : Heap} {a b : Addr} {vs : List Value} {n : Nat} (x : IsD h a) (y : h.get? b = some (lo vs n)) : a ≠ b := by
  obtain ⟨o, es, ep, e, d⟩ := x
  intro q; rw [q, y] at e; cases e; cases d
theorem IsD.not_cell {h : Heap} {a b : Addr} {v : Option Value} (x : IsD h a) (y : h.IsCell b v) : a ≠ b := by
  obtain ⟨o, es, ep, e, d⟩ := x
  obtain ⟨o', e', d'⟩ := y
  intro q; rw [q, e'] at e; cases e; rw [d'] at d; cases d
theorem IsD.at {h h' : Heap} {a : Addr} (x : IsD h a) (k : ∀ o, h.get? a = some o → h'.get? a = some o) : IsD h' a := by obtain ⟨o, es, ep, e, d⟩ := x; exact ⟨o, es, ep, k o e, d⟩
structure St (F : List Addr) (H : Heap) (U W : List Addr) (env : Env) (ρ : Rho) (μ : List (Addr × List PyData)) (h : Heap) : Prop where
  base : Le H h
  offs : ∀ a ∈ U, (∃ o, h.get? a = some o) ∧ H.get? a = none
  kind : env.scope.kind = .function
  globals : env.globals = mainGlobals
  builtins : env.builtins = builtinsNs
  subW : ∀ a ∈ W, a ∈ U
  locW : env.locals ∈ W
  ns : ∃ m, h.Ns env.locals m
  cells : ∀ x c, (x, c) ∈ env.cells → c ∈ U ∧ c ≠ env.locals ∧ ∃ v, h.IsCell c v
  apart : env.cells.Pairwise fun x y => x.2 ≠ y.2
  vars : ∀ x b, ρ.lookup x = some b → ∃ v, VarAt h env x v ∧ b.ok U h v
  mutsW : ∀ a ds, (a, ds) ∈ μ → a ∈ W ∧ ∃ vs n, h.get? a = some (lo vs n) ∧ RdL U h vs ds
  mapart : (μ.map (·.1)).Nodup
  frs : ∀ a ∈ F, a ∈ U ∧ IsD h a

section
variable {F : List Addr} {H : Heap} {U W : List Addr} {env : Env} {ρ : Rho} {μ : List (Addr × List PyData)} {h h' : Heap}
theorem St.loc (S : St F H U W env ρ μ h) : env.locals ∈ U := S.subW _ S.locW
theorem St.muts (S : St F H U W env ρ μ h) : ∀ a ds, (a, ds) ∈ μ → a ∈ U ∧ ∃ vs n, h.get? a = some (lo vs n) ∧ RdL U h vs ds := fun a ds m => let ⟨i, e⟩ := S.mutsW a ds m; ⟨S.subW _ i, e⟩
theorem St.lt (S : St F H U W env ρ μ h) {a : Addr} (x : a ∈ U) : a < h.objs.size := let ⟨_, e⟩ := (S.offs a x).1; Heap.lt_size e
theorem St.up (S : St F H U W env ρ μ h) (k : Le h h') : St F H U W env ρ μ h' where
  base := S.base.trans k
  offs := fun a ha => ⟨let ⟨o, e⟩ := (S.offs a ha).1; ⟨o, k _ _ e⟩, (S.offs a ha).2⟩
  kind := S.kind
  globals := S.globals
  builtins := S.builtins
  subW := S.subW
  locW := S.locW
  ns := let ⟨m, n⟩ := S.ns; ⟨m, n.keeps k⟩
  cells := fun x c m => let ⟨a, b, v, e⟩ := S.cells x c m; ⟨a, b, v, e.keeps k⟩
  apart := S.apart
  vars := fun x b e => let ⟨v, a, o⟩ := S.vars x b e; ⟨v, a.up k, Bd.ok_frame (fun _ _ a e => ⟨a, k _ _ e⟩) o⟩
  mutsW := fun a ds m => let ⟨i, vs, n, g, r⟩ := S.mutsW a ds m; ⟨i, vs, n, k _ _ g, r.up k⟩
  mapart := S.mapart
  frs := fun a ha => ⟨(S.frs a ha).1, (S.frs a ha).2.at fun o e => k _ _ e⟩
theorem St.new (S : St F H U W env ρ μ h) {a : Addr} (x : h.objs.size ≤ a) : a ∉ U := fun m => Nat.lt_irrefl _ (Nat.lt_of_lt_of_le (S.lt m) x)
/-- fewer facts -/
theorem St.sub {ρ' : Rho} {μ' : List (Addr × List PyData)} (S : St F H U W env ρ μ h) (hr : ∀ x b, ρ'.lookup x = some b → ρ.lookup x = some b) (hm : ∀ p ∈ μ', p ∈ μ) (hn : (μ'.map (·.1)).Nodup) : St F H U W env ρ' μ' h :=
  { S with vars := fun x b e => S.vars x b (hr x b e), mutsW := fun a ds m => S.mutsW a ds (hm _ m), mapart := hn }

theorem cell_not_locals {c : Addr} {v : Option Value} {m : Str → Option Value} {L : Addr} (x : h.IsCell c v) (y : h.Ns L m) : c ≠ L := by
  obtain ⟨o, ho, hd⟩ := x
  obtain ⟨o', es, ep, ho', hd', _⟩ := y
  intro q
  rw [q, ho'] at ho
  cases ho
  rw [hd] at hd'
  cases hd'
theorem mut_not_locals {a L : Addr} {vs : List Value} {n : Nat} {m : Str → Option Value} (x : h.get? a = some (lo vs n)) (y : h.Ns L m) : a ≠ L := by
  obtain ⟨o', es, ep, ho', hd', _⟩ := y
  intro q
  rw [q, ho'] at x
  cases x
  cases hd'
theorem mut_not_cell {a c : Addr} {vs : List Value} {n : Nat} {v : Option Value} (x : h.get? a = some (lo vs n)) (y : h.IsCell c v) : a ≠ c := by
  obtain ⟨o', ho', hd'⟩ := y
  intro q
  rw [q, ho'] at x
  cases x
  cases hd'

/-- a store into the frame's own dict -/
theorem St.setLocal (S : St F H U W env ρ μ h) {x : Str} {v : Value} {b : Bd} {m m' : Str → Option Value} (hx : env.kindOf x = some .local) (hn : h.Ns env.locals m) (hn' : h'.Ns env.locals m')
    (hm : m' = fun y => if y = x then some v else m y) (hs : Heap.SameBut env.locals h h') (hb : b.ok U h v) : St F H U W env ((x, b) :: ρ) μ h' where
  base := fun a o e => (hs.2 a fun q => by have := (S.offs _ S.loc).2; rw [← q, e] at this; cases this).trans (S.base a o e)
  offs := fun a ha => ⟨by
    by_cases q : a = env.locals
    · obtain ⟨o, _, _, ho, _⟩ := hn'; exact ⟨o, q ▸ ho⟩
    · obtain ⟨o, e⟩ := (S.offs a ha).1; exact ⟨o, (hs.2 a q).trans e⟩, (S.offs a ha).2⟩
  kind := S.kind
  globals := S.globals
  builtins := S.builtins
  subW := S.subW
  locW := S.locW
  ns := ⟨m', hn'⟩
  cells := fun y c hc => let ⟨a, e, w, i⟩ := S.cells y c hc; ⟨a, e, w, i.sameBut hs e⟩
  apart := S.apart
  vars := fun y b' e => by
    have hk : ∀ b o, b ∉ U → h.get? b = some o → b ∉ U ∧ h'.get? b = some o := fun b o hb e => ⟨hb, (hs.2 b fun q => hb (q ▸ S.loc)).trans e⟩
    rw [List.lookup_cons] at e
    by_cases q : y = x
    · subst q
      simp only [beq_self_eq_true] at e
      cases e
      exact ⟨v, .inl ⟨hx, m', hn', by rw [hm]; simp⟩, Bd.ok_frame hk hb⟩
    · rw [beq_eq_false_iff_ne.mpr q] at e
      obtain ⟨u, a, o⟩ := S.vars y b' e
      refine ⟨u, ?_, Bd.ok_frame hk o⟩
      rcases a with ⟨a, m₁, n₁, e₁⟩ | ⟨a, c, l, i⟩
      · refine .inl ⟨a, m', hn', ?_⟩
        have : m₁ = m := by
          obtain ⟨o₁, es₁, ep₁, ho₁, hd₁, _, hf₁⟩ := n₁
          obtain ⟨o₂, es₂, ep₂, ho₂, hd₂, _, hf₂⟩ := hn
          rw [ho₁] at ho₂; cases ho₂
          rw [hd₁] at hd₂; cases hd₂
          funext z; rw [← hf₁, ← hf₂]
        rw [hm]; simp only [if_neg q]; rw [← this]; exact e₁
      · exact .inr ⟨a, c, l, i.sameBut hs (cell_not_locals i hn)⟩
  mutsW := fun a ds hm' => let ⟨i, vs, n, g, r⟩ := S.mutsW a ds hm'
    ⟨i, vs, n, (hs.2 a (mut_not_locals g hn)).trans g, r.frame fun b o hb e => ⟨hb, (hs.2 b fun q => hb (q ▸ S.loc)).trans e⟩⟩
  mapart := S.mapart
  frs := fun a ha => ⟨(S.frs a ha).1, by
    by_cases q : a = env.locals
    · rw [q]; exact .of_ns hn'
    · exact (S.frs a ha).2.at fun o e => (hs.2 a q).trans e⟩

/-- a store into a cell of the frame -/
theorem St.setCell (S : St F H U W env ρ μ h) {x : Str} {v : Value} {b : Bd} {c : Addr} (hx : env.kindOf x = some .cell) (hc : env.cells.lookup x = some c) (hv : h'.IsCell c (some v)) (hs : Heap.SameBut c h h') (hb : b.ok U h v) :
    St F H U W env ((x, b) :: ρ) μ h' := by
  obtain ⟨hcU, hcL, w₀, hc₀⟩ := S.cells x c (mem_of_lookup hc)
  have hk : ∀ b o, b ∉ U → h.get? b = some o → b ∉ U ∧ h'.get? b = some o := fun b o hb e => ⟨hb, (hs.2 b fun q => hb (q ▸ hcU)).trans e⟩
  exact {
    base := fun a o e => (hs.2 a fun q => by have := (S.offs _ hcU).2; rw [← q, e] at this; cases this).trans (S.base a o e)
    offs := fun a ha => ⟨by
      by_cases q : a = c
      · obtain ⟨o, ho, _⟩ := hv; exact ⟨o, q ▸ ho⟩
      · obtain ⟨o, e⟩ := (S.offs a ha).1; exact ⟨o, (hs.2 a q).trans e⟩, (S.offs a ha).2⟩
    kind := S.kind
    globals := S.globals
    builtins := S.builtins
    subW := S.subW
    locW := S.locW
    ns := let ⟨m, n⟩ := S.ns; ⟨m, n.sameBut hs (Ne.symm hcL)⟩
    cells := fun y c' hm => by
      obtain ⟨a, e, w, i⟩ := S.cells y c' hm
      refine ⟨a, e, ?_⟩
      by_cases q : c' = c
      · exact ⟨_, q ▸ hv⟩
      · exact ⟨w, i.sameBut hs q⟩
    apart := S.apart
    vars := fun y b' e => by
      rw [List.lookup_cons] at e
      by_cases q : y = x
      · subst q
        simp only [beq_self_eq_true] at e
        cases e
        exact ⟨v, .inr ⟨.inl hx, c, hc, hv⟩, Bd.ok_frame hk hb⟩
      · rw [beq_eq_false_iff_ne.mpr q] at e
        obtain ⟨u, a, o⟩ := S.vars y b' e
        refine ⟨u, ?_, Bd.ok_frame hk o⟩
        rcases a with ⟨a, m₁, n₁, e₁⟩ | ⟨a, c', l, i⟩
        · exact .inl ⟨a, m₁, n₁.sameBut hs (Ne.symm hcL), e₁⟩
        · refine .inr ⟨a, c', l, i.sameBut hs fun r => q ?_⟩
          exact name_of_addr S.apart (mem_of_lookup l) (r ▸ mem_of_lookup hc)
    mutsW := fun a ds hm' => let ⟨i, vs, n, g, r⟩ := S.mutsW a ds hm'
      ⟨i, vs, n, (hs.2 a (mut_not_cell g hc₀)).trans g, r.frame hk⟩
    mapart := S.mapart
    frs := fun a ha => ⟨(S.frs a ha).1, (S.frs a ha).2.at fun o e => (hs.2 a ((S.frs a ha).2.not_cell hc₀)).trans e⟩ }

/-- one of the frame's own lists is changed -/
theorem St.setMut {a : Addr} {ds ds' : List PyData} {ws : List Value} {k : Nat} (S : St F H U W env ρ ((a, ds) :: μ) h) (hs : Heap.SameBut a h h') (hg : h'.get? a = some (lo ws k)) (hr : RdL U h ws ds') : St F H U W env ρ ((a, ds') :: μ) h' := by
  obtain ⟨haU, vs, n, g₀, _⟩ := S.muts a ds (.head _)
  have hk : ∀ b o, b ∉ U → h.get? b = some o → b ∉ U ∧ h'.get? b = some o := fun b o hb e => ⟨hb, (hs.2 b fun q => hb (q ▸ haU)).trans e⟩
  exact {
    base := fun b o e => (hs.2 b fun q => by have := (S.offs _ haU).2; rw [← q, e] at this; cases this).trans (S.base b o e)
    offs := fun b hb => ⟨by
      by_cases q : b = a
      · exact ⟨_, q ▸ hg⟩
      · obtain ⟨o, e⟩ := (S.offs b hb).1; exact ⟨o, (hs.2 b q).trans e⟩, (S.offs b hb).2⟩
    kind := S.kind
    globals := S.globals
    builtins := S.builtins
    subW := S.subW
    locW := S.locW
    ns := let ⟨m, n⟩ := S.ns; ⟨m, n.sameBut hs (Ne.symm (mut_not_locals g₀ n))⟩
    cells := fun y c hm => let ⟨i, e, w, j⟩ := S.cells y c hm; ⟨i, e, w, j.sameBut hs (Ne.symm (mut_not_cell g₀ j))⟩
    apart := S.apart
    vars := fun y b e => by
      obtain ⟨u, q, o⟩ := S.vars y b e
      refine ⟨u, ?_, Bd.ok_frame hk o⟩
      rcases q with ⟨q, m₁, n₁, e₁⟩ | ⟨q, c, l, i⟩
      · exact .inl ⟨q, m₁, n₁.sameBut hs (Ne.symm (mut_not_locals g₀ n₁)), e₁⟩
      · exact .inr ⟨q, c, l, i.sameBut hs (Ne.symm (mut_not_cell g₀ i))⟩
    mutsW := fun b es hm => by
      rcases List.mem_cons.mp hm with q | q
      · cases q; exact ⟨(S.mutsW a ds (.head _)).1, ws, k, hg, hr.frame hk⟩
      · obtain ⟨i, vs', n', g, r⟩ := S.mutsW b es (.tail _ q)
        have hne : b ≠ a := fun z => by
          have := S.mapart
          rw [List.map_cons, List.nodup_cons] at this
          exact this.1 (List.mem_map.mpr ⟨(b, es), q, z⟩)
        exact ⟨i, vs', n', (hs.2 b hne).trans g, r.frame hk⟩
    mapart := S.mapart
    frs := fun b hb => ⟨(S.frs b hb).1, (S.frs b hb).2.at fun o e => (hs.2 b ((S.frs b hb).2.not_list g₀)).trans e⟩ }

/-- a new list becomes one of the frame's own -/
theorem St.newMut {a : Addr} {vs : List Value} {n : Nat} {ds : List PyData} (S : St F H U W env ρ μ h) (ha : H.get? a = none) (hU : a ∉ U) (hg : h.get? a = some (lo vs n)) (hr : RdL (a :: U) h vs ds)
    (hρ : ∀ x b, ρ.lookup x = some b → ∃ v, VarAt h env x v ∧ b.ok (a :: U) h v) (hμ : ∀ b es, (b, es) ∈ μ → ∃ vs n, h.get? b = some (lo vs n) ∧ RdL (a :: U) h vs es) : St F H (a :: U) (a :: W) env ρ ((a, ds) :: μ) h where
  base := S.base
  offs := fun b hb => by
    rcases List.mem_cons.mp hb with q | q
    · exact q ▸ ⟨⟨_, hg⟩, ha⟩
    · exact S.offs b q
  kind := S.kind
  globals := S.globals
  builtins := S.builtins
  subW := fun b hb => by
    rcases List.mem_cons.mp hb with q | q
    · exact q ▸ .head _
    · exact .tail _ (S.subW b q)
  locW := .tail _ S.locW
  ns := S.ns
  cells := fun y c hm => let ⟨i, e⟩ := S.cells y c hm; ⟨.tail _ i, e⟩
  apart := S.apart
  vars := hρ
  mutsW := fun b es hm => by
    rcases List.mem_cons.mp hm with q | q
    · cases q; exact ⟨.head _, vs, n, hg, hr⟩
    · exact ⟨.tail _ (S.mutsW b es q).1, hμ b es q⟩
  mapart := by
    rw [List.map_cons, List.nodup_cons]
    refine ⟨fun m => ?_, S.mapart⟩
    obtain ⟨p, hp, e⟩ := List.mem_map.mp m
    exact hU ((show p.1 = a from e) ▸ (S.muts p.1 p.2 hp).1)
  frs := fun b hb => ⟨.tail _ (S.frs b hb).1, (S.frs b hb).2⟩
/-- the frame's own list that is pushed just now -/
theorem St.pushMut {vs : List Value} {ds : List PyData} (S : St F H U W env ρ μ h) (hr : RdL U h vs ds) : St F H (h.objs.size :: U) (h.objs.size :: W) env ρ ((h.objs.size, ds) :: μ) (h.push (lo vs 0)) := by
  have hk : ∀ b o, b ∉ U → h.get? b = some o → b ∉ h.objs.size :: U ∧ (h.push (lo vs 0)).get? b = some o := fun b o hb e => ⟨fun q => by
    rcases List.mem_cons.mp q with r | r
    · exact absurd (Heap.lt_size e) (r ▸ Nat.lt_irrefl _)
    · exact hb r, Heap.get?_push_of_some _ e⟩
  refine (S.up (Le.push h (lo vs 0))).newMut (size_le S.base (Nat.le_refl _)) (S.new (Nat.le_refl _)) (Heap.get?_push_size _ rfl) (hr.frame hk) (fun x b e => ?_) fun b es hm => ?_
  · obtain ⟨v, a, o⟩ := S.vars x b e
    exact ⟨v, a.up (Le.push _ _), Bd.ok_frame hk o⟩
  · obtain ⟨_, vs', n', g, r⟩ := S.muts b es hm
    exact ⟨vs', n', Heap.get?_push_of_some _ g, r.frame hk⟩
end

end Mine
end
noncomputable section
open PySem PySem.Calls PySem.W PyProof.Rows
set_option Elab.async false
set_option maxRecDepth 100000
set_option linter.unusedVariables false
namespace Mine

structure Cx where
  prog : Program
  w : World
  H : Heap
  k : Nat
  fr : Option (List Env)
  F : List Addr
  U : List Addr
  W : List Addr
  env : Env
  ρ : Rho
  μ : List (Addr × List PyData)
abbrev Cx.M (c : Cx) : Model := model c.prog c.w
abbrev Cx.S (c : Cx) (h : Heap) : Prop := St c.F c.H c.U c.W c.env c.ρ c.μ h

/-- what a pure step leaves: all stands as it stood, and the value reads as d -/
def Got (c : Cx) (s : Shared) (d : PyData) (v : Value) (s' : Shared) : Prop := Keeps s s' ∧ Rd c.U s'.heap v d
def GotL (c : Cx) (s : Shared) (ds : List PyData) (vs : List Value) (s' : Shared) : Prop := Keeps s s' ∧ RdL c.U s'.heap vs ds
abbrev No : Value → Shared → Prop := fun _ _ => False

def Ev (c : Cx) (e : Expr) (d : PyData) : Prop :=
  ∀ (A : Around) (s : Shared), Ok c.k c.fr A → c.S s.heap → wpAny c.M A (eval e c.env) (Got c s d) No s
def Evs (c : Cx) (pos : Pos) (es : List Expr) (ds : List PyData) : Prop :=
  ∀ (A : Around) (s : Shared), Ok c.k c.fr A → c.S s.heap → wpAny c.M A (spliced (backTo pos (starEach es c.env))) (GotL c s ds) No s
def Tr (c : Cx) (e : Expr) (b : Bool) : Prop :=
  ∀ (A : Around) (s : Shared), Ok c.k c.fr A → c.S s.heap → wpAny c.M A (isTrue e c.env (eval e c.env)) (fun r s' => Keeps s s' ∧ r = b) No s
def Op2 (c : Cx) (f : Value → Value → Sem Value) (d₁ d₂ d : PyData) : Prop :=
  ∀ (A : Around) (s : Shared) (v₁ v₂ : Value), Ok c.k c.fr A → c.S s.heap → Rd c.U s.heap v₁ d₁ → Rd c.U s.heap v₂ d₂ → wpAny c.M A (f v₁ v₂) (Got c s d) No s

theorem no {e : Value} {s : Shared} {E : Value → Shared → Prop} : No e s → E e s := False.elim
theorem wp_of {α : Type} {M : Model} {A : Around} {t : Sem α} {Q Q' : α → Shared → Prop} {E : Value → Shared → Prop} {s : Shared} (h : wpAny M A t Q No s) (k : ∀ a s', Q a s' → Q' a s') : wpAny M A t Q' E s :=
  wpAny_mono h k fun _ _ => False.elim

section
variable {c : Cx} {A : Around} {s s₁ s₂ : Shared} {v : Value} {d : PyData} {e e₁ e₂ : Expr} {d₁ d₂ : PyData} {pos : Pos} {ds : List PyData}
theorem Got.mk' (k : Keeps s s₁) (x : Got c s₁ d v s₂) : Got c s d v s₂ := ⟨keeps_trans k x.1, x.2⟩
theorem Got.here (r : Rd c.U s.heap v d) : Got c s d v s := ⟨keeps_refl s, r⟩
theorem Got.tok (t : Nat) (r : Rd c.U s.heap v d) : Got c s d v { s with toks := t } := ⟨keeps_tok s t, r⟩
theorem Cx.S.up (S : c.S s.heap) (k : Keeps s s₁) : c.S s₁.heap := St.up S (keeps_le k)

theorem load_var {x : Str} {Q : Value → Shared → Prop} {E : Value → Shared → Prop} (S : c.S s.heap) (ha : VarAt s.heap c.env x v) (h : Q v s) (hd : (x == ("__debug__" : Str)) = false) (hc : (x == ("__classdict__" : Str)) = false) :
    wpAny c.M A (eval (.Name x pos) c.env) Q E s := by
  refine wpAny_Name ?_ hd
  rcases ha with ⟨kk, m, n, e⟩ | ⟨kk | kk, a, l, n⟩
  · exact wpAny_loadName_local S.kind kk n e h
  · exact wpAny_loadName_cell S.kind kk l n h
  · exact wpAny_loadName_free S.kind kk l n h hc
theorem Ev.var {x : Str} (hx : c.ρ.lookup x = some (.dat d)) (hd : (x == ("__debug__" : Str)) = false := by decide) (hc : (x == ("__classdict__" : Str)) = false := by decide) : Ev c (.Name x pos) d := fun A s ok S => by
  obtain ⟨v, ha, hv⟩ := S.vars x _ hx
  exact load_var S ha (Got.here hv) hd hc
theorem Ev.int {i : Int} {k : Nat} : Ev c (.Constant (.int i) k pos) (.int i) := fun A s ok S => wpAny_Constant_int (Got.tok _ (.int _ _))
theorem Ev.str {x : Str} {k : Nat} : Ev c (.Constant (.str x) k pos) (.str x) := fun A s ok S => Calls.Constant_str (Got.tok _ (.str _ _))
theorem Ev.bin {op : Operator} (h₁ : Ev c e₁ d₁) (h₂ : Ev c e₂ d₂) (ho : Op2 c (binaryOp op) d₁ d₂ d) : Ev c (.BinOp e₁ op e₂ pos) d := fun A s ok S => by
  refine wpAny_BinOp (wp_of (h₁ A s ok S) fun v₁ s₁ g₁ => ?_)
  have S₁ := S.up g₁.1
  refine wp_of (h₂ A s₁ ok S₁) fun v₂ s₂ g₂ => ?_
  exact wp_of (ho A s₂ v₁ v₂ ok (S₁.up g₂.1) (g₁.2.up (keeps_le g₂.1)) g₂.2) fun v s₃ g => (g.mk' g₂.1).mk' g₁.1
theorem Ev.cmp {op : CmpOp} (h₁ : Ev c e₁ d₁) (h₂ : Ev c e₂ d₂) (ho : Op2 c (compareOp op) d₁ d₂ d) (hm : behindInMarks op e₂ = false := by with_unfolding_all rfl) : Ev c (.Compare e₁ [op] [e₂] pos) d := fun A s ok S => by
  refine wpAny_Compare1 (wp_of (h₁ A s ok S) fun v₁ s₁ g₁ => ?_) hm
  have S₁ := S.up g₁.1
  refine wp_of (h₂ A s₁ ok S₁) fun v₂ s₂ g₂ => ?_
  exact wp_of (ho A s₂ v₁ v₂ ok (S₁.up g₂.1) (g₁.2.up (keeps_le g₂.1)) g₂.2) fun v s₃ g => (g.mk' g₂.1).mk' g₁.1
theorem Tr.cmp {op : CmpOp} {b : Bool} (h₁ : Ev c e₁ d₁) (h₂ : Ev c e₂ d₂) (ho : Op2 c (compareOp op) d₁ d₂ (.bool b)) (hm : behindInMarks op e₂ = false := by with_unfolding_all rfl) : Tr c (.Compare e₁ [op] [e₂] pos) b := fun A s ok S => by
  refine wpAny_isTrue_Compare1 (wp_of (h₁ A s ok S) fun v₁ s₁ g₁ => ?_) hm
  have S₁ := S.up g₁.1
  refine wp_of (h₂ A s₁ ok S₁) fun v₂ s₂ g₂ => ?_
  refine wp_of (ho A s₂ v₁ v₂ ok (S₁.up g₂.1) (g₁.2.up (keeps_le g₂.1)) g₂.2) fun v s₃ g => ?_
  cases g.2
  exact wpAny_truthy_bool ⟨keeps_trans g₁.1 (keeps_trans g₂.1 g.1), rfl⟩
theorem Tr.not {b : Bool} (h : Tr c e b) : Tr c (.UnaryOp .Not e pos) (!b) := fun A s ok S =>
  isTrue_not (wp_of (h A s ok S) fun r s' g => ⟨g.1, by rw [g.2]⟩)

/-- truth of a list of tests -/
def TrAnd (c : Cx) (es : List Expr) (b : Bool) : Prop := ∀ (pos : Pos) (whole : Sem Value) (A : Around) (s : Shared), Ok c.k c.fr A → c.S s.heap → wpAny c.M A (isTrue (.BoolOp .And es pos) c.env whole) (fun r s' => Keeps s s' ∧ r = b) No s
def TrOr (c : Cx) (es : List Expr) (b : Bool) : Prop := ∀ (pos : Pos) (whole : Sem Value) (A : Around) (s : Shared), Ok c.k c.fr A → c.S s.heap → wpAny c.M A (isTrue (.BoolOp .Or es pos) c.env whole) (fun r s' => Keeps s s' ∧ r = b) No s
theorem TrAnd.nil : TrAnd c [] true := fun _ _ A s ok S => isTrue_and_nil ⟨keeps_refl s, rfl⟩
theorem TrOr.nil : TrOr c [] false := fun _ _ A s ok S => isTrue_or_nil ⟨keeps_refl s, rfl⟩
theorem TrAnd.cons {b b' : Bool} {es : List Expr} (h : Tr c e b) (r : b = true → TrAnd c es b') : TrAnd c (e :: es) (b && b') := fun pos whole A s ok S => by
  refine isTrue_and (wp_of (h A s ok S) fun r₁ s₁ g₁ => ?_)
  rw [g₁.2]
  cases b with
  | false => exact ⟨g₁.1, rfl⟩
  | true => exact wp_of (r rfl pos whole A s₁ ok (S.up g₁.1)) fun r₂ s₂ g₂ => ⟨keeps_trans g₁.1 g₂.1, g₂.2⟩
theorem TrOr.cons {b b' : Bool} {es : List Expr} (h : Tr c e b) (r : b = false → TrOr c es b') : TrOr c (e :: es) (b || b') := fun pos whole A s ok S => by
  refine isTrue_or (wp_of (h A s ok S) fun r₁ s₁ g₁ => ?_)
  rw [g₁.2]
  cases b with
  | true => exact ⟨g₁.1, rfl⟩
  | false => exact wp_of (r rfl pos whole A s₁ ok (S.up g₁.1)) fun r₂ s₂ g₂ => ⟨keeps_trans g₁.1 g₂.1, g₂.2⟩
theorem Tr.and {es : List Expr} {b : Bool} (h : TrAnd c es b) : Tr c (.BoolOp .And es pos) b := fun A s ok S => h pos _ A s ok S
theorem Tr.or {es : List Expr} {b : Bool} (h : TrOr c es b) : Tr c (.BoolOp .Or es pos) b := fun A s ok S => h pos _ A s ok S

def truth : PyData → Bool
  | .none => false
  | .bool b => b
  | .int i => i != 0
  | .str x => x.length != 0
  | .list xs => !xs.isEmpty
  | .tuple xs => !xs.isEmpty
  | .dict xs => !xs.isEmpty

theorem Ev.ifexp {t : Expr} {b : Bool} (ht : Tr c t b) (h₁ : b = true → Ev c e₁ d) (h₂ : b = false → Ev c e₂ d) : Ev c (.IfExp t e₁ e₂ pos) d := fun A s ok S => by
  refine IfExp_ (wp_of (ht A s ok S) fun r s₁ g₁ => ?_)
  rw [g₁.2]
  cases b with
  | true => exact wp_of (h₁ rfl A s₁ ok (S.up g₁.1)) fun v s₂ g => g.mk' g₁.1
  | false => exact wp_of (h₂ rfl A s₁ ok (S.up g₁.1)) fun v s₂ g => g.mk' g₁.1

/-- a value that is a bool, and so on -/
def EvAnd (c : Cx) (es : List Expr) (b : Bool) : Prop := ∀ (pos : Pos) (A : Around) (s : Shared), Ok c.k c.fr A → c.S s.heap → wpAny c.M A (eval (.BoolOp .And es pos) c.env) (Got c s (.bool b)) No s
theorem EvAnd.one {b : Bool} (h : Ev c e (.bool b)) : EvAnd c [e] b := fun pos A s ok S => BoolOp_one (h A s ok S)
theorem EvAnd.cons {b b' : Bool} {es : List Expr} (h : Ev c e (.bool b)) (r : b = true → EvAnd c (e₂ :: es) b') : EvAnd c (e :: e₂ :: es) (b && b') := fun pos A s ok S => by
  refine BoolOp_and (wp_of (h A s ok S) fun v s₁ g₁ => ?_)
  cases g₁.2
  refine wpAny_truthy_bool ?_
  cases b with
  | false => exact ⟨g₁.1, .bool _⟩
  | true => exact wp_of (r rfl pos A s₁ ok (S.up g₁.1)) fun v s₂ g => g.mk' g₁.1
theorem Ev.and {es : List Expr} {b : Bool} (h : EvAnd c es b) : Ev c (.BoolOp .And es pos) (.bool b) := fun A s ok S => h pos A s ok S

theorem Evs.nil : Evs c pos [] [] := fun A s ok S => Calls.spliced_nil ⟨keeps_refl s, .nil⟩
theorem Evs.cons {es : List Expr} (h : Ev c e d) (r : Evs c pos es ds) (he : starEach (e :: es) c.env = (false, eval e c.env) :: starEach es c.env := by rfl) : Evs c pos (e :: es) (d :: ds) := fun A s ok S => by
  rw [he]
  refine Calls.spliced_cons (x := eval e c.env) (rest := backTo pos (starEach es c.env)) (wp_of (h A s ok S) fun v s₁ g₁ => ?_)
  exact wp_of (r A s₁ ok (S.up g₁.1)) fun vs s₂ g₂ => ⟨keeps_trans g₁.1 g₂.1, .cons (g₁.2.up (keeps_le g₂.1)) g₂.2⟩

theorem Rd.newTuple {vs : List Value} (S : c.S s.heap) (r : RdL c.U s.heap vs ds) : Rd c.U (s.heap.push (tu vs 0)) (.ref s.heap.objs.size) (.tuple ds) :=
  .tuple (S.new (Nat.le_refl _)) (Heap.get?_push_size _ rfl) (r.up (Le.push _ _))
theorem Rd.newList {vs : List Value} (S : c.S s.heap) (r : RdL c.U s.heap vs ds) : Rd c.U (s.heap.push (lo vs 0)) (.ref s.heap.objs.size) (.list ds) :=
  .list (S.new (Nat.le_refl _)) (Heap.get?_push_size _ rfl) (r.up (Le.push _ _))
theorem new_tuple {vs : List Value} (S : c.S s.heap) (r : RdL c.U s.heap vs ds) (hsz : ds.length ≤ sizeLine) : wpAny c.M A (newTuple vs) (Got c s (.tuple ds)) No s :=
  wpAny_newObj_type ⟨keeps_push s (tu vs 0) s.toks, Rd.newTuple S r⟩ (by show vs.toArray.size ≤ sizeLine; rw [List.size_toArray, r.length]; exact hsz)
theorem new_list {vs : List Value} (S : c.S s.heap) (r : RdL c.U s.heap vs ds) (hsz : ds.length ≤ sizeLine) : wpAny c.M A (newList vs) (Got c s (.list ds)) No s :=
  wpAny_newObj_type ⟨keeps_push s (lo vs 0) s.toks, Rd.newList S r⟩ (by show vs.toArray.size ≤ sizeLine; rw [List.size_toArray, r.length]; exact hsz)
theorem sz8 {n : Nat} (h : n ≤ 1000000) : n ≤ sizeLine := Nat.le_trans h (by rw [sizeLine_eq]; lia)
theorem Ev.tuple {es : List Expr} {k : Nat} (h : Evs c pos es ds) (hsz : ds.length ≤ 1000000 := by simp) : Ev c (.Tuple es k pos) (.tuple ds) := fun A s ok S =>
  Tuple_ (wp_of (h A s ok S) fun vs s₁ g₁ => wp_of (new_tuple (S.up g₁.1) g₁.2 (sz8 hsz)) fun v s₂ g₂ => g₂.mk' g₁.1)
theorem Ev.list {es : List Expr} (h : Evs c pos es ds) (hsz : ds.length ≤ 1000000 := by simp) : Ev c (.List es pos) (.list ds) := fun A s ok S =>
  List_ (wp_of (h A s ok S) fun vs s₁ g₁ => wp_of (new_list (S.up g₁.1) g₁.2 (sz8 hsz)) fun v s₂ g₂ => g₂.mk' g₁.1)
end

/-- a pure call: of a def of the text or a built-in -/
def CallD (c : Cx) (f : Value) (args : List PyData) (d : PyData) : Prop :=
  ∀ (A : Around) (s : Shared) (vs : List Value), Ok c.k c.fr A → c.S s.heap → RdL c.U s.heap vs args → wpAny c.M A (call f vs) (Got c s d) No s

section
variable {c : Cx} {A : Around} {s s₁ s₂ : Shared} {v : Value} {d : PyData} {e e₁ e₂ : Expr} {d₁ d₂ : PyData} {pos : Pos} {ds : List PyData}
/-- a name that stands for a fixed value (a def of the text, a built-in) -/
def NameIs (c : Cx) (x : Str) (f : Value) : Prop := ∀ (A : Around) (s : Shared) (pos : Pos) (Q E : Value → Shared → Prop), c.S s.heap → Q f s → wpAny c.M A (eval (.Name x pos) c.env) Q E s

theorem starEach_plain {es : List Expr} {env : Env} (h : (starEach es env).any (·.1) = false) (pos : Pos) : (backTo pos (starEach es env)).any (·.1) = false := by
  rw [← h]
  generalize starEach es env = l
  induction l with
  | nil => rfl
  | cons x r ih => obtain ⟨b, t⟩ := x; show (b || (backTo pos r).any (·.1)) = (b || r.any (·.1)); rw [ih]

theorem args_of {f : Value} {es : List Expr} {e : Expr} {Q : Args → Shared → Prop} {E : Value → Shared → Prop} (h : wpAny c.M A (spliced (backTo pos (starEach (e :: es) c.env))) (fun vs s' => Q ⟨vs, []⟩ s') E s)
    (he : starEach (e :: es) c.env = (false, eval e c.env) :: starEach es c.env) : wpAny c.M A (evalArgs f true (backTo pos (starEach (e :: es) c.env)) []) Q E s := by
  rw [he] at h ⊢
  exact evalArgs_plain (x := eval e c.env) (rest := backTo pos (starEach es c.env)) h

theorem Ev.callB {x : Str} {id : String} {es : List Expr} {p : Pos} (hn : NameIs c x (.builtin id)) (h : Evs c pos (e :: es) ds) (hc : CallD c (.builtin id) ds d)
    (he : starEach (e :: es) c.env = (false, eval e c.env) :: starEach es c.env := by rfl) (hs : (starEach (e :: es) c.env).any (·.1) = false := by rfl) : Ev c (.Call (.Name x p) (e :: es) [] pos) d := fun A s ok S =>
  wpAny_Call_NameR (hn A s p _ _ S (Calls.callWith_builtin (starEach_plain hs pos) (args_of (wp_of (h A s ok S) fun vs s₁ g₁ => wp_of (hc A s₁ vs ok (S.up g₁.1) g₁.2) fun v s₂ g₂ => g₂.mk' g₁.1) he)))
theorem Ev.callF {x : Str} {a : Addr} {o : Obj} {fd : FuncData} {es : List Expr} {p : Pos} (hn : NameIs c x (.ref a)) (h : Evs c pos (e :: es) ds) (hc : CallD c (.ref a) ds d) (ho : c.H.get? a = some o) (hd : o.data = .func fd)
    (he : starEach (e :: es) c.env = (false, eval e c.env) :: starEach es c.env := by rfl) : Ev c (.Call (.Name x p) (e :: es) [] pos) d := fun A s ok S =>
  wpAny_Call_NameR (hn A s p _ _ S (Calls.callWith_function (args_of (wp_of (h A s ok S) fun vs s₁ g₁ => ⟨⟨(S.up g₁.1).base _ _ ho, hd⟩, wp_of (hc A s₁ vs ok (S.up g₁.1) g₁.2) fun v s₂ g₂ => g₂.mk' g₁.1⟩) he)))
end

end Mine
end
noncomputable section
open PySem PySem.Calls PySem.W PyProof.Rows
set_option Elab.async false
set_option maxRecDepth 100000
set_option linter.unusedVariables false
namespace Mine

abbrev mk (l : List Nat) : Str := ⟨l.toArray⟩
theorem mk_append (l r : List Nat) : mk l ++ mk r = mk (l ++ r) := by
  show Str.mk (l.toArray ++ r.toArray) = Str.mk (l ++ r).toArray
  simp
theorem mk_length (l : List Nat) : (mk l).length = l.length := by show l.toArray.size = _; simp
theorem mk_inj {l r : List Nat} (h : mk l = mk r) : l = r := by
  have := congrArg (fun x : Str => x.cps.toList) h
  simpa using this
theorem mk_beq (l r : List Nat) : (mk l == mk r) = decide (l = r) := by
  by_cases h : l = r
  · subst h; simp
  · simp only [h, decide_false, beq_eq_false_iff_ne, ne_eq]
    exact fun e => h (mk_inj e)

section
variable {c : Cx} {A : Around} {s s₁ s₂ : Shared} {v : Value} {d : PyData} {e e₁ e₂ : Expr} {d₁ d₂ : PyData} {pos : Pos} {ds es : List PyData}
theorem Ev.strC {x : Str} {l : List Nat} {k : Nat} (h : x = mk l := by decide +kernel) : Ev c (.Constant (.str x) k pos) (.str (mk l)) := h ▸ Ev.str

theorem op_add_str {l r : List Nat} (h : l.length + r.length ≤ 1000000) : Op2 c (binaryOp .Add) (.str (mk l)) (.str (mk r)) (.str (mk (l ++ r))) := fun A s v₁ v₂ ok S r₁ r₂ => by
  cases r₁; cases r₂
  exact PyProof.Rows.add_str (fun t' tk => by rw [mk_append]; exact Got.tok tk (.str _ _)) (by rw [mk_length, mk_length]; exact sz8 h)
theorem op_add_int {a b : Int} : Op2 c (binaryOp .Add) (.int a) (.int b) (.int (a + b)) := fun A s v₁ v₂ ok S r₁ r₂ => by
  cases r₁; cases r₂; exact PyProof.Rows.add_int (Got.tok _ (.int _ _))
theorem op_sub_int {a b : Int} : Op2 c (binaryOp .Sub) (.int a) (.int b) (.int (a - b)) := fun A s v₁ v₂ ok S r₁ r₂ => by
  cases r₁; cases r₂; exact PyProof.Rows.sub_int (Got.tok _ (.int _ _))
theorem op_mod_int {a b : Int} (hb : b ≠ 0) : Op2 c (binaryOp .Mod) (.int a) (.int b) (.int (a.fmod b)) := fun A s v₁ v₂ ok S r₁ r₂ => by
  cases r₁; cases r₂; exact PyProof.Rows.mod_int hb (Got.tok _ (.int _ _))
theorem op_div_int {a b : Int} (hb : b ≠ 0) (hb' : b.natAbs < 1073741824) : Op2 c (binaryOp .FloorDiv) (.int a) (.int b) (.int (a.fdiv b)) := fun A s v₁ v₂ ok S r₁ r₂ => by
  cases r₁; cases r₂; exact PyProof.Rows.floordiv_int hb (Got.tok _ (.int _ _)) (.inl (PyProof.noPylong_small hb'))
theorem op_mul_int {a b : Int} (hm : IntMulOk a b) : Op2 c (binaryOp .Mult) (.int a) (.int b) (.int (a * b)) := fun A s v₁ v₂ ok S r₁ r₂ => by
  cases r₁; cases r₂; exact PyProof.Rows.mul_int (Got.tok _ (.int _ _)) hm
theorem op_and_int {a b : Int} : Op2 c (binaryOp .BitAnd) (.int a) (.int b) (.int (Builtin.bitAnd a b)) := fun A s v₁ v₂ ok S r₁ r₂ => by
  cases r₁; cases r₂; exact PyProof.Rows.and_int (Got.tok _ (.int _ _))
theorem op_pow_int {a b : Int} (hn : 0 ≤ b) (hsz : (Builtin.Int.intBits a : Int) * b ≤ 2 ^ 27) : Op2 c (binaryOp .Pow) (.int a) (.int b) (.int (a ^ b.toNat)) := fun A s v₁ v₂ ok S r₁ r₂ => by
  cases r₁; cases r₂; exact PyProof.Rows.pow_int hn hsz (Got.tok _ (.int _ _))
theorem op_sub_bool {a b : Bool} : Op2 c (binaryOp .Sub) (.bool a) (.bool b) (.int (b2i a - b2i b)) := fun A s v₁ v₂ ok S r₁ r₂ => by
  cases r₁; cases r₂; exact PyProof.Rows.sub_bool (Got.tok _ (.int _ _))

theorem Ev.neg {a : Int} (h : Ev c e (.int a)) : Ev c (.UnaryOp .USub e pos) (.int (-a)) := fun A s ok S =>
  UnaryOp_ (wp_of (h A s ok S) fun v s₁ g => by cases g.2; exact PyProof.Rows.neg_int ⟨keeps_trans g.1 (keeps_tok _ _), .int _ _⟩)

theorem joined_eq (xs : List Nat) : ∀ (k : Nat) (acc : Array Nat), (List.foldl (fun x y => x ++ y) acc (List.replicate k xs.toArray)) = acc ++ (List.replicate k xs).flatten.toArray
  | 0, acc => by simp
  | k + 1, acc => by rw [List.replicate_succ, List.foldl_cons, joined_eq xs k, List.replicate_succ, List.flatten_cons, ← List.append_toArray, Array.append_assoc]
theorem joined_eqV (xs : List Value) : ∀ (k : Nat) (acc : Array Value), (List.foldl (fun x y => x ++ y) acc (List.replicate k xs.toArray)) = acc ++ (List.replicate k xs).flatten.toArray
  | 0, acc => by simp
  | k + 1, acc => by rw [List.replicate_succ, List.foldl_cons, joined_eqV xs k, List.replicate_succ, List.flatten_cons, ← List.append_toArray, Array.append_assoc]
theorem mul_txt (l : List Nat) (n : Nat) : Txt.mul (mk l) (n : Int) = mk (List.replicate n l).flatten := by
  unfold Txt.mul
  by_cases h : (n : Int) < 1
  · rw [if_pos h]
    have : n = 0 := by lia
    subst this; rfl
  · rw [if_neg h]
    by_cases h1 : n = 1
    · subst h1; simp [mk]
    · by_cases h2 : l = []
      · subst h2; simp [mk, Str.length]
      · have e1 : ((n : Int) == 1) = false := by simp; lia
        have e2 : ((mk l).length == 0) = false := by
          rw [mk_length]; simp [h2]
        rw [e1, e2]
        simp only [Bool.or_false, Bool.false_eq_true, if_false, Int.toNat_natCast]
        rw [joined_eq]; simp
theorem op_mul_str {l : List Nat} {n : Nat} (h : l.length * n ≤ 1000000) (hn : n ≤ 1000000) (hl : l.length ≤ 1000000) : Op2 c (binaryOp .Mult) (.str (mk l)) (.int (n : Int)) (.str (mk (List.replicate n l).flatten)) := fun A s v₁ v₂ ok S r₁ r₂ => by
  cases r₁; cases r₂
  refine SB.mul ⟨by simp only [Bool.or_eq_false_iff, decide_eq_false_iff_not]; lia, fun h1 _ => ?_, fun _ _ => ?_⟩ fun t' k => ?_
  · rw [mk_length]
    have : (l.length : Int) ≤ (2 ^ 63 - 1) / (n : Int) := by
      refine Int.le_ediv_of_mul_le (by lia) ?_
      have h' : ((l.length * n : Nat) : Int) ≤ ((1000000 : Nat) : Int) := Int.ofNat_le.mpr h
      rw [Int.natCast_mul] at h'
      generalize (l.length : Int) * (n : Int) = z at h' ⊢
      lia
    lia
  · rw [mk_length, Int.toNat_natCast]
    unfold Builtin.Str.tooLong
    simp only [decide_eq_false_iff_not]
    rw [sizeLine_eq]; lia
  · rw [mul_txt]; exact Got.tok _ (.str _ _)

theorem op_add_list (h : ds.length + es.length ≤ 1000000) : Op2 c (binaryOp .Add) (.list ds) (.list es) (.list (ds ++ es)) := fun A s v₁ v₂ ok S r₁ r₂ => by
  cases r₁ with
  | list a₁ g₁ q₁ =>
    cases r₂ with
    | list a₂ g₂ q₂ =>
      refine PySem.P.add_list g₁ g₂ ?_ (by simp only [List.size_toArray]; rw [q₁.length, q₂.length]; exact sz8 h)
      rw [List.append_toArray]
      exact ⟨keeps_push s _ s.toks, Rd.newList S (q₁.append q₂)⟩
theorem replicate_RdL {U : List Addr} {h : Heap} {vs : List Value} {ds : List PyData} (x : RdL U h vs ds) : ∀ n : Nat, RdL U h (List.replicate n vs).flatten (List.replicate n ds).flatten
  | 0 => .nil
  | n + 1 => by rw [List.replicate_succ, List.replicate_succ, List.flatten_cons, List.flatten_cons]; exact x.append (replicate_RdL x n)
theorem mul_list_int {l u k : Nat} {x : Int} {items : Array Value} {Q : Value → Shared → Prop} {E : Value → Shared → Prop} (hl : s.heap.get? l = some { cls := .type "list", dict := none, data := .seq items k, slots := #[] })
    (hlo : -(2 ^ 63 : Int) ≤ x) (hhi : x < 2 ^ 63) (hsz : items.size * x.toNat ≤ 2 ^ 24)
    (h : Q (.ref s.heap.objs.size) { s with heap := s.heap.push { cls := .type "list", data := .seq (List.foldl (fun x1 x2 => x1 ++ x2) #[] (List.replicate (if items.isEmpty = true then 0 else x.toNat) items)) } }) :
    wpAny c.M A (binaryOp .Mult (.ref l) (.int x u)) Q E s :=
  wpAny_binaryOp_repeat_ref (T := "list") (U := "int") (by decide) ⟨_, hl, rfl⟩ (fun s' => typeIs_int s' x u) noFill_list_mul F.fills_int_mul F.slot_int_rmul repeat_list F.slot_int_index.lookup
    (call_meets F.slot_int_rmul (typeIs_int s x u) F.entry_int_rmul (F.args_int_rmul_2 _ _) (int___rmul___int_list x u l items k)
      ⟨hl, rfl, ⟨_, hl, rfl⟩, call_meets F.slot_list_mul ⟨_, hl, rfl⟩ F.entry_list_mul (F.args_list_mul_2 _ _)
        (AutoListH.list___mul___list_int_3 l items k x u (by simp [Builtin.List.listFitsIndex]; lia) (by lia) (by simp [Builtin.List.listTooLong, sizeLine]; lia)) ⟨hl, h⟩⟩)
theorem op_mul_list {n : Nat} (h : ds.length * n ≤ 1000000) (hn : n ≤ 1000000) : Op2 c (binaryOp .Mult) (.list ds) (.int (n : Int)) (.list (List.replicate n ds).flatten) := fun A s v₁ v₂ ok S r₁ r₂ => by
  cases r₂ with
  | int _ u =>
  cases r₁ with
  | @list l vs k _ a₁ hl q₁ =>
    have hz : vs.toArray.size * n ≤ 1000000 := by rw [List.size_toArray, q₁.length]; exact h
    refine mul_list_int (c := c) (k := k) (items := vs.toArray) hl (by lia) (by lia) ?_ ?_
    · rw [Int.toNat_natCast]; lia
    have e : List.foldl (fun x1 x2 => x1 ++ x2) #[] (List.replicate (if vs.toArray.isEmpty = true then 0 else (n : Int).toNat) vs.toArray) = (List.replicate n vs).flatten.toArray := by
      rw [joined_eqV]
      cases vs with
      | nil => simp
      | cons => simp
    rw [e]
    exact ⟨keeps_push s _ s.toks, Rd.newList S (replicate_RdL q₁ n)⟩

-- comparisons
theorem op_eq {b : Bool} (h₁ : SeqAt.shaped d₁ = true) (h₂ : SeqAt.shaped d₂ = true) (hb : PyData.eqv d₁ d₂ = b) : Op2 c (compareOp .Eq) d₁ d₂ (.bool b) := fun A s v₁ v₂ ok S r₁ r₂ => by
  obtain ⟨_, q₁⟩ := r₁.reads
  obtain ⟨_, q₂⟩ := r₂.reads
  exact SeqAt.compareEq_shaped q₁ q₂ h₁ h₂ ok.cl64 (hb ▸ Got.here (.bool _))
theorem op_ne {b : Bool} (h₁ : SeqAt.shaped d₁ = true) (h₂ : SeqAt.shaped d₂ = true) (hb : (!PyData.eqv d₁ d₂) = b) : Op2 c (compareOp .NotEq) d₁ d₂ (.bool b) := fun A s v₁ v₂ ok S r₁ r₂ => by
  obtain ⟨_, q₁⟩ := r₁.reads
  obtain ⟨_, q₂⟩ := r₂.reads
  exact SeqAt.compareNe_shaped q₁ q₂ h₁ h₂ ok.cl64 (hb ▸ Got.here (.bool _))
theorem op_lt_int {a b : Int} : Op2 c (compareOp .Lt) (.int a) (.int b) (.bool (decide (a < b))) := fun A s v₁ v₂ ok S r₁ r₂ => by
  cases r₁; cases r₂; exact PyProof.Rows.lt_int (Got.here (.bool _))
theorem op_gt_int {a b : Int} : Op2 c (compareOp .Gt) (.int a) (.int b) (.bool (decide (b < a))) := fun A s v₁ v₂ ok S r₁ r₂ => by
  cases r₁; cases r₂; exact PyProof.Rows.gt_int (Got.here (.bool _))
theorem op_eq_int {a b : Int} : Op2 c (compareOp .Eq) (.int a) (.int b) (.bool (a == b)) := fun A s v₁ v₂ ok S r₁ r₂ => by
  cases r₁; cases r₂; exact PyProof.Rows.eq_int (Got.here (.bool _))
theorem op_eq_str {l r : List Nat} : Op2 c (compareOp .Eq) (.str (mk l)) (.str (mk r)) (.bool (decide (l = r))) := fun A s v₁ v₂ ok S r₁ r₂ => by
  cases r₁; cases r₂; exact PyProof.Rows.eq_str (by rw [mk_beq]; exact Got.here (.bool _))
theorem op_ne_str {l r : List Nat} : Op2 c (compareOp .NotEq) (.str (mk l)) (.str (mk r)) (.bool (!decide (l = r))) := fun A s v₁ v₂ ok S r₁ r₂ => by
  cases r₁; cases r₂; exact PyProof.Rows.ne_str (by rw [bne, mk_beq]; exact Got.here (.bool _))
theorem op_lt_str {l r : List Nat} : Op2 c (compareOp .Lt) (.str (mk l)) (.str (mk r)) (.bool (decide (l < r))) := fun A s v₁ v₂ ok S r₁ r₂ => by
  cases r₁; cases r₂; exact PyProof.Rows.lt_str (Got.here (.bool _))
theorem op_gt_str {l r : List Nat} : Op2 c (compareOp .Gt) (.str (mk l)) (.str (mk r)) (.bool (decide (r < l))) := fun A s v₁ v₂ ok S r₁ r₂ => by
  cases r₁; cases r₂; exact PySem.P.gt_str (Got.here (.bool _))

-- truth
def small : PyData → Prop
  | .str x => x.length ≤ 1000000
  | .list xs => xs.length ≤ 1000000
  | .tuple _ => False
  | _ => True
theorem truth_of {d : PyData} (ok : Ok c.k c.fr A) (S : c.S s.heap) (r : Rd c.U s.heap v d) (hz : small d) :
    wpAny c.M A (truthy v) (fun b s' => Keeps s s' ∧ b = truth d) No s := by
  cases r with
  | none => exact truthy_none ⟨keeps_refl s, rfl⟩
  | bool b => exact wpAny_truthy_bool ⟨keeps_refl s, rfl⟩
  | int i t => exact PySem.P.truthy_int ⟨keeps_refl s, rfl⟩
  | str x t => exact PySem.P.truthy_str (by have : x.length ≤ 1000000 := hz; lia) ⟨keeps_tok s _, by
    show ((x.length : Int) != 0) = (x.length != 0)
    generalize x.length = n
    cases n with
    | zero => rfl
    | succ n => rw [bne_iff_ne.mpr (show ((n + 1 : Nat) : Int) ≠ 0 by lia), bne_iff_ne.mpr (Nat.succ_ne_zero n)]⟩
  | @list a vs n xs _ g q =>
    have hl := q.length
    refine wpAny_truthy_list (items := vs.toArray) ⟨_, g, rfl, n, rfl⟩ (by have : xs.length ≤ 1000000 := hz; simp; lia) ⟨keeps_tok s _, ?_⟩
    show _ = !xs.isEmpty
    cases vs <;> cases xs <;> simp at hl ⊢
  | tuple _ _ _ => exact hz.elim
theorem Tr.plain {d : PyData} {b : Bool} (h : Ev c e d) (hb : truth d = b) (hz : small d)
    (he : isTrue e c.env (eval e c.env) = (do let v ← eval e c.env; standAt e.pos; holding [v] (truthy v)) := by rfl) : Tr c e b := fun A s ok S => by
  refine isTrue_plain (wp_of (h A s ok S) fun v s₁ g₁ => ?_) he
  exact wp_of (truth_of ok (S.up g₁.1) g₁.2 hz) fun b' s₂ g₂ => ⟨keeps_trans g₁.1 g₂.1, g₂.2.trans hb⟩
theorem Tr.bool {b : Bool} (h : Ev c e (.bool b)) (he : isTrue e c.env (eval e c.env) = (do let v ← eval e c.env; standAt e.pos; holding [v] (truthy v)) := by rfl) : Tr c e b := Tr.plain h rfl trivial he
end

end Mine
end
noncomputable section
open PySem PySem.Calls PySem.W PyProof.Rows
set_option Elab.async false
set_option maxRecDepth 100000
set_option linter.unusedVariables false
namespace Mine

section
variable {c : Cx} {A : Around} {s s₁ s₂ : Shared} {v : Value} {d : PyData} {e e₁ e₂ : Expr} {d₁ d₂ : PyData} {pos : Pos} {ds es : List PyData}

/-- a type that has an item reader of its own -/
inductive Seqy : PyData → Prop
  | str (x : Str) : Seqy (.str x)
  | list (ds : List PyData) : Seqy (.list ds)
  | tuple (ds : List PyData) : Seqy (.tuple ds)
theorem seqy_type {U : List Addr} (r : Rd U s.heap v d) (q : Seqy d) : ∃ T id, s.TypeIs v T ∧ typeLookup (.type T) "__getitem__" = pure (some (.builtin id)) := by
  cases q with
  | str x => cases r; exact ⟨"str", _, typeIs_str _ _ _, F.slot_str_getitem.lookup⟩
  | list ds => cases r with | list _ g _ => exact ⟨"list", _, ⟨_, g, rfl⟩, slot_list_getitem.lookup⟩
  | tuple ds => cases r with | tuple _ g _ => exact ⟨"tuple", _, ⟨_, g, rfl⟩, slot_tuple_getitem.lookup⟩

theorem Ev.item (h₁ : Ev c e₁ d₁) (h₂ : Ev c e₂ d₂) (q : Seqy d₁) (ho : Op2 c getItem d₁ d₂ d) (hs : ∀ o i, subscripted e₂ false o i = operate [o, i] (getItem o i) := by intro _ _; rfl) : Ev c (.Subscript e₁ e₂ pos) d := fun A s ok S => by
  refine Subscript_ (wp_of (h₁ A s ok S) fun v₁ s₁ g₁ => ?_)
  have S₁ := S.up g₁.1
  refine wp_of (h₂ A s₁ ok S₁) fun v₂ s₂ g₂ => ?_
  have r₁ := g₁.2.up (keeps_le g₂.1)
  obtain ⟨T, id, hT, hl⟩ := seqy_type r₁ q
  exact tail_any hT hl (wp_of (ho A s₂ v₁ v₂ ok (S₁.up g₂.1) r₁ g₂.2) fun v s₃ g => (g.mk' g₂.1).mk' g₁.1) (hs _ _)

theorem op_item_list {i : Int} (h0 : 0 ≤ i) (hx : ds[i.toNat]? = some d) (hz : ds.length ≤ 1000000) : Op2 c getItem (.list ds) (.int i) d := fun A s v₁ v₂ ok S r₁ r₂ => by
  cases r₂ with
  | int _ u =>
  cases r₁ with
  | @list l vs k _ a₁ g q =>
    obtain ⟨x, hv, hr⟩ := q.get hx
    have hlt : i.toNat < ds.length := (List.getElem?_eq_some_iff.mp hx).1
    exact wpAny_getItem_list (items := vs.toArray) ⟨_, g, rfl, k, rfl⟩ h0 (by lia) (by simpa using hv) (Got.here hr)
theorem op_item_neg {i : Int} (h0 : i < 0) (h1 : -(ds.length : Int) ≤ i) (hx : ds[(i + ds.length).toNat]? = some d) (hz : ds.length ≤ 1000000) : Op2 c getItem (.list ds) (.int i) d := fun A s v₁ v₂ ok S r₁ r₂ => by
  cases r₂ with
  | int _ u =>
  cases r₁ with
  | @list l vs k _ a₁ g q =>
    obtain ⟨x, hv, hr⟩ := q.get hx
    have hl := q.length
    refine wpAny_getItem_list_neg (items := vs.toArray) (x := x) ⟨_, g, rfl, k, rfl⟩ h0 (by simp only [List.size_toArray]; lia) (by lia) ?_ (Got.here hr)
    simp only [List.size_toArray, List.getElem?_toArray, hl]; exact hv
theorem seqIndex_pos {i : Int} {n : Nat} (h0 : 0 ≤ i) (h1 : i.toNat < n) : seqIndex? i n = some i.toNat := by
  unfold seqIndex?
  simp only [show ¬ i < 0 by lia, if_false]
  rw [if_pos (by simp only [Bool.and_eq_true, decide_eq_true_eq]; lia)]
theorem op_item_tuple {i : Int} (h0 : 0 ≤ i) (hx : ds[i.toNat]? = some d) (hz : ds.length ≤ 1000000) : Op2 c getItem (.tuple ds) (.int i) d := fun A s v₁ v₂ ok S r₁ r₂ => by
  cases r₂ with
  | int _ u =>
  cases r₁ with
  | @tuple l vs k _ a₁ g q =>
    obtain ⟨x, hv, hr⟩ := q.get hx
    have hl := q.length
    have hlt : i.toNat < ds.length := (List.getElem?_eq_some_iff.mp hx).1
    refine PyProof.Rows.getItem_tuple (items := vs.toArray) (j := i.toNat) (x := x) ⟨_, g, rfl, k, rfl⟩ (by lia) (by lia) ?_ (by simpa using hv) (Got.here hr)
    exact seqIndex_pos h0 (by simp only [List.size_toArray]; lia)
theorem op_item_str {l : List Nat} {i : Int} {x : Nat} (h0 : 0 ≤ i) (hx : l[i.toNat]? = some x) (hz : l.length ≤ 1000000) : Op2 c getItem (.str (mk l)) (.int i) (.str (mk [x])) := fun A s v₁ v₂ ok S r₁ r₂ => by
  cases r₂ with
  | int _ u =>
  cases r₁ with
  | str _ t =>
    have hlt : i.toNat < l.length := (List.getElem?_eq_some_iff.mp hx).1
    refine PyProof.Rows.getItem_str (x := mk l) (c := x) (by simp only [Bool.or_eq_false_iff, decide_eq_false_iff_not]; lia) ?_ (Got.tok _ (.str _ _))
    rw [seqIndex_pos h0 (by rw [mk_length]; exact hlt)]
    simpa using hx
theorem op_item_str_neg {l : List Nat} {i : Int} {x : Nat} (h0 : i < 0) (h1 : -(l.length : Int) ≤ i) (hx : l[(i + l.length).toNat]? = some x) (hz : l.length ≤ 1000000) : Op2 c getItem (.str (mk l)) (.int i) (.str (mk [x])) := fun A s v₁ v₂ ok S r₁ r₂ => by
  cases r₂ with
  | int _ u =>
  cases r₁ with
  | str _ t =>
    refine PyProof.Rows.getItem_str (x := mk l) (c := x) (by simp only [Bool.or_eq_false_iff, decide_eq_false_iff_not]; lia) ?_ (Got.tok _ (.str _ _))
    rw [seqIndex_neg h0 (by rw [mk_length]; exact h1), mk_length]
    simpa using hx

-- slices
/-- a bound of a slice: none, or an int -/
def Part (c : Cx) (o : Option Expr) (p : Option Int) : Prop := match o, p with
  | none, none => True
  | some e, some i => Ev c e (.int i)
  | _, _ => False
theorem part_of {o : Option Expr} {p : Option Int} (h : Part c o p) (ok : Ok c.k c.fr A) (S : c.S s.heap) : wpAny c.M A (valueOrNone (evalOpt o c.env)) (fun v s' => Keeps s s' ∧ IsPart v p) No s := by
  cases o with
  | none => cases p with
    | none => exact wpAny_pure ⟨keeps_refl s, .none⟩
    | some i => exact h.elim
  | some e => cases p with
    | none => exact h.elim
    | some i => exact wp_of (show wpAny c.M A (eval e c.env) _ No s from h A s ok S) fun v s' g => ⟨g.1, by cases g.2; exact .int _ _⟩
theorem slice_of {lo hi st : Option Expr} {pl ph ps : Option Int} {p : Pos} (h₁ : Part c lo pl) (h₂ : Part c hi ph) (h₃ : Part c st ps) (ok : Ok c.k c.fr A) (S : c.S s.heap) :
    wpAny c.M A (eval (.Slice lo hi st p) c.env) (fun v s' => Keeps s s' ∧ ∃ a vl vu vk, v = .ref a ∧ s'.heap.get? a = some { cls := .type "slice", data := .fields #[vl, vu, vk] } ∧ IsPart vl pl ∧ IsPart vu ph ∧ IsPart vk ps) No s := by
  rw [arm_eval_Slice]
  refine wpAny_bind (wp_of (part_of h₁ ok S) fun vl s₁ g₁ => ?_)
  refine wpAny_bind (wpAny_holding (wp_of (part_of h₂ ok (S.up g₁.1)) fun vu s₂ g₂ => ?_))
  refine wpAny_bind (wpAny_holding (wp_of (part_of h₃ ok ((S.up g₁.1).up g₂.1)) fun vk s₃ g₃ => ?_))
  exact wpAny_newObj_type (T := "slice") ⟨keeps_trans g₁.1 (keeps_trans g₂.1 (keeps_trans g₃.1 (keeps_push s₃ _ s₃.toks))), _, vl, vu, vk, rfl, Heap.get?_push_size _ rfl, g₁.2, g₂.2, g₃.2⟩

theorem Ev.slice {lo hi st : Option Expr} {pl ph ps : Option Int} {p : Pos} {ops : Value → Value → List Value} (h₁ : Ev c e₁ d₁) (hl : Part c lo pl) (hh : Part c hi ph) (hk : Part c st ps) (q : Seqy d₁)
    (ho : ∀ (A : Around) (s : Shared) (v : Value) (a : Addr) (vl vu vk : Value), Ok c.k c.fr A → c.S s.heap → Rd c.U s.heap v d₁ → s.heap.get? a = some { cls := .type "slice", data := .fields #[vl, vu, vk] } → IsPart vl pl → IsPart vu ph → IsPart vk ps →
      wpAny c.M A (getItem v (.ref a)) (Got c s d) No s)
    (hs : ∀ o i, subscripted (.Slice lo hi st p) false o i = operate (ops o i) (getItem o i)) : Ev c (.Subscript e₁ (.Slice lo hi st p) pos) d := fun A s ok S => by
  refine Subscript_ (wp_of (h₁ A s ok S) fun v₁ s₁ g₁ => ?_)
  have S₁ := S.up g₁.1
  refine wp_of (slice_of hl hh hk ok S₁) fun v₂ s₂ g₂ => ?_
  obtain ⟨k₂, a, vl, vu, vk, rfl, hg, p1, p2, p3⟩ := g₂
  have r₁ := g₁.2.up (keeps_le k₂)
  obtain ⟨T, id, hT, hl⟩ := seqy_type r₁ q
  exact tail_any hT hl (wp_of (ho A s₂ v₁ a vl vu vk ok (S₁.up k₂) r₁ hg p1 p2 p3) fun v s₃ g => (g.mk' k₂).mk' g₁.1) (hs _ _)

theorem slice_txt_to (l : List Nat) (b : Nat) : Txt.slice (mk l) none (some (b : Int)) = mk (l.take b) := by
  by_cases h : (b : Int) ≤ (mk l).length
  · have := slice_closes_toL (x := mk l) (j := (b : Int)) (by lia) h
    rw [beq_iff_eq.mp this]
    simp [mk]
  · rw [slice_to_beyond (by lia)]
    have := slice_closes_toL (x := mk l) (j := ((mk l).length : Int)) (by lia) (by lia)
    rw [beq_iff_eq.mp this]
    rw [mk_length] at h
    show mk _ = mk _
    rw [mk_length, List.take_of_length_le (l := l) (by lia), List.take_of_length_le (by simp)]
    simp
theorem slice_txt_from (l : List Nat) (a : Nat) : Txt.slice (mk l) (some (a : Int)) none = mk (l.drop a) := by
  by_cases h : (a : Int) ≤ (mk l).length
  · rw [slice_from_eq (b := ((mk l).length : Int)) (by lia) h rfl]
    rw [mk_length] at h ⊢
    show mk _ = mk _
    rw [List.take_of_length_le (by simp)]
    simp
  · rw [slice_beyond (by lia)]
    rw [mk_length] at h
    have : l.drop a = [] := List.drop_eq_nil_iff.mpr (by lia)
    rw [this]; rfl
theorem part_tok {v : Value} {p : Option Int} (h : IsPart v p) : ∃ q : Option (Int × Tok), q.map (·.1) = p ∧ v = partValue q := by
  cases h with
  | none => exact ⟨none, rfl, rfl⟩
  | int i t => exact ⟨some (i, t), rfl, rfl⟩

theorem str_slice {l : List Nat} {pl ph : Option Int} {r : List Nat} (hr : Txt.slice (mk l) pl ph = mk r) (hz : l.length ≤ 1000000)
    (A : Around) (s : Shared) (v : Value) (a : Addr) (vl vu vk : Value) (ok : Ok c.k c.fr A) (S : c.S s.heap) (rv : Rd c.U s.heap v (.str (mk l))) (hg : s.heap.get? a = some { cls := .type "slice", data := .fields #[vl, vu, vk] }) (p1 : IsPart vl pl) (p2 : IsPart vu ph) (p3 : IsPart vk none) :
    wpAny c.M A (getItem v (.ref a)) (Got c s (.str (mk r))) No s := by
  cases rv with
  | str _ t =>
  obtain ⟨ql, e1, rfl⟩ := part_tok p1
  obtain ⟨qh, e2, rfl⟩ := part_tok p2
  cases p3
  subst e1; subst e2
  refine wpAny_getItem_str_slice (l := ql) (u := qh) (st := none) ⟨_, hg, rfl, rfl⟩ rfl ?_
  have e : (if ((1 : Int) == 1 && (Builtin.Str.strSliceIndices (ql.map (·.1)) (qh.map (·.1)) 1 (mk l).length).length == (mk l).length) = true then mk l else ⟨((Builtin.Str.strSliceIndices (ql.map (·.1)) (qh.map (·.1)) 1 (mk l).length).filterMap ((mk l).cps[·]?)).toArray⟩) = mk r := hr
  exact post_val_or_str (s := s) (Q := Got c s (.str (mk r))) (c := ((1 : Int) == 1 && (Builtin.Str.strSliceIndices (ql.map (·.1)) (qh.map (·.1)) 1 (mk l).length).length == (mk l).length) = true) (y := mk l) (z := ⟨((Builtin.Str.strSliceIndices (ql.map (·.1)) (qh.map (·.1)) 1 (mk l).length).filterMap ((mk l).cps[·]?)).toArray⟩)
    ⟨by rw [e, ← hr]; exact Nat.le_trans (Txt.slice_le (mk l) _ _) (by rw [mk_length]; exact sz8 hz), fun t' k => by rw [e]; exact Got.tok _ (.str _ _)⟩

theorem Ev.strTo {l : List Nat} {b : Nat} {p : Pos} (h₁ : Ev c e₁ (.str (mk l))) (h₂ : Ev c e₂ (.int (b : Int))) (hz : l.length ≤ 1000000) : Ev c (.Subscript e₁ (.Slice none (some e₂) none p) pos) (.str (mk (l.take b))) :=
  Ev.slice (pl := none) (ph := some (b : Int)) (ps := none) (ops := fun o i => [i, o]) h₁ trivial h₂ trivial (.str _) (str_slice (slice_txt_to l b) hz) fun _ _ => rfl
theorem Ev.strFrom {l : List Nat} {a : Nat} {p : Pos} (h₁ : Ev c e₁ (.str (mk l))) (h₂ : Ev c e₂ (.int (a : Int))) (hz : l.length ≤ 1000000) : Ev c (.Subscript e₁ (.Slice (some e₂) none none p) pos) (.str (mk (l.drop a))) :=
  Ev.slice (pl := some (a : Int)) (ph := none) (ps := none) (ops := fun o i => [i, o]) h₁ h₂ trivial trivial (.str _) (str_slice (slice_txt_from l a) hz) fun _ _ => rfl

theorem list_slice {pl ph ps : Option Int} {r : List PyData} (h0 : ps ≠ some 0) (hr : ∀ (vs : List Value) (h : Heap), RdL c.U h vs ds → RdL c.U h (slicePick vs.toArray pl ph ps).toList r) (hz : ds.length ≤ 1000000)
    (A : Around) (s : Shared) (v : Value) (a : Addr) (vl vu vk : Value) (ok : Ok c.k c.fr A) (S : c.S s.heap) (rv : Rd c.U s.heap v (.list ds)) (hg : s.heap.get? a = some { cls := .type "slice", data := .fields #[vl, vu, vk] }) (p1 : IsPart vl pl) (p2 : IsPart vu ph) (p3 : IsPart vk ps) :
    wpAny c.M A (getItem v (.ref a)) (Got c s (.list r)) No s := by
  cases rv with
  | @list l vs k _ a₁ g q =>
  refine wpAny_getItem_list_slice (items := vs.toArray) ⟨_, g, rfl, k, rfl⟩ ⟨_, hg, rfl, rfl⟩ p1 p2 p3 h0 ?_ (by rw [List.size_toArray, q.length]; exact sz8 hz)
  have := hr vs s.heap q
  have e : slicePick vs.toArray pl ph ps = ((slicePick vs.toArray pl ph ps).toList).toArray := by simp
  rw [e]
  exact ⟨keeps_push s _ s.toks, Rd.newList S this⟩
theorem Ev.listTo {b : Nat} {p : Pos} (h₁ : Ev c e₁ (.list ds)) (h₂ : Ev c e₂ (.int (b : Int))) (hz : ds.length ≤ 1000000) : Ev c (.Subscript e₁ (.Slice none (some e₂) none p) pos) (.list (ds.take b)) :=
  Ev.slice (pl := none) (ph := some (b : Int)) (ps := none) (ops := fun o i => [i, o]) h₁ trivial h₂ trivial (.list _) (list_slice (by simp) (fun vs h r => by rw [slicePick_upto']; simpa using r.take b) hz) fun _ _ => rfl
theorem Ev.listFrom {a : Nat} {p : Pos} (h₁ : Ev c e₁ (.list ds)) (h₂ : Ev c e₂ (.int (a : Int))) (hz : ds.length ≤ 1000000) : Ev c (.Subscript e₁ (.Slice (some e₂) none none p) pos) (.list (ds.drop a)) :=
  Ev.slice (pl := some (a : Int)) (ph := none) (ps := none) (ops := fun o i => [i, o]) h₁ h₂ trivial trivial (.list _) (list_slice (by simp) (fun vs h r => by rw [slicePick_from']; simpa using r.drop a) hz) fun _ _ => rfl
theorem Ev.listButLast {p : Pos} (h₁ : Ev c e₁ (.list ds)) (h₂ : Ev c e₂ (.int (-1))) (hz : ds.length ≤ 1000000) : Ev c (.Subscript e₁ (.Slice none (some e₂) none p) pos) (.list ds.dropLast) :=
  Ev.slice (pl := none) (ph := some (-1)) (ps := none) (ops := fun o i => [i, o]) h₁ trivial h₂ trivial (.list _) (list_slice (by simp) (fun vs h r => by
    rw [slicePick_plain]
    simp only [Option.elim, List.drop_zero, Nat.sub_zero]
    rw [List.dropLast_eq_take]
    have e : clipAt vs.toArray.size (-1) = ds.length - 1 := by
      rw [List.size_toArray, r.length]
      unfold clipAt
      simp only [show ((-1 : Int) < 0) from by decide, if_true]
      lia
    rw [e]
    simpa using r.take (ds.length - 1)) hz) fun _ _ => rfl
/-- a slice by steps -/
def pick (ds : List PyData) (lo hi st : Option Int) : List PyData :=
  (sliceRange (sliceBounds lo hi st ds.length).1 (sliceBounds lo hi st ds.length).2.1 (sliceBounds lo hi st ds.length).2.2).filterMap (ds[·]?)
theorem RdL.places {U : List Addr} {h : Heap} {vs : List Value} {ds : List PyData} (x : RdL U h vs ds) : ∀ js : List Nat, RdL U h (js.filterMap (vs[·]?)) (js.filterMap (ds[·]?))
  | [] => .nil
  | j :: js => by
    have ih := RdL.places x js
    cases hd : ds[j]? with
    | some d =>
      obtain ⟨v, hv, hr⟩ := x.get hd
      simp only [List.filterMap_cons, hd, hv]
      exact .cons hr ih
    | none =>
      have hv : vs[j]? = none := by
        rw [List.getElem?_eq_none_iff] at hd ⊢
        rw [x.length]; exact hd
      simp only [List.filterMap_cons, hd, hv]
      exact ih
theorem Ev.listStep {e₃ : Expr} {a k : Int} {p : Pos} (h₁ : Ev c e₁ (.list ds)) (h₂ : Ev c e₂ (.int a)) (h₃ : Ev c e₃ (.int k)) (hk : k ≠ 0) (hz : ds.length ≤ 1000000) : Ev c (.Subscript e₁ (.Slice (some e₂) none (some e₃) p) pos) (.list (pick ds (some a) none (some k))) :=
  Ev.slice (pl := some a) (ph := none) (ps := some k) (ops := fun o i => [o, i]) h₁ h₂ trivial h₃ (.list _) (list_slice (by simpa using hk) (fun vs h r => by
    have e : (slicePick vs.toArray (some a) none (some k)).toList = (sliceRange (sliceBounds (some a) none (some k) ds.length).1 (sliceBounds (some a) none (some k) ds.length).2.1 (sliceBounds (some a) none (some k) ds.length).2.2).filterMap (vs[·]?) := by
      simp [slicePick, r.length]
    rw [e]; exact r.places _) hz) fun _ _ => rfl
end

end Mine
end
noncomputable section
open PySem PySem.Calls PySem.W PyProof.Rows
set_option Elab.async false
set_option maxRecDepth 100000
set_option linter.unusedVariables false
namespace Mine

abbrev Cx.at (c : Cx) (ρ : Rho) (μ : List (Addr × List PyData)) : Cx := { c with ρ := ρ, μ := μ }
abbrev Cx.set (c : Cx) (x : Str) (b : Bd) : Cx := { c with ρ := (x, b) :: c.ρ }

/-- what a statement may change: the frame's own things alone -/
def StepU (U : List Addr) (s s' : Shared) : Prop := ∃ h' tk, s' = { s with heap := h', toks := tk } ∧ ∀ b o, b ∉ U → s.heap.get? b = some o → h'.get? b = some o
theorem StepU.refl (U : List Addr) (s : Shared) : StepU U s s := ⟨s.heap, s.toks, rfl, fun _ _ _ e => e⟩
theorem StepU.trans {U : List Addr} {s s' s'' : Shared} (x : StepU U s s') (y : StepU U s' s'') : StepU U s s'' := by
  obtain ⟨h, t, rfl, k⟩ := x
  obtain ⟨h', t', rfl, k'⟩ := y
  exact ⟨h', t', rfl, fun b o n e => k' b o n (k b o n e)⟩
theorem StepU.of_keeps {U : List Addr} {s s' : Shared} (x : Keeps s s') : StepU U s s' := by
  obtain ⟨h, t, rfl, k⟩ := x
  exact ⟨h, t, rfl, fun b o _ e => k b o e⟩
theorem StepU.at {U : List Addr} {s s' : Shared} (x : StepU U s s') {b : Addr} {o : Obj} (n : b ∉ U) (e : s.heap.get? b = some o) : s'.heap.get? b = some o := by
  obtain ⟨h, t, rfl, k⟩ := x; exact k b o n e
theorem StepU.keeps {U : List Addr} {s s' : Shared} (x : StepU U s s') (n : ∀ a ∈ U, s.heap.get? a = none) : Keeps s s' := by
  obtain ⟨h, t, rfl, k⟩ := x
  exact ⟨h, t, rfl, fun b o e => k b o (fun m => by rw [n b m] at e; cases e) e⟩
theorem StepU.less {U U' : List Addr} {s s' : Shared} (x : StepU U s s') (n : ∀ a ∈ U, a ∈ U' ∨ s.heap.get? a = none) : StepU U' s s' := by
  obtain ⟨h, t, rfl, k⟩ := x
  exact ⟨h, t, rfl, fun b o hb e => k b o (fun m => by rcases n b m with q | q; exact hb q; rw [q] at e; cases e) e⟩

/-- an object that is the same but for its slots -/
def SameS (o o' : Obj) : Prop := ∃ sl, o' = { o with slots := sl }
theorem SameS.trans {a b c : Obj} (x : SameS a b) (y : SameS b c) : SameS a c := by
  obtain ⟨p, rfl⟩ := x
  obtain ⟨q, rfl⟩ := y
  exact ⟨q, rfl⟩
/-- as StepU; and the outer frames F may change their slots -/
def StepX (W F : List Addr) (s s' : Shared) : Prop := ∃ h' tk, s' = { s with heap := h', toks := tk } ∧ ∀ b o, b ∉ W → s.heap.get? b = some o → ∃ o', h'.get? b = some o' ∧ (o' = o ∨ (b ∈ F ∧ SameS o o'))
theorem StepU.x {W F : List Addr} {s s' : Shared} (x : StepU W s s') : StepX W F s s' := by
  obtain ⟨h, t, rfl, k⟩ := x
  exact ⟨h, t, rfl, fun b o n e => ⟨o, k b o n e, .inl rfl⟩⟩
theorem StepX.refl {F : List Addr} (W : List Addr) (s : Shared) : StepX W F s s := (StepU.refl W s).x
theorem StepX.of_keeps {W F : List Addr} {s s' : Shared} (x : Keeps s s') : StepX W F s s' := (StepU.of_keeps x).x
theorem StepX.trans {W F : List Addr} {s s' s'' : Shared} (x : StepX W F s s') (y : StepX W F s' s'') : StepX W F s s'' := by
  obtain ⟨h, t, rfl, k⟩ := x
  obtain ⟨h', t', rfl, k'⟩ := y
  refine ⟨h', t', rfl, fun b o n e => ?_⟩
  obtain ⟨o₁, e₁, c₁⟩ := k b o n e
  obtain ⟨o₂, e₂, c₂⟩ := k' b o₁ n e₁
  refine ⟨o₂, e₂, ?_⟩
  rcases c₁ with rfl | ⟨m, q⟩
  · exact c₂
  · rcases c₂ with rfl | ⟨_, q'⟩
    · exact .inr ⟨m, q⟩
    · exact .inr ⟨m, q.trans q'⟩
theorem StepU.tx {W F : List Addr} {s s' s'' : Shared} (x : StepU W s s') (y : StepX W F s' s'') : StepX W F s s'' := x.x.trans y
theorem StepX.at {W F : List Addr} {s s' : Shared} (x : StepX W F s s') {b : Addr} {o : Obj} (n : b ∉ W) (f : b ∉ F) (e : s.heap.get? b = some o) : s'.heap.get? b = some o := by
  obtain ⟨h, t, rfl, k⟩ := x
  obtain ⟨o', e', c⟩ := k b o n e
  rcases c with rfl | ⟨m, _⟩
  · exact e'
  · exact (f m).elim
theorem StepX.u {W : List Addr} {s s' : Shared} (x : StepX W [] s s') : StepU W s s' := by
  obtain ⟨h, t, rfl, k⟩ := id x
  exact ⟨h, t, rfl, fun b o n e => x.at n (fun m => nomatch m) e⟩
theorem StepX.less {W W' F : List Addr} {s s' : Shared} (x : StepX W F s s') (n : ∀ a ∈ W, a ∈ W' ∨ s.heap.get? a = none) : StepX W' F s s' := by
  obtain ⟨h, t, rfl, k⟩ := x
  exact ⟨h, t, rfl, fun b o hb e => k b o (fun m => by rcases n b m with q | q; exact hb q; rw [q] at e; cases e) e⟩

def Ex (c : Cx) (ss : List Stmt) (Q : Flow → Heap → Prop) : Prop :=
  ∀ (A : Around) (s : Shared), Ok c.k c.fr A → c.S s.heap → wpAny c.M A (execs ss c.env) (fun f s' => StepX c.W c.F s s' ∧ Q f s'.heap) No s
def Asg (c : Cx) (t : Expr) (d : PyData) (ρ' : Rho) : Prop :=
  ∀ (A : Around) (s : Shared) (v : Value), Ok c.k c.fr A → c.S s.heap → Rd c.U s.heap v d → wpAny c.M A (assign t c.env v) (fun _ s' => StepU c.W s s' ∧ (c.at ρ' c.μ).S s'.heap) No s

/-- the kinds of names that a frame stores -/
def Stores (c : Cx) (x : Str) : Prop := c.env.kindOf x = some .local ∨ (c.env.kindOf x = some .cell ∧ ∃ a, c.env.cells.lookup x = some a ∧ a ∈ c.W)

section
variable {c : Cx} {A : Around} {s s₁ s₂ : Shared} {v : Value} {d : PyData} {e e₁ e₂ : Expr} {d₁ d₂ : PyData} {pos : Pos} {ds es : List PyData} {Q : Flow → Heap → Prop} {rest : List Stmt}

theorem store_of {x : Str} {b : Bd} (S : c.S s.heap) (hx : Stores c x) (hb : b.ok c.U s.heap v) : wpAny c.M A (storeName c.env x v) (fun _ s' => StepU c.W s s' ∧ (c.set x b).S s'.heap) No s := by
  rcases hx with hx | ⟨hx, a, ha, haW⟩
  · obtain ⟨m, n⟩ := S.ns
    refine wpAny_storeName_local hx n (fun h' hn hs => ⟨⟨h', _, rfl, fun b' o hb' e => hs.extBut b' o (fun q => hb' (q ▸ S.locW)) e⟩, St.setLocal S hx n hn rfl hs hb⟩) (by rw [S.kind]; rfl)
  · obtain ⟨h1, h2, w₀, h3⟩ := S.cells x a (mem_of_lookup ha)
    exact wpAny_storeName_cell S.kind hx ha h3 fun h' hv hs => ⟨⟨h', _, rfl, fun b' o hb' e => hs.extBut b' o (fun q => hb' (q ▸ haW)) e⟩, St.setCell S hx ha hv hs hb⟩
theorem assign_Name' (x : Str) (p : Pos) (env : Env) (v : Value) : assign (.Name x p) env v = (do standAt p; bindName env x v) := rfl
theorem Asg.name {x : Str} {p : Pos} (hx : Stores c x) : Asg c (.Name x p) d ((x, .dat d) :: c.ρ) := fun A s v ok S r => by
  rw [assign_Name']
  exact wpAny_bind (wpAny_standAt (wpAny_bindName (store_of (b := .dat d) S hx r)))

theorem Ex.nil (h : ∀ g, c.S g → Q .next g) : Ex c [] Q := fun A s ok S => wpAny_execs_nil ⟨.refl _ _, h _ S⟩
theorem Ex.ret {p : Pos} (he : Ev c e d) (h : ∀ g v, c.S g → Rd c.U g v d → Q (.ret v) g) : Ex c (.Return (some e) p :: rest) Q := fun A s ok S =>
  wpAny_execs_cons (wpAny_Return_some (wp_of (he A s ok S) fun v s₁ g => ⟨.of_keeps g.1, h _ v (S.up g.1) g.2⟩))
theorem Ex.assign {x : Str} {p p' : Pos} (he : Ev c e d) (hx : Stores c x) (h : Ex (c.set x (.dat d)) rest Q) (hs : swapsWith e (some (.Name x p')) p.line c.env = pure false := by rfl) : Ex c (.Assign [.Name x p'] e p :: rest) Q := fun A s ok S => by
  refine wpAny_execs_cons (wpAny_Assign_Name (wp_of (he A s ok S) fun v s₁ g₁ => ?_) hs)
  refine wp_of (store_of (b := .dat d) (S.up g₁.1) hx g₁.2) fun _ s₂ g₂ => ?_
  exact wp_of (h A s₂ ok g₂.2) fun f s₃ g₃ => ⟨(StepU.of_keeps g₁.1).tx (g₂.1.tx g₃.1), g₃.2⟩
theorem Ex.aug {x : Str} {op : Operator} {p p' : Pos} (hv : c.ρ.lookup x = some (.dat d₁)) (he : Ev c e d₂) (ho : Op2 c (inplaceOp op) d₁ d₂ d) (hx : Stores c x) (h : Ex (c.set x (.dat d)) rest Q) (hc : (x == ("__classdict__" : Str)) = false := by decide) :
    Ex c (.AugAssign (.Name x p') op e p :: rest) Q := fun A s ok S => by
  obtain ⟨v₁, ha, r₁⟩ := S.vars x _ hv
  refine wpAny_execs_cons (wpAny_AugAssign_Name ?_)
  have go : wpAny c.M A (eval e c.env) (fun v s₂ => wpAny c.M A (inplaceOp op v₁ v) (fun r s₃ => wpAny c.M A (storeName c.env x r) (fun _ s₄ => wpAny c.M A (execs rest c.env) (fun f s' => StepX c.W c.F s s' ∧ Q f s'.heap) No s₄) No s₃) No s₂) No s := by
    refine wp_of (he A s ok S) fun v₂ s₂ g₂ => ?_
    have S₂ := S.up g₂.1
    refine wp_of (ho A s₂ v₁ v₂ ok S₂ (Rd.up r₁ (keeps_le g₂.1)) g₂.2) fun r s₃ g₃ => ?_
    refine wp_of (store_of (b := .dat d) (S₂.up g₃.1) hx g₃.2) fun _ s₄ g₄ => ?_
    exact wp_of (h A s₄ ok g₄.2) fun f s₅ g₅ => ⟨(StepU.of_keeps (keeps_trans g₂.1 g₃.1)).tx (g₄.1.tx g₅.1), g₅.2⟩
  rcases ha with ⟨kk, m, n, e'⟩ | ⟨kk | kk, a, l, n⟩
  · exact wpAny_loadName_local S.kind kk n e' go
  · exact wpAny_loadName_cell S.kind kk l n go
  · exact wpAny_loadName_free S.kind kk l n go hc
theorem Ex.ifElse {t : Expr} {b : Bool} {body orelse : List Stmt} {p : Pos} (ht : Tr c t b) (h₁ : b = true → Ex c body Q) (h₂ : b = false → Ex c orelse Q) : Ex c [.If t body orelse p] Q := fun A s ok S => by
  refine wpAny_execs_cons (wpAny_If (wp_of (ht A s ok S) fun r s₁ g₁ => ?_))
  rw [g₁.2]
  have fin : ∀ {ss : List Stmt}, Ex c ss Q → wpAny c.M A (execs ss c.env) (fun f s' => match f with | .next => wpAny c.M A (execs [] c.env) (fun f s' => StepX c.W c.F s s' ∧ Q f s'.heap) No s' | f => StepX c.W c.F s s' ∧ Q f s'.heap) No s₁ := fun hx => by
    refine wp_of (hx A s₁ ok (S.up g₁.1)) fun f s₂ g₂ => ?_
    have q : StepX c.W c.F s s₂ ∧ Q f s₂.heap := ⟨(StepU.of_keeps g₁.1).tx g₂.1, g₂.2⟩
    cases f <;> first | exact wpAny_execs_nil q | exact q
  cases b with
  | true => exact fin (h₁ rfl)
  | false => exact fin (h₂ rfl)
/-- an if whose body leaves -/
theorem Ex.ifRet {t : Expr} {b : Bool} {body : List Stmt} {p : Pos} (ht : Tr c t b) (h₁ : b = true → Ex c body (fun f h => f ≠ .next ∧ Q f h)) (h₂ : b = false → Ex c rest Q) : Ex c (.If t body [] p :: rest) Q := fun A s ok S => by
  refine wpAny_execs_cons (wpAny_If (wp_of (ht A s ok S) fun r s₁ g₁ => ?_))
  rw [g₁.2]
  cases b with
  | true =>
    refine wp_of (h₁ rfl A s₁ ok (S.up g₁.1)) fun f s₂ g₂ => ?_
    have q : StepX c.W c.F s s₂ ∧ Q f s₂.heap := ⟨(StepU.of_keeps g₁.1).tx g₂.1, g₂.2.2⟩
    cases f <;> first | exact (g₂.2.1 rfl).elim | exact q
  | false => exact wpAny_execs_nil (wp_of (h₂ rfl A s₁ ok (S.up g₁.1)) fun f s₂ g₂ => ⟨(StepU.of_keeps g₁.1).tx g₂.1, g₂.2⟩)

/-- a while loop over data -/
theorem Ex.while {σ : Type} {t : Expr} {body : List Stmt} {p : Pos} (ρ : σ → Rho) (μ : σ → List (Addr × List PyData)) (Inv : σ → Prop) (m : σ → Nat) (b : σ → Bool) (x₀ : σ)
    (h0 : ∀ g, c.S g → (c.at (ρ x₀) (μ x₀)).S g) (hi : Inv x₀) (ht : ∀ x, Inv x → Tr (c.at (ρ x) (μ x)) t (b x))
    (hb : ∀ x, Inv x → b x = true → Ex (c.at (ρ x) (μ x)) body (fun f g => match f with
      | .next | .cont => ∃ y, Inv y ∧ m y < m x ∧ (c.at (ρ y) (μ y)).S g
      | .brk => False
      | .ret v => Q (.ret v) g))
    (hr : ∀ x, Inv x → b x = false → Ex (c.at (ρ x) (μ x)) rest Q) : Ex c (.While t body [] p :: rest) Q := fun A s ok S => by
  refine wpAny_execs_cons (wpAny_While ?_)
  refine codeAny_whileLoop (fun n s' => ∃ x, Inv x ∧ n = m x ∧ (c.at (ρ x) (μ x)).S s'.heap ∧ StepX c.W c.F s s') (fun n s' hI => ?_) (m x₀) ⟨x₀, hi, rfl, h0 _ S, .refl _ _⟩
  obtain ⟨x, hx, rfl, Sx, st⟩ := hI
  refine wp_of (ht x hx A s' ok Sx) fun r s₂ g₂ => ?_
  rw [g₂.2]
  have S₂ : (c.at (ρ x) (μ x)).S s₂.heap := St.up Sx (keeps_le g₂.1)
  have st₂ : StepX c.W c.F s s₂ := st.trans (.of_keeps g₂.1)
  cases hbx : b x with
  | true =>
    refine wp_of (hb x hx hbx A s₂ ok S₂) fun f s₃ g₃ => ?_
    have st₃ := st₂.trans g₃.1
    cases f with
    | next => obtain ⟨y, hy, hm, Sy⟩ := g₃.2; exact ⟨m y, hm, y, hy, rfl, Sy, st₃⟩
    | cont => obtain ⟨y, hy, hm, Sy⟩ := g₃.2; exact ⟨m y, hm, y, hy, rfl, Sy, st₃⟩
    | brk => exact g₃.2.elim
    | ret v => exact ⟨st₃, g₃.2⟩
  | false =>
    refine wpAny_execs_nil ?_
    exact wp_of (hr x hx hbx A s₂ ok S₂) fun f s₃ g₃ => ⟨st₂.trans g₃.1, g₃.2⟩

/-- no datum and no cell -/
def NotDat (o : Obj) : Prop := (∀ vs n, o.data ≠ .seq vs n) ∧ ∀ v, o.data ≠ .cell v
theorem NotDat.fields {o : Obj} {vs : Array Value} (h : o.data = .fields vs) : NotDat o := ⟨fun _ _ q => (by rw [h] at q; cases q), fun _ q => (by rw [h] at q; cases q)⟩
theorem NotDat.ns {h : Heap} {a : Addr} {m : Str → Option Value} (x : h.Ns a m) : ∃ o, h.get? a = some o ∧ NotDat o ∧ (o.cls = .type "range" → ∀ vs, o.data ≠ .fields vs) := by
  obtain ⟨o, es, ep, ho, hd, _⟩ := x
  exact ⟨o, ho, ⟨fun _ _ q => (by rw [hd] at q; cases q), fun _ q => (by rw [hd] at q; cases q)⟩, fun _ _ q => (by rw [hd] at q; cases q)⟩
mutual
theorem Rd.offI {U : List Addr} {h : Heap} {I : Addr} {o : Obj} (ho : h.get? I = some o) (hd : NotDat o) : ∀ {v : Value} {d : PyData}, Rd U h v d → Rd (I :: U) h v d
  | _, _, .none => .none
  | _, _, .bool b => .bool b
  | _, _, .int i t => .int i t
  | _, _, .str x t => .str x t
  | _, _, .list ha hg r => .list (fun m => by
      rcases List.mem_cons.mp m with q | q
      · rw [q, ho] at hg; cases hg; exact hd.1 _ _ rfl
      · exact ha q) hg (RdL.offI ho hd r)
  | _, _, .tuple ha hg r => .tuple (fun m => by
      rcases List.mem_cons.mp m with q | q
      · rw [q, ho] at hg; cases hg; exact hd.1 _ _ rfl
      · exact ha q) hg (RdL.offI ho hd r)
theorem RdL.offI {U : List Addr} {h : Heap} {I : Addr} {o : Obj} (ho : h.get? I = some o) (hd : NotDat o) : ∀ {vs : List Value} {ds : List PyData}, RdL U h vs ds → RdL (I :: U) h vs ds
  | _, _, .nil => .nil
  | _, _, .cons x r => .cons (Rd.offI ho hd x) (RdL.offI ho hd r)
end
/-- an object that is no datum, no dict and no cell may change -/
theorem St.off {F : List Addr} {H : Heap} {U W : List Addr} {env : Env} {ρ : Rho} {μ : List (Addr × List PyData)} {h h' : Heap} (S : St F H U W env ρ μ h) {I : Addr} {o : Obj} (ho : h.get? I = some o) (hd : NotDat o) (hc : o.cls = .type "range" → ∀ vs, o.data ≠ .fields vs) (hI : I ∉ U) (hH : H.get? I = none)
    (hk : ∀ b o, b ≠ I → h.get? b = some o → h'.get? b = some o) : St F H U W env ρ μ h' := by
  have hU : ∀ a ∈ U, a ≠ I := fun a ha q => hI (q ▸ ha)
  have rd : ∀ {v : Value} {d : PyData}, Rd U h v d → Rd U h' v d := fun {v d} r => by
    have : ∀ b o, b ∉ I :: U → h.get? b = some o → b ∉ U ∧ h'.get? b = some o := fun b o hb e => ⟨fun m => hb (.tail _ m), hk b o (fun q => hb (q ▸ .head _)) e⟩
    refine Rd.frame (U := I :: U) this ?_
    exact Rd.offI ho hd r
  have rdl : ∀ {v : List Value} {d : List PyData}, RdL U h v d → RdL U h' v d := fun {v d} r => by
    have : ∀ b o, b ∉ I :: U → h.get? b = some o → b ∉ U ∧ h'.get? b = some o := fun b o hb e => ⟨fun m => hb (.tail _ m), hk b o (fun q => hb (q ▸ .head _)) e⟩
    exact RdL.frame (U := I :: U) this (RdL.offI ho hd r)
  have ns : ∀ {m : Str → Option Value}, h.Ns env.locals m → h'.Ns env.locals m := fun {m} n => by
    obtain ⟨o', es, ep, ho', hd', r⟩ := n
    exact ⟨o', es, ep, hk env.locals o' (hU _ S.loc) ho', hd', r⟩
  have cel : ∀ {a : Addr} {w : Option Value}, h.IsCell a w → h'.IsCell a w := fun {a w} n => by
    obtain ⟨o', ho', hd'⟩ := n
    exact ⟨o', hk a o' (fun q => by rw [q, ho] at ho'; cases ho'; exact hd.2 _ hd') ho', hd'⟩
  exact {
    base := fun a o' e => hk a o' (fun q => by rw [q, hH] at e; cases e) (S.base a o' e)
    offs := fun a ha => ⟨let ⟨o', e⟩ := (S.offs a ha).1; ⟨o', hk a o' (hU a ha) e⟩, (S.offs a ha).2⟩
    kind := S.kind
    globals := S.globals
    builtins := S.builtins
    subW := S.subW
    locW := S.locW
    ns := let ⟨m, n⟩ := S.ns; ⟨m, ns n⟩
    cells := fun y a hm => let ⟨i, e, w, j⟩ := S.cells y a hm; ⟨i, e, w, cel j⟩
    apart := S.apart
    vars := fun y b e => by
      obtain ⟨u, q, r⟩ := S.vars y b e
      refine ⟨u, ?_, ?_⟩
      · rcases q with ⟨q, m₁, n₁, e₁⟩ | ⟨q, a, l, i⟩
        · exact .inl ⟨q, m₁, ns n₁, e₁⟩
        · exact .inr ⟨q, a, l, cel i⟩
      · cases b with
        | dat d => exact rd r
        | val w => exact r
        | rng a b k => obtain ⟨i, t, u, w, e, n, g⟩ := r; exact ⟨i, t, u, w, e, n, hk _ _ (fun q => by have g' : h.get? I = some _ := q ▸ g; rw [ho] at g'; cases g'; exact hc rfl _ rfl) g⟩
    mutsW := fun a ds hm => let ⟨i, vs, n, g, r⟩ := S.mutsW a ds hm; ⟨i, vs, n, hk a _ (hU a (S.subW a i)) g, rdl r⟩
    mapart := S.mapart
    frs := fun a ha => ⟨(S.frs a ha).1, (S.frs a ha).2.at fun o e => hk a o (hU a (S.frs a ha).1) e⟩ }
end

end Mine
end
noncomputable section
open PySem PySem.Calls PySem.W PyProof.Rows
set_option Elab.async false
set_option maxRecDepth 100000
set_option linter.unusedVariables false
namespace Mine

/-- the iterators that own the pair they hand out -/
def ownsPair (n : String) : Bool := ["enumerate", "zip", "dict_itemiterator", "dict_reverseitemiterator", "odict_iterator", "itertools.zip_longest", "itertools.pairwise"].contains n

structure ItOk (F : List Addr) (c : Cx) (s : Shared) (ds : List PyData) (I : Addr) (fp : List Addr) (P : Nat → Value → Prop) (Sx : Nat → Heap → Prop) (s₂ : Shared) : Prop where
  keeps : Keeps s s₂
  walks : ∀ A : Around, A.handled = none → Walks c.prog c.w A I fp [I] ds.length P Sx
  start : Sx 0 s₂.heap
  shape : ∀ i h, Sx i h → ∃ o n vs, h.get? I = some o ∧ o.cls = .type n ∧ o.data = .fields vs ∧ ownsPair n = false ∧ n ≠ "range"
  off : I ∉ c.U
  offH : c.H.get? I = none
  new : s.heap.get? I = none
  feet : ∀ b ∈ fp, b ≠ I → b ∉ F ∧ ∃ o, s₂.heap.get? b = some o
  item : ∀ i v, i < ds.length → P i v → ∃ d, ds[i]? = some d ∧ Rd c.U s₂.heap v d

def IterOf (c : Cx) (e : Expr) (ds : List PyData) : Prop :=
  ∀ (A : Around) (s : Shared), Ok c.k c.fr A → c.S s.heap → wpAny c.M A (eval e c.env) (fun xv s₁ => wpAny c.M A (pyIter xv) (fun it s₂ => ∃ I fp P Sx, it = .ref I ∧ ItOk c.U c s ds I fp P Sx s₂) No s₁) No s

/-- the weaker form: a walk that a comprehension may take over a list of the frame's own -/
def IterC (c : Cx) (e : Expr) (ds : List PyData) : Prop :=
  ∀ (A : Around) (s : Shared), Ok c.k c.fr A → c.S s.heap → wpAny c.M A (eval e c.env) (fun xv s₁ => wpAny c.M A (pyIter xv) (fun it s₂ => ∃ I fp P Sx, it = .ref I ∧ ItOk [] c s ds I fp P Sx s₂) No s₁) No s
theorem IterOf.c {c : Cx} {e : Expr} {ds : List PyData} (h : IterOf c e ds) : IterC c e ds := fun A s ok S => wp_of (h A s ok S) fun xv s₁ g₁ => wp_of g₁ fun it s₂ g₂ => by
  obtain ⟨I, fp, P, Sx, e, K⟩ := g₂
  exact ⟨I, fp, P, Sx, e, { K with feet := fun b hb hn => ⟨fun m => (nomatch m), (K.feet b hb hn).2⟩ }⟩

section
variable {c : Cx} {A : Around} {s s₁ s₂ : Shared} {v : Value} {d : PyData} {e e₁ e₂ : Expr} {d₁ d₂ : PyData} {pos : Pos} {ds es : List PyData} {Q : Flow → Heap → Prop} {rest : List Stmt}

theorem owned_go {t : Expr} {I : Addr} {o : Obj} {n : String} {vs : Array Value} {E : Value → Shared → Prop} {Q : Unit → Shared → Prop} (ho : s.heap.get? I = some o) (hc : o.cls = .type n) (hd : o.data = .fields vs) (hn : ownsPair n = false) (h : Q () s) :
    wpAny c.M A (letOwnedTupleGo t (.ref I) v) Q E s := by
  unfold letOwnedTupleGo
  have fin : wpAny c.M A (do
    let (.ref r, .ref a) := ((Value.ref I), v) | return
    let o ← load r
    match o.cls, o.data with
    | .type n, .fields vs =>
      if ["enumerate", "zip", "dict_itemiterator", "dict_reverseitemiterator", "odict_iterator", "itertools.zip_longest", "itertools.pairwise"].contains n && vs[0]? == some (rawInt a) then
        rule "for.unpacks-the-owned-tuple"
        updateField r 0 .none
    | _, _ => pure ()) Q E s := by
    cases v with
    | ref a =>
      refine wpAny_bind (wpAny_load ho ?_)
      rw [hc, hd]
      dsimp only
      have : (["enumerate", "zip", "dict_itemiterator", "dict_reverseitemiterator", "odict_iterator", "itertools.zip_longest", "itertools.pairwise"].contains n && vs[0]? == some (rawInt a)) = false := by
        have q : (["enumerate", "zip", "dict_itemiterator", "dict_reverseitemiterator", "odict_iterator", "itertools.zip_longest", "itertools.pairwise"].contains n) = false := hn
        rw [q]; rfl
      rw [this]
      exact wpAny_pure h
    | _ => exact wpAny_pure h
  cases t <;> first | exact fin | exact wpAny_pure h

theorem IterOf.list (h : Ev c e (.list ds)) : IterOf c e ds := fun A s ok S => wp_of (h A s ok S) fun v s₁ g => by
  cases g.2 with
  | @list a vs n _ ha hg q =>
    have S₁ := S.up g.1
    have hl : s₁.heap.IsList a vs.toArray := ⟨_, hg, rfl, n, rfl⟩
    have hlt : a < s₁.heap.objs.size := Heap.lt_size hg
    refine wpAny_pyIter_list hl ⟨s₁.heap.objs.size, [s₁.heap.objs.size, a], fun i v => vs.toArray[i]? = some v, fun i h => h.IsListIter s₁.heap.objs.size a i ∧ h.IsList a vs.toArray, rfl, keeps_trans g.1 (keeps_push _ _ _), fun A' hA => ?_, ⟨⟨_, Heap.get?_push_size _ rfl, rfl, rfl⟩, hl.push _⟩, fun i h st => ?_, S₁.new (Nat.le_refl _), size_le S₁.base (Nat.le_refl _), size_le (keeps_le g.1) (Nat.le_refl _), fun b hb hne => ?_, fun i v hi hP => ?_⟩
    · have W := Walks.list (prog := c.prog) (w := c.w) hA s₁.heap.objs.size a (Nat.ne_of_lt hlt) vs.toArray
      have e : vs.toArray.size = ds.length := by rw [List.size_toArray, q.length]
      rw [e] at W
      exact W
    · obtain ⟨⟨o, h1, h2, h3⟩, _⟩ := st
      exact ⟨o, _, _, h1, h2, h3, by decide, by decide⟩
    · rcases List.mem_cons.mp hb with r | r
      · exact (hne r).elim
      · rw [List.mem_singleton.mp r]; exact ⟨ha, _, Heap.get?_push_of_some _ hg⟩
    · obtain ⟨d, e1, e2⟩ := q.get' (i := i) (v := v) (by simpa using hP)
      exact ⟨d, e1, e2.up (Le.push _ _)⟩
theorem IterOf.tuple (h : Ev c e (.tuple ds)) : IterOf c e ds := fun A s ok S => wp_of (h A s ok S) fun v s₁ g => by
  cases g.2 with
  | @tuple a vs n _ ha hg q =>
    have S₁ := S.up g.1
    have hl : s₁.heap.IsTuple a vs.toArray := ⟨_, hg, rfl, n, rfl⟩
    have hlt : a < s₁.heap.objs.size := Heap.lt_size hg
    refine wpAny_pyIter_tuple hl ⟨s₁.heap.objs.size, [s₁.heap.objs.size, a], fun i v => vs.toArray[i]? = some v, fun i h => h.IsTupleIter s₁.heap.objs.size a i ∧ h.IsTuple a vs.toArray, rfl, keeps_trans g.1 (keeps_push _ _ _), fun A' hA => ?_, ⟨⟨_, Heap.get?_push_size _ rfl, rfl, rfl⟩, hl.push _⟩, fun i h st => ?_, S₁.new (Nat.le_refl _), size_le S₁.base (Nat.le_refl _), size_le (keeps_le g.1) (Nat.le_refl _), fun b hb hne => ?_, fun i v hi hP => ?_⟩
    · have W := Walks.tuple (prog := c.prog) (w := c.w) hA s₁.heap.objs.size a (Nat.ne_of_lt hlt) vs.toArray
      have e : vs.toArray.size = ds.length := by rw [List.size_toArray, q.length]
      rw [e] at W
      exact W
    · obtain ⟨⟨o, h1, h2, h3⟩, _⟩ := st
      exact ⟨o, _, _, h1, h2, h3, by decide, by decide⟩
    · rcases List.mem_cons.mp hb with r | r
      · exact (hne r).elim
      · rw [List.mem_singleton.mp r]; exact ⟨ha, _, Heap.get?_push_of_some _ hg⟩
    · obtain ⟨d, e1, e2⟩ := q.get' (i := i) (v := v) (by simpa using hP)
      exact ⟨d, e1, e2.up (Le.push _ _)⟩
theorem IterOf.str {l : List Nat} (h : Ev c e (.str (mk l))) (hA : ∀ x ∈ l, x < 128) : IterOf c e (l.map fun x => .str (mk [x])) := fun A s ok S => wp_of (h A s ok S) fun v s₁ g => by
  have S₁ := S.up g.1
  cases g.2 with
  | str _ t =>
    have ha : (mk l).cps.all (· < 128) = true := by simpa using hA
    refine wpAny_pyIter_ascii ha ⟨s₁.heap.objs.size, [s₁.heap.objs.size], SignAt (mk l), fun i h => h.IsStrIter s₁.heap.objs.size "str_ascii_iterator" (mk l) t i, rfl, keeps_trans g.1 (keeps_push _ _ _), fun A' hA' => ?_, ⟨_, Heap.get?_push_size _ rfl, rfl, rfl⟩, fun i h st => ?_,
      S₁.new (Nat.le_refl _), size_le S₁.base (Nat.le_refl _), size_le (keeps_le g.1) (Nat.le_refl _), fun b hb hne => (hne (List.mem_singleton.mp hb)).elim, fun i v hi hP => ?_⟩
    · have W := Walks.strAscii (prog := c.prog) (w := c.w) hA' s₁.heap.objs.size (mk l) t
      rw [List.length_map]
      simpa using W
    · obtain ⟨o, h1, h2, h3⟩ := st
      exact ⟨o, _, _, h1, h2, h3, by decide, by decide⟩
    · obtain ⟨x, u, hx, rfl⟩ := hP
      refine ⟨.str (mk [x]), ?_, .str _ _⟩
      have hx' : l[i]? = some x := by simpa using hx
      simp [hx']
/-- the ints of a range -/
def rangeL (a : Int) (n : Nat) (st : Int) : List Int := (List.range n).map fun (i : Nat) => a + (i : Int) * st
theorem rangeL_length (a : Int) (n : Nat) (st : Int) : (rangeL a n st).length = n := by simp [rangeL]
theorem rangeL_get {a : Int} {n : Nat} {st : Int} {i : Nat} (h : i < n) : (rangeL a n st)[i]? = some (a + (i : Int) * st) := by simp [rangeL, h]
theorem iter_range {r : Addr} {a b st : Int} {t u w : Tok} {n : Nat} (S : c.S s₁.heap) (hk : Keeps s s₁) (hr : IsRange s₁.heap r a b st t u w) (hsm : Builtin.Range.small a b st = true) (hn : Builtin.Range.rangeSize a b st = (n : Int)) :
    wpAny c.M A (pyIter (.ref r)) (fun it s₂ => ∃ I fp P Sx, it = .ref I ∧ ItOk c.U c s ((rangeL a n st).map .int) I fp P Sx s₂) No s₁ := by
  refine wpAny_pyIter_range hr hsm ⟨s₁.heap.objs.size, [s₁.heap.objs.size], fun i v => ∃ t, v = .int (a + i * st) t, fun i h => IsRangeIter h s₁.heap.objs.size (a + (i : Nat) * st) ((n : Int) - (i : Nat)) st, rfl, keeps_trans hk (keeps_push _ _ _), fun A' hA' => ?_, ?_, fun i h hs => ?_,
    S.new (Nat.le_refl _), size_le S.base (Nat.le_refl _), size_le (keeps_le hk) (Nat.le_refl _), fun b hb hne => (hne (List.mem_singleton.mp hb)).elim, fun i v hi hP => ?_⟩
  · rw [List.length_map, rangeL_length]
    exact Walks.range hA' _ a st n
  · show IsRangeIter _ _ (a + ((0 : Nat) : Int) * st) ((n : Int) - ((0 : Nat) : Int)) st
    have e1 : a + ((0 : Nat) : Int) * st = a := by simp
    have e2 : ((n : Int) - ((0 : Nat) : Int)) = Builtin.Range.rangeSize a b st := by rw [hn]; simp
    rw [e1, e2]
    exact Heap.get?_push_size _ rfl
  · exact ⟨_, _, _, hs, rfl, rfl, by decide, by decide⟩
  · obtain ⟨t', rfl⟩ := hP
    rw [List.length_map, rangeL_length] at hi
    exact ⟨.int (a + (i : Int) * st), by rw [List.getElem?_map, rangeL_get hi]; rfl, .int _ _⟩

/-- a for loop over data -/
theorem Ex.forElse {σ : Type} {t : Expr} {body orelse : List Stmt} {p : Pos} (ρ : σ → Rho) (ρb : σ → PyData → Rho) (μ : σ → List (Addr × List PyData)) (Inv : Nat → σ → Prop) (Out : σ → Prop) (x₀ : σ) (hit : IterOf c e ds)
    (h0 : ∀ g, c.S g → (c.at (ρ x₀) (μ x₀)).S g) (hi : Inv 0 x₀) (ha : ∀ i x d, ds[i]? = some d → Inv i x → Asg (c.at (ρ x) (μ x)) t d (ρb x d))
    (hb : ∀ i x d, ds[i]? = some d → Inv i x → Ex (c.at (ρb x d) (μ x)) body (fun f g => match f with
      | .next | .cont => ∃ y, Inv (i + 1) y ∧ (c.at (ρ y) (μ y)).S g
      | .brk => ∃ y, Out y ∧ (c.at (ρ y) (μ y)).S g
      | .ret v => Q (.ret v) g))
    (he : ∀ x, Inv ds.length x → Ex (c.at (ρ x) (μ x)) orelse (fun f g => match f with
      | .next => ∃ y, Out y ∧ (c.at (ρ y) (μ y)).S g
      | .ret v => Q (.ret v) g
      | _ => False))
    (hr : ∀ y, Out y → Ex (c.at (ρ y) (μ y)) rest Q) (hs : ∀ x, foldedSetIterable e c.env x = pure x := by intro _; rfl) : Ex c (.For t e body orelse p :: rest) Q := fun A s ok S => by
  have hF : ∀ a ∈ c.F, a ∈ c.U := fun a ha => (S.frs a ha).1
  refine wpAny_execs_cons (wpAny_For (wp_of (hit A s ok S) fun xv s₁ g₁ => wp_of g₁ fun it s₂ g₂ => ?_) hs)
  obtain ⟨I, fp, P, Sx, rfl, K⟩ := g₂
  have W := K.walks A ok.handled
  have offW : ∀ {b : Addr}, b ∉ c.U → b ∉ c.W := fun hb m => hb (S.subW _ m)
  have hIf : ∀ b ∈ fp, ∀ {sa sb : Shared}, StepX c.W c.F sa sb → ∀ o, sa.heap.get? b = some o → sb.heap.get? b = some o := fun b hb sa sb st o e => st.at (by
    by_cases q : b = I
    · rw [q]; exact offW K.off
    · exact offW (K.feet b hb q).1) (fun m => by
    by_cases q : b = I
    · exact K.off (q ▸ hF b m)
    · exact (K.feet b hb q).1 (hF b m)) e
  refine codeAny_forLoop_any (fun n s' => ∃ i x, i ≤ ds.length ∧ n = ds.length + 1 - i ∧ Inv i x ∧ (c.at (ρ x) (μ x)).S s'.heap ∧ Sx i s'.heap ∧ (∃ h' tk, s' = { s₂ with heap := h', toks := tk }) ∧ ∀ b o, b ∉ c.W → b ≠ I → s₂.heap.get? b = some o → ∃ o', s'.heap.get? b = some o' ∧ (o' = o ∨ (b ∈ c.F ∧ SameS o o')))
    (fun n s' hI => ?_) (ds.length + 1) ⟨0, x₀, Nat.zero_le _, rfl, hi, h0 _ (S.up K.keeps), K.start, ⟨_, _, rfl⟩, fun b o _ _ e => ⟨o, e, .inl rfl⟩⟩
  obtain ⟨i, x, hil, rfl, hx, Sx', hst, hsame, hk⟩ := hI
  obtain ⟨o, nm, fv, ho, hc, hd, hown, hrg⟩ := K.shape i _ hst
  have fin : ∀ s'' : Shared, (∃ h' tk, s'' = { s₂ with heap := h', toks := tk }) → (∀ b o, b ∉ c.W → b ≠ I → s₂.heap.get? b = some o → ∃ o', s''.heap.get? b = some o' ∧ (o' = o ∨ (b ∈ c.F ∧ SameS o o'))) → StepX c.W c.F s s'' := fun s'' hs'' hk'' => by
    obtain ⟨h₂, t₂, rfl, k₂⟩ := K.keeps
    obtain ⟨h', tk, rfl⟩ := hs''
    exact ⟨h', tk, rfl, fun b o hb e => hk'' b o hb (fun q => by rw [q, K.new] at e; cases e) (k₂ b o e)⟩
  by_cases hlt : i < ds.length
  · refine W.item i s' _ _ hlt hst fun v h₁ tk₁ hP hst₁ hk₁ => ?_
    have S₁ : (c.at (ρ x) (μ x)).S h₁ := St.off Sx' ho (.fields hd) (by rw [hc]; intro q; exact (hrg (by injection q)).elim) K.off K.offH fun b o' hb e => hk₁ b o' (fun q => hb (List.mem_singleton.mp q)) e
    obtain ⟨d, hd', hv⟩ := K.item i v hlt hP
    obtain ⟨oI, nI, fI, hoI, hcI, hdI, hownI, _⟩ := K.shape (i + 1) _ hst₁
    refine owned_go (c := c) hoI hcI hdI hownI ?_
    have hv₁ : Rd c.U h₁ v d := by
      obtain ⟨o0, n0, f0, ho0, hc0, hd0, _, _⟩ := K.shape 0 _ K.start
      refine Rd.frame (U := I :: c.U) (h := s₂.heap) (fun b o' hb e => ⟨fun m => hb (.tail _ m), ?_⟩) (Rd.offI ho0 (.fields hd0) hv)
      have hbI : b ≠ I := fun q => hb (q ▸ .head _)
      obtain ⟨o₁, e₁, c₁⟩ := hk b o' (offW fun m => hb (.tail _ m)) hbI e
      have e₁' : s'.heap.get? b = some o' := by
        rcases c₁ with rfl | ⟨m, _⟩
        · exact e₁
        · exact (hb (.tail _ (hF b m))).elim
      exact hk₁ b o' (fun q => hbI (List.mem_singleton.mp q)) e₁'
    refine wp_of (ha i x d hd' hx A { s' with heap := h₁, toks := tk₁ } v ok S₁ hv₁) fun _ s₃ g₃ => ?_
    refine wp_of (hb i x d hd' hx A s₃ ok g₃.2) fun f s₄ g₄ => ?_
    have st' : StepX c.W c.F { s' with heap := h₁, toks := tk₁ } s₄ := g₃.1.tx g₄.1
    have hsame' : ∃ h' tk, s₄ = { s₂ with heap := h', toks := tk } := by
      obtain ⟨h', tk, rfl⟩ := hsame
      obtain ⟨h'', tk', rfl, _⟩ := st'
      exact ⟨h'', tk', rfl⟩
    have stX : StepX (I :: c.W) c.F s' { s' with heap := h₁, toks := tk₁ } := ⟨h₁, tk₁, rfl, fun b o hb e => ⟨o, hk₁ b o (fun q => hb (List.mem_singleton.mp q ▸ .head _)) e, .inl rfl⟩⟩
    have stY : StepX (I :: c.W) c.F s' s₄ := stX.trans (st'.less fun a ha => .inl (.tail _ ha))
    have hk' : ∀ b o, b ∉ c.W → b ≠ I → s₂.heap.get? b = some o → ∃ o', s₄.heap.get? b = some o' ∧ (o' = o ∨ (b ∈ c.F ∧ SameS o o')) := fun b o hb hbI e => by
      obtain ⟨o₁, e₁, c₁⟩ := hk b o hb hbI e
      obtain ⟨h', t', rfl, k'⟩ := stY
      obtain ⟨o₂, e₂, c₂⟩ := k' b o₁ (fun m => by rcases List.mem_cons.mp m with q | q; exact hbI q; exact hb q) e₁
      refine ⟨o₂, e₂, ?_⟩
      rcases c₁ with rfl | ⟨m, q⟩
      · exact c₂
      · rcases c₂ with rfl | ⟨_, q'⟩
        · exact .inr ⟨m, q⟩
        · exact .inr ⟨m, q.trans q'⟩
    have next : (∃ y, Inv (i + 1) y ∧ (c.at (ρ y) (μ y)).S s₄.heap) → ∃ m, m < ds.length + 1 - i ∧ ∃ i' x', i' ≤ ds.length ∧ m = ds.length + 1 - i' ∧ Inv i' x' ∧ (c.at (ρ x') (μ x')).S s₄.heap ∧ Sx i' s₄.heap ∧ (∃ h' tk, s₄ = { s₂ with heap := h', toks := tk }) ∧ ∀ b o, b ∉ c.W → b ≠ I → s₂.heap.get? b = some o → ∃ o', s₄.heap.get? b = some o' ∧ (o' = o ∨ (b ∈ c.F ∧ SameS o o')) := fun ⟨y, hy, Sy⟩ =>
      ⟨ds.length + 1 - (i + 1), by omega, i + 1, y, hlt, rfl, hy, Sy, W.frame _ _ _ hst₁ fun b hb o e => hIf b hb st' o e, hsame', hk'⟩
    cases f with
    | next => exact next g₄.2
    | cont => exact next g₄.2
    | brk => obtain ⟨y, hy, Sy⟩ := g₄.2; exact wp_of (hr y hy A s₄ ok Sy) fun f s₅ g₅ => ⟨(fin s₄ hsame' hk').trans g₅.1, g₅.2⟩
    | ret w => exact ⟨fin s₄ hsame' hk', g₄.2⟩
  · obtain rfl : i = ds.length := by omega
    refine W.done s' _ _ hst fun h₁ tk₁ hk₁ => ?_
    have S₁ : (c.at (ρ x) (μ x)).S h₁ := St.off Sx' ho (.fields hd) (by rw [hc]; intro q; exact (hrg (by injection q)).elim) K.off K.offH fun b o' hb e => hk₁ b o' (fun q => hb (List.mem_singleton.mp q)) e
    have st₁ : StepX c.W c.F s { s' with heap := h₁, toks := tk₁ } := fin { s' with heap := h₁, toks := tk₁ } (by obtain ⟨h', tk, rfl⟩ := hsame; exact ⟨h₁, tk₁, rfl⟩) fun b o hb hbI e => let ⟨o₁, e₁, c₁⟩ := hk b o hb hbI e; ⟨o₁, hk₁ b o₁ (fun q => hbI (List.mem_singleton.mp q)) e₁, c₁⟩
    refine wp_of (he x hx A { s' with heap := h₁, toks := tk₁ } ok S₁) fun f s₃ g₃ => ?_
    cases f with
    | next => obtain ⟨y, hy, Sy⟩ := g₃.2; exact wp_of (hr y hy A s₃ ok Sy) fun f s₅ g₅ => ⟨st₁.trans (g₃.1.trans g₅.1), g₅.2⟩
    | cont => exact g₃.2.elim
    | brk => exact g₃.2.elim
    | ret w => exact ⟨st₁.trans g₃.1, g₃.2⟩
theorem Ex.for {σ : Type} {t : Expr} {body : List Stmt} {p : Pos} (ρ : σ → Rho) (ρb : σ → PyData → Rho) (μ : σ → List (Addr × List PyData)) (Inv : Nat → σ → Prop) (x₀ : σ) (hit : IterOf c e ds)
    (h0 : ∀ g, c.S g → (c.at (ρ x₀) (μ x₀)).S g) (hi : Inv 0 x₀) (ha : ∀ i x d, ds[i]? = some d → Inv i x → Asg (c.at (ρ x) (μ x)) t d (ρb x d))
    (hb : ∀ i x d, ds[i]? = some d → Inv i x → Ex (c.at (ρb x d) (μ x)) body (fun f g => match f with
      | .next | .cont => ∃ y, Inv (i + 1) y ∧ (c.at (ρ y) (μ y)).S g
      | .brk => False
      | .ret v => Q (.ret v) g))
    (hr : ∀ x, Inv ds.length x → Ex (c.at (ρ x) (μ x)) rest Q) (hs : ∀ x, foldedSetIterable e c.env x = pure x := by intro _; rfl) : Ex c (.For t e body [] p :: rest) Q :=
  Ex.forElse ρ ρb μ Inv (fun x => Inv ds.length x) x₀ hit h0 hi ha (fun i x d hd hx A s ok S => wp_of (hb i x d hd hx A s ok S) fun f s' g => ⟨g.1, by cases f <;> first | exact g.2 | exact g.2.elim⟩) (fun x hx => Ex.nil fun g S => ⟨x, hx, S⟩) hr hs
end

end Mine
end
noncomputable section
open PySem PySem.Calls PySem.W PyProof.Rows
set_option Elab.async false
set_option maxRecDepth 100000
set_option linter.unusedVariables false
namespace Mine

section
variable {c : Cx} {A : Around} {s s₁ s₂ : Shared} {v : Value} {d : PyData} {e e₁ e₂ : Expr} {d₁ d₂ : PyData} {pos : Pos} {ds es : List PyData} {Q : Flow → Heap → Prop} {rest : List Stmt}

theorem append_of {prog : Program} {w : World} {D : Addr} {ys : List Value} {n : Nat} {x : Value} {Q : Value → Shared → Prop} {E : Value → Shared → Prop} (hg : s.heap.get? D = some (lo ys n)) (hz : ys.length ≤ 1000000)
    (hQ : ∀ h', h'.get? D = some (lo (ys ++ [x]) (n + 1)) → Heap.SameBut D s.heap h' → Q .none { s with heap := h' }) : wpAny (model prog w) A (call (.builtin "list.append") [.ref D, x]) Q E s := by
  have hl : s.heap.IsList D ys.toArray := ⟨_, hg, rfl, n, rfl⟩
  refine wpAny_call_entry slot_list_append hl.typeIs entry_list_append ?_ (args_list_append _ _)
  show wpAny _ _ (updateSeq D (·.push x) >>= fun _ => ret .none) _ _ s
  refine wpAny_bind (wpAny_updateSeq hg rfl (wpAny_pure ⟨.none, rfl, hQ _ ?_ (Heap.SameBut.update ..)⟩) (by simp only [List.size_toArray]; exact sz8 hz))
  have e : Obj.mapSeq (·.push x) (lo ys n) = lo (ys ++ [x]) (n + 1) := by
    simp [Obj.mapSeq, lo]
  rw [← e]
  exact Heap.get?_update_self _ hg (by rw [e]; rfl)

def TrIfs (c : Cx) (ifs : List Expr) (b : Bool) : Prop := ∀ (A : Around) (s : Shared), Ok c.k c.fr A → c.S s.heap →
  wpAny c.M A (forIn ifs true fun t r => if r = true then do let ok ← isTrue t c.env (eval t c.env); pure (ForInStep.yield ok) else pure (ForInStep.yield r)) (fun r s' => Keeps s s' ∧ r = b) No s
theorem TrIfs.nil : TrIfs c [] true := fun A s ok S => by
  rw [List.forIn_nil]; exact wpAny_pure ⟨keeps_refl s, rfl⟩
theorem TrIfs.one {t : Expr} {b : Bool} (h : Tr c t b) : TrIfs c [t] b := fun A s ok S => by
  rw [List.forIn_cons]
  simp only [if_true]
  refine wpAny_bind (wpAny_bind (wp_of (h A s ok S) fun r s₁ g₁ => wpAny_pure ?_))
  show wpAny _ _ (forIn [] r _) _ _ _
  rw [List.forIn_nil]
  exact wpAny_pure g₁

/-- the frame of a comprehension -/
abbrev Cx.comp (c : Cx) (scope : Scope) (cl : List (Str × Addr)) (C D : Addr) (ρ : Rho) (es : List PyData) : Cx := { c with U := C :: D :: c.U, W := [C, D], env := compEnvC scope cl C c.env, ρ := ρ, μ := [(D, es)] }

/-- what a comprehension sees of the frame -/
structure Sees (c : Cx) (scope : Scope) (cl : List (Str × Addr)) (ρ₀ : Rho) : Prop where
  clos : closureFor scope c.env = pure cl
  sub : ∀ p ∈ cl, p ∈ c.env.cells
  apart : cl.Pairwise fun x y => x.2 ≠ y.2
  kind : scope.kind = .function
  nocell : ∀ y ∈ scope.names, y.2 ≠ .cell
  names : ∀ x ∈ scope.names, x.2 = .local → scope.names.lookup x.1 = some .local
  vars : ∀ y b, ρ₀.lookup y = some b → c.ρ.lookup y = some b ∧ ((relabel scope c.env).names.lookup y = some .cell ∨ (relabel scope c.env).names.lookup y = some .free) ∧ (c.env.kindOf y = some .local → False) ∧ cl.lookup y = c.env.cells.lookup y

theorem Sees.zero {scope : Scope} (h1 : closureFor scope c.env = pure []) (h2 : scope.kind = .function) (h3 : ∀ y ∈ scope.names, y.2 ≠ .cell) (h4 : ∀ x ∈ scope.names, x.2 = .local → scope.names.lookup x.1 = some .local) : Sees c scope [] [] :=
  ⟨h1, fun _ h => (nomatch h), .nil, h2, h3, h4, fun _ _ h => (nomatch h)⟩
theorem Sees.one {scope : Scope} {x : Str} {b : Bd} {a : Addr} (h1 : closureFor scope c.env = pure [(x, a)]) (h2 : scope.kind = .function) (h3 : ∀ y ∈ scope.names, y.2 ≠ .cell) (h4 : ∀ x ∈ scope.names, x.2 = .local → scope.names.lookup x.1 = some .local)
    (h5 : c.ρ.lookup x = some b) (h6 : (relabel scope c.env).names.lookup x = some .cell) (h7 : c.env.kindOf x = some .cell) (h8 : c.env.cells.lookup x = some a) : Sees c scope [(x, a)] [(x, b)] :=
  ⟨h1, fun p hp => by rw [List.mem_singleton.mp hp]; exact mem_of_lookup h8, List.pairwise_singleton _ _, h2, h3, h4, fun y b' e => by
    rw [List.lookup_cons] at e
    cases q : y == x with
    | false => rw [q] at e; cases e
    | true =>
      rw [q] at e; cases e
      rw [eq_of_beq q]
      exact ⟨h5, .inl h6, fun r => (by rw [h7] at r; cases r), by rw [h8]; simp⟩⟩
theorem Sees.two {scope : Scope} {x y : Str} {b b' : Bd} {a a' : Addr} (h1 : closureFor scope c.env = pure [(x, a), (y, a')]) (h2 : scope.kind = .function) (h3 : ∀ y ∈ scope.names, y.2 ≠ .cell) (h4 : ∀ x ∈ scope.names, x.2 = .local → scope.names.lookup x.1 = some .local)
    (h5 : c.ρ.lookup x = some b) (h6 : (relabel scope c.env).names.lookup x = some .cell) (h7 : c.env.kindOf x = some .cell) (h8 : c.env.cells.lookup x = some a)
    (k5 : c.ρ.lookup y = some b') (k6 : (relabel scope c.env).names.lookup y = some .cell) (k7 : c.env.kindOf y = some .cell) (k8 : c.env.cells.lookup y = some a') (hne : a ≠ a') : Sees c scope [(x, a), (y, a')] [(x, b), (y, b')] :=
  ⟨h1, fun p hp => by
    rcases List.mem_cons.mp hp with q | q
    · rw [q]; exact mem_of_lookup h8
    · rw [List.mem_singleton.mp q]; exact mem_of_lookup k8, List.pairwise_cons.mpr ⟨fun p hp => by rw [List.mem_singleton.mp hp]; exact hne, List.pairwise_singleton _ _⟩, h2, h3, h4, fun z b'' e => by
    rw [List.lookup_cons] at e
    rw [List.lookup_cons]
    cases q : z == x with
    | true =>
      rw [q] at e; cases e
      rw [eq_of_beq q]
      exact ⟨h5, .inl h6, fun r => (by rw [h7] at r; cases r), by rw [h8]⟩
    | false =>
      rw [q] at e
      rw [List.lookup_cons] at e ⊢
      cases q' : z == y with
      | false => rw [q'] at e; cases e
      | true =>
        rw [q'] at e; cases e
        rw [eq_of_beq q']
        exact ⟨k5, .inl k6, fun r => (by rw [k7] at r; cases r), by rw [k8]⟩⟩

theorem Sees.st {scope : Scope} {cl : List (Str × Addr)} {ρ₀ : Rho} (V : Sees c scope cl ρ₀) {h₀ h : Heap} (S : c.S h₀) (hk : Le h₀ h) {C D : Addr} {m : Str → Option Value} {n : Nat} (hC : h.Ns C m) (hC0 : h₀.get? C = none) (hD0 : h₀.get? D = none) (hCD : C ≠ D) (hD : h.get? D = some (lo [] n)) :
    (c.comp scope cl C D ρ₀ []).S h := by
  have hCU : C ∉ c.U := fun m' => by obtain ⟨o, e⟩ := (S.offs C m').1; rw [hC0] at e; cases e
  have hDU : D ∉ c.U := fun m' => by obtain ⟨o, e⟩ := (S.offs D m').1; rw [hD0] at e; cases e
  have hHC : c.H.get? C = none := by
    cases q : c.H.get? C with
    | none => rfl
    | some o => have := S.base _ _ q; rw [hC0] at this; cases this
  have hHD : c.H.get? D = none := by
    cases q : c.H.get? D with
    | none => rfl
    | some o => have := S.base _ _ q; rw [hD0] at this; cases this
  have fr : ∀ b o, b ∉ c.U → h₀.get? b = some o → b ∉ C :: D :: c.U ∧ h.get? b = some o := fun b o hb e => ⟨fun m' => by
    rcases List.mem_cons.mp m' with q | m'
    · rw [q, hC0] at e; cases e
    · rcases List.mem_cons.mp m' with q | m'
      · rw [q, hD0] at e; cases e
      · exact hb m', hk _ _ e⟩
  exact {
    base := S.base.trans hk
    offs := fun a ha => by
      rcases List.mem_cons.mp ha with q | ha
      · obtain ⟨o, _, _, ho, _⟩ := hC; rw [q]; exact ⟨⟨o, ho⟩, hHC⟩
      · rcases List.mem_cons.mp ha with q | ha
        · rw [q]; exact ⟨⟨_, hD⟩, hHD⟩
        · exact ⟨let ⟨o, e⟩ := (S.offs a ha).1; ⟨o, hk _ _ e⟩, (S.offs a ha).2⟩
    kind := V.kind
    globals := S.globals
    builtins := S.builtins
    subW := fun a ha => by
      rcases List.mem_cons.mp ha with q | q
      · exact q ▸ .head _
      · exact .tail _ (List.mem_singleton.mp q ▸ .head _)
    locW := .head _
    ns := ⟨m, hC⟩
    cells := fun y a hm => by
      obtain ⟨i, e, w, j⟩ := S.cells y a (V.sub _ hm)
      exact ⟨.tail _ (.tail _ i), fun q => hCU ((show a = C from q) ▸ i), w, j.keeps hk⟩
    apart := V.apart
    vars := fun y b e => by
      obtain ⟨h1, h2, h3, h4⟩ := V.vars y b e
      obtain ⟨v, q, r⟩ := S.vars y b h1
      refine ⟨v, ?_, Bd.ok_frame fr r⟩
      rcases q with ⟨q, _⟩ | ⟨q, a, l, i⟩
      · exact (h3 q).elim
      · exact .inr ⟨h2, a, h4.trans l, i.keeps hk⟩
    mutsW := fun a ds hm => by
      rw [List.mem_singleton] at hm; cases hm
      exact ⟨.tail _ (.head _), [], n, hD, .nil⟩
    mapart := by simp
    frs := fun a ha => ⟨.tail _ (.tail _ (S.frs a ha).1), (S.frs a ha).2.at fun o e => hk _ _ e⟩ }

/-- the turns of a comprehension of one clause, any target -/
theorem comp_turns {prog : Program} {w : World} {R : Result → Shared → Prop} {elt target iter : Expr} {ifs : List Expr} {scope : Scope} {it acc : Value} {env : Env} (I : Nat → Shared → Prop)
    (turn : ∀ n s, I n s → wpAny (model prog w) A (pyNext it) (fun r s₁ => match r with
      | none => R (.ok .next) s₁
      | some v => wpAny (model prog w) A (letOwnedTupleGo target it v) (fun _ s₁' => wpAny (model prog w) A (assign target env v) (fun _ s₂ =>
          wpAny (model prog w) A (forIn ifs true fun c r => if r = true then do let ok ← isTrue c env (eval c env); pure (ForInStep.yield ok) else pure (ForInStep.yield r)) (fun ok s₃ =>
            if ok = true then wpAny (model prog w) A (eval elt env) (fun x s₄ => wpAny (model prog w) A (call (.builtin "list.append") [acc, x]) (fun _ s₅ => ∃ m, m < n ∧ I m s₅) No s₄) No s₃
            else ∃ m, m < n ∧ I m s₃) No s₂) No s₁') No s₁) No s)
    (n : Nat) (h : I n s) : codeAny (model prog w) A (.compLoop (.ListComp elt [⟨target, iter, ifs, 0⟩] scope pos) 0 it acc env) R s := by
  refine codeAny_loop rfl I (fun n s hI => ?_) n h
  show wpAny _ A ((compTurn (.ListComp elt [⟨target, iter, ifs, 0⟩] scope pos) 0 it acc env).onRaise (fun x => do noteFrame x env; theTreesLotGoes x)) _ _ s
  refine wpAny_noted ?_
  rw [compTurn_list]
  refine wpAny_bind (wpAny_standAt (wpAny_bind (wp_of (turn n s hI) fun r s₁ h₁ => ?_)))
  cases r with
  | none => exact wpAny_pure h₁
  | some v =>
    refine wpAny_bind (wp_of h₁ fun _ s₁' h₁' => ?_)
    refine wpAny_bind (wp_of h₁' fun _ s₂ h₂ => wpAny_bind (wp_of h₂ fun ok s₃ h₃ => ?_))
    cases ok with
    | false => exact wpAny_pure ⟨rfl, h₃⟩
    | true =>
      refine wpAny_bind (wpAny_bind (wp_of h₃ fun x s₄ h₄ => ?_))
      exact wpAny_bind (wp_of h₄ fun _ s₅ h₅ => wpAny_pure (wpAny_pure ⟨rfl, h₅⟩))

/-- a target that stores into the frame's own dict alone -/
def AsgL (c : Cx) (t : Expr) (d : PyData) (ρ' : Rho) : Prop :=
  ∀ (A : Around) (s : Shared) (v : Value), Ok c.k c.fr A → c.S s.heap → Rd c.U s.heap v d → wpAny c.M A (assign t c.env v) (fun _ s' => StepU [c.env.locals] s s' ∧ (c.at ρ' c.μ).S s'.heap) No s
theorem AsgL.asg {t : Expr} {ρ' : Rho} (h : AsgL c t d ρ') : Asg c t d ρ' := fun A s v ok S r => wp_of (h A s v ok S r) fun _ s' g => ⟨g.1.less fun a ha => .inl (by rw [List.mem_singleton.mp ha]; exact S.locW), g.2⟩
theorem storeL_of {x : Str} {b : Bd} (S : c.S s.heap) (hx : c.env.kindOf x = some .local) (hb : b.ok c.U s.heap v) : wpAny c.M A (storeName c.env x v) (fun _ s' => StepU [c.env.locals] s s' ∧ (c.set x b).S s'.heap) No s := by
  obtain ⟨m, n⟩ := S.ns
  exact wpAny_storeName_local hx n (fun h' hn hs => ⟨⟨h', _, rfl, fun b' o hb' e => hs.extBut b' o (fun q => hb' (q ▸ .head _)) e⟩, St.setLocal S hx n hn rfl hs hb⟩) (by rw [S.kind]; rfl)
theorem AsgL.name {x : Str} {p : Pos} (hx : c.env.kindOf x = some .local) : AsgL c (.Name x p) d ((x, .dat d) :: c.ρ) := fun A s v ok S r => by
  rw [assign_Name']
  exact wpAny_bind (wpAny_standAt (wpAny_bindName (storeL_of (b := .dat d) S hx r)))

/-- the run of a comprehension of one clause -/
theorem comp_run {α : Type} {as : List α} (g : α → PyData) {t elt iter : Expr} {ifs : List Expr} {scope : Scope} {cl : List (Str × Addr)} {ρ₀ : Rho} {use : Option (Value → Sem Unit)} {Qv : Value → Shared → Prop} (ρt : α → Rho) (p : α → Bool) (f : α → PyData)
    (V : Sees c scope cl ρ₀) (hit : IterC c iter (as.map g)) (hz : as.length ≤ 1000000)
    (hasg : ∀ x ∈ as, ∀ C D es, AsgL (c.comp scope cl C D ρ₀ es) t (g x) (ρt x)) (hback : ∀ x ∈ as, ∀ y b, ρ₀.lookup y = some b → (ρt x).lookup y = some b)
    (htest : ∀ x ∈ as, ∀ C D es, TrIfs (c.comp scope cl C D (ρt x) es) ifs (p x)) (helt : ∀ x ∈ as, p x = true → ∀ C D es, Ev (c.comp scope cl C D (ρt x) es) elt (f x))
    (ok : Ok c.k c.fr A) (S : c.S s.heap)
    (hQ : ∀ D C (s' : Shared), Keeps s s' → s.heap.get? C = none → (∃ m, s'.heap.Ns C m) → C ≠ D → s.heap.get? D = none → Rd c.U s'.heap (.ref D) (.list ((as.filter p).map f)) → Rd (C :: c.U) s'.heap (.ref D) (.list ((as.filter p).map f)) → compPost c.M A No use Qv (.ref D) C (.ok .next) s')
    (hs : ∀ x, foldedSetIterable iter c.env x = pure x := by intro _; rfl) :
    wpAny c.M A (comprehension (.ListComp elt [⟨t, iter, ifs, 0⟩] scope pos) scope c.env (firstIterPos [⟨t, iter, ifs, 0⟩] pos) (newList []) false (firstIter [⟨t, iter, ifs, 0⟩] c.env) use) Qv No s := by
  refine wpAny_comprehension_free (g := ⟨t, iter, ifs, 0⟩) (gs := []) rfl hs V.clos V.kind V.names ?_
  show wpAny c.M A (eval iter c.env) _ _ s
  refine wp_of (hit A s ok S) fun xv s₁ g₁ => wp_of g₁ fun it s₂ g₂ => ?_
  obtain ⟨I, fp, P, Sx, rfl, K⟩ := g₂
  have S₂ := S.up K.keeps
  refine wpAny_newObj_type (wpAny_newFunctionEnv V.nocell (by intro y hy; cases hy) (fun h₁ hns₁ hsb₁ => ?_) V.kind)
  dsimp only at hns₁ hsb₁ ⊢
  generalize hD : s₂.heap.objs.size = D at *
  have hDl : (s₂.heap.push { cls := .type "list", dict := none, data := .seq ([] : List Value).toArray }).objs.size = D + 1 := by rw [Heap.size_push, hD]
  rw [hDl] at hns₁ hsb₁ ⊢
  have hDn : s₂.heap.get? D = none := none_of_le (by lia)
  have hCn : s₂.heap.get? (D + 1) = none := none_of_le (by lia)
  have old : Le s₂.heap h₁ := fun b o e => hsb₁.extBut b o (fun q => by rw [q, hCn] at e; cases e) (Heap.get?_push_of_some _ (Heap.get?_push_of_some _ e))
  have hDo : h₁.get? D = some (lo [] 0) := hsb₁.extBut _ _ (Nat.ne_of_lt (Nat.lt_succ_self D)) (Heap.get?_push_of_some _ (hD ▸ Heap.get?_push_size _ rfl))
  have S₄ : (c.comp scope cl (D + 1) D ρ₀ []).S h₁ := V.st S₂ old hns₁ hCn hDn (Nat.succ_ne_self D) hDo
  have W := K.walks A ok.handled
  rw [List.length_map] at W
  have hst₁ : Sx 0 h₁ := W.frame _ _ _ K.start fun b _ o e => old b o e
  have hDs : s.heap.get? D = none := size_le (keeps_le K.keeps) (Nat.le_of_eq hD)
  have hCs : s.heap.get? (D + 1) = none := size_le (keeps_le K.keeps) (Nat.le_succ_of_le (Nat.le_of_eq hD))
  have offI : I ∉ (D + 1) :: D :: c.U := fun m => by
    obtain ⟨o, _, _, ho, _⟩ := K.shape 0 _ K.start
    rcases List.mem_cons.mp m with q | m
    · rw [q, hCn] at ho; cases ho
    · rcases List.mem_cons.mp m with q | m
      · rw [q, hDn] at ho; cases ho
      · exact K.off m
  have offF : ∀ b ∈ fp, b ∉ [D + 1, D] := fun b hb m => by
    have ho : ∃ o, s₂.heap.get? b = some o := by
      by_cases q : b = I
      · obtain ⟨o, _, _, ho, _⟩ := K.shape 0 _ K.start
        exact ⟨o, q ▸ ho⟩
      · exact (K.feet b hb q).2
    obtain ⟨o, ho⟩ := ho
    rcases List.mem_cons.mp m with r | m
    · rw [r, hCn] at ho; cases ho
    · rw [List.mem_singleton.mp m, hDn] at ho; cases ho
  have loop : ∀ s₃ : Shared, s₃ = { s₂ with heap := h₁, toks := s₂.toks + ([] : List (Str × Value)).length } →
      codeAny c.M A (.compLoop (.ListComp elt [⟨t, iter, ifs, 0⟩] scope pos) 0 (.ref I) (.ref D) (compEnvC scope cl (D + 1) c.env)) (compPost c.M A No use Qv (.ref D) (D + 1)) s₃ := by
    rintro s₃ rfl
    refine comp_turns (fun n s' => ∃ i, i ≤ as.length ∧ n = as.length + 1 - i ∧ (c.comp scope cl (D + 1) D ρ₀ (((as.take i).filter p).map f)).S s'.heap ∧ Sx i s'.heap ∧ (∃ h' tk, s' = { s₂ with heap := h', toks := tk }) ∧ ∀ b o, b ∉ [D + 1, D] → b ≠ I → s₂.heap.get? b = some o → s'.heap.get? b = some o)
      (fun n s' hI => ?_) (as.length + 1) ⟨0, Nat.zero_le _, rfl, S₄, hst₁, ⟨_, _, rfl⟩, fun b o _ _ e => old b o e⟩
    · obtain ⟨i, hil, rfl, Sc, hst, hsame, hk⟩ := hI
      obtain ⟨o, nm, fv, ho, hc, hd, hown, hrg⟩ := K.shape i _ hst
      by_cases hlt : i < as.length
      · refine W.item i s' _ _ hlt hst fun v h₁' tk₁ hP hst₁' hk₁ => ?_
        have S₁ : (c.comp scope cl (D + 1) D ρ₀ (((as.take i).filter p).map f)).S h₁' := St.off Sc ho (.fields hd) (by rw [hc]; intro q; exact (hrg (by injection q)).elim) offI K.offH fun b o' hb e => hk₁ b o' (fun q => hb (List.mem_singleton.mp q)) e
        obtain ⟨d', hd'', hv⟩ := K.item i v (by rw [List.length_map]; exact hlt) hP
        rw [List.getElem?_map] at hd''
        obtain ⟨d, hd', hdd⟩ := Option.map_eq_some_iff.mp hd''
        subst hdd
        have hmem : d ∈ as := List.mem_of_getElem? hd'
        have hv₁ : Rd ((D + 1) :: D :: c.U) h₁' v (g d) := by
          obtain ⟨o0, n0, f0, ho0, hc0, hd0, _, _⟩ := K.shape 0 _ K.start
          refine Rd.frame (U := I :: c.U) (h := s₂.heap) (fun b o' hb e => ?_) (Rd.offI ho0 (.fields hd0) hv)
          have hbI : b ≠ I := fun q => hb (q ▸ .head _)
          have hbU : b ∉ (D + 1) :: D :: c.U := fun m => by
            rcases List.mem_cons.mp m with q | m
            · rw [q, hCn] at e; cases e
            · rcases List.mem_cons.mp m with q | m
              · rw [q, hDn] at e; cases e
              · exact hb (.tail _ m)
          exact ⟨hbU, hk₁ b o' (fun q => hbI (List.mem_singleton.mp q)) (hk b o' (fun m => hbU (by rcases List.mem_cons.mp m with q | m; exact q ▸ .head _; exact .tail _ (List.mem_singleton.mp m ▸ .head _))) hbI e)⟩
        obtain ⟨oI, nI, fI, hoI, hcI, hdI, hownI, _⟩ := K.shape (i + 1) _ hst₁'
        refine owned_go (c := c) hoI hcI hdI hownI ?_
        refine wp_of (hasg d hmem (D + 1) D _ A { s' with heap := h₁', toks := tk₁ } v ok S₁ hv₁) fun _ s₃ g₃ => ?_
        refine wp_of (htest d hmem (D + 1) D _ A s₃ ok g₃.2) fun r s₄ g₄ => ?_
        rw [g₄.2]
        have hS₄ : (c.comp scope cl (D + 1) D (ρt d) (((as.take i).filter p).map f)).S s₄.heap := St.up g₃.2 (keeps_le g₄.1)
        have st₄ : StepU [D + 1, D] { s' with heap := h₁', toks := tk₁ } s₄ := (g₃.1.less fun a ha => .inl (by rw [List.mem_singleton.mp ha]; exact .head _)).trans (.of_keeps g₄.1)
        have take_eq : as.take (i + 1) = as.take i ++ [d] := by rw [List.take_add_one, hd']; rfl
        have next : ∀ s₅ : Shared, StepU [D + 1, D] { s' with heap := h₁', toks := tk₁ } s₅ → (c.comp scope cl (D + 1) D (ρt d) (((as.take (i + 1)).filter p).map f)).S s₅.heap → ∃ m, m < as.length + 1 - i ∧ ∃ i', i' ≤ as.length ∧ m = as.length + 1 - i' ∧
            (c.comp scope cl (D + 1) D ρ₀ (((as.take i').filter p).map f)).S s₅.heap ∧ Sx i' s₅.heap ∧ (∃ h' tk, s₅ = { s₂ with heap := h', toks := tk }) ∧ ∀ b o, b ∉ [D + 1, D] → b ≠ I → s₂.heap.get? b = some o → s₅.heap.get? b = some o := fun s₅ st₅ hS₅ => by
          refine ⟨as.length + 1 - (i + 1), by lia, i + 1, hlt, rfl, St.sub hS₅ (hback d hmem) (fun _ h => h) hS₅.mapart, W.frame _ _ _ hst₁' fun b hb o e => st₅.at (offF b hb) e, ?_, fun b o hb hbI e => st₅.at hb (hk₁ b o (fun q => hbI (List.mem_singleton.mp q)) (hk b o hb hbI e))⟩
          obtain ⟨h', tk, rfl⟩ := hsame
          obtain ⟨h'', tk', rfl, _⟩ := st₅
          exact ⟨h'', tk', rfl⟩
        cases hp : p d with
        | false =>
          simp only [Bool.false_eq_true, if_false]
          refine next s₄ st₄ ?_
          have : (as.take (i + 1)).filter p = (as.take i).filter p := by rw [take_eq, List.filter_append]; simp [hp]
          rw [this]; exact hS₄
        | true =>
          simp only [if_true]
          refine wp_of (helt d hmem hp (D + 1) D _ A s₄ ok hS₄) fun y s₅ g₅ => ?_
          have hS₅ : (c.comp scope cl (D + 1) D (ρt d) (((as.take i).filter p).map f)).S s₅.heap := St.up hS₄ (keeps_le g₅.1)
          obtain ⟨_, ws, k, hgD, hrD⟩ := hS₅.muts D _ (.head _)
          refine append_of hgD ?_ fun h' hg' hs' => ?_
          · have h1 := hrD.length
            rw [List.length_map] at h1
            have h2 := List.length_filter_le p (as.take i)
            have h3 : (as.take i).length ≤ as.length := by rw [List.length_take]; lia
            lia
          · refine next { s₅ with heap := h' } ?_ ?_
            · refine st₄.trans ((StepU.of_keeps g₅.1).trans ⟨h', _, rfl, fun b o hb e => (hs'.2 b fun q => hb (q ▸ .tail _ (.head _))).trans e⟩)
            · have : ((as.take (i + 1)).filter p).map f = ((as.take i).filter p).map f ++ [f d] := by rw [take_eq, List.filter_append]; simp [hp]
              rw [this]
              exact St.setMut hS₅ hs' hg' (hrD.append (.one g₅.2))
      · obtain rfl : i = as.length := by lia
        refine W.done s' _ _ hst fun h₁' tk₁ hk₁ => ?_
        have S₁ : (c.comp scope cl (D + 1) D ρ₀ (((as.take as.length).filter p).map f)).S h₁' := St.off Sc ho (.fields hd) (by rw [hc]; intro q; exact (hrg (by injection q)).elim) offI K.offH fun b o' hb e => hk₁ b o' (fun q => hb (List.mem_singleton.mp q)) e
        rw [List.take_length] at S₁
        obtain ⟨_, ws, k, hgD, hrD⟩ := S₁.muts D _ (.head _)
        have kp : Keeps s { s' with heap := h₁', toks := tk₁ } := by
          obtain ⟨h', tk, rfl⟩ := hsame
          obtain ⟨h₂, t₂, rfl, k₂⟩ := K.keeps
          refine ⟨h₁', tk₁, rfl, fun b o e => ?_⟩
          have hbI : b ≠ I := fun q => by rw [q, K.new] at e; cases e
          have e₂ := k₂ b o e
          exact hk₁ b o (fun q => hbI (List.mem_singleton.mp q)) (hk b o (fun m => by
            rcases List.mem_cons.mp m with q | m
            · rw [q, hCs] at e; cases e
            · rw [List.mem_singleton.mp m, hDs] at e; cases e) hbI e₂)
        have hDU : D ∉ c.U := fun m => by obtain ⟨o, e⟩ := (S.offs D m).1; rw [hDs] at e; cases e
        refine hQ D (D + 1) _ kp hCs S₁.ns (Nat.succ_ne_self D) hDs (.list hDU hgD (hrD.less fun a ha => .tail _ (.tail _ ha))) (.list (fun m => ?_) hgD (hrD.less fun a ha => ?_))
        · rcases List.mem_cons.mp m with q | m
          · exact Nat.succ_ne_self D q.symm
          · exact hDU m
        · rcases List.mem_cons.mp ha with q | m
          · exact q ▸ .head _
          · exact .tail _ (.tail _ m)
  exact codeAny_compStart_list (loop _ rfl) (W.self 0 _ _ _ hst₁ (loop _ rfl))

theorem Ev.compC {α : Type} {as : List α} (g : α → PyData) {t elt iter : Expr} {ifs : List Expr} {scope : Scope} {cl : List (Str × Addr)} {ρ₀ : Rho} (ρt : α → Rho) (p : α → Bool) (f : α → PyData)
    (V : Sees c scope cl ρ₀) (hit : IterC c iter (as.map g)) (hz : as.length ≤ 1000000)
    (hasg : ∀ x ∈ as, ∀ C D es, AsgL (c.comp scope cl C D ρ₀ es) t (g x) (ρt x)) (hback : ∀ x ∈ as, ∀ y b, ρ₀.lookup y = some b → (ρt x).lookup y = some b)
    (htest : ∀ x ∈ as, ∀ C D es, TrIfs (c.comp scope cl C D (ρt x) es) ifs (p x)) (helt : ∀ x ∈ as, p x = true → ∀ C D es, Ev (c.comp scope cl C D (ρt x) es) elt (f x))
    (hs : ∀ x, foldedSetIterable iter c.env x = pure x := by intro _; rfl) : Ev c (.ListComp elt [⟨t, iter, ifs, 0⟩] scope pos) (.list ((as.filter p).map f)) := fun A s ok S => by
  rw [eval_ListComp]
  refine comp_run g ρt p f V hit hz hasg hback htest helt ok S (fun D C s' kp hC hns hCD hD r r' => ?_) hs
  obtain ⟨m, n⟩ := hns
  refine ⟨m, n, fun h' hsb => ?_⟩
  obtain ⟨h₁, t₁, rfl, k₁⟩ := kp
  refine ⟨⟨h', t₁, rfl, fun b o e => hsb.extBut b o (fun q => by rw [q, hC] at e; cases e) (k₁ b o e)⟩, ?_⟩
  exact Rd.frame (U := C :: c.U) (fun b o hb e => ⟨fun m' => hb (.tail _ m'), hsb.extBut b o (fun q => hb (q ▸ .head _)) e⟩) r'

/-- a comprehension that is bound to a name of the frame at once -/
theorem Ex.assignCompC {x : Str} {p' p₁ : Pos} {α : Type} {as : List α} (g : α → PyData) {t elt iter : Expr} {ifs : List Expr} {scope : Scope} {cl : List (Str × Addr)} {ρ₀ : Rho} (ρt : α → Rho) (p : α → Bool) (f : α → PyData)
    (V : Sees c scope cl ρ₀) (hit : IterC c iter (as.map g)) (hz : as.length ≤ 1000000)
    (hasg : ∀ x ∈ as, ∀ C D es, AsgL (c.comp scope cl C D ρ₀ es) t (g x) (ρt x)) (hback : ∀ x ∈ as, ∀ y b, ρ₀.lookup y = some b → (ρt x).lookup y = some b)
    (htest : ∀ x ∈ as, ∀ C D es, TrIfs (c.comp scope cl C D (ρt x) es) ifs (p x)) (helt : ∀ x ∈ as, p x = true → ∀ C D es, Ev (c.comp scope cl C D (ρt x) es) elt (f x))
    (hx : c.env.kindOf x = some .local) (hrest : Ex (c.set x (.dat (.list ((as.filter p).map f)))) rest Q)
    (hsw : swapsWith (.ListComp elt [⟨t, iter, ifs, 0⟩] scope pos) (some (.Name x p')) p₁.line c.env = pure true := by rfl)
    (hs : ∀ x, foldedSetIterable iter c.env x = pure x := by intro _; rfl) : Ex c (.Assign [.Name x p'] (.ListComp elt [⟨t, iter, ifs, 0⟩] scope pos) p₁ :: rest) Q := fun A s ok S => by
  refine wpAny_execs_cons ?_
  rw [exec_Assign_Name_used x p' _ p₁ hsw, arm_evalThenUse_ListComp]
  refine wpAny_bind (wpAny_standAt (wpAny_bind (wpAny_bind ?_)))
  refine comp_run g ρt p f V hit hz hasg hback htest helt ok S (fun D C s' kp hC hns hCD hD r r' => ?_) hs
  have S' := S.up kp
  have hCU : C ∉ c.U := fun m => by obtain ⟨o, e⟩ := (S.offs C m).1; rw [hC] at e; cases e
  have hCH : c.H.get? C = none := by
    cases q : c.H.get? C with
    | none => rfl
    | some o => have := S.base _ _ q; rw [hC] at this; cases this
  show wpAny c.M A (PySem.assign (.Name x p') c.env (.ref D)) _ No s'
  rw [assign_Name']
  refine wpAny_bind (wpAny_standAt (wpAny_bindName (wp_of (storeL_of (b := .dat (.list ((as.filter p).map f))) S' hx r) fun _ s₃ g₃ => ?_)))
  obtain ⟨m, n⟩ := hns
  obtain ⟨oC, hoC, hndC, hrgC⟩ := NotDat.ns n
  have hoC₃ : s₃.heap.get? C = some oC := g₃.1.at (fun q => hCU (by rw [List.mem_singleton.mp q]; exact S.loc)) hoC
  refine ⟨m, ?_, fun h' hsb => ?_⟩
  · obtain ⟨o, es', ep, ho, hd, r'⟩ := n
    exact ⟨o, es', ep, g₃.1.at (fun q => hCU (by rw [List.mem_singleton.mp q]; exact S.loc)) ho, hd, r'⟩
  · have S₄ : (c.set x (.dat (.list ((as.filter p).map f)))).S h' := by
      exact St.off g₃.2 hoC₃ hndC hrgC hCU hCH fun b o hb e => hsb.extBut b o hb e
    refine wpAny_pure (wpAny_pure (wp_of (hrest A { s₃ with heap := h' } ok S₄) fun f s₅ g₅ => ⟨?_, g₅.2⟩))
    refine StepU.tx (s' := { s₃ with heap := h' }) ?_ g₅.1
    obtain ⟨h₁, t₁, rfl, k₁⟩ := kp
    obtain ⟨h₃, t₃, rfl, k₃⟩ := g₃.1
    refine ⟨h', t₃, rfl, fun b o hb e => hsb.extBut b o (fun q => by rw [q, hC] at e; cases e) (k₃ b o (fun q => hb (by rw [List.mem_singleton.mp q]; exact S.locW)) (k₁ b o e))⟩
theorem Ev.comp {α : Type} {as : List α} (g : α → PyData) {t elt iter : Expr} {ifs : List Expr} {scope : Scope} {cl : List (Str × Addr)} {ρ₀ : Rho} (ρt : α → Rho) (p : α → Bool) (f : α → PyData)
    (V : Sees c scope cl ρ₀) (hit : IterOf c iter (as.map g)) (hz : as.length ≤ 1000000)
    (hasg : ∀ x ∈ as, ∀ C D es, AsgL (c.comp scope cl C D ρ₀ es) t (g x) (ρt x)) (hback : ∀ x ∈ as, ∀ y b, ρ₀.lookup y = some b → (ρt x).lookup y = some b)
    (htest : ∀ x ∈ as, ∀ C D es, TrIfs (c.comp scope cl C D (ρt x) es) ifs (p x)) (helt : ∀ x ∈ as, p x = true → ∀ C D es, Ev (c.comp scope cl C D (ρt x) es) elt (f x))
    (hs : ∀ x, foldedSetIterable iter c.env x = pure x := by intro _; rfl) : Ev c (.ListComp elt [⟨t, iter, ifs, 0⟩] scope pos) (.list ((as.filter p).map f)) := Ev.compC g ρt p f V hit.c hz hasg hback htest helt hs
theorem Ex.assignComp {x : Str} {p' p₁ : Pos} {α : Type} {as : List α} (g : α → PyData) {t elt iter : Expr} {ifs : List Expr} {scope : Scope} {cl : List (Str × Addr)} {ρ₀ : Rho} (ρt : α → Rho) (p : α → Bool) (f : α → PyData)
    (V : Sees c scope cl ρ₀) (hit : IterOf c iter (as.map g)) (hz : as.length ≤ 1000000)
    (hasg : ∀ x ∈ as, ∀ C D es, AsgL (c.comp scope cl C D ρ₀ es) t (g x) (ρt x)) (hback : ∀ x ∈ as, ∀ y b, ρ₀.lookup y = some b → (ρt x).lookup y = some b)
    (htest : ∀ x ∈ as, ∀ C D es, TrIfs (c.comp scope cl C D (ρt x) es) ifs (p x)) (helt : ∀ x ∈ as, p x = true → ∀ C D es, Ev (c.comp scope cl C D (ρt x) es) elt (f x))
    (hx : c.env.kindOf x = some .local) (hrest : Ex (c.set x (.dat (.list ((as.filter p).map f)))) rest Q)
    (hsw : swapsWith (.ListComp elt [⟨t, iter, ifs, 0⟩] scope pos) (some (.Name x p')) p₁.line c.env = pure true := by rfl)
    (hs : ∀ x, foldedSetIterable iter c.env x = pure x := by intro _; rfl) : Ex c (.Assign [.Name x p'] (.ListComp elt [⟨t, iter, ifs, 0⟩] scope pos) p₁ :: rest) Q := Ex.assignCompC g ρt p f V hit.c hz hasg hback htest helt hx hrest hsw hs
end

end Mine
end
noncomputable section
open PySem PySem.Calls PySem.W PyProof.Rows
set_option Elab.async false
set_option maxRecDepth 100000
set_option linter.unusedVariables false
namespace Mine

/-- what stands before the call: the text's own objects, the built-in names -/
structure Wd (K : Frag) (H : Heap) : Prop where
  k : K.In H
  g : ∃ mg, H.Ns mainGlobals mg
  b : ∃ mb, H.Ns builtinsNs mb ∧ ∀ x : Str, x ≠ "__name__" → mb x = bootBuiltins x
  lim : H.NoLimit
  digits : ∃ mc, H.Ns cStatics mc ∧ mc "sys.int_max_str_digits" = none

section
variable {c : Cx} {K : Frag} {x : Str} {f : Value}
theorem NameIs.glob (T : Wd K c.H) (hv : nsIn K mainGlobals x = some (some f)) (hx : c.env.kindOf x = some .globalImplicit := by rfl) (hd : (x == ("__debug__" : Str)) = false := by decide) : NameIs c x f := fun A s pos Q E S h => by
  obtain ⟨mg, hg⟩ := T.g
  exact Calls.Name_function_global S.kind hx (Calls.loadGlobal_global (by rw [S.globals]; exact hg.keeps S.base) (mg_of T.k hg hv) h) hd
theorem NameIs.boot (T : Wd K c.H) (hn : nsIn K mainGlobals x = some none) (hv : bootBuiltins x = some f) (hx : c.env.kindOf x = some .globalImplicit := by rfl) (hne : x ≠ "__name__" := by decide) (hd : (x == ("__debug__" : Str)) = false := by decide) : NameIs c x f := fun A s pos Q E S h => by
  obtain ⟨mg, hg⟩ := T.g
  obtain ⟨mb, hb, hall⟩ := T.b
  exact Calls.Name_function_global S.kind hx (Calls.loadGlobal_builtin (by rw [S.globals]; exact hg.keeps S.base) (mg_none_of T.k hg hn) (by rw [S.builtins]; exact hb.keeps S.base) ((hall x hne).trans hv) h) hd
end

/-- a contract: for all arguments that read so the call ends and its value reads so; all that stood stands -/
def Fn (prog : Program) (w : World) (H : Heap) (k : Nat) (a : Addr) (args : List PyData) (d : PyData) : Prop :=
  ∀ (A : Around) (s : Shared) (U : List Addr) (vs : List Value), Ok k none A → Le H s.heap → (∀ b ∈ U, (∃ o, s.heap.get? b = some o) ∧ H.get? b = none) → RdL U s.heap vs args →
    wpAny (model prog w) A (call (.ref a) vs) (fun v s' => Keeps s s' ∧ Rd U s'.heap v d) No s
theorem Fn.callD {c : Cx} {k : Nat} {a : Addr} {args : List PyData} {d : PyData} (h : Fn c.prog c.w c.H k a args d) (hk : k ≤ c.k) : CallD c (.ref a) args d := fun A s vs ok S r =>
  wp_of (h A s c.U vs (ok.less hk) S.base S.offs r) fun v s' g => g

theorem bindL_off {kd : Str → Option NameKind} : ∀ {binds : List (Str × Value)} {m : Str → Option Value} {x : Str}, x ∉ binds.map (·.1) → bindL kd binds m x = m x
  | [], _, _, _ => rfl
  | (n, v) :: r, m, x, h => by
    unfold bindL
    rw [List.map_cons, List.mem_cons, not_or] at h
    rw [bindL_off h.2]
    split
    · simp only [if_neg h.1]
    · rfl
theorem bindC_off {kd : Str → Option NameKind} : ∀ {binds : List (Str × Value)} {m : Str → Option Value} {x : Str}, x ∉ binds.map (·.1) → bindC kd binds m x = m x
  | [], _, _, _ => rfl
  | (n, v) :: r, m, x, h => by
    unfold bindC
    rw [List.map_cons, List.mem_cons, not_or] at h
    rw [bindC_off h.2]
    split
    · rfl
    · simp only [if_neg h.1]
theorem bindL_at {kd : Str → Option NameKind} : ∀ {binds : List (Str × Value)} {m : Str → Option Value} {x : Str} {v : Value}, (binds.map (·.1)).Nodup → (x, v) ∈ binds → kd x = some .local → bindL kd binds m x = some v
  | (n, u) :: r, m, x, v, hn, hm, hk => by
    unfold bindL
    rw [List.map_cons, List.nodup_cons] at hn
    rcases List.mem_cons.mp hm with e | hm
    · cases e
      rw [bindL_off hn.1, if_pos hk]; simp
    · exact bindL_at hn.2 hm hk
theorem bindC_at {kd : Str → Option NameKind} : ∀ {binds : List (Str × Value)} {m : Str → Option Value} {x : Str} {v : Value}, (binds.map (·.1)).Nodup → (x, v) ∈ binds → kd x = some .cell → bindC kd binds m x = some v
  | (n, u) :: r, m, x, v, hn, hm, hk => by
    unfold bindC
    rw [List.map_cons, List.nodup_cons] at hn
    rcases List.mem_cons.mp hm with e | hm
    · cases e
      rw [bindC_off hn.1, if_neg (by rw [hk]; decide)]; simp
    · exact bindC_at hn.2 hm hk

/-- the frame's own places at the entry -/
def own (fd : FuncData) (L : Addr) : List Addr := L :: (cellsFrom (L + 1) fd.scope.names []).map (·.2)

/-- the names that stand for the arguments -/
def argsAs (xs : List Str) (ds : List PyData) : Rho := (xs.zip ds).map fun p => (p.1, .dat p.2)
theorem lookup_argsAs : ∀ {xs : List Str} {vs : List Value} {ds : List PyData} {U : List Addr} {h : Heap} {x : Str} {b : Bd}, RdL U h vs ds → xs.length = ds.length → (argsAs xs ds).lookup x = some b → ∃ v, (x, v) ∈ xs.zip vs ∧ b.ok U h v
  | [], _, _, _, _, _, _, _, _, e => by cases e
  | y :: xs, _, [], _, _, _, _, _, hl, e => by cases hl
  | y :: xs, _, d :: ds, U, h, x, b, r, hl, e => by
    cases r with
    | @cons v vs _ _ hr r =>
      rw [show argsAs (y :: xs) (d :: ds) = (y, .dat d) :: argsAs xs ds from rfl, List.lookup_cons] at e
      cases q : x == y with
      | true => rw [q] at e; cases e; rw [eq_of_beq q]; exact ⟨v, .head _, hr⟩
      | false =>
        rw [q] at e
        obtain ⟨v', hm, ho⟩ := lookup_argsAs r (by simpa using hl) e
        exact ⟨v', .tail _ hm, ho⟩

theorem Fn.intro {prog : Program} {w : World} {H : Heap} {k : Nat} {a : Addr} {args : List PyData} {d : PyData} {o : Obj} {fd : FuncData} {body : List Stmt} {xs : List Str}
    (ho : H.get? a = some o) (hdata : o.data = .func fd) (hlim : H.NoLimit) (hcd : H.CodeRec fd.code fd.qualname) (hbody : fd.body = .stmts body) (hclo : fd.closure = [])
    (hgl : fd.globals = mainGlobals) (hbu : fd.builtins = builtinsNs)
    (hbind : ∀ vals : List Value, vals.length = xs.length → bindArgs fd ⟨vals, []⟩ = pure (xs.zip vals)) (hlen : xs.length = args.length) (hnd : xs.Nodup)
    (hkind : ∀ n : Nat, ∀ x ∈ xs, fd.scope.names.lookup x = some .local ∨ (fd.scope.names.lookup x = some .cell ∧ ((cellsFrom n fd.scope.names []).lookup x).isSome = true))
    (hex : ∀ (L : Addr) (U : List Addr), L ∉ U → Ex ⟨prog, w, H, k, none, [], own fd L ++ U, own fd L, callEnvC fd L a, argsAs xs args, []⟩ body (fun f h => ∃ v, f = .ret v ∧ Rd U h v d))
    (hcn : ((cellsFrom 0 fd.scope.names []).map (·.1)).Nodup)
    (hco : fd.scope.isCoroutine = false := by rfl) (hgen : fd.scope.isGenerator = false := by rfl) (hk : fd.scope.kind = .function := by rfl) : Fn prog w H (k + 1) a args d := fun A s U vs ok hH hU r => by
  have hvl : vs.length = xs.length := by rw [r.length, hlen]
  refine wpAny_call (codeAny_call_cells (fd := fd) ok.room (hH _ _ ho) hdata (hlim.keeps hH) (hcd.keeps hH) hbody (hbind vs hvl) hclo (fun p hp => hkind _ _ (by obtain ⟨x, v⟩ := p; exact (List.of_mem_zip hp).1)) (fun s₁ X => ?_) hco hgen hk)
  generalize hL : s.heap.objs.size = L at *
  obtain ⟨h₁, tk₁, rfl, kp⟩ := X.done
  have hLn : s.heap.get? L = none := none_of_le (Nat.le_of_eq hL)
  have hLU : L ∉ U := fun m => by obtain ⟨o', e⟩ := (hU L m).1; rw [hLn] at e; cases e
  have ab : ∀ n c, (n, c) ∈ (callEnvC fd L a).cells → L < c := fun n c hm => X.above n c hm
  have newc : ∀ n c, (n, c) ∈ (callEnvC fd L a).cells → s.heap.get? c = none := fun n c hm => none_of_le (by have := ab n c hm; lia)
  have ownN : ∀ b ∈ own fd L, s.heap.get? b = none := fun b hb => by
    rcases List.mem_cons.mp hb with q | hb
    · rw [q]; exact hLn
    · obtain ⟨p, hp, rfl⟩ := List.mem_map.mp hb; exact newc p.1 p.2 hp
  have ownH : ∀ b ∈ own fd L, H.get? b = none := fun b hb => by
    cases q : H.get? b with
    | none => rfl
    | some o' => have := hH _ _ q; rw [ownN b hb] at this; cases this
  have cellAt : ∀ n c, (n, c) ∈ (callEnvC fd L a).cells → ∃ v, h₁.IsCell c v := fun n c hm =>
    ⟨_, X.cell n c (lookup_of_mem_nodup (by rw [show (callEnvC fd L a).cells = cellsFrom (L + 1) fd.scope.names [] from rfl, ← cellsFrom_names fd.scope.names 0 (L + 1) [] [] rfl]; exact hcn) hm)⟩
  have fr : ∀ b o, b ∉ U → s.heap.get? b = some o → b ∉ own fd L ++ U ∧ h₁.get? b = some o := fun b o' hb e => ⟨fun m => by
    rcases List.mem_append.mp m with q | q
    · rw [ownN b q] at e; cases e
    · exact hb q, kp b o' e⟩
  have S : Cx.S ⟨prog, w, H, k, none, [], own fd L ++ U, own fd L, callEnvC fd L a, argsAs xs args, []⟩ h₁ := {
    base := Le.trans hH kp
    offs := fun b hb => by
      rcases List.mem_append.mp hb with q | q
      · refine ⟨?_, ownH b q⟩
        rcases List.mem_cons.mp q with q | q
        · obtain ⟨o', _, _, e, _⟩ := X.toInCall.ns; rw [q]; exact ⟨o', e⟩
        · obtain ⟨p, hp, rfl⟩ := List.mem_map.mp q
          obtain ⟨v, o', e, _⟩ := cellAt p.1 p.2 hp
          exact ⟨o', e⟩
      · exact ⟨let ⟨o', e⟩ := (hU b q).1; ⟨o', kp _ _ e⟩, (hU b q).2⟩
    kind := hk
    globals := hgl
    builtins := hbu
    subW := fun b hb => List.mem_append_left _ hb
    locW := .head _
    ns := ⟨_, X.toInCall.ns⟩
    cells := fun y b hm => ⟨List.mem_append_left _ (.tail _ (List.mem_map.mpr ⟨(y, b), hm, rfl⟩)), Nat.ne_of_gt (ab y b hm), cellAt y b hm⟩
    apart := X.apart
    vars := fun y b e => by
      obtain ⟨v, hm, hb⟩ := lookup_argsAs r hlen e
      refine ⟨v, ?_, Bd.ok_frame fr hb⟩
      have hy : y ∈ xs := (List.of_mem_zip hm).1
      have hnd' : ((xs.zip vs).map (·.1)).Nodup := by rw [List.map_fst_zip (by lia)]; exact hnd
      rcases hkind (L + 1) y hy with q | ⟨q, q'⟩
      · exact .inl ⟨q, _, X.toInCall.ns, bindL_at hnd' hm q⟩
      · obtain ⟨cc, hcc⟩ := Option.isSome_iff_exists.mp q'
        refine .inr ⟨.inl q, cc, hcc, ?_⟩
        have := X.cell y cc hcc
        rw [bindC_at hnd' hm q] at this
        exact this
    mutsW := fun b es hm => nomatch hm
    mapart := .nil
    frs := fun a ha => nomatch ha }
  refine wpAny_mono (hex L U hLU (A.deeper _) _ (ok.deeper _) S) (fun f s' g => ?_) fun _ _ e => e.elim
  obtain ⟨st, v, rfl, hv⟩ := g
  obtain ⟨h', tk', rfl, k'⟩ := st.u
  refine ⟨⟨h', tk', rfl, fun b o' e => k' b o' (fun m => by rw [ownN b m] at e; cases e) (kp b o' e)⟩, hv⟩

end Mine
end
noncomputable section
set_option Elab.async false
set_option linter.unusedVariables false
namespace Mine
/-- texts are lists of signs' numbers -/
abbrev Tx := List Nat
abbrev leT (a b : Tx) : Bool := decide (a ≤ b)
theorem leT_trans (a b c : Tx) (h : leT a b = true) (k : leT b c = true) : leT a c = true := by
  simp only [leT, decide_eq_true_eq] at *; exact List.le_trans h k
theorem leT_total (a b : Tx) : (leT a b || leT b a) = true := by
  simp only [leT, Bool.or_eq_true, decide_eq_true_eq]; exact List.le_total a b
def sortT (l : List Tx) : List Tx := l.mergeSort leT
theorem sortT_perm (l : List Tx) : (sortT l).Perm l := List.mergeSort_perm l leT
theorem sortT_sorted (l : List Tx) : (sortT l).Pairwise (fun a b => a ≤ b) := by
  have := List.pairwise_mergeSort leT_trans leT_total l
  refine this.imp fun h => ?_
  simpa [leT] using h
theorem sorted_unique {l r : List Tx} (h : l.Pairwise (fun a b => a ≤ b)) (k : r.Pairwise (fun a b => a ≤ b)) (p : l.Perm r) : l = r :=
  List.Perm.eq_of_pairwise (fun a b _ _ x y => List.le_antisymm x y) h k p
/-- the least of a list of texts -/
def minT : List Tx → Tx
  | [] => []
  | x :: r => r.foldl (fun m y => if y < m then y else m) x
theorem foldl_min_le (r : List Tx) (x : Tx) : (r.foldl (fun m y => if y < m then y else m) x) ≤ x ∧ (∀ y ∈ r, (r.foldl (fun m y => if y < m then y else m) x) ≤ y) ∧ ((r.foldl (fun m y => if y < m then y else m) x) = x ∨ (r.foldl (fun m y => if y < m then y else m) x) ∈ r) := by
  induction r generalizing x with
  | nil => exact ⟨List.le_refl x, fun y h => (nomatch h), .inl rfl⟩
  | cons y r ih =>
    simp only [List.foldl_cons]
    by_cases h : y < x
    · simp only [if_pos h]
      obtain ⟨h1, h2, h3⟩ := ih y
      refine ⟨List.le_trans h1 (List.le_of_lt h), fun z hz => ?_, .inr ?_⟩
      · rcases List.mem_cons.mp hz with q | q
        · rw [q]; exact h1
        · exact h2 z q
      · rcases h3 with q | q
        · rw [q]; exact .head _
        · exact .tail _ q
    · simp only [if_neg h]
      obtain ⟨h1, h2, h3⟩ := ih x
      refine ⟨h1, fun z hz => ?_, h3.imp id (.tail _)⟩
      rcases List.mem_cons.mp hz with q | q
      · rw [q]; exact List.le_trans h1 (List.not_lt.mp h)
      · exact h2 z q
theorem minT_le {l : List Tx} {y : Tx} (h : y ∈ l) : minT l ≤ y := by
  cases l with
  | nil => cases h
  | cons x r =>
    obtain ⟨h1, h2, _⟩ := foldl_min_le r x
    rcases List.mem_cons.mp h with q | q
    · rw [q]; exact h1
    · exact h2 y q
theorem minT_mem {l : List Tx} (h : l ≠ []) : minT l ∈ l := by
  cases l with
  | nil => exact (h rfl).elim
  | cons x r =>
    rcases (foldl_min_le r x).2.2 with q | q
    · show List.foldl _ x r ∈ _; rw [q]; exact .head _
    · exact .tail _ q
theorem minT_eq {l : List Tx} {m : Tx} (hm : m ∈ l) (h : ∀ y ∈ l, m ≤ y) : minT l = m :=
  List.le_antisymm (minT_le hm) (h _ (minT_mem (by intro q; rw [q] at hm; cases hm)))

/-- the turns of a text -/
def turnT (t : Tx) (a : Nat) : Tx := t.drop a ++ t.take a
def turnsT (t : Tx) : List Tx := (List.range t.length).map (turnT t)
/-- a text over and over, twenty signs -/
def spinT (t : Tx) : Tx := (List.replicate 20 t).flatten.take 20
end Mine
end
noncomputable section
open PySem PySem.Calls PySem.W PyProof.Rows
set_option Elab.async false
set_option maxRecDepth 100000
set_option linter.unusedVariables false
namespace Mine
noncomputable abbrev KK (w : World) : Frag := Mine.hd.heap_39 w.params

noncomputable def fd21 (P : Params) : FuncData := (fun (fd : FuncData) (_ : ∃ a b c, List.lookup 21 (Mine.hd.heap_39 P) = some ⟨a, b, .func fd, c⟩) => fd) _ ⟨_, _, _, rfl⟩
noncomputable def bd21 : List Stmt := (fun (b : List Stmt) (_ : ∀ P, (fd21 P).body = .stmts b) => b) _ (fun _ => rfl)
theorem at21 (P : Params) : ∃ a b c, List.lookup 21 (Mine.hd.heap_39 P) = some ⟨a, b, .func (fd21 P), c⟩ := ⟨_, _, _, rfl⟩
noncomputable def fd28 (P : Params) : FuncData := (fun (fd : FuncData) (_ : ∃ a b c, List.lookup 28 (Mine.hd.heap_39 P) = some ⟨a, b, .func fd, c⟩) => fd) _ ⟨_, _, _, rfl⟩
noncomputable def bd28 : List Stmt := (fun (b : List Stmt) (_ : ∀ P, (fd28 P).body = .stmts b) => b) _ (fun _ => rfl)
theorem at28 (P : Params) : ∃ a b c, List.lookup 28 (Mine.hd.heap_39 P) = some ⟨a, b, .func (fd28 P), c⟩ := ⟨_, _, _, rfl⟩
theorem in28 {prog : Program} {w : World} {H : Heap} {k : Nat} {args : List PyData} {d : PyData} (T : Wd (KK w) H) (hlen : [Str.ofString "x", Str.ofString "y"].length = args.length)
    (hex : ∀ (L : Addr) (U : List Addr), L ∉ U → Ex ⟨prog, w, H, k, none, [], [L] ++ U, [L], callEnvC (fd28 w.params) L 28, argsAs [Str.ofString "x", Str.ofString "y"] args, []⟩ bd28 (fun f h => ∃ v, f = .ret v ∧ Rd U h v d)) : Fn prog w H (k + 1) 28 args d := by
  obtain ⟨oa, ob, oc, hl⟩ := at28 w.params
  refine Fn.intro (fd := fd28 w.params) (body := bd28) (xs := [Str.ofString "x", Str.ofString "y"]) (T.k _ _ hl) rfl T.lim (codeRec_of T.k rfl) rfl rfl rfl rfl ?_ hlen (by decide) ?_ hex ?_
  · intro vals hv
    match vals, hv with
    | [v0, v1], _ => rfl
  · intro n x hx
    rcases List.mem_cons.mp hx with q | hx
    · subst q; exact .inl rfl
    · rw [List.mem_singleton.mp hx]; exact .inl rfl
  · have e : (cellsFrom 0 (fd28 w.params).scope.names []).map (·.1) = [] := rfl
    rw [e]; decide

noncomputable def fd35 (P : Params) : FuncData := (fun (fd : FuncData) (_ : ∃ a b c, List.lookup 35 (Mine.hd.heap_39 P) = some ⟨a, b, .func fd, c⟩) => fd) _ ⟨_, _, _, rfl⟩
noncomputable def bd35 : List Stmt := (fun (b : List Stmt) (_ : ∀ P, (fd35 P).body = .stmts b) => b) _ (fun _ => rfl)
theorem at35 (P : Params) : ∃ a b c, List.lookup 35 (Mine.hd.heap_39 P) = some ⟨a, b, .func (fd35 P), c⟩ := ⟨_, _, _, rfl⟩
noncomputable def fd42 (P : Params) : FuncData := (fun (fd : FuncData) (_ : ∃ a b c, List.lookup 42 (Mine.hd.heap_39 P) = some ⟨a, b, .func fd, c⟩) => fd) _ ⟨_, _, _, rfl⟩
noncomputable def bd42 : List Stmt := (fun (b : List Stmt) (_ : ∀ P, (fd42 P).body = .stmts b) => b) _ (fun _ => rfl)
theorem at42 (P : Params) : ∃ a b c, List.lookup 42 (Mine.hd.heap_39 P) = some ⟨a, b, .func (fd42 P), c⟩ := ⟨_, _, _, rfl⟩
noncomputable def fd56 (P : Params) : FuncData := (fun (fd : FuncData) (_ : ∃ a b c, List.lookup 56 (Mine.hd.heap_39 P) = some ⟨a, b, .func fd, c⟩) => fd) _ ⟨_, _, _, rfl⟩
noncomputable def bd56 : List Stmt := (fun (b : List Stmt) (_ : ∀ P, (fd56 P).body = .stmts b) => b) _ (fun _ => rfl)
theorem at56 (P : Params) : ∃ a b c, List.lookup 56 (Mine.hd.heap_39 P) = some ⟨a, b, .func (fd56 P), c⟩ := ⟨_, _, _, rfl⟩

noncomputable def fd70 (P : Params) : FuncData := (fun (fd : FuncData) (_ : ∃ a b c, List.lookup 70 (Mine.hd.heap_39 P) = some ⟨a, b, .func fd, c⟩) => fd) _ ⟨_, _, _, rfl⟩
noncomputable def bd70 : List Stmt := (fun (b : List Stmt) (_ : ∀ P, (fd70 P).body = .stmts b) => b) _ (fun _ => rfl)
theorem at70 (P : Params) : ∃ a b c, List.lookup 70 (Mine.hd.heap_39 P) = some ⟨a, b, .func (fd70 P), c⟩ := ⟨_, _, _, rfl⟩
theorem in70 {prog : Program} {w : World} {H : Heap} {k : Nat} {args : List PyData} {d : PyData} (T : Wd (KK w) H) (hlen : [Str.ofString "mode"].length = args.length)
    (hex : ∀ (L : Addr) (U : List Addr), L ∉ U → Ex ⟨prog, w, H, k, none, [], [L] ++ U, [L], callEnvC (fd70 w.params) L 70, argsAs [Str.ofString "mode"] args, []⟩ bd70 (fun f h => ∃ v, f = .ret v ∧ Rd U h v d)) : Fn prog w H (k + 1) 70 args d := by
  obtain ⟨oa, ob, oc, hl⟩ := at70 w.params
  refine Fn.intro (fd := fd70 w.params) (body := bd70) (xs := [Str.ofString "mode"]) (T.k _ _ hl) rfl T.lim (codeRec_of T.k rfl) rfl rfl rfl rfl ?_ hlen (by decide) ?_ hex ?_
  · intro vals hv
    match vals, hv with
    | [v0], _ => rfl
  · intro n x hx
    · rw [List.mem_singleton.mp hx]; exact .inl rfl
  · have e : (cellsFrom 0 (fd70 w.params).scope.names []).map (·.1) = [] := rfl
    rw [e]; decide

noncomputable def fd110 (P : Params) : FuncData := (fun (fd : FuncData) (_ : ∃ a b c, List.lookup 110 (Mine.hd.heap_39 P) = some ⟨a, b, .func fd, c⟩) => fd) _ ⟨_, _, _, rfl⟩
noncomputable def bd110 : List Stmt := (fun (b : List Stmt) (_ : ∀ P, (fd110 P).body = .stmts b) => b) _ (fun _ => rfl)
theorem at110 (P : Params) : ∃ a b c, List.lookup 110 (Mine.hd.heap_39 P) = some ⟨a, b, .func (fd110 P), c⟩ := ⟨_, _, _, rfl⟩
theorem in110 {prog : Program} {w : World} {H : Heap} {k : Nat} {args : List PyData} {d : PyData} (T : Wd (KK w) H) (hlen : [Str.ofString "mode"].length = args.length)
    (hex : ∀ (L : Addr) (U : List Addr), L ∉ U → Ex ⟨prog, w, H, k, none, [], [L] ++ U, [L], callEnvC (fd110 w.params) L 110, argsAs [Str.ofString "mode"] args, []⟩ bd110 (fun f h => ∃ v, f = .ret v ∧ Rd U h v d)) : Fn prog w H (k + 1) 110 args d := by
  obtain ⟨oa, ob, oc, hl⟩ := at110 w.params
  refine Fn.intro (fd := fd110 w.params) (body := bd110) (xs := [Str.ofString "mode"]) (T.k _ _ hl) rfl T.lim (codeRec_of T.k rfl) rfl rfl rfl rfl ?_ hlen (by decide) ?_ hex ?_
  · intro vals hv
    match vals, hv with
    | [v0], _ => rfl
  · intro n x hx
    · rw [List.mem_singleton.mp hx]; exact .inl rfl
  · have e : (cellsFrom 0 (fd110 w.params).scope.names []).map (·.1) = [] := rfl
    rw [e]; decide

noncomputable def fd117 (P : Params) : FuncData := (fun (fd : FuncData) (_ : ∃ a b c, List.lookup 117 (Mine.hd.heap_39 P) = some ⟨a, b, .func fd, c⟩) => fd) _ ⟨_, _, _, rfl⟩
noncomputable def bd117 : List Stmt := (fun (b : List Stmt) (_ : ∀ P, (fd117 P).body = .stmts b) => b) _ (fun _ => rfl)
theorem at117 (P : Params) : ∃ a b c, List.lookup 117 (Mine.hd.heap_39 P) = some ⟨a, b, .func (fd117 P), c⟩ := ⟨_, _, _, rfl⟩

noncomputable def fd124 (P : Params) : FuncData := (fun (fd : FuncData) (_ : ∃ a b c, List.lookup 124 (Mine.hd.heap_39 P) = some ⟨a, b, .func fd, c⟩) => fd) _ ⟨_, _, _, rfl⟩
noncomputable def bd124 : List Stmt := (fun (b : List Stmt) (_ : ∀ P, (fd124 P).body = .stmts b) => b) _ (fun _ => rfl)
theorem at124 (P : Params) : ∃ a b c, List.lookup 124 (Mine.hd.heap_39 P) = some ⟨a, b, .func (fd124 P), c⟩ := ⟨_, _, _, rfl⟩
theorem in124 {prog : Program} {w : World} {H : Heap} {k : Nat} {args : List PyData} {d : PyData} (T : Wd (KK w) H) (hlen : [Str.ofString "kind", Str.ofString "rights"].length = args.length)
    (hex : ∀ (L : Addr) (U : List Addr), L ∉ U → Ex ⟨prog, w, H, k, none, [], [L] ++ U, [L], callEnvC (fd124 w.params) L 124, argsAs [Str.ofString "kind", Str.ofString "rights"] args, []⟩ bd124 (fun f h => ∃ v, f = .ret v ∧ Rd U h v d)) : Fn prog w H (k + 1) 124 args d := by
  obtain ⟨oa, ob, oc, hl⟩ := at124 w.params
  refine Fn.intro (fd := fd124 w.params) (body := bd124) (xs := [Str.ofString "kind", Str.ofString "rights"]) (T.k _ _ hl) rfl T.lim (codeRec_of T.k rfl) rfl rfl rfl rfl ?_ hlen (by decide) ?_ hex ?_
  · intro vals hv
    match vals, hv with
    | [v0, v1], _ => rfl
  · intro n x hx
    rcases List.mem_cons.mp hx with q | hx
    · subst q; exact .inl rfl
    · rw [List.mem_singleton.mp hx]; exact .inl rfl
  · have e : (cellsFrom 0 (fd124 w.params).scope.names []).map (·.1) = [] := rfl
    rw [e]; decide

noncomputable def fd129 (P : Params) : FuncData := (fun (fd : FuncData) (_ : ∃ a b c, List.lookup 129 (Mine.hd.heap_39 P) = some ⟨a, b, .func fd, c⟩) => fd) _ ⟨_, _, _, rfl⟩
noncomputable def bd129 : List Stmt := (fun (b : List Stmt) (_ : ∀ P, (fd129 P).body = .stmts b) => b) _ (fun _ => rfl)
theorem at129 (P : Params) : ∃ a b c, List.lookup 129 (Mine.hd.heap_39 P) = some ⟨a, b, .func (fd129 P), c⟩ := ⟨_, _, _, rfl⟩
theorem in129 {prog : Program} {w : World} {H : Heap} {k : Nat} {args : List PyData} {d : PyData} (T : Wd (KK w) H) (hlen : [Str.ofString "text"].length = args.length)
    (hex : ∀ (L : Addr) (U : List Addr), L ∉ U → Ex ⟨prog, w, H, k, none, [], [L, L + 1] ++ U, [L, L + 1], callEnvC (fd129 w.params) L 129, argsAs [Str.ofString "text"] args, []⟩ bd129 (fun f h => ∃ v, f = .ret v ∧ Rd U h v d)) : Fn prog w H (k + 1) 129 args d := by
  obtain ⟨oa, ob, oc, hl⟩ := at129 w.params
  refine Fn.intro (fd := fd129 w.params) (body := bd129) (xs := [Str.ofString "text"]) (T.k _ _ hl) rfl T.lim (codeRec_of T.k rfl) rfl rfl rfl rfl ?_ hlen (by decide) ?_ hex ?_
  · intro vals hv
    match vals, hv with
    | [v0], _ => rfl
  · intro n x hx
    · rw [List.mem_singleton.mp hx]; exact .inr ⟨rfl, rfl⟩
  · have e : (cellsFrom 0 (fd129 w.params).scope.names []).map (·.1) = [Str.ofString "text"] := rfl
    rw [e]; decide

noncomputable def fd136 (P : Params) : FuncData := (fun (fd : FuncData) (_ : ∃ a b c, List.lookup 136 (Mine.hd.heap_39 P) = some ⟨a, b, .func fd, c⟩) => fd) _ ⟨_, _, _, rfl⟩
noncomputable def bd136 : List Stmt := (fun (b : List Stmt) (_ : ∀ P, (fd136 P).body = .stmts b) => b) _ (fun _ => rfl)
theorem at136 (P : Params) : ∃ a b c, List.lookup 136 (Mine.hd.heap_39 P) = some ⟨a, b, .func (fd136 P), c⟩ := ⟨_, _, _, rfl⟩
theorem in136 {prog : Program} {w : World} {H : Heap} {k : Nat} {args : List PyData} {d : PyData} (T : Wd (KK w) H) (hlen : [Str.ofString "text", Str.ofString "number"].length = args.length)
    (hex : ∀ (L : Addr) (U : List Addr), L ∉ U → Ex ⟨prog, w, H, k, none, [], [L] ++ U, [L], callEnvC (fd136 w.params) L 136, argsAs [Str.ofString "text", Str.ofString "number"] args, []⟩ bd136 (fun f h => ∃ v, f = .ret v ∧ Rd U h v d)) : Fn prog w H (k + 1) 136 args d := by
  obtain ⟨oa, ob, oc, hl⟩ := at136 w.params
  refine Fn.intro (fd := fd136 w.params) (body := bd136) (xs := [Str.ofString "text", Str.ofString "number"]) (T.k _ _ hl) rfl T.lim (codeRec_of T.k rfl) rfl rfl rfl rfl ?_ hlen (by decide) ?_ hex ?_
  · intro vals hv
    match vals, hv with
    | [v0, v1], _ => rfl
  · intro n x hx
    rcases List.mem_cons.mp hx with q | hx
    · subst q; exact .inl rfl
    · rw [List.mem_singleton.mp hx]; exact .inl rfl
  · have e : (cellsFrom 0 (fd136 w.params).scope.names []).map (·.1) = [] := rfl
    rw [e]; decide

noncomputable def fd143 (P : Params) : FuncData := (fun (fd : FuncData) (_ : ∃ a b c, List.lookup 143 (Mine.hd.heap_39 P) = some ⟨a, b, .func fd, c⟩) => fd) _ ⟨_, _, _, rfl⟩
noncomputable def bd143 : List Stmt := (fun (b : List Stmt) (_ : ∀ P, (fd143 P).body = .stmts b) => b) _ (fun _ => rfl)
theorem at143 (P : Params) : ∃ a b c, List.lookup 143 (Mine.hd.heap_39 P) = some ⟨a, b, .func (fd143 P), c⟩ := ⟨_, _, _, rfl⟩
noncomputable def fd148 (P : Params) : FuncData := (fun (fd : FuncData) (_ : ∃ a b c, List.lookup 148 (Mine.hd.heap_39 P) = some ⟨a, b, .func fd, c⟩) => fd) _ ⟨_, _, _, rfl⟩
noncomputable def bd148 : List Stmt := (fun (b : List Stmt) (_ : ∀ P, (fd148 P).body = .stmts b) => b) _ (fun _ => rfl)
theorem at148 (P : Params) : ∃ a b c, List.lookup 148 (Mine.hd.heap_39 P) = some ⟨a, b, .func (fd148 P), c⟩ := ⟨_, _, _, rfl⟩
noncomputable def fd155 (P : Params) : FuncData := (fun (fd : FuncData) (_ : ∃ a b c, List.lookup 155 (Mine.hd.heap_39 P) = some ⟨a, b, .func fd, c⟩) => fd) _ ⟨_, _, _, rfl⟩
noncomputable def bd155 : List Stmt := (fun (b : List Stmt) (_ : ∀ P, (fd155 P).body = .stmts b) => b) _ (fun _ => rfl)
theorem at155 (P : Params) : ∃ a b c, List.lookup 155 (Mine.hd.heap_39 P) = some ⟨a, b, .func (fd155 P), c⟩ := ⟨_, _, _, rfl⟩
theorem in155 {prog : Program} {w : World} {H : Heap} {k : Nat} {args : List PyData} {d : PyData} (T : Wd (KK w) H) (hlen : [Str.ofString "one", Str.ofString "two"].length = args.length)
    (hex : ∀ (L : Addr) (U : List Addr), L ∉ U → Ex ⟨prog, w, H, k, none, [], [L] ++ U, [L], callEnvC (fd155 w.params) L 155, argsAs [Str.ofString "one", Str.ofString "two"] args, []⟩ bd155 (fun f h => ∃ v, f = .ret v ∧ Rd U h v d)) : Fn prog w H (k + 1) 155 args d := by
  obtain ⟨oa, ob, oc, hl⟩ := at155 w.params
  refine Fn.intro (fd := fd155 w.params) (body := bd155) (xs := [Str.ofString "one", Str.ofString "two"]) (T.k _ _ hl) rfl T.lim (codeRec_of T.k rfl) rfl rfl rfl rfl ?_ hlen (by decide) ?_ hex ?_
  · intro vals hv
    match vals, hv with
    | [v0, v1], _ => rfl
  · intro n x hx
    rcases List.mem_cons.mp hx with q | hx
    · subst q; exact .inl rfl
    · rw [List.mem_singleton.mp hx]; exact .inl rfl
  · have e : (cellsFrom 0 (fd155 w.params).scope.names []).map (·.1) = [] := rfl
    rw [e]; decide

noncomputable def fd160 (P : Params) : FuncData := (fun (fd : FuncData) (_ : ∃ a b c, List.lookup 160 (Mine.hd.heap_39 P) = some ⟨a, b, .func fd, c⟩) => fd) _ ⟨_, _, _, rfl⟩
noncomputable def bd160 : List Stmt := (fun (b : List Stmt) (_ : ∀ P, (fd160 P).body = .stmts b) => b) _ (fun _ => rfl)
theorem at160 (P : Params) : ∃ a b c, List.lookup 160 (Mine.hd.heap_39 P) = some ⟨a, b, .func (fd160 P), c⟩ := ⟨_, _, _, rfl⟩
theorem in160 {prog : Program} {w : World} {H : Heap} {k : Nat} {args : List PyData} {d : PyData} (T : Wd (KK w) H) (hlen : [Str.ofString "texts"].length = args.length)
    (hex : ∀ (L : Addr) (U : List Addr), L ∉ U → Ex ⟨prog, w, H, k, none, [], [L, L + 2, L + 1] ++ U, [L, L + 2, L + 1], callEnvC (fd160 w.params) L 160, argsAs [Str.ofString "texts"] args, []⟩ bd160 (fun f h => ∃ v, f = .ret v ∧ Rd U h v d)) : Fn prog w H (k + 1) 160 args d := by
  obtain ⟨oa, ob, oc, hl⟩ := at160 w.params
  refine Fn.intro (fd := fd160 w.params) (body := bd160) (xs := [Str.ofString "texts"]) (T.k _ _ hl) rfl T.lim (codeRec_of T.k rfl) rfl rfl rfl rfl ?_ hlen (by decide) ?_ hex ?_
  · intro vals hv
    match vals, hv with
    | [v0], _ => rfl
  · intro n x hx
    · rw [List.mem_singleton.mp hx]; exact .inl rfl
  · have e : (cellsFrom 0 (fd160 w.params).scope.names []).map (·.1) = [Str.ofString "spun", Str.ofString "row"] := rfl
    rw [e]; decide

noncomputable def fd165 (P : Params) : FuncData := (fun (fd : FuncData) (_ : ∃ a b c, List.lookup 165 (Mine.hd.heap_39 P) = some ⟨a, b, .func fd, c⟩) => fd) _ ⟨_, _, _, rfl⟩
noncomputable def bd165 : List Stmt := (fun (b : List Stmt) (_ : ∀ P, (fd165 P).body = .stmts b) => b) _ (fun _ => rfl)
theorem at165 (P : Params) : ∃ a b c, List.lookup 165 (Mine.hd.heap_39 P) = some ⟨a, b, .func (fd165 P), c⟩ := ⟨_, _, _, rfl⟩
theorem in165 {prog : Program} {w : World} {H : Heap} {k : Nat} {args : List PyData} {d : PyData} (T : Wd (KK w) H) (hlen : [Str.ofString "text"].length = args.length)
    (hex : ∀ (L : Addr) (U : List Addr), L ∉ U → Ex ⟨prog, w, H, k, none, [], [L, L + 1] ++ U, [L, L + 1], callEnvC (fd165 w.params) L 165, argsAs [Str.ofString "text"] args, []⟩ bd165 (fun f h => ∃ v, f = .ret v ∧ Rd U h v d)) : Fn prog w H (k + 1) 165 args d := by
  obtain ⟨oa, ob, oc, hl⟩ := at165 w.params
  refine Fn.intro (fd := fd165 w.params) (body := bd165) (xs := [Str.ofString "text"]) (T.k _ _ hl) rfl T.lim (codeRec_of T.k rfl) rfl rfl rfl rfl ?_ hlen (by decide) ?_ hex ?_
  · intro vals hv
    match vals, hv with
    | [v0], _ => rfl
  · intro n x hx
    · rw [List.mem_singleton.mp hx]; exact .inr ⟨rfl, rfl⟩
  · have e : (cellsFrom 0 (fd165 w.params).scope.names []).map (·.1) = [Str.ofString "text"] := rfl
    rw [e]; decide

noncomputable def fd170 (P : Params) : FuncData := (fun (fd : FuncData) (_ : ∃ a b c, List.lookup 170 (Mine.hd.heap_39 P) = some ⟨a, b, .func fd, c⟩) => fd) _ ⟨_, _, _, rfl⟩
noncomputable def bd170 : List Stmt := (fun (b : List Stmt) (_ : ∀ P, (fd170 P).body = .stmts b) => b) _ (fun _ => rfl)
theorem at170 (P : Params) : ∃ a b c, List.lookup 170 (Mine.hd.heap_39 P) = some ⟨a, b, .func (fd170 P), c⟩ := ⟨_, _, _, rfl⟩
theorem in170 {prog : Program} {w : World} {H : Heap} {k : Nat} {args : List PyData} {d : PyData} (T : Wd (KK w) H) (hlen : [Str.ofString "wheel"].length = args.length)
    (hex : ∀ (L : Addr) (U : List Addr), L ∉ U → Ex ⟨prog, w, H, k, none, [], [L, L + 1] ++ U, [L, L + 1], callEnvC (fd170 w.params) L 170, argsAs [Str.ofString "wheel"] args, []⟩ bd170 (fun f h => ∃ v, f = .ret v ∧ Rd U h v d)) : Fn prog w H (k + 1) 170 args d := by
  obtain ⟨oa, ob, oc, hl⟩ := at170 w.params
  refine Fn.intro (fd := fd170 w.params) (body := bd170) (xs := [Str.ofString "wheel"]) (T.k _ _ hl) rfl T.lim (codeRec_of T.k rfl) rfl rfl rfl rfl ?_ hlen (by decide) ?_ hex ?_
  · intro vals hv
    match vals, hv with
    | [v0], _ => rfl
  · intro n x hx
    · rw [List.mem_singleton.mp hx]; exact .inl rfl
  · have e : (cellsFrom 0 (fd170 w.params).scope.names []).map (·.1) = [Str.ofString "turns"] := rfl
    rw [e]; decide

noncomputable def fd177 (P : Params) : FuncData := (fun (fd : FuncData) (_ : ∃ a b c, List.lookup 177 (Mine.hd.heap_39 P) = some ⟨a, b, .func fd, c⟩) => fd) _ ⟨_, _, _, rfl⟩
noncomputable def bd177 : List Stmt := (fun (b : List Stmt) (_ : ∀ P, (fd177 P).body = .stmts b) => b) _ (fun _ => rfl)
theorem at177 (P : Params) : ∃ a b c, List.lookup 177 (Mine.hd.heap_39 P) = some ⟨a, b, .func (fd177 P), c⟩ := ⟨_, _, _, rfl⟩
theorem in177 {prog : Program} {w : World} {H : Heap} {k : Nat} {args : List PyData} {d : PyData} (T : Wd (KK w) H) (hlen : [Str.ofString "words"].length = args.length)
    (hex : ∀ (L : Addr) (U : List Addr), L ∉ U → Ex ⟨prog, w, H, k, none, [], [L] ++ U, [L], callEnvC (fd177 w.params) L 177, argsAs [Str.ofString "words"] args, []⟩ bd177 (fun f h => ∃ v, f = .ret v ∧ Rd U h v d)) : Fn prog w H (k + 1) 177 args d := by
  obtain ⟨oa, ob, oc, hl⟩ := at177 w.params
  refine Fn.intro (fd := fd177 w.params) (body := bd177) (xs := [Str.ofString "words"]) (T.k _ _ hl) rfl T.lim (codeRec_of T.k rfl) rfl rfl rfl rfl ?_ hlen (by decide) ?_ hex ?_
  · intro vals hv
    match vals, hv with
    | [v0], _ => rfl
  · intro n x hx
    · rw [List.mem_singleton.mp hx]; exact .inl rfl
  · have e : (cellsFrom 0 (fd177 w.params).scope.names []).map (·.1) = [] := rfl
    rw [e]; decide

noncomputable def fd182 (P : Params) : FuncData := (fun (fd : FuncData) (_ : ∃ a b c, List.lookup 182 (Mine.hd.heap_39 P) = some ⟨a, b, .func fd, c⟩) => fd) _ ⟨_, _, _, rfl⟩
noncomputable def bd182 : List Stmt := (fun (b : List Stmt) (_ : ∀ P, (fd182 P).body = .stmts b) => b) _ (fun _ => rfl)
theorem at182 (P : Params) : ∃ a b c, List.lookup 182 (Mine.hd.heap_39 P) = some ⟨a, b, .func (fd182 P), c⟩ := ⟨_, _, _, rfl⟩
noncomputable def fd187 (P : Params) : FuncData := (fun (fd : FuncData) (_ : ∃ a b c, List.lookup 187 (Mine.hd.heap_39 P) = some ⟨a, b, .func fd, c⟩) => fd) _ ⟨_, _, _, rfl⟩
noncomputable def bd187 : List Stmt := (fun (b : List Stmt) (_ : ∀ P, (fd187 P).body = .stmts b) => b) _ (fun _ => rfl)
theorem at187 (P : Params) : ∃ a b c, List.lookup 187 (Mine.hd.heap_39 P) = some ⟨a, b, .func (fd187 P), c⟩ := ⟨_, _, _, rfl⟩
end Mine
end
noncomputable section
open PySem PySem.Calls PySem.W PyProof.Rows
set_option Elab.async false
set_option maxRecDepth 100000
set_option linter.unusedVariables false
namespace Mine
theorem g_three_way_cmp (w : World) : nsIn (KK w) mainGlobals (Str.ofString "three_way_cmp") = some (some (.ref 28)) := id rfl
theorem g_read_uint1 (w : World) : nsIn (KK w) mainGlobals (Str.ofString "read_uint1") = some (some (.ref 35)) := id rfl
theorem g_read_string1 (w : World) : nsIn (KK w) mainGlobals (Str.ofString "read_string1") = some (some (.ref 42)) := id rfl
theorem g_Example (w : World) : nsIn (KK w) mainGlobals (Str.ofString "_Example") = some (some (.ref 59)) := id rfl
theorem g_S_IFMT (w : World) : nsIn (KK w) mainGlobals (Str.ofString "S_IFMT") = some (some (.ref 70)) := id rfl
theorem g_filemode_table (w : World) : nsIn (KK w) mainGlobals (Str.ofString "_filemode_table") = some (some (.ref 103)) := id rfl
theorem g_filemode (w : World) : nsIn (KK w) mainGlobals (Str.ofString "filemode") = some (some (.ref 110)) := id rfl
theorem g_law_stream (w : World) : nsIn (KK w) mainGlobals (Str.ofString "_law_stream") = some (some (.ref 117)) := id rfl
theorem g_law_row (w : World) : nsIn (KK w) mainGlobals (Str.ofString "_law_row") = some (some (.ref 124)) := id rfl
theorem g_law_wheels (w : World) : nsIn (KK w) mainGlobals (Str.ofString "_law_wheels") = some (some (.ref 129)) := id rfl
theorem g_law_cut (w : World) : nsIn (KK w) mainGlobals (Str.ofString "_law_cut") = some (some (.ref 136)) := id rfl
theorem g_law_read_all (w : World) : nsIn (KK w) mainGlobals (Str.ofString "_law_read_all") = some (some (.ref 143)) := id rfl
theorem g_law_from_tape (w : World) : nsIn (KK w) mainGlobals (Str.ofString "_law_from_tape") = some (some (.ref 148)) := id rfl
theorem g_law_told (w : World) : nsIn (KK w) mainGlobals (Str.ofString "_law_told") = some (some (.ref 155)) := id rfl
theorem g_law_together (w : World) : nsIn (KK w) mainGlobals (Str.ofString "_law_together") = some (some (.ref 160)) := id rfl
theorem g_law_turns (w : World) : nsIn (KK w) mainGlobals (Str.ofString "_law_turns") = some (some (.ref 165)) := id rfl
theorem g_law_is_wheel (w : World) : nsIn (KK w) mainGlobals (Str.ofString "_law_is_wheel") = some (some (.ref 170)) := id rfl
theorem g_law_parts (w : World) : nsIn (KK w) mainGlobals (Str.ofString "_law_parts") = some (some (.ref 177)) := id rfl
theorem g_law_bags_are_told (w : World) : nsIn (KK w) mainGlobals (Str.ofString "_law_bags_are_told") = some (some (.ref 182)) := id rfl
theorem g_unorderable_list_difference (w : World) : nsIn (KK w) mainGlobals (Str.ofString "unorderable_list_difference") = some (some (.ref 21)) := id rfl
theorem m_range (w : World) : nsIn (KK w) mainGlobals (Str.ofString "range") = some none := id rfl
theorem b_range : bootBuiltins (Str.ofString "range") = some (.type "range") := PyProof.Rows.boot_range
theorem m_len (w : World) : nsIn (KK w) mainGlobals (Str.ofString "len") = some none := id rfl
theorem b_len : bootBuiltins (Str.ofString "len") = some (.builtin "len") := boot_len
theorem m_sum (w : World) : nsIn (KK w) mainGlobals (Str.ofString "sum") = some none := id rfl
theorem b_sum : bootBuiltins (Str.ofString "sum") = some (.builtin "sum") := PyProof.Rows.boot_sum
theorem m_sorted (w : World) : nsIn (KK w) mainGlobals (Str.ofString "sorted") = some none := id rfl
theorem b_sorted : bootBuiltins (Str.ofString "sorted") = some (.builtin "sorted") := PyProof.Rows.boot_sorted
theorem m_min (w : World) : nsIn (KK w) mainGlobals (Str.ofString "min") = some none := id rfl
theorem b_min : bootBuiltins (Str.ofString "min") = some (.builtin "min") := PyProof.Rows.boot_min
theorem m_ord (w : World) : nsIn (KK w) mainGlobals (Str.ofString "ord") = some none := id rfl
theorem b_ord : bootBuiltins (Str.ofString "ord") = some (.builtin "ord") := PyProof.Rows.boot_ord
theorem m_bytes (w : World) : nsIn (KK w) mainGlobals (Str.ofString "bytes") = some none := id rfl
theorem b_bytes : bootBuiltins (Str.ofString "bytes") = some (.type "bytes") := PyProof.Rows.boot_bytes
theorem m_isinstance (w : World) : nsIn (KK w) mainGlobals (Str.ofString "isinstance") = some none := id rfl
theorem b_isinstance : bootBuiltins (Str.ofString "isinstance") = some (.builtin "isinstance") := PyProof.Rows.boot_isinstance
theorem m_list (w : World) : nsIn (KK w) mainGlobals (Str.ofString "list") = some none := id rfl
theorem b_list : bootBuiltins (Str.ofString "list") = some (.type "list") := PyProof.Rows.boot_list
theorem m_enumerate (w : World) : nsIn (KK w) mainGlobals (Str.ofString "enumerate") = some none := id rfl
theorem b_enumerate : bootBuiltins (Str.ofString "enumerate") = some (.type "enumerate") := PyProof.Rows.boot_enumerate
theorem m_ValueError (w : World) : nsIn (KK w) mainGlobals (Str.ofString "ValueError") = some none := id rfl
theorem b_ValueError : bootBuiltins (Str.ofString "ValueError") = some (.type "ValueError") := by decide +kernel
theorem m_bool (w : World) : nsIn (KK w) mainGlobals (Str.ofString "bool") = some none := id rfl
theorem b_bool : bootBuiltins (Str.ofString "bool") = some (.type "bool") := PyProof.Rows.boot_bool
end Mine
end
noncomputable section
open PySem PySem.Calls PySem.W PyProof.Rows
set_option Elab.async false
set_option maxRecDepth 100000
set_option linter.unusedVariables false
namespace Mine

/-- data -/
abbrev dS (t : Tx) : PyData := .str (mk t)
abbrev dSs (l : List Tx) : PyData := .list (l.map dS)
abbrev dIs (l : List Int) : PyData := .list (l.map .int)

section
variable {c : Cx} {A : Around} {s s₁ s₂ : Shared} {v : Value} {d : PyData} {e e₁ e₂ e₃ : Expr} {d₁ d₂ : PyData} {pos p : Pos} {ds es : List PyData} {Q : Flow → Heap → Prop} {rest : List Stmt}

theorem c_len_str {t : Tx} (hz : t.length ≤ 1000000) : CallD c (.builtin "len") [dS t] (.int t.length) := fun A s vs ok S r => by
  cases r with | cons r r' => cases r' with | nil => cases r with | str _ u =>
  refine PyProof.Rows.len_str (by rw [mk_length]; lia) ?_
  rw [mk_length]; exact Got.tok _ (.int _ _)
theorem c_len_list (hz : ds.length ≤ 1000000) : CallD c (.builtin "len") [.list ds] (.int ds.length) := fun A s vs ok S r => by
  cases r with | cons r r' => cases r' with | nil => cases r with | @list a ws n _ ha hg q =>
  refine call_len_list ⟨_, hg, rfl, n, rfl⟩ (by simp only [List.size_toArray]; have := q.length; lia) ?_
  have : ((ws.toArray.size : Nat) : Int) = (ds.length : Int) := by simp [q.length]
  rw [this]; exact Got.tok _ (.int _ _)
theorem c_sum {ns : List Int} : CallD c (.builtin "sum") [dIs ns] (.int ns.sum) := fun A s vs ok S r => by
  cases r with | cons r r' => cases r' with | nil => cases r with | @list a ws n _ ha hg q =>
  have hi : IntsAre ws ns := q.ints
  obtain ⟨xs, hx⟩ := hi.allInts.items
  have hl : s.heap.IsList a (intItems xs) := hx ▸ ⟨_, hg, rfl, n, rfl⟩
  refine sum_intListG ok.handled hl fun h' tk t' hk => ?_
  have e1 : ns = xs.toList.map (·.1) := by
    rw [← nums_intItems, ← hx]
    exact (show numsOf ws.toArray.toList = ns from hi.numsOf).symm
  have e2 : preSum (numAt xs) xs.size = ns.sum := by
    rw [preSum_eq, List.take_of_length_le (by simp), e1]
  rw [e2]
  exact ⟨⟨h', tk, rfl, hk⟩, .int _ _⟩
theorem c_ord {x : Nat} : CallD c (.builtin "ord") [dS [x]] (.int x) := fun A s vs ok S r => by
  cases r with | cons r r' => cases r' with | nil => cases r with | str _ u =>
  exact PySem.P.ord_of_char (Got.tok _ (.int _ _))

theorem strs_mk {ws : List Value} {U : List Addr} {h : Heap} : ∀ {l : List Tx}, RdL U h ws (l.map dS) → StrsAre ws (l.map mk) := fun {l} r => by
  have : (l.map dS) = (l.map mk).map .str := by simp
  rw [this] at r; exact r.strs
theorem mk_strs {ws : List Value} {U : List Addr} {h : Heap} {l : List Tx} (r : StrsAre ws (l.map mk)) : RdL U h ws (l.map dS) := by
  have : (l.map dS) = (l.map mk).map .str := by simp
  rw [this]; exact .of_strs r
theorem risingS_pairwise : ∀ (p : Str) (l : List Str), risingS p l = true → (p :: l).Pairwise (fun a b => a.cps.toList ≤ b.cps.toList)
  | p, [], _ => List.pairwise_cons.mpr ⟨fun _ h => (nomatch h), .nil⟩
  | p, x :: r, h => by
    have h' : (!PySem.Spec.ltCps x.cps.toList p.cps.toList && risingS x r) = true := h
    rw [Bool.and_eq_true] at h'
    have ih := risingS_pairwise x r h'.2
    have hx : p.cps.toList ≤ x.cps.toList := by
      have := h'.1
      rw [ltCps_eq] at this
      exact List.not_lt.mp (by simpa using this)
    refine List.pairwise_cons.mpr ⟨fun y hy => ?_, ih⟩
    rcases List.mem_cons.mp hy with q | q
    · rw [q]; exact hx
    · exact List.le_trans hx (List.rel_of_pairwise_cons ih q)
theorem sortedS_pairwise : ∀ (l : List Str), sortedS l = true → l.Pairwise (fun a b => a.cps.toList ≤ b.cps.toList)
  | [], _ => .nil
  | x :: r, h => risingS_pairwise x r h
theorem c_sorted {l : List Tx} (hz : l.length < 64) : CallD c (.builtin "sorted") [dSs l] (dSs (sortT l)) := fun A s vs ok S r => by
  cases r with | cons r r' => cases r' with | nil => cases r with | @list a ws n _ ha hg q =>
  have hl := q.length
  refine sorted_strs (vs := ws) ⟨_, hg, rfl, n, rfl⟩ (strs_mk q) (by rw [hl, List.length_map]; exact hz) fun out ss' h1 h2 h3 => ?_
  obtain ⟨ep, he⟩ := sortedAll_at s.heap ws out
  have hk : Le s.heap (sortedAll s.heap ws out) := fun _ _ => sortedAll_old
  have hss : ss' = (sortT l).map mk := by
    have e1 : ss' = (ss'.map fun x => x.cps.toList).map mk := by
      rw [List.map_map]
      conv => lhs; rw [← List.map_id ss']
      refine List.map_congr_left fun x _ => ?_
      show x = mk x.cps.toList
      simp [mk]
    rw [e1]
    congr 1
    refine sorted_unique ?_ (sortT_sorted l) ?_
    · rw [List.pairwise_map]; exact sortedS_pairwise ss' h3
    · refine List.Perm.trans (h2.map _) (List.Perm.trans (List.Perm.of_eq ?_) (sortT_perm l).symm)
      rw [List.map_map]
      conv => rhs; rw [← List.map_id l]
      refine List.map_congr_left fun x _ => ?_
      simp [mk]
  refine ⟨⟨_, _, rfl, hk⟩, .list (S.new (Nat.le_succ _)) (vs := out.toList) (n := ep) ?_ (mk_strs (hss ▸ h1))⟩
  have : lo out.toList ep = seqObj "list" out ep := by simp [lo, seqObj]
  rw [this]; exact he

theorem argBest_le {bt : Nat → Nat → Bool} {g : Nat → Tx} (hb : ∀ i j, bt i j = decide (g i < g j)) : ∀ k, (argBest bt k ≤ k) ∧ ∀ i, i ≤ k → g (argBest bt k) ≤ g i
  | 0 => ⟨Nat.le_refl _, fun i hi => by rw [Nat.le_zero.mp hi]; exact List.le_refl _⟩
  | k + 1 => by
    obtain ⟨h1, h2⟩ := argBest_le hb k
    unfold argBest
    by_cases h : g (k + 1) < g (argBest bt k)
    · rw [hb, decide_eq_true h, if_pos rfl]
      refine ⟨Nat.le_refl _, fun i hi => ?_⟩
      rcases Nat.lt_or_ge i (k + 1) with q | q
      · exact List.le_trans (List.le_of_lt h) (h2 i (by lia))
      · rw [Nat.le_antisymm hi q]; exact List.le_refl _
    · rw [hb, decide_eq_false h, if_neg (by simp)]
      refine ⟨by lia, fun i hi => ?_⟩
      rcases Nat.lt_or_ge i (k + 1) with q | q
      · exact h2 i (by lia)
      · rw [Nat.le_antisymm hi q]; exact List.not_lt.mp h
theorem c_min {l : List Tx} (hne : l ≠ []) : CallD c (.builtin "min") [dSs l] (dS (minT l)) := fun A s vs ok S r => by
  cases r with | cons r r' => cases r' with | nil => cases r with | @list a ws n _ ha hg q =>
  have hlt : a < s.heap.objs.size := Heap.lt_size hg
  have hl := q.length
  rw [List.length_map] at hl
  have hL : s.heap.IsList a ws.toArray := ⟨_, hg, rfl, n, rfl⟩
  refine call_min_walk (wpAny_pyIter_list hL ?_)
  refine ⟨s.heap.objs.size, [s.heap.objs.size, a], [s.heap.objs.size], ws.toArray.size, (fun i v => ws.toArray[i]? = some v), _, (fun i j => decide (l.getD i [] < l.getD j [])), rfl, Walks.list (A := A.in1) ok.handled _ a (Nat.ne_of_lt hlt) ws.toArray,
    ⟨⟨_, Heap.get?_push_size _ rfl, rfl, rfl⟩, hL.push _⟩, ?_, ?_, ?_, ?_⟩
  · intro b hb
    rcases List.mem_cons.mp hb with r | r
    · rw [r, Heap.size_push]; exact Nat.lt_succ_self _
    · rw [List.mem_singleton.mp r, Heap.size_push]; exact Nat.lt_succ_of_lt hlt
  · rw [List.size_toArray, hl]; exact List.length_pos_iff.mpr hne
  · intro i j vi vj s' Q' E' hi hj hQ
    have get : ∀ {i : Nat} {v : Value}, ws.toArray[i]? = some v → ∃ t, v = .str (mk (l.getD i [])) t := fun {i v} h => by
      obtain ⟨d, e1, e2⟩ := q.get' (i := i) (v := v) (by simpa using h)
      rw [List.getElem?_map] at e1
      cases hx : l[i]? with
      | none => rw [hx] at e1; cases e1
      | some x =>
        rw [hx] at e1; cases e1
        have : l.getD i [] = x := by rw [List.getD_eq_getElem?_getD, hx]; rfl
        rw [this]
        cases e2; exact ⟨_, rfl⟩
    obtain ⟨t1, rfl⟩ := get hi
    obtain ⟨t2, rfl⟩ := get hj
    exact PyProof.Rows.lt_str (x := mk (l.getD i [])) (y := mk (l.getD j [])) hQ
  · intro v h' tk hP hk
    obtain ⟨h1, h2⟩ := argBest_le (bt := fun i j => decide (l.getD i [] < l.getD j [])) (g := fun i => l.getD i []) (fun _ _ => rfl) (ws.toArray.size - 1)
    rw [List.size_toArray, hl] at h1 h2 hP
    have hpos := List.length_pos_iff.mpr hne
    generalize argBest (fun i j => decide (l.getD i [] < l.getD j [])) (l.length - 1) = B at h1 h2 hP
    have hB : B < l.length := by lia
    obtain ⟨d, e1, e2⟩ := q.get' (i := B) (v := v) (by simpa using hP)
    rw [List.getElem?_map, List.getElem?_eq_getElem hB] at e1
    cases e1
    have hm : minT l = l[B] := by
      refine minT_eq (List.getElem_mem _) fun y hy => ?_
      obtain ⟨i, hi, rfl⟩ := List.getElem_of_mem hy
      have h3 : l.getD B [] ≤ l.getD i [] := h2 i (by lia)
      have e3 : l.getD B [] = l[B] := by simp [hB]
      have e4 : l.getD i [] = l[i] := by simp [hi]
      rw [e3, e4] at h3
      exact h3
    rw [hm]
    refine ⟨⟨h', tk, rfl, fun b o e => hk b o (fun m => by rw [List.mem_singleton.mp m] at e; exact Nat.lt_irrefl _ (Heap.lt_size e)) (Heap.get?_push_of_some _ e)⟩, ?_⟩
    cases e2; exact .str _ _
end

end Mine
end
noncomputable section
open PySem PySem.Calls PySem.W PyProof.Rows
set_option Elab.async false
set_option maxRecDepth 100000
set_option linter.unusedVariables false
set_option linter.unusedSimpArgs false
namespace Mine

section
variable {c : Cx} {A : Around} {s s₁ s₂ : Shared} {v : Value} {d : PyData} {e e₁ e₂ e₃ : Expr} {d₁ d₂ : PyData} {pos p : Pos} {ds es : List PyData} {Q : Flow → Heap → Prop} {rest : List Stmt}

theorem range_small {a b st : Int} (h1 : -1000000 ≤ a) (h2 : a ≤ 1000000) (h3 : -1000000 ≤ b) (h4 : b ≤ 1000000) (hs : st = 1 ∨ st = -1) : Builtin.Range.small a b st = true := by
  unfold Builtin.Range.small Builtin.Range.rangeFitsLong Builtin.Range.rangeSize
  rcases hs with rfl | rfl
  · simp only [show (1 : Int) > 0 by decide, if_true, Int.ediv_one, Bool.and_eq_true, Bool.or_eq_true, decide_eq_true_eq]
    refine ⟨⟨⟨⟨?_, ?_⟩, ?_⟩, ?_⟩, .inr ?_⟩ <;> (try split) <;> lia
  · simp only [show ¬ ((-1 : Int) > 0) by decide, if_false, Int.neg_neg, Int.ediv_one, Bool.and_eq_true, Bool.or_eq_true, decide_eq_true_eq]
    refine ⟨⟨⟨⟨?_, ?_⟩, ?_⟩, ?_⟩, .inr ?_⟩ <;> (try split) <;> lia
theorem IterOf.range1 {n : Nat} (hn : NameIs c (Str.ofString "range") (.type "range")) (h : Ev c e (.int (n : Int))) (hz : n ≤ 1000000) (he : starEach [e] c.env = [(false, eval e c.env)] := by rfl) :
    IterOf c (.Call (.Name (Str.ofString "range") p) [e] [] pos) ((rangeL 0 n 1).map .int) := fun A s ok S => by
  refine wpAny_Call_NameR (hn A s p _ _ S (PySem.callWith_type (starEach_plain (by rw [he]; rfl) pos) (args_of (wp_of (Evs.cons h .nil (by rw [he]; rfl) A s ok S) fun vs s₁ g₁ => ?_) (by rw [he]; rfl))))
  cases g₁.2 with | cons r r' => cases r' with | nil => cases r with | int _ t =>
  refine call_range_1 ?_
  exact iter_range (c := c) (s₁ := { s₁ with heap := s₁.heap.push _, toks := _ }) ((S.up g₁.1).up (keeps_push _ _ _)) (keeps_trans g₁.1 (keeps_push _ _ _)) (Heap.get?_push_size _ rfl) (range_small (by lia) (by lia) (by lia) (by lia) (.inl rfl)) (by rw [rangeSize_one]; split <;> lia)
theorem IterOf.rng {x : Str} {a b st : Int} {n : Nat} (hx : c.ρ.lookup x = some (.rng a b st)) (hsm : Builtin.Range.small a b st = true) (hsz : Builtin.Range.rangeSize a b st = (n : Int)) (hd : (x == ("__debug__" : Str)) = false := by decide) (hc : (x == ("__classdict__" : Str)) = false := by decide) :
    IterOf c (.Name x p) ((rangeL a n st).map .int) := fun A s ok S => by
  obtain ⟨v, ha, r, t, u, w, rfl, hr, hg⟩ := S.vars x _ hx
  exact load_var S ha (iter_range S (keeps_refl s) hg hsm hsz) hd hc
/-- a range is bound to a name -/
theorem Ex.assignRange3 {x : Str} {a b st : Int} {p' p₁ : Pos} (hn : NameIs c (Str.ofString "range") (.type "range")) (h₁ : Ev c e₁ (.int a)) (h₂ : Ev c e₂ (.int b)) (h₃ : Ev c e₃ (.int st)) (hst : st ≠ 0) (hst' : st.natAbs < 1073741824) (hx : Stores c x) (h : Ex (c.set x (.rng a b st)) rest Q)
    (he : starEach [e₁, e₂, e₃] c.env = [(false, eval e₁ c.env), (false, eval e₂ c.env), (false, eval e₃ c.env)] := by rfl) (he1 : starEach [e₂, e₃] c.env = [(false, eval e₂ c.env), (false, eval e₃ c.env)] := by rfl) (he2 : starEach [e₃] c.env = [(false, eval e₃ c.env)] := by rfl) :
    Ex c (.Assign [.Name x p'] (.Call (.Name (Str.ofString "range") p) [e₁, e₂, e₃] [] pos) p₁ :: rest) Q := fun A s ok S => by
  refine wpAny_execs_cons (wpAny_Assign_Name ?_ rfl)
  refine wpAny_Call_NameR (hn A s p _ _ S (PySem.callWith_type (starEach_plain (by rw [he]; rfl) pos) (args_of (wp_of (Evs.cons h₁ (.cons h₂ (.cons h₃ .nil (by rw [he2]; rfl)) (by rw [he1, he2])) (by rw [he, he1]) A s ok S) fun vs s₁ g₁ => ?_) (by rw [he, he1]))))
  cases g₁.2 with | cons r₁ r' => cases r' with | cons r₂ r' => cases r' with | cons r₃ r' => cases r' with | nil =>
  cases r₁ with | int _ t₁ => cases r₂ with | int _ t₂ => cases r₃ with | int _ t₃ =>
  have S₁ := S.up g₁.1
  refine call_range_3 hst ?_ (.inl (PyProof.noPylong_small hst'))
  refine wp_of (store_of (b := .rng a b st) (s := { s₁ with heap := s₁.heap.push _, toks := s₁.toks }) (S₁.up (keeps_push _ _ _)) hx ⟨_, _, _, _, rfl, S₁.new (Nat.le_refl _), Heap.get?_push_size _ rfl⟩) fun _ s₂ g₂ => ?_
  exact wp_of (h A s₂ ok g₂.2) fun f s₃ g₃ => ⟨(StepU.of_keeps (keeps_trans g₁.1 (keeps_push _ _ _))).tx (g₂.1.tx g₃.1), g₃.2⟩

/-- isinstance(e, bool) of an int -/
theorem Ev.isBoolInt {i : Int} {p₂ : Pos} (hn : NameIs c (Str.ofString "isinstance") (.builtin "isinstance")) (hb : NameIs c (Str.ofString "bool") (.type "bool")) (h : Ev c e (.int i))
    (he : starEach [e, .Name (Str.ofString "bool") p₂] c.env = [(false, eval e c.env), (false, eval (.Name (Str.ofString "bool") p₂) c.env)] := by rfl) :
    Ev c (.Call (.Name (Str.ofString "isinstance") p) [e, .Name (Str.ofString "bool") p₂] [] pos) (.bool false) := fun A s ok S => by
  refine wpAny_Call_NameR (hn A s p _ _ S (Calls.callWith_builtin (starEach_plain (by rw [he]; rfl) pos) ?_))
  rw [he]
  refine evalArgs_plain (Calls.spliced_cons (wp_of (h A s ok S) fun v s₁ g₁ => ?_))
  refine Calls.spliced_cons (hb A s₁ p₂ _ _ (S.up g₁.1) (Calls.spliced_nil ?_))
  cases g₁.2
  exact IsiPair.int_bool ⟨keeps_trans g₁.1 (keeps_tok _ _), .bool _⟩

/-- a method of a built-in type, its arguments -/
theorem Ev.meth {T id : String} {name : Str} {es : List Expr} {ap : Pos} (h₀ : Ev c e₁ d₁) (h : Evs c pos (e :: es) ds) (hT : ∀ (s : Shared) (v : Value), Rd c.U s.heap v d₁ → s.TypeIs v T ∧ ∀ a, v = .ref a → ∃ ob, s.heap.get? a = some ob ∧ ob.dict = none)
    (pa : PlainAttrs T) (slot : Slot T name id) (hty : typeOf (.builtin id) = pure (.type "method_descriptor")) (hc : CallD c (.builtin id) (d₁ :: ds) d)
    (hbase : attributeBase e₁ name c.env (eval e₁ c.env) = eval e₁ c.env := by rfl) (hline : (ap.endLine == pos.line) = true := by rfl) (he : starEach (e :: es) c.env = (false, eval e c.env) :: starEach es c.env := by rfl)
    (hs : (starEach (e :: es) c.env).any (·.1) = false := by rfl)
    (hfew : ((backTo pos (starEach (e :: es) c.env)).all (fun x => !x.1) && (backToKw pos (keywordEach [] c.env)).all (fun x => x.1.isSome) && decide ((e :: es).length + ([] : List Keyword).length + (if ([] : List Keyword).isEmpty then 0 else 1) < 30)) = true := by rfl) :
    Ev c (.Call (.Attribute e₁ name ap) (e :: es) [] pos) d := fun A s ok S => by
  refine wpAny_Call_method hbase hfew hline pa slot hty (wp_of (h₀ A s ok S) fun v s₁ g₁ => ?_)
  have S₁ := S.up g₁.1
  refine ⟨(hT s₁ v g₁.2).1, (hT s₁ v g₁.2).2, Calls.callWith_builtin (starEach_plain hs pos) (args_of (wp_of (h A s₁ ok S₁) fun vs s₂ g₂ => ?_) he)⟩
  exact wp_of (hc A s₂ (v :: vs) ok (S₁.up g₂.1) (.cons (g₁.2.up (keeps_le g₂.1)) g₂.2)) fun v s₃ g₃ => (g₃.mk' g₂.1).mk' g₁.1
theorem ty_list {U : List Addr} (s : Shared) (v : Value) (r : Rd U s.heap v (.list ds)) : s.TypeIs v "list" ∧ ∀ a, v = .ref a → ∃ ob, s.heap.get? a = some ob ∧ ob.dict = none := by
  cases r with | list _ g _ => exact ⟨⟨_, g, rfl⟩, fun a q => by cases q; exact ⟨_, g, rfl⟩⟩
theorem ty_str {U : List Addr} {x : Str} (s : Shared) (v : Value) (r : Rd U s.heap v (.str x)) : s.TypeIs v "str" ∧ ∀ a, v = .ref a → ∃ ob, s.heap.get? a = some ob ∧ ob.dict = none := by
  cases r; exact ⟨typeIs_str _ _ _, fun a q => nomatch q⟩

theorem countIn_mk (t : Tx) : ∀ l : List Tx, PySem.Spec.countIn (.str (mk t)) (l.map dS) = (l.count t : Int)
  | [] => rfl
  | x :: r => by
    rw [List.map_cons, PySem.Spec.countIn, countIn_mk t r, List.count_cons]
    have : PySem.Spec.same (dS x) (.str (mk t)) = decide (x = t) := by
      show (mk x == mk t) = _; exact mk_beq x t
    rw [this]
    by_cases h : x = t
    · subst h; simp; lia
    · have : (x == t) = false := by simpa using h
      simp [h, this]
theorem c_count {l : List Tx} {t : Tx} : CallD c (.builtin "list.count") [dSs l, dS t] (.int (l.count t)) := fun A s vs ok S r => by
  cases r with | cons r₁ r' => cases r' with | cons r₂ r' => cases r' with | nil => cases r₁ with | @list a ws n _ ha hg q => cases r₂ with | str _ u =>
  refine count_list_strs (vs := ws) (ys := l.map mk) ⟨_, hg, rfl, n, rfl⟩ (strs_mk q) ?_
  have : (l.map mk).map PyData.str = l.map dS := by simp
  rw [this, countIn_mk]
  exact Got.tok _ (.int _ _)
theorem Ev.count {l : List Tx} {t : Tx} {ap : Pos} (h₀ : Ev c e₁ (dSs l)) (h : Ev c e (dS t)) (hbase : attributeBase e₁ (Str.ofString "count") c.env (eval e₁ c.env) = eval e₁ c.env := by rfl) (hline : (ap.endLine == pos.line) = true := by rfl) (he : starEach [e] c.env = [(false, eval e c.env)] := by rfl) :
    Ev c (.Call (.Attribute e₁ (Str.ofString "count") ap) [e] [] pos) (.int (l.count t)) :=
  Ev.meth (T := "list") (id := "list.count") h₀ (.cons h .nil (by rw [he]; rfl)) ty_list PySem.F.plainAttrs_list PySem.F.slot_list_count PySem.F.type_list_count c_count hbase hline (by rw [he]; rfl) (by rw [he]; rfl) (by rw [he]; rfl)

theorem strVals {ws : List Value} {ss : List Str} (h : StrsAre ws ss) : ∃ l : List (Str × Tok), ws = strValues l ∧ l.map (·.1) = ss := by
  induction h with
  | nil => exact ⟨[], rfl, rfl⟩
  | cons x t _ ih => obtain ⟨l, e1, e2⟩ := ih; exact ⟨(x, t) :: l, by rw [e1]; rfl, by rw [← e2]; rfl⟩
end
end Mine
end
noncomputable section
open PySem PySem.Calls PySem.W PyProof.Rows
set_option Elab.async false
set_option maxRecDepth 100000
set_option linter.unusedVariables false
namespace Mine

section
variable {prog : Program} {w : World} {H : Heap}
theorem ret_of {c : Cx} {U : List Addr} {d : PyData} {g : Heap} {v : Value} (hU : ∀ a ∈ U, a ∈ c.U) (r : Rd c.U g v d) : ∃ u, (Flow.ret v) = .ret u ∧ Rd U g u d := ⟨v, rfl, r.less hU⟩

/-- three_way_cmp of texts -/
def cmp3 (x y : Tx) : Int := b2i (decide (y < x)) - b2i (decide (x < y))
theorem cmp_fn (T : Wd (KK w) H) (x y : Tx) : Fn prog w H 1 28 [dS x, dS y] (.int (cmp3 x y)) := by
  refine in28 T rfl fun L U hLU => ?_
  delta bd28
  exact Ex.ret (Ev.bin (Ev.cmp (Ev.var rfl) (Ev.var rfl) op_gt_str) (Ev.cmp (Ev.var rfl) (Ev.var rfl) op_lt_str) op_sub_bool) fun g v S r => ret_of (fun a ha => List.mem_append_right _ ha) r
theorem ifmt_fn (T : Wd (KK w) H) (m : Int) : Fn prog w H 1 70 [.int m] (.int (Builtin.bitAnd m 61440)) := by
  refine in70 T rfl fun L U hLU => ?_
  delta bd70
  exact Ex.ret (Ev.bin (Ev.var rfl) Ev.int op_and_int) fun g v S r => ret_of (fun a ha => List.mem_append_right _ ha) r

theorem rangeL_nat (n : Nat) : (rangeL 0 n 1).map PyData.int = (List.range n).map fun (i : Nat) => PyData.int (i : Int) := by
  unfold rangeL
  rw [List.map_map]
  refine List.map_congr_left fun i hi => ?_
  simp
theorem IterOf.rangeN {c : Cx} {e : Expr} {pos p : Pos} {n : Nat} (hn : NameIs c (Str.ofString "range") (.type "range")) (h : Ev c e (.int (n : Int))) (hz : n ≤ 1000000) (he : starEach [e] c.env = [(false, eval e c.env)] := by rfl) :
    IterOf c (.Call (.Name (Str.ofString "range") p) [e] [] pos) ((List.range n).map fun (i : Nat) => PyData.int (i : Int)) := rangeL_nat n ▸ IterOf.range1 hn h hz he
theorem back_cons {x : Str} {b : Bd} {ρ₀ : Rho} (h : ρ₀.lookup x = none) : ∀ y b', ρ₀.lookup y = some b' → ((x, b) :: ρ₀).lookup y = some b' := fun y b' e => by
  rw [List.lookup_cons]
  cases q : y == x with
  | true => rw [eq_of_beq q, h] at e; cases e
  | false => exact e
theorem filter_true {α : Type} (l : List α) : l.filter (fun _ => true) = l := List.filter_eq_self.mpr fun _ _ => rfl

/-- _law_turns -/
theorem turns_fn (T : Wd (KK w) H) (t : Tx) (hz : t.length ≤ 1000) : Fn prog w H 1 165 [dS t] (dSs (turnsT t)) := by
  refine in165 T rfl fun L U hLU => ?_
  delta bd165
  refine Ex.ret (d := dSs (turnsT t)) ?_ fun g v S r => ret_of (fun a ha => List.mem_append_right _ ha) r
  have key : dSs (turnsT t) = .list (((List.range t.length).filter (fun _ => true)).map fun i => dS (turnT t i)) := by
    rw [filter_true]; unfold dSs turnsT; rw [List.map_map]; rfl
  rw [key]
  refine Ev.comp (fun (i : Nat) => PyData.int (i : Int)) (cl := [(Str.ofString "text", L + 1)]) (ρ₀ := [(Str.ofString "text", .dat (dS t))]) (fun i => [(Str.ofString "at", .dat (.int (i : Int))), (Str.ofString "text", .dat (dS t))]) _ _
    (Sees.one rfl rfl (by decide) (by decide) rfl rfl rfl rfl) (IterOf.rangeN (NameIs.boot T (m_range w) b_range) (Ev.callB (NameIs.boot T (m_len w) b_len) (.cons (Ev.var rfl) .nil) (c_len_str (by lia))) (by lia)) ?_ (fun d _ C D es => AsgL.name rfl) (fun _ _ => back_cons rfl) (fun d _ C D es => TrIfs.nil) ?_
  · rw [List.length_range]; lia
  · intro i hi _ C D es
    exact Ev.bin (Ev.strFrom (Ev.var rfl) (Ev.var rfl) (by lia)) (Ev.strTo (Ev.var rfl) (Ev.var rfl) (by lia)) (op_add_str (by have := List.mem_range.mp hi; simp; lia))

/-- _law_told -/
def toldT (one two : Tx) : Bool := decide ([cmp3 one two, cmp3 two one] = if one = two then [0, 0] else [-1, 1])
theorem eqv_ints : ∀ l r : List Int, PyData.eqvAll (l.map .int) (r.map .int) = decide (l = r)
  | [], [] => rfl
  | [], _ :: _ => rfl
  | _ :: _, [] => rfl
  | x :: l, y :: r => by
    rw [List.map_cons, List.map_cons, PyData.eqvAll, eqv_ints l r]
    show (x == y && _) = _
    by_cases h : x = y
    · subst h; simp
    · have : (x == y) = false := by simpa using h
      simp [this, h]
theorem told_fn (T : Wd (KK w) H) (x y : Tx) : Fn prog w H 2 155 [dS x, dS y] (.bool (toldT x y)) := by
  refine in155 T rfl fun L U hLU => ?_
  delta bd155
  refine Ex.assign (d := dIs [cmp3 x y, cmp3 y x]) (Ev.list (.cons (Ev.callF (NameIs.glob T (g_three_way_cmp w)) (.cons (Ev.var rfl) (.cons (Ev.var rfl) .nil)) ((cmp_fn T x y).callD (Nat.le_refl _)) (T.k _ _ (id rfl)) rfl) (.cons (Ev.callF (NameIs.glob T (g_three_way_cmp w)) (.cons (Ev.var rfl) (.cons (Ev.var rfl) .nil)) ((cmp_fn T y x).callD (Nat.le_refl _)) (T.k _ _ (id rfl)) rfl) .nil))) (.inl rfl) ?_
  refine Ex.ifRet (b := false) (Tr.or (b := false || (false || false)) (.cons (Tr.bool (Ev.isBoolInt (NameIs.boot T (m_isinstance w) b_isinstance) (NameIs.boot T (m_bool w) b_bool) (Ev.item (Ev.var rfl) Ev.int (.list _) (op_item_list (by decide) rfl (by simp)))))
    fun _ => .cons (Tr.bool (Ev.isBoolInt (NameIs.boot T (m_isinstance w) b_isinstance) (NameIs.boot T (m_bool w) b_bool) (Ev.item (Ev.var rfl) Ev.int (.list _) (op_item_list (by decide) rfl (by simp))))) fun _ => .nil)) (fun h => by cases h) fun _ => ?_
  have two : ∀ {c : Cx} {a b : Int} {e₁ e₂ : Expr} {pos : Pos}, Ev c e₁ (.int a) → Ev c e₂ (.int b) → starEach [e₁, e₂] c.env = (false, eval e₁ c.env) :: starEach [e₂] c.env → starEach [e₂] c.env = (false, eval e₂ c.env) :: starEach [] c.env → Ev c (.List [e₁, e₂] pos) (dIs [a, b]) := fun h1 h2 s1 s2 => Ev.list (.cons h1 (.cons h2 .nil s2) s1)
  refine Ex.ret (d := .bool (toldT x y)) (Ev.cmp (Ev.var rfl) (Ev.ifexp (d := dIs (if x = y then [0, 0] else [-1, 1])) (b := decide (x = y)) (Tr.cmp (Ev.var rfl) (Ev.var rfl) op_eq_str) (fun h => ?_) (fun h => ?_)) (op_eq rfl ?_ ?_)) fun g v S r => ret_of (fun a ha => List.mem_append_right _ ha) r
  · rw [if_pos (of_decide_eq_true h)]; exact two Ev.int Ev.int rfl rfl
  · rw [if_neg (of_decide_eq_false h)]
    exact two (Ev.neg Ev.int) Ev.int rfl rfl
  · split <;> rfl
  · exact eqv_ints _ _
end
end Mine
end
noncomputable section
open PySem PySem.Calls PySem.W PyProof.Rows
set_option Elab.async false
set_option maxRecDepth 100000
set_option linter.unusedVariables false
namespace Mine

/-- the names of one list stand in another -/
def Has (ρ : Rho) : Rho → Prop
  | [] => True
  | (x, b) :: r => ρ.lookup x = some b ∧ Has ρ r
theorem Has.sub {ρ : Rho} : ∀ {ρ' : Rho}, Has ρ ρ' → ∀ x b, ρ'.lookup x = some b → ρ.lookup x = some b
  | [], _, _, _, e => by cases e
  | (y, b') :: r, h, x, b, e => by
    rw [List.lookup_cons] at e
    cases q : x == y with
    | true => rw [q] at e; cases e; rw [eq_of_beq q]; exact h.1
    | false => rw [q] at e; exact Has.sub h.2 x b e
theorem St.to {F : List Addr} {H : Heap} {U W : List Addr} {env : Env} {ρ ρ' : Rho} {μ : List (Addr × List PyData)} {h : Heap} (S : St F H U W env ρ μ h) (k : Has ρ ρ') : St F H U W env ρ' μ h := S.sub k.sub (fun _ m => m) S.mapart

section
variable {prog : Program} {w : World} {H : Heap} {c : Cx}
theorem nat_fdiv (a b : Nat) : (a : Int).fdiv (b : Int) = ((a / b : Nat) : Int) := by
  rw [Int.fdiv_eq_ediv_of_nonneg _ (Int.natCast_nonneg b)]; rfl
theorem nat_fmod (a b : Nat) : (a : Int).fmod (b : Int) = ((a % b : Nat) : Int) := by
  rw [Int.fmod_eq_emod_of_nonneg _ (Int.natCast_nonneg b)]; rfl
theorem op_div_nat {a b : Nat} (hb : 0 < b) (hb' : b < 1073741824) : Op2 c (binaryOp .FloorDiv) (.int (a : Int)) (.int (b : Int)) (.int ((a / b : Nat) : Int)) := by
  rw [← nat_fdiv]; exact op_div_int (by lia) (by lia)
theorem op_mod_nat {a b : Nat} (hb : 0 < b) : Op2 c (binaryOp .Mod) (.int (a : Int)) (.int (b : Int)) (.int ((a % b : Nat) : Int)) := by
  rw [← nat_fmod]; exact op_mod_int (by lia)
theorem op_add_nat {a b : Nat} : Op2 c (binaryOp .Add) (.int (a : Int)) (.int (b : Int)) (.int ((a + b : Nat) : Int)) := by
  rw [Int.natCast_add]; exact op_add_int
theorem mulOk {a b : Nat} (ha : a < 1000000) (hb : b < 1000000) : IntMulOk (a : Int) (b : Int) := by
  refine IntMulOk.of_left ?_
  unfold Builtin.Int.intBits
  have h1 : ((a : Int).natAbs) = a := by lia
  split
  · lia
  · rw [h1]
    have : a.log2 < 20 := by
      rcases Nat.eq_zero_or_pos a with q | q
      · subst q; decide
      · exact (Nat.log2_lt (by lia)).mpr (by lia)
    lia
theorem op_mul_nat {a b : Nat} (ha : a < 1000000) (hb : b < 1000000) : Op2 c (binaryOp .Mult) (.int (a : Int)) (.int (b : Int)) (.int ((a * b : Nat) : Int)) := by
  rw [Int.natCast_mul]; exact op_mul_int (mulOk ha hb)

/-- _law_row -/
def rowStep (rights : Nat) (row : Tx) (i : Nat) : Tx :=
  (row ++ [if 3 < rights / [64, 8, 1].getD i 1 % 8 then 114 else 45]) ++ [if rights / [64, 8, 1].getD i 1 % 8 / 2 % 2 = 1 then 119 else 45] ++
    [([[45, 120, 83, 115], [45, 120, 83, 115], [45, 120, 84, 116]].getD i []).getD (rights / [64, 8, 1].getD i 1 % 8 % 2 + 2 * (rights / [2048, 1024, 512].getD i 1 % 2)) 0]
def rowT (kind rights : Nat) : Tx := (List.range 3).foldl (rowStep rights) [[63, 112, 99, 63, 100, 63, 98, 63, 45, 63, 108, 63, 115, 63, 63, 63].getD kind 63]

theorem rowStep_length (rights : Nat) (row : Tx) (i : Nat) : (rowStep rights row i).length = row.length + 3 := by
  unfold rowStep; simp only [List.length_append, List.length_singleton]
theorem row_fn (T : Wd (KK w) H) (kind rights : Nat) (hk : kind < 16) (hr : rights < 4096) : Fn prog w H 1 124 [.int (kind : Int), .int (rights : Int)] (dS (rowT kind rights)) := by
  refine in124 T rfl fun L U hLU => ?_
  delta bd124
  refine Ex.assign (Ev.item (Ev.strC (l := [63, 112, 99, 63, 100, 63, 98, 63, 45, 63, 108, 63, 115, 63, 63, 63])) (Ev.var rfl) (.str _) (op_item_str (x := [63, 112, 99, 63, 100, 63, 98, 63, 45, 63, 108, 63, 115, 63, 63, 63].getD kind 63) (by lia) ?_ (by simp))) (.inl rfl) ?_
  · rw [Int.toNat_natCast]
    rw [List.getD_eq_getElem?_getD, List.getElem?_eq_getElem (by simpa using hk)]; rfl
  refine Ex.for (σ := Tx) (fun row => [(Str.ofString "row", .dat (dS row)), (Str.ofString "rights", .dat (.int (rights : Int)))]) (fun row d => [(Str.ofString "turn", .dat d), (Str.ofString "row", .dat (dS row)), (Str.ofString "rights", .dat (.int (rights : Int)))]) (fun _ => []) (fun i row => row = ((List.range i).foldl (rowStep rights) [[63, 112, 99, 63, 100, 63, 98, 63, 45, 63, 108, 63, 115, 63, 63, 63].getD kind 63]))
    [[63, 112, 99, 63, 100, 63, 98, 63, 45, 63, 108, 63, 115, 63, 63, 63].getD kind 63] (IterOf.rangeN (n := 3) (NameIs.boot T (m_range w) b_range) Ev.int (by decide)) (fun g S => S.to ⟨rfl, rfl, trivial⟩) rfl (fun i x d hd hx => Asg.name (.inl rfl)) ?_ ?_
  · intro i row d hd hrow
    have hi : i < 3 := by
      have := (List.getElem?_eq_some_iff.mp hd).1
      simpa using this
    have hdi : d = .int (i : Int) := by
      rw [List.getElem?_map, List.getElem?_range hi] at hd
      exact (Option.some.inj hd).symm
    subst hdi
    have t1 : ([PyData.int 64, PyData.int 8, PyData.int 1] : List PyData)[i]? = some (.int (([64, 8, 1].getD i 1 : Nat) : Int)) := by
      match i, hi with | 0, _ => rfl | 1, _ => rfl | 2, _ => rfl
    have t2 : ([PyData.int 2048, PyData.int 1024, PyData.int 512] : List PyData)[i]? = some (.int (([2048, 1024, 512].getD i 1 : Nat) : Int)) := by
      match i, hi with | 0, _ => rfl | 1, _ => rfl | 2, _ => rfl
    have t3 : ([dS [45, 120, 83, 115], dS [45, 120, 83, 115], dS [45, 120, 84, 116]] : List PyData)[i]? = some (dS (([[45, 120, 83, 115], [45, 120, 83, 115], [45, 120, 84, 116]] : List Tx).getD i [])) := by
      match i, hi with | 0, _ => rfl | 1, _ => rfl | 2, _ => rfl
    have l3 : (([[45, 120, 83, 115], [45, 120, 83, 115], [45, 120, 84, 116]] : List Tx).getD i []).length = 4 := by
      match i, hi with | 0, _ => rfl | 1, _ => rfl | 2, _ => rfl
    have p1 : 0 < [64, 8, 1].getD i 1 ∧ [64, 8, 1].getD i 1 < 1073741824 := by
      match i, hi with | 0, _ => decide | 1, _ => decide | 2, _ => decide
    have p2 : 0 < [2048, 1024, 512].getD i 1 ∧ [2048, 1024, 512].getD i 1 < 1073741824 := by
      match i, hi with | 0, _ => decide | 1, _ => decide | 2, _ => decide
    have hlen : ∀ j, ((List.range j).foldl (rowStep rights) [[63, 112, 99, 63, 100, 63, 98, 63, 45, 63, 108, 63, 115, 63, 63, 63].getD kind 63]).length = 1 + 3 * j := fun j => by
      induction j with
      | zero => rfl
      | succ j ih => rw [List.range_succ, List.foldl_append, List.foldl_cons, List.foldl_nil, rowStep_length, ih]; lia
    have hrl : row.length ≤ 100 := by rw [hrow, hlen]; lia
    generalize ha : [64, 8, 1].getD i 1 = a at *
    generalize hb : [2048, 1024, 512].getD i 1 = b at *
    generalize htl : (([[45, 120, 83, 115], [45, 120, 83, 115], [45, 120, 84, 116]] : List Tx).getD i []) = tl at *
    refine Ex.assign (d := .int ((rights / a % 8 : Nat) : Int)) (Ev.bin (Ev.bin (Ev.var rfl) (Ev.item (Ev.tuple (.cons Ev.int (.cons Ev.int (.cons Ev.int .nil)))) (Ev.var rfl) (.tuple _) (op_item_tuple (by lia) (by rw [Int.toNat_natCast]; exact t1) (by simp))) (op_div_nat p1.1 p1.2)) Ev.int (op_mod_nat (b := 8) (by decide))) (.inl rfl) ?_
    refine Ex.assign (d := .int ((rights / a % 8 % 2 + 2 * (rights / b % 2) : Nat) : Int)) (Ev.bin (Ev.bin (Ev.var rfl) Ev.int (op_mod_nat (b := 2) (by decide))) (Ev.bin Ev.int (Ev.bin (Ev.bin (Ev.var rfl) (Ev.item (Ev.tuple (.cons Ev.int (.cons Ev.int (.cons Ev.int .nil)))) (Ev.var rfl) (.tuple _) (op_item_tuple (by lia) (by rw [Int.toNat_natCast]; exact t2) (by simp))) (op_div_nat p2.1 p2.2)) Ev.int (op_mod_nat (b := 2) (by decide))) (op_mul_nat (a := 2) (by decide) (by lia))) op_add_nat) (.inl rfl) ?_
    refine Ex.assign (d := dS (row ++ [if 3 < rights / a % 8 then 114 else 45] ++ [if rights / a % 8 / 2 % 2 = 1 then 119 else 45])) (Ev.bin (Ev.bin (Ev.var rfl) (Ev.ifexp (d := dS [if 3 < rights / a % 8 then 114 else 45]) (b := decide (3 < rights / a % 8)) ?g1 (fun h => ?c1) (fun h => ?c2)) (op_add_str (by simp; lia))) (Ev.ifexp (d := dS [if rights / a % 8 / 2 % 2 = 1 then 119 else 45]) (b := decide (rights / a % 8 / 2 % 2 = 1)) ?g2 (fun h => ?c3) (fun h => ?c4)) (op_add_str (by simp; lia))) (.inl rfl) ?_
    case g1 =>
      have : decide (3 < rights / a % 8) = decide ((3 : Int) < ((rights / a % 8 : Nat) : Int)) := by
        by_cases q : 3 < rights / a % 8
        · rw [decide_eq_true q, decide_eq_true (by lia)]
        · rw [decide_eq_false q, decide_eq_false (by lia)]
      rw [this]
      exact Tr.cmp (Ev.var rfl) Ev.int op_gt_int
    case g2 =>
      have : decide (rights / a % 8 / 2 % 2 = 1) = (((rights / a % 8 / 2 % 2 : Nat) : Int) == 1) := by
        by_cases q : rights / a % 8 / 2 % 2 = 1
        · rw [decide_eq_true q, q]; rfl
        · rw [decide_eq_false q]; symm; rw [beq_eq_false_iff_ne]; lia
      rw [this]
      exact Tr.cmp (Ev.bin (Ev.bin (Ev.var rfl) Ev.int (op_div_nat (b := 2) (by decide) (by decide))) Ev.int (op_mod_nat (b := 2) (by decide))) Ev.int op_eq_int
    case c1 => rw [if_pos (of_decide_eq_true h)]; exact Ev.strC
    case c2 => rw [if_neg (of_decide_eq_false h)]; exact Ev.strC
    case c3 => rw [if_pos (of_decide_eq_true h)]; exact Ev.strC
    case c4 => rw [if_neg (of_decide_eq_false h)]; exact Ev.strC
    refine Ex.assign (d := dS (row ++ [if 3 < rights / a % 8 then 114 else 45] ++ [if rights / a % 8 / 2 % 2 = 1 then 119 else 45] ++ [tl.getD (rights / a % 8 % 2 + 2 * (rights / b % 2)) 0])) (Ev.bin (Ev.var rfl) (Ev.item (Ev.item (Ev.tuple (.cons (Ev.strC (l := [45, 120, 83, 115])) (.cons (Ev.strC (l := [45, 120, 83, 115])) (.cons (Ev.strC (l := [45, 120, 84, 116])) .nil)))) (Ev.var rfl) (.tuple _) (op_item_tuple (d := dS tl) (by lia) (by rw [Int.toNat_natCast]; exact t3) (by simp))) (Ev.var rfl) (.str _) (op_item_str (x := tl.getD (rights / a % 8 % 2 + 2 * (rights / b % 2)) 0) (by lia) ?_ (by lia))) (op_add_str (by simp; lia))) (.inl rfl) ?_
    · rw [Int.toNat_natCast, List.getD_eq_getElem?_getD, List.getElem?_eq_getElem (by lia)]; rfl
    refine Ex.nil fun g S => ⟨_, ?_, S.to ⟨rfl, rfl, trivial⟩⟩
    rw [List.range_succ, List.foldl_append, List.foldl_cons, List.foldl_nil, ← hrow]
    unfold rowStep
    rw [ha, hb, htl]
  · intro row hrow
    exact Ex.ret (Ev.var rfl) fun g v S r => ret_of (fun a ha => List.mem_append_right _ ha) (hrow ▸ r)
end
end Mine
end
noncomputable section
open PySem PySem.Calls PySem.W PyProof.Rows
set_option Elab.async false
set_option maxRecDepth 100000
set_option linter.unusedVariables false
namespace Mine

/-- a new list of the frame's own under a name -/
abbrev Cx.own (c : Cx) (x : Str) (a : Addr) (ds : List PyData) : Cx := { c with U := a :: c.U, W := a :: c.W, ρ := (x, .val (.ref a)) :: c.ρ, μ := (a, ds) :: c.μ }

inductive Atom : PyData → Prop
  | none : Atom .none
  | bool (b : Bool) : Atom (.bool b)
  | int (i : Int) : Atom (.int i)
  | str (x : Str) : Atom (.str x)
theorem Atom.rd {U U' : List Addr} {h h' : Heap} {v : Value} {d : PyData} (x : Atom d) (r : Rd U h v d) : Rd U' h' v d := by
  cases x <;> cases r <;> constructor

section
variable {F : List Addr} {H : Heap} {U W : List Addr} {env : Env} {ρ : Rho} {μ : List (Addr × List PyData)} {h h' : Heap}
theorem St.perm {μ' : List (Addr × List PyData)} (S : St F H U W env ρ μ h) (p : μ.Perm μ') : St F H U W env ρ μ' h :=
  { S with mutsW := fun a ds m => S.mutsW a ds (p.mem_iff.mpr m), mapart := (p.map _).nodup_iff.mp S.mapart }
theorem mem_off {a b : Addr} {l : List Addr} : b ∈ l.filter (fun z => z != a) ↔ b ∈ l ∧ b ≠ a := by simp [List.mem_filter]
/-- a list of the frame's own looked at as a datum -/
theorem St.frozen {a : Addr} {ds : List PyData} {x : Str} (S : St F H U W env ρ ((a, ds) :: μ) h) (hx : ρ.lookup x = some (.val (.ref a))) :
    St F H (U.filter (fun z => z != a)) (W.filter (fun z => z != a)) env ((x, .dat (.list ds)) :: ρ) μ h := by
  obtain ⟨haW, vs, n, hg, hr⟩ := S.mutsW a ds (.head _)
  have less : ∀ b ∈ U.filter (fun z => z != a), b ∈ U := fun b hb => (mem_off.mp hb).1
  obtain ⟨m, hm⟩ := S.ns
  have hL : env.locals ≠ a := fun q => (mut_not_locals hg hm) q.symm
  exact {
    base := S.base
    offs := fun b hb => S.offs b (less b hb)
    kind := S.kind
    globals := S.globals
    builtins := S.builtins
    subW := fun b hb => mem_off.mpr ⟨S.subW b (mem_off.mp hb).1, (mem_off.mp hb).2⟩
    locW := mem_off.mpr ⟨S.locW, hL⟩
    ns := ⟨m, hm⟩
    cells := fun y b hb => let ⟨i, e, v, j⟩ := S.cells y b hb; ⟨mem_off.mpr ⟨i, fun q => mut_not_cell hg j q.symm⟩, e, v, j⟩
    apart := S.apart
    vars := fun y b e => by
      rw [List.lookup_cons] at e
      cases q : y == x with
      | true =>
        rw [q] at e; cases e
        obtain ⟨v, hv, hb⟩ := S.vars x _ hx
        have hb' : v = .ref a := hb
        subst hb'
        rw [eq_of_beq q]
        exact ⟨_, hv, .list (fun m' => (mem_off.mp m').2 rfl) hg (hr.less less)⟩
      | false =>
        rw [q] at e
        obtain ⟨v, hv, hb⟩ := S.vars y b e
        exact ⟨v, hv, Bd.ok_frame (fun b' o hb' e' => ⟨fun m' => hb' (less _ m'), e'⟩) hb⟩
    mutsW := fun b es hb => by
      obtain ⟨i, vs', n', g, r⟩ := S.mutsW b es (.tail _ hb)
      have hne : b ≠ a := fun z => by
        have := S.mapart
        rw [List.map_cons, List.nodup_cons] at this
        exact this.1 (List.mem_map.mpr ⟨(b, es), hb, z⟩)
      exact ⟨mem_off.mpr ⟨i, hne⟩, vs', n', g, r.less less⟩
    mapart := by
      have := S.mapart
      rw [List.map_cons, List.nodup_cons] at this
      exact this.2
    frs := fun b hb => ⟨mem_off.mpr ⟨(S.frs b hb).1, (S.frs b hb).2.not_list hg⟩, (S.frs b hb).2⟩ }
end

section
variable {c : Cx} {A : Around} {s s₁ s₂ : Shared} {v : Value} {d : PyData} {e e₁ e₂ e₃ : Expr} {d₁ d₂ : PyData} {pos p : Pos} {ds es : List PyData} {Q : Flow → Heap → Prop} {rest : List Stmt} {x : Str} {a : Addr} {μ' : List (Addr × List PyData)}

/-- the frame with one of its own lists as a datum -/
abbrev Cx.froze (c : Cx) (x : Str) (a : Addr) (ds : List PyData) (μ' : List (Addr × List PyData)) : Cx := { c with U := c.U.filter (fun z => z != a), W := c.W.filter (fun z => z != a), ρ := (x, .dat (.list ds)) :: c.ρ, μ := μ' }
theorem Ev.frozen (hμ : c.μ.Perm ((a, ds) :: μ')) (hx : c.ρ.lookup x = some (.val (.ref a))) (ha : Atom d) (h : Ev (c.froze x a ds μ') e d) : Ev c e d := fun A s ok S =>
  wp_of (h A s ok (St.frozen (St.perm S hμ) hx)) fun v s' g => ⟨g.1, ha.rd g.2⟩
theorem Tr.frozen {b : Bool} (hμ : c.μ.Perm ((a, ds) :: μ')) (hx : c.ρ.lookup x = some (.val (.ref a))) (h : Tr (c.froze x a ds μ') e b) : Tr c e b := fun A s ok S => h A s ok (St.frozen (St.perm S hμ) hx)

theorem Ex.perm {ss : List Stmt} (hμ : c.μ.Perm μ') (h : Ex { c with μ := μ' } ss Q) : Ex c ss Q := fun A s ok S => h A s ok (St.perm S hμ)
theorem own_step {U : List Addr} {h' : Heap} {tk : Nat} {s₁ s' : Shared} (hk : Keeps s s₁) (hs : s₁.heap.objs.size = a) {F : List Addr} (h : StepX (a :: U) F { s₁ with heap := h', toks := tk } s') (hh : ∀ b o, b ∉ U → s₁.heap.get? b = some o → h'.get? b = some o) : StepX U F s s' := by
  obtain ⟨h₁, t₁, rfl, k₁⟩ := hk
  obtain ⟨h₂, t₂, rfl, k₂⟩ := h
  refine ⟨h₂, t₂, rfl, fun b o hb e => ?_⟩
  have e₁ := k₁ b o e
  have hne : b ≠ a := fun q => by
    have := Heap.lt_size e₁
    rw [q] at this; rw [hs] at this
    exact Nat.lt_irrefl _ this
  exact k₂ b o (fun m => by rcases List.mem_cons.mp m with q | q; exact hne q; exact hb q) (hh b o hb e₁)

/-- x = [e, ..]: a list that the frame will change -/
theorem Ex.newOwn {es : List Expr} {p' p₁ : Pos} (h : Evs c pos es ds) (hz : ds.length ≤ 1000000) (hx : Stores c x) (hr : ∀ a, a ∉ c.U → Ex (c.own x a ds) rest Q) : Ex c (.Assign [.Name x p'] (.List es pos) p₁ :: rest) Q := fun A s ok S => by
  refine wpAny_execs_cons (wpAny_Assign_Name (List_ (wp_of (h A s ok S) fun vs s₁ g₁ => ?_)) rfl)
  have S₁ := S.up g₁.1
  refine wpAny_newObj_type ?_ (by show vs.toArray.size ≤ sizeLine; rw [List.size_toArray, g₁.2.length]; exact sz8 hz)
  have haU : s₁.heap.objs.size ∉ c.U := S₁.new (Nat.le_refl _)
  generalize hsz : s₁.heap.objs.size = a at *
  have S₂ : St c.F c.H (a :: c.U) (a :: c.W) c.env c.ρ ((a, ds) :: c.μ) (s₁.heap.push (lo vs 0)) := by subst hsz; exact St.pushMut S₁ g₁.2
  have hx' : Stores { c with U := a :: c.U, W := a :: c.W, μ := (a, ds) :: c.μ } x := by
    rcases hx with q | ⟨q, b, hb, hbW⟩
    · exact .inl q
    · exact .inr ⟨q, b, hb, .tail _ hbW⟩
  refine wp_of (store_of (c := { c with U := a :: c.U, W := a :: c.W, μ := (a, ds) :: c.μ }) (s := { s₁ with heap := s₁.heap.push (lo vs 0) }) (v := .ref a) (b := .val (.ref a)) S₂ hx' rfl) fun _ s₂ g₂ => ?_
  refine wp_of (hr a haU A s₂ ok g₂.2) fun f s₃ g₃ => ⟨own_step g₁.1 hsz (g₂.1.tx g₃.1) fun b o _ e => Heap.get?_push_of_some _ e, g₃.2⟩

theorem exec_expr_none {e : Expr} {Q : Flow → Shared → Prop} {E : Value → Shared → Prop} (h : wpAny c.M A (eval e c.env) (fun v s' => v = .none ∧ Q .next s') E s) (hi : interactive c.env = false := by rfl) (hs : swapsWith e none pos.line c.env = pure false := by rfl) : wpAny c.M A (exec (.Expr e pos) c.env) Q E s :=
  wpAny_Expr (wpAny_mono h (fun v s' g => by obtain ⟨rfl, q⟩ := g; exact q) fun _ _ q => q) hi hs

/-- x.append(e) -/
theorem Ex.append {ap np p₁ : Pos} (hμ : c.μ = (a, ds) :: μ') (hx : c.ρ.lookup x = some (.val (.ref a))) (he : Ev c e d) (hz : ds.length ≤ 1000000) (hr : Ex { c with μ := (a, ds ++ [d]) :: μ' } rest Q)
    (hline : (ap.endLine == pos.line) = true := by rfl) (hse : starEach [e] c.env = [(false, eval e c.env)] := by rfl) (hd : (x == ("__debug__" : Str)) = false := by decide) (hc : (x == ("__classdict__" : Str)) = false := by decide)
    (hi : interactive c.env = false := by rfl) (hs : swapsWith (.Call (.Attribute (.Name x np) (Str.ofString "append") ap) [e] [] pos) none p₁.line c.env = pure false := by rfl) :
    Ex c (.Expr (.Call (.Attribute (.Name x np) (Str.ofString "append") ap) [e] [] pos) p₁ :: rest) Q := fun A s ok S => by
  refine wpAny_execs_cons (exec_expr_none ?_ hi hs)
  obtain ⟨v, hv, hb⟩ := S.vars x _ hx
  have hb' : v = .ref a := hb
  subst hb'
  refine wpAny_Call_method (T := "list") (id := "list.append") rfl (by rw [hse]; rfl) hline PySem.F.plainAttrs_list slot_list_append type_list_append (load_var S hv ?_ hd hc)
  obtain ⟨haW, vs, n, hg, hrd⟩ := S.mutsW a ds (by rw [hμ]; exact .head _)
  refine ⟨⟨_, hg, rfl⟩, fun b q => by cases q; exact ⟨_, hg, rfl⟩, Calls.callWith_builtin (starEach_plain (by rw [hse]; rfl) pos) (args_of (wp_of (Evs.cons he .nil (by rw [hse]; rfl) A s ok S) fun ws s₁ g₁ => ?_) (by rw [hse]; rfl))⟩
  cases g₁.2 with | cons r r' => cases r' with | nil =>
  have S₁ := S.up g₁.1
  have hg₁ := keeps_le g₁.1 _ _ hg
  refine append_of hg₁ (by rw [hrd.length]; exact hz) fun h' hg' hs' => ⟨rfl, ?_⟩
  have S₂ : Cx.S { c with μ := (a, ds ++ [d]) :: μ' } h' := St.setMut (ds := ds) (hμ ▸ S₁) hs' hg' ((hrd.up (keeps_le g₁.1)).append (.one r))
  refine wp_of (hr A { s₁ with heap := h' } ok S₂) fun f s₃ g₃ => ⟨(StepU.of_keeps g₁.1).tx (StepU.tx (s' := { s₁ with heap := h' }) ⟨h', _, rfl, fun b o hb e => (hs'.2 b fun q => hb (q ▸ haW)).trans e⟩ g₃.1), g₃.2⟩

/-- return x: the frame's own list -/
theorem Ex.retOwn {np p₁ : Pos} (hμ : (a, ds) ∈ c.μ) (hx : c.ρ.lookup x = some (.val (.ref a))) (h : ∀ g vs n, c.S g → g.get? a = some (lo vs n) → RdL c.U g vs ds → Q (.ret (.ref a)) g) (hd : (x == ("__debug__" : Str)) = false := by decide) (hc : (x == ("__classdict__" : Str)) = false := by decide) : Ex c (.Return (some (.Name x np)) p₁ :: rest) Q := fun A s ok S => by
  obtain ⟨v, hv, hb⟩ := S.vars x _ hx
  have hb' : v = .ref a := hb
  subst hb'
  obtain ⟨haU, vs, n, hg, hr⟩ := S.muts a ds hμ
  exact wpAny_execs_cons (wpAny_Return_some (load_var S hv ⟨.refl _ _, h _ vs n S hg hr⟩ hd hc))
end
end Mine
end
noncomputable section
open PySem PySem.Calls PySem.W PyProof.Rows
set_option Elab.async false
set_option maxRecDepth 100000
set_option linter.unusedVariables false
namespace Mine

/-- the words of a text -/
def cutT : Nat → Tx → Nat → List Tx
  | 0, _, _ => []
  | n + 1, t, r => if t = [] then [] else t.take (1 + r % 8) :: cutT n (t.drop (1 + r % 8)) (r / 8)
theorem cutT_nil (n r : Nat) : cutT n [] r = [] := by cases n <;> simp [cutT]

section
variable {prog : Program} {w : World} {H : Heap} {c : Cx}
theorem retOwn_of {c : Cx} {U : List Addr} {ds : List PyData} {g : Heap} {a : Addr} {vs : List Value} {n : Nat} (hU : ∀ a ∈ U, a ∈ c.U) (ha : a ∉ U) (hg : g.get? a = some (lo vs n)) (r : RdL c.U g vs ds) : ∃ u, (Flow.ret (.ref a)) = .ret u ∧ Rd U g u (.list ds) := ⟨_, rfl, .list ha hg (r.less hU)⟩

theorem cut_fn (T : Wd (KK w) H) (t : Tx) (k : Nat) (hz : t.length ≤ 1000) : Fn prog w H 1 136 [dS t, .int (k : Int)] (dSs (cutT t.length t k)) := by
  refine in136 T rfl fun L U hLU => ?_
  delta bd136
  refine Ex.newOwn .nil (by simp) (.inl rfl) fun a ha => ?_
  refine Ex.assign (Ev.var rfl) (.inl rfl) (Ex.assign (Ev.var rfl) (.inl rfl) ?_)
  refine Ex.while (σ := List Tx × Nat × Tx) (fun x => [(Str.ofString "left", .dat (dS x.2.2)), (Str.ofString "rest", .dat (.int (x.2.1 : Int))), (Str.ofString "words", .val (.ref a))]) (fun x => [(a, x.1.map dS)])
    (fun x => x.1.length + x.2.2.length ≤ 1000 ∧ ∃ n, x.2.2.length ≤ n ∧ x.1 ++ cutT n x.2.2 x.2.1 = cutT t.length t k) (fun x => x.2.2.length) (fun x => decide (x.2.2 ≠ [])) ([], k, t) (fun g S => S.to ⟨rfl, rfl, rfl, trivial⟩) ⟨by simpa using hz, t.length, Nat.le_refl _, rfl⟩ ?_ ?_ ?_
  · intro x hx
    refine Tr.plain (Ev.var rfl) ?_ (by show (mk x.2.2).length ≤ _; rw [mk_length]; have := hx.1; omega)
    show ((mk x.2.2).length != 0) = _
    rw [mk_length]
    cases x.2.2 <;> simp
  · rintro ⟨words, rest, left⟩ ⟨hl, n, hn, he⟩ hb
    have hne : left ≠ [] := of_decide_eq_true hb
    have hpos : 0 < left.length := List.length_pos_iff.mpr hne
    dsimp only at hl hn he ⊢
    have one : ∀ {c : Cx} {p1 p2 p3 : Pos} {k1 k2 : Nat}, c.ρ.lookup (Str.ofString "rest") = some (.dat (.int (rest : Int))) → Ev c (.BinOp (.Constant (.int 1) k1 p1) .Add (.BinOp (.Name (Str.ofString "rest") p2) .Mod (.Constant (.int 8) k2 p2) p3) p1) (.int ((1 + rest % 8 : Nat) : Int)) := fun h => Ev.bin Ev.int (Ev.bin (Ev.var h) Ev.int (op_mod_nat (b := 8) (by decide))) (op_add_nat (a := 1))
    refine Ex.append rfl rfl (Ev.strTo (b := 1 + rest % 8) (Ev.var rfl) (Ev.bin Ev.int (Ev.bin (Ev.var rfl) Ev.int (op_mod_nat (b := 8) (by decide))) (op_add_nat (a := 1))) (by omega)) (by simp; omega) ?_
    refine Ex.assign (Ev.strFrom (a := 1 + rest % 8) (Ev.var rfl) (Ev.bin Ev.int (Ev.bin (Ev.var rfl) Ev.int (op_mod_nat (b := 8) (by decide))) (op_add_nat (a := 1))) (by omega)) (.inl rfl) ?_
    refine Ex.assign (Ev.bin (Ev.var rfl) Ev.int (op_div_nat (b := 8) (by decide) (by decide))) (.inl rfl) ?_
    refine Ex.nil fun g S => ⟨(words ++ [left.take (1 + rest % 8)], rest / 8, left.drop (1 + rest % 8)), ⟨?_, n - 1, ?_, ?_⟩, ?_, ?_⟩
    · simp only [List.length_append, List.length_singleton, List.length_drop]; omega
    · simp only [List.length_drop]; omega
    · obtain ⟨m, rfl⟩ : ∃ m, n = m + 1 := ⟨n - 1, by omega⟩
      rw [← he]
      simp only [cutT, if_neg hne, List.append_assoc, List.singleton_append, Nat.add_sub_cancel]
    · simp only [List.length_drop]; omega
    · have e : (words ++ [left.take (1 + rest % 8)]).map dS = words.map dS ++ [dS (left.take (1 + rest % 8))] := by simp
      rw [e]
      exact S.to ⟨rfl, rfl, rfl, trivial⟩
  · rintro ⟨words, rest, left⟩ ⟨hl, n, hn, he⟩ hb
    have hne : left = [] := by simpa using hb
    dsimp only at hl hn he ⊢
    subst hne
    rw [cutT_nil, List.append_nil] at he
    subst he
    exact Ex.retOwn (.head _) rfl fun g vs n S hg hr => retOwn_of (fun b hb => .tail _ (List.mem_append_right _ hb)) (fun m => ha (List.mem_append_right _ m)) hg hr
end
end Mine
end
noncomputable section
open PySem PySem.Calls PySem.W PyProof.Rows
set_option Elab.async false
set_option maxRecDepth 100000
set_option linter.unusedVariables false
namespace Mine

/-- the shortest part of which a word is a repetition -/
def perT (t : Tx) (s : Nat) : Bool := decide (t = (List.replicate (t.length / s) (t.take s)).flatten)
def sizeFrom : Nat → Tx → Nat → Nat
  | 0, _, s => s
  | n + 1, t, s => if perT t s = true then s else sizeFrom n t (s + 1)
def sizeT (t : Tx) : Nat := sizeFrom t.length t 1
theorem perT_self {t : Tx} (h : t ≠ []) : perT t t.length = true := by
  unfold perT
  rw [Nat.div_self (List.length_pos_iff.mpr h)]
  simp
theorem sizeFrom_spec (t : Tx) : ∀ n s, perT t (s + n) = true → s ≤ sizeFrom n t s ∧ sizeFrom n t s ≤ s + n ∧ perT t (sizeFrom n t s) = true ∧ ∀ j, s ≤ j → j < sizeFrom n t s → perT t j = false
  | 0, s, h => ⟨Nat.le_refl _, Nat.le_refl _, h, fun j h1 h2 => absurd h2 (Nat.not_lt.mpr h1)⟩
  | n + 1, s, h => by
    unfold sizeFrom
    by_cases q : perT t s = true
    · rw [if_pos q]; exact ⟨Nat.le_refl _, by lia, q, fun j h1 h2 => absurd h2 (Nat.not_lt.mpr h1)⟩
    · rw [if_neg q]
      obtain ⟨h1, h2, h3, h4⟩ := sizeFrom_spec t n (s + 1) (by rw [Nat.add_assoc, Nat.add_comm 1 n]; exact h)
      refine ⟨by lia, by lia, h3, fun j k1 k2 => ?_⟩
      rcases Nat.lt_or_ge j (s + 1) with r | r
      · have : j = s := by lia
        rw [this]; simpa using q
      · exact h4 j r k2
theorem sizeT_spec {t : Tx} (h : t ≠ []) : 1 ≤ sizeT t ∧ sizeT t ≤ t.length ∧ perT t (sizeT t) = true ∧ ∀ j, 1 ≤ j → j < sizeT t → perT t j = false := by
  have hp := List.length_pos_iff.mpr h
  obtain ⟨m, hm⟩ : ∃ m, t.length = m + 1 := ⟨t.length - 1, by lia⟩
  have h1 : perT t (1 + m) = true := by rw [Nat.add_comm, ← hm]; exact perT_self h
  have e : sizeT t = sizeFrom m t 1 := by
    unfold sizeT
    rw [hm]
    have : ∀ n s, perT t (s + n) = true → sizeFrom (n + 1) t s = sizeFrom n t s := by
      intro n
      induction n with
      | zero => intro s h; show (if perT t s = true then s else _) = s; exact if_pos h
      | succ n ih =>
        intro s h
        rw [sizeFrom]
        conv => rhs; rw [sizeFrom]
        split
        · rfl
        · exact ih (s + 1) (by rw [Nat.add_assoc, Nat.add_comm 1 n]; exact h)
    exact this m 1 h1
  rw [e]
  obtain ⟨h2, h3, h4, h5⟩ := sizeFrom_spec t m 1 h1
  exact ⟨h2, by lia, h4, h5⟩
theorem sizeT_unique {t : Tx} {s : Nat} (h : t ≠ []) (h1 : 1 ≤ s) (h2 : perT t s = true) (h3 : ∀ j, 1 ≤ j → j < s → perT t j = false) : s = sizeT t := by
  obtain ⟨k1, k2, k3, k4⟩ := sizeT_spec h
  rcases Nat.lt_trichotomy s (sizeT t) with q | q | q
  · rw [k4 s h1 q] at h2; cases h2
  · exact q
  · rw [h3 _ k1 q] at k3; cases k3
def partOf (t : Tx) : Tx := minT (turnsT (t.take (sizeT t)))
def partsOf (t : Tx) : List Tx := List.replicate (t.length / sizeT t) (partOf t)
def partsT (l : List Tx) : List Tx := (l.map partsOf).flatten

section
variable {prog : Program} {w : World} {H : Heap} {c : Cx}
theorem op_iadd_int {a b : Int} : Op2 c (inplaceOp .Add) (.int a) (.int b) (.int (a + b)) := fun A s v₁ v₂ ok S r₁ r₂ => by
  cases r₁; cases r₂; exact PyProof.Rows.iadd_int (Got.tok _ (.int _ _))
theorem dSs_replicate (n : Nat) (t : Tx) : (List.replicate n [dS t]).flatten = (List.replicate n t).map dS := by
  induction n with
  | zero => rfl
  | succ n ih => rw [List.replicate_succ, List.flatten_cons, ih, List.replicate_succ, List.map_cons]; rfl
theorem partsOf_len {t : Tx} : (partsOf t).length ≤ t.length := by
  unfold partsOf; rw [List.length_replicate]; exact Nat.div_le_self _ _

theorem parts_fn (T : Wd (KK w) H) (l : List Tx) (hl : ∀ t ∈ l, t ≠ [] ∧ t.length ≤ 20) (hz : l.length ≤ 20) : Fn prog w H 2 177 [dSs l] (dSs (partsT l)) := by
  refine in177 T rfl fun L U hLU => ?_
  delta bd177
  refine Ex.assign (d := dSs []) (Ev.list .nil) (.inl rfl) ?_
  refine Ex.for (σ := List Tx) (fun x => [(Str.ofString "parts", .dat (dSs x))]) (fun x d => [(Str.ofString "word", .dat d), (Str.ofString "parts", .dat (dSs x))]) (fun _ => []) (fun i x => x = partsT (l.take i) ∧ x.length ≤ 20 * i) [] (IterOf.list (ds := l.map dS) (Ev.var rfl)) (fun g S => S.to ⟨rfl, trivial⟩) ⟨by simp [partsT], by simp⟩ (fun i x d hd hx => Asg.name (.inl rfl)) ?_ ?_
  · intro i parts d hd hx
    rw [List.getElem?_map] at hd
    obtain ⟨t, ht, rfl⟩ := Option.map_eq_some_iff.mp hd
    obtain ⟨hne, hlen⟩ := hl t (List.mem_of_getElem? ht)
    have hi : i < l.length := (List.getElem?_eq_some_iff.mp ht).1
    obtain ⟨s1, s2, s3, s4⟩ := sizeT_spec hne
    refine Ex.assign Ev.int (.inl rfl) ?_
    have hdiv : ∀ s, t.length / s ≤ 20 := fun s => Nat.le_trans (Nat.div_le_self _ _) hlen
    have len : ∀ {c : Cx} {sz : Nat} {p1 p2 p3 p4 p5 : Pos}, 1 ≤ sz → sz ≤ 20 → (∀ b, c.H = b → True) → Wd (KK w) c.H → c.env.kindOf (Str.ofString "len") = some .globalImplicit → c.ρ.lookup (Str.ofString "word") = some (.dat (dS t)) → c.ρ.lookup (Str.ofString "size") = some (.dat (.int (sz : Int))) → starEach [Expr.Name (Str.ofString "word") p2] c.env = [(false, eval (.Name (Str.ofString "word") p2) c.env)] →
        Ev c (.BinOp (.Call (.Name (Str.ofString "len") p1) [.Name (Str.ofString "word") p2] [] p3) .FloorDiv (.Name (Str.ofString "size") p4) p5) (.int ((t.length / sz : Nat) : Int)) := fun h1 h2 _ T hk hw hs he =>
      Ev.bin (Ev.callB (NameIs.boot T (m_len w) b_len hk) (.cons (Ev.var hw) .nil (by rw [he]; rfl)) (c_len_str (by lia)) (by rw [he]; rfl) (by rw [he]; rfl)) (Ev.var hs) (op_div_nat h1 (by lia))
    refine Ex.while (σ := Nat) (fun s => [(Str.ofString "size", .dat (.int (s : Int))), (Str.ofString "word", .dat (dS t)), (Str.ofString "parts", .dat (dSs parts))]) (fun _ => []) (fun s => 1 ≤ s ∧ s ≤ sizeT t ∧ ∀ j, 1 ≤ j → j < s → perT t j = false) (fun s => 20 - s) (fun s => !perT t s) 1 (fun g S => S.to ⟨rfl, rfl, rfl, trivial⟩) ⟨Nat.le_refl _, s1, fun j h1 h2 => absurd h2 (by lia)⟩ ?_ ?_ ?_
    · intro s hs
      have h20 : s ≤ 20 := by lia
      have := hdiv s
      refine Tr.cmp (d₂ := dS (List.replicate (t.length / s) (t.take s)).flatten) (Ev.var rfl) (Ev.bin (Ev.strTo (Ev.var rfl) (Ev.var rfl) (by lia)) (len hs.1 h20 (fun _ _ => trivial) T rfl rfl rfl rfl) (op_mul_str ?_ (by lia) (by simp; lia))) op_ne_str
      rw [List.length_take]
      exact Nat.le_trans (Nat.mul_le_mul (Nat.min_le_left _ _) this) (by lia)
    · intro s hs hb
      have hp : perT t s = false := by simpa using hb
      have hlt : s < sizeT t := by
        rcases Nat.lt_or_ge s (sizeT t) with q | q
        · exact q
        · have : s = sizeT t := by lia
          rw [this, s3] at hp; cases hp
      refine Ex.aug rfl Ev.int op_iadd_int (.inl rfl) (Ex.nil fun g S => ⟨s + 1, ⟨by lia, hlt, fun j h1 h2 => ?_⟩, by lia, S.to ⟨rfl, rfl, rfl, trivial⟩⟩)
      rcases Nat.lt_or_ge j s with q | q
      · exact hs.2.2 j h1 q
      · have : j = s := by lia
        rw [this]; exact hp
    · intro s hs hb
      have hp : perT t s = true := by simpa using hb
      have es := sizeT_unique hne hs.1 hp hs.2.2
      subst es
      have hd20 := hdiv (sizeT t)
      have htk : (t.take (sizeT t)).length = sizeT t := by rw [List.length_take]; lia
      refine Ex.assign (d := dSs (parts ++ partsOf t)) ?_ (.inl rfl) (Ex.nil fun g S => ⟨_, ⟨?_, ?_⟩, S.to ⟨rfl, trivial⟩⟩)
      · have e : dSs (parts ++ partsOf t) = .list (parts.map dS ++ (List.replicate (t.length / sizeT t) [dS (partOf t)]).flatten) := by
          rw [dSs_replicate]; simp [partsOf]
        rw [e]
        refine Ev.bin (Ev.var rfl) (Ev.bin (Ev.list (.cons (Ev.callB (NameIs.boot T (m_min w) b_min) (.cons (Ev.callF (NameIs.glob T (g_law_turns w)) (.cons (Ev.strTo (Ev.var rfl) (Ev.var rfl) (by lia)) .nil) ((turns_fn T _ (by lia)).callD (Nat.le_refl _)) (T.k _ _ (id rfl)) rfl) .nil) (c_min ?_)) .nil)) (len s1 (by lia) (fun _ _ => trivial) T rfl rfl rfl rfl) (op_mul_list ?_ (by lia))) (op_add_list ?_)
        · unfold turnsT
          rw [htk]
          intro q
          have := congrArg List.length q
          simp at this
          lia
        · simp; lia
        · rw [dSs_replicate]; simp only [List.length_map, List.length_replicate]; lia
      · rw [hx.1, List.take_add_one, ht]
        simp [partsT]
      · rw [List.length_append]
        have := partsOf_len (t := t)
        lia
  · intro x hx
    rw [List.length_map, List.take_length] at hx
    exact Ex.ret (Ev.var rfl) fun g v S r => ret_of (fun a ha => List.mem_append_right _ ha) (hx.1 ▸ r)
end
end Mine
end
noncomputable section
open PySem PySem.Calls PySem.W PyProof.Rows
set_option Elab.async false
set_option maxRecDepth 100000
set_option linter.unusedVariables false
namespace Mine

section
variable {c : Cx} {A : Around} {s s₁ s₂ : Shared} {v : Value} {d : PyData} {pos : Pos} {ds es : List PyData}

/-- the tests of a clause -/
def tests (ifs : List Expr) (env : Env) : Sem Bool := forIn ifs true fun t r => if r = true then do let ok ← isTrue t env (eval t env); pure (ForInStep.yield ok) else pure (ForInStep.yield r)

/-- the turns of one clause of a comprehension, whatever it does with each item -/
theorem comp_loop {α : Type} {as : List α} (g : α → PyData) {elt t : Expr} {gens : List Comprehension} {depth : Nat} {ifs : List Expr} {scope : Scope} {cl : List (Str × Addr)} {C D : Addr} {ρ₀ : Rho} {go : Sem PySem.Fin} {p₀ : Pos} (ρt : α → Rho) (p : α → Bool) (f : α → List PyData) {es₀ : List PyData} {I : Addr} {fp : List Addr} {P : Nat → Value → Prop} {Sx : Nat → Heap → Prop} {R : Result → Shared → Prop}
    (W : Walks c.prog c.w A I fp [I] as.length P Sx) (hshape : ∀ i h, Sx i h → ∃ o n vs, h.get? I = some o ∧ o.cls = .type n ∧ o.data = .fields vs ∧ ownsPair n = false ∧ n ≠ "range")
    (offI : I ∉ C :: D :: c.U) (offH : c.H.get? I = none) (offF : ∀ b ∈ fp, b ∉ C :: D :: c.U) (hitem : ∀ i v, i < as.length → P i v → ∃ x, as[i]? = some x ∧ Rd (I :: C :: D :: c.U) s.heap v (g x))
    (hturn : compTurn (.ListComp elt gens scope pos) depth (.ref I) (.ref D) (compEnvC scope cl C c.env) = (do
      standAt p₀
      match ← pyNext (.ref I) with
      | none => pure (.done .next)
      | some v =>
        letOwnedTupleGo t (.ref I) v
        PySem.assign t (compEnvC scope cl C c.env) v
        let ok ← tests ifs (compEnvC scope cl C c.env)
        if ok = true then go else again (.compLoop (.ListComp elt gens scope pos) depth (.ref I) (.ref D) (compEnvC scope cl C c.env))))
    (hasg : ∀ x ∈ as, ∀ es, AsgL (c.comp scope cl C D ρ₀ es) t (g x) (ρt x)) (hback : ∀ x ∈ as, ∀ y b, ρ₀.lookup y = some b → (ρt x).lookup y = some b)
    (htest : ∀ x ∈ as, ∀ es, TrIfs (c.comp scope cl C D (ρt x) es) ifs (p x))
    (hemit : ∀ i x, as[i]? = some x → p x = true → ∀ s', (c.comp scope cl C D (ρt x) (es₀ ++ ((as.take i).filter p).flatMap f)).S s'.heap → ∀ (Q : PySem.Fin → Shared → Prop) (E : Value → Shared → Prop), (∀ s'', StepU [C, D] s' s'' → (c.comp scope cl C D ρ₀ (es₀ ++ ((as.take i).filter p).flatMap f ++ f x)).S s''.heap → wpAny c.M A (again (.compLoop (.ListComp elt gens scope pos) depth (.ref I) (.ref D) (compEnvC scope cl C c.env))) Q E s'') → wpAny c.M A go Q E s')
    (ok : Ok c.k c.fr A) (S : (c.comp scope cl C D ρ₀ es₀).S s.heap) (hst : Sx 0 s.heap)
    (hR : ∀ s' : Shared, StepU [I, C, D] s s' → (c.comp scope cl C D ρ₀ (es₀ ++ (as.filter p).flatMap f)).S s'.heap → R (.ok .next) s') :
    codeAny c.M A (.compLoop (.ListComp elt gens scope pos) depth (.ref I) (.ref D) (compEnvC scope cl C c.env)) R s := by
  have CD : ∀ {b : Addr}, b ∈ [C, D] → b ∈ C :: D :: c.U := fun {b} m => by
    rcases List.mem_cons.mp m with q | m
    · exact q ▸ .head _
    · exact .tail _ (List.mem_singleton.mp m ▸ .head _)
  refine codeAny_loop rfl (fun n s' => ∃ i, i ≤ as.length ∧ n = as.length + 1 - i ∧ (c.comp scope cl C D ρ₀ (es₀ ++ ((as.take i).filter p).flatMap f)).S s'.heap ∧ Sx i s'.heap ∧ StepU [I, C, D] s s') (fun n s' hI => ?_) (as.length + 1) ⟨0, Nat.zero_le _, rfl, by simpa using S, hst, .refl _ _⟩
  obtain ⟨i, hil, rfl, Sc, hst, hstep⟩ := hI
  show wpAny _ A ((compTurn (.ListComp elt gens scope pos) depth (.ref I) (.ref D) (compEnvC scope cl C c.env)).onRaise (fun x => do noteFrame x (compEnvC scope cl C c.env); theTreesLotGoes x)) _ _ s'
  refine wpAny_noted ?_
  rw [hturn]
  refine wpAny_bind (wpAny_standAt (wpAny_bind ?_))
  obtain ⟨o, nm, fv, ho, hc, hd, hown, hrg⟩ := hshape i _ hst
  by_cases hlt : i < as.length
  · refine W.item i s' _ _ hlt hst fun v h₁' tk₁ hP hst₁' hk₁ => ?_
    have S₁ : (c.comp scope cl C D ρ₀ (es₀ ++ ((as.take i).filter p).flatMap f)).S h₁' := St.off Sc ho (.fields hd) (by rw [hc]; intro q; exact (hrg (by injection q)).elim) offI offH fun b o' hb e => hk₁ b o' (fun q => hb (List.mem_singleton.mp q)) e
    obtain ⟨x, hx, hv⟩ := hitem i v hlt hP
    have hmem : x ∈ as := List.mem_of_getElem? hx
    have hv₁ : Rd (C :: D :: c.U) h₁' v (g x) := Rd.frame (U := I :: C :: D :: c.U) (fun b o' hb e' => ⟨fun m => hb (.tail _ m), hk₁ b o' (fun q => hb (List.mem_singleton.mp q ▸ .head _)) (hstep.at (fun m => hb (by rcases List.mem_cons.mp m with q | m; exact q ▸ .head _; exact .tail _ (CD m))) e')⟩) hv
    obtain ⟨oI, nI, fI, hoI, hcI, hdI, hownI, _⟩ := hshape (i + 1) _ hst₁'
    refine wpAny_bind (owned_go (c := c) hoI hcI hdI hownI ?_)
    refine wpAny_bind (wp_of (hasg x hmem _ A { s' with heap := h₁', toks := tk₁ } v ok S₁ hv₁) fun _ s₃ g₃ => ?_)
    refine wpAny_bind (wp_of (htest x hmem _ A s₃ ok g₃.2) fun r s₄ g₄ => ?_)
    rw [g₄.2]
    have hS₄ : (c.comp scope cl C D (ρt x) (es₀ ++ ((as.take i).filter p).flatMap f)).S s₄.heap := St.up g₃.2 (keeps_le g₄.1)
    have st₁ : StepU [I, C, D] s' { s' with heap := h₁', toks := tk₁ } := ⟨h₁', tk₁, rfl, fun b o hb e => hk₁ b o (fun q => hb (List.mem_singleton.mp q ▸ .head _)) e⟩
    have st₄ : StepU [C, D] { s' with heap := h₁', toks := tk₁ } s₄ := (g₃.1.less fun a ha => .inl (by rw [List.mem_singleton.mp ha]; exact .head _)).trans (.of_keeps g₄.1)
    have take_eq : as.take (i + 1) = as.take i ++ [x] := by rw [List.take_add_one, hx]; rfl
    have next : ∀ s₅ : Shared, StepU [C, D] { s' with heap := h₁', toks := tk₁ } s₅ → (c.comp scope cl C D ρ₀ (es₀ ++ ((as.take (i + 1)).filter p).flatMap f)).S s₅.heap → ∃ m, m < as.length + 1 - i ∧ ∃ i', i' ≤ as.length ∧ m = as.length + 1 - i' ∧
        (c.comp scope cl C D ρ₀ (es₀ ++ ((as.take i').filter p).flatMap f)).S s₅.heap ∧ Sx i' s₅.heap ∧ StepU [I, C, D] s s₅ := fun s₅ st₅ hS₅ => by
      refine ⟨as.length + 1 - (i + 1), by lia, i + 1, hlt, rfl, hS₅, W.frame _ _ _ hst₁' fun b hb o e => st₅.at (fun m => offF b hb (CD m)) e, hstep.trans (st₁.trans (st₅.less fun a ha => .inl (.tail _ ha)))⟩
    cases hp : p x with
    | false =>
      simp only [Bool.false_eq_true, if_false]
      refine wpAny_pure ⟨rfl, next s₄ st₄ ?_⟩
      have : (as.take (i + 1)).filter p = (as.take i).filter p := by rw [take_eq, List.filter_append]; simp [hp]
      rw [this]; exact St.sub hS₄ (hback x hmem) (fun _ h => h) hS₄.mapart
    | true =>
      simp only [if_true]
      refine hemit i x hx hp s₄ hS₄ _ _ fun s₅ g₅ g₅' => wpAny_pure ⟨rfl, next s₅ (st₄.trans g₅) ?_⟩
      have : ((as.take (i + 1)).filter p).flatMap f = ((as.take i).filter p).flatMap f ++ f x := by rw [take_eq, List.filter_append]; simp [hp]
      rw [this, ← List.append_assoc]
      exact g₅'
  · obtain rfl : i = as.length := by lia
    refine W.done s' _ _ hst fun h₁' tk₁ hk₁ => wpAny_pure (hR _ (hstep.trans ⟨h₁', tk₁, rfl, fun b o hb e => hk₁ b o (fun q => hb (List.mem_singleton.mp q ▸ .head _)) e⟩) ?_)
    rw [List.take_length] at Sc
    exact St.off Sc ho (.fields hd) (by rw [hc]; intro q; exact (hrg (by injection q)).elim) offI offH fun b o' hb e => hk₁ b o' (fun q => hb (List.mem_singleton.mp q)) e

theorem compStart1 {prog : Program} {w : World} {R : Result → Shared → Prop} {elt : Expr} {g₀ g₁ : Comprehension} {scope : Scope} {it acc : Value} {env : Env} (hg : g₁.is_async = 0)
    (h0 : codeAny (model prog w) A (.compLoop (.ListComp elt [g₀, g₁] scope pos) 1 it acc env) R s)
    (h : wpAny (model prog w) A (pyIter it) (fun it' s' => codeAny (model prog w) A (.compLoop (.ListComp elt [g₀, g₁] scope pos) 1 it' acc env) R s') (notedBy (model prog w) A env fun x s' => R (.error x) s') s) :
    codeAny (model prog w) A (.compStart (.ListComp elt [g₀, g₁] scope pos) 1 it acc env) R s := by
  obtain ⟨t₁, i₁, f₁, a₁⟩ := g₁
  dsimp only at hg
  subst hg
  refine codeAny_of_tree ?_
  show wpAny _ _ ((compStart (.ListComp elt [g₀, ⟨t₁, i₁, f₁, 0⟩] scope pos) 1 it acc env).onRaise (fun x => do noteFrame x env; standAt theWindowsPlace)) _ _ s
  refine wpAny_notedAt ?_
  unfold compStart
  show wpAny _ _ (ask >>= _) _ _ s
  refine wpAny_bind (wpAny_askSetting (wpAny_ite ?_))
  split
  · first
      | exact wpAny_bind (wpAny_pure (wpAny_pure (And.intro rfl h0)))
      | exact wpAny_pure (And.intro rfl h0)
  · first
      | exact wpAny_bind (wpAny_rule (wpAny_bind (wpAny_standAt (wpAny_bind (wpAny_mono h (fun it' s' h' => wpAny_pure (And.intro rfl h')) fun _ _ x => x)))))
      | (refine wpAny_bind (wpAny_rule ?_); show wpAny _ _ (standAt i₁.pos >>= _) _ _ s; exact wpAny_bind (wpAny_standAt (wpAny_bind (wpAny_mono h (fun it' s' h' => wpAny_pure (And.intro rfl h')) fun _ _ x => x))))

theorem compTurn_one (elt t iter t₂ iter₂ : Expr) (ifs ifs₂ : List Expr) (scope : Scope) (pos : Pos) (it acc : Value) (env : Env) : compTurn (.ListComp elt [⟨t, iter, ifs, 0⟩, ⟨t₂, iter₂, ifs₂, 0⟩] scope pos) 1 it acc env = (do
      standAt iter₂.pos
      match ← pyNext it with
      | none => pure (.done .next)
      | some v =>
        letOwnedTupleGo t₂ it v
        PySem.assign t₂ env v
        let ok ← tests ifs₂ env
        if ok = true then (do
          let _ ← (do let _ ← call (.builtin "list.append") [acc, ← eval elt env])
          again (.compLoop (.ListComp elt [⟨t, iter, ifs, 0⟩, ⟨t₂, iter₂, ifs₂, 0⟩] scope pos) 1 it acc env)) else
         again (.compLoop (.ListComp elt [⟨t, iter, ifs, 0⟩, ⟨t₂, iter₂, ifs₂, 0⟩] scope pos) 1 it acc env)) := by rfl
theorem compTurn_zero (elt t iter t₂ iter₂ : Expr) (ifs ifs₂ : List Expr) (scope : Scope) (pos : Pos) (it acc : Value) (env : Env) : compTurn (.ListComp elt [⟨t, iter, ifs, 0⟩, ⟨t₂, iter₂, ifs₂, 0⟩] scope pos) 0 it acc env = (do
      standAt iter.pos
      match ← pyNext it with
      | none => pure (.done .next)
      | some v =>
        letOwnedTupleGo t it v
        PySem.assign t env v
        let ok ← tests ifs env
        if ok = true then (do
          let x ← eval iter₂ env
          standAt iter₂.pos
          let x ← foldedSetIterable iter₂ env x
          let _ ← runOwn (.compStart (.ListComp elt [⟨t, iter, ifs, 0⟩, ⟨t₂, iter₂, ifs₂, 0⟩] scope pos) 1 (← holding [x] (pyIter x)) acc env) env
          again (.compLoop (.ListComp elt [⟨t, iter, ifs, 0⟩, ⟨t₂, iter₂, ifs₂, 0⟩] scope pos) 0 it acc env)) else
         again (.compLoop (.ListComp elt [⟨t, iter, ifs, 0⟩, ⟨t₂, iter₂, ifs₂, 0⟩] scope pos) 0 it acc env)) := by rfl

theorem Ev.comp2 {α β : Type} {as : List α} (bs : α → List β) (g : α → PyData) (g₂ : α → β → PyData) {t t₂ elt iter iter₂ : Expr} {ifs ifs₂ : List Expr} {scope : Scope} {cl : List (Str × Addr)} {ρ₀ : Rho} (ρt : α → Rho) (ρu : α → β → Rho) (p : α → Bool) (q : α → β → Bool) (f : α → β → PyData)
    (V : Sees c scope cl ρ₀) (hit : IterOf c iter (as.map g)) (hz : ((as.filter p).flatMap fun x => ((bs x).filter (q x)).map (f x)).length ≤ 1000000)
    (hasg : ∀ x ∈ as, ∀ C D es, AsgL (c.comp scope cl C D ρ₀ es) t (g x) (ρt x)) (hback : ∀ x ∈ as, ∀ y b, ρ₀.lookup y = some b → (ρt x).lookup y = some b)
    (htest : ∀ x ∈ as, ∀ C D es, TrIfs (c.comp scope cl C D (ρt x) es) ifs (p x))
    (hit₂ : ∀ x ∈ as, p x = true → ∀ C D es, IterOf (c.comp scope cl C D (ρt x) es) iter₂ ((bs x).map (g₂ x)))
    (hasg₂ : ∀ x ∈ as, p x = true → ∀ y ∈ bs x, ∀ C D es, AsgL (c.comp scope cl C D (ρt x) es) t₂ (g₂ x y) (ρu x y)) (hback₂ : ∀ x ∈ as, p x = true → ∀ y ∈ bs x, ∀ z b, (ρt x).lookup z = some b → (ρu x y).lookup z = some b)
    (htest₂ : ∀ x ∈ as, p x = true → ∀ y ∈ bs x, ∀ C D es, TrIfs (c.comp scope cl C D (ρu x y) es) ifs₂ (q x y)) (helt : ∀ x ∈ as, p x = true → ∀ y ∈ bs x, q x y = true → ∀ C D es, Ev (c.comp scope cl C D (ρu x y) es) elt (f x y))
    (hs : ∀ x, foldedSetIterable iter c.env x = pure x := by intro _; rfl) (hs₂ : ∀ C x, foldedSetIterable iter₂ (compEnvC scope cl C c.env) x = pure x := by intro _ _; rfl) :
    Ev c (.ListComp elt [⟨t, iter, ifs, 0⟩, ⟨t₂, iter₂, ifs₂, 0⟩] scope pos) (.list ((as.filter p).flatMap fun x => ((bs x).filter (q x)).map (f x))) := fun A s ok S => by
  rw [eval_ListComp]
  refine wpAny_comprehension_free (g := ⟨t, iter, ifs, 0⟩) (gs := [⟨t₂, iter₂, ifs₂, 0⟩]) rfl hs V.clos V.kind V.names ?_
  show wpAny c.M A (eval iter c.env) _ _ s
  refine wp_of (hit A s ok S) fun xv s₁ g₁ => wp_of g₁ fun it s₂ g₂' => ?_
  obtain ⟨I, fp, P, Sx, rfl, K⟩ := g₂'
  have S₂ := S.up K.keeps
  refine wpAny_newObj_type (wpAny_newFunctionEnv V.nocell (by intro y hy; cases hy) (fun h₁ hns₁ hsb₁ => ?_) V.kind)
  dsimp only at hns₁ hsb₁ ⊢
  generalize hD : s₂.heap.objs.size = D at *
  have hDl : (s₂.heap.push { cls := .type "list", dict := none, data := .seq ([] : List Value).toArray }).objs.size = D + 1 := by rw [Heap.size_push, hD]
  rw [hDl] at hns₁ hsb₁ ⊢
  have hDn : s₂.heap.get? D = none := none_of_le (by lia)
  have hCn : s₂.heap.get? (D + 1) = none := none_of_le (by lia)
  have old : Le s₂.heap h₁ := fun b o e => hsb₁.extBut b o (fun q => by rw [q, hCn] at e; cases e) (Heap.get?_push_of_some _ (Heap.get?_push_of_some _ e))
  have hDo : h₁.get? D = some (lo [] 0) := hsb₁.extBut _ _ (Nat.ne_of_lt (Nat.lt_succ_self D)) (Heap.get?_push_of_some _ (hD ▸ Heap.get?_push_size _ rfl))
  have S₄ : (c.comp scope cl (D + 1) D ρ₀ []).S h₁ := V.st S₂ old hns₁ hCn hDn (Nat.succ_ne_self D) hDo
  have W := K.walks A ok.handled
  rw [List.length_map] at W
  have hst₁ : Sx 0 h₁ := W.frame _ _ _ K.start fun b _ o e => old b o e
  have hDs : s.heap.get? D = none := size_le (keeps_le K.keeps) (Nat.le_of_eq hD)
  have hCs : s.heap.get? (D + 1) = none := size_le (keeps_le K.keeps) (Nat.le_succ_of_le (Nat.le_of_eq hD))
  have offI : I ∉ (D + 1) :: D :: c.U := fun m => by
    obtain ⟨o, _, _, ho, _⟩ := K.shape 0 _ K.start
    rcases List.mem_cons.mp m with q | m
    · rw [q, hCn] at ho; cases ho
    · rcases List.mem_cons.mp m with q | m
      · rw [q, hDn] at ho; cases ho
      · exact K.off m
  have offF : ∀ b ∈ fp, b ∉ (D + 1) :: D :: c.U := fun b hb m => by
    by_cases q : b = I
    · exact offI (q ▸ m)
    · obtain ⟨h1, o, ho⟩ := K.feet b hb q
      rcases List.mem_cons.mp m with r | m
      · rw [r, hCn] at ho; cases ho
      · rcases List.mem_cons.mp m with r | m
        · rw [r, hDn] at ho; cases ho
        · exact h1 m
  have hDU : D ∉ c.U := fun m => by obtain ⟨o, e⟩ := (S.offs D m).1; rw [hDs] at e; cases e
  have hitm : ∀ i v, i < as.length → P i v → ∃ x, as[i]? = some x ∧ Rd (I :: (D + 1) :: D :: c.U) h₁ v (g x) := fun i v hi hP => by
    obtain ⟨d', hd'', hv⟩ := K.item i v (by rw [List.length_map]; exact hi) hP
    rw [List.getElem?_map] at hd''
    obtain ⟨x, hx, rfl⟩ := Option.map_eq_some_iff.mp hd''
    refine ⟨x, hx, ?_⟩
    obtain ⟨o0, n0, f0, ho0, hc0, hd0, _, _⟩ := K.shape 0 _ K.start
    refine Rd.frame (U := I :: c.U) (h := s₂.heap) (fun b o' hb e => ⟨fun m => ?_, old b o' e⟩) (Rd.offI ho0 (.fields hd0) hv)
    rcases List.mem_cons.mp m with r | m
    · exact hb (r ▸ .head _)
    · rcases List.mem_cons.mp m with r | m
      · rw [r, hCn] at e; cases e
      · rcases List.mem_cons.mp m with r | m
        · rw [r, hDn] at e; cases e
        · exact hb (.tail _ m)
  have loop : ∀ s₃ : Shared, s₃ = { s₂ with heap := h₁, toks := s₂.toks + ([] : List (Str × Value)).length } →
      codeAny c.M A (.compLoop (.ListComp elt [⟨t, iter, ifs, 0⟩, ⟨t₂, iter₂, ifs₂, 0⟩] scope pos) 0 (.ref I) (.ref D) (compEnvC scope cl (D + 1) c.env)) (compPost c.M A No none (Got c s (.list ((as.filter p).flatMap fun x => ((bs x).filter (q x)).map (f x)))) (.ref D) (D + 1)) s₃ := by
    rintro s₃ rfl
    refine comp_loop (s := { s₂ with heap := h₁, toks := s₂.toks + ([] : List (Str × Value)).length }) (es₀ := []) g ρt p (fun x => ((bs x).filter (q x)).map (f x)) W (fun i h hS => K.shape i h hS) offI K.offH offF hitm (compTurn_zero elt t iter t₂ iter₂ ifs ifs₂ scope pos (.ref I) (.ref D) (compEnvC scope cl (D + 1) c.env)) (fun x hx es => hasg x hx _ _ es) hback (fun x hx es => htest x hx _ _ es) ?_ ok S₄ hst₁ ?_
    · intro i x hx hp s' S' Q E hQ
      have hm := List.mem_of_getElem? hx
      refine wpAny_bind (wp_of (hit₂ x hm hp (D + 1) D _ A s' ok S') fun xv₂ s₅ g₅ => ?_)
      refine wpAny_bind (wpAny_standAt (wpAny_bind (wpAny_of_eq (hs₂ _ _) (wpAny_bind (wpAny_holding (wp_of g₅ fun it₂ s₆ g₆ => ?_))))))
      obtain ⟨I₂, fp₂, P₂, Sx₂, rfl, K₂⟩ := g₆
      have W₂ := K₂.walks A ok.handled
      rw [List.length_map] at W₂
      have hlen : ∀ j, ([] ++ ((as.take i).filter p).flatMap (fun x => ((bs x).filter (q x)).map (f x)) ++ (((bs x).take j).filter (q x)).flatMap fun y => [f x y]).length ≤ 1000000 := fun j => by
        refine Nat.le_trans ?_ hz
        have e : as = as.take i ++ x :: as.drop (i + 1) := by
          obtain ⟨hlt, hxe⟩ := List.getElem?_eq_some_iff.mp hx
          rw [← hxe, ← List.drop_eq_getElem_cons hlt, List.take_append_drop]
        conv => rhs; rw [e]
        rw [List.filter_append, List.flatMap_append, List.filter_cons_of_pos hp, List.flatMap_cons, List.nil_append, List.length_append, List.length_append, List.length_append, List.length_map]
        have h1 : ((((bs x).take j).filter (q x)).flatMap fun y => [f x y]).length = (((bs x).take j).filter (q x)).length := by
          generalize ((bs x).take j).filter (q x) = l
          induction l with
          | nil => rfl
          | cons y l ih => rw [List.flatMap_cons, List.length_append, ih, List.length_cons]; exact Nat.add_comm 1 l.length
        rw [h1]
        have h2 : (((bs x).take j).filter (q x)).length ≤ ((bs x).filter (q x)).length := (List.Sublist.filter _ (List.take_sublist j (bs x))).length_le
        lia
      have loop₂ : codeAny c.M A (.compLoop (.ListComp elt [⟨t, iter, ifs, 0⟩, ⟨t₂, iter₂, ifs₂, 0⟩] scope pos) 1 (.ref I₂) (.ref D) (compEnvC scope cl (D + 1) c.env)) (fun r s'' => match r with
          | .ok fl => wpAny c.M A (again (.compLoop (.ListComp elt [⟨t, iter, ifs, 0⟩, ⟨t₂, iter₂, ifs₂, 0⟩] scope pos) 0 (.ref I) (.ref D) (compEnvC scope cl (D + 1) c.env))) Q E s''
          | .error x => cameBackBy c.M A (compEnvC scope cl (D + 1) c.env) E x s'') s₆ := by
        refine comp_loop (ρ₀ := ρt x) (g₂ x) (ρu x) (q x) (fun y => [f x y]) W₂ (fun j h hS => K₂.shape j h hS) K₂.off K₂.offH (fun b hb m => ?_) (fun j v hj hP => ?_) (compTurn_one elt t iter t₂ iter₂ ifs ifs₂ scope pos (.ref I₂) (.ref D) (compEnvC scope cl (D + 1) c.env)) (fun y hy es => hasg₂ x hm hp y hy _ _ es) (fun y hy => hback₂ x hm hp y hy) (fun y hy es => htest₂ x hm hp y hy _ _ es) (fun j y hy hq s₇ S₇ Q₇ E₇ hQ₇ => ?_) ok (St.up S' (keeps_le K₂.keeps)) K₂.start (fun s₈ st₈ S₈ => ?_)
        · by_cases r : b = I₂
          · exact K₂.off (r ▸ m)
          · exact (K₂.feet b hb r).1 m
        · obtain ⟨d', hd'', hv⟩ := K₂.item j v (by rw [List.length_map]; exact hj) hP
          rw [List.getElem?_map] at hd''
          obtain ⟨y, hy, rfl⟩ := Option.map_eq_some_iff.mp hd''
          obtain ⟨o0, n0, f0, ho0, hc0, hd0, _, _⟩ := K₂.shape 0 _ K₂.start
          exact ⟨y, hy, Rd.offI ho0 (.fields hd0) hv⟩
        · refine wpAny_bind (wpAny_bind (wp_of (helt x hm hp y (List.mem_of_getElem? hy) hq (D + 1) D _ A s₇ ok S₇) fun z s₉ g₉ => ?_))
          have S₉ := St.up S₇ (keeps_le g₉.1)
          obtain ⟨_, ws, k, hgD, hrD⟩ := S₉.muts D _ (.head _)
          refine wpAny_bind (append_of hgD (by rw [hrD.length]; exact hlen j) fun h' hg' hs' => wpAny_pure (hQ₇ { s₉ with heap := h' } ((StepU.of_keeps g₉.1).trans ⟨h', _, rfl, fun b o hb e => (hs'.2 b fun q => hb (q ▸ .tail _ (.head _))).trans e⟩) ?_))
          exact St.sub (St.setMut S₉ hs' hg' (hrD.append (.one g₉.2))) (hback₂ x hm hp y (List.mem_of_getElem? hy)) (fun _ h => h) (by simp)
        · refine hQ s₈ ((StepU.of_keeps K₂.keeps).trans st₈ |>.less fun a ha => ?_) ?_
          · rcases List.mem_cons.mp ha with r | r
            · rw [r]; exact .inr K₂.new
            · exact .inl r
          · have e2 : ((bs x).filter (q x)).flatMap (fun y => [f x y]) = ((bs x).filter (q x)).map (f x) := by
              generalize (bs x).filter (q x) = l
              induction l with
              | nil => rfl
              | cons y l ih => rw [List.flatMap_cons, ih]; rfl
            rw [e2] at S₈
            exact St.sub S₈ (hback x hm) (fun _ h => h) S₈.mapart
      exact wpAny_bind (wpAny_runOwn (compStart1 rfl loop₂ (W₂.self 0 _ _ _ K₂.start loop₂)))
    · intro s' st' S'
      rw [List.nil_append] at S'
      obtain ⟨_, ws, k, hgD, hrD⟩ := S'.muts D _ (.head _)
      obtain ⟨m, n⟩ := S'.ns
      refine ⟨m, n, fun h' hsb => ?_⟩
      obtain ⟨h₂, t₂', rfl, k₂⟩ := st'
      obtain ⟨h₀, t₀, rfl, k₀⟩ := K.keeps
      have hkeep : ∀ b o, s.heap.get? b = some o → h₂.get? b = some o := fun b o e => k₂ b o (fun m => by
        rcases List.mem_cons.mp m with r | m
        · rw [r, K.new] at e; cases e
        · rcases List.mem_cons.mp m with r | m
          · rw [r, hCs] at e; cases e
          · rw [List.mem_singleton.mp m, hDs] at e; cases e) (old b o (k₀ b o e))
      refine ⟨⟨h', t₂', rfl, fun b o e => hsb.extBut b o (fun r => by rw [r, hCs] at e; cases e) (hkeep b o e)⟩, ?_⟩
      refine .list hDU (hsb.extBut _ _ (Nat.ne_of_lt (Nat.lt_succ_self D)) hgD) ?_
      exact RdL.frame (U := (D + 1) :: D :: c.U) (fun b o hb e => ⟨fun m' => hb (.tail _ (.tail _ m')), hsb.extBut b o (fun r => hb (r ▸ .head _)) e⟩) hrD
  exact codeAny_compStart_list (loop _ rfl) (W.self 0 _ _ _ hst₁ (loop _ rfl))
end
end Mine
end
noncomputable section
open PySem PySem.Calls PySem.W PyProof.Rows
set_option Elab.async false
set_option maxRecDepth 100000
set_option linter.unusedVariables false
namespace Mine

/-- the pairs of turns of which three_way_cmp tells 0 -/
def likeT (t : Tx) : List PyData := ((List.range t.length).filter (fun _ => true)).flatMap fun i => ((List.range i).filter fun j => cmp3 (turnT t i) (turnT t j) == 0).map fun _ => PyData.int (i : Int)
def wheelT (t : Tx) : Bool := !truth (.list (likeT t))

section
variable {prog : Program} {w : World} {H : Heap} {c : Cx} {e : Expr} {pos : Pos} {d : PyData}
theorem Ev.not (h : Ev c e d) (hz : small d) : Ev c (.UnaryOp .Not e pos) (.bool (!truth d)) := fun A s ok S =>
  UnaryOp_ (wp_of (h A s ok S) fun v s₁ g₁ => not_value (wp_of (truth_of ok (S.up g₁.1) g₁.2 hz) fun b s₂ g₂ => ⟨keeps_trans g₁.1 g₂.1, by rw [g₂.2]; exact .bool _⟩))
theorem turns_get {t : Tx} {i : Nat} (h : i < t.length) : ((turnsT t).map dS)[((i : Nat) : Int).toNat]? = some (dS (turnT t i)) := by
  rw [Int.toNat_natCast]
  unfold turnsT
  simp [h]
theorem turns_len (t : Tx) : (turnsT t).length = t.length := by unfold turnsT; simp
theorem flat_len {α β : Type} (l : List α) (f : α → List β) (n : Nat) (h : ∀ x ∈ l, (f x).length ≤ n) : (l.flatMap f).length ≤ l.length * n := by
  induction l with
  | nil => simp
  | cons x l ih =>
    rw [List.flatMap_cons, List.length_append, List.length_cons, Nat.add_mul, Nat.one_mul]
    have := h x (.head _)
    have := ih fun y hy => h y (.tail _ hy)
    lia
theorem likeT_len (t : Tx) (hz : t.length ≤ 1000) : (likeT t).length ≤ 1000000 := by
  unfold likeT
  rw [filter_true]
  refine Nat.le_trans (flat_len _ _ 1000 fun i hi => ?_) (by rw [List.length_range]; lia)
  rw [List.length_map]
  refine Nat.le_trans (List.length_filter_le _ _) ?_
  rw [List.length_range]
  have := List.mem_range.mp hi
  lia

theorem is_wheel_fn (T : Wd (KK w) H) (t : Tx) (hz : t.length ≤ 1000) : Fn prog w H 2 170 [dS t] (.bool (wheelT t)) := by
  refine in170 T rfl fun L U hLU => ?_
  delta bd170
  refine Ex.assign (Ev.callF (NameIs.glob T (g_law_turns w)) (.cons (Ev.var rfl) .nil) ((turns_fn T t hz).callD (Nat.le_refl _)) (T.k _ _ (id rfl)) rfl) (.inr ⟨rfl, L + 1, rfl, .tail _ (.head _)⟩) ?_
  refine Ex.ret (Ev.not (d := .list (likeT t)) ?_ (likeT_len t hz)) fun g v S r => ret_of (fun a ha => List.mem_append_right _ ha) r
  refine Ev.comp2 (as := List.range t.length) (fun i => List.range i) (fun (i : Nat) => PyData.int (i : Int)) (fun _ (j : Nat) => PyData.int (j : Int)) (cl := [(Str.ofString "turns", L + 1)]) (ρ₀ := [(Str.ofString "turns", .dat (dSs (turnsT t)))])
    (fun i => [(Str.ofString "one", .dat (.int (i : Int))), (Str.ofString "turns", .dat (dSs (turnsT t)))]) (fun i j => [(Str.ofString "two", .dat (.int (j : Int))), (Str.ofString "one", .dat (.int (i : Int))), (Str.ofString "turns", .dat (dSs (turnsT t)))])
    (fun _ => true) (fun i j => cmp3 (turnT t i) (turnT t j) == 0) (fun i _ => .int (i : Int)) (Sees.one rfl rfl (by decide) (by decide) rfl rfl rfl rfl) ?_ (likeT_len t hz) (fun i _ C D es => AsgL.name rfl) (fun _ _ => back_cons rfl) (fun i _ C D es => TrIfs.nil) ?_ (fun i _ _ j _ C D es => AsgL.name rfl) (fun i _ _ j _ => back_cons rfl) ?_ (fun i _ _ j _ _ C D es => Ev.var rfl)
  · refine IterOf.rangeN (NameIs.boot T (m_range w) b_range) (Ev.callB (NameIs.boot T (m_len w) b_len) (.cons (Ev.var rfl) .nil) ?_) (by lia)
    have : ((t.length : Nat) : Int) = (((turnsT t).map dS).length : Int) := by rw [List.length_map, turns_len]
    rw [this]
    exact c_len_list (by rw [List.length_map, turns_len]; lia)
  · intro i hi _ C D es
    have := List.mem_range.mp hi
    exact IterOf.rangeN (NameIs.boot T (m_range w) b_range) (Ev.var rfl) (by lia)
  · intro i hi _ j hj C D es
    have h1 := List.mem_range.mp hi
    have h2 := List.mem_range.mp hj
    refine TrIfs.one (Tr.cmp (Ev.callF (NameIs.glob T (g_three_way_cmp w)) (.cons (Ev.item (Ev.var rfl) (Ev.var rfl) (.list _) (op_item_list (by lia) (turns_get h1) (by rw [List.length_map, turns_len]; lia))) (.cons (Ev.item (Ev.var rfl) (Ev.var rfl) (.list _) (op_item_list (by lia) (turns_get (by lia)) (by rw [List.length_map, turns_len]; lia))) .nil)) ((cmp_fn T _ _).callD (Nat.le_refl _)) (T.k _ _ (id rfl)) rfl) Ev.int op_eq_int)
end
end Mine
end
noncomputable section
open PySem PySem.Calls PySem.W PyProof.Rows
set_option Elab.async false
set_option maxRecDepth 100000
set_option linter.unusedVariables false
namespace Mine

section
variable {c : Cx} {A : Around} {s s₁ s₂ : Shared} {v : Value} {d : PyData} {e e₁ e₂ e₃ : Expr} {d₁ d₂ : PyData} {pos p : Pos} {ds es : List PyData} {Q : Flow → Heap → Prop} {rest : List Stmt} {x : Str} {a : Addr} {μ' : List (Addr × List PyData)}

/-- a comprehension walks a list of the frame's own -/
theorem IterC.own (hμ : (a, ds) ∈ c.μ) (hx : c.ρ.lookup x = some (.val (.ref a))) (hd : (x == ("__debug__" : Str)) = false := by decide) (hc : (x == ("__classdict__" : Str)) = false := by decide) : IterC c (.Name x p) ds := fun A s ok S => by
  obtain ⟨v, hv, hb⟩ := S.vars x _ hx
  have hb' : v = .ref a := hb
  subst hb'
  obtain ⟨haU, vs, n, hg, q⟩ := S.muts a ds hμ
  refine load_var S hv ?_ hd hc
  have hl : s.heap.IsList a vs.toArray := ⟨_, hg, rfl, n, rfl⟩
  have hlt : a < s.heap.objs.size := Heap.lt_size hg
  refine wpAny_pyIter_list hl ⟨s.heap.objs.size, [s.heap.objs.size, a], fun i v => vs.toArray[i]? = some v, fun i h => h.IsListIter s.heap.objs.size a i ∧ h.IsList a vs.toArray, rfl, keeps_push _ _ _, fun A' hA => ?_, ⟨⟨_, Heap.get?_push_size _ rfl, rfl, rfl⟩, hl.push _⟩, fun i h st => ?_, S.new (Nat.le_refl _), size_le S.base (Nat.le_refl _), none_of_le (Nat.le_refl _), fun b hb hne => ?_, fun i v hi hP => ?_⟩
  · have W := Walks.list (prog := c.prog) (w := c.w) hA s.heap.objs.size a (Nat.ne_of_lt hlt) vs.toArray
    have e : vs.toArray.size = ds.length := by rw [List.size_toArray, q.length]
    rw [e] at W
    exact W
  · obtain ⟨⟨o, h1, h2, h3⟩, _⟩ := st
    exact ⟨o, _, _, h1, h2, h3, by decide, by decide⟩
  · rcases List.mem_cons.mp hb with r | r
    · exact (hne r).elim
    · rw [List.mem_singleton.mp r]; exact ⟨fun m => (nomatch m), _, Heap.get?_push_of_some _ hg⟩
  · obtain ⟨d, e1, e2⟩ := q.get' (i := i) (v := v) (by simpa using hP)
    exact ⟨d, e1, e2.up (Le.push _ _)⟩

/-- from now on a list of the frame's own is a datum -/
theorem Ex.freeze {ss : List Stmt} (hμ : c.μ.Perm ((a, ds) :: μ')) (hx : c.ρ.lookup x = some (.val (.ref a))) (h : Ex (c.froze x a ds μ') ss Q) : Ex c ss Q := fun A s ok S =>
  wp_of (h A s ok (St.frozen (St.perm S hμ) hx)) fun f s' g => ⟨g.1.less fun b hb => .inl (mem_off.mp hb).1, g.2⟩

def insT (l : List PyData) (i : Nat) (x : PyData) : List PyData := l.take i ++ x :: l.drop i
theorem insert_of {prog : Program} {w : World} {D : Addr} {ys : List Value} {n : Nat} {x : Int} {u : Tok} {y : Value} {Q : Value → Shared → Prop} {E : Value → Shared → Prop} (hg : s.heap.get? D = some (lo ys n)) (hz : ys.length ≤ 1000000) (h0 : 0 ≤ x) (hx : x ≤ ys.length)
    (hQ : ∀ h', h'.get? D = some (lo (ys.take x.toNat ++ y :: ys.drop x.toNat) (n + 1)) → Heap.SameBut D s.heap h' → Q .none { s with heap := h' }) : wpAny (model prog w) A (call (.builtin "list.insert") [.ref D, .int x u, y]) Q E s := by
  have hfit : ¬(!Builtin.List.listFitsIndex x) = true := by
    unfold Builtin.List.listFitsIndex
    simp only [Bool.not_eq_true', Bool.not_eq_false, Bool.and_eq_true, decide_eq_true_eq]
    lia
  refine call_meets PySem.F.slot_list_insert ⟨_, hg, rfl⟩ PySem.F.entry_list_insert (PySem.F.args_list_insert_3 _ _ _) (PySem.AutoSeq1.list_insert_list_int_val_1 D ys.toArray n x u y hfit (by rw [List.size_toArray]; exact sz8 hz)) ⟨hg, hQ _ ?_ (Heap.SameBut.update ..)⟩
  have key : ∀ (f : Array Value → Array Value) (l : List Value), f ys.toArray = l.toArray → l.length ≠ ys.length → (s.heap.update D (Obj.mapSeq f)).get? D = some (lo l (n + 1)) := fun f l e hne => by
    have q := PySem.IsL.update hg f
    rw [e, if_neg (by simpa using hne)] at q
    exact q
  have e : (fun xs : Array Value => have k := if x < 0 then (x + (xs.size : Int)).toNat else min x.toNat xs.size; (xs.extract 0 k).push y ++ xs.extract k) ys.toArray = (ys.take x.toNat ++ y :: ys.drop x.toNat).toArray := by
    show (ys.toArray.extract 0 (if x < 0 then (x + (ys.toArray.size : Int)).toNat else min x.toNat ys.toArray.size)).push y ++ ys.toArray.extract (if x < 0 then (x + (ys.toArray.size : Int)).toNat else min x.toNat ys.toArray.size) = _
    have e1 : (if x < 0 then (x + (ys.toArray.size : Int)).toNat else min x.toNat ys.toArray.size) = x.toNat := by
      rw [if_neg (by lia), List.size_toArray]; lia
    rw [e1, kl_ins_eq]
  exact key _ _ e (by simp only [List.length_append, List.length_cons, List.length_take, List.length_drop]; lia)
/-- x.insert(e₁, e₂) -/
theorem Ex.insert {i : Nat} {ap np p₁ : Pos} (hμ : c.μ = (a, ds) :: μ') (hx : c.ρ.lookup x = some (.val (.ref a))) (h₁ : Ev c e₁ (.int (i : Int))) (h₂ : Ev c e₂ d) (hi : i ≤ ds.length) (hz : ds.length ≤ 1000000) (hr : Ex { c with μ := (a, insT ds i d) :: μ' } rest Q)
    (hline : (ap.endLine == pos.line) = true := by rfl) (hse : starEach [e₁, e₂] c.env = [(false, eval e₁ c.env), (false, eval e₂ c.env)] := by rfl) (hse₂ : starEach [e₂] c.env = [(false, eval e₂ c.env)] := by rfl) (hd : (x == ("__debug__" : Str)) = false := by decide) (hc : (x == ("__classdict__" : Str)) = false := by decide)
    (hi' : interactive c.env = false := by rfl) (hs : swapsWith (.Call (.Attribute (.Name x np) (Str.ofString "insert") ap) [e₁, e₂] [] pos) none p₁.line c.env = pure false := by rfl) :
    Ex c (.Expr (.Call (.Attribute (.Name x np) (Str.ofString "insert") ap) [e₁, e₂] [] pos) p₁ :: rest) Q := fun A s ok S => by
  refine wpAny_execs_cons (exec_expr_none ?_ hi' hs)
  obtain ⟨v, hv, hb⟩ := S.vars x _ hx
  have hb' : v = .ref a := hb
  subst hb'
  refine wpAny_Call_method (T := "list") (id := "list.insert") rfl (by rw [hse]; rfl) hline PySem.F.plainAttrs_list PySem.F.slot_list_insert PySem.F.type_list_insert (load_var S hv ?_ hd hc)
  obtain ⟨haW, vs, n, hg, hrd⟩ := S.mutsW a ds (by rw [hμ]; exact .head _)
  refine ⟨⟨_, hg, rfl⟩, fun b q => by cases q; exact ⟨_, hg, rfl⟩, Calls.callWith_builtin (starEach_plain (by rw [hse]; rfl) pos) (args_of (wp_of (Evs.cons h₁ (.cons h₂ .nil (by rw [hse₂]; rfl)) (by rw [hse, hse₂]) A s ok S) fun ws s₁ g₁ => ?_) (by rw [hse, hse₂]))⟩
  cases g₁.2 with | cons r r' => cases r' with | @cons v₂ _ _ _ r₂ r' => cases r' with | nil => cases r with | int _ u =>
  have S₁ := S.up g₁.1
  have hg₁ := keeps_le g₁.1 _ _ hg
  have hl := hrd.length
  refine insert_of hg₁ (by rw [hl]; exact hz) (by lia) (by lia) fun h' hg' hs' => ⟨rfl, ?_⟩
  rw [Int.toNat_natCast] at hg'
  have S₂ : Cx.S { c with μ := (a, insT ds i d) :: μ' } h' := St.setMut (ds := ds) (hμ ▸ S₁) hs' hg' (((hrd.up (keeps_le g₁.1)).take i).append (.cons r₂ ((hrd.up (keeps_le g₁.1)).drop i)))
  refine wp_of (hr A { s₁ with heap := h' } ok S₂) fun f s₃ g₃ => ⟨(StepU.of_keeps g₁.1).tx (StepU.tx (s' := { s₁ with heap := h' }) ⟨_, _, rfl, fun b o hb e => (hs'.2 b fun q => hb (q ▸ haW)).trans e⟩ g₃.1), g₃.2⟩

/-- a, b = a pair -/
theorem le_of_ext {h h' : Heap} (x : Heap.ExtBut h.objs.size h h') : Le h h' := fun b o e => x b o (fun q => by have := Heap.lt_size e; rw [q] at this; exact Nat.lt_irrefl _ this) e
theorem two_go {x y : Str} {px py : Pos} {v₁ v₂ : Value} (hx : c.env.kindOf x = some .local) (hy : c.env.kindOf y = some .local) (S : c.S s.heap) (h' : Heap) (hh : Heap.ExtBut s.heap.objs.size s.heap h') (r₁ : Rd c.U s.heap v₁ d₁) (r₂ : Rd c.U s.heap v₂ d₂) :
    wpAny c.M A (assignInOrder [PySem.assign (.Name x px) c.env, PySem.assign (.Name y py) c.env] [v₁, v₂]) (fun _ s' => StepU [c.env.locals] s s' ∧ (c.at ((y, .dat d₂) :: (x, .dat d₁) :: c.ρ) c.μ).S s'.heap) No { s with heap := h' } := by
  have k := le_of_ext hh
  have S₁ : c.S h' := St.up S k
  refine wpAny_assignInOrder_more ?_
  rw [assign_Name']
  refine wpAny_bind (wpAny_standAt (wpAny_bindName (wp_of (storeL_of (s := { s with heap := h' }) (b := .dat d₁) S₁ hx (Rd.up r₁ k)) fun _ s₂ g₂ => wpAny_assignInOrder_more ?_)))
  rw [assign_Name']
  have r₂' : Rd c.U s₂.heap v₂ d₂ := Rd.frame (fun b o hb e => ⟨hb, g₂.1.at (fun m => hb (by rw [List.mem_singleton.mp m]; exact S.loc)) e⟩) (r₂.up k)
  refine wpAny_bind (wpAny_standAt (wpAny_bindName (wp_of (storeL_of (c := c.set x (.dat d₁)) (b := .dat d₂) g₂.2 hy r₂') fun _ s₃ g₃ => wpAny_assignInOrder_none ⟨?_, g₃.2⟩)))
  refine StepU.trans (s' := { s with heap := h' }) ⟨h', s.toks, rfl, fun b o _ e => k b o e⟩ (g₂.1.trans g₃.1)
theorem AsgL.pair {x y : Str} {px py : Pos} {k : Nat} (hx : c.env.kindOf x = some .local) (hy : c.env.kindOf y = some .local) (hae : assignEach [.Name x px, .Name y py] c.env = [(false, PySem.assign (.Name x px) c.env), (false, PySem.assign (.Name y py) c.env)] := by rfl) :
    AsgL c (.Tuple [.Name x px, .Name y py] k p) (.tuple [d₁, d₂]) ((y, .dat d₂) :: (x, .dat d₁) :: c.ρ) := fun A s v ok S r => by
  cases r with | @tuple a vs n _ ha hg q => cases q with | cons r₁ q => cases q with | cons r₂ q => cases q with | nil =>
  refine wpAny_assign_Tuple ok.handled ⟨_, hg, rfl, n, rfl⟩ (by rw [hae]; rfl) (by rw [hae]; rfl) fun h' hh => ?_
  rw [hae]
  exact two_go hx hy S h' hh r₁ r₂
theorem AsgL.pairL {x y : Str} {px py : Pos} {k : Nat} (hx : c.env.kindOf x = some .local) (hy : c.env.kindOf y = some .local) (hae : assignEach [.Name x px, .Name y py] c.env = [(false, PySem.assign (.Name x px) c.env), (false, PySem.assign (.Name y py) c.env)] := by rfl) :
    AsgL c (.Tuple [.Name x px, .Name y py] k p) (.list [d₁, d₂]) ((y, .dat d₂) :: (x, .dat d₁) :: c.ρ) := fun A s v ok S r => by
  cases r with | @list a vs n _ ha hg q => cases q with | @cons v₁ _ _ _ r₁ q => cases q with | @cons v₂ _ _ _ r₂ q => cases q with | nil =>
  rw [arm_assign_Tuple]
  refine wpAny_bind (wpAny_standAt ?_)
  unfold unpack
  rw [hae]
  refine wpAny_bind (wpAny_holding (kun_itemsOf (items := #[v₁, v₂]) ok.handled ⟨_, hg, rfl, n, rfl⟩ fun h' hh => ?_))
  exact two_go hx hy S h' hh r₁ r₂

/-- ''.join of texts -/
theorem joinS (l : List Tx) : Txt.join (mk []) (l.map mk) = mk l.flatten := by
  show Builtin.Str.glued (mk []) (l.map mk) = _
  unfold Builtin.Str.glued
  cases l with
  | nil => rfl
  | cons x r =>
    have : ∀ (r : List Tx) (acc : Array Nat), (r.map mk).foldl (fun acc p => acc ++ (mk []).cps ++ p.cps) acc = acc ++ r.flatten.toArray := by
      intro r
      induction r with
      | nil => intro acc; simp
      | cons y r ih => intro acc; rw [List.map_cons, List.foldl_cons, ih]; simp
    show Str.mk (List.foldl _ (mk x).cps (r.map mk)) = mk (x :: r).flatten
    rw [this]; simp [mk]
theorem sum_len (l : List Tx) : ((l.map mk).map (·.length)).sum = l.flatten.length := by
  induction l with
  | nil => rfl
  | cons x r ih => rw [List.map_cons, List.map_cons, List.sum_cons, ih, mk_length]; simp
theorem c_join {l : List Tx} (hz : l.flatten.length ≤ 1000000) : CallD c (.builtin "str.join") [dS [], dSs l] (dS l.flatten) := fun A s vs ok S r => by
  cases r with | cons r₁ r' => cases r' with | cons r₂ r' => cases r' with | nil => cases r₁ with | str _ u => cases r₂ with | @list a ws n _ ha hg q =>
  obtain ⟨l', e1, e2⟩ := strVals (strs_mk q)
  refine SC.join (l := l') (texts := l.map mk) ⟨_, hg, by rw [e1], n, by rw [e1]⟩ e2 (joinOk_of ?_) fun t' k => ?_
  · rw [sum_len, mk_length, List.length_nil, Nat.mul_zero]; lia
  · rw [joinS]; exact Got.tok _ (.str _ _)
theorem Ev.join {l : List Tx} {ap : Pos} (h₀ : Ev c e₁ (dS [])) (h : Ev c e (dSs l)) (hz : l.flatten.length ≤ 1000000) (hbase : attributeBase e₁ (Str.ofString "join") c.env (eval e₁ c.env) = eval e₁ c.env := by rfl) (hline : (ap.endLine == pos.line) = true := by rfl) (he : starEach [e] c.env = [(false, eval e c.env)] := by rfl) :
    Ev c (.Call (.Attribute e₁ (Str.ofString "join") ap) [e] [] pos) (dS l.flatten) :=
  Ev.meth (T := "str") (id := "str.join") h₀ (.cons h .nil (by rw [he]; rfl)) ty_str PySem.F.plainAttrs_str PySem.F.slot_str_join PySem.F.type_str_join (c_join hz) hbase hline (by rw [he]; rfl) (by rw [he]; rfl) (by rw [he]; rfl)
end
end Mine
end
noncomputable section
open PySem PySem.Calls PySem.W PyProof.Rows
set_option Elab.async false
set_option maxRecDepth 100000
set_option linter.unusedVariables false
namespace Mine

/-- the rows of a bag of texts: each turn spun, and the sign ahead of it -/
abbrev RowE := Tx × Tx
def entT (t : Tx) (a : Nat) : RowE := (spinT (turnT t a), [(turnT t a).getD ((turnT t a).length - 1) 0])
def entsT (t : Tx) : List RowE := (List.range t.length).map (entT t)
def cntR (row : List RowE) (x : Tx) : Nat := (row.filter fun r => decide (cmp3 r.1 x < 0)).length
def insR (row : List RowE) (e : RowE) : List RowE := row.take (cntR row e.1) ++ e :: row.drop (cntR row e.1)
def togRow (l : List Tx) : List RowE := (l.flatMap entsT).foldl insR []
def untold (row : List RowE) : List Nat := (List.range (row.length - 1)).filter fun i => !toldT (row.getD i ([], [])).1 (row.getD (i + 1) ([], [])).1
def togT (l : List Tx) : Tx := if untold (togRow l) = [] then ((togRow l).map (·.2)).flatten else []

theorem turnT_len (t : Tx) (a : Nat) : (turnT t a).length = t.length := by
  unfold turnT; rw [List.length_append, List.length_drop, List.length_take]; lia
theorem cntR_le (row : List RowE) (x : Tx) : cntR row x ≤ row.length := List.length_filter_le _ _
theorem insR_len (row : List RowE) (e : RowE) : (insR row e).length = row.length + 1 := by
  unfold insR
  have := cntR_le row e.1
  rw [List.length_append, List.length_cons, List.length_take, List.length_drop]; lia
theorem foldl_ins_len : ∀ (es row : List RowE), (es.foldl insR row).length = row.length + es.length
  | [], row => rfl
  | e :: es, row => by rw [List.foldl_cons, foldl_ins_len es, insR_len, List.length_cons]; lia
theorem entsT_len (t : Tx) : (entsT t).length = t.length := by unfold entsT; simp
def dRow (r : RowE) : PyData := .list [dS r.1, dS r.2]
theorem insR_map (row : List RowE) (e : RowE) : (insR row e).map dRow = insT (row.map dRow) (cntR row e.1) (dRow e) := by
  unfold insR insT
  rw [List.map_append, List.map_cons, List.map_take, List.map_drop]
theorem flatMap_len (l : List Tx) : (l.flatMap entsT).length = l.flatten.length := by
  induction l with
  | nil => rfl
  | cons t l ih => rw [List.flatMap_cons, List.length_append, ih, entsT_len, List.flatten_cons, List.length_append]
theorem togRow_len (l : List Tx) : (togRow l).length = l.flatten.length := by
  unfold togRow; rw [foldl_ins_len, flatMap_len]; simp
theorem flatten_one_len (l : List RowE) (h : ∀ r ∈ l, r.2.length = 1) : (l.map (·.2)).flatten.length = l.length := by
  induction l with
  | nil => rfl
  | cons r l ih => rw [List.map_cons, List.flatten_cons, List.length_append, ih fun x hx => h x (.tail _ hx), h r (.head _), List.length_cons]; lia
theorem insR_mem {row : List RowE} {e x : RowE} : x ∈ insR row e ↔ x = e ∨ x ∈ row := by
  unfold insR
  rw [List.mem_append, List.mem_cons]
  constructor
  · rintro (h | h | h)
    · exact .inr (List.mem_of_mem_take h)
    · exact .inl h
    · exact .inr (List.mem_of_mem_drop h)
  · rintro (h | h)
    · exact .inr (.inl h)
    · rw [← List.take_append_drop (cntR row e.1) row, List.mem_append] at h
      rcases h with h | h
      · exact .inl h
      · exact .inr (.inr h)
theorem foldl_ins_mem {x : RowE} : ∀ (es row : List RowE), x ∈ es.foldl insR row → x ∈ es ∨ x ∈ row
  | [], row, h => .inr h
  | e :: es, row, h => by
    rw [List.foldl_cons] at h
    rcases foldl_ins_mem es _ h with q | q
    · exact .inl (.tail _ q)
    · rcases insR_mem.mp q with q | q
      · exact .inl (q ▸ .head _)
      · exact .inr q
theorem togRow_one (l : List Tx) : ∀ r ∈ togRow l, r.2.length = 1 := fun r hr => by
  rcases foldl_ins_mem _ _ hr with q | q
  · obtain ⟨t, _, q⟩ := List.mem_flatMap.mp q
    obtain ⟨a, _, rfl⟩ := List.mem_map.mp q
    rfl
  · cases q

section
variable {prog : Program} {w : World} {H : Heap} {c : Cx}
theorem rep_len (t : Tx) : ∀ n : Nat, (List.replicate n t).flatten.length = n * t.length
  | 0 => by rw [Nat.zero_mul]; rfl
  | n + 1 => by rw [List.replicate_succ, List.flatten_cons, List.length_append, rep_len t n, Nat.add_mul, Nat.one_mul, Nat.add_comm]
theorem spin_len (t : Tx) : (List.replicate 20 t).flatten.length = 20 * t.length := rep_len t 20

theorem together_fn (T : Wd (KK w) H) (l : List Tx) (hl : ∀ t ∈ l, t ≠ [] ∧ t.length ≤ 1000) (hz : l.flatten.length ≤ 1000) (hpos : 0 < l.flatten.length) : Fn prog w H 3 160 [dSs l] (dS (togT l)) := by
  refine in160 T rfl fun L U hLU => ?_
  delta bd160
  refine Ex.newOwn .nil (by simp) (.inr ⟨rfl, L + 1, rfl, .tail _ (.tail _ (.head _))⟩) fun a ha => ?_
  refine Ex.for (σ := List RowE) (fun _ => [(Str.ofString "row", .val (.ref a))]) (fun _ d => [(Str.ofString "text", .dat d), (Str.ofString "row", .val (.ref a))]) (fun x => [(a, x.map dRow)]) (fun i x => x = ((l.take i).flatMap entsT).foldl insR []) [] (IterOf.list (ds := l.map dS) (Ev.var rfl)) (fun g S => S.to ⟨rfl, trivial⟩) (by simp) (fun i x d hd hx => Asg.name (.inl rfl)) ?_ ?_
  · intro i row d hd hrow
    rw [List.getElem?_map] at hd
    obtain ⟨t, ht, rfl⟩ := Option.map_eq_some_iff.mp hd
    obtain ⟨hne, hlen⟩ := hl t (List.mem_of_getElem? ht)
    have hi : i < l.length := (List.getElem?_eq_some_iff.mp ht).1
    have htake : l.take (i + 1) = l.take i ++ [t] := by rw [List.take_add_one, ht]; rfl
    have hsub : ((l.take (i + 1)).flatMap entsT).length ≤ 1000 := by
      refine Nat.le_trans ?_ hz
      rw [← flatMap_len l]
      conv => rhs; rw [← List.take_append_drop (i + 1) l]
      rw [List.flatMap_append, List.length_append]; lia
    have hrl : ∀ k, k ≤ t.length → (((entsT t).take k).foldl insR row).length ≤ 1000 := fun k hk => by
      rw [hrow, ← List.foldl_append, foldl_ins_len]
      rw [htake, List.flatMap_append, List.length_append] at hsub
      rw [List.length_append, List.length_take]
      have : ([t].flatMap entsT).length = t.length := by simp [entsT_len]
      simp only [List.length_nil]
      lia
    refine Ex.for (σ := List RowE) (fun _ => [(Str.ofString "text", .dat (dS t)), (Str.ofString "row", .val (.ref a))]) (fun _ d => [(Str.ofString "at", .dat d), (Str.ofString "text", .dat (dS t)), (Str.ofString "row", .val (.ref a))]) (fun x => [(a, x.map dRow)]) (fun k x => x = ((entsT t).take k).foldl insR row) row
      (IterOf.rangeN (n := t.length) (NameIs.boot T (m_range w) b_range) (Ev.callB (NameIs.boot T (m_len w) b_len) (.cons (Ev.var rfl) .nil) (c_len_str (by lia))) (by lia)) (fun g S => S.to ⟨rfl, rfl, trivial⟩) (by simp) (fun k x d hd hx => Asg.name (.inl rfl)) ?_ ?_
    · intro k x d hd hx
      have hk : k < t.length := by
        have := (List.getElem?_eq_some_iff.mp hd).1
        simpa using this
      have hdk : d = .int (k : Int) := by
        rw [List.getElem?_map, List.getElem?_range hk] at hd
        exact (Option.some.inj hd).symm
      subst hdk
      have hxl : x.length ≤ 1000 := by rw [hx]; exact hrl k (Nat.le_of_lt hk)
      have hcx := cntR_le x (entT t k).1
      refine Ex.assign (d := dS (turnT t k)) (Ev.bin (Ev.strFrom (Ev.var rfl) (Ev.var rfl) (by lia)) (Ev.strTo (Ev.var rfl) (Ev.var rfl) (by lia)) (op_add_str (by simp; lia))) (.inl rfl) ?_
      refine Ex.assign (d := dS (spinT (turnT t k))) (Ev.strTo (b := 20) (Ev.bin (Ev.var rfl) Ev.int (op_mul_str (n := 20) (by rw [turnT_len]; lia) (by lia) (by rw [turnT_len]; lia))) Ev.int (by rw [spin_len, turnT_len]; lia)) (.inr ⟨rfl, L + 2, rfl, .tail _ (.tail _ (.head _))⟩) ?_
      refine Ex.assignCompC (as := x) dRow (cl := [(Str.ofString "spun", L + 2)]) (ρ₀ := [(Str.ofString "spun", .dat (dS (spinT (turnT t k))))]) (fun r => [(Str.ofString "each", .dat (dRow r)), (Str.ofString "spun", .dat (dS (spinT (turnT t k))))]) (fun r => decide (cmp3 r.1 (spinT (turnT t k)) < 0)) dRow
        (Sees.one rfl rfl (by decide) (by decide) rfl rfl rfl rfl) (IterC.own (.head _) rfl) (by lia) (fun r _ C D es => AsgL.name rfl) (fun _ _ => back_cons rfl) ?_ (fun r _ _ C D es => Ev.var rfl) rfl ?_
      · intro r hr C D es
        refine TrIfs.one (Tr.cmp (Ev.callF (NameIs.glob T (g_three_way_cmp w)) (.cons (Ev.item (Ev.var rfl) Ev.int (.list _) (op_item_list (d := dS r.1) (by decide) rfl (by simp))) (.cons (Ev.var rfl) .nil)) ((cmp_fn T _ _).callD (by show 1 ≤ 2; lia)) (T.k _ _ (id rfl)) rfl) Ev.int op_lt_int)
      · refine Ex.insert (i := cntR x (entT t k).1) (d := dRow (entT t k)) rfl rfl ?_ ?_ (by rw [List.length_map]; exact hcx) (by rw [List.length_map]; lia) ?_
        · have e : ((cntR x (entT t k).1 : Nat) : Int) = (((x.filter fun r => decide (cmp3 r.1 (spinT (turnT t k)) < 0)).map dRow).length : Int) := by rw [List.length_map]; rfl
          rw [e]
          exact Ev.callB (NameIs.boot T (m_len w) b_len) (.cons (Ev.var rfl) .nil) (c_len_list (by
            have := List.length_filter_le (fun r : RowE => decide (cmp3 r.1 (spinT (turnT t k)) < 0)) x
            rw [List.length_map]; lia))
        · refine Ev.list (.cons (Ev.var rfl) (.cons (Ev.item (Ev.var rfl) (Ev.neg Ev.int) (.str _) (op_item_str_neg (x := (turnT t k).getD ((turnT t k).length - 1) 0) (by decide) ?_ ?_ (by rw [turnT_len]; lia))) .nil))
          · rw [turnT_len]; have := List.length_pos_iff.mpr hne; lia
          · have := List.length_pos_iff.mpr hne
            have e : ((-1 : Int) + ((turnT t k).length : Int)).toNat = (turnT t k).length - 1 := by lia
            rw [e, List.getD_eq_getElem?_getD, List.getElem?_eq_getElem (by rw [turnT_len]; lia)]
            rfl
        · refine Ex.nil fun g S => ⟨insR x (entT t k), ?_, ?_⟩
          · have : (entsT t).take (k + 1) = (entsT t).take k ++ [entT t k] := by
              rw [List.take_add_one]
              have : (entsT t)[k]? = some (entT t k) := by unfold entsT; simp [hk]
              rw [this]; rfl
            rw [this, List.foldl_append, ← hx]; rfl
          · rw [insR_map]
            exact S.to ⟨rfl, rfl, trivial⟩
    · intro x hx
      have e : ((entsT t).take ((List.range t.length).map fun (i : Nat) => PyData.int (i : Int)).length) = entsT t := List.take_of_length_le (by rw [entsT_len]; simp)
      rw [e] at hx
      refine Ex.nil fun g S => ⟨x, ?_, S.to ⟨rfl, trivial⟩⟩
      rw [htake, List.flatMap_append, List.foldl_append, ← hrow, hx]
      simp
  · intro row hrow
    rw [List.length_map, List.take_length] at hrow
    have hrow' : row = togRow l := hrow
    subst hrow'
    have hlen := togRow_len l
    refine Ex.freeze (x := Str.ofString "row") (List.Perm.refl _) rfl ?_
    have hU : ∀ b ∈ U, b ∈ (a :: ([L, L + 2, L + 1] ++ U)).filter (fun z => z != a) := fun b hb => mem_off.mpr ⟨.tail _ (List.mem_append_right _ hb), fun q => ha (List.mem_append_right _ (q ▸ hb))⟩
    have get : ∀ i, i < (togRow l).length → ((togRow l).map dRow)[((i : Nat) : Int).toNat]? = some (dRow ((togRow l).getD i ([], []))) := fun i hi => by
      rw [Int.toNat_natCast, List.getElem?_map, List.getElem?_eq_getElem hi, List.getD_eq_getElem?_getD, List.getElem?_eq_getElem hi]; rfl
    refine Ex.ifRet (b := !decide (untold (togRow l) = [])) ?_ (fun h => ?_) (fun h => ?_)
    · refine Tr.plain (d := .list ((untold (togRow l)).map fun (i : Nat) => PyData.int (i : Int))) ?_ ?_ ?_
      · refine Ev.comp (as := List.range ((togRow l).length - 1)) (fun (i : Nat) => PyData.int (i : Int)) (cl := [(Str.ofString "row", L + 1)]) (ρ₀ := [(Str.ofString "row", .dat (.list ((togRow l).map dRow)))]) (fun i => [(Str.ofString "at", .dat (.int (i : Int))), (Str.ofString "row", .dat (.list ((togRow l).map dRow)))]) _ (fun (i : Nat) => PyData.int (i : Int))
          (Sees.one rfl rfl (by decide) (by decide) rfl rfl rfl rfl) (IterOf.rangeN (n := (togRow l).length - 1) (NameIs.boot T (m_range w) b_range) ?_ (by lia)) (by rw [List.length_range]; lia) (fun i _ C D es => AsgL.name rfl) (fun _ _ => back_cons rfl) ?_ (fun i _ _ C D es => Ev.var rfl)
        · have e : (((togRow l).length - 1 : Nat) : Int) = (((togRow l).map dRow).length : Int) - 1 := by rw [List.length_map]; lia
          rw [e]
          exact Ev.bin (Ev.callB (NameIs.boot T (m_len w) b_len) (.cons (Ev.var rfl) .nil) (c_len_list (by rw [List.length_map]; lia))) Ev.int op_sub_int
        · intro i hi C D es
          have hi := List.mem_range.mp hi
          refine TrIfs.one (Tr.not (Tr.bool (Ev.callF (NameIs.glob T (g_law_told w)) (.cons (Ev.item (Ev.item (Ev.var rfl) (Ev.var rfl) (.list _) (op_item_list (by lia) (get i (by lia)) (by rw [List.length_map]; lia))) Ev.int (.list _) (op_item_list (d := dS ((togRow l).getD i ([], [])).1) (by decide) rfl (by simp))) (.cons (Ev.item (Ev.item (Ev.var rfl) (Ev.bin (Ev.var rfl) Ev.int (op_add_nat (a := i) (b := 1))) (.list _) (op_item_list (by lia) (get (i + 1) (by lia)) (by rw [List.length_map]; lia))) Ev.int (.list _) (op_item_list (d := dS ((togRow l).getD (i + 1) ([], [])).1) (by decide) rfl (by simp))) .nil)) ((told_fn T _ _).callD (Nat.le_refl _)) (T.k _ _ (id rfl)) rfl)))
      · show (!((untold (togRow l)).map _).isEmpty) = _
        cases untold (togRow l) <;> rfl
      · show ((untold (togRow l)).map _).length ≤ _
        rw [List.length_map]
        refine Nat.le_trans (List.length_filter_le _ _) ?_
        rw [List.length_range]; lia
    · have h' : ¬untold (togRow l) = [] := by simpa using h
      have e : togT l = [] := by unfold togT; rw [if_neg h']
      rw [e]
      exact Ex.ret (Ev.strC (l := [])) fun g v S r => ⟨(by intro q; cases q), ret_of hU r⟩
    · have h' : untold (togRow l) = [] := by simpa using h
      have e : togT l = ((togRow l).map (·.2)).flatten := by unfold togT; rw [if_pos h']
      rw [e]
      refine Ex.ret (Ev.join (l := (togRow l).map (·.2)) (Ev.strC (l := [])) ?_ ?_) fun g v S r => ret_of hU r
      · have e2 : dSs ((togRow l).map (·.2)) = .list (((togRow l).filter (fun _ => true)).map fun r => dS r.2) := by rw [filter_true]; simp
        rw [e2]
        exact Ev.comp (as := togRow l) dRow (cl := []) (ρ₀ := []) (fun r => [(Str.ofString "last", .dat (dS r.2)), (Str.ofString "spun", .dat (dS r.1))]) _ _ (Sees.zero rfl rfl (by decide) (by decide)) (IterOf.list (Ev.var rfl)) (by lia) (fun r _ C D es => AsgL.pairL rfl rfl) (fun r _ y b h => by cases h) (fun r _ C D es => TrIfs.nil) (fun r _ _ C D es => Ev.var rfl)
      · rw [flatten_one_len _ (togRow_one l)]; lia
end
end Mine
end
noncomputable section
open PySem PySem.Calls PySem.W PyProof.Rows
set_option Elab.async false
set_option maxRecDepth 100000
set_option linter.unusedVariables false
namespace Mine

/-- what the tree of questions ends with, when each is answered by lt -/
def evT {α : Type} (lt : Nat → Nat → Bool) : KasT α → α
  | .ret a => a
  | .ask i j k => evT lt (k (lt i j))
def Asks {α : Type} (n : Nat) : KasT α → Prop
  | .ret _ => True
  | .ask i j k => i < n ∧ j < n ∧ ∀ b, Asks n (k b)
theorem evT_bind {α β : Type} (lt : Nat → Nat → Bool) (f : α → KasT β) : ∀ t : KasT α, evT lt (t.bind f) = evT lt (f (evT lt t))
  | .ret a => rfl
  | .ask i j k => evT_bind lt f (k (lt i j))
theorem Asks.bind {α β : Type} {n : Nat} {f : α → KasT β} : ∀ {t : KasT α}, Asks n t → (∀ a, Asks n (f a)) → Asks n (t.bind f)
  | .ret a, _, h => h a
  | .ask i j k, h, hf => ⟨h.1, h.2.1, fun b => (h.2.2 b).bind hf⟩
/-- as above, with what is known of the first part's end whatever the answers are -/
def Ends {α : Type} (P : α → Prop) : KasT α → Prop
  | .ret a => P a
  | .ask _ _ k => ∀ b, Ends P (k b)
theorem Asks.bindE {α β : Type} {n : Nat} {P : α → Prop} {f : α → KasT β} : ∀ {t : KasT α}, Asks n t → Ends P t → (∀ a, P a → Asks n (f a)) → Asks n (t.bind f)
  | .ret a, _, e, h => h a e
  | .ask i j k, h, e, hf => ⟨h.1, h.2.1, fun b => (h.2.2 b).bindE (e b) hf⟩
theorem Ends.bind {α β : Type} {P : α → Prop} {R : β → Prop} {f : α → KasT β} : ∀ {t : KasT α}, Ends P t → (∀ a, P a → Ends R (f a)) → Ends R (t.bind f)
  | .ret a, e, h => h a e
  | .ask i j k, e, hf => fun b => (e b).bind hf
theorem Ends.ev {α : Type} {P : α → Prop} (lt : Nat → Nat → Bool) : ∀ {t : KasT α}, Ends P t → P (evT lt t)
  | .ret a, e => e
  | .ask i j k, e => (e (lt i j)).ev lt
theorem Ends.true {α : Type} : ∀ t : KasT α, Ends (fun _ => True) t
  | .ret a => trivial
  | .ask i j k => fun b => Ends.true (k b)
theorem wp_ev {α : Type} {n : Nat} {lt : Nat → Nat → Bool} {cmp : Nat → Nat → (Bool → Shared → Prop) → Shared → Prop} {Q : α → Shared → Prop} {s : Shared}
    (hc : ∀ i j (C : Bool → Shared → Prop), i < n → j < n → C (lt i j) s → cmp i j C s) : ∀ {t : KasT α}, Asks n t → Q (evT lt t) s → t.kasWp cmp Q s
  | .ret a, _, h => h
  | .ask i j k, ha, h => hc i j _ ha.1 ha.2.1 (wp_ev hc (ha.2.2 _) h)

/-- the places in some order -/
def Good (n : Nat) (p : Array Nat) : Prop := p.toList.Perm (List.range n)
theorem Good.size {n : Nat} {p : Array Nat} (h : Good n p) : p.size = n := by have := h.length_eq; simpa using this
theorem Good.perm {n : Nat} {p q : Array Nat} (h : Good n p) (k : q.Perm p) : Good n q := k.toList.trans h
theorem Good.rev {n : Nat} {p : Array Nat} (h : Good n p) (i j : Nat) : Good n (kas_rev p i j) := h.perm (mirror_perm _ _ _ _)
theorem Good.bub {n : Nat} {p : Array Nat} (h : Good n p) (i j : Nat) : Good n (bubble p i j) := h.perm (bubble_perm _ _ _)
theorem Good.lt {n : Nat} {p : Array Nat} (h : Good n p) (h0 : 0 < n) (i : Nat) : p.getD i 0 < n := by
  by_cases q : i < p.size
  · have e : p.getD i 0 = p[i] := by simp [Array.getD, q]
    rw [e]
    have : p[i] ∈ p.toList := by simp
    exact List.mem_range.mp (h.mem_iff.mp this)
  · have e : p.getD i 0 = 0 := by simp [Array.getD, q]
    lia
theorem Good.ne {n : Nat} {p : Array Nat} (h : Good n p) {i j : Nat} (hi : i < n) (hj : j < n) (hij : i ≠ j) : p.getD i 0 ≠ p.getD j 0 := by
  have hs := h.size
  have e : ∀ k, k < n → p.getD k 0 = p.toList[k]?.getD 0 := fun k hk => by simp [Array.getD, hs, hk]
  have nd : p.toList.Nodup := h.nodup_iff.mpr List.nodup_range
  have hl : p.toList.length = n := by simp [hs]
  rw [e i hi, e j hj, List.getElem?_eq_getElem (by lia), List.getElem?_eq_getElem (by lia)]
  intro q
  exact hij ((List.getElem_inj nd).mp q)

section
variable {n : Nat} {r : Nat → Nat}
theorem ask_asc {p : Array Nat} (h : Good n p) (h0 : 0 < n) : ∀ f k, Asks n (kas_asc p f k)
  | 0, k => trivial
  | f + 1, k => ⟨h.lt h0 _, h.lt h0 _, fun b => by cases b <;> simp only [Bool.false_eq_true, if_false, if_true] <;> first | exact ask_asc h h0 f (k + 1) | exact trivial⟩
theorem ask_desc (h0 : 0 < n) : ∀ f (p : Array Nat) k q, Good n p → Asks n (kas_desc f p k q) ∧ Ends (fun x => Good n x.1) (kas_desc f p k q)
  | 0, p, k, q, h => ⟨trivial, h⟩
  | f + 1, p, k, q, h => by
    have go : ∀ b : Bool, Asks n (if b = true then (if q > 0 then kas_desc f (kas_rev p (k - (q + 1)) k) (k + 1) 0 else kas_desc f p (k + 1) 0) else .ask (p.getD (k - 1) 0) (p.getD k 0) fun d => if d = true then .ret (p, k, q) else kas_desc f p (k + 1) (q + 1))
        ∧ Ends (fun x => Good n x.1) (if b = true then (if q > 0 then kas_desc f (kas_rev p (k - (q + 1)) k) (k + 1) 0 else kas_desc f p (k + 1) 0) else .ask (p.getD (k - 1) 0) (p.getD k 0) fun d => if d = true then .ret (p, k, q) else kas_desc f p (k + 1) (q + 1)) := by
      intro b
      cases b with
      | true =>
        simp only [if_true]
        split
        · exact ask_desc h0 f _ _ _ (h.rev _ _)
        · exact ask_desc h0 f _ _ _ h
      | false =>
        simp only [Bool.false_eq_true, if_false]
        refine ⟨⟨h.lt h0 _, h.lt h0 _, fun d => ?_⟩, fun d => ?_⟩
        · cases d with
          | true => simp only [if_true]; exact trivial
          | false => simp only [Bool.false_eq_true, if_false]; exact (ask_desc h0 f _ _ _ h).1
        · cases d with
          | true => simp only [if_true]; exact h
          | false => simp only [Bool.false_eq_true, if_false]; exact (ask_desc h0 f _ _ _ h).2
    exact ⟨⟨h.lt h0 _, h.lt h0 _, fun b => (go b).1⟩, fun b => (go b).2⟩
theorem ask_tail3 {p : Array Nat} (h : Good n p) (h0 : 0 < n) (a b : Nat) : Asks n (kas_tail3 a b p) ∧ Ends (fun x => Good n x.2) (kas_tail3 a b p) :=
  ⟨(ask_asc (h.rev _ _) h0 _ _).bind fun m => trivial, (Ends.true _).bind fun m _ => h.rev _ _⟩
theorem ask_descPart {p : Array Nat} (h : Good n p) (h0 : 0 < n) (a b : Nat) : Asks n (kas_descPart a b p) ∧ Ends (fun x => Good n x.2) (kas_descPart a b p) := by
  obtain ⟨h1, h2⟩ := ask_desc h0 (b - (a + 1)) p (a + 1) 0 h
  refine ⟨h1.bindE h2 fun x hx => ?_, h2.bind fun x hx => ?_⟩
  · split
    · exact (ask_tail3 (hx.rev _ _) h0 _ _).1
    · exact (ask_tail3 hx h0 _ _).1
  · split
    · exact (ask_tail3 (hx.rev _ _) h0 _ _).2
    · exact (ask_tail3 hx h0 _ _).2
theorem ask_count {p : Array Nat} (h : Good n p) (h0 : 0 < n) (b : Nat) : Asks n (kas_count b p) ∧ Ends (fun x => Good n x.2) (kas_count b p) := by
  refine ⟨(ask_asc h h0 _ _).bind fun m => ?_, (Ends.true _).bind fun m _ => ?_⟩
  · split
    · exact trivial
    · split
      · refine ⟨h.lt h0 _, h.lt h0 _, fun c => ?_⟩
        cases c <;> simp only [Bool.false_eq_true, if_false, if_true] <;> first | exact (ask_descPart (h.rev _ _) h0 _ _).1 | exact trivial
      · exact (ask_descPart h h0 _ _).1
  · split
    · exact h
    · split
      · intro c
        cases c <;> simp only [Bool.false_eq_true, if_false, if_true] <;> first | exact (ask_descPart (h.rev _ _) h0 _ _).2 | exact h
      · exact (ask_descPart h h0 _ _).2
theorem ask_place {p : Array Nat} (h : Good n p) (h0 : 0 < n) (k : Nat) : ∀ f l q, Asks n (kas_place p k f l q)
  | 0, l, q => trivial
  | f + 1, l, q => by
    unfold kas_place
    split
    · exact trivial
    · refine ⟨h.lt h0 _, h.lt h0 _, fun b => ?_⟩
      cases b <;> simp only [Bool.false_eq_true, if_false, if_true]
      · exact ask_place h h0 k f _ _
      · exact ask_place h h0 k f _ _
theorem ask_bin (h0 : 0 < n) : ∀ f (p : Array Nat) k, Good n p → Asks n (kas_bin f p k) ∧ Ends (Good n) (kas_bin f p k)
  | 0, p, k, h => ⟨trivial, h⟩
  | f + 1, p, k, h => ⟨(ask_place h h0 k k 0 k).bind fun l => (ask_bin h0 f _ _ (h.bub _ _)).1, (Ends.true _).bind fun l _ => (ask_bin h0 f _ _ (h.bub _ _)).2⟩
theorem good_range : Good n (List.toArray (List.range n)) := List.Perm.refl _
theorem ask_sort (h0 : 0 < n) : Asks n (kas_sort n) ∧ Ends (Good n) (kas_sort n) := by
  obtain ⟨h1, h2⟩ := ask_count (good_range (n := n)) h0 n
  refine ⟨h1.bindE h2 fun x hx => ?_, h2.bind fun x hx => ?_⟩
  · split
    · exact (ask_bin h0 _ _ _ hx).1
    · exact trivial
  · split
    · exact (ask_bin h0 _ _ _ hx).2
    · exact hx

-- order
abbrev ltR (r : Nat → Nat) (i j : Nat) : Bool := decide (r i < r j)
abbrev at_ (r : Nat → Nat) (p : Array Nat) (i : Nat) : Nat := r (p.getD i 0)
def AscT (r : Nat → Nat) (p : Array Nat) (k : Nat) : Prop := ∀ i j, i < j → j < k → at_ r p i < at_ r p j
def DescT (r : Nat → Nat) (p : Array Nat) (k : Nat) : Prop := ∀ i j, i < j → j < k → at_ r p j < at_ r p i
theorem AscT.one (p : Array Nat) : AscT r p 1 := fun i j h k => by lia
theorem AscT.more {p : Array Nat} {k : Nat} (h : AscT r p k) (h1 : 1 ≤ k) (hk : at_ r p (k - 1) < at_ r p k) : AscT r p (k + 1) := fun i j hij hj => by
  rcases Nat.lt_or_ge j k with q | q
  · exact h i j hij q
  · have : j = k := by lia
    subst this
    rcases Nat.lt_or_ge i (j - 1) with q | q
    · exact Nat.lt_trans (h i (j - 1) q (by lia)) hk
    · have : i = j - 1 := by lia
      rw [this]; exact hk
theorem DescT.more {p : Array Nat} {k : Nat} (h : DescT r p k) (h1 : 1 ≤ k) (hk : at_ r p k < at_ r p (k - 1)) : DescT r p (k + 1) := fun i j hij hj => by
  rcases Nat.lt_or_ge j k with q | q
  · exact h i j hij q
  · have : j = k := by lia
    subst this
    rcases Nat.lt_or_ge i (j - 1) with q | q
    · exact Nat.lt_trans hk (h i (j - 1) q (by lia))
    · have : i = j - 1 := by lia
      rw [this]; exact hk
theorem Good.cmp {p : Array Nat} (h : Good n p) (hr : ∀ i j, i < n → j < n → r i = r j → i = j) {i j : Nat} (hi : i < n) (hj : j < n) (hij : i ≠ j) (hlt : ¬at_ r p i < at_ r p j) : at_ r p j < at_ r p i := by
  have h0 : 0 < n := by lia
  have : at_ r p i ≠ at_ r p j := fun q => h.ne hi hj hij (hr _ _ (h.lt h0 _) (h.lt h0 _) q)
  lia
theorem ev_asc {p : Array Nat} (h : Good n p) (hr : ∀ i j, i < n → j < n → r i = r j → i = j) : ∀ f k, 1 ≤ k → k + f ≤ n → AscT r p k → (k ≤ evT (ltR r) (kas_asc p f k)) ∧ evT (ltR r) (kas_asc p f k) ≤ k + f ∧ AscT r p (evT (ltR r) (kas_asc p f k)) ∧ (evT (ltR r) (kas_asc p f k) < k + f → at_ r p (evT (ltR r) (kas_asc p f k)) < at_ r p (evT (ltR r) (kas_asc p f k) - 1))
  | 0, k, h1, hk, ha => ⟨Nat.le_refl _, Nat.le_refl _, ha, fun q => absurd q (Nat.lt_irrefl _)⟩
  | f + 1, k, h1, hk, ha => by
    show _ ∧ _
    have e : evT (ltR r) (kas_asc p (f + 1) k) = evT (ltR r) (if ltR r (p.getD k 0) (p.getD (k - 1) 0) = true then .ret k else kas_asc p f (k + 1)) := rfl
    rw [e]
    by_cases q : r (p.getD k 0) < r (p.getD (k - 1) 0)
    · rw [if_pos (decide_eq_true q)]
      exact ⟨Nat.le_refl _, Nat.le_add_right _ _, ha, fun _ => q⟩
    · rw [if_neg (by simpa using q)]
      have := h.cmp hr (i := k) (j := k - 1) (by lia) (by lia) (by lia) q
      obtain ⟨a1, a2, a3, a4⟩ := ev_asc h hr f (k + 1) (by lia) (by lia) (ha.more h1 this)
      exact ⟨by lia, by lia, a3, fun z => a4 (by lia)⟩
theorem ev_desc {p : Array Nat} (h : Good n p) (hr : ∀ i j, i < n → j < n → r i = r j → i = j) : ∀ f k, 1 ≤ k → k + f ≤ n → DescT r p k → ∃ m, evT (ltR r) (kas_desc f p k 0) = (p, m, 0) ∧ k ≤ m ∧ m ≤ k + f ∧ DescT r p m
  | 0, k, h1, hk, ha => ⟨k, rfl, Nat.le_refl _, Nat.le_refl _, ha⟩
  | f + 1, k, h1, hk, ha => by
    have e : evT (ltR r) (kas_desc (f + 1) p k 0) = evT (ltR r) (if ltR r (p.getD k 0) (p.getD (k - 1) 0) = true then (if 0 > 0 then kas_desc f (kas_rev p (k - (0 + 1)) k) (k + 1) 0 else kas_desc f p (k + 1) 0)
      else .ask (p.getD (k - 1) 0) (p.getD k 0) fun d => if d = true then .ret (p, k, 0) else kas_desc f p (k + 1) (0 + 1)) := rfl
    rw [e]
    by_cases q : r (p.getD k 0) < r (p.getD (k - 1) 0)
    · rw [if_pos (decide_eq_true q), if_neg (by lia)]
      obtain ⟨m, a1, a2, a3, a4⟩ := ev_desc h hr f (k + 1) (by lia) (by lia) (ha.more h1 q)
      exact ⟨m, a1, by lia, by lia, a4⟩
    · rw [if_neg (by simpa using q)]
      have := h.cmp hr (i := k) (j := k - 1) (by lia) (by lia) (by lia) q
      have e2 : evT (ltR r) (KasT.ask (p.getD (k - 1) 0) (p.getD k 0) fun d => if d = true then .ret (p, k, 0) else kas_desc f p (k + 1) (0 + 1)) = evT (ltR r) (if ltR r (p.getD (k - 1) 0) (p.getD k 0) = true then .ret (p, k, 0) else kas_desc f p (k + 1) (0 + 1)) := rfl
      rw [e2, if_pos (decide_eq_true this)]
      exact ⟨k, rfl, Nat.le_refl _, Nat.le_add_right _ _, ha⟩
theorem getD_get {p q : Array Nat} {i j : Nat} (h : p[i]? = q[j]?) : p.getD i 0 = q.getD j 0 := by
  have e : ∀ (p : Array Nat) i, p.getD i 0 = p[i]?.getD 0 := fun p i => by simp [Array.getD_eq_getD_getElem?]
  rw [e, e, h]
theorem rev_asc {p : Array Nat} {m : Nat} (hm : m ≤ p.size) (h : DescT r p m) : AscT r (kas_rev p 0 m) m := fun i j hij hj => by
  have e : ∀ k, k < m → (kas_rev p 0 m).getD k 0 = p.getD (0 + m - 1 - k) 0 := fun k hk => getD_get (by
    show (mirror p 0 m ((m - 0) / 2))[k]? = _
    rw [getElem?_mirror_all hm, if_pos ⟨Nat.zero_le _, hk⟩])
  show r _ < r _
  rw [e i (by lia), e j hj]
  exact h _ _ (by lia) (by lia)
theorem ev_count (h2 : 2 ≤ n) {p : Array Nat} (h : Good n p) (hr : ∀ i j, i < n → j < n → r i = r j → i = j) : ∃ m q, evT (ltR r) (kas_count n p) = (m, q) ∧ 1 ≤ m ∧ m ≤ n ∧ Good n q ∧ AscT r q m := by
  have hs := h.size
  unfold kas_count
  rw [evT_bind]
  obtain ⟨a1, a2, a3, a4⟩ := ev_asc h hr (n - 1) 1 (Nat.le_refl _) (by lia) (AscT.one p)
  generalize evT (ltR r) (kas_asc p (n - 1) 1) = m at a1 a2 a3 a4
  by_cases q : m = n
  · rw [if_pos (by simpa using q)]
    exact ⟨m, p, rfl, a1, by lia, h, a3⟩
  · rw [if_neg (by simpa using q)]
    by_cases q2 : m > 1
    · rw [if_pos q2]
      have e : evT (ltR r) (KasT.ask (p.getD 0 0) (p.getD (m - 1) 0) fun c => if c = true then .ret (m, p) else kas_descPart m n (kas_rev p 0 m)) = evT (ltR r) (if ltR r (p.getD 0 0) (p.getD (m - 1) 0) = true then .ret (m, p) else kas_descPart m n (kas_rev p 0 m)) := rfl
      rw [e, if_pos (decide_eq_true (a3 0 (m - 1) (by lia) (by lia)))]
      exact ⟨m, p, rfl, a1, by lia, h, a3⟩
    · rw [if_neg q2]
      have m1 : m = 1 := by lia
      subst m1
      have d2 : DescT r p 2 := fun i j hij hj => by
        have : i = 0 := by lia
        have : j = 1 := by lia
        subst i; subst j
        exact a4 (by lia)
      unfold kas_descPart
      rw [evT_bind]
      obtain ⟨m, b1, b2, b3, b4⟩ := ev_desc h hr (n - (1 + 1)) (1 + 1) (by lia) (by lia) d2
      rw [b1]
      dsimp only
      rw [if_neg (by lia)]
      unfold kas_tail3
      rw [evT_bind]
      have c0 := rev_asc (by lia) b4
      obtain ⟨c1, c2, c3, _⟩ := ev_asc (h.rev 0 m) hr (n - m) m (by lia) (by lia) c0
      exact ⟨_, _, rfl, by lia, by lia, h.rev 0 m, c3⟩
theorem ev_place {p : Array Nat} (h : Good n p) (hr : ∀ i j, i < n → j < n → r i = r j → i = j) {k : Nat} (hk : k < n) (ha : AscT r p k) : ∀ f l q, l ≤ q → q ≤ k → q ≤ l + f → (∀ i, i < l → at_ r p i < at_ r p k) → (∀ i, q ≤ i → i < k → at_ r p k < at_ r p i) →
    evT (ltR r) (kas_place p k f l q) ≤ k ∧ (∀ i, i < evT (ltR r) (kas_place p k f l q) → at_ r p i < at_ r p k) ∧ ∀ i, evT (ltR r) (kas_place p k f l q) ≤ i → i < k → at_ r p k < at_ r p i
  | 0, l, q, h1, h2, h3, hl, hq => by
    have e : evT (ltR r) (kas_place p k 0 l q) = l := rfl
    rw [e]
    exact ⟨by lia, hl, fun i hi hik => hq i (by lia) hik⟩
  | f + 1, l, q, h1, h2, h3, hl, hq => by
    unfold kas_place
    by_cases z : l ≥ q
    · rw [if_pos z]
      have e : evT (ltR r) (KasT.ret l : KasT Nat) = l := rfl
      rw [e]
      exact ⟨by lia, hl, fun i hi hik => hq i (by lia) hik⟩
    · rw [if_neg z]
      have e : evT (ltR r) (KasT.ask (p.getD k 0) (p.getD ((l + q) / 2) 0) fun c => if c = true then kas_place p k f l ((l + q) / 2) else kas_place p k f ((l + q) / 2 + 1) q) = evT (ltR r) (if ltR r (p.getD k 0) (p.getD ((l + q) / 2) 0) = true then kas_place p k f l ((l + q) / 2) else kas_place p k f ((l + q) / 2 + 1) q) := rfl
      rw [e]
      by_cases c : r (p.getD k 0) < r (p.getD ((l + q) / 2) 0)
      · rw [if_pos (decide_eq_true c)]
        refine ev_place h hr hk ha f l ((l + q) / 2) (by lia) (by lia) (by lia) hl fun i hi hik => ?_
        rcases Nat.lt_or_ge ((l + q) / 2) i with y | y
        · exact Nat.lt_trans c (ha _ _ y hik)
        · have : i = (l + q) / 2 := by lia
          rw [this]; exact c
      · rw [if_neg (by simpa using c)]
        have := h.cmp hr (i := k) (j := (l + q) / 2) hk (by lia) (by lia) c
        refine ev_place h hr hk ha f ((l + q) / 2 + 1) q (by lia) h2 (by lia) (fun i hi => ?_) hq
        rcases Nat.lt_or_ge i ((l + q) / 2) with y | y
        · exact Nat.lt_trans (ha _ _ y (by lia)) this
        · have : i = (l + q) / 2 := by lia
          rw [this]; assumption
theorem ev_bin (hr : ∀ i j, i < n → j < n → r i = r j → i = j) : ∀ f (p : Array Nat) k, Good n p → 1 ≤ k → k + f = n → AscT r p k → AscT r (evT (ltR r) (kas_bin f p k)) n
  | 0, p, k, h, h1, hk, ha => by
    have : k = n := by lia
    subst this; exact ha
  | f + 1, p, k, h, h1, hk, ha => by
    unfold kas_bin
    rw [evT_bind]
    have hs := h.size
    obtain ⟨a1, a2, a3⟩ := ev_place h hr (k := k) (by lia) ha k 0 k (Nat.zero_le _) (Nat.le_refl _) (by lia) (fun i hi => absurd hi (Nat.not_lt_zero _)) (fun i hi hik => absurd hik (by lia))
    generalize evT (ltR r) (kas_place p k k 0 k) = l at a1 a2 a3
    refine ev_bin hr f _ (k + 1) (h.bub _ _) (by lia) (by lia) ?_
    have e : ∀ i, (bubble p k (k - l)).getD i 0 = if i = l then p.getD k 0 else if l < i ∧ i ≤ k then p.getD (i - 1) 0 else p.getD i 0 := fun i => by
      have hb := getElem?_bubble (xs := p) (src := k) (by lia) (k - l) (by lia) i
      have kl : k - (k - l) = l := by lia
      rw [kl] at hb
      split
      · rename_i z; rw [if_pos z] at hb; exact getD_get hb
      · rename_i z; rw [if_neg z] at hb
        split
        · rename_i y; rw [if_pos y] at hb; exact getD_get hb
        · rename_i y; rw [if_neg y] at hb; exact getD_get hb
    intro i j hij hj
    show r _ < r _
    rw [e i, e j]
    by_cases i1 : i = l
    · rw [if_pos i1, if_neg (show ¬j = l by lia), if_pos (show l < j ∧ j ≤ k by lia)]
      exact a3 (j - 1) (by lia) (by lia)
    · rw [if_neg i1]
      by_cases i2 : l < i ∧ i ≤ k
      · rw [if_pos i2, if_neg (show ¬j = l by lia), if_pos (show l < j ∧ j ≤ k by lia)]
        exact ha _ _ (by lia) (by lia)
      · rw [if_neg i2]
        by_cases j1 : j = l
        · rw [if_pos j1]; exact a2 i (by lia)
        · rw [if_neg j1]
          by_cases j2 : l < j ∧ j ≤ k
          · rw [if_pos j2]
            rcases Nat.lt_or_ge i (j - 1) with y | y
            · exact ha _ _ y (by lia)
            · lia
          · rw [if_neg j2]; exact ha _ _ hij (by lia)
/-- the sort sorts -/
theorem ev_sort (h2 : 2 ≤ n) (hr : ∀ i j, i < n → j < n → r i = r j → i = j) : Good n (evT (ltR r) (kas_sort n)) ∧ AscT r (evT (ltR r) (kas_sort n)) n := by
  refine ⟨(ask_sort (by lia)).2.ev _, ?_⟩
  unfold kas_sort
  rw [evT_bind]
  obtain ⟨m, q, a1, a2, a3, a4, a5⟩ := ev_count h2 (good_range (n := n)) hr
  rw [a1]
  dsimp only
  by_cases z : m < n
  · rw [if_pos z]
    have : max m 1 = m := by lia
    rw [this]
    exact ev_bin hr (n - m) q m a4 a2 (by lia) a5
  · rw [if_neg z]
    have : m = n := by lia
    subst this
    exact a5
end
end Mine
end
noncomputable section
open PySem PySem.Calls PySem.W PyProof.Rows
set_option Elab.async false
set_option maxRecDepth 100000
set_option linter.unusedVariables false
namespace Mine

/-- the places of a text in the order of their signs, of like ones in turn -/
def keyT (t : Tx) (i : Nat) : Nat := t.getD i 0 * 1000 + i
def orderT (t : Tx) : List Nat := (List.range t.length).mergeSort fun i j => decide (keyT t i ≤ keyT t j)
theorem orderT_perm (t : Tx) : (orderT t).Perm (List.range t.length) := List.mergeSort_perm _ _
theorem orderT_sorted (t : Tx) : (orderT t).Pairwise fun i j => keyT t i ≤ keyT t j := by
  have := List.pairwise_mergeSort (le := fun i j => decide (keyT t i ≤ keyT t j)) (fun a b c h k => by simp only [decide_eq_true_eq] at *; lia) (fun a b => by simp only [Bool.or_eq_true, decide_eq_true_eq]; lia) (List.range t.length)
  exact this.imp fun h => by simpa using h
theorem keyT_inj {t : Tx} (hz : t.length ≤ 1000) {i j : Nat} (hi : i < t.length) (hj : j < t.length) (h : keyT t i = keyT t j) : i = j := by unfold keyT at h; lia
theorem orderT_unique {t : Tx} (hz : t.length ≤ 1000) {l : List Nat} (hp : l.Perm (List.range t.length)) (hs : l.Pairwise fun i j => keyT t i ≤ keyT t j) : l = orderT t := by
  refine List.Perm.eq_of_pairwise (le := fun i j => keyT t i ≤ keyT t j) (fun a b ha hb h1 h2 => ?_) hs (orderT_sorted t) (hp.trans (orderT_perm t).symm)
  exact keyT_inj hz (List.mem_range.mp (hp.mem_iff.mp ha)) (List.mem_range.mp ((orderT_perm t).mem_iff.mp hb)) (Nat.le_antisymm h1 h2)

section
variable {prog : Program} {w : World} {A : Around} {E : Value → Shared → Prop} {s : Shared}
/-- a list is put in order in place: any kind of keys, each question answered alike whatever has been added -/
theorem sort_in {a : Addr} {vs : List Value} {n : Nat} {lt : Nat → Nat → Bool} {κ : SortKind} {h₀ : Heap} {P : PySem.Fin → Shared → Prop} (ho : s.heap.get? a = some (seqObj "list" vs.toArray n)) (h2 : 2 ≤ vs.length) (h64 : vs.length < 64)
    (hb : ∀ b o, h₀.get? b = some o → b ≠ a ∧ s.heap.get? b = some o)
    (hkind : ∀ (s' : Shared) (Q : SortKind → Shared → Prop), Le h₀ s'.heap → Q κ s' → wpAny (model prog w) A (keyKind' vs.toArray) Q (fun _ _ => False) s')
    (hcmp : ∀ (s' : Shared) i j (C : Bool → Shared → Prop), Le h₀ s'.heap → i < vs.length → j < vs.length → C (lt i j) s' → kas_ask prog w A κ vs i j C s')
    (h : P (.done (.ret .none)) { s with heap := sortedHeap s.heap a vs (List.toArray ((evT lt (kas_sort vs.length)).toList.map fun i => vs.getD i Value.none)) }) :
    wpAny (model prog w) A (Builtin.«list.sort» ⟨[.ref a], []⟩) P E s := by
  have ha : a < s.heap.objs.size := Heap.lt_size ho
  obtain ⟨e1, ho1⟩ : ∃ e1, (s.heap.update a (Obj.mapSeq fun _ => (#[] : Array Value))).get? a = some (seqObj "list" #[] e1) := ⟨_, get?_update_seq ho fun _ => #[]⟩
  have s1 := Heap.SameBut.update s.heap a (Obj.mapSeq fun _ => (#[] : Array Value))
  have k6 : Le h₀ (((s.heap.update a (Obj.mapSeq fun _ => (#[] : Array Value))).push (seqObj "tuple" vs.toArray 0)).push (seqObj "list" #[] 0)) := fun b o e =>
    Heap.get?_push_of_some _ (Heap.get?_push_of_some _ ((s1.2 b (hb b o e).1).trans (hb b o e).2))
  have ho6 : (((s.heap.update a (Obj.mapSeq fun _ => (#[] : Array Value))).push (seqObj "tuple" vs.toArray 0)).push (seqObj "list" #[] 0)).get? a = some (seqObj "list" #[] e1) := Heap.get?_push_of_some _ (Heap.get?_push_of_some _ ho1)
  rw [list_sort_plain]
  refine wpAny_bind (listItems_at ho rfl ?_)
  refine wpAny_bind (listUpdate_at ho rfl ?_ (by rw [List.size_toArray, sizeLine_eq]; lia) (Nat.zero_le _))
  refine wpAny_bind (seqEpoch_at ho1 rfl ?_)
  refine wpAny_bind (wpAny_newTuple ?_ (by show vs.length ≤ _; rw [sizeLine_eq]; lia))
  refine wpAny_bind (wpAny_newList ?_ (Nat.zero_le _))
  refine wpAny_holding ?_
  show wpAny (model prog w) A _ P E { s with heap := ((s.heap.update a (Obj.mapSeq fun _ => (#[] : Array Value))).push (seqObj "tuple" vs.toArray 0)).push (seqObj "list" #[] 0) }
  dsimp only
  have hn2 : ¬ vs.toArray.size < 2 := by rw [List.size_toArray]; lia
  rw [if_neg hn2, if_neg hn2]
  refine wpAny_bind (wpAny_mono (hkind { s with heap := ((s.heap.update a (Obj.mapSeq fun _ => (#[] : Array Value))).push (seqObj "tuple" vs.toArray 0)).push (seqObj "list" #[] 0) } (fun κ' s' => κ' = κ ∧ s' = { s with heap := ((s.heap.update a (Obj.mapSeq fun _ => (#[] : Array Value))).push (seqObj "tuple" vs.toArray 0)).push (seqObj "list" #[] 0) }) k6 ⟨rfl, rfl⟩) (fun κ' s' hk => ?_) fun _ _ x => x.elim)
  obtain ⟨rfl, rfl⟩ := hk
  refine wpAny_bind (wpAny_mono (kat_run (ks := vs) (vs := vs) (Q := fun st' s' => arrOf st' = (evT lt (kas_sort vs.length)).map (kas_item (vs.toArray.zip vs.toArray)) ∧ failedOf st' = none ∧ s' = { s with heap := ((s.heap.update a (Obj.mapSeq fun _ => (#[] : Array Value))).push (seqObj "tuple" vs.toArray 0)).push (seqObj "list" #[] 0) })
    (G := fun p s' => p = evT lt (kas_sort vs.length) ∧ s' = { s with heap := ((s.heap.update a (Obj.mapSeq fun _ => (#[] : Array Value))).push (seqObj "tuple" vs.toArray 0)).push (seqObj "list" #[] 0) }) rfl h2 h64 (fun p' st' s' a1 a2 a3 a4 => ⟨by rw [a2, a4.1], a3, a4.2⟩)
    (wp_ev (fun i j C hi hj hC => hcmp _ i j C k6 hi hj hC) (ask_sort (by lia)).1 ⟨rfl, rfl⟩)) ?_ fun _ _ e => e)
  rintro ⟨⟨⟩, st'⟩ s' ⟨har, hf, rfl⟩
  dsimp only
  have hout := kat_snds (ks := vs) rfl har
  have hgd := (ask_sort (n := vs.length) (by lia)).2.ev lt
  have hsz : (List.toArray ((evT lt (kas_sort vs.length)).toList.map fun i => vs.getD i Value.none)).size = vs.length := by rw [List.size_toArray, List.length_map, Array.length_toList, hgd.size]
  rw [hout]
  refine wpAny_bind (seqEpoch_at ho6 rfl ?_)
  refine wpAny_bind (listUpdate_at ho6 rfl ?_ (Nat.zero_le _) (Nat.le_trans (Nat.le_of_eq hsz) (by rw [sizeLine_eq]; lia)))
  rw [hf]
  simp only [bne_self_eq_false, Bool.false_eq_true, if_false]
  exact wpAny_pure h
theorem sorted_by {l : Addr} {vs : List Value} {lt : Nat → Nat → Bool} {κ : SortKind} {Q : Value → Shared → Prop} (hl : s.heap.IsList l vs.toArray) (h2 : 2 ≤ vs.length) (h64 : vs.length < 64)
    (hkind : ∀ (s' : Shared) (Q : SortKind → Shared → Prop), Le s.heap s'.heap → Q κ s' → wpAny (model prog w) A.in1.in1 (keyKind' vs.toArray) Q (fun _ _ => False) s')
    (hcmp : ∀ (s' : Shared) i j (C : Bool → Shared → Prop), Le s.heap s'.heap → i < vs.length → j < vs.length → C (lt i j) s' → kas_ask prog w A.in1.in1 κ vs i j C s')
    (h : Q (.ref (s.heap.objs.size + 1)) { s with heap := sortedAll s.heap vs (List.toArray ((evT lt (kas_sort vs.length)).toList.map fun i => vs.getD i Value.none)) }) :
    wpAny (model prog w) A (call (.builtin "sorted") [.ref l]) Q E s := by
  refine Calls.call_function_entry kind_sorted plain_sorted entry_sorted (args_sorted1 _) ?_
  unfold Builtin.«sorted»
  refine wpAny_bind (m := checkCount "sorted" 1 1 _) (wpAny_pure ?_)
  refine wpAny_bind (collect_list hl ?_ (by rw [sizeLine_eq]; lia))
  refine wpAny_bind (wpAny_newList ?_ (by rw [sizeLine_eq]; lia))
  have hsz : ((s.heap.push (seqObj "list" #[] 0)).update s.heap.objs.size (Obj.mapSeq (· ++ vs.toArray))).objs.size = s.heap.objs.size + 1 := by
    rw [Heap.size_update, size_push']
  have hoL : (((s.heap.push (seqObj "list" #[] 0)).update s.heap.objs.size (Obj.mapSeq (· ++ vs.toArray))).push (seqObj "list" vs.toArray 0)).get? (s.heap.objs.size + 1) = some (seqObj "list" vs.toArray 0) := by
    rw [← hsz]; exact Heap.get?_push_size _ rfl
  have keep : ∀ b o, s.heap.get? b = some o → b ≠ s.heap.objs.size + 1 ∧ (((s.heap.push (seqObj "list" #[] 0)).update s.heap.objs.size (Obj.mapSeq (· ++ vs.toArray))).push (seqObj "list" vs.toArray 0)).get? b = some o := fun b o q => by
    have hlt : b < s.heap.objs.size := Heap.lt_size q
    refine ⟨Nat.ne_of_lt (Nat.lt_succ_of_lt hlt), ?_⟩
    rw [Heap.get?_push_ne _ _ _ (by rw [hsz]; exact Nat.ne_of_lt (Nat.lt_succ_of_lt hlt)), Heap.get?_update_ne _ _ _ _ (Nat.ne_of_lt hlt), Heap.get?_push_ne _ _ _ (Nat.ne_of_lt hlt)]
    exact q
  show wpAny _ _ _ _ _ { s with heap := ((s.heap.push (seqObj "list" #[] 0)).update s.heap.objs.size (Obj.mapSeq (· ++ vs.toArray))).push (seqObj "list" vs.toArray 0) }
  rw [hsz]
  refine wpAny_bind (wpAny_holding (wpAny_call_entry slot_list_sort ⟨_, hoL, rfl⟩ entry_list_sort ?body (args_list_sort _)))
  case body =>
    exact sort_in (h₀ := s.heap) (κ := κ) (lt := lt) (s := { s with heap := ((s.heap.push (seqObj "list" #[] 0)).update s.heap.objs.size (Obj.mapSeq (· ++ vs.toArray))).push (seqObj "list" vs.toArray 0) }) hoL h2 h64 keep hkind hcmp ⟨_, rfl, wpAny_pure ⟨_, rfl, h⟩⟩
end

section
variable {c : Cx}
def pairD (t : Tx) (i : Nat) : PyData := .tuple [dS [t.getD i 0], .int (i : Int)]
theorem looks_str {M : Model} {h : Heap} (x : Str) (u : Tok) : Looks M h (typeOf (.str x u)) (.type "str") := fun A Q E s _ q => wpAny_pure q
theorem c_sorted_pairs {t : Tx} (h2 : 2 ≤ t.length) (h64 : t.length < 64) : CallD c (.builtin "sorted") [.list ((List.range t.length).map (pairD t))] (.list ((orderT t).map (pairD t))) := fun A s vs ok S r => by
  cases r with | cons r r' => cases r' with | nil => cases r with | @list a ws n _ ha hg q =>
  have hl := q.length
  rw [List.length_map, List.length_range] at hl
  have item : ∀ i, i < ws.length → ∃ b us k u₁ u₂, ws.getD i Value.none = .ref b ∧ s.heap.get? b = some (tu us k) ∧ us = [.str (mk [t.getD i 0]) u₁, .int (i : Int) u₂] := fun i hi => by
    obtain ⟨d, e1, e2⟩ := q.get' (i := i) (List.getElem?_eq_getElem hi)
    rw [List.getElem?_map, List.getElem?_range (by lia)] at e1
    cases e1
    have e3 : ws.getD i Value.none = ws[i] := by simp [hi]
    rw [e3]
    generalize ws[i] = z at e2
    cases e2 with | @tuple b us k _ hb hgb qb =>
    cases qb with | cons q1 qb => cases qb with | cons q2 qb => cases qb with | nil =>
    cases q1; cases q2
    exact ⟨b, _, k, _, _, rfl, hgb, rfl⟩
  have hr : ∀ i j, i < ws.length → j < ws.length → keyT t i = keyT t j → i = j := fun i j hi hj h => keyT_inj (by lia) (by lia) (by lia) h
  obtain ⟨gd, asc⟩ := ev_sort (n := ws.length) (r := keyT t) (by lia) hr
  refine sorted_by (vs := ws) (lt := ltR (keyT t)) (κ := tuples' true) ⟨_, hg, rfl, n, rfl⟩ (by lia) (by lia) (fun s' Q' hk hQ => ?_) (fun s' i j C hk hi hj hC => ?_) ?_
  · have tups : ∀ (ws' : List Value), (∀ i, i < ws'.length → ∃ b us k u₁ u₂ y z, ws'.getD i Value.none = .ref b ∧ s.heap.get? b = some (tu us k) ∧ us = [.str y u₁, .int z u₂]) → ∃ fs, KatTups s'.heap ws' fs ∧ fs.length = ws'.length ∧ ∀ v ∈ fs, ∃ x u, v = .str x u := by
      intro ws'
      induction ws' with
      | nil => exact fun _ => ⟨[], trivial, rfl, fun v hv => (nomatch hv)⟩
      | cons v ws' ih =>
        intro hx
        obtain ⟨b, us, k, u₁, u₂, y, z, e1, e2, e3⟩ := hx 0 (Nat.zero_lt_succ _)
        obtain ⟨fs, f1, f2, f3⟩ := ih fun i hi => by
          obtain ⟨b, us, k, u₁, u₂, y, z, e1, e2, e3⟩ := hx (i + 1) (Nat.succ_lt_succ hi)
          exact ⟨b, us, k, u₁, u₂, y, z, by simpa using e1, e2, e3⟩
        have e1' : v = .ref b := by simpa using e1
        subst e1'
        refine ⟨.str y u₁ :: fs, KatTups.cons (hk _ _ e2) rfl rfl (by rw [e3]; rfl) f1, by simp [f2], fun v hv => ?_⟩
        rcases List.mem_cons.mp hv with z | z
        · exact ⟨_, _, z⟩
        · exact f3 v z
    obtain ⟨fs, f1, f2, f3⟩ := tups ws fun i hi => by
      obtain ⟨b, us, k, u₁, u₂, e1, e2, e3⟩ := item i hi
      exact ⟨b, us, k, u₁, u₂, _, _, e1, e2, e3⟩
    exact kat_kind f1 (by lia) (T := .type "str") (fun v hv => by obtain ⟨x, u, rfl⟩ := f3 v hv; exact looks_str x u) (by decide) hQ
  · obtain ⟨b, us, k, u₁, u₂, e1, e2, e3⟩ := item i hi
    obtain ⟨b', us', k', u₁', u₂', e1', e2', e3'⟩ := item j hj
    unfold kas_ask
    rw [e1, e1']
    refine kat_lt (hk _ _ e2) rfl (hk _ _ e2') rfl ?_
    rw [e3, e3']
    refine kat_cons (eqBool_str ?_)
    rw [mk_beq]
    by_cases h : t.getD i 0 = t.getD j 0
    · have hd1 : decide ([t.getD i 0] = [t.getD j 0]) = true := decide_eq_true (by rw [h])
      rw [hd1]
      refine kat_yes (kat_cons (wpAny_eqBool_int ?_))
      by_cases h' : i = j
      · subst h'
        rw [show ((i : Int) == (i : Int)) = true by simp]
        refine kat_yes (kat_nil ?_)
        have : ltR (keyT t) i i = false := by simp [ltR]
        rw [this] at hC
        exact hC
      · rw [show ((i : Int) == (j : Int)) = false by simp; lia]
        refine kat_no (kat_one _ _ (PyProof.Rows.lt_int ?_))
        have : ltR (keyT t) i j = decide ((i : Int) < (j : Int)) := by
          unfold ltR keyT
          rw [h]
          by_cases z : i < j
          · rw [decide_eq_true (by lia), decide_eq_true (by lia)]
          · rw [decide_eq_false (by lia), decide_eq_false (by lia)]
        rw [this] at hC
        exact hC
    · have hd1 : decide ([t.getD i 0] = [t.getD j 0]) = false := decide_eq_false (fun z => h (by injection z))
      rw [hd1]
      refine kat_no (show wpAny _ _ (oneLt' true _ _) _ _ _ from oneLt_str ?_)
      have : ltR (keyT t) i j = decide ((mk [t.getD i 0]).cps.toList < (mk [t.getD j 0]).cps.toList) := by
        have e : ((mk [t.getD i 0]).cps.toList < (mk [t.getD j 0]).cps.toList) ↔ t.getD i 0 < t.getD j 0 := by
          show [t.getD i 0] < [t.getD j 0] ↔ _
          rw [List.cons_lt_cons_iff]
          simp
        unfold ltR keyT
        by_cases z : t.getD i 0 < t.getD j 0
        · rw [decide_eq_true (by lia), decide_eq_true (e.mpr z)]
        · rw [decide_eq_false (by lia), decide_eq_false (fun y => z (e.mp y))]
      rw [this] at hC
      exact hC
  · generalize hp : evT (ltR (keyT t)) (kas_sort ws.length) = p at gd asc
    have hord : p.toList = orderT t := by
      refine orderT_unique (by lia) (by rw [← hl]; exact gd) ?_
      rw [List.pairwise_iff_getElem]
      intro i j hi hj hij
      have hs := gd.size
      have hj' : j < p.size := by simpa using hj
      have := asc i j hij (by lia)
      have e : ∀ k (hk : k < p.size), p.getD k 0 = p[k] := fun k hk => by simp [Array.getD, hk]
      have h3 : keyT t (p.getD i 0) < keyT t (p.getD j 0) := this
      rw [e i (by lia), e j hj'] at h3
      simpa using Nat.le_of_lt h3
    have hrd : RdL c.U s.heap (p.toList.map fun i => ws.getD i Value.none) ((orderT t).map (pairD t)) := by
      rw [hord]
      have hmem : ∀ i ∈ orderT t, i < ws.length := fun i hi => by rw [hl]; exact List.mem_range.mp ((orderT_perm t).mem_iff.mp hi)
      generalize orderT t = l at hmem
      induction l with
      | nil => exact .nil
      | cons i l ih =>
        refine .cons ?_ (ih fun j hj => hmem j (.tail _ hj))
        have hi := hmem i (.head _)
        obtain ⟨v, e1, e2⟩ := q.get (i := i) (d := pairD t i) (by rw [List.getElem?_map, List.getElem?_range (by lia)]; rfl)
        have e3 : ws.getD i Value.none = v := by simp [e1]
        show Rd c.U s.heap (ws.getD i Value.none) _; rw [e3]; exact e2
    obtain ⟨ep, he⟩ := sortedAll_at s.heap ws (List.toArray (p.toList.map fun i => ws.getD i Value.none))
    have hk : Le s.heap (sortedAll s.heap ws (List.toArray (p.toList.map fun i => ws.getD i Value.none))) := fun _ _ => sortedAll_old
    refine ⟨⟨_, _, rfl, hk⟩, .list (S.new (Nat.le_succ _)) (vs := p.toList.map fun i => ws.getD i Value.none) (n := ep) he (hrd.up hk)⟩
end
end Mine
end
noncomputable section
open PySem PySem.Calls PySem.W PyProof.Rows
set_option Elab.async false
set_option maxRecDepth 100000
set_option linter.unusedVariables false
namespace Mine

/-- the ring of a place -/
def ringT (o : List Nat) (t : Tx) : Nat → List Nat → Nat → Tx → List Nat × Tx
  | 0, seen, _, wheel => (seen, wheel)
  | f + 1, seen, at', wheel => if at' ∈ seen then (seen, wheel) else ringT o t f (seen ++ [at']) (o.getD at' 0) (wheel ++ [t.getD (o.getD at' 0) 0])
def wheelStep (t : Tx) (st : List Tx × List Nat) (place : Nat) : List Tx × List Nat :=
  (if (ringT (orderT t) t (t.length + 1) st.2 place []).2 = [] then st.1 else st.1 ++ [(ringT (orderT t) t (t.length + 1) st.2 place []).2], (ringT (orderT t) t (t.length + 1) st.2 place []).1)
def wheelsT (t : Tx) : List Tx := ((List.range t.length).foldl (wheelStep t) ([], [])).1

theorem ringT_in {o : List Nat} {t : Tx} {seen : List Nat} {at' : Nat} {wheel : Tx} (h : at' ∈ seen) : ∀ f, ringT o t f seen at' wheel = (seen, wheel)
  | 0 => rfl
  | f + 1 => by rw [ringT, if_pos h]
def SeenOk (n : Nat) (seen : List Nat) : Prop := seen.Nodup ∧ ∀ x ∈ seen, x < n
theorem SeenOk.len {n : Nat} {seen : List Nat} (h : SeenOk n seen) : seen.length ≤ n := by
  have := h.1.length_le_of_subset (l₂ := List.range n) fun x hx => List.mem_range.mpr (h.2 x hx)
  simpa using this
theorem SeenOk.more {n : Nat} {seen : List Nat} {x : Nat} (h : SeenOk n seen) (hx : x < n) (hn : x ∉ seen) : SeenOk n (seen ++ [x]) := by
  refine ⟨List.nodup_append.mpr ⟨h.1, by simp, fun a ha b hb => ?_⟩, fun y hy => ?_⟩
  · rw [List.mem_singleton.mp hb]; intro q; exact hn (q ▸ ha)
  · rcases List.mem_append.mp hy with q | q
    · exact h.2 y q
    · rw [List.mem_singleton.mp q]; exact hx

section
variable {prog : Program} {w : World} {H : Heap} {c : Cx}
abbrev dNs (l : List Nat) : PyData := .list (l.map fun (i : Nat) => PyData.int (i : Int))
theorem lay_ints (l : List Nat) : PyData.canLayAll0 (l.map fun (i : Nat) => PyData.int (i : Int)) = true := by
  induction l with
  | nil => rfl
  | cons x l ih => rw [List.map_cons, PyData.canLayAll0, ih]; rfl
theorem any_ints (i : Nat) (l : List Nat) : (l.map fun (i : Nat) => PyData.int (i : Int)).any (fun y => PyData.eqv y (.int (i : Int))) = decide (i ∈ l) := by
  induction l with
  | nil => rfl
  | cons x l ih =>
    rw [List.map_cons, List.any_cons, ih]
    show (((x : Int) == (i : Int)) || _) = _
    by_cases h : i = x
    · subst h; simp
    · have : ((x : Int) == (i : Int)) = false := by simp; lia
      rw [this]; simp [h]
theorem op_notin {i : Nat} {l : List Nat} : Op2 c (compareOp .NotIn) (.int (i : Int)) (dNs l) (.bool (!decide (i ∈ l))) := fun A s v₁ v₂ ok S r₁ r₂ => by
  obtain ⟨_, q₁⟩ := r₁.reads
  obtain ⟨_, q₂⟩ := r₂.reads
  refine PySem.SeqAt.notIn_list_reads q₂ q₁ (lay_ints l) rfl ?_ ?_
  · have h1 : min (PyData.depthAll (l.map fun (i : Nat) => PyData.int (i : Int))) (PyData.int (i : Int)).depth ≤ (PyData.int (i : Int)).depth := Nat.min_le_right _ _
    have h2 : (PyData.int (i : Int)).depth ≤ 1 := by first | exact Nat.le_refl _ | exact Nat.zero_le _ | (simp [PyData.depth])
    have := ok.cl64
    lia
  · rw [any_ints]; exact Got.here (.bool _)

theorem wheels_fn (T : Wd (KK w) H) (t : Tx) (h2 : 2 ≤ t.length) (h64 : t.length < 64) : Fn prog w H 1 129 [dS t] (dSs (wheelsT t)) := by
  refine in129 T rfl fun L U hLU => ?_
  delta bd129
  have hmemo : ∀ i ∈ orderT t, i < t.length := fun i hi => List.mem_range.mp ((orderT_perm t).mem_iff.mp hi)
  have hlo : (orderT t).length = t.length := by rw [(orderT_perm t).length_eq, List.length_range]
  refine Ex.assignComp (as := orderT t) (pairD t) (cl := []) (ρ₀ := []) (fun i => [(Str.ofString "place", .dat (.int (i : Int))), (Str.ofString "sign", .dat (dS [t.getD i 0]))]) (fun _ => true) (fun (i : Nat) => PyData.int (i : Int)) (Sees.zero rfl rfl (by decide) (by decide)) (IterOf.list (Ev.callB (NameIs.boot T (m_sorted w) b_sorted) (.cons ?_ .nil) (c_sorted_pairs h2 h64))) (by lia) (fun i _ C D es => AsgL.pair rfl rfl) (fun i _ y b h => by cases h) (fun i _ C D es => TrIfs.nil) (fun i _ _ C D es => Ev.var rfl) rfl ?_
  · have e : PyData.list ((List.range t.length).map (pairD t)) = .list (((List.range t.length).filter (fun _ => true)).map (pairD t)) := by rw [filter_true]
    rw [e]
    refine Ev.comp (as := List.range t.length) (fun (i : Nat) => PyData.int (i : Int)) (cl := [(Str.ofString "text", L + 1)]) (ρ₀ := [(Str.ofString "text", .dat (dS t))]) (fun i => [(Str.ofString "place", .dat (.int (i : Int))), (Str.ofString "text", .dat (dS t))]) _ _ (Sees.one rfl rfl (by decide) (by decide) rfl rfl rfl rfl) (IterOf.rangeN (NameIs.boot T (m_range w) b_range) (Ev.callB (NameIs.boot T (m_len w) b_len) (.cons (Ev.var rfl) .nil) (c_len_str (by lia))) (by lia)) (by rw [List.length_range]; lia) (fun i _ C D es => AsgL.name rfl) (fun _ _ => back_cons rfl) (fun i _ C D es => TrIfs.nil) fun i hi _ C D es => ?_
    have hi := List.mem_range.mp hi
    refine Ev.tuple (.cons (Ev.item (Ev.var rfl) (Ev.var rfl) (.str _) (op_item_str (x := t.getD i 0) (by lia) ?_ (by lia))) (.cons (Ev.var rfl) .nil))
    rw [Int.toNat_natCast, List.getD_eq_getElem?_getD, List.getElem?_eq_getElem hi]; rfl
  rw [filter_true]
  refine Ex.newOwn .nil (by simp) (.inl rfl) fun a ha => ?_
  refine Ex.newOwn .nil (by simp) (.inl rfl) fun b hb => ?_
  refine Ex.for (σ := List Tx × List Nat) (fun _ => [(Str.ofString "seen", .val (.ref b)), (Str.ofString "wheels", .val (.ref a)), (Str.ofString "order", .dat (dNs (orderT t))), (Str.ofString "text", .dat (dS t))])
    (fun _ d => [(Str.ofString "place", .dat d), (Str.ofString "seen", .val (.ref b)), (Str.ofString "wheels", .val (.ref a)), (Str.ofString "order", .dat (dNs (orderT t))), (Str.ofString "text", .dat (dS t))])
    (fun x => [(b, x.2.map fun (i : Nat) => PyData.int (i : Int)), (a, x.1.map dS)]) (fun i x => x = (List.range i).foldl (wheelStep t) ([], []) ∧ SeenOk t.length x.2 ∧ x.1.length ≤ i) ([], [])
    (IterOf.rangeN (n := t.length) (NameIs.boot T (m_range w) b_range) (Ev.callB (NameIs.boot T (m_len w) b_len) (.cons (Ev.var rfl) .nil) (c_len_str (by lia))) (by lia)) (fun g S => S.to ⟨rfl, rfl, rfl, rfl, trivial⟩) ⟨rfl, ⟨.nil, fun x hx => (nomatch hx)⟩, Nat.le_refl _⟩ (fun i x d hd hx => Asg.name (.inl rfl)) ?_ ?_
  · rintro i ⟨ws, sn⟩ d hd ⟨hx, hsn, hwl⟩
    dsimp only at hsn hwl
    have hi : i < t.length := by
      have := (List.getElem?_eq_some_iff.mp hd).1
      simpa using this
    have hdi : d = .int (i : Int) := by
      rw [List.getElem?_map, List.getElem?_range hi] at hd
      exact (Option.some.inj hd).symm
    subst hdi
    refine Ex.assign (Ev.strC (l := [])) (.inl rfl) (Ex.assign (Ev.var rfl) (.inl rfl) ?_)
    refine Ex.while (σ := List Nat × Nat × Tx) (fun x => [(Str.ofString "at", .dat (.int (x.2.1 : Int))), (Str.ofString "wheel", .dat (dS x.2.2)), (Str.ofString "seen", .val (.ref b)), (Str.ofString "wheels", .val (.ref a)), (Str.ofString "order", .dat (dNs (orderT t))), (Str.ofString "text", .dat (dS t))])
      (fun x => [(b, x.1.map fun (i : Nat) => PyData.int (i : Int)), (a, ws.map dS)])
      (fun x => SeenOk t.length x.1 ∧ x.2.1 < t.length ∧ x.2.2.length ≤ x.1.length ∧ ∃ f, t.length < f + x.1.length ∧ ringT (orderT t) t f x.1 x.2.1 x.2.2 = ringT (orderT t) t (t.length + 1) sn i [])
      (fun x => t.length - x.1.length) (fun x => !decide (x.2.1 ∈ x.1)) (sn, i, []) (fun g S => S.to ⟨rfl, rfl, rfl, rfl, rfl, rfl, trivial⟩) ⟨hsn, hi, Nat.zero_le _, t.length + 1, by lia, rfl⟩ ?_ ?_ ?_
    · intro x hx'
      exact Tr.frozen (x := Str.ofString "seen") (List.Perm.refl _) rfl (Tr.cmp (Ev.var rfl) (Ev.var rfl) op_notin)
    · rintro ⟨seen, at', wheel⟩ ⟨k1, k2, k3, f, k4, k5⟩ hbb
      dsimp only at k1 k2 k3 k4 k5 ⊢
      have hnin : at' ∉ seen := by simpa using hbb
      have hle := k1.len
      have hmore := k1.more k2 hnin
      have hle' := hmore.len
      have hlt : seen.length < t.length := by rw [List.length_append, List.length_singleton] at hle'; lia
      have hoa : (orderT t).getD at' 0 < t.length := by
        rw [List.getD_eq_getElem?_getD, List.getElem?_eq_getElem (by lia)]
        exact hmemo _ (List.getElem_mem _)
      refine Ex.append rfl rfl (Ev.var rfl) (by rw [List.length_map]; lia) ?_
      refine Ex.assign (d := .int (((orderT t).getD at' 0 : Nat) : Int)) (Ev.item (Ev.var rfl) (Ev.var rfl) (.list _) (op_item_list (by lia) ?_ (by rw [List.length_map]; lia))) (.inl rfl) ?_
      · rw [Int.toNat_natCast, List.getElem?_map, List.getElem?_eq_getElem (by lia), List.getD_eq_getElem?_getD, List.getElem?_eq_getElem (by lia)]; rfl
      refine Ex.assign (d := dS (wheel ++ [t.getD ((orderT t).getD at' 0) 0])) (Ev.bin (Ev.var rfl) (Ev.item (Ev.var rfl) (Ev.var rfl) (.str _) (op_item_str (x := t.getD ((orderT t).getD at' 0) 0) (by lia) ?_ (by lia))) (op_add_str (by simp; lia))) (.inl rfl) ?_
      · generalize (orderT t).getD at' 0 = z at hoa
        rw [Int.toNat_natCast, List.getD_eq_getElem?_getD, List.getElem?_eq_getElem hoa]; rfl
      obtain ⟨g', rfl⟩ : ∃ g', f = g' + 1 := ⟨f - 1, by lia⟩
      refine Ex.nil fun g S => ⟨(seen ++ [at'], (orderT t).getD at' 0, wheel ++ [t.getD ((orderT t).getD at' 0) 0]), ⟨hmore, hoa, ?_, g', ?_, ?_⟩, ?_, ?_⟩
      · rw [List.length_append, List.length_append]; simpa using k3
      · rw [List.length_append, List.length_singleton]; lia
      · rw [← k5, ringT, if_neg hnin]
      · show t.length - (seen ++ [at']).length < t.length - seen.length
        rw [List.length_append, List.length_singleton]; lia
      · have e : (seen ++ [at']).map (fun (i : Nat) => PyData.int (i : Int)) = seen.map (fun (i : Nat) => PyData.int (i : Int)) ++ [.int (at' : Int)] := by simp
        show Cx.S _ g
        rw [e]
        exact S.to ⟨rfl, rfl, rfl, rfl, rfl, rfl, trivial⟩
    · rintro ⟨seen, at', wheel⟩ ⟨k1, k2, k3, f, k4, k5⟩ hbb
      dsimp only at k1 k2 k3 k4 k5 ⊢
      have hin : at' ∈ seen := by simpa using hbb
      rw [ringT_in hin] at k5
      have hle := k1.len
      have hstep : (List.range (i + 1)).foldl (wheelStep t) ([], []) = (if wheel = [] then ws else ws ++ [wheel], seen) := by
        rw [List.range_succ, List.foldl_append, ← hx, List.foldl_cons, List.foldl_nil]
        unfold wheelStep
        dsimp only
        rw [← k5]
      refine Ex.ifElse (b := decide (wheel ≠ [])) (Tr.plain (Ev.var rfl) ?_ (by show (mk wheel).length ≤ _; rw [mk_length]; lia)) (fun h => ?_) (fun h => ?_)
      · show ((mk wheel).length != 0) = _
        rw [mk_length]
        cases wheel <;> simp
      · have hw : wheel ≠ [] := of_decide_eq_true h
        rw [if_neg hw] at hstep
        refine Ex.perm (List.Perm.swap _ _ _) (Ex.append rfl rfl (Ev.var rfl) (by rw [List.length_map]; lia) (Ex.nil fun g S => ⟨(ws ++ [wheel], seen), ⟨hstep.symm, k1, by rw [List.length_append, List.length_singleton]; exact Nat.succ_le_succ hwl⟩, ?_⟩))
        have e : (ws ++ [wheel]).map dS = ws.map dS ++ [dS wheel] := by simp
        show Cx.S _ g
        rw [e]
        exact (St.perm S (List.Perm.swap _ _ _)).to ⟨rfl, rfl, rfl, rfl, trivial⟩
      · have hw : wheel = [] := by simpa using h
        rw [if_pos hw] at hstep
        exact Ex.nil fun g S => ⟨(ws, seen), ⟨hstep.symm, k1, Nat.le_succ_of_le hwl⟩, S.to ⟨rfl, rfl, rfl, rfl, trivial⟩⟩
  · rintro ⟨ws, sn⟩ ⟨hx, hsn, hwl⟩
    rw [List.length_map, List.length_range] at hx
    have e : ws = wheelsT t := by unfold wheelsT; rw [← hx]
    subst e
    exact Ex.retOwn (.tail _ (.head _)) rfl fun g vs n S hg hr => retOwn_of (fun z hz => .tail _ (.tail _ (List.mem_append_right _ hz))) (fun m => ha (List.mem_append_right _ m)) hg hr
end
end Mine
end
noncomputable section
open PySem PySem.Calls PySem.W PyProof.Rows
set_option Elab.async false
set_option maxRecDepth 100000
set_option linter.unusedVariables false
namespace Mine

/-- the facts of a def that do not depend on the call -/
structure FnS (H : Heap) (a : Addr) (fd : FuncData) (body : List Stmt) (xs : List Str) : Prop where
  ho : ∃ o, H.get? a = some o ∧ o.data = .func fd
  lim : H.NoLimit
  code : H.CodeRec fd.code fd.qualname
  hbody : fd.body = .stmts body
  hclo : fd.closure = []
  hgl : fd.globals = mainGlobals
  hbu : fd.builtins = builtinsNs
  hbind : ∀ vals : List Value, vals.length = xs.length → bindArgs fd ⟨vals, []⟩ = pure (xs.zip vals)
  hnd : xs.Nodup
  hkind : ∀ n : Nat, ∀ x ∈ xs, fd.scope.names.lookup x = some .local ∨ (fd.scope.names.lookup x = some .cell ∧ ((cellsFrom n fd.scope.names []).lookup x).isSome = true)
  hcn : ((cellsFrom 0 fd.scope.names []).map (·.1)).Nodup
  hco : fd.scope.isCoroutine = false
  hgen : fd.scope.isGenerator = false
  hk : fd.scope.kind = .function

/-- a call whose arguments may be lists of the caller's own, with any end -/
theorem FnS.callL {prog : Program} {w : World} {H : Heap} {a : Addr} {fd : FuncData} {body : List Stmt} {xs : List Str} (X : FnS H a fd body xs) {A : Around} {s : Shared} {F U W₀ : List Addr} {vs : List Value} {ρ₀ : Rho} {μ₀ : List (Addr × List PyData)}
    {Q : Value → Shared → Prop} {E : Value → Shared → Prop} (hroom : A.depth < recursionLimit) (hH : Le H s.heap) (hU : ∀ b ∈ U, (∃ o, s.heap.get? b = some o) ∧ H.get? b = none) (hW : ∀ b ∈ W₀, b ∈ U) (hvl : vs.length = xs.length)
    (hρ : ∀ y b, ρ₀.lookup y = some b → ∃ v, (y, v) ∈ xs.zip vs ∧ b.ok U s.heap v) (hμ : ∀ b ds, (b, ds) ∈ μ₀ → b ∈ W₀ ∧ ∃ vs n, s.heap.get? b = some (lo vs n) ∧ RdL U s.heap vs ds) (hμn : (μ₀.map (·.1)).Nodup) (hF : ∀ b ∈ F, b ∈ U ∧ IsD s.heap b)
    (hex : ∀ (L : Addr) (s₁ : Shared), s.heap.objs.size = L → L ∉ U → s.heap.get? L = none → (∀ b ∈ own fd L, s.heap.get? b = none) → Keeps s s₁ → St F H (own fd L ++ U) (own fd L ++ W₀) (callEnvC fd L a) ρ₀ μ₀ s₁.heap →
      wpAny (model prog w) (A.deeper (callEnvC fd L a)) (execs body (callEnvC fd L a)) (fun f s' => Q (match f with | .ret v => v | _ => .none) s')
        (fun e s' => wpAny (model prog w) (A.deeper (callEnvC fd L a)) (leaving (callEnvC fd L a) e) (fun _ s'' => E e s'') (fun e' s'' => E e' s'') s') s₁) :
    wpAny (model prog w) A (call (.ref a) vs) Q E s := by
  obtain ⟨o, ho, hdata⟩ := X.ho
  refine wpAny_call (codeAny_call_cells (fd := fd) hroom (hH _ _ ho) hdata (X.lim.keeps hH) (X.code.keeps hH) X.hbody (X.hbind vs hvl) X.hclo (fun p hp => X.hkind _ _ (by obtain ⟨x, v⟩ := p; exact (List.of_mem_zip hp).1)) (fun s₁ Y => ?_) X.hco X.hgen X.hk)
  generalize hL : s.heap.objs.size = L at *
  obtain ⟨h₁, tk₁, rfl, kp⟩ := Y.done
  have hLn : s.heap.get? L = none := none_of_le (Nat.le_of_eq hL)
  have hLU : L ∉ U := fun m => by obtain ⟨o', e⟩ := (hU L m).1; rw [hLn] at e; cases e
  have ab : ∀ n c, (n, c) ∈ (callEnvC fd L a).cells → L < c := fun n c hm => Y.above n c hm
  have newc : ∀ n c, (n, c) ∈ (callEnvC fd L a).cells → s.heap.get? c = none := fun n c hm => none_of_le (by have := ab n c hm; omega)
  have ownN : ∀ b ∈ own fd L, s.heap.get? b = none := fun b hb => by
    rcases List.mem_cons.mp hb with q | hb
    · rw [q]; exact hLn
    · obtain ⟨p, hp, rfl⟩ := List.mem_map.mp hb; exact newc p.1 p.2 hp
  have ownH : ∀ b ∈ own fd L, H.get? b = none := fun b hb => by
    cases q : H.get? b with
    | none => rfl
    | some o' => have := hH _ _ q; rw [ownN b hb] at this; cases this
  have cellAt : ∀ n c, (n, c) ∈ (callEnvC fd L a).cells → ∃ v, h₁.IsCell c v := fun n c hm =>
    ⟨_, Y.cell n c (lookup_of_mem_nodup (by rw [show (callEnvC fd L a).cells = cellsFrom (L + 1) fd.scope.names [] from rfl, ← cellsFrom_names fd.scope.names 0 (L + 1) [] [] rfl]; exact X.hcn) hm)⟩
  have fr : ∀ b o, b ∉ U → s.heap.get? b = some o → b ∉ own fd L ++ U ∧ h₁.get? b = some o := fun b o' hb e => ⟨fun m => by
    rcases List.mem_append.mp m with q | q
    · rw [ownN b q] at e; cases e
    · exact hb q, kp b o' e⟩
  refine hex L _ rfl hLU hLn ownN ⟨h₁, tk₁, rfl, kp⟩ {
    base := Le.trans hH kp
    offs := fun b hb => by
      rcases List.mem_append.mp hb with q | q
      · refine ⟨?_, ownH b q⟩
        rcases List.mem_cons.mp q with q | q
        · obtain ⟨o', _, _, e, _⟩ := Y.toInCall.ns; rw [q]; exact ⟨o', e⟩
        · obtain ⟨p, hp, rfl⟩ := List.mem_map.mp q
          obtain ⟨v, o', e, _⟩ := cellAt p.1 p.2 hp
          exact ⟨o', e⟩
      · exact ⟨let ⟨o', e⟩ := (hU b q).1; ⟨o', kp _ _ e⟩, (hU b q).2⟩
    kind := X.hk
    globals := X.hgl
    builtins := X.hbu
    subW := fun b hb => by
      rcases List.mem_append.mp hb with q | q
      · exact List.mem_append_left _ q
      · exact List.mem_append_right _ (hW b q)
    locW := .head _
    ns := ⟨_, Y.toInCall.ns⟩
    cells := fun y b hm => ⟨List.mem_append_left _ (.tail _ (List.mem_map.mpr ⟨(y, b), hm, rfl⟩)), Nat.ne_of_gt (ab y b hm), cellAt y b hm⟩
    apart := Y.apart
    vars := fun y b e => by
      obtain ⟨v, hm, hb⟩ := hρ y b e
      refine ⟨v, ?_, Bd.ok_frame fr hb⟩
      have hy : y ∈ xs := (List.of_mem_zip hm).1
      have hnd' : ((xs.zip vs).map (·.1)).Nodup := by rw [List.map_fst_zip (by omega)]; exact X.hnd
      rcases X.hkind (L + 1) y hy with q | ⟨q, q'⟩
      · exact .inl ⟨q, _, Y.toInCall.ns, bindL_at hnd' hm q⟩
      · obtain ⟨cc, hcc⟩ := Option.isSome_iff_exists.mp q'
        refine .inr ⟨.inl q, cc, hcc, ?_⟩
        have := Y.cell y cc hcc
        rw [bindC_at hnd' hm q] at this
        exact this
    mutsW := fun b es hm => by
      obtain ⟨h1, us, n, h2, h3⟩ := hμ b es hm
      exact ⟨List.mem_append_right _ h1, us, n, kp _ _ h2, h3.frame fr⟩
    mapart := hμn
    frs := fun b hb => ⟨List.mem_append_right _ (hF b hb).1, (hF b hb).2.at fun o e => kp b o e⟩ }

theorem FnS.call {prog : Program} {w : World} {H : Heap} {a : Addr} {fd : FuncData} {body : List Stmt} {xs : List Str} (X : FnS H a fd body xs) {A : Around} {s : Shared} {F U W₀ : List Addr} {vs : List Value} {ρ₀ : Rho} {μ₀ : List (Addr × List PyData)}
    {Q : Value → Shared → Prop} {E : Value → Shared → Prop} (hroom : A.depth < recursionLimit) (hH : Le H s.heap) (hU : ∀ b ∈ U, (∃ o, s.heap.get? b = some o) ∧ H.get? b = none) (hW : ∀ b ∈ W₀, b ∈ U) (hvl : vs.length = xs.length)
    (hρ : ∀ y b, ρ₀.lookup y = some b → ∃ v, (y, v) ∈ xs.zip vs ∧ b.ok U s.heap v) (hμ : ∀ b ds, (b, ds) ∈ μ₀ → b ∈ W₀ ∧ ∃ vs n, s.heap.get? b = some (lo vs n) ∧ RdL U s.heap vs ds) (hμn : (μ₀.map (·.1)).Nodup) (hF : ∀ b ∈ F, b ∈ U ∧ IsD s.heap b)
    (hex : ∀ (L : Addr) (s₁ : Shared), L ∉ U → s.heap.get? L = none → (∀ b ∈ own fd L, s.heap.get? b = none) → Keeps s s₁ → St F H (own fd L ++ U) (own fd L ++ W₀) (callEnvC fd L a) ρ₀ μ₀ s₁.heap →
      wpAny (model prog w) (A.deeper (callEnvC fd L a)) (execs body (callEnvC fd L a)) (fun f s' => Q (match f with | .ret v => v | _ => .none) s')
        (fun e s' => wpAny (model prog w) (A.deeper (callEnvC fd L a)) (leaving (callEnvC fd L a) e) (fun _ s'' => E e s'') (fun e' s'' => E e' s'') s') s₁) :
    wpAny (model prog w) A (call (.ref a) vs) Q E s :=
  X.callL hroom hH hU hW hvl hρ hμ hμn hF fun L s₁ _ => hex L s₁

/-- the frame's own dict with other slots -/
theorem ns_slots {h h' : Heap} {L : Addr} {m : Str → Option Value} {o : Obj} {sl : Array (Option Value)} (x : h.Ns L m) (ho : h.get? L = some o) (ho' : h'.get? L = some { o with slots := sl }) : h'.Ns L m := by
  obtain ⟨o', es, ep, e, r⟩ := x
  rw [ho] at e; cases e
  exact ⟨_, es, ep, ho', r⟩
section
/-- frames change their slots -/
theorem St.slots {Fs F : List Addr} {H : Heap} {U W : List Addr} {env : Env} {ρ : Rho} {μ : List (Addr × List PyData)} {h h' : Heap} (S : St Fs H U W env ρ μ h) (hF : ∀ a ∈ F, a ∈ U ∧ IsD h a)
    (hk : ∀ b o, h.get? b = some o → ∃ o', h'.get? b = some o' ∧ (o' = o ∨ (b ∈ F ∧ SameS o o'))) : St Fs H U W env ρ μ h' := by
  have off : ∀ {b : Addr} {o : Obj}, b ∉ F → h.get? b = some o → h'.get? b = some o := fun {b o} hb e => by
    obtain ⟨o', e', c⟩ := hk b o e
    rcases c with rfl | ⟨m, _⟩
    · exact e'
    · exact (hb m).elim
  have offU : ∀ b o, b ∉ U → h.get? b = some o → b ∉ U ∧ h'.get? b = some o := fun b o hb e => ⟨hb, off (fun m => hb (hF b m).1) e⟩
  have ns : ∀ {m : Str → Option Value}, h.Ns env.locals m → h'.Ns env.locals m := fun {m} n => by
    obtain ⟨o, es, ep, e, r⟩ := id n
    obtain ⟨o', e', c⟩ := hk _ _ e
    rcases c with rfl | ⟨_, sl, rfl⟩
    · exact ⟨_, es, ep, e', r⟩
    · exact ns_slots n e e'
  have cel : ∀ {a : Addr} {v : Option Value}, h.IsCell a v → h'.IsCell a v := fun {a v} n => by
    obtain ⟨o, e, d⟩ := n
    refine ⟨o, off (fun m => ?_) e, d⟩
    obtain ⟨_, o', es, ep, e', d'⟩ := hF a m
    rw [e] at e'; cases e'; rw [d] at d'; cases d'
  have mutk : ∀ {a : Addr} {vs : List Value} {n : Nat}, h.get? a = some (lo vs n) → h'.get? a = some (lo vs n) := fun {a vs n} e => off (fun m => by
    obtain ⟨_, o', es, ep, e', d'⟩ := hF a m
    rw [e] at e'; cases e'; cases d') e
  exact {
    base := fun b o e => off (fun m => by have := (S.offs b (hF b m).1).2; rw [e] at this; cases this) (S.base b o e)
    offs := fun a ha => ⟨by obtain ⟨o, e⟩ := (S.offs a ha).1; obtain ⟨o', e', _⟩ := hk a o e; exact ⟨o', e'⟩, (S.offs a ha).2⟩
    kind := S.kind
    globals := S.globals
    builtins := S.builtins
    subW := S.subW
    locW := S.locW
    ns := let ⟨m, n⟩ := S.ns; ⟨m, ns n⟩
    cells := fun y a hm => let ⟨i, e, v, j⟩ := S.cells y a hm; ⟨i, e, v, cel j⟩
    apart := S.apart
    vars := fun y b e => by
      obtain ⟨v, q, r⟩ := S.vars y b e
      refine ⟨v, ?_, Bd.ok_frame offU r⟩
      rcases q with ⟨q, m, n, e⟩ | ⟨q, a, l, i⟩
      · exact .inl ⟨q, m, ns n, e⟩
      · exact .inr ⟨q, a, l, cel i⟩
    mutsW := fun a ds hm => let ⟨i, vs, n, g, r⟩ := S.mutsW a ds hm; ⟨i, vs, n, mutk g, r.frame offU⟩
    mapart := S.mapart
    frs := fun a ha => ⟨(S.frs a ha).1, by
      obtain ⟨o, es, ep, e, d⟩ := (S.frs a ha).2
      obtain ⟨o', e', c⟩ := hk a o e
      rcases c with rfl | ⟨_, sl, rfl⟩
      · exact ⟨_, es, ep, e', d⟩
      · exact ⟨_, es, ep, e', d⟩⟩ }
end
end Mine
end
noncomputable section
open PySem PySem.Calls PySem.W PyProof.Rows
set_option Elab.async false
set_option maxRecDepth 100000
set_option linter.unusedVariables false
namespace Mine

theorem s21 {w : World} {H : Heap} (T : Wd (KK w) H) : FnS H 21 (fd21 w.params) bd21 [Str.ofString "expected", Str.ofString "actual"] := by
  obtain ⟨oa, ob, oc, hl⟩ := at21 w.params
  refine ⟨⟨_, T.k _ _ hl, rfl⟩, T.lim, codeRec_of T.k rfl, rfl, rfl, rfl, rfl, ?_, by decide, ?_, ?_, rfl, rfl, rfl⟩
  · intro vals hv
    match vals, hv with
    | [v0, v1], _ => rfl
  · intro n x hx
    rcases List.mem_cons.mp hx with q | hx
    · subst q; exact .inl rfl
    · rw [List.mem_singleton.mp hx]; exact .inl rfl
  · have e : (cellsFrom 0 (fd21 w.params).scope.names []).map (·.1) = [] := rfl
    rw [e]; decide

theorem s35 {w : World} {H : Heap} (T : Wd (KK w) H) : FnS H 35 (fd35 w.params) bd35 [Str.ofString "f"] := by
  obtain ⟨oa, ob, oc, hl⟩ := at35 w.params
  refine ⟨⟨_, T.k _ _ hl, rfl⟩, T.lim, codeRec_of T.k rfl, rfl, rfl, rfl, rfl, ?_, by decide, ?_, ?_, rfl, rfl, rfl⟩
  · intro vals hv
    match vals, hv with
    | [v0], _ => rfl
  · intro n x hx
    · rw [List.mem_singleton.mp hx]; exact .inl rfl
  · have e : (cellsFrom 0 (fd35 w.params).scope.names []).map (·.1) = [] := rfl
    rw [e]; decide

theorem s42 {w : World} {H : Heap} (T : Wd (KK w) H) : FnS H 42 (fd42 w.params) bd42 [Str.ofString "f"] := by
  obtain ⟨oa, ob, oc, hl⟩ := at42 w.params
  refine ⟨⟨_, T.k _ _ hl, rfl⟩, T.lim, codeRec_of T.k rfl, rfl, rfl, rfl, rfl, ?_, by decide, ?_, ?_, rfl, rfl, rfl⟩
  · intro vals hv
    match vals, hv with
    | [v0], _ => rfl
  · intro n x hx
    · rw [List.mem_singleton.mp hx]; exact .inl rfl
  · have e : (cellsFrom 0 (fd42 w.params).scope.names []).map (·.1) = [] := rfl
    rw [e]; decide

theorem s143 {w : World} {H : Heap} (T : Wd (KK w) H) : FnS H 143 (fd143 w.params) bd143 [Str.ofString "octets"] := by
  obtain ⟨oa, ob, oc, hl⟩ := at143 w.params
  refine ⟨⟨_, T.k _ _ hl, rfl⟩, T.lim, codeRec_of T.k rfl, rfl, rfl, rfl, rfl, ?_, by decide, ?_, ?_, rfl, rfl, rfl⟩
  · intro vals hv
    match vals, hv with
    | [v0], _ => rfl
  · intro n x hx
    · rw [List.mem_singleton.mp hx]; exact .inl rfl
  · have e : (cellsFrom 0 (fd143 w.params).scope.names []).map (·.1) = [] := rfl
    rw [e]; decide

theorem s148 {w : World} {H : Heap} (T : Wd (KK w) H) : FnS H 148 (fd148 w.params) bd148 [Str.ofString "texts"] := by
  obtain ⟨oa, ob, oc, hl⟩ := at148 w.params
  refine ⟨⟨_, T.k _ _ hl, rfl⟩, T.lim, codeRec_of T.k rfl, rfl, rfl, rfl, rfl, ?_, by decide, ?_, ?_, rfl, rfl, rfl⟩
  · intro vals hv
    match vals, hv with
    | [v0], _ => rfl
  · intro n x hx
    · rw [List.mem_singleton.mp hx]; exact .inl rfl
  · have e : (cellsFrom 0 (fd148 w.params).scope.names []).map (·.1) = [] := rfl
    rw [e]; decide

theorem s182 {w : World} {H : Heap} (T : Wd (KK w) H) : FnS H 182 (fd182 w.params) bd182 [Str.ofString "one", Str.ofString "two"] := by
  obtain ⟨oa, ob, oc, hl⟩ := at182 w.params
  refine ⟨⟨_, T.k _ _ hl, rfl⟩, T.lim, codeRec_of T.k rfl, rfl, rfl, rfl, rfl, ?_, by decide, ?_, ?_, rfl, rfl, rfl⟩
  · intro vals hv
    match vals, hv with
    | [v0, v1], _ => rfl
  · intro n x hx
    rcases List.mem_cons.mp hx with q | hx
    · subst q; exact .inr ⟨rfl, rfl⟩
    · rw [List.mem_singleton.mp hx]; exact .inr ⟨rfl, rfl⟩
  · have e : (cellsFrom 0 (fd182 w.params).scope.names []).map (·.1) = [Str.ofString "two", Str.ofString "one"] := rfl
    rw [e]; decide

theorem s187 {w : World} {H : Heap} (T : Wd (KK w) H) : FnS H 187 (fd187 w.params) bd187 [Str.ofString "script"] := by
  obtain ⟨oa, ob, oc, hl⟩ := at187 w.params
  refine ⟨⟨_, T.k _ _ hl, rfl⟩, T.lim, codeRec_of T.k rfl, rfl, rfl, rfl, rfl, ?_, by decide, ?_, ?_, rfl, rfl, rfl⟩
  · intro vals hv
    match vals, hv with
    | [v0], _ => rfl
  · intro n x hx
    · rw [List.mem_singleton.mp hx]; exact .inr ⟨rfl, rfl⟩
  · have e : (cellsFrom 0 (fd187 w.params).scope.names []).map (·.1) = [Str.ofString "script"] := rfl
    rw [e]; decide

end Mine
end
noncomputable section
open PySem PySem.Calls PySem.W PyProof.Rows
set_option Elab.async false
set_option maxRecDepth 100000
set_option linter.unusedVariables false
namespace Mine

/-- the frames of a list of environments -/
abbrev frOf (l : List Env) : List Addr := l.filterMap (·.frame)
/-- all is kept, but for the slots of some -/
def Slt (fs : List Addr) (h h' : Heap) : Prop := ∀ b o, h.get? b = some o → ∃ o', h'.get? b = some o' ∧ (o' = o ∨ (b ∈ fs ∧ SameS o o'))
theorem Slt.of_base {fs : List Addr} {h h' : Heap} (hD : ∀ a ∈ fs, IsD h a) (k : (hideAll h fs).StaysIn h') (u : h.UpToSlots h') : Slt fs h h' := fun b o e => by
  by_cases m : b ∈ fs
  · obtain ⟨o', es, ep, e', d⟩ := hD b m
    rw [e] at e'; cases e'
    obtain ⟨sl, q⟩ := u b o e (fun vs z => by rw [d] at z; cases z)
    exact ⟨_, q, .inr ⟨m, sl, rfl⟩⟩
  · exact ⟨o, k b o (hideAll_get _ e m), .inl rfl⟩

/-- frames of functions -/
def Fns (l : List Env) : Prop := ∀ env ∈ l, env.scope.kind ≠ .module ∧ ∃ L, env.frame = some L
theorem Fns.funFrames {h : Heap} {as : List Addr} : ∀ {l : List Env}, Fns l → (∀ a ∈ frOf l, a ∈ as) → (∀ a ∈ frOf l, IsD h a) → h.FunFrames (hideAll h as) l
  | [], _, _, _ => trivial
  | env :: l, hl, hin, hD => by
    obtain ⟨hk, L, hf⟩ := hl env (.head _)
    have hm : L ∈ frOf (env :: l) := List.mem_filterMap.mpr ⟨env, .head _, hf⟩
    obtain ⟨o, es, ep, e, d⟩ := hD L hm
    refine ⟨hk, ⟨L, o, hf, hideAll_none _ (hin L hm), e, fun vs q => by rw [d] at q; cases q⟩, Fns.funFrames (fun x hx => hl x (.tail _ hx)) (fun a ha => hin a ?_) fun a ha => hD a ?_⟩
    · obtain ⟨x, hx, q⟩ := List.mem_filterMap.mp ha
      exact List.mem_filterMap.mpr ⟨x, .tail _ hx, q⟩
    · obtain ⟨x, hx, q⟩ := List.mem_filterMap.mp ha
      exact List.mem_filterMap.mpr ⟨x, .tail _ hx, q⟩

section
variable {prog : Program} {w : World} {A : Around} {s : Shared} {env : Env} {outer : List Env} {L e : Addr}
theorem note_first {M : Model} {base : Heap} {E : Value → Shared → Prop} {oe : Obj} {vs : Array Value} {a0 : Value} {Q : Unit → Shared → Prop}
    (hfr : A.frames = some (env :: outer)) (hl : s.heap.FunFrames base (env :: outer)) (hf : env.frame = some L)
    (he : s.heap.get? e = some oe) (hkb : base.StaysIn s.heap) (hen : base.get? e = none) (hd : oe.data = .fields vs) (h1 : vs[1]? = some .none) (h0 : vs[0]? = some a0)
    (h : ∀ h', Heap.HeldW base (env :: outer) e oe.cls a0 L h' → s.heap.UpToSlots h' → Q () { s with heap := h' }) : wpAny M A (noteFrame (.ref e) env) Q E s := by
  unfold noteFrame
  simp only [hf]
  refine wpAny_bind (wpAny_field he hd h1 ?_)
  rw [if_neg (by decide)]
  refine wpAny_entryW hfr hl hf he hkb hen hd (Array.getElem?_eq_some_iff.mp h1).1 h0 fun h' hN => ?_
  obtain ⟨k1, k2, k3, k4⟩ := hN
  exact h h' ⟨k1, hen, k2, k3⟩ k4

/-- an exception that a built-in raises in the frame's own try, caught there by name -/
theorem caught_here {X T : String} {t : Expr} {b₀ : Stmt} {suite : List Stmt} {pos : Pos} {rest : List ExceptHandler} {h₁ : Heap} {tk : Nat} {Q : Flow → Shared → Prop} {E : Value → Shared → Prop}
    (hfr : A.frames = some (env :: outer)) (hf : env.frame = some L) (hl : Fns (env :: outer)) (hD : ∀ a ∈ frOf (env :: outer), IsD s.heap a) (hx : Heap.NewExc s.heap h₁ e X)
    (hexc : isSubtype (.type T) (.type "BaseException") = pure true) (hnt : isSubtype (.type ((Manifest.find? T).elim "type" fun x => x.metatype)) (.type "tuple") = pure false) (hsub : isSubtype (.type X) (.type T) = pure true)
    (hname : ∀ (A' : Around) (h' : Heap) (Q' E' : Value → Shared → Prop), Slt (frOf (env :: outer)) s.heap h' → Q' (.type T) { s with heap := h', toks := tk } → wpAny (model prog w) A' (eval t env) Q' E' { s with heap := h', toks := tk })
    (k : ∀ h', Slt (frOf (env :: outer)) s.heap h' → wpAny (model prog w) (A.mark (some (.ref e))) (execs (b₀ :: suite) env) Q No { s with heap := h', toks := tk }) :
    wpAny (model prog w) A (noteFrame (.ref e) env) (fun _ s₂ => wpAny (model prog w) A (setFlight (.ref e) none) (fun _ s₃ => wpAny (model prog w) A (handleBy (.ref e) env (.ExceptHandler (some t) none (b₀ :: suite) pos :: rest)) Q E s₃) E s₂) E { s with heap := h₁, toks := tk } := by
  have hDl : ∀ a ∈ frOf (env :: outer), IsD h₁ a := fun a ha => (hD a ha).at fun o q => hx.keeps a o q
  obtain ⟨ob, tp, he, hcls, hd⟩ := hx.there
  have base_stays : (hideAll s.heap (frOf (env :: outer))).StaysIn h₁ := fun b o q => hx.keeps b o (of_hideAll _ q)
  have hen : (hideAll s.heap (frOf (env :: outer))).get? e = none := by
    cases q : (hideAll s.heap (frOf (env :: outer))).get? e with
    | none => rfl
    | some o => have := of_hideAll _ q; rw [hx.new] at this; cases this
  have hff : h₁.FunFrames (hideAll s.heap (frOf (env :: outer))) (env :: outer) :=
    (Fns.funFrames (h := s.heap) (as := frOf (env :: outer)) hl (fun a ha => ha) hD).of_keeps fun b o hb _ => ⟨o, hx.keeps b o hb, rfl⟩
  have u₁ : s.heap.UpToSlots h₁ := .of_keeps hx.keeps
  refine note_first (s := { s with heap := h₁, toks := tk }) hfr hff hf he base_stays hen hd rfl rfl fun h₂ held₂ u₂ => ?_
  refine wpAny_landsW (s := { s with heap := h₂, toks := tk }) held₂ fun h₃ fly₃ u₃ => ?_
  have u13 : s.heap.UpToSlots h₃ := (u₁.trans u₂).trans u₃
  refine wpAny_handleBy_builtin (X := X) (T := T) (b := true) hexc hnt hsub (hname _ h₃ _ _ (.of_base hD fly₃.1 u13) ⟨rfl, ?_, ?_⟩)
  · obtain ⟨o', h1, h2⟩ := fly₃.there
    exact ⟨o', h1, h2.trans hcls⟩
  · rw [if_pos rfl]
    refine lands_againW (s := { s with heap := h₃, toks := tk }) fly₃ fun h₄ fly₄ u₄ => ?_
    exact wp_of (k h₄ (.of_base hD fly₄.1 (u13.trans u₄))) fun f s' q => q
end
end Mine
end
noncomputable section
open PySem PySem.Calls PySem.W PyProof.Rows
set_option Elab.async false
set_option maxRecDepth 100000
set_option linter.unusedVariables false
namespace Mine

/-- unorderable_list_difference: the first from behind -/
def diffGo : List Tx → List Tx → List Tx → List Tx × List Tx
  | [], act, miss => (miss, act)
  | t :: r, act, miss => if t ∈ act then diffGo r (act.erase t) miss else diffGo r act (miss ++ [t])
def diffT (one two : List Tx) : List Tx × List Tx := diffGo one.reverse two []

theorem RdL.eraseIdx {U : List Addr} {h : Heap} {vs : List Value} {ds : List PyData} (x : RdL U h vs ds) (j : Nat) : RdL U h (vs.eraseIdx j) (ds.eraseIdx j) := by
  rw [List.eraseIdx_eq_take_drop_succ, List.eraseIdx_eq_take_drop_succ]
  exact (x.take j).append (x.drop (j + 1))
theorem RdL.dropLast {U : List Addr} {h : Heap} {vs : List Value} {ds : List PyData} (x : RdL U h vs ds) : RdL U h vs.dropLast ds.dropLast := by
  rw [List.dropLast_eq_take, List.dropLast_eq_take, x.length]
  exact x.take _

section
variable {c : Cx} {A : Around} {s s₁ s₂ : Shared} {v : Value} {d : PyData} {e e₁ e₂ e₃ : Expr} {d₁ d₂ : PyData} {pos p : Pos} {ds es : List PyData} {Q : Flow → Heap → Prop} {rest : List Stmt} {x y z : Str} {a b : Addr} {μ' : List (Addr × List PyData)}

/-- y = x.pop() -/
theorem Ex.pop {ap np p' p₁ : Pos} (hμ : c.μ = (a, ds ++ [d]) :: μ') (hx : c.ρ.lookup x = some (.val (.ref a))) (hz : ds.length ≤ 999999) (hy : c.env.kindOf y = some .local) (hr : Ex { c with ρ := (y, .dat d) :: c.ρ, μ := (a, ds) :: μ' } rest Q)
    (hline : (ap.endLine == pos.line) = true := by rfl) (hd : (x == ("__debug__" : Str)) = false := by decide) (hc : (x == ("__classdict__" : Str)) = false := by decide) (hse : starEach [] c.env = [] := by rfl)
    (hs : swapsWith (.Call (.Attribute (.Name x np) (Str.ofString "pop") ap) [] [] pos) (some (.Name y p')) p₁.line c.env = pure false := by rfl) :
    Ex c (.Assign [.Name y p'] (.Call (.Attribute (.Name x np) (Str.ofString "pop") ap) [] [] pos) p₁ :: rest) Q := fun A s ok S => by
  obtain ⟨v, hv, hb⟩ := S.vars x _ hx
  have hb' : v = .ref a := hb
  subst hb'
  refine wpAny_execs_cons (wpAny_Assign_Name ?_ hs)
  refine wpAny_Call_method (T := "list") (id := "list.pop") rfl (by rw [hse]; rfl) hline PySem.F.plainAttrs_list PySem.F.slot_list_pop PySem.F.type_list_pop (load_var S hv ?_ hd hc)
  obtain ⟨haW, vs, n, hg, hrd⟩ := S.mutsW a (ds ++ [d]) (by rw [hμ]; exact .head _)
  refine ⟨⟨_, hg, rfl⟩, fun b q => by cases q; exact ⟨_, hg, rfl⟩, ?_⟩
  rw [hse]
  have hl := hrd.length
  rw [List.length_append, List.length_singleton] at hl
  obtain ⟨u, hu, hrdu⟩ := hrd.get (i := ds.length) (d := d) (by simp)
  refine PySem.P.pop_list (y := u) (items := vs.toArray) (n := n) hg (by simp only [List.size_toArray, List.getElem?_toArray, hl]; simpa using hu) ?_ (by rw [List.size_toArray, hl]; exact sz8 (by omega))
  have hs' : Heap.SameBut a s.heap (s.heap.update a (Obj.mapSeq fun xs => xs.eraseIdxIfInBounds (vs.toArray.size - 1))) := Heap.SameBut.update ..
  generalize hh' : s.heap.update a (Obj.mapSeq fun xs => xs.eraseIdxIfInBounds (vs.toArray.size - 1)) = h' at hs'
  obtain ⟨n', hg'⟩ : ∃ n', h'.get? a = some (lo vs.dropLast n') := by
    rw [← hh']
    have q := PySem.IsL.update hg (fun xs => xs.eraseIdxIfInBounds (vs.toArray.size - 1))
    have e : vs.toArray.eraseIdxIfInBounds (vs.toArray.size - 1) = vs.dropLast.toArray := by
      apply Array.toList_inj.mp
      rw [Array.toList_eraseIdxIfInBounds, List.size_toArray, List.eraseIdx_eq_take_drop_succ, List.dropLast_eq_take]
      have : vs.drop (vs.length - 1 + 1) = [] := List.drop_eq_nil_iff.mpr (by omega)
      simp [this]
    rw [e] at q
    exact ⟨_, q⟩
  have S₁ : Cx.S { c with μ := (a, ds) :: μ' } h' := St.setMut (ds := ds ++ [d]) (hμ ▸ S) hs' hg' (by simpa using hrd.dropLast)
  have hrdu' : Rd c.U h' u d := Rd.frame (fun b o hb e => ⟨hb, (hs'.2 b fun q => hb (q ▸ S.subW _ haW)).trans e⟩) hrdu
  refine wp_of (storeL_of (c := { c with μ := (a, ds) :: μ' }) (s := { s with heap := h' }) (b := .dat d) S₁ hy hrdu') fun _ s₂ g₂ => ?_
  refine wp_of (hr A s₂ ok g₂.2) fun f s₃ g₃ => ⟨?_, g₃.2⟩
  refine StepU.tx (s' := s₂) (StepU.trans (s' := { s with heap := h' }) ⟨h', _, rfl, fun b o hb e => (hs'.2 b fun q => hb (q ▸ haW)).trans e⟩ (g₂.1.less fun a ha => .inl (by rw [List.mem_singleton.mp ha]; exact S.locW))) g₃.1

/-- what a value of texts is like to another -/
def likeV (t : Tx) : Value → Bool
  | .str z _ => z == mk t
  | _ => false
/-- try: x.remove(y) except ValueError: z.append(y) -/
theorem Ex.tryRemove {l : List Tx} {t : Tx} {ms : List PyData} {outer : List Env} {ap np yp p₁ ap' np' yp' pos' p₁' vp hp tp : Pos} (hμ : c.μ = (a, l.map dS) :: (b, ms) :: μ') (hx : c.ρ.lookup x = some (.val (.ref a))) (hzz : c.ρ.lookup z = some (.val (.ref b))) (hy : c.ρ.lookup y = some (.dat (dS t)))
    (hz : l.length ≤ 1000000) (hz' : ms.length ≤ 1000000) (hfr : c.fr = some (c.env :: outer)) (hF : c.F = frOf outer) (hf : c.env.frame = some c.env.locals) (hFn : Fns (c.env :: outer)) (hname : NameIs c (Str.ofString "ValueError") (.type "ValueError"))
    (hr₁ : t ∈ l → Ex { c with μ := (a, (l.erase t).map dS) :: (b, ms) :: μ' } rest Q) (hr₂ : t ∉ l → Ex { c with μ := (b, ms ++ [dS t]) :: (a, l.map dS) :: μ' } rest Q)
    (hline : (ap.endLine == pos.line) = true := by rfl) (hline' : (ap'.endLine == pos'.line) = true := by rfl) (hse : starEach [.Name y yp] c.env = [(false, eval (.Name y yp) c.env)] := by rfl) (hse' : starEach [.Name y yp'] c.env = [(false, eval (.Name y yp') c.env)] := by rfl)
    (hd : (x == ("__debug__" : Str)) = false := by decide) (hc : (x == ("__classdict__" : Str)) = false := by decide) (hdz : (z == ("__debug__" : Str)) = false := by decide) (hcz : (z == ("__classdict__" : Str)) = false := by decide) (hdy : (y == ("__debug__" : Str)) = false := by decide) (hcy : (y == ("__classdict__" : Str)) = false := by decide)
    (hi : interactive c.env = false := by rfl) (hs : swapsWith (.Call (.Attribute (.Name x np) (Str.ofString "remove") ap) [.Name y yp] [] pos) none p₁.line c.env = pure false := by rfl) (hs' : swapsWith (.Call (.Attribute (.Name z np') (Str.ofString "append") ap') [.Name y yp'] [] pos') none p₁'.line c.env = pure false := by rfl) :
    Ex c (.Try [.Expr (.Call (.Attribute (.Name x np) (Str.ofString "remove") ap) [.Name y yp] [] pos) p₁] [.ExceptHandler (some (.Name (Str.ofString "ValueError") vp)) none [.Expr (.Call (.Attribute (.Name z np') (Str.ofString "append") ap') [.Name y yp'] [] pos') p₁'] hp] [] [] tp :: rest) Q := fun A s ok S => by
  obtain ⟨v, hv, hb⟩ := S.vars x _ hx
  have hb' : v = .ref a := hb
  subst hb'
  obtain ⟨vy, hvy, hby⟩ := S.vars y _ hy
  have hby' : Rd c.U s.heap vy (dS t) := hby
  obtain ⟨u, rfl⟩ : ∃ u, vy = .str (mk t) u := by cases hby'; exact ⟨_, rfl⟩
  obtain ⟨haW, vs, n, hg, hrd⟩ := S.mutsW a (l.map dS) (by rw [hμ]; exact .head _)
  have hl := hrd.length
  rw [List.length_map] at hl
  have he : ∀ w, w ∈ vs.toArray → MeetsSeq.EqGives w (.str (mk t) u) (likeV t w) := fun w hw => by
    obtain ⟨i, hi, e⟩ := List.getElem_of_mem (List.mem_toArray.mp hw)
    obtain ⟨d, e1, e2⟩ := hrd.get' (i := i) (v := w) (by rw [List.getElem?_eq_getElem hi, e])
    rw [List.getElem?_map] at e1
    obtain ⟨x, _, rfl⟩ := Option.map_eq_some_iff.mp e1
    cases e2
    exact eqGives_str _ _ _ _
  have lk : ∀ i (h : i < vs.toArray.size), likeV t vs.toArray[i] = decide (l.getD i [] = t) := fun i h => by
    have h' : i < vs.length := by simpa using h
    obtain ⟨d, e1, e2⟩ := hrd.get' (i := i) (List.getElem?_eq_getElem h')
    rw [List.getElem?_map, List.getElem?_eq_getElem (by omega)] at e1
    cases e1
    have e3 : vs.toArray[i] = vs[i] := by simp
    rw [e3]
    generalize vs[i] = w at e2
    cases e2
    show (mk l[i] == mk t) = _
    rw [mk_beq, List.getD_eq_getElem?_getD, List.getElem?_eq_getElem (by omega)]
    rfl
  refine wpAny_execs_cons (wpAny_Try_except (wpAny_execs_cons (exec_expr_none ?_ hi hs)))
  refine wpAny_Call_method (T := "list") (id := "list.remove") rfl (by rw [hse]; rfl) hline PySem.F.plainAttrs_list PySem.F.slot_list_remove PySem.F.type_list_remove (load_var S hv ?_ hd hc)
  refine ⟨⟨_, hg, rfl⟩, fun b q => by cases q; exact ⟨_, hg, rfl⟩, Calls.callWith_builtin (starEach_plain (by rw [hse]; rfl) pos) ?_⟩
  rw [hse]
  refine evalArgs_plain (x := eval (.Name y yp) c.env) (rest := []) (Calls.spliced_cons (load_var S hvy (Calls.spliced_nil ?_) hdy hcy))
  by_cases hin : t ∈ l
  · have hj := List.idxOf_lt_length_of_mem hin
    refine call_meets PySem.F.slot_list_remove ⟨_, hg, rfl⟩ PySem.F.entry_list_remove (PySem.F.args_list_remove_2 _ _) (MeetsSeq.list_remove a vs.toArray n (.str (mk t) u) (likeV t) he (l.idxOf t) (by rw [List.size_toArray]; omega) ?_ ?_ (by rw [List.size_toArray, hl]; exact sz8 hz)) ⟨hg, rfl, ?_⟩
    · rw [lk _ (by rw [List.size_toArray]; omega), List.getD_eq_getElem?_getD, List.getElem?_eq_getElem hj]
      exact decide_eq_true (List.getElem_idxOf hj)
    · intro m hm hmj
      rw [lk m hm, List.getD_eq_getElem?_getD, List.getElem?_eq_getElem (by omega)]
      refine decide_eq_false fun q => ?_
      have q' : l[m] = t := q
      have := List.not_of_lt_findIdx (p := (· == t)) (xs := l) (i := m) hmj
      rw [q'] at this
      simp at this
    · have hs'' : Heap.SameBut a s.heap (s.heap.update a (Obj.mapSeq fun xs => xs.eraseIdxIfInBounds (l.idxOf t))) := Heap.SameBut.update ..
      generalize hh' : s.heap.update a (Obj.mapSeq fun xs => xs.eraseIdxIfInBounds (l.idxOf t)) = h' at hs''
      obtain ⟨n', hg'⟩ : ∃ n', h'.get? a = some (lo (vs.eraseIdx (l.idxOf t)) n') := by
        rw [← hh']
        have q := PySem.IsL.update hg (fun xs => xs.eraseIdxIfInBounds (l.idxOf t))
        have e : vs.toArray.eraseIdxIfInBounds (l.idxOf t) = (vs.eraseIdx (l.idxOf t)).toArray := by
          apply Array.toList_inj.mp
          rw [Array.toList_eraseIdxIfInBounds]
        rw [e] at q
        exact ⟨_, q⟩
      have el : (l.erase t).map dS = (l.map dS).eraseIdx (l.idxOf t) := by
        rw [List.erase_eq_eraseIdx_of_idxOf (i := l.idxOf t) rfl, List.eraseIdx_eq_take_drop_succ, List.eraseIdx_eq_take_drop_succ, List.map_append, List.map_take, List.map_drop]
      have S₁ : Cx.S { c with μ := (a, (l.erase t).map dS) :: (b, ms) :: μ' } h' := by
        rw [el]
        exact St.setMut (ds := l.map dS) (hμ ▸ S) hs'' hg' (hrd.eraseIdx _)
      refine wpAny_execs_nil (wpAny_execs_nil ?_)
      refine wp_of (hr₁ hin A { s with heap := h' } ok S₁) fun f s₃ g₃ => ⟨StepU.tx (s' := { s with heap := h' }) ⟨h', _, rfl, fun b o hb e => (hs''.2 b fun q => hb (q ▸ haW)).trans e⟩ g₃.1, g₃.2⟩
  · refine call_meets PySem.F.slot_list_remove ⟨_, hg, rfl⟩ PySem.F.entry_list_remove (PySem.F.args_list_remove_2 _ _) (MeetsSeq.list_remove_none a vs.toArray n (.str (mk t) u) (likeV t) he fun m hm => ?_) ⟨hg, ok.handled, fun h₁ tk ex hne => ?_⟩
    · rw [lk m hm, List.getD_eq_getElem?_getD, List.getElem?_eq_getElem (by simpa [hl] using hm)]
      exact decide_eq_false fun q => hin (by
        have q' : l[m]'(by simpa [hl] using hm) = t := q
        rw [← q']; exact List.getElem_mem _)
    · have hfrm : frOf (c.env :: outer) = c.env.locals :: frOf outer := by simp [frOf, hf]
      have hDl : ∀ q ∈ frOf (c.env :: outer), IsD s.heap q := fun q hq => by
        rw [hfrm] at hq
        rcases List.mem_cons.mp hq with r | r
        · obtain ⟨m, hm⟩ := S.ns; rw [r]; exact .of_ns hm
        · exact (S.frs q (by rw [hF]; exact r)).2
      have slt : ∀ h', Slt (frOf (c.env :: outer)) s.heap h' → c.S h' := fun h' k => St.slots S (F := frOf (c.env :: outer)) (fun q hq => ⟨by
        rw [hfrm] at hq
        rcases List.mem_cons.mp hq with r | r
        · rw [r]; exact S.loc
        · exact (S.frs q (by rw [hF]; exact r)).1, hDl q hq⟩) k
      have stp : ∀ h' tk', Slt (frOf (c.env :: outer)) s.heap h' → StepX c.W c.F s { s with heap := h', toks := tk' } := fun h' tk' k => ⟨h', tk', rfl, fun q o hq e => by
        obtain ⟨o', e', cc⟩ := k q o e
        refine ⟨o', e', cc.imp id fun r => ⟨?_, r.2⟩⟩
        have := r.1
        rw [hfrm] at this
        rcases List.mem_cons.mp this with r' | r'
        · exact (hq (r' ▸ S.locW)).elim
        · rw [hF]; exact r'⟩
      refine caught_here (s := s) (X := "ValueError") (T := "ValueError") (L := c.env.locals) (ok.frames _ hfr) hf hFn hDl hne (by rw [isSubtype_type]; kernel_rfl) (by rw [isSubtype_type]; kernel_rfl) (by rw [isSubtype_type]; kernel_rfl)
        (fun A' h' Q' E' k hq => hname A' { s with heap := h', toks := tk } vp Q' E' (slt h' k) hq) fun h' k => ?_
      have S₁ := slt h' k
      obtain ⟨w, hw, hwb⟩ := St.vars S₁ z _ hzz
      have hwb' : w = .ref b := hwb
      subst hwb'
      obtain ⟨wy, hwy, hwyb⟩ := St.vars S₁ y _ hy
      have hwyb' : Rd c.U h' wy (dS t) := hwyb
      obtain ⟨hbW, us, n', hg', hrd'⟩ := St.mutsW S₁ b ms (by rw [hμ]; exact .tail _ (.head _))
      refine wpAny_execs_cons (exec_expr_none (c := c) ?_ hi hs')
      refine wpAny_Call_method (T := "list") (id := "list.append") rfl (by rw [hse']; rfl) hline' PySem.F.plainAttrs_list slot_list_append type_list_append (load_var (c := c) (s := { s with heap := h', toks := tk }) S₁ hw ?_ hdz hcz)
      refine ⟨⟨_, hg', rfl⟩, fun b q => by cases q; exact ⟨_, hg', rfl⟩, Calls.callWith_builtin (starEach_plain (by rw [hse']; rfl) pos') ?_⟩
      rw [hse']
      refine evalArgs_plain (x := eval (.Name y yp') c.env) (rest := []) (Calls.spliced_cons (load_var (c := c) (s := { s with heap := h', toks := tk }) S₁ hwy (Calls.spliced_nil ?_) hdy hcy))
      refine append_of (s := { s with heap := h', toks := tk }) hg' (by rw [hrd'.length]; exact hz') fun h'' hg'' hs'' => ⟨rfl, wpAny_execs_nil ?_⟩
      have S₂ : Cx.S { c with μ := (b, ms ++ [dS t]) :: (a, l.map dS) :: μ' } h'' := St.setMut (ds := ms) (St.perm (hμ ▸ S₁) (List.Perm.swap _ _ _)) hs'' hg'' (hrd'.append (.one hwyb'))
      refine wp_of (hr₂ hin A { s with heap := h'', toks := tk } ok S₂) fun f s₃ g₃ => ⟨(stp h' tk k).trans (StepU.tx (s' := { s with heap := h'', toks := tk }) ⟨h'', _, rfl, fun q o hq e => (hs''.2 q fun r => hq (r ▸ hbW)).trans e⟩ g₃.1), g₃.2⟩
end
end Mine
end
noncomputable section
open PySem PySem.Calls PySem.W PyProof.Rows
set_option Elab.async false
set_option maxRecDepth 100000
set_option linter.unusedVariables false
namespace Mine

section
variable {c : Cx} {A : Around} {s s₁ s₂ : Shared} {pos p : Pos} {ds es : List PyData} {Q : Flow → Heap → Prop} {rest : List Stmt} {x y z : Str} {a b : Addr}
/-- return (x, y): two values of the frame -/
theorem Ex.retPair {v₁ v₂ : Value} {k : Nat} {px py p₁ : Pos} (hx : c.ρ.lookup x = some (.val v₁)) (hy : c.ρ.lookup y = some (.val v₂)) (h : ∀ g r, c.S g → r ∉ c.U → g.get? r = some (tu [v₁, v₂] 0) → Q (.ret (.ref r)) g)
    (hse : starEach [.Name x px, .Name y py] c.env = [(false, eval (.Name x px) c.env), (false, eval (.Name y py) c.env)] := by rfl) (hd : (x == ("__debug__" : Str)) = false := by decide) (hc : (x == ("__classdict__" : Str)) = false := by decide) (hd' : (y == ("__debug__" : Str)) = false := by decide) (hc' : (y == ("__classdict__" : Str)) = false := by decide) :
    Ex c (.Return (some (.Tuple [.Name x px, .Name y py] k pos)) p₁ :: rest) Q := fun A s ok S => by
  obtain ⟨u₁, h₁, b₁⟩ := S.vars x _ hx
  obtain ⟨u₂, h₂, b₂⟩ := S.vars y _ hy
  have e₁ : u₁ = v₁ := b₁
  have e₂ : u₂ = v₂ := b₂
  subst e₁; subst e₂
  refine wpAny_execs_cons (wpAny_Return_some (Tuple_ ?_))
  rw [hse]
  refine Calls.spliced_cons (x := eval (.Name x px) c.env) (rest := [(false, eval (.Name y py) c.env)]) (load_var S h₁ (Calls.spliced_cons (load_var S h₂ (Calls.spliced_nil ?_) hd' hc')) hd hc)
  refine wpAny_newObj_type ⟨.of_keeps (keeps_push s (tu [u₁, u₂] 0) s.toks), h _ _ (S.up (keeps_push s (tu [u₁, u₂] 0) s.toks)) (S.new (Nat.le_refl _)) (Heap.get?_push_size _ rfl)⟩ (by show 2 ≤ sizeLine; rw [sizeLine_eq]; lia)
end

section
variable {prog : Program} {w : World} {H : Heap}
theorem concat_of {α : Type} {l : List α} (h : l ≠ []) : ∃ i x, l = i ++ [x] := ⟨l.dropLast, l.getLast h, (List.dropLast_concat_getLast h).symm⟩
/-- unorderable_list_difference of two lists of the caller's own -/
theorem diff_call (T : Wd (KK w) H) {A : Around} {s : Shared} {U : List Addr} {a1 a2 : Addr} {vs1 vs2 : List Value} {n1 n2 : Nat} {one two : List Tx} {outer : List Env} (ok : Ok 1 (some outer) A) (hFn : Fns outer) (hF : ∀ b ∈ frOf outer, b ∈ U ∧ IsD s.heap b)
    (hH : Le H s.heap) (hU : ∀ b ∈ U, (∃ o, s.heap.get? b = some o) ∧ H.get? b = none) (h1 : a1 ∈ U) (h2 : a2 ∈ U) (hne : a1 ≠ a2) (g1 : s.heap.get? a1 = some (lo vs1 n1)) (g2 : s.heap.get? a2 = some (lo vs2 n2)) (r1 : RdL U s.heap vs1 (one.map dS)) (r2 : RdL U s.heap vs2 (two.map dS))
    (z1 : one.length ≤ 1000) (z2 : two.length ≤ 1000) :
    wpAny (model prog w) A (call (.ref 21) [.ref a1, .ref a2]) (fun v s' => StepX [a1, a2] (frOf outer) s s' ∧ ∃ r m us k k1 ws k2, v = .ref r ∧ r ∉ U ∧ m ∉ U ∧ s'.heap.get? r = some (tu [.ref m, .ref a2] 0) ∧ s'.heap.get? m = some (lo us k) ∧ RdL U s'.heap us ((diffT one two).1.map dS) ∧
      s'.heap.get? a1 = some (lo [] k1) ∧ s'.heap.get? a2 = some (lo ws k2) ∧ RdL U s'.heap ws ((diffT one two).2.map dS)) No s := by
  refine (s21 T).call (F := frOf outer) (U := U) (W₀ := [a1, a2]) (ρ₀ := [(Str.ofString "expected", .val (.ref a1)), (Str.ofString "actual", .val (.ref a2))]) (μ₀ := [(a1, one.map dS), (a2, two.map dS)]) ok.room hH hU ?_ rfl ?_ ?_ ?_ hF ?_
  · intro b hb
    rcases List.mem_cons.mp hb with q | q
    · rw [q]; exact h1
    · rw [List.mem_singleton.mp q]; exact h2
  · intro y b e
    rw [List.lookup_cons] at e
    cases q : y == Str.ofString "expected" with
    | true => rw [q] at e; cases e; rw [eq_of_beq q]; exact ⟨_, .head _, rfl⟩
    | false =>
      rw [q, List.lookup_cons] at e
      cases q' : y == Str.ofString "actual" with
      | true => rw [q'] at e; cases e; rw [eq_of_beq q']; exact ⟨_, .tail _ (.head _), rfl⟩
      | false => rw [q'] at e; cases e
  · intro b ds hm
    rcases List.mem_cons.mp hm with q | q
    · cases q; exact ⟨.head _, vs1, n1, g1, r1⟩
    · cases List.mem_singleton.mp q; exact ⟨.tail _ (.head _), vs2, n2, g2, r2⟩
  · simp [hne]
  intro L s₁ hLU hLn hown hk S
  have hO : own (fd21 w.params) L = [L] := rfl
  have key : Ex ⟨prog, w, H, 0, some (callEnvC (fd21 w.params) L 21 :: outer), frOf outer, [L] ++ U, [L] ++ [a1, a2], callEnvC (fd21 w.params) L 21, [(Str.ofString "expected", .val (.ref a1)), (Str.ofString "actual", .val (.ref a2))], [(a1, one.map dS), (a2, two.map dS)]⟩ bd21
      (fun f h => ∃ r m us k k1 ws k2, f = .ret (.ref r) ∧ r ∉ U ∧ m ∉ U ∧ h.get? r = some (tu [.ref m, .ref a2] 0) ∧ h.get? m = some (lo us k) ∧ RdL U h us ((diffT one two).1.map dS) ∧ h.get? a1 = some (lo [] k1) ∧ h.get? a2 = some (lo ws k2) ∧ RdL U h ws ((diffT one two).2.map dS)) := by
    delta bd21
    refine Ex.newOwn .nil (by simp) (.inl rfl) fun m hm => ?_
    refine Ex.while (σ := List Tx × List Tx × List Tx) (fun _ => [(Str.ofString "missing", .val (.ref m)), (Str.ofString "expected", .val (.ref a1)), (Str.ofString "actual", .val (.ref a2))]) (fun x => [(a1, x.1.map dS), (a2, x.2.1.map dS), (m, x.2.2.map dS)])
      (fun x => diffGo x.1.reverse x.2.1 x.2.2 = diffT one two ∧ x.1.length ≤ 1000 ∧ x.2.1.length ≤ 1000 ∧ x.2.2.length + x.1.length ≤ 1000) (fun x => x.1.length) (fun x => decide (x.1 ≠ [])) (one, two, []) (fun g S => (St.perm S ?_).to ⟨rfl, rfl, rfl, trivial⟩) ⟨rfl, z1, z2, by simpa using z1⟩ ?_ ?_ ?_
    · exact (List.Perm.swap (a1, one.map dS) (m, []) [(a2, two.map dS)]).trans ((List.Perm.swap (a2, two.map dS) (m, ([] : List PyData)) []).cons _)
    · rintro ⟨exp, act, miss⟩ ⟨hx, k1, k2, k3⟩
      refine Tr.frozen (x := Str.ofString "expected") (List.Perm.refl _) rfl (Tr.plain (Ev.var rfl) ?_ ?_)
      · show (!(exp.map dS).isEmpty) = decide (exp ≠ [])
        cases exp <;> rfl
      · show (exp.map dS).length ≤ _
        rw [List.length_map]; dsimp only at k1; lia
    · rintro ⟨exp, act, miss⟩ ⟨hx, k1, k2, k3⟩ hb
      obtain ⟨init, t, rfl⟩ := concat_of (of_decide_eq_true hb)
      dsimp only at hx k1 k2 k3 ⊢
      rw [List.length_append, List.length_singleton] at k1 k3
      rw [List.reverse_append, List.reverse_singleton, List.singleton_append, diffGo] at hx
      refine Ex.pop (a := a1) (ds := init.map dS) (d := dS t) (by show _ :: _ = _ :: _; rw [List.map_append]; rfl) rfl (by rw [List.length_map]; lia) rfl ?_
      refine Ex.perm (μ' := [(a2, act.map dS), (m, miss.map dS), (a1, init.map dS)]) ((List.Perm.swap (a2, act.map dS) (a1, init.map dS) [(m, miss.map dS)]).trans ((List.Perm.swap (m, miss.map dS) (a1, init.map dS) []).cons _)) ?_
      refine Ex.tryRemove (outer := outer) rfl rfl rfl rfl (by lia) (by rw [List.length_map]; lia) rfl rfl rfl (fun e he => ?_) (NameIs.boot T (m_ValueError w) b_ValueError) (fun hin => ?_) (fun hin => ?_)
      · rcases List.mem_cons.mp he with q | q
        · rw [q]; exact ⟨by show (fd21 w.params).scope.kind ≠ _; rw [show (fd21 w.params).scope.kind = .function from rfl]; decide, L, rfl⟩
        · exact hFn e q
      · rw [if_pos hin] at hx
        have hle : (act.erase t).length ≤ act.length := List.length_erase_le
        refine Ex.nil fun g S => ⟨(init, act.erase t, miss), ⟨hx, by dsimp only; lia, by dsimp only; lia, by dsimp only; lia⟩, by dsimp only; rw [List.length_append, List.length_singleton]; lia, (St.perm S ?_).to ⟨rfl, rfl, rfl, trivial⟩⟩
        exact ((List.Perm.swap (a1, init.map dS) (m, miss.map dS) []).cons _).trans (List.Perm.swap (a1, init.map dS) (a2, (act.erase t).map dS) [(m, miss.map dS)])
      · rw [if_neg hin] at hx
        refine Ex.nil fun g S => ⟨(init, act, miss ++ [t]), ⟨hx, by dsimp only; lia, by dsimp only; lia, by dsimp only; rw [List.length_append, List.length_singleton]; lia⟩, by dsimp only; rw [List.length_append, List.length_singleton]; lia, ?_⟩
        have e : (miss ++ [t]).map dS = miss.map dS ++ [dS t] := by simp
        show Cx.S _ g
        rw [e]
        refine (St.perm S ?_).to ⟨rfl, rfl, rfl, trivial⟩
        exact (List.Perm.swap (a2, act.map dS) (m, miss.map dS ++ [dS t]) [(a1, init.map dS)]).trans (((List.Perm.swap (a1, init.map dS) (m, miss.map dS ++ [dS t]) []).cons _).trans (List.Perm.swap (a1, init.map dS) (a2, act.map dS) [(m, miss.map dS ++ [dS t])]))
    · rintro ⟨exp, act, miss⟩ ⟨hx, k1, k2, k3⟩ hb
      have he : exp = [] := by simpa using hb
      dsimp only at hx he ⊢
      subst he
      have hx' : (miss, act) = diffT one two := hx
      refine Ex.retPair (x := Str.ofString "missing") (y := Str.ofString "actual") rfl rfl fun g r S hr hg => ?_
      obtain ⟨_, us, k, g3, q3⟩ := S.muts m _ (.tail _ (.tail _ (.head _)))
      obtain ⟨_, ws, k2, g2', q2⟩ := S.muts a2 _ (.tail _ (.head _))
      obtain ⟨_, xs, k1', g1', q1⟩ := S.muts a1 _ (.head _)
      have hxs : xs = [] := by cases q1; rfl
      subst hxs
      have less : ∀ b ∈ U, b ∈ m :: ([L] ++ U) := fun b hb => .tail _ (List.mem_append_right _ hb)
      refine ⟨r, m, us, k, k1', ws, k2, rfl, fun q => hr (less r q), fun q => hm (List.mem_append_right _ q), hg, g3, ?_, g1', g2', ?_⟩
      · rw [← hx']; exact q3.less less
      · rw [← hx']; exact q2.less less
  refine wpAny_mono (key (A.deeper _) s₁ (ok.deeperF _) S) (fun f s' g => ?_) fun _ _ q => q.elim
  obtain ⟨st, r, m, us, k, k1, ws, k2, rfl, q⟩ := g
  refine ⟨((StepU.of_keeps (U := [L] ++ [a1, a2]) hk).tx st).less fun b hb => ?_, r, m, us, k, k1, ws, k2, rfl, q⟩
  rcases List.mem_append.mp hb with z | z
  · rw [List.mem_singleton.mp z]; exact .inr hLn
  · exact .inl z
end
end Mine
end
noncomputable section
open PySem PySem.Calls PySem.W PyProof.Rows
set_option Elab.async false
set_option maxRecDepth 100000
set_option linter.unusedVariables false
namespace Mine

/-- the frame's own lists change, and the slots of frames -/
theorem St.change {Fs F : List Addr} {H : Heap} {U W : List Addr} {env : Env} {ρ : Rho} {μ μ' : List (Addr × List PyData)} {h h' : Heap} (S : St Fs H U W env ρ μ h) (hF : ∀ a ∈ F, a ∈ U ∧ IsD h a)
    (hk : ∀ b o, b ∉ μ.map (·.1) → h.get? b = some o → ∃ o', h'.get? b = some o' ∧ (o' = o ∨ (b ∈ F ∧ SameS o o'))) (hM : ∀ a ∈ μ.map (·.1), ∃ o, h'.get? a = some o)
    (hμ : ∀ a ds, (a, ds) ∈ μ' → a ∈ W ∧ ∃ vs n, h'.get? a = some (lo vs n) ∧ RdL U h' vs ds) (hn : (μ'.map (·.1)).Nodup) : St Fs H U W env ρ μ' h' := by
  have mAt : ∀ {b : Addr}, b ∈ μ.map (·.1) → b ∈ U ∧ ∃ vs n, h.get? b = some (lo vs n) := fun {b} m => by
    obtain ⟨p, hp, rfl⟩ := List.mem_map.mp m
    obtain ⟨i, vs, n, g, _⟩ := S.muts p.1 p.2 hp
    exact ⟨i, vs, n, g⟩
  have off : ∀ {b : Addr} {o : Obj}, b ∉ F → b ∉ μ.map (·.1) → h.get? b = some o → h'.get? b = some o := fun {b o} hb hm e => by
    obtain ⟨o', e', c⟩ := hk b o hm e
    rcases c with rfl | ⟨m, _⟩
    · exact e'
    · exact (hb m).elim
  have offU : ∀ b o, b ∉ U → h.get? b = some o → b ∉ U ∧ h'.get? b = some o := fun b o hb e => ⟨hb, off (fun m => hb (hF b m).1) (fun m => hb (mAt m).1) e⟩
  have ns : ∀ {m : Str → Option Value}, h.Ns env.locals m → h'.Ns env.locals m := fun {m} n => by
    obtain ⟨o, es, ep, e, r⟩ := id n
    obtain ⟨o', e', c⟩ := hk _ _ (fun q => by obtain ⟨_, vs, k, g⟩ := mAt q; exact mut_not_locals g n rfl) e
    rcases c with rfl | ⟨_, sl, rfl⟩
    · exact ⟨_, es, ep, e', r⟩
    · exact ns_slots n e e'
  have cel : ∀ {a : Addr} {v : Option Value}, h.IsCell a v → h'.IsCell a v := fun {a v} n => by
    obtain ⟨o, e, d⟩ := id n
    refine ⟨o, off (fun m => (hF a m).2.not_cell n rfl) (fun m => ?_) e, d⟩
    obtain ⟨_, vs, k, g⟩ := mAt m
    exact mut_not_cell g n rfl
  exact {
    base := fun b o e => off (fun m => by have := (S.offs b (hF b m).1).2; rw [e] at this; cases this) (fun m => by have := (S.offs b (mAt m).1).2; rw [e] at this; cases this) (S.base b o e)
    offs := fun a ha => ⟨by
      by_cases m : a ∈ μ.map (·.1)
      · exact hM a m
      · obtain ⟨o, e⟩ := (S.offs a ha).1
        obtain ⟨o', e', _⟩ := hk a o m e
        exact ⟨o', e'⟩, (S.offs a ha).2⟩
    kind := S.kind
    globals := S.globals
    builtins := S.builtins
    subW := S.subW
    locW := S.locW
    ns := let ⟨m, n⟩ := S.ns; ⟨m, ns n⟩
    cells := fun y a hm => let ⟨i, e, v, j⟩ := S.cells y a hm; ⟨i, e, v, cel j⟩
    apart := S.apart
    vars := fun y b e => by
      obtain ⟨v, q, r⟩ := S.vars y b e
      refine ⟨v, ?_, Bd.ok_frame offU r⟩
      rcases q with ⟨q, m, n, e⟩ | ⟨q, a, l, i⟩
      · exact .inl ⟨q, m, ns n, e⟩
      · exact .inr ⟨q, a, l, cel i⟩
    mutsW := hμ
    mapart := hn
    frs := fun a ha => ⟨(S.frs a ha).1, by
      obtain ⟨o, es, ep, e, d⟩ := (S.frs a ha).2
      obtain ⟨o', e', c⟩ := hk a o (fun m => by obtain ⟨_, vs, k, g⟩ := mAt m; exact (S.frs a ha).2.not_list g rfl) e
      rcases c with rfl | ⟨_, sl, rfl⟩
      · exact ⟨_, es, ep, e', d⟩
      · exact ⟨_, es, ep, e', d⟩⟩ }

section
variable {c : Cx} {A : Around} {s s₁ s₂ : Shared} {pos p : Pos} {ds es : List PyData} {Q : Flow → Heap → Prop} {rest : List Stmt} {x y z : Str} {a b : Addr} {e : Expr}
/-- x = list(e): a copy that is the frame's own -/
theorem Ex.ownCopy {np p' p₁ : Pos} (hl : NameIs c (Str.ofString "list") (.type "list")) (he : Ev c e (.list ds)) (hz : ds.length ≤ 1000000) (hx : c.env.kindOf x = some .local) (hr : ∀ a, a ∉ c.U → Ex (c.own x a ds) rest Q)
    (hse : starEach [e] c.env = [(false, eval e c.env)] := by rfl) (hs : swapsWith (.Call (.Name (Str.ofString "list") np) [e] [] pos) (some (.Name x p')) p₁.line c.env = pure false := by rfl) :
    Ex c (.Assign [.Name x p'] (.Call (.Name (Str.ofString "list") np) [e] [] pos) p₁ :: rest) Q := fun A s ok S => by
  refine wpAny_execs_cons (wpAny_Assign_Name ?_ hs)
  refine wpAny_Call_NameR (hl A s np _ _ S (PySem.callWith_type (starEach_plain (by rw [hse]; rfl) pos) (args_of (wp_of (Evs.cons he .nil (by rw [hse]; rfl) A s ok S) fun vs s₁ g₁ => ?_) (by rw [hse]; rfl))))
  cases g₁.2 with | cons r r' => cases r' with | nil => cases r with | @list a₀ ws n _ ha hg q =>
  have S₁ := S.up g₁.1
  refine call_list_seq a₀ (T := "list") (.inl rfl) hg rfl rfl (fun h' c' hk' hg' => ?_) (by rw [List.size_toArray, q.length]; exact sz8 hz)
  have haU : s₁.heap.objs.size ∉ c.U := S₁.new (Nat.le_refl _)
  have hnone : s₁.heap.get? s₁.heap.objs.size = none := none_of_le (Nat.le_refl _)
  generalize hsz : s₁.heap.objs.size = a at *
  have fr : ∀ b o, b ∉ c.U → s₁.heap.get? b = some o → b ∉ a :: c.U ∧ h'.get? b = some o := fun b o hb e => ⟨fun m => by
    rcases List.mem_cons.mp m with r | r
    · rw [r, hnone] at e; cases e
    · exact hb r, hk' b o e⟩
  have S₂ : St c.F c.H (a :: c.U) (a :: c.W) c.env c.ρ ((a, ds) :: c.μ) h' := by
    refine St.newMut (St.up S₁ hk') (size_le S₁.base (Nat.le_of_eq hsz)) haU hg' (q.frame fr) (fun y b e => ?_) fun b es hm => ?_
    · obtain ⟨v, hv, ho⟩ := S₁.vars y b e
      exact ⟨v, hv.up hk', Bd.ok_frame fr ho⟩
    · obtain ⟨_, vs', n', g, r⟩ := S₁.muts b es hm
      exact ⟨vs', n', hk' _ _ g, r.frame fr⟩
  refine wp_of (storeL_of (c := { c with U := a :: c.U, W := a :: c.W, μ := (a, ds) :: c.μ }) (s := { s₁ with heap := h' }) (v := .ref a) (b := .val (.ref a)) S₂ hx rfl) fun _ s₂ g₂ => ?_
  refine wp_of (hr a haU A s₂ ok g₂.2) fun f s₃ g₃ => ⟨own_step g₁.1 hsz ((g₂.1.less fun b hb => .inl (by rw [List.mem_singleton.mp hb]; exact .tail _ S.locW)).tx g₃.1) fun b o _ e => hk' b o e, g₃.2⟩
end
end Mine
end
noncomputable section
open PySem PySem.Calls PySem.W PyProof.Rows
set_option Elab.async false
set_option maxRecDepth 100000
set_option linter.unusedVariables false
namespace Mine

section
variable {c : Cx} {Q : Flow → Heap → Prop} {rest : List Stmt} {x y z : Str} {a1 a2 : Addr} {pos : Pos}
/-- z = unorderable_list_difference(x, y), and both lists are data from now on -/
theorem Ex.callDiff {one two : List Tx} {outer : List Env} {fp xp yp zp p₁ : Pos} (T : Wd (KK c.w) c.H) (hμ : c.μ = [(a2, two.map dS), (a1, one.map dS)]) (hx : c.ρ.lookup x = some (.val (.ref a1))) (hy : c.ρ.lookup y = some (.val (.ref a2)))
    (hxy : (y == x) = false) (hz : c.env.kindOf z = some .local) (hfn : NameIs c (Str.ofString "unorderable_list_difference") (.ref 21)) (hk : 1 ≤ c.k) (hfr : c.fr = some (c.env :: outer)) (hF : c.F = frOf outer) (hf : c.env.frame = some c.env.locals) (hFn : Fns (c.env :: outer)) (z1 : one.length ≤ 1000) (z2 : two.length ≤ 1000)
    (hr : Ex { c with U := (c.U.filter (fun q => q != a1)).filter (fun q => q != a2), W := (c.W.filter (fun q => q != a1)).filter (fun q => q != a2), ρ := (z, .dat (.tuple [dSs (diffT one two).1, dSs (diffT one two).2])) :: (y, .dat (dSs (diffT one two).2)) :: (x, .dat (dSs [])) :: c.ρ, μ := [] } rest Q)
    (hse : starEach [.Name x xp, .Name y yp] c.env = [(false, eval (.Name x xp) c.env), (false, eval (.Name y yp) c.env)] := by rfl)
    (hs : swapsWith (.Call (.Name (Str.ofString "unorderable_list_difference") fp) [.Name x xp, .Name y yp] [] pos) (some (.Name z zp)) p₁.line c.env = pure false := by rfl)
    (hd : (x == ("__debug__" : Str)) = false := by decide) (hc : (x == ("__classdict__" : Str)) = false := by decide) (hd' : (y == ("__debug__" : Str)) = false := by decide) (hc' : (y == ("__classdict__" : Str)) = false := by decide) :
    Ex c (.Assign [.Name z zp] (.Call (.Name (Str.ofString "unorderable_list_difference") fp) [.Name x xp, .Name y yp] [] pos) p₁ :: rest) Q := fun A s ok S => by
  obtain ⟨v₁, hv₁, b₁⟩ := S.vars x _ hx
  obtain ⟨v₂, hv₂, b₂⟩ := S.vars y _ hy
  have e₁ : v₁ = .ref a1 := b₁
  have e₂ : v₂ = .ref a2 := b₂
  subst e₁; subst e₂
  obtain ⟨hW2, vs2, n2, g2, r2⟩ := S.mutsW a2 (two.map dS) (by rw [hμ]; exact .head _)
  obtain ⟨hW1, vs1, n1, g1, r1⟩ := S.mutsW a1 (one.map dS) (by rw [hμ]; exact .tail _ (.head _))
  have hne : a1 ≠ a2 := fun q => by
    have := S.mapart
    rw [hμ] at this
    simp [q] at this
  have hfrm : frOf (c.env :: outer) = c.env.locals :: frOf outer := by simp [frOf, hf]
  have hDl : ∀ q ∈ frOf (c.env :: outer), q ∈ c.U ∧ IsD s.heap q := fun q hq => by
    rw [hfrm] at hq
    rcases List.mem_cons.mp hq with r | r
    · obtain ⟨m, hm⟩ := S.ns; rw [r]; exact ⟨S.loc, .of_ns hm⟩
    · exact S.frs q (by rw [hF]; exact r)
  obtain ⟨of, hof, hofd⟩ := (s21 T).ho
  refine wpAny_execs_cons (wpAny_Assign_Name ?_ hs)
  refine wpAny_Call_NameR (hfn A s fp _ _ S (Calls.callWith_function (o := of) (fd := fd21 c.w.params) ?_))
  rw [hse]
  refine evalArgs_plain (x := eval (.Name x xp) c.env) (rest := [(false, eval (.Name y yp) c.env)]) (Calls.spliced_cons (load_var S hv₁ (Calls.spliced_cons (load_var S hv₂ (Calls.spliced_nil ?_) hd' hc')) hd hc))
  refine ⟨⟨S.base _ _ hof, hofd⟩, ?_⟩
  have okF : Ok 1 (some (c.env :: outer)) A := by have := ok.lessF hk; rw [hfr] at this; exact this
  refine wp_of (diff_call (prog := c.prog) (w := c.w) T (U := c.U) okF hFn hDl S.base S.offs (S.subW _ hW1) (S.subW _ hW2) hne g1 g2 r1 r2 z1 z2) fun v s' g => ?_
  obtain ⟨st, r, m, us, k, k1, ws, k2, rfl, hrU, hmU, hgr, hgm, hrm, hg1, hg2, hrw⟩ := g
  have S₁ : St c.F c.H c.U c.W c.env c.ρ [(a1, ([] : List Tx).map dS), (a2, (diffT one two).2.map dS)] s'.heap := by
    refine St.change (F := frOf (c.env :: outer)) S hDl (fun b o hb e => ?_) (fun b hb => ?_) (fun b ds hm => ?_) (by simp [hne])
    · obtain ⟨h', tk, rfl, kk⟩ := st
      exact kk b o (fun q => hb (by rw [hμ]; rcases List.mem_cons.mp q with q | q; exact q ▸ .tail _ (.head _); exact (List.mem_singleton.mp q) ▸ .head _)) e
    · rw [hμ] at hb
      rcases List.mem_cons.mp hb with q | q
      · rw [q]; exact ⟨_, hg2⟩
      · rw [List.mem_singleton.mp q]; exact ⟨_, hg1⟩
    · rcases List.mem_cons.mp hm with q | q
      · cases q; exact ⟨hW1, _, _, hg1, .nil⟩
      · cases List.mem_singleton.mp q; exact ⟨hW2, _, _, hg2, hrw⟩
  have S₂ := St.frozen S₁ hx
  have S₃ := St.frozen (x := y) S₂ (by rw [List.lookup_cons, hxy]; exact hy)
  have less : ∀ b ∈ (c.U.filter (fun q => q != a1)).filter (fun q => q != a2), b ∈ c.U := fun b hb => (mem_off.mp (mem_off.mp hb).1).1
  have hrd : Rd ((c.U.filter (fun q => q != a1)).filter (fun q => q != a2)) s'.heap (.ref r) (.tuple [dSs (diffT one two).1, dSs (diffT one two).2]) :=
    .tuple (fun q => hrU (less _ q)) hgr (.cons (.list (fun q => hmU (less _ q)) hgm (hrm.less less)) (.cons (.list (fun q => (mem_off.mp q).2 rfl) hg2 (hrw.less less)) .nil))
  refine wp_of (storeL_of (c := { c with U := (c.U.filter (fun q => q != a1)).filter (fun q => q != a2), W := (c.W.filter (fun q => q != a1)).filter (fun q => q != a2), ρ := (y, .dat (dSs (diffT one two).2)) :: (x, .dat (dSs [])) :: c.ρ, μ := [] }) (b := .dat (.tuple [dSs (diffT one two).1, dSs (diffT one two).2])) S₃ hz hrd) fun _ s₂ g₂ => ?_
  refine wp_of (hr A s₂ ok g₂.2) fun f s₃ g₃ => ⟨?_, g₃.2⟩
  have lessW : ∀ b ∈ (c.W.filter (fun q => q != a1)).filter (fun q => q != a2), b ∈ c.W := fun b hb => (mem_off.mp (mem_off.mp hb).1).1
  have st₁ : StepX c.W c.F s s' := by
    obtain ⟨h', tk, rfl, kk⟩ := st
    refine ⟨h', tk, rfl, fun b o hb e => ?_⟩
    obtain ⟨o', e', cc⟩ := kk b o (fun q => hb (by rcases List.mem_cons.mp q with q | q; exact q ▸ hW1; exact (List.mem_singleton.mp q) ▸ hW2)) e
    refine ⟨o', e', cc.imp id fun r => ⟨?_, r.2⟩⟩
    have := r.1
    rw [hfrm] at this
    rcases List.mem_cons.mp this with r' | r'
    · exact (hb (r' ▸ S.locW)).elim
    · rw [hF]; exact r'
  exact st₁.trans (((g₂.1.less fun b hb => .inl (by rw [List.mem_singleton.mp hb]; exact S.locW)).x).trans (g₃.1.less fun b hb => .inl (lessW b hb)))
end
end Mine
end
noncomputable section
open PySem PySem.Calls PySem.W PyProof.Rows
set_option Elab.async false
set_option maxRecDepth 100000
set_option linter.unusedVariables false
namespace Mine

theorem eqv_strs : ∀ l r : List Tx, PyData.eqvAll (l.map dS) (r.map dS) = decide (l = r)
  | [], [] => rfl
  | [], _ :: _ => rfl
  | _ :: _, [] => rfl
  | x :: l, y :: r => by
    rw [List.map_cons, List.map_cons, PyData.eqvAll, eqv_strs l r]
    show ((mk x == mk y) && _) = _
    rw [mk_beq]
    by_cases h : x = y
    · subst h; simp
    · simp [h]
/-- signs of plain texts -/
def Plain (l : List Tx) : Prop := ∀ t ∈ l, ∀ x ∈ t, x < 128
theorem strOk_of {t : Tx} (h : ∀ x ∈ t, x < 128) : PyData.strOk (mk t) = true := by
  unfold PyData.strOk
  simp only [List.all_toArray', Array.all_eq_true, Array.all_eq_true']
  simp
  intro x hx
  have := h x hx
  lia
theorem lay_strs (l : List Tx) (h : Plain l) : PyData.canLayAll0 (l.map dS) = true ∧ PyData.depthAll (l.map dS) ≤ 1 := by
  induction l with
  | nil => exact ⟨rfl, Nat.zero_le _⟩
  | cons x l ih =>
    refine ⟨by rw [List.map_cons, PyData.canLayAll0, (ih fun t ht => h t (.tail _ ht)).1, Bool.and_true]; exact strOk_of (h x (.head _)), ?_⟩
    have ih := ih fun t ht => h t (.tail _ ht)
    rw [List.map_cons, PyData.depthAll]
    have : (dS x).depth ≤ 1 := by first | exact Nat.zero_le _ | exact Nat.le_refl _ | (simp [PyData.depth])
    lia
theorem shaped_strs (l : List Tx) (h : Plain l) : SeqAt.shaped (dSs l) = true := by
  obtain ⟨h1, h2⟩ := lay_strs l h
  unfold SeqAt.shaped
  rw [Bool.and_eq_true, decide_eq_true_eq]
  refine ⟨h1, ?_⟩
  show PyData.depth (.list _) ≤ 64
  rw [PyData.depth]; lia
theorem shaped_two (l r : List Tx) (h : Plain l) (k : Plain r) : SeqAt.shaped (.tuple [dSs l, dSs r]) = true := by
  obtain ⟨h1, h2⟩ := lay_strs l h
  obtain ⟨k1, k2⟩ := lay_strs r k
  unfold SeqAt.shaped
  rw [Bool.and_eq_true, decide_eq_true_eq]
  refine ⟨?_, ?_⟩
  · show PyData.canLayAll0 [dSs l, dSs r] = true
    simp only [PyData.canLayAll0, Bool.and_true, Bool.and_eq_true]
    exact ⟨h1, k1⟩
  · simp only [PyData.depth, PyData.depthAll]; lia

/-- by counting: what the first lack in the second, from behind; what is left of the second -/
def backL (n : Nat) : List Nat := (List.range n).map fun j => n - 1 - j
def lackT (one two : List Tx) : List Tx := ((backL one.length).filter fun i => decide (two.count (one.getD i []) < (one.drop i).count (one.getD i []))).map fun i => one.getD i []
def overT (one two : List Tx) : List Tx := ((List.range two.length).filter fun i => decide (one.count (two.getD i []) < (two.take (i + 1)).count (two.getD i []))).map fun i => two.getD i []
theorem Plain.lack {one two : List Tx} (h : Plain one) : Plain (lackT one two) := fun t ht => by
  obtain ⟨i, hi, rfl⟩ := List.mem_map.mp ht
  have hb : i ∈ backL one.length := (List.mem_filter.mp hi).1
  obtain ⟨j, hj, rfl⟩ := List.mem_map.mp hb
  have := List.mem_range.mp hj
  rw [List.getD_eq_getElem?_getD, List.getElem?_eq_getElem (by lia)]
  exact h _ (List.getElem_mem _)
theorem Plain.over {one two : List Tx} (h : Plain two) : Plain (overT one two) := fun t ht => by
  obtain ⟨i, hi, rfl⟩ := List.mem_map.mp ht
  have := List.mem_range.mp (List.mem_filter.mp hi).1
  rw [List.getD_eq_getElem?_getD, List.getElem?_eq_getElem (by lia)]
  exact h _ (List.getElem_mem _)
theorem Plain.go : ∀ (r act miss : List Tx), Plain r → Plain act → Plain miss → Plain (diffGo r act miss).1 ∧ Plain (diffGo r act miss).2
  | [], act, miss, _, h2, h3 => ⟨h3, h2⟩
  | t :: r, act, miss, h1, h2, h3 => by
    rw [diffGo]
    split
    · exact Plain.go r _ miss (fun x hx => h1 x (.tail _ hx)) (fun x hx => h2 x (List.mem_of_mem_erase hx)) h3
    · refine Plain.go r act _ (fun x hx => h1 x (.tail _ hx)) h2 fun x hx => ?_
      rcases List.mem_append.mp hx with q | q
      · exact h3 x q
      · rw [List.mem_singleton.mp q]; exact h1 t (.head _)
theorem Plain.diff {one two : List Tx} (h1 : Plain one) (h2 : Plain two) : Plain (diffT one two).1 ∧ Plain (diffT one two).2 :=
  Plain.go _ _ _ (fun x hx => h1 x (List.mem_reverse.mp hx)) h2 fun x hx => nomatch hx
def bagsT (one two : List Tx) : Bool := decide ((diffT one two).1 = lackT one two ∧ (diffT one two).2 = overT one two) && (true && decide ((diffT one two).2 = overT one two))

theorem back_eq (n : Nat) : (rangeL ((n : Int) - 1) n (-1)).map PyData.int = (backL n).map fun (i : Nat) => PyData.int (i : Int) := by
  unfold rangeL backL
  rw [List.map_map, List.map_map]
  refine List.map_congr_left fun i hi => ?_
  have := List.mem_range.mp hi
  show PyData.int ((n : Int) - 1 + (i : Int) * -1) = PyData.int ((n - 1 - i : Nat) : Int)
  congr 1
  lia
theorem back_mem {n i : Nat} (h : i ∈ backL n) : i < n := by
  obtain ⟨j, hj, rfl⟩ := List.mem_map.mp h
  have := List.mem_range.mp hj
  lia

section
variable {prog : Program} {w : World} {H : Heap}
theorem bags_call (T : Wd (KK w) H) {A : Around} {s : Shared} {U : List Addr} {v1 v2 : Value} {one two : List Tx} {outer : List Env} (ok : Ok 2 (some outer) A) (hFn : Fns outer) (hF : ∀ b ∈ frOf outer, b ∈ U ∧ IsD s.heap b)
    (hH : Le H s.heap) (hU : ∀ b ∈ U, (∃ o, s.heap.get? b = some o) ∧ H.get? b = none) (r1 : Rd U s.heap v1 (dSs one)) (r2 : Rd U s.heap v2 (dSs two)) (z1 : one.length ≤ 1000) (z2 : two.length ≤ 1000) (p1 : Plain one) (p2 : Plain two) :
    wpAny (model prog w) A (call (.ref 182) [v1, v2]) (fun v s' => StepX [] (frOf outer) s s' ∧ Rd U s'.heap v (.bool (bagsT one two))) No s := by
  refine (s182 T).call (F := frOf outer) (U := U) (W₀ := []) (ρ₀ := argsAs [Str.ofString "one", Str.ofString "two"] [dSs one, dSs two]) (μ₀ := []) ok.room hH hU (fun b hb => nomatch hb) rfl (fun y b e => lookup_argsAs (.cons r1 (.cons r2 .nil)) rfl e) (fun b ds hm => nomatch hm) .nil hF ?_
  intro L s₁ hLU hLn hown hk S
  have hO : own (fd182 w.params) L = [L, L + 2, L + 1] := rfl
  have key : Ex ⟨prog, w, H, 1, some (callEnvC (fd182 w.params) L 182 :: outer), frOf outer, [L, L + 2, L + 1] ++ U, [L, L + 2, L + 1] ++ [], callEnvC (fd182 w.params) L 182, argsAs [Str.ofString "one", Str.ofString "two"] [dSs one, dSs two], []⟩ bd182 (fun f h => ∃ v, f = .ret v ∧ Rd U h v (.bool (bagsT one two))) := by
    delta bd182
    refine Ex.ownCopy (NameIs.boot T (m_list w) b_list) (Ev.var rfl) (by rw [List.length_map]; lia) rfl fun a1 h1 => ?_
    refine Ex.ownCopy (NameIs.boot T (m_list w) b_list) (Ev.var rfl) (by rw [List.length_map]; lia) rfl fun a2 h2 => ?_
    refine Ex.callDiff (one := one) (two := two) (outer := outer) T rfl rfl rfl (by decide) rfl (NameIs.glob T (g_unorderable_list_difference w)) (Nat.le_refl _) rfl rfl rfl (fun e he => ?_) z1 z2 ?_
    · rcases List.mem_cons.mp he with q | q
      · rw [q]; exact ⟨by show (fd182 w.params).scope.kind ≠ _; rw [show (fd182 w.params).scope.kind = .function from rfl]; decide, L, rfl⟩
      · exact hFn e q
    have len1 : ((one.map dS).length : Int) - 1 = (one.length : Int) - 1 := by rw [List.length_map]
    refine Ex.assignRange3 (a := (one.length : Int) - 1) (b := -1) (st := -1) (NameIs.boot T (m_range w) b_range) (len1 ▸ Ev.bin (Ev.callB (NameIs.boot T (m_len w) b_len) (.cons (Ev.var rfl) .nil) (c_len_list (by rw [List.length_map]; lia))) Ev.int op_sub_int) (Ev.neg Ev.int) (Ev.neg Ev.int) (by decide) (by decide) (.inl rfl) ?_
    have get1 : ∀ i, i < one.length → (one.map dS)[((i : Nat) : Int).toNat]? = some (dS (one.getD i [])) := fun i hi => by
      rw [Int.toNat_natCast, List.getElem?_map, List.getElem?_eq_getElem hi, List.getD_eq_getElem?_getD, List.getElem?_eq_getElem hi]; rfl
    have get2 : ∀ i, i < two.length → (two.map dS)[((i : Nat) : Int).toNat]? = some (dS (two.getD i [])) := fun i hi => by
      rw [Int.toNat_natCast, List.getElem?_map, List.getElem?_eq_getElem hi, List.getD_eq_getElem?_getD, List.getElem?_eq_getElem hi]; rfl
    have gt : ∀ a b : Nat, decide (b < a) = decide ((b : Int) < (a : Int)) := fun a b => by
      by_cases q : b < a
      · rw [decide_eq_true q, decide_eq_true (by lia)]
      · rw [decide_eq_false q, decide_eq_false (by lia)]
    have eL : (((backL one.length).filter fun i => decide (two.count (one.getD i []) < (one.drop i).count (one.getD i []))).map fun i => dS (one.getD i [])) = (lackT one two).map dS := by unfold lackT; rw [List.map_map]; rfl
    have eO : (((List.range two.length).filter fun i => decide (one.count (two.getD i []) < (two.take (i + 1)).count (two.getD i []))).map fun i => dS (two.getD i [])) = (overT one two).map dS := by unfold overT; rw [List.map_map]; rfl
    refine Ex.assignComp (as := backL one.length) (fun (i : Nat) => PyData.int (i : Int)) (cl := [(Str.ofString "two", L + 2), (Str.ofString "one", L + 1)]) (ρ₀ := [(Str.ofString "two", .dat (dSs two)), (Str.ofString "one", .dat (dSs one))])
      (fun i => [(Str.ofString "at", .dat (.int (i : Int))), (Str.ofString "two", .dat (dSs two)), (Str.ofString "one", .dat (dSs one))]) (fun i => decide (two.count (one.getD i []) < (one.drop i).count (one.getD i []))) (fun i => dS (one.getD i []))
      (Sees.two rfl rfl (by decide) (by decide) rfl rfl rfl rfl rfl rfl rfl rfl (Nat.ne_of_gt (Nat.lt_succ_self _))) (back_eq one.length ▸ IterOf.rng (n := one.length) rfl (range_small (by lia) (by lia) (by lia) (by lia) (.inr rfl)) ?_) (by unfold backL; rw [List.length_map, List.length_range]; lia) (fun i _ C D es => AsgL.name rfl) (fun _ _ => back_cons rfl) ?_ ?_ rfl ?_
    · unfold Builtin.Range.rangeSize
      simp only [show ¬ ((-1 : Int) > 0) by decide, if_false, Int.neg_neg, Int.ediv_one]
      split <;> lia
    · intro i hi C D es
      have hi' := back_mem hi
      rw [gt]
      refine TrIfs.one (Tr.cmp (Ev.count (l := one.drop i) ?_ (Ev.item (Ev.var rfl) (Ev.var rfl) (.list _) (op_item_list (by lia) (get1 i hi') (by rw [List.length_map]; lia)))) (Ev.count (l := two) (Ev.var rfl) (Ev.item (Ev.var rfl) (Ev.var rfl) (.list _) (op_item_list (by lia) (get1 i hi') (by rw [List.length_map]; lia)))) op_gt_int)
      show Ev _ _ (.list ((one.drop i).map dS))
      rw [List.map_drop]
      exact Ev.listFrom (Ev.var rfl) (Ev.var rfl) (by rw [List.length_map]; lia)
    · intro i hi _ C D es
      exact Ev.item (Ev.var rfl) (Ev.var rfl) (.list _) (op_item_list (by lia) (get1 i (back_mem hi)) (by rw [List.length_map]; lia))
    rw [eL]
    refine Ex.assignComp (as := List.range two.length) (fun (i : Nat) => PyData.int (i : Int)) (cl := [(Str.ofString "two", L + 2), (Str.ofString "one", L + 1)]) (ρ₀ := [(Str.ofString "two", .dat (dSs two)), (Str.ofString "one", .dat (dSs one))])
      (fun i => [(Str.ofString "at", .dat (.int (i : Int))), (Str.ofString "two", .dat (dSs two)), (Str.ofString "one", .dat (dSs one))]) (fun i => decide (one.count (two.getD i []) < (two.take (i + 1)).count (two.getD i []))) (fun i => dS (two.getD i []))
      (Sees.two rfl rfl (by decide) (by decide) rfl rfl rfl rfl rfl rfl rfl rfl (Nat.ne_of_gt (Nat.lt_succ_self _))) (IterOf.rangeN (n := two.length) (NameIs.boot T (m_range w) b_range) ?_ (by lia)) (by rw [List.length_range]; lia) (fun i _ C D es => AsgL.name rfl) (fun _ _ => back_cons rfl) ?_ ?_ rfl ?_
    · have e : ((two.length : Nat) : Int) = ((two.map dS).length : Int) := by rw [List.length_map]
      rw [e]
      exact Ev.callB (NameIs.boot T (m_len w) b_len) (.cons (Ev.var rfl) .nil) (c_len_list (by rw [List.length_map]; lia))
    · intro i hi C D es
      have hi' := List.mem_range.mp hi
      rw [gt]
      refine TrIfs.one (Tr.cmp (Ev.count (l := two.take (i + 1)) ?_ (Ev.item (Ev.var rfl) (Ev.var rfl) (.list _) (op_item_list (by lia) (get2 i hi') (by rw [List.length_map]; lia)))) (Ev.count (l := one) (Ev.var rfl) (Ev.item (Ev.var rfl) (Ev.var rfl) (.list _) (op_item_list (by lia) (get2 i hi') (by rw [List.length_map]; lia)))) op_gt_int)
      show Ev _ _ (.list ((two.take (i + 1)).map dS))
      rw [List.map_take]
      exact Ev.listTo (Ev.var rfl) (Ev.bin (Ev.var rfl) Ev.int (op_add_nat (b := 1))) (by rw [List.length_map]; lia)
    · intro i hi _ C D es
      exact Ev.item (Ev.var rfl) (Ev.var rfl) (.list _) (op_item_list (by lia) (get2 i (List.mem_range.mp hi)) (by rw [List.length_map]; lia))
    rw [eO]
    refine Ex.ret (d := .bool (bagsT one two)) (Ev.and ?_) fun g v S r => ?_
    · refine EvAnd.cons (Ev.cmp (Ev.var rfl) (Ev.tuple (.cons (Ev.var rfl) (.cons (Ev.var rfl) .nil))) (op_eq (shaped_two _ _ (Plain.diff p1 p2).1 (Plain.diff p1 p2).2) (shaped_two _ _ p1.lack p2.over) ?_)) fun _ => EvAnd.cons (Ev.cmp (Ev.var rfl) (Ev.list .nil) (op_eq (shaped_strs [] (fun t ht => nomatch ht)) (shaped_strs [] (fun t ht => nomatch ht)) rfl)) fun _ => EvAnd.one (Ev.cmp (Ev.var rfl) (Ev.var rfl) (op_eq (shaped_strs _ (Plain.diff p1 p2).2) (shaped_strs _ p2.over) (eqv_strs _ _)))
      show (PyData.eqvAll ((diffT one two).1.map dS) ((lackT one two).map dS) && (PyData.eqvAll ((diffT one two).2.map dS) ((overT one two).map dS) && true)) = _
      rw [eqv_strs, eqv_strs, Bool.and_true, Bool.decide_and]
    · cases r; exact ⟨_, rfl, .bool _⟩
  refine wpAny_mono (key (A.deeper _) s₁ (ok.deeperF _) S) (fun f s' g => ?_) fun _ _ q => q.elim
  obtain ⟨st, v, rfl, q⟩ := g
  refine ⟨((StepU.of_keeps (U := [L, L + 2, L + 1] ++ []) hk).tx st).less fun b hb => .inr (hown b (by rw [hO]; simpa using hb)), q⟩
end
end Mine
end
noncomputable section
open PySem PySem.Calls PySem.W PyProof.Rows
open AutoSeq1 (wpAny_loadPart')
set_option Elab.async false
set_option maxRecDepth 100000
set_option linter.unusedVariables false
namespace Mine

section
variable {prog : Program} {w : World} {A : Around} {E : Value → Shared → Prop} {s : Shared}
theorem nextOf_tuple_item {it l : Addr} {i : Nat} {items : Array Value} {x : Value} {Q : Value → Shared → Prop} (hit : s.heap.IsTupleIter it l i) (hl : s.heap.IsTuple l items) (hx : items[i]? = some x)
    (hQ : ∀ h', h'.IsTupleIter it l (i + 1) → Heap.SameBut it s.heap h' → Q x { s with heap := h' }) : wpAny (model prog w) A (Builtin.SmallTypes.nextOf (.ref it)) Q E s := by
  obtain ⟨o, ho, hc, hd⟩ := id hit
  obtain ⟨ol, hol, _, nl, hdl⟩ := hl
  unfold Builtin.SmallTypes.nextOf
  refine wpAny_bind (wpAny_callSpecial?_slot (name := Str.ofString "__next__") hit.typeIs F.slot_tuple_iterator_next (wpAny_call_entry F.slot_tuple_iterator_next hit.typeIs F.entry_tuple_iterator_next ?_ (F.args_tuple_iterator_next_1 _)))
  show wpAny _ _ (field (.ref it) 0 >>= _) _ _ s
  refine wpAny_bind (wpAny_field ho hd (x := .ref l) rfl ?_)
  show wpAny _ _ (if (Value.ref l == Value.none) = true then _ else _) _ _ s
  rw [if_neg (show ¬ ((Value.ref l == Value.none) = true) from Bool.false_ne_true)]
  show wpAny _ _ (field (.ref it) 1 >>= _) _ _ s
  refine wpAny_bind (wpAny_field ho hd (x := .int i 0) rfl ?_)
  show wpAny _ _ (seqItems? (.ref l) >>= _) _ _ s
  refine wpAny_bind (wpAny_seqItems hol hdl ?_)
  simp only [Int.toNat_natCast, hx]
  refine wpAny_bind (wpAny_setField ho hd (by simp) (wpAny_pure ⟨x, rfl, wpAny_pure (hQ _ ?_ (Heap.SameBut.update ..))⟩))
  exact ⟨_, Heap.get?_update_self _ ho (Obj.isFreed_of_fields (Obj.data_mapFields hd _)), (Obj.cls_mapFields ..).trans hc, by
    rw [Obj.data_mapFields hd]; simp [rawInt]⟩
theorem nextOf_tuple_end {it l : Addr} {i : Nat} {items : Array Value} {Q : Value → Shared → Prop} (hh : A.handled = none) (hit : s.heap.IsTupleIter it l i) (hl : s.heap.IsTuple l items) (hx : items[i]? = none)
    (hE : ∀ h' e, Heap.ExtBut it s.heap h' → (∃ o, h'.get? e = some o ∧ o.cls = .type "StopIteration") → E (.ref e) { s with heap := h' }) : wpAny (model prog w) A (Builtin.SmallTypes.nextOf (.ref it)) Q E s := by
  obtain ⟨o, ho, hc, hd⟩ := id hit
  obtain ⟨ol, hol, _, nl, hdl⟩ := hl
  unfold Builtin.SmallTypes.nextOf
  refine wpAny_bind (wpAny_callSpecial?_slot (name := Str.ofString "__next__") hit.typeIs F.slot_tuple_iterator_next (wpAny_call_entry F.slot_tuple_iterator_next hit.typeIs F.entry_tuple_iterator_next ?_ (F.args_tuple_iterator_next_1 _)))
  show wpAny _ _ (field (.ref it) 0 >>= _) _ _ s
  refine wpAny_bind (wpAny_field ho hd (x := .ref l) rfl ?_)
  show wpAny _ _ (if (Value.ref l == Value.none) = true then _ else _) _ _ s
  rw [if_neg (show ¬ ((Value.ref l == Value.none) = true) from Bool.false_ne_true)]
  show wpAny _ _ (field (.ref it) 1 >>= _) _ _ s
  refine wpAny_bind (wpAny_field ho hd (x := .int i 0) rfl ?_)
  show wpAny _ _ (seqItems? (.ref l) >>= _) _ _ s
  refine wpAny_bind (wpAny_seqItems hol hdl ?_)
  simp only [Int.toNat_natCast, hx]
  refine wpAny_bind (wpAny_rule (wpAny_bind (wpAny_setField ho hd (by simp) ?_)))
  show wpAny _ _ (newExc (.type "StopIteration") [] >>= _) _ _ _
  refine wpAny_bind ?_
  simp only [newExc, newTuple]
  refine wpAny_bind (wpAny_newObj_type ?_ (by size_fits))
  refine wpAny_bind (m := firstArgMember _ _) (wpAny_of_eq (a := Value.none) (by first | rfl | (simp only [firstArgMember]; rfl)) ?_)
  refine wpAny_newObj_type ?_ (by size_fits)
  simp only [raiseNew]
  refine wpAny_bind (wpAny_handled ?_)
  first | rw [show A.in1.handled = none from hh] | rw [hh]
  refine wpAny_bind (wpAny_pure (wpAny_throw ?_))
  exact hE _ _ (((Heap.SameBut.update ..).extBut.push _).push _) ⟨_, Heap.get?_push_size _ rfl, rfl⟩
end
theorem drawsTuple {prog : Program} {w : World} {A : Around} (hh : A.handled = none) (it l : Addr) (hne : l ≠ it) (items : Array Value) :
    Draws prog w A it [it, l] items.size (fun i v => items[i]? = some v) (fun i h => h.IsTupleIter it l i ∧ h.IsTuple l items) where
  live := fun _ _ st => let ⟨o, ho, _⟩ := st.1; ⟨o, ho⟩
  frame := fun _ _ _ st hk => ⟨let ⟨o, ho, r⟩ := st.1; ⟨o, hk it (by simp) o ho, r⟩, let ⟨o, ho, r⟩ := st.2; ⟨o, hk l (by simp) o ho, r⟩⟩
  item := fun i s Q E hi st hQ => by
    refine nextOf_tuple_item st.1 st.2 (x := items[i]) (by simp [hi]) fun h' hit' hs' => ?_
    exact hQ _ h' s.toks (by simp [hi]) ⟨hit', st.2.extBut hs'.extBut hne⟩ hs'
  done := fun s Q E st hE => nextOf_tuple_end hh st.1 st.2 (by simp) hE
set_option maxHeartbeats 1000000 in
theorem meets_enumerate_newT (l : Addr) (items : Array Value) (n : Nat) (dct : Option Addr) (sl : Array (Option Value)) :
    Meets (Builtin.«enumerate.__new__» ⟨[.type "enumerate", .ref l], []⟩) (fun _ R s => s.heap.get? l = some { cls := .type "tuple", dict := dct, data := .seq items n, slots := sl } ∧
      R (.ok (.ret (.ref (s.heap.push { cls := .type "tuple_iterator", data := .fields #[.ref l, .int 0 0] }).objs.size)))
        { s with heap := (s.heap.push { cls := .type "tuple_iterator", data := .fields #[.ref l, .int 0 0] }).push { cls := .type "enumerate", data := .fields #[.none, .bool false, .ref s.heap.objs.size, rawInt 0, .none, .none] } }) :=
  .of_wp fun prog w A R s h => by
    obtain ⟨hp, g, d, tk, os⟩ := s; obtain ⟨hl, h⟩ := h
    have hsub := sub_enumerate
    have hL : Heap.IsTuple (Shared.heap ⟨hp, g, d, tk, os⟩) l items := ⟨_, hl, rfl, n, rfl⟩
    wp_walk using wpAny_loadPart' hl
    refine wpAny_stack_any fun st => wpAny_pure ?_
    split
    · rename_i c _ _ _ _ _
      cases (c == Value.type "enumerate")
      · wp_walk using wpAny_loadPart' hl, wpAny_pyIter_tuple hL
        exact ⟨_, rfl, h⟩
      · wp_walk using wpAny_loadPart' hl, wpAny_pyIter_tuple hL
        exact ⟨_, rfl, h⟩
    · wp_walk using wpAny_loadPart' hl, wpAny_pyIter_tuple hL
      exact ⟨_, rfl, h⟩
theorem call_enumerate_tuple {prog : Program} {w : World} {A : Around} {E : Value → Shared → Prop} {s : Shared} {l : Addr} {items : Array Value} {Q : Value → Shared → Prop} (hL : s.heap.IsTuple l items)
    (h : ∀ h', IsEnum h' (s.heap.objs.size + 1) s.heap.objs.size 0 .none → h'.IsTupleIter s.heap.objs.size l 0 → h'.objs.size = s.heap.objs.size + 2 → Le s.heap h' → Q (.ref (s.heap.objs.size + 1)) { s with heap := h' }) :
    wpAny (model prog w) A (call (.type "enumerate") [.ref l]) Q E s := by
  obtain ⟨⟨c, dct, dt, sl⟩, hl, hc, n, hd⟩ := hL
  replace hc : c = .type "tuple" := hc
  replace hd : dt = .seq items n := hd
  subst hc hd
  refine callType_new F.called_enumerate (by decide) (F.typeCall_enumerate_1 _) (F.newCall_enumerate_1 _) (fun obj => F.args_object_init_2 obj _) F.entry_enumerate_new (meets_enumerate_newT l items n dct sl) ⟨hl, ?_⟩
  have hz : (s.heap.push { cls := .type "tuple_iterator", data := .fields #[.ref l, .int 0 0] }).objs.size = s.heap.objs.size + 1 := Heap.size_push ..
  show _ ∧ _
  rw [hz]
  have he : IsEnum ((s.heap.push { cls := .type "tuple_iterator", data := .fields #[.ref l, .int 0 0] }).push { cls := .type "enumerate", data := .fields #[.none, .bool false, .ref s.heap.objs.size, rawInt 0, .none, .none] }) (s.heap.objs.size + 1) s.heap.objs.size 0 .none := by
    have := Heap.get?_push_size (s.heap.push { cls := .type "tuple_iterator", data := .fields #[.ref l, .int 0 0] }) (o := { cls := .type "enumerate", data := .fields #[.none, .bool false, .ref s.heap.objs.size, rawInt 0, .none, .none] }) rfl
    rw [hz] at this; exact this
  exact ⟨⟨_, he, rfl⟩, h _ he ⟨_, Heap.get?_push_of_some _ (Heap.get?_push_size _ rfl), rfl, rfl⟩ (by rw [Heap.size_push, hz]) fun b o x => Heap.get?_push_of_some _ (Heap.get?_push_of_some _ x)⟩
end Mine
end
noncomputable section
open PySem PySem.Calls PySem.W PyProof.Rows
set_option Elab.async false
set_option maxRecDepth 100000
set_option linter.unusedVariables false
namespace Mine

/-- things that are no data and not the frame's may change -/
theorem St.offL {F : List Addr} {H : Heap} {U W : List Addr} {env : Env} {ρ : Rho} {μ : List (Addr × List PyData)} {h h' : Heap} (S : St F H U W env ρ μ h) {Is : List Addr} (hIs : ∀ I ∈ Is, I ∉ U ∧ H.get? I = none ∧ ∃ o vs, h.get? I = some o ∧ o.data = .fields vs ∧ o.cls ≠ .type "range")
    (hk : ∀ b o, b ∉ Is → h.get? b = some o → h'.get? b = some o) : St F H U W env ρ μ h' := by
  have hU : ∀ a ∈ U, a ∉ Is := fun a ha q => (hIs a q).1 ha
  have nd : ∀ {b : Addr} {o : Obj}, h.get? b = some o → (∀ vs, o.data ≠ .fields vs) → b ∉ Is := fun {b o} e hd m => by
    obtain ⟨_, _, o', vs, e', d, _⟩ := hIs b m
    rw [e] at e'; cases e'; exact hd vs d
  have rd : ∀ {v : Value} {d : PyData}, Rd U h v d → Rd U h' v d := fun {v d} r => by
    have aux : ∀ (v : Value) (d : PyData), Rd U h v d → Rd (Is ++ U) h v d := by
      intro v d
      refine fun r => ?_
      have go : ∀ {Js : List Addr}, (∀ I ∈ Js, I ∈ Is) → Rd (Js ++ U) h v d := by
        intro Js
        induction Js with
        | nil => intro _; exact r
        | cons J Js ih =>
          intro hJ
          obtain ⟨_, _, o', vs, e', dd, _⟩ := hIs J (hJ J (.head _))
          exact Rd.offI e' (.fields dd) (ih fun I hI => hJ I (.tail _ hI))
      exact go fun I hI => hI
    exact Rd.frame (U := Is ++ U) (fun b o hb e => ⟨fun m => hb (List.mem_append_right _ m), hk b o (fun m => hb (List.mem_append_left _ m)) e⟩) (aux v d r)
  have rdl : ∀ {vs : List Value} {ds : List PyData}, RdL U h vs ds → RdL U h' vs ds := by
    intro vs
    induction vs with
    | nil => intro ds r; cases r; exact .nil
    | cons v vs ih => intro ds r; cases r with | cons p r => exact .cons (rd p) (ih r)
  have ns : ∀ {m : Str → Option Value}, h.Ns env.locals m → h'.Ns env.locals m := fun {m} n => by
    obtain ⟨o', es, ep, ho', hd', r⟩ := n
    exact ⟨o', es, ep, hk env.locals o' (hU _ S.loc) ho', hd', r⟩
  have cel : ∀ {a : Addr} {w : Option Value}, h.IsCell a w → h'.IsCell a w := fun {a w} n => by
    obtain ⟨o', ho', hd'⟩ := n
    exact ⟨o', hk a o' (nd ho' fun vs q => by rw [hd'] at q; cases q) ho', hd'⟩
  exact {
    base := fun a o' e => hk a o' (fun q => by have := (hIs a q).2.1; rw [e] at this; cases this) (S.base a o' e)
    offs := fun a ha => ⟨let ⟨o', e⟩ := (S.offs a ha).1; ⟨o', hk a o' (hU a ha) e⟩, (S.offs a ha).2⟩
    kind := S.kind
    globals := S.globals
    builtins := S.builtins
    subW := S.subW
    locW := S.locW
    ns := let ⟨m, n⟩ := S.ns; ⟨m, ns n⟩
    cells := fun y a hm => let ⟨i, e, w, j⟩ := S.cells y a hm; ⟨i, e, w, cel j⟩
    apart := S.apart
    vars := fun y b e => by
      obtain ⟨u, q, r⟩ := S.vars y b e
      refine ⟨u, ?_, ?_⟩
      · rcases q with ⟨q, m₁, n₁, e₁⟩ | ⟨q, a, l, i⟩
        · exact .inl ⟨q, m₁, ns n₁, e₁⟩
        · exact .inr ⟨q, a, l, cel i⟩
      · cases b with
        | dat d => exact rd r
        | val w => exact r
        | rng a b k =>
          obtain ⟨i, t, u, w, e, n, g⟩ := r
          refine ⟨i, t, u, w, e, n, hk _ _ (fun q => ?_) g⟩
          obtain ⟨_, _, o', vs, e', dd, hc⟩ := hIs i q
          have g' : h.get? i = some _ := g
          rw [e'] at g'; cases g'; exact hc rfl
    mutsW := fun a ds hm => let ⟨i, vs, n, g, r⟩ := S.mutsW a ds hm; ⟨i, vs, n, hk a _ (hU a (S.subW a i)) g, rdl r⟩
    mapart := S.mapart
    frs := fun a ha => ⟨(S.frs a ha).1, (S.frs a ha).2.at fun o e => hk a o (hU a (S.frs a ha).1) e⟩ }

section
variable {c : Cx} {A : Around} {s s₁ s₂ : Shared} {v : Value} {d : PyData} {e : Expr} {pos p : Pos} {ds : List PyData} {Q : Flow → Heap → Prop} {rest : List Stmt} {x y : Str}
theorem Ex.brk {p : Pos} (h : ∀ g, c.S g → Q .brk g) : Ex c (.Break p :: rest) Q := fun A s ok S => wpAny_execs_cons (by
  show wpAny _ _ (exec (.Break p) c.env) _ _ s
  exact wpAny_bind (wpAny_standAt (wpAny_pure ⟨.refl _ _, h _ S⟩)))

/-- for x, y in enumerate(e): over a tuple -/
theorem Ex.forEnum {σ : Type} {body : List Stmt} {np xp yp tp : Pos} {k : Nat} (ρ : σ → Rho) (ρb : σ → Nat → PyData → Rho) (μ : σ → List (Addr × List PyData)) (Inv : Nat → σ → Prop) (x₀ : σ) (hn : NameIs c (Str.ofString "enumerate") (.type "enumerate")) (he : Ev c e (.tuple ds))
    (h0 : ∀ g, c.S g → (c.at (ρ x₀) (μ x₀)).S g) (hi : Inv 0 x₀) (hx : c.env.kindOf x = some .local) (hy : c.env.kindOf y = some .local)
    (hρb : ∀ z i d, ρb z i d = (y, .dat d) :: (x, .dat (.int (i : Int))) :: ρ z)
    (hb : ∀ i z d, ds[i]? = some d → Inv i z → Ex (c.at (ρb z i d) (μ z)) body (fun f g => match f with
      | .next | .cont => ∃ z', Inv (i + 1) z' ∧ (c.at (ρ z') (μ z')).S g
      | .brk => False
      | .ret v => Q (.ret v) g))
    (hr : ∀ z, Inv ds.length z → Ex (c.at (ρ z) (μ z)) rest Q)
    (hse : starEach [e] c.env = [(false, eval e c.env)] := by rfl) (hae : assignEach [.Name x xp, .Name y yp] c.env = [(false, PySem.assign (.Name x xp) c.env), (false, PySem.assign (.Name y yp) c.env)] := by rfl)
    (hs : ∀ z, foldedSetIterable (.Call (.Name (Str.ofString "enumerate") np) [e] [] pos) c.env z = pure z := by intro _; rfl) :
    Ex c (.For (.Tuple [.Name x xp, .Name y yp] k tp) (.Call (.Name (Str.ofString "enumerate") np) [e] [] pos) body [] p :: rest) Q := fun A s ok S => by
  refine wpAny_execs_cons (wpAny_For ?_ hs)
  refine wpAny_Call_NameR (hn A s np _ _ S (PySem.callWith_type (starEach_plain (by rw [hse]; rfl) pos) (args_of (wp_of (Evs.cons he .nil (by rw [hse]; rfl) A s ok S) fun vs s₁ g₁ => ?_) (by rw [hse]; rfl))))
  cases g₁.2 with | cons r r' => cases r' with | nil => cases r with | @tuple l ws nn _ hlU hg q =>
  have S₁ := S.up g₁.1
  have hl : s₁.heap.IsTuple l ws.toArray := ⟨_, hg, rfl, nn, rfl⟩
  have hlt : l < s₁.heap.objs.size := Heap.lt_size hg
  refine call_enumerate_tuple hl fun h₂ hen hit hsz hk => ?_
  refine wpAny_pyIter_enum hen ?_
  generalize hI : s₁.heap.objs.size = I at *
  have S₂ : c.S h₂ := St.up S₁ hk
  have hIn : s₁.heap.get? I = none := none_of_le (Nat.le_of_eq hI)
  have hEn : s₁.heap.get? (I + 1) = none := none_of_le (Nat.le_succ_of_le (Nat.le_of_eq hI))
  have old : ∀ b o, s.heap.get? b = some o → h₂.get? b = some o ∧ b ≠ I ∧ b ≠ I + 1 := fun b o e => by
    have e₁ := keeps_le g₁.1 b o e
    exact ⟨hk b o e₁, (fun z => by rw [z, hIn] at e₁; cases e₁), (fun z => by rw [z, hEn] at e₁; cases e₁)⟩
  have inU : ∀ a ∈ c.U, a ≠ I ∧ a ≠ I + 1 := fun a ha => by
    obtain ⟨o, e⟩ := (S₁.offs a ha).1
    exact ⟨(fun z => by rw [z, hIn] at e; cases e), (fun z => by rw [z, hEn] at e; cases e)⟩
  have lI : l ≠ I := Nat.ne_of_lt hlt
  have lE : l ≠ I + 1 := Nat.ne_of_lt (Nat.lt_succ_of_lt hlt)
  have W := WalksT.enumerateD (prog := c.prog) (w := c.w) (A := A) (drawsTuple (A := A.in1) ok.handled I l lI ws.toArray) (I + 1) (Nat.succ_ne_self I) (by simp [lE.symm]) (by simp)
  have hlen : ws.toArray.size = ds.length := by rw [List.size_toArray, q.length]
  rw [hlen] at W
  have HI : c.H.get? I = none := size_le S₁.base (Nat.le_of_eq hI)
  have HE : c.H.get? (I + 1) = none := size_le S₁.base (Nat.le_succ_of_le (Nat.le_of_eq hI))
  have offs : ∀ i h, ((∃ old, IsEnum h (I + 1) I (i : Nat) old) ∧ h.IsTupleIter I l i ∧ h.IsTuple l ws.toArray) → ∀ J ∈ [I + 1, I], J ∉ c.U ∧ c.H.get? J = none ∧ ∃ o vs, h.get? J = some o ∧ o.data = .fields vs ∧ o.cls ≠ .type "range" := fun i h st J hJ => by
    obtain ⟨⟨old, h1⟩, ⟨o, h2, h3, h4⟩, _⟩ := st
    rcases List.mem_cons.mp hJ with z | z
    · rw [z]; exact ⟨fun m => (inU _ m).2 rfl, HE, _, _, h1, rfl, by show Value.type "enumerate" ≠ _; decide⟩
    · rw [List.mem_singleton.mp z]; exact ⟨fun m => (inU _ m).1 rfl, HI, o, _, h2, h4, by rw [h3]; decide⟩
  have hst0 : (∃ old, IsEnum h₂ (I + 1) I ((0 : Nat) : Int) old) ∧ h₂.IsTupleIter I l 0 ∧ h₂.IsTuple l ws.toArray := ⟨⟨_, hen⟩, hit, ⟨_, hk _ _ hg, rfl, nn, rfl⟩⟩
  refine codeAny_forLoop_any (fun n s' => ∃ i z, i ≤ ds.length ∧ n = ds.length + 1 - i ∧ Inv i z ∧ (c.at (ρ z) (μ z)).S s'.heap ∧ ((∃ old, IsEnum s'.heap (I + 1) I (i : Nat) old) ∧ s'.heap.IsTupleIter I l i ∧ s'.heap.IsTuple l ws.toArray) ∧ StepX (I :: (I + 1) :: c.W) c.F { s₁ with heap := h₂ } s')
    (fun n s' hI' => ?_) (ds.length + 1) ⟨0, x₀, Nat.zero_le _, rfl, hi, h0 _ S₂, hst0, .refl _ _⟩
  obtain ⟨i, z, hil, rfl, hz, Sz, hst, hstep⟩ := hI'
  have toS : ∀ s'' : Shared, StepX (I :: (I + 1) :: c.W) c.F { s₁ with heap := h₂ } s'' → StepX c.W c.F s s'' := fun s'' st => by
    have h1 : StepX (I :: (I + 1) :: c.W) c.F s { s₁ with heap := h₂ } := by
      obtain ⟨h₁, t₁, rfl, k₁⟩ := g₁.1
      exact ⟨h₂, t₁, rfl, fun b o _ e => ⟨o, (old b o e).1, .inl rfl⟩⟩
    refine (h1.trans st).less fun a ha => ?_
    rcases List.mem_cons.mp ha with r | ha
    · rw [r]
      cases qq : s.heap.get? I with
      | none => exact .inr rfl
      | some o => exact ((old I o qq).2.1 rfl).elim
    · rcases List.mem_cons.mp ha with r | ha
      · rw [r]
        cases qq : s.heap.get? (I + 1) with
        | none => exact .inr rfl
        | some o => exact ((old _ o qq).2.2 rfl).elim
      · exact .inl ha
  have wr2 : ∀ {b : Addr}, b ∉ I :: (I + 1) :: c.W → b ∉ [I + 1, I] := fun {b} hb m => by
    rcases List.mem_cons.mp m with r | r
    · exact hb (r ▸ .tail _ (.head _))
    · exact hb (List.mem_singleton.mp r ▸ .head _)
  by_cases hlt : i < ds.length
  · refine W.item i s' _ _ hlt hst fun T vals h₁' tk₁ hPt hT hTup hMid hk₁ => ?_
    obtain ⟨tt, xv, hxv, rfl⟩ := hPt
    obtain ⟨d', hd', hrd⟩ := q.get' (i := i) (v := xv) (by simpa using hxv)
    refine W.go _ k tp i T { s' with heap := h₁', toks := tk₁ } _ _ hMid fun h₂' hst₂ hk₂ => ?_
    have hT2 : h₂'.IsTuple T #[.int i tt, xv] := by
      obtain ⟨o, ho, r⟩ := hTup
      exact ⟨o, hk₂ T o (W.apart i T _ hMid) ho, r⟩
    have keep : ∀ b o, b ∉ [I + 1, I] → s'.heap.get? b = some o → h₂'.get? b = some o := fun b o hb e => hk₂ b o hb (hk₁ b o hb e)
    have S₃ : (c.at (ρ z) (μ z)).S h₂' := St.offL Sz (Is := [I + 1, I]) (offs i _ hst) keep
    have st₃ : StepX (I :: (I + 1) :: c.W) c.F s' { s' with heap := h₂', toks := tk₁ } := ⟨h₂', tk₁, rfl, fun b o hb e => ⟨o, keep b o (wr2 hb) e, .inl rfl⟩⟩
    have hrd₃ : Rd c.U h₂' xv d' := by
      obtain ⟨o1, v1, e1, d1, _⟩ := (offs 0 _ hst0 (I + 1) (.head _)).2.2
      obtain ⟨o2, v2, e2, d2, _⟩ := (offs 0 _ hst0 I (.tail _ (.head _))).2.2
      have r2 : Rd (I :: (I + 1) :: c.U) h₂ xv d' := Rd.offI e2 (.fields d2) (Rd.offI e1 (.fields d1) (hrd.up hk))
      refine Rd.frame (U := I :: (I + 1) :: c.U) (fun b o hb e => ⟨fun m => hb (.tail _ (.tail _ m)), ?_⟩) r2
      have hbI : b ∉ [I + 1, I] := fun m => hb (by rcases List.mem_cons.mp m with r | r; exact r ▸ .tail _ (.head _); exact List.mem_singleton.mp r ▸ .head _)
      refine keep b o hbI (hstep.at (fun m => ?_) (fun m => ?_) e)
      · rcases List.mem_cons.mp m with r | m
        · exact hb (r ▸ .head _)
        · rcases List.mem_cons.mp m with r | m
          · exact hb (r ▸ .tail _ (.head _))
          · exact hb (.tail _ (.tail _ (S.subW _ m)))
      · exact hb (.tail _ (.tail _ (S.frs b m).1))
    refine wpAny_assign_Tuple ok.handled hT2 (by rw [hae]; rfl) (by rw [hae]; rfl) fun h₃ hh => ?_
    rw [hae]
    refine wp_of (two_go (c := c.at (ρ z) (μ z)) (s := { s' with heap := h₂', toks := tk₁ }) (d₁ := .int (i : Int)) (d₂ := d') hx hy S₃ h₃ hh (.int _ _) hrd₃) fun _ s₄ g₄ => ?_
    have g₄' : (c.at (ρb z i d') (μ z)).S s₄.heap := by rw [hρb]; exact g₄.2
    have st₄ : StepX (I :: (I + 1) :: c.W) c.F { s₁ with heap := h₂ } s₄ := hstep.trans (st₃.trans ((g₄.1.less fun a ha => .inl (by rw [List.mem_singleton.mp ha]; exact .tail _ (.tail _ S.locW))).x))
    refine wp_of (hb i z d' hd' hz A s₄ ok g₄') fun f s₅ g₅ => ?_
    have st₅ : StepX (I :: (I + 1) :: c.W) c.F { s₁ with heap := h₂ } s₅ := st₄.trans (g₅.1.less fun a ha => .inl (.tail _ (.tail _ ha)))
    have offF : ∀ b ∈ (I + 1) :: [I, l], b ∉ c.W ∧ b ∉ c.F := fun b hb => by
      have hbU : b ∉ c.U := by
        rcases List.mem_cons.mp hb with r | hb
        · rw [r]; exact fun m => (inU _ m).2 rfl
        · rcases List.mem_cons.mp hb with r | hb
          · rw [r]; exact fun m => (inU _ m).1 rfl
          · rw [List.mem_singleton.mp hb]; exact hlU
      exact ⟨fun m => hbU (S.subW _ m), fun m => hbU (S.frs b m).1⟩
    have hst₅ := W.frame _ _ s₅.heap hst₂ fun b hb o e => by
      obtain ⟨n1, n2⟩ := offF b hb
      have e4 : s₄.heap.get? b = some o := g₄.1.at (fun m => n1 (by rw [List.mem_singleton.mp m]; exact S.locW)) e
      exact g₅.1.at n1 n2 e4
    have next : (∃ z', Inv (i + 1) z' ∧ (c.at (ρ z') (μ z')).S s₅.heap) → ∃ m, m < ds.length + 1 - i ∧ ∃ i' z', i' ≤ ds.length ∧ m = ds.length + 1 - i' ∧ Inv i' z' ∧ (c.at (ρ z') (μ z')).S s₅.heap ∧ ((∃ old, IsEnum s₅.heap (I + 1) I (i' : Nat) old) ∧ s₅.heap.IsTupleIter I l i' ∧ s₅.heap.IsTuple l ws.toArray) ∧ StepX (I :: (I + 1) :: c.W) c.F { s₁ with heap := h₂ } s₅ := fun ⟨z', hz', Sz'⟩ =>
      ⟨ds.length + 1 - (i + 1), by omega, i + 1, z', hlt, rfl, hz', Sz', hst₅, st₅⟩
    cases f with
    | next => exact next g₅.2
    | cont => exact next g₅.2
    | brk => exact g₅.2.elim
    | ret w => exact ⟨toS s₅ st₅, g₅.2⟩
  · obtain rfl : i = ds.length := by omega
    refine W.done s' _ _ hst fun h₁' tk₁ hk₁ => ?_
    have S₃ : (c.at (ρ z) (μ z)).S h₁' := St.offL Sz (Is := [I + 1, I]) (offs _ _ hst) hk₁
    have st₃ : StepX (I :: (I + 1) :: c.W) c.F s' { s' with heap := h₁', toks := tk₁ } := ⟨h₁', tk₁, rfl, fun b o hb e => ⟨o, hk₁ b o (wr2 hb) e, .inl rfl⟩⟩
    refine wpAny_execs_nil ?_
    exact wp_of (hr z hz A { s' with heap := h₁', toks := tk₁ } ok S₃) fun f s₅ g₅ => ⟨(toS _ (hstep.trans st₃)).trans g₅.1, g₅.2⟩
end
end Mine
end
noncomputable section
open PySem PySem.Calls PySem.W PyProof.Rows
set_option Elab.async false
set_option maxRecDepth 100000
set_option linter.unusedVariables false
namespace Mine

/-- the table of filemode -/
def tabT : List (List (Nat × Nat)) := [[(40960, 108), (49152, 115), (32768, 45), (24576, 98), (16384, 100), (8192, 99), (4096, 112)], [(256, 114)], [(128, 119)], [(2112, 115), (2048, 83), (64, 120)], [(32, 114)], [(16, 119)], [(1032, 115), (1024, 83), (8, 120)], [(4, 114)], [(2, 119)], [(513, 116), (512, 84), (1, 120)]]
def dEnt (e : Nat × Nat) : PyData := .tuple [.int (e.1 : Int), dS [e.2]]
def dTab (r : List (Nat × Nat)) : PyData := .tuple (r.map dEnt)
def hitT (i : Nat) (m : Int) (b : Nat) : Bool := if i = 0 then Builtin.bitAnd m 61440 == (b : Int) else Builtin.bitAnd m (b : Int) == (b : Int)
def pickT (i : Nat) (m : Int) (r : List (Nat × Nat)) : Nat := match r.find? (fun e => hitT i m e.1) with
  | some e => e.2
  | none => if i = 0 then 63 else 45
def fileT (m : Int) : Tx := (List.range 10).map fun i => pickT i m (tabT.getD i [])

theorem Ev.globD {c : Cx} {x : Str} {v : Value} {d : PyData} {pos : Pos} (h : NameIs c x v) (hr : ∀ s : Shared, c.S s.heap → Rd c.U s.heap v d) : Ev c (.Name x pos) d := fun A s ok S => h A s pos _ _ S (Got.here (hr s S))
section
variable {prog : Program} {w : World} {H : Heap}
theorem tab_rd (T : Wd (KK w) H) {U : List Addr} {h : Heap} (k : Le H h) (hU : ∀ a ∈ U, H.get? a = none) : Rd U h (.ref 103) (.tuple (tabT.map dTab)) := by
  have off : ∀ {a : Addr} {o : Obj}, List.lookup a (KK w) = some o → a ∉ U := fun {a o} e m => by have := T.k _ _ e; rw [hU a m] at this; cases this
  have pr : ∀ {a : Addr} {x : Int} {y : Nat} {s : Str} {t u : Tok}, List.lookup a (KK w) = some (tu [.int x t, .str s u] 0) → s = mk [y] → Rd U h (.ref a) (.tuple [.int x, dS [y]]) := fun {a x y s t u} e es => by
    subst es
    exact .tuple (off e) (k _ _ (T.k _ _ e)) (.cons (.int _ _) (.cons (.str _ _) .nil))
  have row : ∀ {a : Addr} {vs : List Value} {ds : List PyData}, List.lookup a (KK w) = some (tu vs 0) → RdL U h vs ds → Rd U h (.ref a) (.tuple ds) := fun {a vs ds} e r => .tuple (off e) (k _ _ (T.k _ _ e)) r
  refine row (a := 103) (id rfl) ?_
  refine .cons (row (id rfl) (.cons (pr (id rfl) (by decide +kernel)) (.cons (pr (id rfl) (by decide +kernel)) (.cons (pr (id rfl) (by decide +kernel)) (.cons (pr (id rfl) (by decide +kernel)) (.cons (pr (id rfl) (by decide +kernel)) (.cons (pr (id rfl) (by decide +kernel)) (.cons (pr (id rfl) (by decide +kernel)) .nil)))))))) ?_
  refine .cons (row (id rfl) (.cons (pr (id rfl) (by decide +kernel)) .nil)) (.cons (row (id rfl) (.cons (pr (id rfl) (by decide +kernel)) .nil)) ?_)
  refine .cons (row (id rfl) (.cons (pr (id rfl) (by decide +kernel)) (.cons (pr (id rfl) (by decide +kernel)) (.cons (pr (id rfl) (by decide +kernel)) .nil)))) ?_
  refine .cons (row (id rfl) (.cons (pr (id rfl) (by decide +kernel)) .nil)) (.cons (row (id rfl) (.cons (pr (id rfl) (by decide +kernel)) .nil)) ?_)
  refine .cons (row (id rfl) (.cons (pr (id rfl) (by decide +kernel)) (.cons (pr (id rfl) (by decide +kernel)) (.cons (pr (id rfl) (by decide +kernel)) .nil)))) ?_
  refine .cons (row (id rfl) (.cons (pr (id rfl) (by decide +kernel)) .nil)) (.cons (row (id rfl) (.cons (pr (id rfl) (by decide +kernel)) .nil)) ?_)
  exact .cons (row (id rfl) (.cons (pr (id rfl) (by decide +kernel)) (.cons (pr (id rfl) (by decide +kernel)) (.cons (pr (id rfl) (by decide +kernel)) .nil)))) .nil

theorem file_fn (T : Wd (KK w) H) (m : Int) : Fn prog w H 2 110 [.int m] (dS (fileT m)) := by
  refine in110 T rfl fun L U hLU => ?_
  delta bd110
  refine Ex.newOwn .nil (by simp) (.inl rfl) fun a ha => ?_
  refine Ex.forEnum (σ := Tx) (ds := tabT.map dTab) (fun _ => [(Str.ofString "perm", .val (.ref a)), (Str.ofString "mode", .dat (.int m))]) (fun _ i d => [(Str.ofString "table", .dat d), (Str.ofString "index", .dat (.int (i : Int))), (Str.ofString "perm", .val (.ref a)), (Str.ofString "mode", .dat (.int m))]) (fun x => [(a, (x.map fun n => [n]).map dS)])
    (fun i x => x = (List.range i).map fun j => pickT j m (tabT.getD j [])) [] (NameIs.boot T (m_enumerate w) b_enumerate) (Ev.globD (NameIs.glob T (g_filemode_table w)) fun s S => tab_rd T S.base fun b hb => (S.offs b hb).2) (fun g S => S.to ⟨rfl, rfl, trivial⟩) rfl rfl rfl (fun _ _ _ => rfl) ?_ ?_
  · intro i acc d hd hacc
    rw [List.getElem?_map] at hd
    obtain ⟨row, hrow, rfl⟩ := Option.map_eq_some_iff.mp hd
    have hi : i < 10 := (List.getElem?_eq_some_iff.mp hrow).1
    have hrd : tabT.getD i [] = row := by rw [List.getD_eq_getElem?_getD, hrow]; rfl
    have hrl : row.length ≤ 10 := by
      have : ∀ r ∈ tabT, r.length ≤ 10 := by decide
      exact this row (List.mem_of_getElem? hrow)
    have hal : acc.length = i := by rw [hacc]; simp
    have i0 : ((i : Int) == 0) = decide (i = 0) := by
      by_cases z : i = 0
      · subst z; rfl
      · rw [decide_eq_false z]; simp; lia
    have fin : ∀ n, n = pickT i m row → acc ++ [n] = (List.range (i + 1)).map fun j => pickT j m (tabT.getD j []) := fun n hn => by
      rw [List.range_succ, List.map_append, ← hacc, hn, ← hrd]; rfl
    refine Ex.forElse (σ := Tx) (ds := row.map dEnt) (fun _ => [(Str.ofString "index", .dat (.int (i : Int))), (Str.ofString "perm", .val (.ref a)), (Str.ofString "mode", .dat (.int m))])
      (fun _ d => match d with
        | .tuple [x, y] => [(Str.ofString "char", .dat y), (Str.ofString "bit", .dat x), (Str.ofString "index", .dat (.int (i : Int))), (Str.ofString "perm", .val (.ref a)), (Str.ofString "mode", .dat (.int m))]
        | _ => []) (fun x => [(a, (x.map fun n => [n]).map dS)])
      (fun j x => x = acc ∧ ∀ e ∈ row.take j, hitT i m e.1 = false) (fun x => x = acc ++ [pickT i m row]) acc (IterOf.tuple (Ev.var rfl)) (fun g S => S.to ⟨rfl, rfl, rfl, trivial⟩) ⟨rfl, fun e he => by simp at he⟩ ?_ ?_ ?_ ?_
    · intro j x d hd hx
      rw [List.getElem?_map] at hd
      obtain ⟨e, he, rfl⟩ := Option.map_eq_some_iff.mp hd
      exact (AsgL.pair rfl rfl).asg
    · rintro j x d hd ⟨rfl, hno⟩
      rw [List.getElem?_map] at hd
      obtain ⟨e, he, rfl⟩ := Option.map_eq_some_iff.mp hd
      have hit : hitT i m e.1 = true → e.2 = pickT i m row := fun h => by
        unfold pickT
        have : row.find? (fun e => hitT i m e.1) = some e := by
          rw [List.find?_eq_some_iff_append]
          refine ⟨h, row.take j, row.drop (j + 1), ?_, fun b hb => by rw [hno b hb]; rfl⟩
          obtain ⟨hjl, hje⟩ := List.getElem?_eq_some_iff.mp he
          rw [← hje, ← List.drop_eq_getElem_cons hjl, List.take_append_drop]
        rw [this]
      have miss : hitT i m e.1 = false → ∀ b ∈ row.take (j + 1), hitT i m b.1 = false := fun h b hb => by
        rw [List.take_add_one, he] at hb
        rcases List.mem_append.mp hb with q | q
        · exact hno b q
        · rw [List.mem_singleton.mp q]; exact h
      have put : ∀ {c : Cx} {ap np cp p1 pos pb : Pos}, True := trivial
      refine Ex.ifElse (b := decide (i = 0)) (by rw [← i0]; exact Tr.cmp (Ev.var rfl) Ev.int op_eq_int) (fun h => ?_) (fun h => ?_)
      · have hi0 : i = 0 := of_decide_eq_true h
        refine Ex.ifElse (b := hitT i m e.1) (by unfold hitT; rw [if_pos hi0]; exact Tr.cmp (Ev.callF (NameIs.glob T (g_S_IFMT w)) (.cons (Ev.var rfl) .nil) ((ifmt_fn T m).callD (Nat.le_refl _)) (T.k _ _ (id rfl)) rfl) (Ev.var rfl) op_eq_int) (fun h => ?_) (fun h => Ex.nil fun g S => ⟨_, ⟨rfl, miss h⟩, S.to ⟨rfl, rfl, rfl, trivial⟩⟩)
        refine Ex.append rfl rfl (Ev.var rfl) (by simp; lia) (Ex.brk fun g S => ⟨x ++ [e.2], by rw [hit h], ?_⟩)
        have e2 : ((x ++ [e.2]).map fun n => [n]).map dS = (x.map fun n => [n]).map dS ++ [dS [e.2]] := by simp
        show Cx.S _ g
        rw [e2]
        exact S.to ⟨rfl, rfl, rfl, trivial⟩
      · have hi0 : ¬i = 0 := of_decide_eq_false h
        refine Ex.ifElse (b := hitT i m e.1) (by unfold hitT; rw [if_neg hi0]; exact Tr.cmp (Ev.bin (Ev.var rfl) (Ev.var rfl) op_and_int) (Ev.var rfl) op_eq_int) (fun h => ?_) (fun h => Ex.nil fun g S => ⟨_, ⟨rfl, miss h⟩, S.to ⟨rfl, rfl, rfl, trivial⟩⟩)
        refine Ex.append rfl rfl (Ev.var rfl) (by simp; lia) (Ex.brk fun g S => ⟨x ++ [e.2], by rw [hit h], ?_⟩)
        have e2 : ((x ++ [e.2]).map fun n => [n]).map dS = (x.map fun n => [n]).map dS ++ [dS [e.2]] := by simp
        show Cx.S _ g
        rw [e2]
        exact S.to ⟨rfl, rfl, rfl, trivial⟩
    · rintro x ⟨rfl, hno⟩
      rw [List.length_map, List.take_length] at hno
      have hp : pickT i m row = if i = 0 then 63 else 45 := by
        unfold pickT
        rw [List.find?_eq_none.mpr fun e he => by rw [hno e he]; simp]
      have e2 : ∀ n, ((x ++ [n]).map fun n => [n]).map dS = (x.map fun n => [n]).map dS ++ [dS [n]] := fun n => by simp
      refine Ex.ifElse (b := decide (i = 0)) (by rw [← i0]; exact Tr.cmp (Ev.var rfl) Ev.int op_eq_int) (fun h => ?_) (fun h => ?_)
      · refine Ex.append rfl rfl (Ev.strC (l := [63])) (by simp; lia) (Ex.nil fun g S => ⟨x ++ [63], by rw [hp, if_pos (of_decide_eq_true h)], ?_⟩)
        show Cx.S _ g
        rw [e2]
        exact S.to ⟨rfl, rfl, rfl, trivial⟩
      · refine Ex.append rfl rfl (Ev.strC (l := [45])) (by simp; lia) (Ex.nil fun g S => ⟨x ++ [45], by rw [hp, if_neg (of_decide_eq_false h)], ?_⟩)
        show Cx.S _ g
        rw [e2]
        exact S.to ⟨rfl, rfl, rfl, trivial⟩
    · rintro x rfl
      exact Ex.nil fun g S => ⟨_, fin _ rfl, S.to ⟨rfl, rfl, trivial⟩⟩
  · intro x hx
    have hx' : x = fileT m := by rw [hx]; rfl
    subst hx'
    have hlen : (fileT m).length = 10 := by unfold fileT; simp
    refine Ex.freeze (x := Str.ofString "perm") (List.Perm.refl _) rfl ?_
    have hU : ∀ b ∈ U, b ∈ (a :: ([L] ++ U)).filter (fun z => z != a) := fun b hb => mem_off.mpr ⟨.tail _ (List.mem_append_right _ hb), fun q => ha (List.mem_append_right _ (q ▸ hb))⟩
    have ef : ((fileT m).map fun n => [n]).flatten = fileT m := by
      generalize fileT m = l
      induction l with
      | nil => rfl
      | cons n l ih => rw [List.map_cons, List.flatten_cons, ih]; rfl
    refine Ex.ret (d := dS ((fileT m).map fun n => [n]).flatten) (Ev.join (l := (fileT m).map fun n => [n]) (Ev.strC (l := [])) (Ev.var rfl) (by rw [ef]; lia)) fun g v S r => ret_of hU (ef ▸ r)
end
end Mine
end
noncomputable section
set_option Elab.async false
set_option linter.unusedVariables false
namespace Mine

/-! words without end -/
abbrev Om := Nat → Nat
def infT (t : Tx) (a : Nat) : Om := fun i => t.getD ((a + i) % t.length) 0
def pre (n : Nat) (x : Om) : Tx := (List.range n).map x
theorem pre_len (n : Nat) (x : Om) : (pre n x).length = n := by simp [pre]
theorem pre_get {n : Nat} {x : Om} {i : Nat} (h : i < n) : (pre n x)[i]? = some (x i) := by simp [pre, h]
theorem pre_get' {n : Nat} {x : Om} {i : Nat} (h : i < (pre n x).length) : (pre n x)[i] = x i := by simp [pre]
theorem getD_eq {t : Tx} {i : Nat} (h : i < t.length) : t[i]? = some (t.getD i 0) := by
  rw [List.getD_eq_getElem?_getD, List.getElem?_eq_getElem h]; rfl
theorem pre_ext {n : Nat} {x y : Om} (h : ∀ i, i < n → x i = y i) : pre n x = pre n y :=
  List.map_congr_left fun i hi => h i (List.mem_range.mp hi)
theorem pre_inj {n : Nat} {x y : Om} (h : pre n x = pre n y) {i : Nat} (hi : i < n) : x i = y i := by
  have := congrArg (fun l : Tx => l[i]?) h
  simp only [pre_get hi] at this
  exact Option.some.inj this

def Per (x : Om) (p : Nat) : Prop := ∀ i, x (i + p) = x i
theorem Per.mul {x : Om} {p : Nat} (h : Per x p) : ∀ (k i : Nat), x (i + k * p) = x i
  | 0, i => by rw [Nat.zero_mul, Nat.add_zero]
  | k + 1, i => by rw [Nat.succ_mul, ← Nat.add_assoc, h, h.mul k]
theorem Per.mod {x : Om} {p : Nat} (h : Per x p) (i : Nat) : x (i % p) = x i := by
  have := h.mul (i / p) (i % p)
  rw [Nat.mul_comm, Nat.mod_add_div] at this
  exact this.symm
theorem inf_per (t : Tx) (a : Nat) : Per (infT t a) t.length := fun i => by
  unfold infT; rw [← Nat.add_assoc, Nat.add_mod_right]
/-- two words of like period that agree on it -/
theorem tie_one {x y : Om} {p : Nat} (hx : Per x p) (hy : Per y p) (hp : 0 < p) (h : ∀ i, i < p → x i = y i) : x = y := by
  funext i
  rw [← hx.mod i, ← hy.mod i]
  exact h _ (Nat.mod_lt _ hp)
/-- Fine and Wilf, the weak form -/
theorem tie_two {x y : Om} {p q : Nat} (hx : Per x p) (hy : Per y q) (hp : 0 < p) (hq : 0 < q) (h : ∀ i, i < p + q → x i = y i) : x = y := by
  funext i
  induction i using Nat.strongRecOn with
  | ind i ih =>
    by_cases hi : i < p + q
    · exact h i hi
    · have e1 : x i = x (i - p) := by have := hx (i - p); rw [Nat.sub_add_cancel (by lia)] at this; exact this
      have e2 : y (i - p) = y (i - p - q) := by have := hy (i - p - q); rw [Nat.sub_add_cancel (by lia)] at this; exact this
      have e3 : x (i - q) = x (i - p - q) := by
        have := hx (i - p - q)
        have e : i - p - q + p = i - q := by lia
        rw [e] at this; exact this
      have e4 : y i = y (i - q) := by have := hy (i - q); rw [Nat.sub_add_cancel (by lia)] at this; exact this
      rw [e1, ih (i - p) (by lia), e2, ← ih (i - p - q) (by lia), ← e3, ih (i - q) (by lia), ← e4]

/-! turns and spins -/
theorem turn_get {t : Tx} {a i : Nat} (ha : a < t.length) (hi : i < t.length) : (turnT t a)[i]? = some (infT t a i) := by
  unfold turnT infT
  by_cases h : i < t.length - a
  · rw [List.getElem?_append_left (by rw [List.length_drop]; exact h), List.getElem?_drop, Nat.mod_eq_of_lt (by lia)]
    exact getD_eq (by lia)
  · rw [List.getElem?_append_right (by rw [List.length_drop]; lia), List.length_drop, List.getElem?_take]
    have e : (a + i) % t.length = i - (t.length - a) := by
      rw [Nat.mod_eq_sub_mod (by lia), Nat.mod_eq_of_lt (by lia)]; lia
    rw [if_pos (by lia), e]
    exact getD_eq (by lia)
theorem turn_len (t : Tx) (a : Nat) : (turnT t a).length = t.length := by
  unfold turnT; rw [List.length_append, List.length_drop, List.length_take]; lia
theorem turn_pre {t : Tx} {a : Nat} (ha : a < t.length) : turnT t a = pre t.length (infT t a) := by
  apply List.ext_getElem?
  intro i
  by_cases hi : i < t.length
  · rw [turn_get ha hi, pre_get hi]
  · rw [List.getElem?_eq_none_iff.mpr (by rw [turn_len]; lia), List.getElem?_eq_none_iff.mpr (by rw [pre_len]; lia)]
theorem rep_get (u : Tx) : ∀ (k i : Nat), i < k * u.length → (List.replicate k u).flatten[i]? = some (u.getD (i % u.length) 0)
  | 0, i, h => by lia
  | k + 1, i, h => by
    rw [List.replicate_succ, List.flatten_cons]
    by_cases hi : i < u.length
    · rw [List.getElem?_append_left hi, Nat.mod_eq_of_lt hi]; exact getD_eq hi
    · rw [List.getElem?_append_right (by lia), rep_get u k _ (by rw [Nat.succ_mul] at h; lia)]
      congr 2
      exact (Nat.mod_eq_sub_mod (by lia)).symm
theorem rep_flat_len (u : Tx) (k : Nat) : (List.replicate k u).flatten.length = k * u.length := by
  induction k with
  | zero => simp
  | succ k ih => rw [List.replicate_succ, List.flatten_cons, List.length_append, ih, Nat.succ_mul, Nat.add_comm]
theorem inf_turn {t : Tx} {a : Nat} (ha : a < t.length) (i : Nat) : (turnT t a).getD (i % t.length) 0 = infT t a i := by
  have hm : i % t.length < t.length := Nat.mod_lt _ (by lia)
  have := turn_get ha hm
  rw [List.getD_eq_getElem?_getD, this]
  exact (inf_per t a).mod i
theorem spin_pre {t : Tx} {a : Nat} (ha : a < t.length) : spinT (turnT t a) = pre 20 (infT t a) := by
  apply List.ext_getElem?
  intro i
  unfold spinT
  by_cases hi : i < 20
  · rw [List.getElem?_take, if_pos hi, rep_get _ _ _ (by
      rw [turn_len]
      have : 20 * 1 ≤ 20 * t.length := Nat.mul_le_mul_left _ (by lia)
      lia), pre_get hi, turn_len, inf_turn ha]
  · rw [List.getElem?_take, if_neg hi, List.getElem?_eq_none_iff.mpr (by rw [pre_len]; lia)]
theorem turn_last {t : Tx} {a : Nat} (ha : a < t.length) : (turnT t a).getD ((turnT t a).length - 1) 0 = infT t a (t.length - 1) := by
  rw [turn_len, List.getD_eq_getElem?_getD, turn_get ha (by lia)]; rfl

/-! the order -/
def ltI (x y : Om) : Prop := ∃ k, (∀ i, i < k → x i = y i) ∧ x k < y k
def leI (x y : Om) : Prop := x = y ∨ ltI x y
theorem leI_antisymm {x y : Om} (h : leI x y) (k : leI y x) : x = y := by
  rcases h with h | ⟨a, h1, h2⟩
  · exact h
  · rcases k with k | ⟨b, k1, k2⟩
    · exact k.symm
    · rcases Nat.lt_trichotomy a b with q | q | q
      · have := k1 a q; lia
      · subst q; lia
      · have := h1 b q; lia
theorem pre_lt {n : Nat} {x y : Om} (h : pre n x < pre n y) : ltI x y := by
  rcases List.lt_iff_exists.mp h with ⟨_, q⟩ | ⟨i, h1, h2, h3, h4⟩
  · rw [pre_len, pre_len] at q; lia
  · refine ⟨i, fun j hj => ?_, ?_⟩
    · have := h3 j hj
      rw [pre_get', pre_get'] at this; exact this
    · rw [pre_get', pre_get'] at h4; exact h4
def consI (c : Nat) (x : Om) : Om
  | 0 => c
  | i + 1 => x i
theorem consI_le {c d : Nat} {x y : Om} (h : c < d ∨ c = d ∧ leI x y) : leI (consI c x) (consI d y) := by
  rcases h with h | ⟨rfl, h | ⟨k, h1, h2⟩⟩
  · exact .inr ⟨0, fun i hi => by lia, h⟩
  · rw [h]; exact .inl rfl
  · refine .inr ⟨k + 1, fun i hi => ?_, h2⟩
    cases i with
    | zero => rfl
    | succ i => exact h1 i (by lia)
end Mine
end
noncomputable section
open PySem PySem.W PyProof.Rows
set_option Elab.async false
set_option linter.unusedVariables false
namespace Mine

theorem cmp3_neg {x y : Tx} : cmp3 x y < 0 ↔ x < y := by
  unfold cmp3 b2i
  by_cases h : x < y
  · have : ¬ y < x := fun q => List.lt_irrefl x (List.lt_trans h q)
    simp [h, this]
  · by_cases k : y < x
    · simp [h, k]
    · simp [h, k]
theorem cmp3_zero {x y : Tx} : cmp3 x y = 0 ↔ x = y := by
  unfold cmp3 b2i
  by_cases h : x < y
  · have : ¬ y < x := fun q => List.lt_irrefl x (List.lt_trans h q)
    simp [h, this]
    intro q; rw [q] at h; exact List.lt_irrefl _ h
  · by_cases k : y < x
    · simp [h, k]
      intro q; rw [q] at k; exact List.lt_irrefl _ k
    · simp [h, k]
      exact List.le_antisymm (List.not_lt.mp k) (List.not_lt.mp h)
theorem told_le {x y : Tx} (h : x ≤ y) : toldT x y = true := by
  unfold toldT
  rw [decide_eq_true_eq]
  by_cases e : x = y
  · rw [if_pos e, cmp3_zero.mpr e, cmp3_zero.mpr e.symm]
  · rw [if_neg e]
    have hlt : x < y := by
      rcases List.le_iff_lt_or_eq.mp h with q | q
      · exact q
      · exact (e q).elim
    have : ¬ y < x := fun q => List.lt_irrefl x (List.lt_trans hlt q)
    simp [cmp3, b2i, hlt, this]

/-! rows in order -/
def SortR (row : List RowE) : Prop := row.Pairwise fun r s => r.1 ≤ s.1
theorem insR_lt {r : RowE} {row : List RowE} {e : RowE} (h : r.1 < e.1) : insR (r :: row) e = r :: insR row e := by
  have c : cntR (r :: row) e.1 = cntR row e.1 + 1 := by
    unfold cntR
    rw [List.filter_cons, if_pos (by simpa using cmp3_neg.mpr h)]; rfl
  unfold insR
  rw [c]; rfl
theorem insR_ge {row : List RowE} {e : RowE} (h : ∀ s ∈ row, e.1 ≤ s.1) : insR row e = e :: row := by
  have c : cntR row e.1 = 0 := by
    unfold cntR
    rw [List.length_eq_zero_iff, List.filter_eq_nil_iff]
    intro s hs
    rw [decide_eq_true_eq, cmp3_neg]
    exact List.not_lt.mpr (h s hs)
  unfold insR
  rw [c]; rfl
theorem insR_sort {row : List RowE} (e : RowE) (h : SortR row) : SortR (insR row e) := by
  induction row with
  | nil => rw [insR_ge (row := []) fun s hs => nomatch hs]; exact List.pairwise_singleton _ _
  | cons r row ih =>
    obtain ⟨h1, h2⟩ := List.pairwise_cons.mp h
    by_cases q : r.1 < e.1
    · rw [insR_lt q]
      refine List.pairwise_cons.mpr ⟨fun s hs => ?_, ih h2⟩
      rcases insR_mem.mp hs with z | z
      · rw [z]; exact List.le_of_lt q
      · exact h1 s z
    · have q' : e.1 ≤ r.1 := List.not_lt.mp q
      have all : ∀ s ∈ r :: row, e.1 ≤ s.1 := fun s hs => by
        rcases List.mem_cons.mp hs with z | z
        · rw [z]; exact q'
        · exact List.le_trans q' (h1 s z)
      rw [insR_ge all]
      exact List.pairwise_cons.mpr ⟨all, h⟩
theorem insR_perm (row : List RowE) (e : RowE) : (insR row e).Perm (e :: row) := by
  unfold insR
  refine List.perm_middle.trans (List.Perm.cons _ ?_)
  rw [List.take_append_drop]
theorem foldl_ins : ∀ (es row : List RowE), SortR row → SortR (es.foldl insR row) ∧ (es.foldl insR row).Perm (es ++ row)
  | [], row, h => ⟨h, List.Perm.refl _⟩
  | e :: es, row, h => by
    obtain ⟨h1, h2⟩ := foldl_ins es (insR row e) (insR_sort e h)
    refine ⟨h1, h2.trans ?_⟩
    exact ((insR_perm row e).append_left es).trans List.perm_middle
theorem togRow_sort (l : List Tx) : SortR (togRow l) := (foldl_ins _ [] .nil).1
theorem togRow_perm (l : List Tx) : (togRow l).Perm (l.flatMap entsT) := by
  have := (foldl_ins (l.flatMap entsT) [] .nil).2
  rwa [List.append_nil] at this
theorem untold_nil {row : List RowE} (h : SortR row) : untold row = [] := by
  unfold untold
  rw [List.filter_eq_nil_iff]
  intro i hi
  have hi := List.mem_range.mp hi
  have h1 : row.getD i ([], []) = row[i] := by rw [List.getD_eq_getElem?_getD, List.getElem?_eq_getElem (by lia)]; rfl
  have h2 : row.getD (i + 1) ([], []) = row[i + 1] := by rw [List.getD_eq_getElem?_getD, List.getElem?_eq_getElem (by lia)]; rfl
  have := (List.pairwise_iff_getElem.mp h) i (i + 1) (by lia) (by lia) (by lia)
  rw [h1, h2, told_le this]; decide
theorem togT_eq (l : List Tx) : togT l = ((togRow l).map (·.2)).flatten := by
  unfold togT
  rw [if_pos (untold_nil (togRow_sort l))]

/-! rows without end -/
abbrev OmE := Om × Nat
def EX (u : Tx) : List OmE := (List.range u.length).map fun a => (infT u a, infT u a (u.length - 1))
def trunc (e : OmE) : RowE := (pre 20 e.1, [e.2])
theorem ents_trunc (u : Tx) : entsT u = (EX u).map trunc := by
  unfold entsT EX
  rw [List.map_map]
  refine List.map_congr_left fun a ha => ?_
  have ha := List.mem_range.mp ha
  show entT u a = trunc (infT u a, infT u a (u.length - 1))
  unfold entT trunc
  rw [spin_pre ha, turn_last ha]
theorem flat_trunc (l : List Tx) : l.flatMap entsT = (l.flatMap EX).map trunc := by
  rw [List.map_flatMap]
  exact congrArg (fun f => l.flatMap f) (funext ents_trunc)
theorem two_of (l : List Tx) {u v : Tx} (hu : u ∈ l) (hv : v ∈ l) : u = v ∨ u.length + v.length ≤ l.flatten.length := by
  induction l with
  | nil => cases hu
  | cons w l ih =>
    rw [List.flatten_cons, List.length_append]
    have le : ∀ {x : Tx}, x ∈ l → x.length ≤ l.flatten.length := fun {x} hx => by
      clear ih hu hv
      induction l with
      | nil => cases hx
      | cons y l ih =>
        rw [List.flatten_cons, List.length_append]
        rcases List.mem_cons.mp hx with q | q
        · rw [q]; lia
        · have := ih q; lia
    rcases List.mem_cons.mp hu with q | q <;> rcases List.mem_cons.mp hv with r | r
    · exact .inl (q.trans r.symm)
    · right; rw [q]; have := le r; lia
    · right; rw [r]; have := le q; lia
    · rcases ih q r with z | z
      · exact .inl z
      · right; lia
theorem len_of {l : List Tx} {u : Tx} (hu : u ∈ l) : u.length ≤ l.flatten.length := by
  induction l with
  | nil => cases hu
  | cons w l ih =>
    rw [List.flatten_cons, List.length_append]
    rcases List.mem_cons.mp hu with q | q
    · rw [q]; lia
    · have := ih q; lia
/-- rows that agree on twenty signs are the same -/
theorem ties {l : List Tx} (hz : l.flatten.length ≤ 20) {r s : OmE} (hr : r ∈ l.flatMap EX) (hs : s ∈ l.flatMap EX) (h : pre 20 r.1 = pre 20 s.1) : r = s := by
  obtain ⟨u, hu, hr⟩ := List.mem_flatMap.mp hr
  obtain ⟨v, hv, hs⟩ := List.mem_flatMap.mp hs
  obtain ⟨a, ha, rfl⟩ := List.mem_map.mp hr
  obtain ⟨b, hb, rfl⟩ := List.mem_map.mp hs
  have ha := List.mem_range.mp ha
  have hb := List.mem_range.mp hb
  dsimp only at h
  have key : infT u a = infT v b := by
    rcases two_of l hu hv with q | q
    · subst q
      have := len_of hu
      exact tie_one (inf_per u a) (inf_per u b) (by lia) fun i hi => pre_inj h (by lia)
    · exact tie_two (inf_per u a) (inf_per v b) (by lia) (by lia) fun i hi => pre_inj h (by lia)
  refine Prod.ext key ?_
  show infT u a (u.length - 1) = infT v b (v.length - 1)
  rw [← key]
  have h1 := (inf_per u a).mul (v.length - 1) (u.length - 1)
  have h2 := (key ▸ inf_per v b : Per (infT u a) v.length).mul (u.length - 1) (v.length - 1)
  rw [← h1, ← h2]
  congr 1
  obtain ⟨m, hm⟩ : ∃ m, u.length = m + 1 := ⟨u.length - 1, by lia⟩
  obtain ⟨n, hn⟩ : ∃ n, v.length = n + 1 := ⟨v.length - 1, by lia⟩
  rw [hm, hn, Nat.add_sub_cancel, Nat.add_sub_cancel, Nat.mul_succ, Nat.mul_succ, Nat.mul_comm]
  lia
theorem le_of_pre {l : List Tx} (hz : l.flatten.length ≤ 20) {r s : OmE} (hr : r ∈ l.flatMap EX) (hs : s ∈ l.flatMap EX) (h : pre 20 r.1 ≤ pre 20 s.1) : leI r.1 s.1 := by
  rcases List.le_iff_lt_or_eq.mp h with q | q
  · exact .inr (pre_lt q)
  · exact .inl (congrArg _ (ties hz hr hs q))
theorem perm_lift {α β : Type} {f : α → β} : ∀ {l : List β} {m : List α}, l.Perm (m.map f) → ∃ m' : List α, m'.Perm m ∧ m'.map f = l
  | [], m, h => by
    have := h.length_eq
    rw [List.length_map] at this
    have : m = [] := List.length_eq_zero_iff.mp this.symm
    subst this; exact ⟨[], .refl _, rfl⟩
  | b :: l, m, h => by
    obtain ⟨a, ha, rfl⟩ := List.mem_map.mp (h.mem_iff.mp (.head _))
    obtain ⟨s, r, rfl⟩ := List.append_of_mem ha
    have h' : (f a :: l).Perm (f a :: (s ++ r).map f) := by
      refine h.trans ?_
      rw [List.map_append, List.map_cons, List.map_append]
      exact List.perm_middle
    obtain ⟨m', h1, h2⟩ := perm_lift (List.Perm.cons_inv h')
    exact ⟨a :: m', (h1.cons a).trans List.perm_middle.symm, by rw [List.map_cons, h2]⟩
/-- the rows put together, without end -/
theorem together_rows {l : List Tx} (hz : l.flatten.length ≤ 20) : ∃ R : List OmE, R.Perm (l.flatMap EX) ∧ R.map trunc = togRow l ∧ R.Pairwise (fun r s => leI r.1 s.1) ∧ R.length = l.flatten.length ∧ togT l = R.map (·.2) := by
  obtain ⟨R, h1, h2⟩ := perm_lift (f := trunc) ((togRow_perm l).trans (.of_eq (flat_trunc l)))
  refine ⟨R, h1, h2, ?_, ?_, ?_⟩
  · have hs := togRow_sort l
    rw [← h2] at hs
    have hs' := List.pairwise_map.mp hs
    exact hs'.imp_of_mem fun {r s} hr hs h => le_of_pre hz (h1.mem_iff.mp hr) (h1.mem_iff.mp hs) h
  · rw [← togRow_len, ← h2, List.length_map]
  · rw [togT_eq, ← h2, List.map_map]
    clear h1 h2
    induction R with
    | nil => rfl
    | cons r R ih => rw [List.map_cons, List.flatten_cons, ih, List.map_cons]; rfl
/-- the way to know a text put together -/
theorem together_eq {l : List Tx} (hz : l.flatten.length ≤ 20) {R : List OmE} (h1 : R.Perm (l.flatMap EX)) (h2 : R.Pairwise (fun r s => leI r.1 s.1)) : togT l = R.map (·.2) := by
  obtain ⟨R', k1, _, k2, _, k3⟩ := together_rows hz
  rw [k3]
  have hp : R'.Perm R := k1.trans h1.symm
  have : R' = R := by
    refine List.Perm.eq_of_pairwise (le := fun r s : OmE => leI r.1 s.1) (fun r s hr hs x y => ?_) k2 h2 hp
    exact ties hz (k1.mem_iff.mp hr) (h1.mem_iff.mp hs) (by rw [leI_antisymm x y])
  rw [this]
end Mine
end
noncomputable section
open PySem PySem.W PyProof.Rows
set_option Elab.async false
set_option linter.unusedVariables false
namespace Mine

theorem least_of (P : Nat → Prop) (h : ∃ n, P n) : ∃ n, P n ∧ ∀ m, m < n → ¬ P m := by
  obtain ⟨n, hn⟩ := h
  induction n using Nat.strongRecOn with
  | ind n ih =>
    by_cases q : ∃ m, m < n ∧ P m
    · obtain ⟨m, h1, h2⟩ := q
      exact ih m h1 h2
    · exact ⟨n, hn, fun m h1 h2 => q ⟨m, h1, h2⟩⟩

/-! the way from place to place -/
def nx (t : Tx) (i : Nat) : Nat := (orderT t).getD i 0
def itN (t : Tx) : Nat → Nat → Nat
  | 0, i => i
  | j + 1, i => nx t (itN t j i)
def PW (t : Tx) (p : Nat) : Om := fun j => t.getD (itN t (j + 1) p) 0
def pathN (t : Tx) (i k : Nat) : List Nat := (List.range k).map fun a => itN t a i
def wordN (t : Tx) (i k : Nat) : Tx := (List.range k).map fun a => t.getD (itN t (a + 1) i) 0
theorem order_len (t : Tx) : (orderT t).length = t.length := by rw [(orderT_perm t).length_eq, List.length_range]
theorem nx_get {t : Tx} {i : Nat} (h : i < t.length) : (orderT t)[i]? = some (nx t i) := by
  unfold nx
  rw [List.getD_eq_getElem?_getD, List.getElem?_eq_getElem (by rw [order_len]; exact h)]; rfl
theorem nx_lt {t : Tx} {i : Nat} (h : i < t.length) : nx t i < t.length :=
  List.mem_range.mp ((orderT_perm t).mem_iff.mp (List.mem_of_getElem? (nx_get h)))
theorem nx_inj {t : Tx} {i j : Nat} (hi : i < t.length) (hj : j < t.length) (h : nx t i = nx t j) : i = j := by
  have nd : (orderT t).Nodup := (orderT_perm t).nodup_iff.mpr List.nodup_range
  have h1 := nx_get hi
  have h2 := nx_get hj
  rw [← h] at h2
  obtain ⟨k1, e1⟩ := List.getElem?_eq_some_iff.mp h1
  obtain ⟨k2, e2⟩ := List.getElem?_eq_some_iff.mp h2
  rcases Nat.lt_trichotomy i j with q | q | q
  · exact absurd (e1.trans e2.symm) (List.pairwise_iff_getElem.mp nd i j k1 k2 q)
  · exact q
  · exact absurd (e2.trans e1.symm) (List.pairwise_iff_getElem.mp nd j i k2 k1 q)
theorem nx_ord {t : Tx} (hz : t.length ≤ 1000) {i j : Nat} (hij : i < j) (hj : j < t.length) : t.getD (nx t i) 0 < t.getD (nx t j) 0 ∨ (t.getD (nx t i) 0 = t.getD (nx t j) 0 ∧ nx t i < nx t j) := by
  have hi : i < t.length := by lia
  have hs := List.pairwise_iff_getElem.mp (orderT_sorted t) i j (by rw [order_len]; exact hi) (by rw [order_len]; exact hj) hij
  obtain ⟨k1, e1⟩ := List.getElem?_eq_some_iff.mp (nx_get hi)
  obtain ⟨k2, e2⟩ := List.getElem?_eq_some_iff.mp (nx_get hj)
  rw [e1, e2] at hs
  have h1 := nx_lt hi
  have h2 := nx_lt hj
  have hne : nx t i ≠ nx t j := fun q => by have := nx_inj hi hj q; lia
  unfold keyT at hs
  lia
theorem it_lt {t : Tx} {i : Nat} (h : i < t.length) : ∀ a, itN t a i < t.length
  | 0 => h
  | a + 1 => nx_lt (it_lt h a)
theorem it_add (t : Tx) (i : Nat) (b : Nat) : ∀ a, itN t (a + b) i = itN t a (itN t b i)
  | 0 => by rw [Nat.zero_add]; rfl
  | a + 1 => by
    rw [Nat.succ_add]
    show nx t (itN t (a + b) i) = nx t (itN t a (itN t b i))
    rw [it_add t i b a]
theorem it_inj {t : Tx} {i j : Nat} (hi : i < t.length) (hj : j < t.length) : ∀ a, itN t a i = itN t a j → i = j
  | 0, h => h
  | a + 1, h => it_inj hi hj a (nx_inj (it_lt hi a) (it_lt hj a) h)
theorem it_mul {t : Tx} {i k : Nat} (h : itN t k i = i) : ∀ m, itN t (m * k) i = i
  | 0 => by rw [Nat.zero_mul]; rfl
  | m + 1 => by rw [Nat.succ_mul, it_add, h, it_mul h m]
theorem it_mod {t : Tx} {i k : Nat} (h : itN t k i = i) (m : Nat) : itN t (m % k) i = itN t m i := by
  have e : itN t (m % k + m / k * k) i = itN t (m % k) i := by rw [it_add, it_mul h]
  rw [Nat.mul_comm, Nat.mod_add_div] at e
  exact e.symm
theorem path_succ (t : Tx) (i j : Nat) : pathN t i (j + 1) = pathN t i j ++ [itN t j i] := by
  unfold pathN; rw [List.range_succ, List.map_append]; rfl
theorem word_succ (t : Tx) (i j : Nat) : wordN t i (j + 1) = wordN t i j ++ [t.getD (nx t (itN t j i)) 0] := by
  unfold wordN; rw [List.range_succ, List.map_append]; rfl
theorem path_mem {t : Tx} {i k x : Nat} : x ∈ pathN t i k ↔ ∃ a, a < k ∧ itN t a i = x := by
  unfold pathN; rw [List.mem_map]
  constructor
  · rintro ⟨a, h, e⟩; exact ⟨a, List.mem_range.mp h, e⟩
  · rintro ⟨a, h, e⟩; exact ⟨a, List.mem_range.mpr h, e⟩
theorem word_len (t : Tx) (i k : Nat) : (wordN t i k).length = k := by simp [wordN]
def Apart (t : Tx) (i k : Nat) : Prop := ∀ a b, a < b → b < k → itN t a i ≠ itN t b i
theorem Apart.nodup {t : Tx} {i k : Nat} (h : Apart t i k) : (pathN t i k).Nodup := by
  unfold pathN
  rw [List.Nodup, List.pairwise_map]
  refine List.pairwise_iff_getElem.mpr fun a b ha hb hab => ?_
  rw [List.getElem_range, List.getElem_range]
  rw [List.length_range] at hb
  exact h a b hab hb
theorem it_off {t : Tx} {seen : List Nat} {i : Nat} (hi : i < t.length) (hc : ∀ x, x < t.length → nx t x ∈ seen → x ∈ seen) (hn : i ∉ seen) : ∀ a, itN t a i ∉ seen
  | 0 => hn
  | a + 1 => fun h => it_off hi hc hn a (hc _ (it_lt hi a) h)

theorem ring_run {t : Tx} {seen : List Nat} {i : Nat} (hi : i < t.length) (ok : SeenOk t.length seen) (hc : ∀ x, x < t.length → nx t x ∈ seen → x ∈ seen) (hn : i ∉ seen) : ∀ f j, Apart t i j → t.length < f + seen.length + j →
    ∃ k, 1 ≤ k ∧ ringT (orderT t) t f (seen ++ pathN t i j) (itN t j i) (wordN t i j) = (seen ++ pathN t i k, wordN t i k) ∧ itN t k i = i ∧ Apart t i k
  | 0, j, ap, hf => by
    have : SeenOk t.length (seen ++ pathN t i j) := ⟨List.nodup_append.mpr ⟨ok.1, ap.nodup, fun a ha b hb => by
      obtain ⟨c, _, rfl⟩ := path_mem.mp hb
      intro q; exact it_off hi hc hn c (q ▸ ha)⟩, fun x hx => by
      rcases List.mem_append.mp hx with q | q
      · exact ok.2 x q
      · obtain ⟨c, _, rfl⟩ := path_mem.mp q; exact it_lt hi c⟩
    have := this.len
    rw [List.length_append] at this
    have hp : (pathN t i j).length = j := by simp [pathN]
    lia
  | f + 1, j, ap, hf => by
    by_cases h : itN t j i ∈ pathN t i j
    · obtain ⟨a, ha, e⟩ := path_mem.mp h
      have e2 : itN t (j - a) i = i := by
        have : itN t j i = itN t a (itN t (j - a) i) := by rw [← it_add]; congr 1; lia
        rw [this] at e
        exact (it_inj hi (it_lt hi _) a e).symm
      have ha0 : a = 0 := by
        rcases Nat.eq_zero_or_pos a with q | q
        · exact q
        · exact absurd e2.symm (ap 0 (j - a) (by lia) (by lia))
      subst ha0
      exact ⟨j, by lia, ringT_in (List.mem_append_right _ h) _, e2, ap⟩
    · have hns : itN t j i ∉ seen ++ pathN t i j := fun m => by
        rcases List.mem_append.mp m with q | q
        · exact it_off hi hc hn j q
        · exact h q
      rw [ringT, if_neg hns]
      have ap' : Apart t i (j + 1) := fun a b hab hb => by
        rcases Nat.lt_or_ge b j with q | q
        · exact ap a b hab q
        · have : b = j := by lia
          subst this
          exact fun q' => h (path_mem.mpr ⟨a, hab, q'⟩)
      obtain ⟨k, h1, h2, h3, h4⟩ := ring_run hi ok hc hn f (j + 1) ap' (by lia)
      refine ⟨k, h1, ?_, h3, h4⟩
      rw [← h2, path_succ, word_succ, List.append_assoc]
      rfl

/-- the rows of a wheel -/
theorem word_rows {t : Tx} {i k : Nat} (hk : 1 ≤ k) (hc : itN t k i = i) : EX (wordN t i k) = (pathN t i k).map fun p => (PW t p, t.getD p 0) := by
  unfold EX
  rw [word_len]
  unfold pathN
  rw [List.map_map]
  refine List.map_congr_left fun a ha => ?_
  have ha := List.mem_range.mp ha
  have key : infT (wordN t i k) a = PW t (itN t a i) := by
    funext j
    show (wordN t i k).getD ((a + j) % (wordN t i k).length) 0 = t.getD (itN t (j + 1) (itN t a i)) 0
    rw [word_len, ← it_add]
    have hm : (a + j) % k < k := Nat.mod_lt _ (by lia)
    have : (wordN t i k).getD ((a + j) % k) 0 = t.getD (itN t ((a + j) % k + 1) i) 0 := by
      unfold wordN
      rw [List.getD_eq_getElem?_getD, List.getElem?_map, List.getElem?_range hm]; rfl
    rw [this]
    congr 1
    show nx t (itN t ((a + j) % k) i) = _
    rw [it_mod hc]
    show itN t (a + j + 1) i = _
    congr 1; lia
  show (infT (wordN t i k) a, infT (wordN t i k) a (k - 1)) = (PW t (itN t a i), t.getD (itN t a i) 0)
  rw [key]
  refine Prod.ext rfl ?_
  show t.getD (itN t (k - 1 + 1) (itN t a i)) 0 = _
  rw [← it_add]
  have : k - 1 + 1 + a = a + k := by lia
  rw [this, it_add, hc]

structure WInv (t : Tx) (m : Nat) (st : List Tx × List Nat) : Prop where
  ok : SeenOk t.length st.2
  closed : ∀ x, x < t.length → nx t x ∈ st.2 → x ∈ st.2
  got : ∀ i, i < m → i ∈ st.2
  rows : st.1.flatMap EX = st.2.map fun p => (PW t p, t.getD p 0)
  prim : ∀ w ∈ st.1, ∃ i k, i < t.length ∧ 1 ≤ k ∧ w = wordN t i k ∧ itN t k i = i ∧ Apart t i k
theorem WInv.step {t : Tx} {m : Nat} {st : List Tx × List Nat} (X : WInv t m st) (hm : m < t.length) : WInv t (m + 1) (wheelStep t st m) := by
  obtain ⟨ws, seen⟩ := st
  by_cases h : m ∈ seen
  · have e : wheelStep t (ws, seen) m = (ws, seen) := by
      unfold wheelStep
      dsimp only
      rw [ringT_in h]; rfl
    rw [e]
    refine ⟨X.ok, X.closed, fun i hi => ?_, X.rows, X.prim⟩
    rcases Nat.lt_or_ge i m with q | q
    · exact X.got i q
    · have : i = m := by lia
      rw [this]; exact h
  · obtain ⟨k, h1, h2, h3, h4⟩ := ring_run hm X.ok X.closed h (t.length + 1) 0 (fun a b _ hb => by lia) (by lia)
    have h2' : ringT (orderT t) t (t.length + 1) seen m [] = (seen ++ pathN t m k, wordN t m k) := by
      rw [← h2]
      show _ = ringT (orderT t) t (t.length + 1) (seen ++ []) m []
      rw [List.append_nil]
    have hw : wordN t m k ≠ [] := fun q => by have := congrArg List.length q; rw [word_len] at this; simp at this; lia
    have e : wheelStep t (ws, seen) m = (ws ++ [wordN t m k], seen ++ pathN t m k) := by
      unfold wheelStep
      dsimp only
      rw [h2']
      dsimp only
      rw [if_neg hw]
    rw [e]
    have off := it_off hm X.closed h
    exact {
      ok := ⟨List.nodup_append.mpr ⟨X.ok.1, h4.nodup, fun a ha b hb => by
          obtain ⟨c, _, rfl⟩ := path_mem.mp hb
          intro q; exact off c (q ▸ ha)⟩, fun x hx => by
          rcases List.mem_append.mp hx with q | q
          · exact X.ok.2 x q
          · obtain ⟨c, _, rfl⟩ := path_mem.mp q; exact it_lt hm c⟩
      closed := fun x hx hn => by
        rcases List.mem_append.mp hn with q | q
        · exact List.mem_append_left _ (X.closed x hx q)
        · obtain ⟨a, ha, e⟩ := path_mem.mp q
          refine List.mem_append_right _ (path_mem.mpr ?_)
          cases a with
          | zero =>
            refine ⟨k - 1, by lia, ?_⟩
            have : nx t (itN t (k - 1) m) = m := by
              show itN t (k - 1 + 1) m = m
              have : k - 1 + 1 = k := by lia
              rw [this]; exact h3
            exact nx_inj (it_lt hm _) hx (this.trans e)
          | succ a => exact ⟨a, by lia, nx_inj (it_lt hm _) hx e⟩
      got := fun i hi => by
        rcases Nat.lt_or_ge i m with q | q
        · exact List.mem_append_left _ (X.got i q)
        · have : i = m := by lia
          rw [this]; exact List.mem_append_right _ (path_mem.mpr ⟨0, by lia, rfl⟩)
      rows := by
        have hx := X.rows
        dsimp only at hx ⊢
        rw [List.flatMap_append, hx, List.map_append, List.flatMap_cons, List.flatMap_nil, List.append_nil, word_rows h1 h3]
      prim := fun w hw => by
        rcases List.mem_append.mp hw with q | q
        · exact X.prim w q
        · exact ⟨m, k, hm, h1, List.mem_singleton.mp q, h3, h4⟩ }
theorem wheels_inv (t : Tx) : WInv t t.length ((List.range t.length).foldl (wheelStep t) ([], [])) := by
  have : ∀ m, m ≤ t.length → WInv t m ((List.range m).foldl (wheelStep t) ([], [])) := fun m => by
    induction m with
    | zero => intro _; exact ⟨⟨.nil, fun x h => (nomatch h)⟩, fun x _ h => (nomatch h), fun i h => by lia, rfl, fun w h => (nomatch h)⟩
    | succ m ih =>
      intro hm
      rw [List.range_succ, List.foldl_append]
      exact (ih (by lia)).step hm
  exact this _ (Nat.le_refl _)
/-- the rows of the wheels are the ways of all places -/
theorem wheels_rows (t : Tx) : ((wheelsT t).flatMap EX).Perm ((List.range t.length).map fun p => (PW t p, t.getD p 0)) := by
  have X := wheels_inv t
  have hp : ((List.range t.length).foldl (wheelStep t) ([], [])).2.Perm (List.range t.length) := by
    refine (List.perm_ext_iff_of_nodup X.ok.1 List.nodup_range).mpr fun a => ⟨fun h => List.mem_range.mpr (X.ok.2 a h), fun h => X.got a (List.mem_range.mp h)⟩
  have := hp.map fun p => (PW t p, t.getD p 0)
  rw [← X.rows] at this
  exact this
theorem ex_len (l : List Tx) : (l.flatMap EX).length = l.flatten.length := by
  rw [← flatMap_len, flat_trunc, List.length_map]
theorem wheels_len (t : Tx) : (wheelsT t).flatten.length = t.length := by
  rw [← ex_len, (wheels_rows t).length_eq, List.length_map, List.length_range]
theorem it_ord {t : Tx} (hz : t.length ≤ 1000) {i j : Nat} (hij : i < j) (hj : j < t.length) : ∀ m, (∀ l, l < m → PW t i l = PW t j l) → itN t m i < itN t m j
  | 0, _ => hij
  | m + 1, h => by
    have ih := it_ord hz hij hj m fun l hl => h l (by lia)
    rcases nx_ord hz ih (it_lt hj m) with q | q
    · have := h m (by lia)
      have : t.getD (nx t (itN t m i)) 0 = t.getD (nx t (itN t m j)) 0 := this
      lia
    · exact q.2
theorem ways_sorted {t : Tx} (hz : t.length ≤ 1000) {i j : Nat} (hij : i < j) (hj : j < t.length) : leI (PW t i) (PW t j) := by
  by_cases h : PW t i = PW t j
  · exact .inl h
  · right
    have : ∃ m, PW t i m ≠ PW t j m := by
      refine Classical.byContradiction fun q => h (funext fun m => Classical.byContradiction fun r => q ⟨m, r⟩)
    obtain ⟨m, h1, h2⟩ := least_of _ this
    refine ⟨m, fun l hl => Classical.byContradiction fun r => h2 l hl r, ?_⟩
    have := it_ord hz hij hj m fun l hl => Classical.byContradiction fun r => h2 l hl r
    rcases nx_ord hz this (it_lt hj m) with q | q
    · exact q
    · exact (h1 q.1).elim
/-- the wheels put together are the text -/
theorem wheels_together {t : Tx} (hz : t.length ≤ 20) : togT (wheelsT t) = t := by
  rw [together_eq (by rw [wheels_len]; exact hz) (wheels_rows t).symm ?_]
  · rw [List.map_map]
    apply List.ext_getElem?
    intro i
    rw [List.getElem?_map]
    by_cases h : i < t.length
    · rw [List.getElem?_range h, getD_eq h]; rfl
    · rw [List.getElem?_eq_none_iff.mpr (by rw [List.length_range]; lia), List.getElem?_eq_none_iff.mpr (by lia)]; rfl
  · rw [List.pairwise_map]
    refine List.pairwise_iff_getElem.mpr fun a b ha hb hab => ?_
    rw [List.getElem_range, List.getElem_range]
    rw [List.length_range] at hb
    exact ways_sorted (by lia) hab hb

/-- no two turns of a wheel are alike -/
def Prim (w : Tx) : Prop := ∀ a b, a < b → b < w.length → infT w a ≠ infT w b
theorem wheels_prim {t : Tx} (hz : t.length ≤ 1000) {w : Tx} (hw : w ∈ wheelsT t) : w ≠ [] ∧ Prim w := by
  obtain ⟨i, k, hi, hk, rfl, hc, ap⟩ := (wheels_inv t).prim w hw
  refine ⟨fun q => by have := congrArg List.length q; rw [word_len] at this; simp at this; lia, fun a b hab hb h => ?_⟩
  rw [word_len] at hb
  have rows := word_rows (t := t) hk hc
  have key : ∀ c, c < k → infT (wordN t i k) c = PW t (itN t c i) := fun c hcc => by
    have := congrArg (fun l : List OmE => l[c]?) rows
    simp only [EX, pathN, List.getElem?_map, word_len, List.getElem?_range hcc] at this
    exact (Prod.mk.inj (Option.some.inj this)).1
  rw [key a (by lia), key b hb] at h
  -- two places of one ring whose ways are alike
  have go : ∀ p q d, p < q → q < t.length → PW t p = PW t q → itN t d p = q → itN t k p = p → False := fun p q d hpq hq h hd hkp => by
    have hp : p < t.length := by lia
    have lt := fun m => it_ord hz hpq hq m fun l _ => congrFun h l
    have inc : ∀ m, p < itN t ((m + 1) * d) p := fun m => by
      induction m with
      | zero => rw [Nat.zero_add, Nat.one_mul, hd]; exact hpq
      | succ m ih =>
        have := lt ((m + 1) * d)
        have e : itN t ((m + 1) * d) q = itN t ((m + 1 + 1) * d) p := by rw [← hd, ← it_add]; congr 1; rw [Nat.succ_mul (m + 1)]
        rw [e] at this
        lia
    have := inc (k - 1)
    have e : (k - 1 + 1) * d = d * k := by rw [Nat.sub_add_cancel hk, Nat.mul_comm]
    rw [e, it_mul hkp] at this
    lia
  have pa := it_lt hi a
  have pb := it_lt hi b
  have ka : itN t k (itN t a i) = itN t a i := by rw [← it_add, Nat.add_comm, it_add, hc]
  have kb : itN t k (itN t b i) = itN t b i := by rw [← it_add, Nat.add_comm, it_add, hc]
  rcases Nat.lt_trichotomy (itN t a i) (itN t b i) with q | q | q
  · exact go _ _ (b - a) q pb h (by rw [← it_add]; congr 1; lia) ka
  · exact ap a b hab hb q
  · refine go _ _ (a + k - b) q pa h.symm ?_ kb
    rw [← it_add]
    have : a + k - b + b = a + k := by lia
    rw [this, it_add, hc]
theorem prim_wheel {w : Tx} (h : Prim w) : wheelT w = true := by
  have : likeT w = [] := by
    unfold likeT
    rw [filter_true, List.flatMap_eq_nil_iff]
    intro i hi
    have hi := List.mem_range.mp hi
    rw [List.map_eq_nil_iff, List.filter_eq_nil_iff]
    intro j hj q
    have hj := List.mem_range.mp hj
    have q : turnT w i = turnT w j := cmp3_zero.mp (by simpa using q)
    refine h j i hj hi (tie_one (inf_per w j) (inf_per w i) (by lia) fun l hl => ?_)
    rw [turn_pre hi, turn_pre (by lia)] at q
    exact (pre_inj q hl).symm
  unfold wheelT
  rw [this]; rfl
end Mine
end
noncomputable section
open PySem PySem.W PyProof.Rows
set_option Elab.async false
set_option linter.unusedVariables false
namespace Mine

/-! words, text, rings -/
theorem cons_inf {u : Tx} {k a : Nat} (hk : u.length = k + 1) : consI (infT u a k) (infT u a) = infT u ((a + k) % (k + 1)) := by
  funext i
  cases i with
  | zero =>
    show infT u a k = infT u ((a + k) % (k + 1)) 0
    unfold infT
    rw [hk, Nat.add_zero ((a + k) % (k + 1)), Nat.mod_mod]
  | succ i =>
    show infT u a i = infT u ((a + k) % (k + 1)) (i + 1)
    unfold infT
    rw [hk, Nat.mod_add_mod]
    have : a + k + (i + 1) = a + i + (k + 1) := by lia
    rw [this, Nat.add_mod_right]
theorem cons_rows (u : Tx) : ((EX u).map fun e => consI e.2 e.1).Perm ((EX u).map (·.1)) := by
  unfold EX
  rw [List.map_map, List.map_map]
  rcases Nat.eq_zero_or_pos u.length with h | h
  · rw [h]; exact .refl _
  · obtain ⟨k, hk⟩ : ∃ k, u.length = k + 1 := ⟨u.length - 1, by lia⟩
    have e1 : (List.range u.length).map ((fun e : OmE => consI e.2 e.1) ∘ fun a => (infT u a, infT u a (u.length - 1))) = infT u k :: (List.range k).map (infT u) := by
      rw [hk, Nat.add_sub_cancel, List.range_succ_eq_map, List.map_cons, List.map_map]
      refine congr (congrArg _ ?_) (List.map_congr_left fun b hb => ?_)
      · show consI (infT u 0 k) (infT u 0) = _
        rw [cons_inf hk, Nat.zero_add, Nat.mod_eq_of_lt (by lia)]
      · have hb := List.mem_range.mp hb
        show consI (infT u (b + 1) k) (infT u (b + 1)) = _
        rw [cons_inf hk]
        have : b + 1 + k = b + (k + 1) := by lia
        rw [this, Nat.add_mod_right, Nat.mod_eq_of_lt (by lia)]
    have e2 : (List.range u.length).map ((fun e : OmE => e.1) ∘ fun a => (infT u a, infT u a (u.length - 1))) = (List.range k).map (infT u) ++ [infT u k] := by
      rw [hk, List.range_succ, List.map_append]; rfl
    rw [e1, e2]
    exact (List.perm_append_singleton _ _).symm
theorem cons_all (l : List Tx) : ((l.flatMap EX).map fun e => consI e.2 e.1).Perm ((l.flatMap EX).map (·.1)) := by
  induction l with
  | nil => exact .refl _
  | cons u l ih => rw [List.flatMap_cons, List.map_append, List.map_append]; exact (cons_rows u).append ih
theorem nx_order (t : Tx) : (List.range t.length).map (nx t) = orderT t := by
  apply List.ext_getElem?
  intro i
  rw [List.getElem?_map]
  by_cases h : i < t.length
  · rw [List.getElem?_range h, nx_get h]; rfl
  · rw [List.getElem?_eq_none_iff.mpr (by rw [List.length_range]; lia), List.getElem?_eq_none_iff.mpr (by rw [order_len]; lia)]; rfl

theorem text_len {l : List Tx} (hz : l.flatten.length ≤ 20) : (togT l).length = l.flatten.length := by
  obtain ⟨R, h1, h2, h3, h4, h5⟩ := together_rows hz
  rw [h5, List.length_map, h4]
/-- Gessel and Reutenauer: the rows of the text's wheels are the rows of the words -/
theorem text_rows {l : List Tx} (hz : l.flatten.length ≤ 20) : ((wheelsT (togT l)).flatMap EX).Perm (l.flatMap EX) := by
  obtain ⟨R, h1, h2, h3, h4, h5⟩ := together_rows hz
  have hn : R.length ≤ 1000 := by lia
  generalize togT l = t at *
  have ht : t.length = R.length := by rw [h5, List.length_map]
  have tg : ∀ i, t.getD i 0 = (R.getD i (fun _ => 0, 0)).2 := fun i => by
    rw [h5, List.getD_eq_getElem?_getD, List.getElem?_map, List.getD_eq_getElem?_getD]
    cases R[i]? <;> rfl
  let q : Nat → Om := fun i => (R.getD i (fun _ => 0, 0)).1
  have qs : ∀ i j, i < j → j < R.length → leI (q i) (q j) := fun i j hij hj => by
    have := List.pairwise_iff_getElem.mp h3 i j (by lia) hj hij
    have e : ∀ a (h : a < R.length), q a = R[a].1 := fun a h => by
      show (R.getD a (fun _ => 0, 0)).1 = _
      rw [List.getD_eq_getElem?_getD, List.getElem?_eq_getElem h]; rfl
    rw [e i (by lia), e j hj]; exact this
  have allR : ∀ {γ : Type} (f : OmE → γ), (List.range R.length).map (fun i => f (R.getD i (fun _ => 0, 0))) = R.map f := fun f => by
    apply List.ext_getElem?
    intro i
    rw [List.getElem?_map, List.getElem?_map]
    by_cases h : i < R.length
    · rw [List.getElem?_range h, List.getElem?_eq_getElem h, Option.map_some, Option.map_some, List.getD_eq_getElem?_getD, List.getElem?_eq_getElem h]; rfl
    · rw [List.getElem?_eq_none_iff.mpr (by rw [List.length_range]; lia), List.getElem?_eq_none_iff.mpr (by lia)]; rfl
  have key : (List.range t.length).map (fun i => consI (t.getD (nx t i) 0) (q (nx t i))) = R.map (·.1) := by
    refine List.Perm.eq_of_pairwise (le := leI) (fun x y _ _ => leI_antisymm) ?_ ?_ ?_
    · rw [List.pairwise_map]
      refine List.pairwise_iff_getElem.mpr fun a b ha hb hab => ?_
      rw [List.getElem_range, List.getElem_range]
      rw [List.length_range] at hb
      have hlt := nx_lt hb
      exact consI_le ((nx_ord (by lia) hab hb).imp id fun ⟨e1, e2⟩ => ⟨e1, qs _ _ e2 (by lia)⟩)
    · rw [List.pairwise_map]; exact h3
    · have e : (List.range t.length).map (fun i => consI (t.getD (nx t i) 0) (q (nx t i))) = (orderT t).map (fun p => consI (t.getD p 0) (q p)) := by
        rw [← nx_order, List.map_map]; rfl
      rw [e]
      refine ((orderT_perm t).map _).trans ?_
      have e2 : (List.range t.length).map (fun p => consI (t.getD p 0) (q p)) = R.map (fun e => consI e.2 e.1) := by
        rw [ht, ← allR]
        exact List.map_congr_left fun i _ => by rw [tg]
      rw [e2]
      exact (h1.map _).trans ((cons_all l).trans (h1.map _).symm)
  have qe : ∀ i, i < R.length → q i = consI (t.getD (nx t i) 0) (q (nx t i)) := fun i hi => by
    have := congrArg (fun l : List Om => l[i]?) key
    simp only [List.getElem?_map] at this
    rw [List.getElem?_range (by lia), List.getElem?_eq_getElem hi] at this
    have : consI (t.getD (nx t i) 0) (q (nx t i)) = R[i].1 := Option.some.inj this
    rw [this]
    show (R.getD i (fun _ => 0, 0)).1 = _
    rw [List.getD_eq_getElem?_getD, List.getElem?_eq_getElem hi]; rfl
  have pq : ∀ m i, i < R.length → PW t i m = q i m := fun m => by
    induction m with
    | zero => intro i hi; rw [qe i hi]; rfl
    | succ m ih =>
      intro i hi
      rw [qe i hi]
      show PW t i (m + 1) = q (nx t i) m
      rw [← ih _ (by have := nx_lt (t := t) (i := i) (by lia); lia)]
      show t.getD (itN t (m + 1 + 1) i) 0 = t.getD (itN t (m + 1) (nx t i)) 0
      rw [it_add t i 1 (m + 1)]; rfl
  have fin : (List.range t.length).map (fun p => (PW t p, t.getD p 0)) = R := by
    have := allR (fun e => e)
    rw [List.map_id'] at this
    refine Eq.trans ?_ this
    rw [ht]
    refine List.map_congr_left fun i hi => ?_
    exact Prod.ext (funext fun m => pq m i (List.mem_range.mp hi)) (tg i)
  exact (wheels_rows t).trans ((List.Perm.of_eq fin).trans h1)

/-! shortest parts -/
theorem Per.modP {x : Om} {p q : Nat} (hp : Per x p) (hq : Per x q) : Per x (p % q) := fun i => by
  have := hq.mul (p / q) (i + p % q)
  have e : i + p % q + p / q * q = i + p := by
    have := Nat.mod_add_div p q
    rw [Nat.mul_comm] at this; lia
  rw [e, hp] at this
  exact this.symm
theorem inf_zero {u : Tx} (h : 0 < u.length) (a i : Nat) : infT u a (i + a * (u.length - 1)) = infT u 0 i := by
  unfold infT
  have e : a + (i + a * (u.length - 1)) = 0 + i + a * u.length := by
    obtain ⟨k, hk⟩ : ∃ k, u.length = k + 1 := ⟨u.length - 1, by lia⟩
    rw [hk, Nat.add_sub_cancel, Nat.mul_succ]; lia
  rw [e, Nat.add_mul_mod_self_right]
theorem inf_shift (u : Tx) (a i : Nat) : infT u a i = infT u 0 (a + i) := by unfold infT; rw [Nat.zero_add]
theorem per_zero {u : Tx} (h : 0 < u.length) {a p : Nat} (hp : Per (infT u a) p) : Per (infT u 0) p := fun i => by
  rw [← inf_zero h a, ← inf_zero h a]
  have : i + p + a * (u.length - 1) = i + a * (u.length - 1) + p := by lia
  rw [this, hp]
theorem perT_of {u : Tx} {p : Nat} (h1 : 1 ≤ p) (h2 : p ≤ u.length) (hd : u.length % p = 0) (hp : Per (infT u 0) p) : perT u p = true := by
  unfold perT
  rw [decide_eq_true_eq]
  have hl : (u.take p).length = p := by rw [List.length_take]; lia
  have hm : u.length / p * p = u.length := by
    have := Nat.mod_add_div u.length p
    rw [Nat.mul_comm] at this; lia
  apply List.ext_getElem?
  intro i
  by_cases hi : i < u.length
  · rw [rep_get _ _ _ (by rw [hl, hm]; exact hi), hl, getD_eq hi]
    congr 1
    have hip : i % p < p := Nat.mod_lt _ (by lia)
    have e1 : (u.take p).getD (i % p) 0 = u.getD (i % p) 0 := by
      rw [List.getD_eq_getElem?_getD, List.getElem?_take, if_pos hip, ← List.getD_eq_getElem?_getD]
    rw [e1]
    have := hp.mod i
    unfold infT at this
    rw [Nat.zero_add, Nat.zero_add, Nat.mod_eq_of_lt hi, Nat.mod_eq_of_lt (show i % p < u.length by lia)] at this
    exact this.symm
  · rw [List.getElem?_eq_none_iff.mpr (by lia), List.getElem?_eq_none_iff.mpr (by rw [rep_flat_len, hl, hm]; lia)]
theorem of_perT {u : Tx} {p : Nat} (h1 : 1 ≤ p) (h2 : p ≤ u.length) (h : perT u p = true) : u.length / p * p = u.length ∧ ∀ i, i < u.length → u.getD i 0 = u.getD (i % p) 0 := by
  unfold perT at h
  have h := of_decide_eq_true h
  have hl : (u.take p).length = p := by rw [List.length_take]; lia
  have hm : u.length / p * p = u.length := by
    have := congrArg List.length h
    rw [rep_flat_len, hl] at this
    exact this.symm
  refine ⟨hm, fun i hi => ?_⟩
  have e := rep_get (u.take p) (u.length / p) i (by rw [hl, hm]; exact hi)
  rw [← h, hl, getD_eq hi] at e
  have e := Option.some.inj e
  rw [e, List.getD_eq_getElem?_getD, List.getElem?_take, if_pos (Nat.mod_lt _ (by lia)), ← List.getD_eq_getElem?_getD]

section
variable {u : Tx} (hu : u ≠ [])
include hu
theorem part_inf (a : Nat) : infT u a = infT (u.take (sizeT u)) a := by
  obtain ⟨s1, s2, s3, s4⟩ := sizeT_spec hu
  obtain ⟨hm, he⟩ := of_perT s1 s2 s3
  funext i
  unfold infT
  have hl : (u.take (sizeT u)).length = sizeT u := by rw [List.length_take]; lia
  have hd : sizeT u ∣ u.length := ⟨u.length / sizeT u, by rw [Nat.mul_comm]; exact hm.symm⟩
  rw [hl, he _ (Nat.mod_lt _ (by lia)), Nat.mod_mod_of_dvd _ hd]
  rw [List.getD_eq_getElem?_getD, List.getD_eq_getElem?_getD, List.getElem?_take, if_pos (Nat.mod_lt _ (by lia))]
theorem part_per (a : Nat) : Per (infT u a) (sizeT u) := by
  obtain ⟨s1, s2, s3, s4⟩ := sizeT_spec hu
  have := inf_per (u.take (sizeT u)) a
  rw [List.length_take, Nat.min_eq_left s2] at this
  rw [part_inf hu a]; exact this
theorem part_least (a p : Nat) (h1 : 1 ≤ p) (hp : Per (infT u a) p) : sizeT u ≤ p := by
  obtain ⟨s1, s2, s3, s4⟩ := sizeT_spec hu
  refine Nat.le_of_not_lt fun hlt => ?_
  obtain ⟨r, ⟨r1, r2⟩, r3⟩ := least_of (fun p => 1 ≤ p ∧ Per (infT u a) p) ⟨p, h1, hp⟩
  have hrp : r ≤ p := Nat.le_of_not_lt fun q => r3 p q ⟨h1, hp⟩
  have hd : u.length % r = 0 := by
    rcases Nat.eq_zero_or_pos (u.length % r) with q | q
    · exact q
    · exact (r3 _ (Nat.mod_lt _ (by lia)) ⟨q, (inf_per u a).modP r2⟩).elim
  have := perT_of (u := u) r1 (by lia) hd (per_zero (by lia) r2)
  rw [s4 r r1 (by lia)] at this
  cases this
theorem part_prim : Prim (u.take (sizeT u)) := by
  obtain ⟨s1, s2, s3, s4⟩ := sizeT_spec hu
  have hl : (u.take (sizeT u)).length = sizeT u := by rw [List.length_take]; lia
  intro b c hbc hc h
  rw [hl] at hc
  have hper : Per (infT (u.take (sizeT u)) 0) (c - b) := fun i => by
    have h1 := inf_zero (u := u.take (sizeT u)) (by lia) b i
    have h2 := congrFun h (i + b * ((u.take (sizeT u)).length - 1))
    rw [h1, inf_shift _ c] at h2
    rw [h2]
    have e : c + (i + b * ((u.take (sizeT u)).length - 1)) = i + (c - b) + b * (u.take (sizeT u)).length := by
      obtain ⟨k, hk⟩ : ∃ k, (u.take (sizeT u)).length = k + 1 := ⟨sizeT u - 1, by lia⟩
      rw [hk, Nat.add_sub_cancel, Nat.mul_succ]; lia
    rw [e, (inf_per (u.take (sizeT u)) 0).mul]
  rw [← part_inf hu 0] at hper
  have := part_least hu 0 _ (by lia) hper
  lia
end

noncomputable def perI (x : Om) : Nat := Classical.epsilon fun p => (1 ≤ p ∧ Per x p) ∧ ∀ m, 1 ≤ m → Per x m → p ≤ m
theorem perI_eq {x : Om} {s : Nat} (h1 : 1 ≤ s) (h2 : Per x s) (h3 : ∀ p, 1 ≤ p → Per x p → s ≤ p) : perI x = s := by
  have := Classical.epsilon_spec (p := fun p => (1 ≤ p ∧ Per x p) ∧ ∀ m, 1 ≤ m → Per x m → p ≤ m) ⟨s, ⟨h1, h2⟩, h3⟩
  exact Nat.le_antisymm (this.2 s h1 h2) (h3 _ this.1.1 this.1.2)
noncomputable def rootI (x : Om) : Tx := pre (perI x) x
noncomputable def goodI (x : Om) : Bool := decide (rootI x = minT (turnsT (rootI x)))

theorem turn_turn {v : Tx} {b c : Nat} (hb : b < v.length) (hc : c < v.length) : turnT (turnT v b) c = turnT v ((b + c) % v.length) := by
  have hm : (b + c) % v.length < v.length := Nat.mod_lt _ (by lia)
  rw [turn_pre (by rw [turn_len]; exact hc), turn_pre hm, turn_len]
  refine pre_ext fun i hi => ?_
  have h1 := inf_turn hb (c + i)
  show (turnT v b).getD ((c + i) % (turnT v b).length) 0 = _
  rw [turn_len, h1]
  unfold infT
  rw [Nat.mod_add_mod, Nat.add_assoc]
theorem min_turn {v : Tx} {b : Nat} (hb : b < v.length) : minT (turnsT (turnT v b)) = minT (turnsT v) := by
  have hne : turnsT v ≠ [] := fun q => by have := congrArg List.length q; rw [turns_len] at this; simp at this; rw [this] at hb; simp at hb
  have mem : ∀ {w : Tx} {y : Tx}, y ∈ turnsT w ↔ ∃ c, c < w.length ∧ turnT w c = y := fun {w y} => by
    unfold turnsT
    rw [List.mem_map]
    exact ⟨fun ⟨c, h, e⟩ => ⟨c, List.mem_range.mp h, e⟩, fun ⟨c, h, e⟩ => ⟨c, List.mem_range.mpr h, e⟩⟩
  refine minT_eq ?_ fun y hy => ?_
  · obtain ⟨c, hc, e⟩ := mem.mp (minT_mem hne)
    refine mem.mpr ⟨(c + v.length - b) % v.length, by rw [turn_len]; exact Nat.mod_lt _ (by lia), ?_⟩
    rw [turn_turn hb (Nat.mod_lt _ (by lia)), ← e, Nat.add_mod_mod]
    have : b + (c + v.length - b) = c + v.length := by lia
    rw [this, Nat.add_mod_right, Nat.mod_eq_of_lt hc]
  · obtain ⟨c, hc, rfl⟩ := mem.mp hy
    rw [turn_len] at hc
    rw [turn_turn hb hc]
    exact minT_le (mem.mpr ⟨_, Nat.mod_lt _ (by lia), rfl⟩)
theorem one_in {s b : Nat} (hb : b < s) : ((List.range s).filter fun a => decide (a = b)).length = 1 := by
  induction s with
  | zero => lia
  | succ s ih =>
    rw [List.range_succ, List.filter_append, List.length_append]
    rcases Nat.lt_or_ge b s with q | q
    · rw [ih q]
      have : decide (s = b) = false := decide_eq_false (by lia)
      simp [this]
    · have e : b = s := by lia
      subst e
      have : (List.range b).filter (fun a => decide (a = b)) = [] := List.filter_eq_nil_iff.mpr fun a ha => by have := List.mem_range.mp ha; simp; lia
      rw [this]; simp
theorem each_in {s b : Nat} (hb : b < s) (k : Nat) : ((List.range (k * s)).filter fun a => decide (a % s = b)).length = k := by
  induction k with
  | zero => simp
  | succ k ih =>
    rw [Nat.succ_mul, List.range_add, List.filter_append, List.length_append, ih, List.filter_map, List.length_map]
    congr 1
    rw [← one_in hb]
    refine congrArg _ (List.filter_congr fun a ha => ?_)
    have := List.mem_range.mp ha
    show decide ((k * s + a) % s = b) = _
    rw [Nat.mul_comm, Nat.mul_add_mod, Nat.mod_eq_of_lt this]
theorem part_row {u : Tx} (hu : u ≠ []) (a : Nat) : rootI (infT u a) = turnT (u.take (sizeT u)) (a % sizeT u) := by
  obtain ⟨s1, s2, s3, s4⟩ := sizeT_spec hu
  have hl : (u.take (sizeT u)).length = sizeT u := by rw [List.length_take]; lia
  unfold rootI
  rw [perI_eq s1 (part_per hu a) (part_least hu a), turn_pre (by rw [hl]; exact Nat.mod_lt _ (by lia)), hl, part_inf hu a]
  refine pre_ext fun i hi => ?_
  unfold infT
  rw [hl, Nat.mod_add_mod]
theorem part_good {u : Tx} (hu : u ≠ []) (a : Nat) : goodI (infT u a) = decide (turnT (u.take (sizeT u)) (a % sizeT u) = partOf u) := by
  obtain ⟨s1, s2, s3, s4⟩ := sizeT_spec hu
  have hl : (u.take (sizeT u)).length = sizeT u := by rw [List.length_take]; lia
  unfold goodI
  rw [part_row hu, min_turn (by rw [hl]; exact Nat.mod_lt _ (by lia))]
  rfl
/-- the parts of a word are read off its rows -/
theorem parts_row {u : Tx} (hu : u ≠ []) : ((EX u).filter fun e => goodI e.1).map (fun e => rootI e.1) = partsOf u := by
  obtain ⟨s1, s2, s3, s4⟩ := sizeT_spec hu
  obtain ⟨hm, _⟩ := of_perT s1 s2 s3
  have hl : (u.take (sizeT u)).length = sizeT u := by rw [List.length_take]; lia
  have hpos : u.take (sizeT u) ≠ [] := fun q => by rw [q] at hl; simp at hl; lia
  unfold partsOf
  rw [List.eq_replicate_iff]
  unfold EX
  rw [List.filter_map, List.map_map, List.length_map]
  refine ⟨?_, fun y hy => ?_⟩
  · have hne : turnsT (u.take (sizeT u)) ≠ [] := fun q => by have := congrArg List.length q; rw [turns_len, hl] at this; simp at this; lia
    obtain ⟨b, hb, e⟩ := List.mem_map.mp (minT_mem hne)
    have hb := List.mem_range.mp hb
    rw [hl] at hb
    have e : turnT (u.take (sizeT u)) b = partOf u := e
    have : (List.range u.length).filter ((fun e : OmE => goodI e.1) ∘ fun a => (infT u a, infT u a (u.length - 1))) = (List.range u.length).filter fun a => decide (a % sizeT u = b) := by
      refine List.filter_congr fun a ha => ?_
      show goodI (infT u a) = _
      rw [part_good hu]
      have ham : a % sizeT u < sizeT u := Nat.mod_lt _ (by lia)
      by_cases q : a % sizeT u = b
      · rw [q, e]; simp
      · rw [decide_eq_false q]
        refine decide_eq_false fun r => ?_
        rw [← e] at r
        rw [turn_pre (by lia), turn_pre (by lia), hl] at r
        have eq : infT (u.take (sizeT u)) (a % sizeT u) = infT (u.take (sizeT u)) b := tie_one (inf_per _ _) (inf_per _ _) (by lia) fun i hi => pre_inj r (by lia)
        rcases Nat.lt_or_ge (a % sizeT u) b with z | z
        · exact part_prim hu _ _ z (by lia) eq
        · exact part_prim hu _ _ (show b < a % sizeT u by lia) (by lia) eq.symm
    rw [this, ← hm, each_in hb, Nat.mul_div_cancel _ (by lia)]
  · obtain ⟨a, ha, rfl⟩ := List.mem_map.mp hy
    have h := (List.mem_filter.mp ha).2
    have h : goodI (infT u a) = true := h
    rw [part_good hu] at h
    show rootI (infT u a) = partOf u
    rw [part_row hu]; exact of_decide_eq_true h
theorem parts_rows {l : List Tx} (hl : ∀ u ∈ l, u ≠ []) : ((l.flatMap EX).filter fun e => goodI e.1).map (fun e => rootI e.1) = partsT l := by
  induction l with
  | nil => rfl
  | cons u l ih =>
    rw [List.flatMap_cons, List.filter_append, List.map_append, parts_row (hl u (.head _)), ih fun x hx => hl x (.tail _ hx)]
    rfl
theorem parts_prim {w : Tx} (hw : w ≠ []) (h : Prim w) : partsOf w = [minT (turnsT w)] := by
  obtain ⟨s1, s2, s3, s4⟩ := sizeT_spec hw
  have e : sizeT w = w.length := by
    refine Nat.le_antisymm s2 (Nat.le_of_not_lt fun q => ?_)
    refine h 0 (sizeT w) (by lia) q (funext fun i => ?_)
    have := part_per hw 0 i
    rw [inf_shift w (sizeT w), Nat.add_comm, this]
  unfold partsOf partOf
  rw [e, Nat.div_self (List.length_pos_iff.mpr hw), List.take_length]; rfl
theorem parts_wheels (t : Tx) (hz : t.length ≤ 1000) : partsT (wheelsT t) = (wheelsT t).map fun w => minT (turnsT w) := by
  have : ∀ l : List Tx, (∀ w ∈ l, w ≠ [] ∧ Prim w) → partsT l = l.map fun w => minT (turnsT w) := fun l => by
    induction l with
    | nil => intro _; rfl
    | cons w l ih =>
      intro h
      have e : partsT (w :: l) = partsOf w ++ partsT l := rfl
      rw [e, parts_prim (h w (.head _)).1 (h w (.head _)).2, ih fun x hx => h x (.tail _ hx)]; rfl
  exact this _ fun w hw => wheels_prim hz hw
/-- the wheels of the text, told by their least turn, are the words' shortest parts -/
theorem parts_least {l : List Tx} (hl : ∀ u ∈ l, u ≠ []) (hz : l.flatten.length ≤ 20) : (partsT l).Perm ((wheelsT (togT l)).map fun w => minT (turnsT w)) := by
  have ht : (togT l).length ≤ 1000 := by rw [text_len hz]; lia
  rw [← parts_wheels _ ht, ← parts_rows hl, ← parts_rows fun w hw => (wheels_prim ht hw).1]
  exact (((text_rows hz).symm.filter _).map _)
end Mine
end
noncomputable section
open PySem PySem.W PyProof.Rows
set_option Elab.async false
set_option linter.unusedVariables false
set_option maxRecDepth 10000
namespace Mine

/-! words cut off -/
theorem cut_spec : ∀ (n : Nat) (t : Tx) (r : Nat), t.length ≤ n → (cutT n t r).flatten = t ∧ ∀ w ∈ cutT n t r, w ≠ []
  | 0, t, r, h => by
    have : t = [] := List.length_eq_zero_iff.mp (by lia)
    subst this
    exact ⟨rfl, fun w hw => nomatch hw⟩
  | n + 1, t, r, h => by
    unfold cutT
    by_cases q : t = []
    · rw [if_pos q, q]; exact ⟨rfl, fun w hw => nomatch hw⟩
    · rw [if_neg q]
      have hp := List.length_pos_iff.mpr q
      obtain ⟨h1, h2⟩ := cut_spec n (t.drop (1 + r % 8)) (r / 8) (by rw [List.length_drop]; lia)
      refine ⟨by rw [List.flatten_cons, h1, List.take_append_drop], fun w hw => ?_⟩
      rcases List.mem_cons.mp hw with z | z
      · rw [z]; intro e
        have := congrArg List.length e
        rw [List.length_take, List.length_nil] at this
        lia
      · exact h2 w z
theorem count_len {l : List Tx} (h : ∀ w ∈ l, w ≠ []) : l.length ≤ l.flatten.length := by
  induction l with
  | nil => exact Nat.le_refl _
  | cons w l ih =>
    rw [List.length_cons, List.flatten_cons, List.length_append]
    have := ih fun x hx => h x (.tail _ hx)
    have := List.length_pos_iff.mpr (h w (.head _))
    lia

/-! bags by counting -/
def upT (c : Tx → Nat) (t : Tx) : Tx → Nat := fun z => if z = t then c z + 1 else c z
def ovT : (Tx → Nat) → List Tx → List Tx
  | _, [] => []
  | c, y :: r => if c y = 0 then y :: ovT c r else ovT (fun z => if z = y then c z - 1 else c z) r
theorem ov_zero : ∀ l : List Tx, ovT (fun _ => 0) l = l
  | [] => rfl
  | y :: l => by rw [ovT, if_pos rfl, ov_zero l]
theorem mem_ov {t : Tx} : ∀ (l : List Tx) (c : Tx → Nat), t ∈ ovT c l ↔ c t < l.count t
  | [], c => by simp [ovT]
  | y :: l, c => by
    rw [ovT]
    by_cases h : c y = 0
    · rw [if_pos h, List.mem_cons, mem_ov l c]
      by_cases q : t = y
      · subst q; rw [List.count_cons_self]; simp; lia
      · rw [List.count_cons_of_ne (fun e => q e.symm)]; simp [q]
    · rw [if_neg h, mem_ov l _]
      by_cases q : t = y
      · subst q; rw [List.count_cons_self]; simp; lia
      · rw [List.count_cons_of_ne (fun e => q e.symm)]; simp [q]
theorem erase_ov {t : Tx} : ∀ (l : List Tx) (c : Tx → Nat), t ∈ ovT c l → (ovT c l).erase t = ovT (upT c t) l
  | [], c, h => by simp [ovT] at h
  | y :: l, c, h => by
    rw [ovT] at h ⊢
    rw [ovT]
    by_cases k : c y = 0
    · rw [if_pos k] at h ⊢
      by_cases q : t = y
      · subst q
        rw [List.erase_cons_head, if_neg (by simp [upT])]
        congr 1
        funext z
        unfold upT
        by_cases e : z = t
        · simp [e]
        · simp [e]
      · have h' : t ∈ ovT c l := by
          rcases List.mem_cons.mp h with z | z
          · exact (q z).elim
          · exact z
        rw [List.erase_cons_tail (by simpa using fun e : y = t => q e.symm), erase_ov l c h', if_pos (by unfold upT; rw [if_neg (fun e : y = t => q e.symm)]; exact k)]
    · rw [if_neg k] at h ⊢
      rw [erase_ov l _ h, if_neg (by unfold upT; split <;> lia)]
      congr 1
      funext z
      unfold upT
      by_cases e : z = y
      · subst e
        by_cases q : z = t
        · simp [q]; subst q; lia
        · simp [q]
      · simp [e]
theorem ov_more {t : Tx} : ∀ (l : List Tx) (c : Tx → Nat), l.count t ≤ c t → ovT (upT c t) l = ovT c l
  | [], c, h => by simp [ovT]
  | y :: l, c, h => by
    rw [ovT, ovT]
    by_cases q : y = t
    · subst q
      rw [List.count_cons_self] at h
      rw [if_neg (by simp [upT]), if_neg (by lia), ← ov_more (t := y) l (fun z => if z = y then c z - 1 else c z) (by simp; lia)]
      congr 1
      funext z
      unfold upT
      by_cases e : z = y
      · simp [e]; lia
      · simp [e]
    · rw [List.count_cons_of_ne q] at h
      have e : upT c t y = c y := by unfold upT; rw [if_neg q]
      rw [e]
      split
      · rw [ov_more l c h]
      · rw [← ov_more (t := t) l (fun z => if z = y then c z - 1 else c z) (show l.count t ≤ if t = y then c t - 1 else c t by rw [if_neg fun e : t = y => q e.symm]; exact h)]
        congr 1
        funext z
        unfold upT
        by_cases e : z = y
        · subst e; simp [q]
        · simp [e]
theorem ov_snoc (y : Tx) : ∀ (l : List Tx) (c : Tx → Nat), ovT c (l ++ [y]) = ovT c l ++ if c y ≤ l.count y then [y] else []
  | [], c => by
    rw [List.nil_append, ovT, ovT, ovT, ovT, List.count_nil]
    by_cases h : c y = 0
    · rw [if_pos h, if_pos (by lia)]; rfl
    · rw [if_neg h, if_neg (by lia)]; rfl
  | x :: l, c => by
    rw [List.cons_append, ovT, ovT, ov_snoc y l, ov_snoc y l]
    by_cases q : x = y
    · subst q
      rw [List.count_cons_self]
      by_cases h : c x = 0
      · rw [if_pos h, if_pos h, if_pos (by lia), if_pos (by lia), List.cons_append]
      · rw [if_neg h, if_neg h]
        congr 1
        simp only [if_true]
        by_cases z : c x ≤ l.count x + 1
        · rw [if_pos z, if_pos (by lia)]
        · rw [if_neg z, if_neg (by lia)]
    · rw [List.count_cons_of_ne q]
      have : (if y = x then c y - 1 else c y) = c y := if_neg fun e => q e.symm
      rw [this]
      by_cases h : c x = 0
      · rw [if_pos h, if_pos h, List.cons_append]
      · rw [if_neg h, if_neg h]
theorem over_eq (one two : List Tx) : ovT (fun z => one.count z) two = overT one two := by
  have : ∀ k, k ≤ two.length → ovT (fun z => one.count z) (two.take k) = (((List.range k).filter fun i => decide (one.count (two.getD i []) < (two.take (i + 1)).count (two.getD i []))).map fun i => two.getD i []) := fun k => by
    induction k with
    | zero => intro _; rfl
    | succ k ih =>
      intro hk
      have hg : two[k]? = some (two.getD k []) := by rw [List.getD_eq_getElem?_getD, List.getElem?_eq_getElem (by lia)]; rfl
      have ht : two.take (k + 1) = two.take k ++ [two.getD k []] := by rw [List.take_add_one, hg]; rfl
      rw [List.range_succ, List.filter_append, List.map_append, ← ih (by lia), ht, ov_snoc]
      congr 1
      rw [List.filter_cons, ht, List.count_append, List.count_singleton_self]
      by_cases q : one.count (two.getD k []) ≤ (two.take k).count (two.getD k [])
      · rw [if_pos q, if_pos (decide_eq_true (by lia))]; rfl
      · rw [if_neg q, if_neg (by rw [decide_eq_false (by lia)]; decide)]; rfl
  have e := this two.length (Nat.le_refl _)
  rw [List.take_length] at e
  exact e
theorem back_succ (m : Nat) : backL (m + 1) = m :: backL m := by
  unfold backL
  rw [List.range_succ_eq_map, List.map_cons, List.map_map]
  refine congr (congrArg _ (by lia)) (List.map_congr_left fun j _ => ?_)
  show m + 1 - 1 - (j + 1) = m - 1 - j
  lia
theorem diff_go (one two : List Tx) : ∀ (k : Nat) (miss : List Tx), k ≤ one.length → diffGo (one.take k).reverse (ovT (fun z => (one.drop k).count z) two) miss =
    (miss ++ (((backL k).filter fun i => decide (two.count (one.getD i []) < (one.drop i).count (one.getD i []))).map fun i => one.getD i []), ovT (fun z => one.count z) two)
  | 0, miss, h => by simp [diffGo, backL]
  | k + 1, miss, h => by
    have hg : one[k]? = some (one.getD k []) := by rw [List.getD_eq_getElem?_getD, List.getElem?_eq_getElem (by lia)]; rfl
    have ht : one.take (k + 1) = one.take k ++ [one.getD k []] := by rw [List.take_add_one, hg]; rfl
    have hd : one.drop k = one.getD k [] :: one.drop (k + 1) := by
      rw [List.drop_eq_getElem_cons (by lia)]
      congr 1
      rw [List.getD_eq_getElem?_getD, List.getElem?_eq_getElem (by lia)]; rfl
    rw [ht, List.reverse_append, List.reverse_singleton, List.singleton_append, diffGo, back_succ, List.filter_cons]
    have hup : (fun z => (one.drop k).count z) = upT (fun z => (one.drop (k + 1)).count z) (one.getD k []) := by
      funext z
      rw [hd]
      unfold upT
      by_cases q : z = one.getD k []
      · rw [if_pos q, q, List.count_cons_self]
      · rw [if_neg q, List.count_cons_of_ne (fun e => q e.symm)]
    have hc : (one.drop k).count (one.getD k []) = (one.drop (k + 1)).count (one.getD k []) + 1 := by rw [hd, List.count_cons_self]
    by_cases q : one.getD k [] ∈ ovT (fun z => (one.drop (k + 1)).count z) two
    · rw [if_pos q, erase_ov _ _ q, ← hup, diff_go one two k miss (by lia)]
      have q' := (mem_ov _ _).mp q
      rw [if_neg (by rw [decide_eq_false (by lia)]; decide)]
    · rw [if_neg q]
      have q' : ¬ _ := fun z => q ((mem_ov _ _).mpr z)
      rw [← ov_more two _ (Nat.not_lt.mp q'), ← hup, diff_go one two k _ (by lia)]
      rw [if_pos (decide_eq_true (by lia)), List.map_cons, List.append_assoc]; rfl
theorem bags_true (one two : List Tx) : bagsT one two = true := by
  have h := diff_go one two one.length [] (Nat.le_refl _)
  rw [List.take_length, List.drop_length] at h
  have e : ovT (fun z => List.count z ([] : List Tx)) two = two := ov_zero two
  rw [e, over_eq] at h
  have h1 : diffT one two = (lackT one two, overT one two) := h
  unfold bagsT
  rw [h1]; simp

/-! the listing -/
theorem and_nat (m b : Nat) : Builtin.bitAnd (m : Int) (b : Int) = ((m &&& b : Nat) : Int) := by
  unfold Builtin.bitAnd
  have h1 : decide (0 ≤ (m : Int)) = true := decide_eq_true (Int.natCast_nonneg m)
  have h2 : decide (0 ≤ (b : Int)) = true := decide_eq_true (Int.natCast_nonneg b)
  rw [h1, h2]; rfl
theorem has_bits {c : Nat} (l : List Nat) (hl : ∀ i, i < 16 → (Nat.testBit c i = true ↔ i ∈ l)) (hc : c < 2 ^ 16) (hl' : ∀ i ∈ l, i < 16) (m : Nat) : (m &&& c = c) ↔ ∀ i ∈ l, m / 2 ^ i % 2 = 1 := by
  have hb : ∀ i, Nat.testBit c i = true ↔ i ∈ l := fun i => by
    rcases Nat.lt_or_ge i 16 with q | q
    · exact hl i q
    · rw [Nat.testBit_lt_two_pow (Nat.lt_of_lt_of_le hc (Nat.pow_le_pow_right (by lia) q))]
      constructor
      · intro h; cases h
      · intro h; have := hl' i h; lia
  constructor
  · intro h i hi
    have := congrArg (fun x => Nat.testBit x i) h
    simp only [Nat.testBit_and, (hb i).mpr hi, Bool.and_true] at this
    rw [Nat.testBit_eq_decide_div_mod_eq] at this
    exact of_decide_eq_true this
  · intro h
    apply Nat.eq_of_testBit_eq
    intro i
    rw [Nat.testBit_and]
    cases q : Nat.testBit c i with
    | false => rw [Bool.and_false]
    | true => rw [Bool.and_true, Nat.testBit_eq_decide_div_mod_eq, decide_eq_true (h i ((hb i).mp q))]
theorem hit_eq {i : Nat} (hi : i ≠ 0) {m c : Nat} {p : Prop} [Decidable p] (h : (m &&& c = c) ↔ p) : hitT i (m : Int) c = decide p := by
  unfold hitT
  rw [if_neg hi, and_nat]
  by_cases q : p
  · rw [decide_eq_true q, h.mpr q]; simp
  · rw [decide_eq_false q, beq_eq_false_iff_ne]
    intro e
    exact q (h.mp (by lia))
theorem kind_bits (m : Nat) : m &&& 61440 = m / 4096 % 16 * 4096 := by
  apply Nat.eq_of_testBit_eq
  intro i
  have e : m / 4096 % 16 * 4096 = 2 ^ 12 * (m / 2 ^ 12 % 2 ^ 4) := by rw [Nat.mul_comm]
  have e2 : (61440 : Nat) = 2 ^ 12 * (2 ^ 4 - 1) := by decide
  rw [e, e2, Nat.testBit_and, Nat.testBit_two_pow_mul, Nat.testBit_two_pow_mul, Nat.testBit_mod_two_pow, Nat.testBit_div_two_pow, Nat.testBit_two_pow_sub_one]
  by_cases q : 12 ≤ i
  · have : i - 12 + 12 = i := by lia
    simp only [this, q, decide_true, Bool.true_and]
    rw [Bool.and_comm]
  · simp [q]
theorem kind_sign (m : Nat) : pickT 0 (m : Int) [(40960, 108), (49152, 115), (32768, 45), (24576, 98), (16384, 100), (8192, 99), (4096, 112)] = [63, 112, 99, 63, 100, 63, 98, 63, 45, 63, 108, 63, 115, 63, 63, 63].getD (m / 4096 % 16) 63 := by
  have hit : ∀ b : Nat, hitT 0 (m : Int) b = decide (m / 4096 % 16 * 4096 = b) := fun b => by
    unfold hitT
    have := and_nat m 61440
    rw [if_pos rfl, show (61440 : Int) = ((61440 : Nat) : Int) from rfl, this, kind_bits]
    by_cases q : m / 4096 % 16 * 4096 = b
    · rw [decide_eq_true q, q]; simp
    · rw [decide_eq_false q, beq_eq_false_iff_ne]; lia
  unfold pickT
  simp only [hit]
  have hk : m / 4096 % 16 < 16 := Nat.mod_lt _ (by decide)
  generalize m / 4096 % 16 = k at hk
  have : ∀ k, k < 16 → (match ([(40960, 108), (49152, 115), (32768, 45), (24576, 98), (16384, 100), (8192, 99), (4096, 112)] : List (Nat × Nat)).find? (fun e => decide (k * 4096 = e.1)) with
    | some e => e.2
    | none => if (0 : Nat) = 0 then 63 else 45) = [63, 112, 99, 63, 100, 63, 98, 63, 45, 63, 108, 63, 115, 63, 63, 63].getD k 63 := by decide
  exact this k hk
theorem one_sign {i : Nat} (hi : i ≠ 0) {m c x : Nat} {p : Prop} [Decidable p] (h : (m &&& c = c) ↔ p) : pickT i (m : Int) [(c, x)] = if p then x else 45 := by
  unfold pickT
  rw [List.find?_cons]
  dsimp only
  rw [hit_eq hi h]
  by_cases q : p
  · rw [decide_eq_true q, if_pos q]
  · rw [decide_eq_false q, if_neg q, if_neg hi]; rfl
theorem three_sign {i : Nat} (hi : i ≠ 0) {m c d e x y z : Nat} {p q : Prop} [Decidable p] [Decidable q] (h1 : (m &&& c = c) ↔ p ∧ q) (h2 : (m &&& d = d) ↔ p) (h3 : (m &&& e = e) ↔ q) :
    pickT i (m : Int) [(c, x), (d, y), (e, z)] = if p then (if q then x else y) else (if q then z else 45) := by
  unfold pickT
  rw [List.find?_cons, List.find?_cons, List.find?_cons]
  dsimp only
  rw [hit_eq hi h1, hit_eq hi h2, hit_eq hi h3]
  by_cases k1 : p <;> by_cases k2 : q <;> simp [k1, k2, hi]
theorem bit1 {k : Nat} (hk : k < 16) (m : Nat) : (m &&& 2 ^ k = 2 ^ k) ↔ m / 2 ^ k % 2 = 1 := by
  have := has_bits (c := 2 ^ k) [k] (fun i _ => by rw [Nat.testBit_two_pow]; simp [eq_comm]) (Nat.pow_lt_pow_right (by lia) hk) (fun i hi => by rw [List.mem_singleton.mp hi]; exact hk) m
  rw [this]
  constructor
  · intro h; exact h k (.head _)
  · intro h i hi; rw [List.mem_singleton.mp hi]; exact h
theorem bit2 {c : Nat} (j k : Nat) (hl : ∀ i, i < 16 → (Nat.testBit c i = true ↔ i ∈ [j, k])) (hc : c < 2 ^ 16) (hj : j < 16) (hk : k < 16) (m : Nat) : (m &&& c = c) ↔ m / 2 ^ j % 2 = 1 ∧ m / 2 ^ k % 2 = 1 := by
  rw [has_bits [j, k] hl hc (fun i hi => by simp at hi; lia) m]
  constructor
  · intro h; exact ⟨h j (.head _), h k (.tail _ (.head _))⟩
  · rintro ⟨h1, h2⟩ i hi
    rcases List.mem_cons.mp hi with q | q
    · rw [q]; exact h1
    · rw [List.mem_singleton.mp q]; exact h2
theorem dig4 (m a : Nat) : m / (a * 4) % 2 = m / a % 8 / 4 % 2 := by
  rw [← Nat.div_div_eq_div_mul]
  generalize m / a = x
  lia
theorem dig2 (m a : Nat) : m / (a * 2) % 2 = m / a % 8 / 2 % 2 := by
  rw [← Nat.div_div_eq_div_mul]
  generalize m / a = x
  lia
theorem dig1 (m a : Nat) : m / a % 2 = m / a % 8 % 2 := by
  generalize m / a = x
  lia
theorem digAt (m a b c : Nat) : m % (a * (b * c)) / a % b = m / a % b := by
  rw [Nat.mod_mul_right_div_self, Nat.mod_mul_right_mod]
def TriOk (x y : Nat) (tl : List Nat) : Prop := ∀ d, d < 8 → ∀ h, h < 2 → [if d / 4 % 2 = 1 then 114 else 45, if d / 2 % 2 = 1 then 119 else 45, if h = 1 then (if d % 2 = 1 then x else y) else (if d % 2 = 1 then 120 else 45)] =
  [if 3 < d then 114 else 45, if d / 2 % 2 = 1 then 119 else 45, tl.getD (d % 2 + 2 * h) 0]
theorem tri_s : TriOk 115 83 [45, 120, 83, 115] := by unfold TriOk; decide
theorem tri_t : TriOk 116 84 [45, 120, 84, 116] := by unfold TriOk; decide
theorem tri_eq {x y : Nat} {tl : List Nat} (hd : TriOk x y tl) (m a s : Nat) (h1 : m % 4096 / a % 8 = m / a % 8) (h2 : m % 4096 / s % 2 = m / s % 2) :
    [if m / (a * 4) % 2 = 1 then 114 else 45, if m / (a * 2) % 2 = 1 then 119 else 45, if m / s % 2 = 1 then (if m / a % 2 = 1 then x else y) else (if m / a % 2 = 1 then 120 else 45)] =
    [if 3 < m % 4096 / a % 8 then 114 else 45, if m % 4096 / a % 8 / 2 % 2 = 1 then 119 else 45, tl.getD (m % 4096 / a % 8 % 2 + 2 * (m % 4096 / s % 2)) 0] := by
  rw [h1, h2, dig4, dig2, dig1 m a]
  exact hd _ (Nat.mod_lt _ (by decide)) _ (Nat.mod_lt _ (by decide))
theorem tri_pick {m a s c x y : Nat} {i : Nat} (hi : i ≠ 0) (j k l : Nat) (hj : j < 16) (hk : k < 16) (hl : l < 16) (b1 : m / 2 ^ j % 2 = m / (a * 4) % 2) (b2 : m / 2 ^ k % 2 = m / (a * 2) % 2) (b3 : m / 2 ^ l % 2 = m / a % 2) (h : (m &&& c = c) ↔ m / s % 2 = 1 ∧ m / a % 2 = 1) {d : Nat} (h' : (m &&& d = d) ↔ m / s % 2 = 1) :
    [pickT i (m : Int) [(2 ^ j, 114)], pickT (i + 1) (m : Int) [(2 ^ k, 119)], pickT (i + 2) (m : Int) [(c, x), (d, y), (2 ^ l, 120)]] =
    [if m / (a * 4) % 2 = 1 then 114 else 45, if m / (a * 2) % 2 = 1 then 119 else 45, if m / s % 2 = 1 then (if m / a % 2 = 1 then x else y) else (if m / a % 2 = 1 then 120 else 45)] := by
  rw [one_sign hi (bit1 hj m), one_sign (Nat.succ_ne_zero i) (bit1 hk m), three_sign (Nat.succ_ne_zero (i + 1)) h h' (b3 ▸ bit1 hl m), b1, b2]
theorem file_row (m : Nat) : fileT (m : Int) = rowT (m / 4096 % 16) (m % 4096) := by
  have e : fileT (m : Int) = [pickT 0 m (tabT.getD 0 [])] ++ [pickT 1 m [(2 ^ 8, 114)], pickT 2 m [(2 ^ 7, 119)], pickT 3 m [(2112, 115), (2048, 83), (2 ^ 6, 120)]] ++ [pickT 4 m [(2 ^ 5, 114)], pickT 5 m [(2 ^ 4, 119)], pickT 6 m [(1032, 115), (1024, 83), (2 ^ 3, 120)]] ++
    [pickT 7 m [(2 ^ 2, 114)], pickT 8 m [(2 ^ 1, 119)], pickT 9 m [(513, 116), (512, 84), (2 ^ 0, 120)]] := rfl
  have s0 : pickT 0 m (tabT.getD 0 []) = _ := kind_sign m
  have t1 := tri_pick (m := m) (a := 64) (s := 2048) (c := 2112) (x := 115) (y := 83) (i := 1) (by decide) 8 7 6 (by decide) (by decide) (by decide) rfl rfl rfl (bit2 (c := 2112) 11 6 (by decide) (by decide) (by decide) (by decide) m) (d := 2048) (bit1 (k := 11) (by decide) m)
  have t2 := tri_pick (m := m) (a := 8) (s := 1024) (c := 1032) (x := 115) (y := 83) (i := 4) (by decide) 5 4 3 (by decide) (by decide) (by decide) rfl rfl rfl (bit2 (c := 1032) 10 3 (by decide) (by decide) (by decide) (by decide) m) (d := 1024) (bit1 (k := 10) (by decide) m)
  have t3 := tri_pick (m := m) (a := 1) (s := 512) (c := 513) (x := 116) (y := 84) (i := 7) (by decide) 2 1 0 (by decide) (by decide) (by decide) rfl rfl rfl (bit2 (c := 513) 9 0 (by decide) (by decide) (by decide) (by decide) m) (d := 512) (bit1 (k := 9) (by decide) m)
  rw [e, s0, t1, t2, t3, tri_eq tri_s m 64 2048 (digAt m 64 8 8) (digAt m 2048 2 1), tri_eq tri_s m 8 1024 (digAt m 8 8 64) (digAt m 1024 2 2), tri_eq tri_t m 1 512 (digAt m 1 8 512) (digAt m 512 2 4)]
  rfl
end Mine
end
noncomputable section
open PySem PySem.Calls PySem.W PyProof.Rows
set_option Elab.async false
set_option maxRecDepth 100000
set_option linter.unusedVariables false
namespace Mine

/-! values that are no data -/
def EvP (c : Cx) (e : Expr) (P : Value → Prop) : Prop :=
  ∀ (A : Around) (s : Shared), Ok c.k c.fr A → c.S s.heap → wpAny c.M A (eval e c.env) (fun v s' => Keeps s s' ∧ P v) No s
def BV (l : List UInt8) (v : Value) : Prop := ∃ t, v = .bytes l.toArray t
def IV (i : Int) (v : Value) : Prop := ∃ t, v = .int i t

section
variable {c : Cx} {A : Around} {s s₁ s₂ : Shared} {v : Value} {d : PyData} {e e₁ e₂ e₃ : Expr} {pos p : Pos} {ds es : List PyData} {Q : Flow → Heap → Prop} {rest : List Stmt} {x y : Str} {a : Addr} {P : Value → Prop}
theorem EvP.var (hx : c.ρ.lookup x = some (.val v)) (hP : P v) (hd : (x == ("__debug__" : Str)) = false := by decide) (hc : (x == ("__classdict__" : Str)) = false := by decide) : EvP c (.Name x pos) P := fun A s ok S => by
  obtain ⟨u, ha, hv⟩ := S.vars x _ hx
  have hv' : u = v := hv
  subst hv'
  exact load_var S ha ⟨keeps_refl s, hP⟩ hd hc
theorem Ex.assignP {p' : Pos} (he : EvP c e P) (hx : Stores c x) (h : ∀ v, P v → Ex (c.set x (.val v)) rest Q) (hs : swapsWith e (some (.Name x p')) p.line c.env = pure false := by rfl) : Ex c (.Assign [.Name x p'] e p :: rest) Q := fun A s ok S => by
  refine wpAny_execs_cons (wpAny_Assign_Name (wp_of (he A s ok S) fun v s₁ g₁ => ?_) hs)
  refine wp_of (store_of (b := .val v) (v := v) (S.up g₁.1) hx rfl) fun _ s₂ g₂ => ?_
  exact wp_of (h v g₁.2 A s₂ ok g₂.2) fun f s₃ g₃ => ⟨(StepU.of_keeps g₁.1).tx (g₂.1.tx g₃.1), g₃.2⟩
theorem Ex.retP {p₁ : Pos} (he : EvP c e P) (h : ∀ g v, c.S g → P v → Q (.ret v) g) : Ex c (.Return (some e) p₁ :: rest) Q := fun A s ok S =>
  wpAny_execs_cons (wpAny_Return_some (wp_of (he A s ok S) fun v s₁ g => ⟨.of_keeps g.1, h _ v (S.up g.1) g.2⟩))

/-- an item of one of the frame's own lists -/
theorem Ev.ownItem {i : Int} {μ' : List (Addr × List PyData)} (hμ : c.μ = (a, ds) :: μ') (hx : c.ρ.lookup x = some (.val (.ref a))) (h0 : 0 ≤ i) (hd : ds[i.toNat]? = some d) (hz : ds.length ≤ 1000000) (ha : Atom d) (he : Ev (c.froze x a ds μ') e (.int i))
    (hs : ∀ o j, subscripted e false o j = operate [o, j] (getItem o j) := by intro _ _; rfl) (hdb : (x == ("__debug__" : Str)) = false := by decide) (hcd : (x == ("__classdict__" : Str)) = false := by decide) : Ev c (.Subscript (.Name x p) e pos) d :=
  Ev.frozen (a := a) (ds := ds) (μ' := μ') (x := x) (by rw [hμ]) hx ha (Ev.item (Ev.var (by show List.lookup x ((x, _) :: c.ρ) = _; rw [List.lookup_cons, beq_self_eq_true]) hdb hcd) he (.list _) (op_item_list h0 hd hz) hs)

/-- a cut of bytes -/
theorem EvP.cut {l : List UInt8} {n m : Nat} (h₁ : EvP c e₁ (BV l)) (h₂ : Ev c e₂ (.int (n : Int))) (h₃ : Ev c e₃ (.int (m : Int))) (hz : l.length ≤ 1000000) (hs : ∀ o i, subscripted (.Slice (some e₂) (some e₃) none p) false o i = operate [i, o] (getItem o i)) :
    EvP c (.Subscript e₁ (.Slice (some e₂) (some e₃) none p) pos) (BV ((l.drop n).take (m - n))) := fun A s ok S => by
  refine Subscript_ (wp_of (h₁ A s ok S) fun v₁ s₁ g₁ => ?_)
  have S₁ := S.up g₁.1
  refine wp_of (slice_of (pl := some (n : Int)) (ph := some (m : Int)) (ps := none) (st := none) h₂ h₃ trivial ok S₁) fun v₂ s₂ g₂ => ?_
  obtain ⟨k₂, b, vl, vu, vk, rfl, hg, p1, p2, p3⟩ := g₂
  obtain ⟨t, rfl⟩ := g₁.2
  cases p3
  have e2 : KBy.picked l.toArray (some (n : Int)) (some (m : Int)) = ((l.drop n).take (m - n)).toArray := by
    rw [KBc.picked_eq]
    show ((l.drop (clipAt l.toArray.size (n : Int))).take (clipAt l.toArray.size (m : Int) - clipAt l.toArray.size (n : Int))).toArray = _
    rw [clipAt_nat, clipAt_nat, List.size_toArray]
    congr 1
    rcases Nat.lt_or_ge l.length n with q | q
    · rw [Nat.min_eq_right (Nat.le_of_lt q), List.drop_length, List.drop_eq_nil_iff.mpr (Nat.le_of_lt q), List.take_nil, List.take_nil]
    · rw [Nat.min_eq_left q]
      rcases Nat.lt_or_ge l.length m with r | r
      · rw [Nat.min_eq_right (Nat.le_of_lt r), List.take_of_length_le (by rw [List.length_drop]; omega), List.take_of_length_le (by rw [List.length_drop]; omega)]
      · rw [Nat.min_eq_left r]
  refine tail_any (T := "bytes") (typeIs_bytes _ _ _) FB.slot_bytes_getitem.lookup ?_ (hs _ _)
  refine getItem_meets (typeIs_bytes _ _ _) (by decide) FB.slot_bytes_getitem FB.entry_bytes_getitem (FB.args_bytes_getitem_2 _ _) (KBc.meets_slice2 l.toArray t b p1 p2) ⟨⟨_, hg, rfl, rfl⟩, ?_, fun t' k => ?_⟩
  · rw [e2, List.size_toArray, List.length_take, List.length_drop]; exact sz8 (by omega)
  · exact ⟨keeps_trans g₁.1 (keeps_trans k₂ (keeps_tok _ k)), t', by rw [e2]⟩
theorem EvP.len {l : List UInt8} {np : Pos} (hn : NameIs c (Str.ofString "len") (.builtin "len")) (h : EvP c e (BV l)) (hz : l.length ≤ 1000000) (he : starEach [e] c.env = [(false, eval e c.env)] := by rfl) : Ev c (.Call (.Name (Str.ofString "len") np) [e] [] pos) (.int (l.length : Int)) := fun A s ok S =>
  wpAny_Call_NameR (hn A s np _ _ S (Calls.callWith_builtin (starEach_plain (by rw [he]; rfl) pos) (by
    rw [he]
    refine evalArgs_plain (x := eval e c.env) (rest := []) (Calls.spliced_cons (wp_of (h A s ok S) fun v s₁ g₁ => Calls.spliced_nil ?_))
    obtain ⟨t, rfl⟩ := g₁.2
    refine len_bytes (by rw [List.size_toArray]; omega) ⟨keeps_trans g₁.1 (keeps_tok _ _), ?_⟩
    rw [List.size_toArray]
    exact .int _ _)))

/-- a store into the one place of one of the frame's own lists -/
theorem setItem_own {prog : Program} {w : World} {l : Addr} {v₀ v : Value} {n : Nat} {t : Tok} {k : Int} {Q : Unit → Shared → Prop} {E : Value → Shared → Prop} (hl : s.heap.get? l = some (lo [v₀] n)) (hk : k = 0)
    (hQ : ∀ h', h'.get? l = some (lo [v] n) → Heap.SameBut l s.heap h' → Q () { s with heap := h' }) : wpAny (model prog w) A (setItem (.ref l) (.int k t) v) Q E s := by
  have hT : s.TypeIs (.ref l) "list" := ⟨_, hl, rfl⟩
  unfold setItem
  try with_reducible refine wpAny_holding ?_
  refine wpAny_bind (wpAny_sequenceKey hT (by decide) ?_)
  refine wpAny_bind (wpAny_callSpecial?_slot (name := Str.ofString "__setitem__") hT slot_list_setitem (wpAny_call_entry slot_list_setitem hT entry_list_setitem ?_ (args_list_setitem _ _ _)))
  show wpAny _ _ (Builtin.List.listSubscript? (.int k t) >>= _) _ _ s
  refine wpAny_bind (wpAny_listSubscript_int (fitsIndex_of (by omega) (by omega)) ?_)
  subst hk
  show wpAny _ _ ((seqItemAt l 0 >>= fun r => pure (r.map (0, ·))) >>= _) _ _ s
  refine wpAny_bind (wpAny_bind (wpAny_seqItemAt hl rfl (wpAny_pure ?_)))
  show wpAny _ _ (setSeqItemAt l 0 v >>= _) _ _ s
  have hfin := PySem.IsL.update hl fun xs => xs.setIfInBounds 0 v
  have hfin' : (s.heap.update l (Obj.mapSeq (·.setIfInBounds 0 v))).get? l = some (lo [v] n) := hfin
  refine wpAny_bind (wpAny_setSeqItemAt hl rfl ?_)
  first
    | exact wpAny_bind (wpAny_pure (wpAny_pure ⟨.none, rfl, wpAny_pure (hQ _ hfin' (Heap.SameBut.update ..))⟩))
    | exact wpAny_pure ⟨.none, rfl, wpAny_pure (hQ _ hfin' (Heap.SameBut.update ..))⟩
/-- x[0] += e -/
theorem Ex.augOwn {i j : Int} {k : Nat} {np kp tp p₁ : Pos} {μ' : List (Addr × List PyData)} (hμ : c.μ = (a, [.int i]) :: μ') (hx : c.ρ.lookup x = some (.val (.ref a))) (he : Ev c e (.int j)) (hr : Ex { c with μ := (a, [.int (i + j)]) :: μ' } rest Q)
    (hd : (x == ("__debug__" : Str)) = false := by decide) (hc : (x == ("__classdict__" : Str)) = false := by decide) :
    Ex c (.AugAssign (.Subscript (.Name x np) (.Constant (.int 0) k kp) tp) .Add e p₁ :: rest) Q := fun A s ok S => by
  obtain ⟨u, hv, hb⟩ := S.vars x _ hx
  have hb' : u = .ref a := hb
  subst hb'
  obtain ⟨haW, vs, n, hg, hrd⟩ := S.mutsW a [.int i] (by rw [hμ]; exact .head _)
  cases hrd with | cons r r' => cases r' with | nil => cases r with | int _ t₀ =>
  refine wpAny_execs_cons (wpAny_AugAssign_SubscriptAny (load_var S hv ?_ hd hc))
  refine wpAny_Constant_int ?_
  refine wpAny_getItem_list (items := #[.int i t₀]) (x := .int i t₀) ⟨_, hg, rfl, n, rfl⟩ (by decide) (by decide) rfl ?_
  have S₀ := S.up (keeps_tok s (s.toks + 1))
  refine wp_of (he A _ ok S₀) fun v₂ s₂ g₂ => ?_
  have S₂ := S₀.up g₂.1
  obtain ⟨k₂, r₂⟩ := g₂
  cases r₂ with | int _ t₂ =>
  refine PyProof.Rows.iadd_int ?_
  refine setItem_own (s := { s₂ with toks := s₂.toks + 1 }) (keeps_le k₂ _ _ hg) rfl fun h' hg' hs' => ?_
  have S₃ : Cx.S { c with μ := (a, [.int (i + j)]) :: μ' } h' := St.setMut (ds := [.int i]) (hμ ▸ S₂) hs' hg' (.one (.int _ _))
  refine wp_of (hr A { s₂ with heap := h', toks := s₂.toks + 1 } ok S₃) fun f s₃ g₃ => ⟨?_, g₃.2⟩
  refine (StepU.of_keeps (keeps_trans (keeps_tok s (s.toks + 1)) (keeps_trans k₂ (keeps_tok s₂ (s₂.toks + 1))))).tx (StepU.tx (s' := { s₂ with heap := h', toks := s₂.toks + 1 }) ⟨h', _, rfl, fun b o hb e => (hs'.2 b fun q => hb (q ▸ haW)).trans e⟩ g₃.1)
end
end Mine
end
noncomputable section
open PySem PySem.Calls PySem.W PyProof.Rows
set_option Elab.async false
set_option maxRecDepth 100000
set_option linter.unusedVariables false
namespace Mine

/-! the def within _law_stream -/
noncomputable def rdDef : Stmt := (fun (d : Stmt) (_ : ∃ a b c, bd117 = [a, d, b, c]) => d) _ ⟨_, _, _, rfl⟩
noncomputable def rdParams : Arguments := (fun (b : Arguments) (_ : ∃ n y sc q, rdDef = .FunctionDef n b y [] none [] sc none n q) => b) _ ⟨_, _, _, _, rfl⟩
noncomputable def rdBody : List Stmt := (fun (b : List Stmt) (_ : ∃ n y sc q, rdDef = .FunctionDef n y b [] none [] sc none n q) => b) _ ⟨_, _, _, _, rfl⟩
noncomputable def rdScope : Scope := (fun (b : Scope) (_ : ∃ n y z q, rdDef = .FunctionDef n y z [] none [] b none n q) => b) _ ⟨_, _, _, _, rfl⟩
noncomputable def rdPos : Pos := (fun (b : Pos) (_ : ∃ n y z q, rdDef = .FunctionDef n y z [] none [] q none n b) => b) _ ⟨_, _, _, _, rfl⟩
abbrev rdClos (cO cA : Addr) : List (Str × Addr) := [(Str.ofString "octets", cO), (Str.ofString "at", cA)]
noncomputable abbrev rdFd (qual : Str) (cO cA : Addr) (doc pm cv ct : Value) : FuncData := fnX (Str.ofString "_law_read") qual rdParams rdBody rdScope (rdClos cO cA) .none .none doc pm none cv ct

theorem rd_nocell : ∀ x ∈ rdScope.names, x.2 ≠ .cell := by delta rdScope; decide
/-- the reader of a tape and what stays of it -/
structure Reader (w : World) (H : Heap) (G aL : Addr) (bs : List UInt8) : Prop where
  ex : ∃ H₀ qual cO cA doc pm cv ct t, Wd (KK w) H₀ ∧ Le H₀ H ∧ H.get? G = some { cls := .type "function", data := .func (rdFd qual cO cA doc pm cv ct) } ∧ H.CodeRec cv qual ∧
    H.IsCell cO (some (.bytes bs.toArray t)) ∧ H.IsCell cA (some (.ref aL)) ∧ H₀.get? cO = none ∧ H₀.get? cA = none ∧ H₀.get? aL = none ∧ cO ≠ cA
theorem Reader.up {w : World} {H H' : Heap} {G aL : Addr} {bs : List UInt8} (R : Reader w H G aL bs) (k : Le H H') : Reader w H' G aL bs := by
  obtain ⟨H₀, qual, cO, cA, doc, pm, cv, ct, t, T, h1, h2, h3, h4, h5, h6, h7, h8, h9⟩ := R.ex
  exact ⟨H₀, qual, cO, cA, doc, pm, cv, ct, t, T, h1.trans k, k _ _ h2, h3.keeps k, h4.keeps k, h5.keeps k, h6, h7, h8, h9⟩

/-- the reader is called -/
theorem read_call {prog : Program} {w : World} {A : Around} {s : Shared} {G aL : Addr} {bs : List UInt8} {p n : Nat} {t t' : Tok} {k : Nat} (R : Reader w s.heap G aL bs) (ok : Ok 1 none A) (hg : s.heap.get? aL = some (lo [.int (p : Int) t] k)) (hz : bs.length ≤ 100000) (hp : p ≤ bs.length) :
    wpAny (model prog w) A (call (.ref G) [.int (n : Int) t']) (fun v s' => StepU [aL] s s' ∧ BV ((bs.drop p).take n) v ∧ ∃ t k, s'.heap.get? aL = some (lo [.int ((p + min n (bs.length - p) : Nat) : Int) t] k)) No s := by
  obtain ⟨H₀, qual, cO, cA, doc, pm, cv, ct, tb, T, hle, hG, hcr, hcO, hcA, nO, nA, nL, hne⟩ := R.ex
  refine wpAny_call (codeAny_call_plain (fd := rdFd qual cO cA doc pm cv ct) (body := rdBody) (binds := [(Str.ofString "count", .int (n : Int) t')]) ok.room hG rfl (T.lim.keeps hle) hcr rfl rfl rd_nocell (fun x hx => by rw [List.mem_singleton.mp hx]; rfl) (fun h₀ hns hk => ?_) rfl rfl rfl)
  generalize hL : s.heap.objs.size = L at *
  have hLn : s.heap.get? L = none := none_of_le (Nat.le_of_eq hL)
  have ne_of : ∀ {b : Addr} {o : Obj}, s.heap.get? b = some o → b ≠ L := fun e q => by rw [q, hLn] at e; cases e
  obtain ⟨oO, eO, dO⟩ := id hcO
  obtain ⟨oA, eA, dA⟩ := id hcA
  have hO' : h₀.IsCell cO (some (.bytes bs.toArray tb)) := hcO.keeps hk
  have hA' : h₀.IsCell cA (some (.ref aL)) := hcA.keeps hk
  have hg' := hk _ _ hg
  have kO : (callEnv (rdFd qual cO cA doc pm cv ct) L G).kindOf (Str.ofString "octets") = some .free := rfl
  have kA : (callEnv (rdFd qual cO cA doc pm cv ct) L G).kindOf (Str.ofString "at") = some .free := rfl
  have kC : (callEnv (rdFd qual cO cA doc pm cv ct) L G).kindOf (Str.ofString "count") = some .local := rfl
  have S : Cx.S ⟨prog, w, H₀, 0, none, [], [L, aL, cO, cA], [L, aL], callEnv (rdFd qual cO cA doc pm cv ct) L G, [(Str.ofString "count", .dat (.int (n : Int))), (Str.ofString "octets", .val (.bytes bs.toArray tb)), (Str.ofString "at", .val (.ref aL))], [(aL, [.int (p : Int)])]⟩ h₀ := {
    base := hle.trans hk
    offs := fun b hb => by
      rcases List.mem_cons.mp hb with q | hb
      · obtain ⟨o, _, _, e, _⟩ := hns
        refine ⟨⟨o, q ▸ e⟩, ?_⟩
        cases z : H₀.get? b with
        | none => rfl
        | some o' => have := hle _ _ z; rw [q, hLn] at this; cases this
      rcases List.mem_cons.mp hb with q | hb
      · rw [q]; exact ⟨⟨_, hg'⟩, nL⟩
      rcases List.mem_cons.mp hb with q | hb
      · rw [q]; exact ⟨⟨_, hk _ _ eO⟩, nO⟩
      · rw [List.mem_singleton.mp hb]; exact ⟨⟨_, hk _ _ eA⟩, nA⟩
    kind := rfl
    globals := rfl
    builtins := rfl
    subW := fun b hb => by
      rcases List.mem_cons.mp hb with q | hb
      · rw [q]; exact .head _
      · rw [List.mem_singleton.mp hb]; exact .tail _ (.head _)
    locW := .head _
    ns := ⟨_, hns⟩
    cells := fun y b hm => by
      have hm : (y, b) ∈ rdClos cO cA := hm
      rcases List.mem_cons.mp hm with q | q
      · cases q; exact ⟨.tail _ (.tail _ (.head _)), ne_of eO, _, hO'⟩
      · cases List.mem_singleton.mp q; exact ⟨.tail _ (.tail _ (.tail _ (.head _))), ne_of eA, _, hA'⟩
    apart := List.pairwise_cons.mpr ⟨fun q hq => by rw [List.mem_singleton.mp hq]; exact hne, List.pairwise_singleton _ _⟩
    vars := fun y b e => by
      rw [List.lookup_cons] at e
      cases q : y == Str.ofString "count" with
      | true =>
        rw [q] at e; cases e
        rw [eq_of_beq q]
        exact ⟨_, .inl ⟨kC, _, hns, rfl⟩, .int _ _⟩
      | false =>
        rw [q, List.lookup_cons] at e
        cases q' : y == Str.ofString "octets" with
        | true =>
          rw [q'] at e; cases e
          rw [eq_of_beq q']
          exact ⟨_, .inr ⟨.inr kO, cO, rfl, hO'⟩, rfl⟩
        | false =>
          rw [q', List.lookup_cons] at e
          cases q'' : y == Str.ofString "at" with
          | true =>
            rw [q''] at e; cases e
            rw [eq_of_beq q'']
            exact ⟨_, .inr ⟨.inr kA, cA, rfl, hA'⟩, rfl⟩
          | false => rw [q''] at e; cases e
    mutsW := fun b ds hm => by
      cases List.mem_singleton.mp hm
      exact ⟨.tail _ (.head _), _, _, hg', .cons (.int _ _) .nil⟩
    mapart := by simp
    frs := fun b hb => nomatch hb }
  have key : Ex ⟨prog, w, H₀, 0, none, [], [L, aL, cO, cA], [L, aL], callEnv (rdFd qual cO cA doc pm cv ct) L G, [(Str.ofString "count", .dat (.int (n : Int))), (Str.ofString "octets", .val (.bytes bs.toArray tb)), (Str.ofString "at", .val (.ref aL))], [(aL, [.int (p : Int)])]⟩ rdBody
      (fun f g => ∃ v, f = .ret v ∧ BV ((bs.drop p).take n) v ∧ ∃ t k, g.get? aL = some (lo [.int ((p + min n (bs.length - p) : Nat) : Int) t] k)) := by
    delta rdBody
    refine Ex.assignP (P := BV ((bs.drop p).take n)) (by
      have e : n = p + n - p := by lia
      conv in (BV _) => rw [e]
      exact EvP.cut (n := p) (m := p + n) (EvP.var rfl ⟨tb, rfl⟩) (Ev.ownItem rfl rfl (by decide) rfl (by simp) (.int _) Ev.int) (Ev.bin (Ev.ownItem rfl rfl (by decide) rfl (by simp) (.int _) Ev.int) (Ev.var rfl) op_add_nat) (by lia) (fun _ _ => rfl)) (.inl rfl) fun v hv => ?_
    have hlen : ((bs.drop p).take n).length = min n (bs.length - p) := by rw [List.length_take, List.length_drop]
    refine Ex.augOwn rfl rfl (EvP.len (NameIs.boot T (m_len w) b_len) (EvP.var rfl hv) (by rw [hlen]; lia)) ?_
    rw [hlen, ← Int.natCast_add]
    refine Ex.retP (EvP.var rfl hv) fun g v' S' hv' => ⟨v', rfl, hv', ?_⟩
    obtain ⟨_, vs, k', e, r⟩ := S'.muts aL _ (.head _)
    cases r with | cons r r' => cases r' with | nil => cases r with | int _ t₀ => exact ⟨t₀, k', e⟩
  refine wpAny_mono (key (A.deeper _) _ (ok.deeper _) S) (fun f s' g => ?_) fun _ _ q => q.elim
  obtain ⟨st, v, rfl, hv, ht⟩ := g
  refine ⟨?_, hv, ht⟩
  obtain ⟨h', tk, rfl, kk⟩ := st.u
  exact ⟨h', tk, rfl, fun b o hb e => kk b o (fun m => by
    rcases List.mem_cons.mp m with q | q
    · exact ne_of e q
    · exact hb q) (hk b o e)⟩
end Mine
end
noncomputable section
open PySem PySem.Calls PySem.W PyProof.Rows
set_option Elab.async false
set_option maxRecDepth 100000
set_option linter.unusedVariables false
namespace Mine

/-! the class of the tapes -/
theorem c59_ga (w : World) : findIn (KK w) (.ref 59) "__getattribute__" = some (some (.builtin "object.__getattribute__")) := by kernel_rfl
theorem c59_gat (w : World) : findIn (KK w) (.ref 59) "__getattr__" = some none := by kernel_rfl
theorem c59_read (w : World) : findIn (KK w) (.ref 59) "read" = some none := by kernel_rfl
theorem c59_dict (w : World) : hasDictIn (KK w) 59 = true := by kernel_rfl
theorem c59_set (w : World) : findIn (KK w) (.ref 59) "__setattr__" = some (some (.builtin "object.__setattr__")) := by kernel_rfl
theorem c59_over (w : World) : plainOver (KK w) 59 = true := by kernel_rfl
theorem c59_tread (w : World) : takerIn (KK w) 59 "read" = some none := by kernel_rfl
theorem c59_tvalue (w : World) : takerIn (KK w) 59 "value" = some none := by kernel_rfl
theorem c59_makes (w : World) : makesIn (KK w) 59 = true := by kernel_rfl
theorem c59_init (w : World) : findIn (KK w) (.ref 59) "__init__" = some (some (.ref 56)) := by kernel_rfl
theorem c59_fn (w : World) : typeIn (KK w) (.ref 56) = some (.type "function") := by kernel_rfl
/-- a tape: an object, its dict, its reader -/
structure Tape (w : World) (H : Heap) (I aL : Addr) (bs : List UInt8) : Prop where
  ex : ∃ D G es n, H.get? I = some (instObj 59 D) ∧ H.get? D = some (dictOf es n) ∧ getL "read" es = some (some (.ref G)) ∧ Reader w H G aL bs
theorem Tape.up {w : World} {H H' : Heap} {I aL : Addr} {bs : List UInt8} (R : Tape w H I aL bs) (k : Le H H') : Tape w H' I aL bs := by
  obtain ⟨D, G, es, n, h1, h2, h3, h4⟩ := R.ex
  exact ⟨D, G, es, n, k _ _ h1, k _ _ h2, h3, h4.up k⟩

section
variable {c : Cx} {A : Around} {s : Shared} {e : Expr} {pos : Pos} {x : Str} {I aL : Addr} {bs : List UInt8} {p n : Nat} {μ' : List (Addr × List PyData)}
/-- x.read(e) -/
theorem go_read {np ap : Pos} {pl : Sem Bool} {Q : Value → Shared → Prop} {E : Value → Shared → Prop} (T : Wd (KK c.w) c.H) (tp : Tape c.w c.H I aL bs) (hk : 1 ≤ c.k) (ok : Ok c.k c.fr A) (S : c.S s.heap) (hx : c.ρ.lookup x = some (.val (.ref I))) (hμ : c.μ = (aL, [.int (p : Int)]) :: μ') (he : Ev c e (.int (n : Int))) (hz : bs.length ≤ 100000) (hp : p ≤ bs.length)
    (k : ∀ v s', StepU [aL] s s' → BV ((bs.drop p).take n) v → Cx.S { c with μ := (aL, [.int ((p + min n (bs.length - p) : Nat) : Int)]) :: μ' } s'.heap → Q v s')
    (hse : starEach [e] c.env = [(false, eval e c.env)] := by rfl) (hd : (x == ("__debug__" : Str)) = false := by decide) (hc : (x == ("__classdict__" : Str)) = false := by decide)
    (hev : eval (.Call (.Attribute (.Name x np) "read" ap) [e] [] pos) c.env = (do
      let ov ← eval (.Name x np) c.env
      standAt ap.atName
      let (f, first) ← holding [ov] (getMethod ov "read" pl)
      callWith pos f first (backTo pos (starEach [e] c.env)) []) := by rfl) : wpAny c.M A (eval (.Call (.Attribute (.Name x np) "read" ap) [e] [] pos) c.env) Q E s := by
  obtain ⟨D, G, es, m, hI, hD, hr, R⟩ := (tp.up S.base).ex
  obtain ⟨u, hv, hb⟩ := S.vars x _ hx
  have hb' : u = .ref I := hb
  subst hb'
  have X : Frag.In (KK c.w) s.heap := T.k.keeps S.base
  refine MethodCall_ (pl := pl) (load_var S hv ?_ hd hc) hev
  have IA : InstAt s.heap I (instObj 59 D) 59 (some (dictOf es m)) := ⟨hI, rfl, rfl, hD⟩
  refine method_usual X IA (c59_ga c.w) (c59_gat c.w) (c59_read c.w) rfl ?_
  refine get_value X IA (c59_ga c.w) (findObj_own (c59_dict c.w) (c59_read c.w) rfl hr) rfl ?_
  obtain ⟨H₀, qual, cO, cA, doc, pm, cv, ct, t, T₀, h1, hG, h3⟩ := R.ex
  have FA : ∀ h : Heap, Le s.heap h → FnAt G h := fun h k => ⟨_, _, _, _, k _ _ hG⟩
  have S₀ := S.up (keeps_tok s (s.toks + 1))
  refine callWith_F (first := []) (q := G) (e := e) (rest := []) (FA _ (Le.refl _)) ?_ hse rfl
  rw [hse]
  refine Calls.spliced_cons (x := eval e c.env) (rest := []) (wp_of (he A _ ok S₀) fun v s₁ g₁ => Calls.spliced_nil ⟨FA _ (keeps_le g₁.1), ?_⟩)
  have S₁ := S₀.up g₁.1
  obtain ⟨k₁, r₁⟩ := g₁
  cases r₁ with | int _ t₁ =>
  obtain ⟨haW, vs, kk, hg, hrd⟩ := S₁.mutsW aL [.int (p : Int)] (by rw [hμ]; exact .head _)
  cases hrd with | cons r r' => cases r' with | nil => cases r with | int _ t₂ =>
  refine wp_of (read_call (Reader.up (by exact ⟨H₀, qual, cO, cA, doc, pm, cv, ct, t, T₀, h1, hG, h3⟩) (keeps_le k₁)) (ok.less hk) hg hz hp) fun v s' g => ?_
  obtain ⟨st, hv, t₃, k₃, hg'⟩ := g
  have st' : StepU [aL] s s' := (StepU.of_keeps (keeps_trans (keeps_tok s (s.toks + 1)) k₁)).trans st
  refine k v s' st' hv ?_
  obtain ⟨h', tk, rfl, kk'⟩ := id st
  have sb : ∀ b o, b ≠ aL → s₁.heap.get? b = some o → h'.get? b = some o := fun b o hb e => kk' b o (fun m => hb (List.mem_singleton.mp m)) e
  refine St.change (F := []) (μ := (aL, [.int (p : Int)]) :: μ') (hμ ▸ S₁) (fun a ha => nomatch ha) (fun b o hb e => ⟨o, sb b o (fun q => hb (by rw [q]; exact .head _)) e, .inl rfl⟩) (fun b hb => ?_) (fun b ds hm => ?_) (by have := S₁.mapart; rw [hμ] at this; exact this)
  · by_cases q : b = aL
    · rw [q]; exact ⟨_, hg'⟩
    · obtain ⟨pr, hp', rfl⟩ := List.mem_map.mp hb
      obtain ⟨_, vs, n', g', _⟩ := S₁.muts pr.1 pr.2 (by rw [hμ]; exact hp')
      exact ⟨_, sb _ _ q g'⟩
  · rcases List.mem_cons.mp hm with q | q
    · cases q
      exact ⟨haW, _, _, hg', .cons (.int _ _) .nil⟩
    · obtain ⟨i, vs, n', g', r⟩ := S₁.mutsW b ds (by rw [hμ]; exact .tail _ q)
      have hne : b ≠ aL := fun z => by
        have := S₁.mapart
        rw [hμ, List.map_cons, List.nodup_cons] at this
        exact this.1 (List.mem_map.mpr ⟨(b, ds), q, z⟩)
      exact ⟨i, vs, n', sb _ _ hne g', r.frame fun b' o hb' e => ⟨hb', sb b' o (fun z => hb' (z ▸ S₁.subW _ haW)) e⟩⟩
end
end Mine
end
noncomputable section
open PySem PySem.Calls PySem.W PyProof.Rows
set_option Elab.async false
set_option maxRecDepth 100000
set_option linter.unusedVariables false
namespace Mine

/-- an object that is no record -/
def NF (h : Heap) (b : Addr) : Prop := ∃ o, h.get? b = some o ∧ ∀ vs, o.data ≠ .fields vs
theorem NF.slots {h h' : Heap} {b : Addr} (x : NF h b) (u : h.UpToSlots h') : NF h' b := by
  obtain ⟨o, e, n⟩ := x
  obtain ⟨sl, e'⟩ := u b o e n
  exact ⟨_, e', n⟩
theorem NF.keep {h h' : Heap} {b : Addr} (x : NF h b) (k : Le h h') : NF h' b := let ⟨o, e, n⟩ := x; ⟨o, k _ _ e, n⟩
theorem NF.step {W F : List Addr} {s s' : Shared} {b : Addr} (x : NF s.heap b) (st : StepX W F s s') (hb : b ∉ W) : NF s'.heap b := by
  obtain ⟨o, e, n⟩ := x
  obtain ⟨h', tk, rfl, k⟩ := st
  obtain ⟨o', e', c⟩ := k b o hb e
  rcases c with rfl | ⟨_, sl, rfl⟩
  · exact ⟨_, e', n⟩
  · exact ⟨_, e', n⟩
theorem St.nfL {F : List Addr} {H : Heap} {U W : List Addr} {env : Env} {ρ : Rho} {μ : List (Addr × List PyData)} {h : Heap} (S : St F H U W env ρ μ h) : NF h env.locals := by
  obtain ⟨m, o, es, ep, e, d, _⟩ := S.ns
  exact ⟨o, e, fun vs q => by rw [d] at q; cases q⟩
theorem St.nfM {F : List Addr} {H : Heap} {U W : List Addr} {env : Env} {ρ : Rho} {μ : List (Addr × List PyData)} {h : Heap} (S : St F H U W env ρ μ h) {a : Addr} {ds : List PyData} (m : (a, ds) ∈ μ) : NF h a := by
  obtain ⟨_, vs, n, e, _⟩ := S.mutsW a ds m
  exact ⟨_, e, fun vs q => by cases q⟩
/-- a ValueError with this text that flies into the frames l -/
def Raised (W : List Addr) (l : List Env) (msg : Tx) (s : Shared) (e : Value) (s' : Shared) : Prop :=
  ∃ ea t u base, e = .ref ea ∧ StepX W (frOf l) s s' ∧ s.heap.get? ea = none ∧ s.heap.get? t = none ∧ Heap.FlyingW base l ea (.type "ValueError") (.ref t) s'.heap ∧ base.get? t = some (tu [.str (mk msg) u] 0) ∧
    (∀ b, NF s.heap b → NF s'.heap b) ∧ ∀ b o, s.heap.get? b = some o → b ∉ W → b ∉ frOf l → base.get? b = some o
section
variable {W W' : List Addr} {l : List Env} {msg : Tx} {s s₁ s' : Shared} {e : Value}
theorem Raised.before (x : StepX W (frOf l) s s₁) (hW : ∀ b ∈ W, NF s₁.heap b) (y : Raised W l msg s₁ e s') : Raised W l msg s e s' := by
  obtain ⟨ea, t, u, base, rfl, st, he, ht, hf, hb, hn, hk⟩ := y
  have back : ∀ {b : Addr}, s₁.heap.get? b = none → s.heap.get? b = none := fun {b} q => by
    cases z : s.heap.get? b with
    | none => rfl
    | some o =>
      by_cases m : b ∈ W
      · obtain ⟨o', e', _⟩ := hW b m; rw [q] at e'; cases e'
      · obtain ⟨h', tk, rfl, k⟩ := x
        obtain ⟨o', e', _⟩ := k b o m z
        rw [q] at e'; cases e'
  exact ⟨ea, t, u, base, rfl, x.trans st, back he, back ht, hf, hb, fun b z => hn b (by
    by_cases m : b ∈ W
    · exact hW b m
    · exact z.step x m), fun b o e h1 h2 => hk b o (x.at h1 h2 e) h1 h2⟩
theorem Raised.keep (x : Keeps s s₁) (y : Raised W l msg s₁ e s') : Raised W l msg s e s' := by
  obtain ⟨ea, t, u, base, rfl, st, he, ht, hf, hb, hn, hk⟩ := y
  have k := keeps_le x
  have back : ∀ {b : Addr}, s₁.heap.get? b = none → s.heap.get? b = none := fun {b} q => by
    cases z : s.heap.get? b with
    | none => rfl
    | some o => rw [k _ _ z] at q; cases q
  exact ⟨ea, t, u, base, rfl, (StepX.of_keeps x).trans st, back he, back ht, hf, hb, fun b z => hn b (z.keep k), fun b o e h1 h2 => hk b o (k _ _ e) h1 h2⟩
theorem Raised.less (n : ∀ a ∈ W, a ∈ W' ∨ s.heap.get? a = none) (y : Raised W l msg s e s') : Raised W' l msg s e s' := by
  obtain ⟨ea, t, u, base, rfl, st, he, ht, hf, hb, hn, hk⟩ := y
  refine ⟨ea, t, u, base, rfl, st.less n, he, ht, hf, hb, hn, fun b o e h1 h2 => hk b o e (fun m => ?_) h2⟩
  rcases n b m with q | q
  · exact h1 q
  · rw [q] at e; cases e
end

section
variable {c : Cx} {A : Around} {l : List Env} {s : Shared} {msg : Tx} {Q : Unit → Shared → Prop} {E : Value → Shared → Prop}
theorem frames_dicts (S : c.S s.heap) (hF : c.F = frOf l) (hf : c.env.frame = some c.env.locals) : ∀ a ∈ frOf (c.env :: l), IsD s.heap a := fun q hq => by
  have hfrm : frOf (c.env :: l) = c.env.locals :: frOf l := by simp [frOf, hf]
  rw [hfrm] at hq
  rcases List.mem_cons.mp hq with r | r
  · obtain ⟨m, hm⟩ := S.ns; rw [r]; exact .of_ns hm
  · exact (S.frs q (by rw [hF]; exact r)).2
/-- a raise in the frame's own body, on its way out -/
theorem raise_out {h' : Heap} {e : Addr} {u : Tok} (S : c.S s.heap) (hfr : A.frames = some (c.env :: l)) (hF : c.F = frOf l) (hf : c.env.frame = some c.env.locals) (hFn : Fns (c.env :: l)) (hx : Heap.MadeExc s.heap h' e "ValueError" [.str (mk msg) u])
    (hQ : ∀ s', Raised [c.env.locals] l msg s (.ref e) s' → Q () s') : wpAny c.M A (leaving c.env (.ref e)) Q E { s with heap := h' } := by
  have hD := frames_dicts S hF hf
  have hD' : ∀ a ∈ frOf (c.env :: l), IsD h' a := fun a ha => (hD a ha).at fun o q => hx.keeps a o q
  have hfrm : frOf (c.env :: l) = c.env.locals :: frOf l := by simp [frOf, hf]
  obtain ⟨t, he, htn, ht⟩ := hx.there
  have hte : t ≠ e := fun q => by
    rw [q, he] at ht
    have z := congrArg Obj.cls (Option.some.inj ht)
    have z' : Value.type "ValueError" = Value.type "tuple" := z
    injection z' with z''
    exact absurd z'' (by decide)
  have nf : ∀ {b : Addr} {o : Obj}, h'.get? b = some o → (∀ es ep, o.data ≠ .dict es ep) → b ∉ frOf (c.env :: l) := fun {b o} q hn m => by
    obtain ⟨o', es, ep, e', d⟩ := hD' b m
    rw [q] at e'; cases e'; exact hn _ _ d
  have htf := nf ht (fun _ _ q => by cases q)
  have hef := nf he (fun _ _ q => by cases q)
  have hff : h'.FunFrames (hideAll h' (e :: frOf (c.env :: l))) (c.env :: l) := Fns.funFrames hFn (fun a ha => .tail _ ha) hD'
  refine wpAny_leaving_firstW (s := { s with heap := h' }) (base := hideAll h' (e :: frOf (c.env :: l))) (a0 := .ref t) hfr hff hf he (fun b o q => of_hideAll _ q) (hideAll_none _ (.head _)) rfl rfl rfl fun h'' hL => ?_
  obtain ⟨k1, ⟨_, _, k2⟩, k3, k4⟩ := hL
  have hbase : ∀ b o, s.heap.get? b = some o → b ∉ frOf (c.env :: l) → (hideAll h' (e :: frOf (c.env :: l))).get? b = some o := fun b o q m => hideAll_get _ (hx.keeps b o q) fun z => by
    rcases List.mem_cons.mp z with z | z
    · rw [z, hx.new] at q; cases q
    · exact m z
  refine hQ _ ⟨e, t, u, hideAll h' (e :: frOf (c.env :: l)), rfl, ⟨h'', s.toks, rfl, fun b o hb q => ?_⟩, hx.new, htn, ⟨k1, hideAll_none _ (.head _), k2, k3⟩, ?_, fun b z => (z.keep hx.keeps).slots k4, fun b o q h1 h2 => hbase b o q fun m => ?_⟩
  · by_cases m : b ∈ frOf l
    · obtain ⟨o', es, ep, e', d⟩ := hD b (by rw [hfrm]; exact .tail _ m)
      rw [q] at e'; cases e'
      obtain ⟨sl, z⟩ := k4 b o (hx.keeps b o q) (fun vs r => by rw [d] at r; cases r)
      exact ⟨_, z, .inr ⟨m, sl, rfl⟩⟩
    · refine ⟨o, k1 b o (hbase b o q fun r => ?_), .inl rfl⟩
      rw [hfrm] at r
      rcases List.mem_cons.mp r with r | r
      · exact hb (r ▸ .head _)
      · exact m r
  · exact hideAll_get _ ht fun z => by
      rcases List.mem_cons.mp z with z | z
      · exact hte z
      · exact htf z
  · rw [hfrm] at m
    rcases List.mem_cons.mp m with r | r
    · exact h1 (r ▸ .head _)
    · exact h2 r
/-- and out of the next frame -/
theorem raise_on {s' : Shared} {e : Value} (S : c.S s.heap) (hfr : A.frames = some (c.env :: l)) (hF : c.F = frOf l) (hf : c.env.frame = some c.env.locals) {W : List Addr} (hx : Raised W (c.env :: l) msg s e s') (hW : c.env.locals ∈ W)
    (hQ : ∀ s'', Raised W l msg s e s'' → Q () s'') : wpAny c.M A (leaving c.env e) Q E s' := by
  obtain ⟨ea, t, u, base, rfl, st, he, ht, hfly, hb, hn, hk⟩ := hx
  have hfrm : frOf (c.env :: l) = c.env.locals :: frOf l := by simp [frOf, hf]
  refine wpAny_leaves_onW hfr hf hfly fun h'' hfly' hu => hQ _ ⟨ea, t, u, base, rfl, ?_, he, ht, hfly', hb, fun b z => (hn b z).slots hu, fun b o q h1 h2 => hk b o q h1 fun m => ?_⟩
  · have hD := frames_dicts S hF hf
    obtain ⟨h₁, t₁, rfl, k₁⟩ := st
    refine ⟨h'', t₁, rfl, fun b o hb q => ?_⟩
    by_cases m : b ∈ frOf l
    · obtain ⟨o₁, e₁, c₁⟩ := k₁ b o hb q
      obtain ⟨o', es, ep, e', d⟩ := hD b (by rw [hfrm]; exact .tail _ m)
      rw [q] at e'; cases e'
      have hss : SameS o o₁ := by
        rcases c₁ with rfl | ⟨_, z⟩
        · exact ⟨o₁.slots, rfl⟩
        · exact z
      obtain ⟨sl₁, rfl⟩ := hss
      obtain ⟨sl, z⟩ := hu b _ e₁ (fun vs r => by
        have r' : o.data = .fields vs := r
        rw [d] at r'; cases r')
      exact ⟨_, z, .inr ⟨m, sl, rfl⟩⟩
    · exact ⟨o, hfly'.1 b o (hk b o q hb fun r => by
        rw [hfrm] at r
        rcases List.mem_cons.mp r with r | r
        · exact hb (r ▸ hW)
        · exact m r), .inl rfl⟩
  · rw [hfrm] at m
    rcases List.mem_cons.mp m with r | r
    · exact h1 (r ▸ hW)
    · exact h2 r
end

section
variable {c : Cx} {A : Around} {s : Shared} {e e₁ e₂ : Expr} {pos p : Pos}
/-- truth and items of bytes -/
theorem TrP {l : List UInt8} (h : EvP c e (BV l)) (hz : l.length ≤ 1000000) (he : isTrue e c.env (eval e c.env) = (do let v ← eval e c.env; standAt e.pos; holding [v] (truthy v)) := by rfl) : Tr c e (decide (l ≠ [])) := fun A s ok S => by
  refine isTrue_plain (wp_of (h A s ok S) fun v s₁ g₁ => ?_) he
  obtain ⟨t, rfl⟩ := g₁.2
  refine truthy_bytes (by rw [List.size_toArray]; lia) ⟨keeps_trans g₁.1 (keeps_tok _ _), ?_⟩
  rw [List.size_toArray]
  cases l with
  | nil => rfl
  | cons x r => rw [decide_eq_true (List.cons_ne_nil _ _), bne_iff_ne]; simp; lia
theorem Ev.byteItem {l : List UInt8} {i : Int} (h₁ : EvP c e₁ (BV l)) (h₂ : Ev c e₂ (.int i)) (h0 : 0 ≤ i) (h1 : i < (l.length : Int)) (hz : l.length ≤ 1000000) (hs : ∀ o j, subscripted e₂ false o j = operate [o, j] (getItem o j) := by intro _ _; rfl) :
    Ev c (.Subscript e₁ e₂ pos) (.int ((l.getD i.toNat 0).toNat : Int)) := fun A s ok S => by
  refine Subscript_ (wp_of (h₁ A s ok S) fun v₁ s₁ g₁ => ?_)
  have S₁ := S.up g₁.1
  refine wp_of (h₂ A s₁ ok S₁) fun v₂ s₂ g₂ => ?_
  obtain ⟨k₂, r₂⟩ := g₂
  obtain ⟨t, rfl⟩ := g₁.2
  cases r₂ with | int _ u =>
  exact tail_any (T := "bytes") (typeIs_bytes _ _ _) FB.slot_bytes_getitem.lookup (getItem_bytes (by lia) h0 h1 ⟨keeps_trans g₁.1 (keeps_trans k₂ (keeps_tok _ _)), .int _ _⟩) (hs _ _)
end
end Mine
end
noncomputable section
open PySem PySem.Calls PySem.W PyProof.Rows
set_option Elab.async false
set_option maxRecDepth 100000
set_option linter.unusedVariables false
namespace Mine

theorem mk_self (x : Str) : mk x.cps.toList = x := by cases x; simp [mk]
theorem mk_self' {x : Str} : x = mk x.cps.toList := (mk_self x).symm
/-- the words of a ValueError of read_string1 -/
def pctS (n m : Int) : Str := (((Str.ofString "expected " ++ Str.ofString (toString n)) ++ Str.ofString " bytes in a string1, but only ") ++ Str.ofString (toString m)) ++ Str.ofString " remain"
def pctT (n m : Int) : Tx := (pctS n m).cps.toList
set_option maxHeartbeats 4000000 in
theorem pct_meets {n m : Int} {t t₁ t₂ : Tok} {b : Addr} (h0 : 0 ≤ n) (h1 : n < 10 ^ 10) (h2 : 0 ≤ m) (h3 : m < 10 ^ 10) (hn : n.natAbs.log2 < 1920) (hm : m.natAbs.log2 < 1920) (hn' : ((n.natAbs : Nat) : Int).natAbs.log2 < 1920) (hm' : ((m.natAbs : Nat) : Int).natAbs.log2 < 1920) :
    Meets (Builtin.«str.__mod__» ⟨[.str (Str.ofString "expected %d bytes in a string1, but only %d remain") t, .ref b], []⟩) (fun _ R s => IsTup s.heap b #[.int n t₁, .int m t₂] ∧ ∀ t' k, R (.ok (.ret (.str (pctS n m) t'))) { s with toks := k }) := by
  have e : Str.ofString "expected %d bytes in a string1, but only %d remain" = ⟨#[101,120,112,101,99,116,101,100,32,37,100,32,98,121,116,101,115,32,105,110,32,97,32,115,116,114,105,110,103,49,44,32,98,117,116,32,111,110,108,121,32,37,100,32,114,101,109,97,105,110]⟩ := by decide +kernel
  rw [e]
  kpt_run
section
variable {c : Cx} {A : Around} {s : Shared} {e e₁ e₂ : Expr} {pos p : Pos} {x : Str} {rest : List Stmt}
theorem small_log {n : Nat} (h : n < 1000000) : (n : Int).natAbs.log2 < 1920 := by
  have e : (n : Int).natAbs = n := by lia
  rw [e]
  rcases Nat.eq_zero_or_pos n with q | q
  · subst q; decide
  · refine Nat.lt_of_lt_of_le ((Nat.log2_lt (by lia)).mpr (show n < 2 ^ 20 by lia)) (by decide)
theorem op_pct {n m : Nat} (hn : n < 1000000) (hm : m < 1000000) : Op2 c (binaryOp .Mod) (dS (Str.ofString "expected %d bytes in a string1, but only %d remain").cps.toList) (.tuple [.int (n : Int), .int (m : Int)]) (dS (pctT n m)) := fun A s v₁ v₂ ok S r₁ r₂ => by
  cases r₁ with | str _ t =>
  cases r₂ with | @tuple b vs k _ hb hg q => cases q with | cons r₁ q => cases q with | cons r₂ q => cases q with | nil =>
  cases r₁ with | int _ t₁ => cases r₂ with | int _ t₂ =>
  rw [mk_self]
  have ht : IsTup s.heap b #[.int (n : Int) t₁, .int (m : Int) t₂] := ⟨_, hg, rfl, k, rfl⟩
  have ln := small_log hn
  have lm := small_log hm
  exact KPt.bin_left (T := "str") (U := "tuple") (op := .Mod) (by decide) (typeIs_str s _ t) ⟨_, hg, rfl⟩ F.fills_str_mod KPt.fills_tuple F.slot_str_mod
    (call_meets F.slot_str_mod (typeIs_str s _ t) F.entry_str_mod (F.args_str_mod_2 _ _) (pct_meets (n := (n : Int)) (m := (m : Int)) (by lia) (by lia) (by lia) (by lia) ln lm ln lm) ⟨ht, fun t' k => ⟨(fun e => nomatch e), keeps_tok s k, by rw [← mk_self (pctS n m)]; exact .str _ _⟩⟩)

theorem Tr.go {b : Bool} (S : c.S s.heap) (ok : Ok c.k c.fr A) (h : Tr c e b) : wpAny c.M A (isTrue e c.env (eval e c.env)) (fun r s' => Keeps s s' ∧ r = b) No s := h A s ok S
theorem Ev.go {d : PyData} (S : c.S s.heap) (ok : Ok c.k c.fr A) (h : Ev c e d) : wpAny c.M A (eval e c.env) (Got c s d) No s := h A s ok S
/-- raise ValueError(e) -/
theorem go_raise {msg : Tx} {np cpos : Pos} {Q : Flow → Shared → Prop} {E : Value → Shared → Prop} (S : c.S s.heap) (ok : Ok c.k c.fr A) (hn : NameIs c (Str.ofString "ValueError") (.type "ValueError")) (he : Ev c e (dS msg))
    (hE : ∀ s₂ h' ea u, Keeps s s₂ → Heap.MadeExc s₂.heap h' ea "ValueError" [.str (mk msg) u] → E (.ref ea) { s₂ with heap := h' })
    (hse : starEach [e] c.env = [(false, eval e c.env)] := by rfl) : wpAny c.M A (execs (.Raise (some (.Call (.Name (Str.ofString "ValueError") np) [e] [] cpos)) none pos :: rest) c.env) Q E s := by
  refine wpAny_execs_cons (Raise_madeB PySem.F.excCall_ValueError PySem.F.excRaise_ValueError ok.handled (hn A s np _ _ S ⟨rfl, ?_⟩) hse rfl)
  rw [hse]
  refine Calls.spliced_cons (x := eval e c.env) (rest := []) (wp_of (he A s ok S) fun v s₂ g => Calls.spliced_nil ⟨by show 1 ≤ sizeLine; rw [sizeLine_eq]; lia, fun h' ea hx => ?_⟩)
  obtain ⟨k, r⟩ := g
  cases r with | str _ u =>
  exact hE s₂ h' ea u k hx
end
end Mine
end
noncomputable section
open PySem PySem.Calls PySem.W PyProof.Rows
set_option Elab.async false
set_option maxRecDepth 100000
set_option linter.unusedVariables false
namespace Mine

def msg1 : Tx := (Str.ofString "not enough data in stream to read uint1").cps.toList
theorem StepU.mono {U U' : List Addr} {s s' : Shared} (x : StepU U s s') (h : ∀ a ∈ U, a ∈ U') : StepU U' s s' := x.less fun a ha => .inl (h a ha)

section
variable {prog : Program} {w : World} {H : Heap}
theorem uint1_call (T : Wd (KK w) H) {A : Around} {s : Shared} {U : List Addr} {I aL : Addr} {bs : List UInt8} {p : Nat} {t : Tok} {k : Nat} {outer : List Env} (tp : Tape w H I aL bs) (ok : Ok 2 (some outer) A) (hFn : Fns outer) (hF : ∀ b ∈ frOf outer, b ∈ U ∧ IsD s.heap b)
    (hH : Le H s.heap) (hU : ∀ b ∈ U, (∃ o, s.heap.get? b = some o) ∧ H.get? b = none) (ha : aL ∈ U) (hg : s.heap.get? aL = some (lo [.int (p : Int) t] k)) (hz : bs.length ≤ 100000) (hp : p ≤ bs.length) :
    wpAny (model prog w) A (call (.ref 35) [.ref I]) (fun v s' => StepU [aL] s s' ∧ p < bs.length ∧ IV ((bs.getD p 0).toNat : Int) v ∧ ∃ t k, s'.heap.get? aL = some (lo [.int ((p + 1 : Nat) : Int) t] k)) (fun e s' => p = bs.length ∧ Raised [aL] outer msg1 s e s') s := by
  refine (s35 T).call (F := frOf outer) (U := U) (W₀ := [aL]) (ρ₀ := [(Str.ofString "f", .val (.ref I))]) (μ₀ := [(aL, [.int (p : Int)])]) ok.room hH hU (fun b hb => by rw [List.mem_singleton.mp hb]; exact ha) rfl (fun y b e => ?_) (fun b ds hm => ?_) (by simp) hF ?_
  · rw [List.lookup_cons] at e
    cases q : y == Str.ofString "f" with
    | true => rw [q] at e; cases e; rw [eq_of_beq q]; exact ⟨_, .head _, rfl⟩
    | false => rw [q] at e; cases e
  · cases List.mem_singleton.mp hm; exact ⟨.head _, _, _, hg, .cons (.int _ _) .nil⟩
  intro L s₁ hLU hLn hown hk S
  have hO : own (fd35 w.params) L = [L] := rfl
  have ok' := ok.deeperF (callEnvC (fd35 w.params) L 35)
  have newL : ∀ b ∈ [L] ++ [aL], b ∈ [aL] ∨ s.heap.get? b = none := fun b hb => by
    rcases List.mem_cons.mp hb with q | q
    · rw [q]; exact .inr hLn
    · exact .inl q
  have hFn' : Fns (callEnvC (fd35 w.params) L 35 :: outer) := fun e he => by
    rcases List.mem_cons.mp he with q | q
    · rw [q]; exact ⟨by show (fd35 w.params).scope.kind ≠ _; rw [show (fd35 w.params).scope.kind = .function from rfl]; decide, L, rfl⟩
    · exact hFn e q
  have S' : Cx.S ⟨prog, w, H, 1, some (callEnvC (fd35 w.params) L 35 :: outer), frOf outer, [L] ++ U, [L] ++ [aL], callEnvC (fd35 w.params) L 35, [(Str.ofString "f", .val (.ref I))], [(aL, [.int (p : Int)])]⟩ s₁.heap := S
  delta bd35
  refine wpAny_execs_cons (wpAny_Assign_Name (go_read (c := ⟨prog, w, H, 1, some (callEnvC (fd35 w.params) L 35 :: outer), frOf outer, [L] ++ U, [L] ++ [aL], callEnvC (fd35 w.params) L 35, [(Str.ofString "f", .val (.ref I))], [(aL, [.int (p : Int)])]⟩) (n := 1) T tp (Nat.le_refl _) ok' S' rfl rfl Ev.int hz hp fun v s₂ st₂ hv S₂ => ?_) rfl)
  refine wp_of (store_of (c := ⟨prog, w, H, 1, some (callEnvC (fd35 w.params) L 35 :: outer), frOf outer, [L] ++ U, [L] ++ [aL], callEnvC (fd35 w.params) L 35, [(Str.ofString "f", .val (.ref I))], [(aL, [.int ((p + min 1 (bs.length - p) : Nat) : Int)])]⟩) (b := .val v) (v := v) S₂ (.inl rfl) rfl) fun _ s₃ g₃ => ?_
  obtain ⟨st₃, S₃⟩ := g₃
  have st13 : StepU ([L] ++ [aL]) s s₃ := (StepU.of_keeps hk).trans ((st₂.mono fun a ha => List.mem_append_right _ ha).trans st₃)
  have hlen : ((bs.drop p).take 1).length = min 1 (bs.length - p) := by rw [List.length_take, List.length_drop]
  refine wpAny_execs_cons (wpAny_If (wp_of (Tr.go S₃ ok' (TrP (l := (bs.drop p).take 1) (EvP.var rfl hv) (by rw [hlen]; lia))) fun r s₄ g₄ => ?_))
  obtain ⟨k₄, rfl⟩ := g₄
  have S₄ := Cx.S.up S₃ k₄
  have st14 : StepU ([L] ++ [aL]) s s₄ := st13.trans (.of_keeps k₄)
  by_cases hlt : p < bs.length
  · have hd : (bs.drop p).take 1 = [bs.getD p 0] := by
      rw [List.drop_eq_getElem_cons hlt, List.take_succ_cons, List.take_zero, List.getD_eq_getElem?_getD, List.getElem?_eq_getElem hlt]; rfl
    rw [hd] at hv ⊢
    refine wpAny_execs_cons (wpAny_Return_some (wp_of (Ev.go S₄ ok' (Ev.byteItem (i := 0) (l := [bs.getD p 0]) (EvP.var rfl hv) Ev.int (by decide) (by simp) (by simp))) fun u s₅ g₅ => ?_))
    obtain ⟨k₅, r₅⟩ := g₅
    cases r₅ with | int _ t₅ =>
    have S₅ := Cx.S.up S₄ k₅
    obtain ⟨_, vs, kk, e, r⟩ := St.muts S₅ aL _ (.head _)
    cases r with | cons r r' => cases r' with | nil => cases r with | int _ t₆ =>
    have e1 : min 1 (bs.length - p) = 1 := by lia
    rw [e1] at e
    exact ⟨(st14.trans (.of_keeps k₅)).less newL, hlt, ⟨_, rfl⟩, _, _, e⟩
  · have hpe : p = bs.length := by lia
    have hd : (bs.drop p).take 1 = [] := by rw [List.drop_eq_nil_iff.mpr (by lia)]; rfl
    rw [hd]
    refine wpAny_execs_nil ?_
    refine go_raise (msg := msg1) S₄ ok' (NameIs.boot T (m_ValueError w) b_ValueError) (Ev.strC (l := msg1) mk_self') fun s₅ h' ea u k₅ hx => ?_
    have S₅ := Cx.S.up S₄ k₅
    refine raise_out S₅ (ok'.frames _ rfl) rfl rfl hFn' hx fun s₆ R => ⟨hpe, ?_⟩
    have R' : Raised ([L] ++ [aL]) outer msg1 s₅ (.ref ea) s₆ := R.less fun a ha => .inl (List.mem_append_left _ ha)
    refine (R'.before ((st14.trans (.of_keeps k₅)).x) fun b hb => ?_).less newL
    rcases List.mem_cons.mp hb with q | q
    · rw [q]; exact St.nfL S₅
    · rw [List.mem_singleton.mp q]; exact St.nfM S₅ (.head _)
end
end Mine
end
noncomputable section
open PySem PySem.Calls PySem.W PyProof.Rows
set_option Elab.async false
set_option maxRecDepth 100000
set_option linter.unusedVariables false
namespace Mine
section
open Builtin
theorem latin_road {id : String} {b : Array UInt8} : _codecs.decodeRoad id b (PySem.Str.ofString "latin-1") none [] = (_codecs.runDecoder id _codecs.latin1Decoder none true b 0 [] >>= fun r => mkStr ⟨r.1⟩) := by kernel_rfl
theorem latin_entry {c : UInt8} {cs : List UInt8} {t u : Tok} : «bytes.decode» ⟨[.bytes (c :: cs).toArray t, .str (PySem.Str.ofString "latin-1") u], []⟩ = (mkStr (PySem.Str.ofString "utf-8") >>= fun _ => mkStr (PySem.Str.ofString "latin-1") >>= fun e => mkStr (PySem.Str.ofString "bytes.decode") >>= fun d =>
    call (.builtin "_codecs.decode.text") [.bytes (c :: cs).toArray t, e, .none, d] >>= fun v => ret v) := by kernel_rfl
theorem latin_args (a : Value) (u : Tok) : argsOk "bytes.decode" ⟨[a, .str (PySem.Str.ofString "latin-1") u], []⟩ := by unfold argsOk; kernel_rfl
theorem run_turns {β : Type} (b : List UInt8) (f : Nat → Nat × Array Nat × β → Sem (ForInStep (Nat × Array Nat × β))) (st : β)
    (hf : ∀ x p out, p < b.length → out.size ≤ p → f x (p, out, st) = pure (.yield (p + 1, out ++ #[(b.getD p 0).toNat], st))) : ∀ (k i p : Nat) (out : Array Nat), p + k = b.length → out.size ≤ p →
    forIn (List.range' i k) (p, out, st) f = (pure (b.length, out ++ ((b.drop p).map (·.toNat)).toArray, st) : Sem (Nat × Array Nat × β))
  | 0, i, p, out, h, _ => by
    have e : b.drop p = [] := List.drop_eq_nil_iff.mpr (by lia)
    rw [e]
    rw [Nat.add_zero] at h
    subst h
    rw [List.range'_zero, List.forIn_nil]; simp
  | k + 1, i, p, out, h, ho => by
    have hlt : p < b.length := by lia
    rw [List.range'_succ, List.forIn_cons, hf _ _ _ hlt ho, pure_bind]
    show forIn (List.range' (i + 1) k) (p + 1, out ++ #[(b.getD p 0).toNat], st) f = _
    rw [run_turns b f st hf k _ _ _ (by lia) (by simp; lia), List.drop_eq_getElem_cons hlt, List.map_cons]
    congr 3
    rw [Array.append_assoc]
    congr 1
    rw [List.getD_eq_getElem?_getD, List.getElem?_eq_getElem hlt]
    apply Array.toList_inj.mp
    simp
theorem latin_run {id : String} {b : List UInt8} (hz : b.length ≤ 100000) : _codecs.runDecoder id _codecs.latin1Decoder none true b.toArray 0 [] = pure ((b.map (·.toNat)).toArray, b.length) := by
  unfold _codecs.runDecoder
  dsimp only
  rw [KPc.range_list, List.size_toArray, run_turns b _ _ (fun x p out h1 h2 => ?_) b.length 0 0 #[] (by lia) (Nat.le_refl _), pure_bind]
  · rw [List.drop_zero, Array.empty_append]
  · dsimp only
    rw [if_neg (by have := sz8 (n := out.size) (by lia); lia), if_neg (by lia)]
    show (pure _ : Sem _) = pure _
    rw [Array.getD_eq_getD_getElem?, List.getElem?_toArray, ← List.getD_eq_getElem?_getD]
theorem latin_text {b : List UInt8} {t t1 t2 : Tok} {d : PySem.Str} (hz : b.length ≤ 100000) :
    Meets («_codecs.decode.text» ⟨[.bytes b.toArray t, .str (PySem.Str.ofString "latin-1") t1, .none, .str d t2], []⟩) (fun _ R s => R (.ok (.ret (.str (mk (b.map (·.toNat))) s.toks))) { s with toks := s.toks + 1 }) := by
  refine .of_wp fun prog w A R s h => ?_
  show wpAny _ _ (Bytes.bytesLike _ (.bytes b.toArray t) >>= fun r => _) _ _ s
  refine wpAny_bind (wpAny_of_eq KBd.like_eq ?_)
  refine wpAny_bind (wpAny_of_eq KBd.held_eq ?_)
  show wpAny _ _ (_codecs.decodeRoad _ b.toArray (PySem.Str.ofString "latin-1") none [] >>= fun v => _) _ _ s
  rw [latin_road, latin_run hz]
  refine wpAny_bind (wpAny_bind (wpAny_pure ?_))
  exact wpAny_mkStr (wpAny_pure ⟨_, rfl, h⟩) (by show ((b.map (·.toNat)).toArray).size ≤ _; rw [List.size_toArray, List.length_map]; exact sz8 (by lia))
theorem latin_decode {c : UInt8} {cs : List UInt8} {t u : Tok} (hz : (c :: cs).length ≤ 100000) : Meets («bytes.decode» ⟨[.bytes (c :: cs).toArray t, .str (PySem.Str.ofString "latin-1") u], []⟩) (fun _ R s => ∀ t' k, R (.ok (.ret (.str (mk ((c :: cs).map (·.toNat))) t'))) { s with toks := k }) := by
  refine .of_wp fun prog w A R s h => ?_
  rw [latin_entry]
  refine wpAny_bind (wpAny_mkStr ?_ (by decide))
  refine wpAny_bind (wpAny_mkStr ?_ (by decide))
  refine wpAny_bind (wpAny_mkStr ?_ (by decide))
  exact wpAny_bind (call_function_meets KBd.kind_text KBd.plain_text KBd.entry_text (KBd.args_text _ _ _ _) (latin_text hz) (wpAny_pure ⟨_, rfl, h _ _⟩))
end
section
variable {c : Cx} {A : Around} {s : Shared} {e e₁ e₂ : Expr} {pos p : Pos}
/-- e.decode('latin-1') -/
theorem Ev.decode {l : List UInt8} {ap kp : Pos} {kk : Nat} {pl : Sem Bool} (h : EvP c e (BV l)) (hne : l ≠ []) (hz : l.length ≤ 100000)
    (hev : eval (.Call (.Attribute e "decode" ap) [.Constant (.str (Str.ofString "latin-1")) kk kp] [] pos) c.env = (do
      let ov ← eval e c.env
      standAt ap.atName
      let (f, first) ← holding [ov] (getMethod ov "decode" pl)
      callWith pos f first (backTo pos (starEach [.Constant (.str (Str.ofString "latin-1")) kk kp] c.env)) []) := by rfl)
    (hse : starEach [.Constant (.str (Str.ofString "latin-1")) kk kp] c.env = [(false, eval (.Constant (.str (Str.ofString "latin-1")) kk kp) c.env)] := by rfl) :
    Ev c (.Call (.Attribute e "decode" ap) [.Constant (.str (Str.ofString "latin-1")) kk kp] [] pos) (dS (l.map (·.toNat))) := fun A s ok S => by
  obtain ⟨b, bs, rfl⟩ := List.exists_cons_of_ne_nil hne
  refine MethodCall_ (pl := pl) (wp_of (h A s ok S) fun v s₁ g => ?_) hev
  obtain ⟨k₁, t, rfl⟩ := g
  refine KBd.method ?_
  refine Calls.callWith_builtin (first := [.bytes (b :: bs).toArray t]) (starEach_plain (by rw [hse]; rfl) pos) ?_
  rw [hse]
  refine evalArgs_plain (x := eval (.Constant (.str (Str.ofString "latin-1")) kk kp) c.env) (rest := []) (Calls.spliced_cons (Calls.Constant_str (Calls.spliced_nil ?_)))
  exact call_meets FB.slot_bytes_decode (typeIs_bytes _ _ _) FB.entry_bytes_decode (latin_args _ _) (latin_decode hz) fun t' k => ⟨keeps_trans k₁ (keeps_trans (keeps_tok _ _) (keeps_tok _ k)), .str _ _⟩
end
end Mine
end
noncomputable section
open PySem PySem.Calls PySem.W PyProof.Rows
set_option Elab.async false
set_option maxRecDepth 100000
set_option linter.unusedVariables false
namespace Mine

theorem op_ge_int {c : Cx} {a b : Int} : Op2 c (compareOp .GtE) (.int a) (.int b) (.bool (decide (b ≤ a))) := fun A s v₁ v₂ ok S r₁ r₂ => by
  cases r₁; cases r₂; exact PyProof.Rows.ge_int (Got.here (.bool _))
theorem tape_moves {c : Cx} {s s' : Shared} {aL : Addr} {i j : Int} {t : Tok} {k : Nat} {μ' : List (Addr × List PyData)} (S : c.S s.heap) (hμ : c.μ = (aL, [.int i]) :: μ') (st : StepU [aL] s s') (hg' : s'.heap.get? aL = some (lo [.int j t] k)) :
    Cx.S { c with μ := (aL, [.int j]) :: μ' } s'.heap := by
  obtain ⟨haW, vs, kk, hg, hrd⟩ := S.mutsW aL [.int i] (by rw [hμ]; exact .head _)
  obtain ⟨h', tk, rfl, kk'⟩ := id st
  have sb : ∀ b o, b ≠ aL → s.heap.get? b = some o → h'.get? b = some o := fun b o hb e => kk' b o (fun m => hb (List.mem_singleton.mp m)) e
  refine St.change (F := []) (μ := (aL, [.int i]) :: μ') (hμ ▸ S) (fun a ha => nomatch ha) (fun b o hb e => ⟨o, sb b o (fun q => hb (by rw [q]; exact .head _)) e, .inl rfl⟩) (fun b hb => ?_) (fun b ds hm => ?_) (by have := S.mapart; rw [hμ] at this; exact this)
  · by_cases q : b = aL
    · rw [q]; exact ⟨_, hg'⟩
    · obtain ⟨pr, hp', rfl⟩ := List.mem_map.mp hb
      obtain ⟨_, vs, n', g', _⟩ := S.muts pr.1 pr.2 (by rw [hμ]; exact hp')
      exact ⟨_, sb _ _ q g'⟩
  · rcases List.mem_cons.mp hm with q | q
    · cases q
      exact ⟨haW, _, _, hg', .cons (.int _ _) .nil⟩
    · obtain ⟨z, vs, n', g', r⟩ := S.mutsW b ds (by rw [hμ]; exact .tail _ q)
      have hne : b ≠ aL := fun z => by
        have := S.mapart
        rw [hμ, List.map_cons, List.nodup_cons] at this
        exact this.1 (List.mem_map.mpr ⟨(b, ds), q, z⟩)
      exact ⟨z, vs, n', sb _ _ hne g', r.frame fun b' o hb' e => ⟨hb', sb b' o (fun z => hb' (z ▸ S.subW _ haW)) e⟩⟩

/-- what read_string1 finds at a place -/
def sizeAt (bs : List UInt8) (p : Nat) : Nat := (bs.getD p 0).toNat
abbrev fits (bs : List UInt8) (p : Nat) : Prop := p < bs.length ∧ p + 1 + sizeAt bs p ≤ bs.length
def textAt (bs : List UInt8) (p : Nat) : Tx := ((bs.drop (p + 1)).take (sizeAt bs p)).map (·.toNat)
def wordsAt (bs : List UInt8) (p : Nat) : Tx := if p < bs.length then pctT (sizeAt bs p) ((bs.length - (p + 1) : Nat) : Int) else msg1

section
variable {prog : Program} {w : World} {H : Heap}
theorem string1_call (T : Wd (KK w) H) {A : Around} {s : Shared} {U : List Addr} {I aL : Addr} {bs : List UInt8} {p : Nat} {t : Tok} {k : Nat} {outer : List Env} (tp : Tape w H I aL bs) (ok : Ok 3 (some outer) A) (hFn : Fns outer) (hF : ∀ b ∈ frOf outer, b ∈ U ∧ IsD s.heap b)
    (hH : Le H s.heap) (hU : ∀ b ∈ U, (∃ o, s.heap.get? b = some o) ∧ H.get? b = none) (ha : aL ∈ U) (hg : s.heap.get? aL = some (lo [.int (p : Int) t] k)) (hz : bs.length ≤ 100000) (hp : p ≤ bs.length) (hpos : p < bs.length → 0 < sizeAt bs p) :
    wpAny (model prog w) A (call (.ref 42) [.ref I]) (fun v s' => StepU [aL] s s' ∧ fits bs p ∧ (∃ t, v = .str (mk (textAt bs p)) t) ∧ ∃ t k, s'.heap.get? aL = some (lo [.int ((p + 1 + sizeAt bs p : Nat) : Int) t] k)) (fun e s' => ¬ fits bs p ∧ Raised [aL] outer (wordsAt bs p) s e s') s := by
  refine (s42 T).call (F := frOf outer) (U := U) (W₀ := [aL]) (ρ₀ := [(Str.ofString "f", .val (.ref I))]) (μ₀ := [(aL, [.int (p : Int)])]) ok.room hH hU (fun b hb => by rw [List.mem_singleton.mp hb]; exact ha) rfl (fun y b e => ?_) (fun b ds hm => ?_) (by simp) hF ?_
  · rw [List.lookup_cons] at e
    cases q : y == Str.ofString "f" with
    | true => rw [q] at e; cases e; rw [eq_of_beq q]; exact ⟨_, .head _, rfl⟩
    | false => rw [q] at e; cases e
  · cases List.mem_singleton.mp hm; exact ⟨.head _, _, _, hg, .cons (.int _ _) .nil⟩
  intro L s₁ hLU hLn hown hk S
  have hO : own (fd42 w.params) L = [L] := rfl
  have ok' := ok.deeperF (callEnvC (fd42 w.params) L 42)
  have newL : ∀ b ∈ [L] ++ [aL], b ∈ [aL] ∨ s.heap.get? b = none := fun b hb => by
    rcases List.mem_cons.mp hb with q | q
    · rw [q]; exact .inr hLn
    · exact .inl q
  have hFn' : Fns (callEnvC (fd42 w.params) L 42 :: outer) := fun e he => by
    rcases List.mem_cons.mp he with q | q
    · rw [q]; exact ⟨by show (fd42 w.params).scope.kind ≠ _; rw [show (fd42 w.params).scope.kind = .function from rfl]; decide, L, rfl⟩
    · exact hFn e q
  have S' : Cx.S ⟨prog, w, H, 2, some (callEnvC (fd42 w.params) L 42 :: outer), frOf outer, [L] ++ U, [L] ++ [aL], callEnvC (fd42 w.params) L 42, [(Str.ofString "f", .val (.ref I))], [(aL, [.int (p : Int)])]⟩ s₁.heap := S
  have allW : ∀ {h : Heap} {ρ : Rho} {d : List PyData}, Cx.S ⟨prog, w, H, 2, some (callEnvC (fd42 w.params) L 42 :: outer), frOf outer, [L] ++ U, [L] ++ [aL], callEnvC (fd42 w.params) L 42, ρ, [(aL, d)]⟩ h → ∀ b ∈ [L] ++ [aL], NF h b := fun {h ρ d} S b hb => by
    rcases List.mem_cons.mp hb with q | q
    · rw [q]; exact St.nfL S
    · rw [List.mem_singleton.mp q]; exact St.nfM S (.head _)
  obtain ⟨of, hof, hofd⟩ := (s35 T).ho
  obtain ⟨_, vs₁, k₁, hg₁, r₁⟩ := St.muts S' aL _ (.head _)
  cases r₁ with | cons r r' => cases r' with | nil => cases r with | int _ t₁ =>
  delta bd42
  refine wpAny_execs_cons (wpAny_Assign_Name (wpAny_Call_NameR (NameIs.glob (c := ⟨prog, w, H, 2, some (callEnvC (fd42 w.params) L 42 :: outer), frOf outer, [L] ++ U, [L] ++ [aL], callEnvC (fd42 w.params) L 42, [(Str.ofString "f", .val (.ref I))], [(aL, [.int (p : Int)])]⟩) T (g_read_uint1 w) rfl (by decide) _ s₁ _ _ _ S' (Calls.callWith_function (o := of) (fd := fd35 w.params) ?_))) rfl)
  obtain ⟨vf, hvf, hbf⟩ := St.vars S' (Str.ofString "f") _ rfl
  have hbf' : vf = .ref I := hbf
  subst hbf'
  refine evalArgs_plain (x := eval (.Name (Str.ofString "f") _) _) (rest := []) (Calls.spliced_cons (load_var S' hvf (Calls.spliced_nil ?_) (by decide) (by decide)))
  refine ⟨⟨St.base S' _ _ hof, hofd⟩, ?_⟩
  refine wpAny_mono (uint1_call (prog := prog) (w := w) (U := [L] ++ U) T tp ok' hFn' (fun b hb => ?_) (St.base S') (fun b hb => St.offs S' b hb) (List.mem_append_right _ ha) hg₁ hz hp) (fun v s₂ g₂ => ?_) (fun e s₂ g₂ => ?_)
  · refine ⟨?_, frames_dicts S' rfl rfl b hb⟩
    have hfrm : frOf (callEnvC (fd42 w.params) L 42 :: outer) = L :: frOf outer := rfl
    rw [hfrm] at hb
    rcases List.mem_cons.mp hb with q | q
    · rw [q]; exact .head _
    · exact List.mem_append_right _ (hF b q).1
  · obtain ⟨st₂, hlt, ⟨tn, rfl⟩, t₂, k₂, hg₂⟩ := g₂
    have S₂ := tape_moves S' rfl st₂ hg₂
    have st12 : StepU ([L] ++ [aL]) s s₂ := (StepU.of_keeps hk).trans (st₂.mono fun a ha => List.mem_append_right _ ha)
    refine wp_of (store_of (b := .dat (.int (sizeAt bs p : Int))) (v := .int ((bs.getD p 0).toNat : Int) tn) S₂ (.inl rfl) (.int _ _)) fun _ s₃ g₃ => ?_
    obtain ⟨st₃, S₃⟩ := g₃
    have st13 := st12.trans st₃
    have hn := hpos hlt
    have hn256 : sizeAt bs p < 256 := (bs.getD p 0).toNat_lt
    refine wpAny_execs_cons (wpAny_Assert_holds (wp_of (Tr.go S₃ ok' (b := true) (by
      have : (true : Bool) = decide ((0 : Int) ≤ (sizeAt bs p : Int)) := by rw [decide_eq_true (by omega)]
      rw [this]
      exact Tr.cmp (Ev.var rfl) Ev.int op_ge_int)) fun r s₄ g₄ => ⟨g₄.2, ?_⟩))
    have S₄ := Cx.S.up S₃ g₄.1
    have st14 := st13.trans (.of_keeps g₄.1)
    refine wpAny_execs_cons (wpAny_Assign_Name (go_read (n := sizeAt bs p) T tp (by show 1 ≤ 2; omega) ok' S₄ rfl rfl (Ev.var rfl) hz (by omega) fun v s₅ st₅ hv S₅ => ?_) rfl)
    refine wp_of (store_of (b := .val v) (v := v) S₅ (.inl rfl) rfl) fun _ s₆ g₆ => ?_
    obtain ⟨st₆, S₆⟩ := g₆
    have st16 := (st14.trans (st₅.mono fun a ha => List.mem_append_right _ ha)).trans st₆
    have hlen : ((bs.drop (p + 1)).take (sizeAt bs p)).length = min (sizeAt bs p) (bs.length - (p + 1)) := by rw [List.length_take, List.length_drop]
    refine wpAny_execs_cons (wpAny_If (wp_of (Tr.go S₆ ok' (Tr.cmp (EvP.len (NameIs.boot T (m_len w) b_len) (EvP.var rfl hv) (by rw [hlen]; omega)) (Ev.var rfl) op_eq_int)) fun r s₇ g₇ => ?_))
    obtain ⟨k₇, rfl⟩ := g₇
    have S₇ := Cx.S.up S₆ k₇
    have st17 := st16.trans (.of_keeps k₇)
    by_cases hfit : p + 1 + sizeAt bs p ≤ bs.length
    · have hb : ((((bs.drop (p + 1)).take (sizeAt bs p)).length : Int) == (sizeAt bs p : Int)) = true := by rw [hlen]; simp; omega
      rw [hb]
      refine wpAny_execs_cons (wpAny_Return_some (wp_of (Ev.go S₇ ok' (Ev.decode (EvP.var rfl hv) (fun q => by have := congrArg List.length q; rw [hlen] at this; simp at this; omega) (by rw [hlen]; omega))) fun u s₈ g₈ => ?_))
      obtain ⟨k₈, r₈⟩ := g₈
      cases r₈ with | str _ t₈ =>
      have S₈ := Cx.S.up S₇ k₈
      obtain ⟨_, vs, kk, e, r⟩ := St.muts S₈ aL _ (.head _)
      cases r with | cons r r' => cases r' with | nil => cases r with | int _ t₆ =>
      have e1 : min (sizeAt bs p) (bs.length - (p + 1)) = sizeAt bs p := by omega
      rw [e1] at e
      exact ⟨(st17.trans (.of_keeps k₈)).less newL, ⟨hlt, hfit⟩, ⟨_, rfl⟩, _, _, e⟩
    · have hb : ((((bs.drop (p + 1)).take (sizeAt bs p)).length : Int) == (sizeAt bs p : Int)) = false := by rw [hlen]; simp; omega
      rw [hb]
      refine wpAny_execs_nil ?_
      have e1 : min (sizeAt bs p) (bs.length - (p + 1)) = bs.length - (p + 1) := by omega
      rw [e1] at hlen
      refine go_raise (msg := pctT (sizeAt bs p) ((bs.length - (p + 1) : Nat) : Int)) S₇ ok' (NameIs.boot T (m_ValueError w) b_ValueError) (Ev.bin (Ev.strC mk_self') (Ev.tuple (.cons (Ev.var rfl) (.cons (hlen ▸ EvP.len (NameIs.boot T (m_len w) b_len) (EvP.var rfl hv) (by rw [hlen]; omega)) .nil))) (op_pct (by omega) (by omega))) fun s₈ h' ea u k₈ hx => ?_
      have S₈ := Cx.S.up S₇ k₈
      refine raise_out S₈ (ok'.frames _ rfl) rfl rfl hFn' hx fun s₉ R => ⟨fun z => hfit z.2, ?_⟩
      have ew : wordsAt bs p = pctT (sizeAt bs p) ((bs.length - (p + 1) : Nat) : Int) := if_pos hlt
      rw [ew]
      have R' : Raised ([L] ++ [aL]) outer (pctT (sizeAt bs p) ((bs.length - (p + 1) : Nat) : Int)) s₈ (.ref ea) s₉ := R.less fun a ha => .inl (List.mem_append_left _ ha)
      exact (R'.before ((st17.trans (.of_keeps k₈)).x) (allW S₈)).less newL
  · obtain ⟨hpe, R⟩ := g₂
    have ew : wordsAt bs p = msg1 := if_neg (by omega)
    rw [ew]
    have R' : Raised ([L] ++ [aL]) (callEnvC (fd42 w.params) L 42 :: outer) msg1 s₁ e s₂ := R.less fun a ha => .inl (List.mem_append_right _ ha)
    refine raise_on S' (ok'.frames _ rfl) rfl rfl R' (.head _) fun s₃ R₃ => ⟨fun z => by have := z.1; omega, ?_⟩
    exact (R₃.keep hk).less newL
end
end Mine
end
noncomputable section
open PySem PySem.Calls PySem.W PyProof.Rows
set_option Elab.async false
set_option maxRecDepth 100000
set_option linter.unusedVariables false
namespace Mine

theorem under_tc (A : Around) (a : Addr) (rest : List Value) : (A.under (.builtin "type.__call__" ⟨.ref a :: rest, []⟩)).depth = A.depth + 1 := by
  show A.depth + (Code.builtin "type.__call__" ⟨.ref a :: rest, []⟩).weight = A.depth + 1
  have : (Code.builtin "type.__call__" ⟨.ref a :: rest, []⟩).weight = 1 := by kernel_rfl
  rw [this]
theorem nocell56 (P : Params) : ∀ x ∈ (fd56 P).scope.names, x.2 ≠ .cell := by
  have e : (fd56 P).scope.names = [(Str.ofString "self", NameKind.local), (Str.ofString "value", NameKind.local)] := rfl
  rw [e]; decide
/-- a new object with a value -/
structure NewEx (h : Heap) (x dx : Addr) (v : Value) (h' : Heap) : Prop where
  keep : Le h h'
  nx : h.get? x = none
  nd : h.get? dx = none
  ne : dx ≠ x
  inst : h'.get? x = some (instObj 59 dx)
  dict : ∃ hs tk n, h'.get? dx = some (dictOf [⟨hs, .str "value" tk, v⟩] n)
theorem example_call {prog : Program} {w : World} {A : Around} {s : Shared} {v : Value} {H : Heap} (T : Wd (KK w) H) (hle : Le H s.heap) (hroom : A.depth + 1 < recursionLimit) :
    wpAny (model prog w) A (call (.ref 59) [v]) (fun u s' => ∃ x dx h' tk, u = .ref x ∧ s' = { s with heap := h', toks := tk } ∧ NewEx s.heap x dx v h') No s := by
  obtain ⟨hh, g, d, t, os⟩ := s
  have X : Frag.In (KK w) hh := T.k.keeps hle
  refine wpAny_call (make_core (init := .ref 56) (makes_of X (c59_makes w)) (looks_findIn X (c59_init w)) (fun self => bind_fn X self (c59_fn w)) (.inl rfl) ?_)
  have k2 : Le hh ((hh.push emptyDict).push (instObj 59 hh.objs.size)) := fun b o e => Heap.get?_push_of_some _ (Heap.get?_push_of_some _ e)
  have X2 := X.keeps k2
  obtain ⟨oa, ob, oc, hl⟩ := at56 w.params
  have hx2 : ((hh.push emptyDict).push (instObj 59 hh.objs.size)).get? (hh.objs.size + 1) = some (instObj 59 hh.objs.size) := by heap_get
  have hd2 : ((hh.push emptyDict).push (instObj 59 hh.objs.size)).get? hh.objs.size = some emptyDict := by heap_get
  refine codeAny_call_plain (fd := fd56 w.params) (body := bd56) (binds := [(Str.ofString "self", .ref (hh.objs.size + 1)), (Str.ofString "value", v)]) (by rw [under_tc]; exact hroom) (X2 _ _ hl) rfl (T.lim.keeps (hle.trans k2)) (codeRec_of X2 rfl) rfl rfl (nocell56 _) (fun x hx => ?_) (fun h₀ hns hk => ?_) rfl rfl rfl
  · rcases List.mem_cons.mp hx with q | hx
    · rw [q]; rfl
    · rw [List.mem_singleton.mp hx]; rfl
  have hsz : ((hh.push emptyDict).push (instObj 59 hh.objs.size)).objs.size = hh.objs.size + 2 := by rw [Heap.size_push, Heap.size_push]
  dsimp only at hns ⊢
  generalize hL : ((hh.push emptyDict).push (instObj 59 hh.objs.size)).objs.size = L at *
  have none_at : ∀ {b : Addr}, hh.objs.size ≤ b → hh.get? b = none := fun e => none_of_le e
  have F : Fr hh L h₀ (fun x => ([(Str.ofString "self", Value.ref (hh.objs.size + 1)), (Str.ofString "value", v)] : List (Str × Value)).reverse.lookup x) := ⟨hns, fun b o e => hk b o (k2 b o e), by lia⟩
  have N : News hh L h₀ [(hh.objs.size + 1, instObj 59 hh.objs.size), (hh.objs.size, emptyDict)] := fun p hp => by
    rcases List.mem_cons.mp hp with q | q
    · rw [q]; exact ⟨hk _ _ hx2, by show hh.objs.size + 1 ≠ L; lia, none_at (by show _ ≤ hh.objs.size + 1; lia)⟩
    · rw [List.mem_singleton.mp q]; exact ⟨hk _ _ hd2, by show hh.objs.size ≠ L; lia, none_at (Nat.le_refl _)⟩
  have kV : (callEnv (fd56 w.params) L 56).kindOf (Str.ofString "value") = some .local := rfl
  have kS : (callEnv (fd56 w.params) L 56).kindOf (Str.ofString "self") = some .local := rfl
  delta bd56
  refine wpAny_execs_cons (plainObj_wpAny_Assign_Attribute (wpAny_Name (wpAny_loadName_local rfl kV hns rfl (wpAny_Name (wpAny_loadName_local rfl kS hns rfl ?_) (by decide))) (by decide)) rfl)
  refine set_dict (K := KK w) (C := 59) (dx := hh.objs.size) (es := []) (n := 0) (ox := instObj 59 hh.objs.size) F X N ⟨hk _ _ hx2, rfl, rfl, hk _ _ hd2⟩ rfl (c59_set w) (c59_over w) (c59_tvalue w) (c59_dict w) rfl rfl (.tail (by show hh.objs.size + 1 ≠ hh.objs.size; lia) (.head fun p hp => nomatch hp)) (by show 1 ≤ 1000; lia) fun h' F' N' => ?_
  refine wpAny_execs_nil ⟨rfl, ?_⟩
  refine ⟨hh.objs.size + 1, hh.objs.size, h', _, rfl, rfl, F'.keep, none_at (b := hh.objs.size + 1) (Nat.le_succ _), none_at (Nat.le_refl _), Nat.ne_of_lt (Nat.lt_succ_self _), (N' _ (.head _)).1, _, _, _, (N' _ (.tail _ (.head _))).1⟩
end Mine
end
noncomputable section
open PySem PySem.Calls PySem.W PyProof.Rows
set_option Elab.async false
set_option maxRecDepth 100000
set_option linter.unusedVariables false
namespace Mine

theorem nodup117 : ([Str.ofString "octets", Str.ofString "at"]).Nodup := by decide
theorem s117 {w : World} {H : Heap} (T : Wd (KK w) H) : FnS H 117 (fd117 w.params) bd117 [Str.ofString "octets", Str.ofString "at"] := by
  obtain ⟨oa, ob, oc, hl⟩ := at117 w.params
  refine ⟨⟨_, T.k _ _ hl, rfl⟩, T.lim, codeRec_of T.k rfl, rfl, rfl, rfl, rfl, ?_, nodup117, ?_, ?_, rfl, rfl, rfl⟩
  · intro vals hv
    match vals, hv with
    | [v0, v1], _ => rfl
  · intro n x hx
    rcases List.mem_cons.mp hx with q | hx
    · subst q; exact .inr ⟨rfl, rfl⟩
    · rw [List.mem_singleton.mp hx]; exact .inr ⟨rfl, rfl⟩
  · have e : (cellsFrom 0 (fd117 w.params).scope.names []).map (·.1) = [Str.ofString "at", Str.ofString "octets"] := rfl
    rw [e]; decide

/-- the const table of _law_stream's code: filled -/
noncomputable def rdQual (P : Params) : Str := qualnameIn (callEnvC (fd117 P) 0 117) (Str.ofString "_law_read") (Str.ofString "_law_read")
def TabF (P : Params) (h : Heap) : Prop := ∃ c', h.get? 112 = some (tabObj #[rawInt rdPos.line, rawInt rdPos.col, .ref c']) ∧ h.CodeRec (.ref c') (rdQual P)
theorem TabF.up {P : Params} {h h' : Heap} (x : TabF P h) (k : Le h h') : TabF P h' := by
  obtain ⟨c', h1, h2⟩ := x
  exact ⟨c', k _ _ h1, h2.keeps k⟩
/-- the module of the built-in names -/
def BmAt (H : Heap) : Prop := ∃ ob, H.get? 4 = some ob ∧ ob.cls = .type "module" ∧ ob.dict = some builtinsNs ∧ ob.data = .plain ∧ (4 : Addr) ≠ builtinsNs
theorem BmAt.up {h h' : Heap} (x : BmAt h) (k : Le h h') : BmAt h' := by
  obtain ⟨ob, h1, h2⟩ := x; exact ⟨ob, k _ _ h1, h2⟩
theorem Wd.up {K : Frag} {h h' : Heap} (x : Wd K h) (k : Le h h') : Wd K h' where
  k := x.k.keeps k
  g := let ⟨m, n⟩ := x.g; ⟨m, n.keeps k⟩
  b := let ⟨m, n, r⟩ := x.b; ⟨m, n.keeps k, r⟩
  lim := x.lim.keeps k
  digits := let ⟨m, n, r⟩ := x.digits; ⟨m, n.keeps k, r⟩
theorem g_bm (w : World) : nsIn (KK w) mainGlobals (Str.ofString "__builtins__") = some (some (.ref 4)) := id rfl

/-- what stands for good behind a step that makes new things and turns 112 -/
noncomputable def riseL (H : Heap) (s : Heap) : List Addr := (List.range s.objs.size).filter fun b => (s.get? b).isSome && (H.get? b).isNone && b != 112
noncomputable def rise (H s s' : Heap) : Heap := hideAll s' (riseL H s)
theorem riseL_mem {H s : Heap} {b : Addr} : b ∈ riseL H s ↔ (∃ o, s.get? b = some o) ∧ H.get? b = none ∧ b ≠ 112 := by
  unfold riseL
  rw [List.mem_filter, List.mem_range]
  simp only [Bool.and_eq_true, bne_iff_ne, ne_eq, Option.isNone_iff_eq_none, Option.isSome_iff_exists]
  constructor
  · rintro ⟨_, ⟨h1, h2⟩, h3⟩; exact ⟨h1, h2, h3⟩
  · rintro ⟨⟨o, h1⟩, h2, h3⟩; exact ⟨Heap.lt_size h1, ⟨⟨o, h1⟩, h2⟩, h3⟩
theorem rise_le (H s s' : Heap) : Le (rise H s s') s' := fun b o e => of_hideAll _ e
theorem rise_base {H s s' : Heap} (k : Le H s') : Le H (rise H s s') := fun b o e => hideAll_get _ (k _ _ e) fun m => by rw [(riseL_mem.mp m).2.1] at e; cases e
theorem rise_new {H s s' : Heap} {b : Addr} {o : Obj} (h : s.get? b = none) (e : s'.get? b = some o) : (rise H s s').get? b = some o := hideAll_get _ e fun m => by obtain ⟨⟨o, q⟩, _⟩ := riseL_mem.mp m; rw [h] at q; cases q
theorem rise_tab {H s s' : Heap} {o : Obj} (e : s'.get? 112 = some o) : (rise H s s').get? 112 = some o := hideAll_get _ e fun m => (riseL_mem.mp m).2.2 rfl
theorem rise_off {H s s' : Heap} {b : Addr} {o : Obj} (h : s.get? b = some o) (n : H.get? b = none) (ne : b ≠ 112) : (rise H s s').get? b = none := hideAll_none _ (riseL_mem.mpr ⟨⟨o, h⟩, n, ne⟩)

structure Stream (w : World) (H : Heap) (s s' : Shared) (I aL : Addr) (bs : List UInt8) : Prop where
  step : StepU [112] s s'
  same : TabF w.params H → Keeps s s'
  tape : Tape w (rise H s.heap s'.heap) I aL bs
  tab : TabF w.params (rise H s.heap s'.heap)
  base : Le H (rise H s.heap s'.heap)
theorem cell_of {c : Cx} {h : Heap} {x : Str} {v : Value} (S : c.S h) (hx : c.ρ.lookup x = some (.val v)) (hk : c.env.kindOf x = some .cell) : ∃ a, c.env.cells.lookup x = some a ∧ h.IsCell a (some v) := by
  obtain ⟨u, ha, hb⟩ := S.vars x _ hx
  have hb' : u = v := hb
  subst hb'
  rcases ha with ⟨k, _⟩ | ⟨_, a, l, n⟩
  · rw [hk] at k; cases k
  · exact ⟨a, l, n⟩

/-- all else of a heap, as a list -/
noncomputable def elseL (h₀ h : Heap) (no : List Addr) : List (Addr × Obj) := (List.range h.objs.size).filterMap fun b => if b ∈ no ∨ (h₀.get? b).isSome then none else (h.get? b).map fun o => (b, o)
theorem elseL_mem {h₀ h : Heap} {no : List Addr} {p : Addr × Obj} (hp : p ∈ elseL h₀ h no) : h.get? p.1 = some p.2 ∧ p.1 ∉ no ∧ h₀.get? p.1 = none := by
  obtain ⟨b, _, e⟩ := List.mem_filterMap.mp hp
  by_cases q : b ∈ no ∨ (h₀.get? b).isSome
  · rw [if_pos q] at e; cases e
  · rw [if_neg q] at e
    obtain ⟨o, e1, rfl⟩ := Option.map_eq_some_iff.mp e
    refine ⟨e1, fun m => q (.inl m), ?_⟩
    cases z : h₀.get? b with
    | none => rfl
    | some o' => exact (q (.inr (by rw [z]; rfl))).elim
theorem mem_elseL {h₀ h : Heap} {no : List Addr} {b : Addr} {o : Obj} (e : h.get? b = some o) (hn : b ∉ no) (h0 : h₀.get? b = none) : (b, o) ∈ elseL h₀ h no :=
  List.mem_filterMap.mpr ⟨b, List.mem_range.mpr (Heap.lt_size e), by
    rw [if_neg (by rintro (q | q); exact hn q; rw [h0] at q; cases q), e]; rfl⟩
theorem set_all {prog : Program} {w : World} {A : Around} {s : Shared} {h₀ : Heap} {L x dx : Addr} {m : Str → Option Value} {es es' : List DictEntry} {n n' : Nat} {name : Str} {v : Value} {Q : Unit → Shared → Prop} {E : Value → Shared → Prop}
    (F : Fr h₀ L s.heap m) (X₀ : Frag.In (KK w) h₀) (hx : s.heap.get? x = some (instObj 59 dx)) (hd : s.heap.get? dx = some (dictOf es n)) (nx : h₀.get? x = none) (nd : h₀.get? dx = none) (hxd : x ≠ dx) (hxL : x ≠ L) (hdL : dx ≠ L)
    (ht : takerIn (KK w) 59 name = some none) (hl : (getL name es).isSome = true) (e : (putL name (PyData.keyHash w.params name) (.str name (s.toks + 1)) v es, putN name es n) = (es', n')) (hz : es'.length ≤ 1000)
    (k : ∀ h', h'.Ns L m → h'.get? dx = some (dictOf es' n') → (∀ b o, b ≠ dx → b ≠ L → s.heap.get? b = some o → h'.get? b = some o) → Q () { s with heap := h', toks := s.toks + 2 }) :
    wpAny (model prog w) A (setAttr (.ref x) name v) Q E s := by
  have N : News h₀ L s.heap ((dx, dictOf es n) :: elseL h₀ s.heap [dx, L]) := fun p hp => by
    rcases List.mem_cons.mp hp with q | q
    · rw [q]; exact ⟨hd, hdL, nd⟩
    · obtain ⟨h1, h2, h3⟩ := elseL_mem q
      exact ⟨h1, fun z => h2 (z ▸ .tail _ (.head _)), h3⟩
  refine set_dict (K := KK w) (C := 59) (dx := dx) (es := es) (n := n) (es' := es') (n' := n') (ox := instObj 59 dx) F X₀ N ⟨hx, rfl, rfl, hd⟩ rfl (c59_set w) (c59_over w) ht (c59_dict w) hl e (.head fun p hp => fun z => (elseL_mem hp).2.1 (z ▸ .head _)) hz fun h' F' N' => ?_
  refine k h' F'.ns (N' _ (.head _)).1 fun b o hb hbL e => ?_
  cases z : h₀.get? b with
  | none => exact (N' _ (.tail _ (mem_elseL e (fun q => by
      rcases List.mem_cons.mp q with r | r
      · exact hb r
      · exact hbL (List.mem_singleton.mp r)) z))).1
  | some o' =>
    have e1 := F.keep _ _ z
    rw [e] at e1; cases e1
    exact F'.keep _ _ z
theorem among_empty (pos : Pos) : codeAmong pos (#[] : Array Value).toList = none := rfl
theorem among_hit (c' : Addr) : codeAmong rdPos (#[rawInt rdPos.line, rawInt rdPos.col, Value.ref c'] : Array Value).toList = some (.ref c') := codeAmong_snoc [] True.intro rfl
section
variable {prog : Program} {w : World} {H : Heap}
theorem make_reader (T : Wd (KK w) H) (B : BmAt H) {A : Around} {s : Shared} (hH : Le H s.heap) (hq : (H.get? 112 = none ∧ s.heap.get? 112 = some (tabObj #[])) ∨ TabF w.params H) (L : Addr) {Q : Value → Shared → Prop} {E : Value → Shared → Prop}
    (k : ∀ G h' tk c' oc vs tt ct doc pm, s.heap.get? G = none → h'.get? G = some { cls := .type "function", data := .func (rdFd (rdQual w.params) (L + 1) (L + 2) doc pm (.ref c') ct) } → (∀ b o, b ≠ 112 → s.heap.get? b = some o → h'.get? b = some o) → (TabF w.params H → Le s.heap h') →
      h'.get? 112 = some (tabObj #[rawInt rdPos.line, rawInt rdPos.col, .ref c']) → h'.get? c' = some oc → oc.data = .fields vs → vs[1]? = some (.str (rdQual w.params) tt) → (s.heap.get? c' = none ∨ H.get? c' = some oc) → Q (.ref G) { s with heap := h', toks := tk }) :
    wpAny (model prog w) A (makeFunction (Str.ofString "_law_read") (qualnameIn (callEnvC (fd117 w.params) L 117) (Str.ofString "_law_read") (Str.ofString "_law_read")) rdParams (.stmts rdBody) rdScope (callEnvC (fd117 w.params) L 117) [] [] [] rdPos rdPos.line) Q E s := by
  have X : Frag.In (KK w) s.heap := T.k.keeps hH
  obtain ⟨mg, hg⟩ := T.g
  have hg' := hg.keeps hH
  obtain ⟨ob, b1, b2, b3, b4, b5⟩ := B.up hH
  have hmg : mg (Str.ofString "__builtins__") = some (.ref 4) := mg_of X hg' (g_bm w)
  have ne_of : ∀ {b : Addr} {o o' : Obj}, s.heap.get? 4 = some o → s.heap.get? b = some o' → o'.data ≠ .plain → (4 : Addr) ≠ b := fun {b o o'} e e' hn q => by
    rw [b1] at e; rw [← q, b1] at e'; cases e'; exact hn b4
  have hgl : (4 : Addr) ≠ mainGlobals := by
    obtain ⟨o, es, ep, e, d, _⟩ := hg'
    exact ne_of b1 e (fun z => by rw [d] at z; cases z)
  have C : CodeHd s.heap 116 112 := codeHd_of_K X (by kernel_rfl)
  have hcl : closureFor rdScope (callEnvC (fd117 w.params) L 117) = pure (rdClos (L + 1) (L + 2)) := by rfl
  have bat : ∀ {o : Obj}, s.heap.get? 112 = some o → o.data ≠ .plain → s.heap.BuiltinsAt mg 112 := fun {o} e hn => ⟨4, ob, hmg, b5, hgl, ne_of b1 e hn, b1, b2, b3, b4⟩
  rcases hq with ⟨n112, e112⟩ | hF
  · have ngl : mainGlobals ≠ 112 := fun q => by
      obtain ⟨o, es, ep, e, d, _⟩ := hg'
      rw [q, e112] at e; cases e; cases d
    refine makeFunction_K hcl rfl hg' rfl C e112 True.intro (among_empty _) ngl (bat e112 (fun z => by cases z)) fun c' ctv doc h' tk hx hge hlt hrec htab => ?_
    have kb : ∀ b o, b ≠ 112 → s.heap.get? b = some o → (h'.push (fnMade (Str.ofString "_law_read") (rdQual w.params) rdParams rdBody rdScope (rdClos (L + 1) (L + 2)) doc ((mg "__name__").getD .none) c' ctv)).get? b = some o := fun b o hb e => Heap.get?_push_of_some _ (hx b o hb e)
    obtain ⟨c₁, oc, vs, tt, q1, q2, q3, q4⟩ := hrec
    cases q1
    refine k _ _ tk c' oc vs tt ctv doc _ (none_of_le (by omega)) (Heap.get?_push_size _ rfl) kb (fun z => ?_) (Heap.get?_push_of_some _ htab) (Heap.get?_push_of_some _ q2) q3 q4 (.inl (none_of_le hge))
    obtain ⟨c₂, q, _⟩ := z
    rw [n112] at q; cases q
  · obtain ⟨c', f112, c₁, oc, vs, tt, q1, q2, q3, q4⟩ := hF
    cases q1
    have e112 := hH _ _ f112
    refine makeFunction_hit hcl rfl hg' rfl C e112 ⟨⟩ (among_hit c') (bat e112 (fun z => by cases z)) fun ctv doc h' tk hk hsz => ?_
    have kb : Le s.heap (h'.push { cls := .type "function", data := .func (rdFd (rdQual w.params) (L + 1) (L + 2) doc ((mg "__name__").getD .none) (.ref c') ctv) }) := fun b o e => Heap.get?_push_of_some _ (hk b o e)
    exact k _ _ tk c' oc vs tt ctv doc _ (none_of_le hsz) (Heap.get?_push_size _ rfl) (fun b o _ e => kb b o e) (fun _ => kb) (kb _ _ e112) (kb _ _ (hH _ _ q2)) q3 q4 (.inr q2)
end
section
variable {prog : Program} {w : World} {H : Heap}
theorem stream_call (T : Wd (KK w) H) (B : BmAt H) {A : Around} {s : Shared} {aL : Addr} {bs : List UInt8} {t : Tok} (ok : Ok 2 none A) (hH : Le H s.heap) (hq : (H.get? 112 = none ∧ s.heap.get? 112 = some (tabObj #[])) ∨ TabF w.params H) (nL : H.get? aL = none) :
    wpAny (model prog w) A (call (.ref 117) [.bytes bs.toArray t, .ref aL]) (fun v s' => ∃ I, v = .ref I ∧ Stream w H s s' I aL bs) No s := by
  refine (s117 T).callL (F := []) (U := []) (W₀ := []) (ρ₀ := [(Str.ofString "octets", .val (.bytes bs.toArray t)), (Str.ofString "at", .val (.ref aL))]) (μ₀ := []) ok.room hH (fun b hb => nomatch hb) (fun b hb => nomatch hb) rfl (fun y b e => ?_) (fun b ds hm => nomatch hm) .nil (fun b hb => nomatch hb) ?_
  · rw [List.lookup_cons] at e
    cases q : y == Str.ofString "octets" with
    | true => rw [q] at e; cases e; rw [eq_of_beq q]; exact ⟨_, .head _, rfl⟩
    | false =>
      rw [q, List.lookup_cons] at e
      cases q' : y == Str.ofString "at" with
      | true => rw [q'] at e; cases e; rw [eq_of_beq q']; exact ⟨_, .tail _ (.head _), rfl⟩
      | false => rw [q'] at e; cases e
  intro L s₁ hL hLU hLn hown hk S
  have hO : own (fd117 w.params) L = [L, L + 2, L + 1] := rfl
  have ok' : Ok 1 none (A.deeper (callEnvC (fd117 w.params) L 117)) := ok.deeper _
  have S' : Cx.S ⟨prog, w, H, 1, none, [], [L, L + 2, L + 1] ++ [], [L, L + 2, L + 1] ++ [], callEnvC (fd117 w.params) L 117, [(Str.ofString "octets", .val (.bytes bs.toArray t)), (Str.ofString "at", .val (.ref aL))], []⟩ s₁.heap := S
  have hn112 : (112 : Addr) ∉ ([L, L + 2, L + 1] ++ [] : List Addr) := fun m => by
    have h1 : s.heap.get? 112 = none := hown 112 (by rw [hO]; simpa using m)
    rcases hq with ⟨_, q⟩ | ⟨c', q, _⟩
    · rw [h1] at q; cases q
    · have := hH _ _ q; rw [h1] at this; cases this
  delta bd117
  -- the object
  refine wpAny_execs_cons (wpAny_Assign_Name (wpAny_Call_NameR (NameIs.glob (c := ⟨prog, w, H, 1, none, [], [L, L + 2, L + 1] ++ [], [L, L + 2, L + 1] ++ [], callEnvC (fd117 w.params) L 117, [(Str.ofString "octets", .val (.bytes bs.toArray t)), (Str.ofString "at", .val (.ref aL))], []⟩) T (g_Example w) rfl (by decide) _ s₁ _ _ _ S'
    (callWith_K (K := KK w) (h₀ := H) T.k (by kernel_rfl) ?_ rfl rfl))) rfl)
  obtain ⟨vo, hvo, hbo⟩ := St.vars S' (Str.ofString "octets") _ rfl
  have hbo' : vo = .bytes bs.toArray t := hbo
  subst hbo'
  refine Calls.spliced_cons (x := eval (.Name (Str.ofString "octets") _) _) (rest := []) (load_var S' hvo (Calls.spliced_nil ⟨T.k.keeps (St.base S'), ?_⟩) (by decide) (by decide))
  refine wp_of (example_call (prog := prog) T (St.base S') (by have := ok'.depth; omega)) fun u s₂ g₂ => ?_
  obtain ⟨x, dx, h₂, tk₂, rfl, rfl, X⟩ := g₂
  have S₂ : Cx.S ⟨prog, w, H, 1, none, [], [L, L + 2, L + 1] ++ [], [L, L + 2, L + 1] ++ [], callEnvC (fd117 w.params) L 117, [(Str.ofString "octets", .val (.bytes bs.toArray t)), (Str.ofString "at", .val (.ref aL))], []⟩ h₂ := St.up S' X.keep
  refine wp_of (storeL_of (s := { s₁ with heap := h₂, toks := tk₂ }) (b := .val (.ref x)) (v := .ref x) S₂ rfl rfl) fun _ s₃ g₃ => ?_
  obtain ⟨st₃, S₃⟩ := g₃
  have hk01 := keeps_le hk
  obtain ⟨mL, hmL⟩ := St.ns S'
  obtain ⟨oL, eL⟩ : ∃ o, s₁.heap.get? L = some o := let ⟨o, _, _, e, _⟩ := hmL; ⟨o, e⟩
  have nxL : x ≠ L := fun q => by have := X.nx; rw [q] at this; have e := eL; rw [this] at e; cases e
  have ndL : dx ≠ L := fun q => by have := X.nd; rw [q] at this; have e := eL; rw [this] at e; cases e
  have k23 : ∀ b o, b ≠ L → h₂.get? b = some o → s₃.heap.get? b = some o := fun b o hb e => st₃.at (fun m => hb (List.mem_singleton.mp m)) e
  have newOf : ∀ {b : Addr}, s₁.heap.get? b = none → s.heap.get? b = none := fun {b} e => by
    cases q : s.heap.get? b with
    | none => rfl
    | some o => rw [hk01 _ _ q] at e; cases e
  have oldL : ∀ {b : Addr} {o : Obj}, s.heap.get? b = some o → b ≠ L := fun e q => by rw [q, hLn] at e; cases e
  have k03 : ∀ b o, s.heap.get? b = some o → s₃.heap.get? b = some o := fun b o e => k23 b o (oldL e) (X.keep _ _ (hk01 _ _ e))
  have hx₃ := k23 _ _ nxL X.inst
  obtain ⟨hs, tkv, nd, hd₂⟩ := X.dict
  have hd₃ := k23 _ _ ndL hd₂
  have hq₃ : (H.get? 112 = none ∧ s₃.heap.get? 112 = some (tabObj #[])) ∨ TabF w.params H := hq.imp (fun z => ⟨z.1, k03 _ _ z.2⟩) id
  -- the def
  refine wpAny_execs_cons (nestDef_K rfl rfl rfl (make_reader T B (St.base S₃) hq₃ L fun G h₄ tk₄ c' oc vsc tt ct doc pm nG eG k4 f4 t4 ec dc qc oldc => ?_))
  have S₄ : Cx.S ⟨prog, w, H, 1, none, [], [L, L + 2, L + 1] ++ [], [L, L + 2, L + 1] ++ [], callEnvC (fd117 w.params) L 117, (Str.ofString "tape", .val (.ref x)) :: [(Str.ofString "octets", .val (.bytes bs.toArray t)), (Str.ofString "at", .val (.ref aL))], []⟩ h₄ := by
    rcases hq₃ with ⟨z1, z2⟩ | z
    · exact St.off S₃ z2 (.fields rfl) (fun q => nomatch q) hn112 z1 k4
    · exact St.up S₃ (f4 z)
  refine wp_of (storeL_of (s := { s₃ with heap := h₄, toks := tk₄ }) (b := .val (.ref G)) (v := .ref G) S₄ rfl rfl) fun _ s₅ g₅ => ?_
  obtain ⟨st₅, S₅⟩ := g₅
  have nGL : G ≠ L := fun q => by
    obtain ⟨o, e⟩ := (St.offs S₃ L (.head _)).1
    rw [q, e] at nG; cases nG
  have k45 : ∀ b o, b ≠ L → h₄.get? b = some o → s₅.heap.get? b = some o := fun b o hb e => st₅.at (fun m => hb (List.mem_singleton.mp m)) e
  have is112 : ∀ h : Heap, ∀ {b : Addr} {o : Obj}, h.get? b = some o → (∃ ps, h.get? 112 = some (tabObj ps)) → (∀ ps, o ≠ tabObj ps) → b ≠ 112 := fun h {b o} e ⟨ps, q⟩ hn z => by rw [z, q] at e; cases e; exact hn _ rfl
  have tab₃ : ∃ ps, s₃.heap.get? 112 = some (tabObj ps) := by
    rcases hq₃ with ⟨_, z⟩ | z
    · exact ⟨_, z⟩
    · obtain ⟨c', z, _⟩ := z.up (St.base S₃); exact ⟨_, z⟩
  have nx112 := is112 _ hx₃ tab₃ (fun ps q => by cases q)
  have nd112 := is112 _ hd₃ tab₃ (fun ps q => by cases q)
  have nG112 : G ≠ 112 := is112 _ eG ⟨_, t4⟩ (fun ps q => by cases q)
  have nL112 : (L : Addr) ≠ 112 := fun q => hn112 (q ▸ .head _)
  have hx₅ := k45 _ _ nxL (k4 _ _ nx112 hx₃)
  have hd₅ := k45 _ _ ndL (k4 _ _ nd112 hd₃)
  -- tape.read = _law_read
  obtain ⟨vg, hvg, hbg⟩ := St.vars S₅ (Str.ofString "_law_read") _ rfl
  have hbg' : vg = .ref G := hbg
  subst hbg'
  obtain ⟨vx, hvx, hbx⟩ := St.vars S₅ (Str.ofString "tape") _ rfl
  have hbx' : vx = .ref x := hbx
  subst hbx'
  refine wpAny_execs_cons (plainObj_wpAny_Assign_Attribute (load_var S₅ hvg (load_var S₅ hvx ?_ (by decide) (by decide)) (by decide) (by decide)) rfl)
  have X₀ : Frag.In (KK w) (hideAll s.heap [112]) := fun a o e => hideAll_get _ ((T.k.keeps hH) _ _ e) fun m => by
    rw [List.mem_singleton.mp m] at e
    have : List.lookup 112 (KK w) = none := by rfl
    rw [this] at e; cases e
  have kT : (callEnvC (fd117 w.params) L 117).kindOf (Str.ofString "tape") = some .local := rfl
  obtain ⟨m₅, hm₅, hmt⟩ : ∃ m, s₅.heap.Ns L m ∧ m (Str.ofString "tape") = some (.ref x) := by
    rcases hvx with ⟨_, m, n, e⟩ | ⟨q, _⟩
    · exact ⟨m, n, e⟩
    · rcases q with q | q <;> (have q' : (callEnvC (fd117 w.params) L 117).kindOf (Str.ofString "tape") = _ := q; rw [kT] at q'; cases q')
  have k05 : ∀ b o, b ≠ 112 → s.heap.get? b = some o → s₅.heap.get? b = some o := fun b o hb e => k45 b o (oldL e) (k4 b o hb (k03 b o e))
  have F₅ : Fr (hideAll s.heap [112]) L s₅.heap m₅ := ⟨hm₅, fun b o e => by
    have hb : b ≠ 112 := fun q => by rw [q, hideAll_none _ (.head _)] at e; cases e
    exact k05 b o hb (of_hideAll _ e), by rw [hideAll_size]; exact Nat.le_of_eq hL⟩
  have hidn : ∀ {b : Addr}, s.heap.get? b = none → (hideAll s.heap [112]).get? b = none := fun {b} e => by
    cases q : (hideAll s.heap [112]).get? b with
    | none => rfl
    | some o => rw [of_hideAll _ q] at e; cases e
  obtain ⟨cO, lO, iO⟩ := cell_of S₅ (x := Str.ofString "octets") rfl rfl
  obtain ⟨cA, lA, iA⟩ := cell_of S₅ (x := Str.ofString "at") rfl rfl
  have eO : cO = L + 1 := by
    have : ((callEnvC (fd117 w.params) L 117).cells.lookup (Str.ofString "octets")) = some (L + 1) := rfl
    rw [this] at lO; exact (Option.some.inj lO).symm
  have eA : cA = L + 2 := by
    have : ((callEnvC (fd117 w.params) L 117).cells.lookup (Str.ofString "at")) = some (L + 2) := rfl
    rw [this] at lA; exact (Option.some.inj lA).symm
  subst eO; subst eA
  refine set_all F₅ X₀ hx₅ hd₅ (hidn (newOf X.nx)) (hidn (newOf X.nd)) (Ne.symm X.ne) nxL ndL (c59_tread w) rfl rfl (by show 2 ≤ 1000; omega) fun h₆ n₆ d₆ k₆ => ?_
  refine wpAny_execs_cons (wpAny_Return_some (wpAny_Name (wpAny_loadName_local rfl kT n₆ hmt ?_) (by decide)))
  have inL : ∀ {b : Addr}, b ∈ [L, L + 2, L + 1] → s.heap.get? b = none := fun {b} hb => hown b (by rw [hO]; exact hb)
  have neL : ∀ {b : Addr} {o : Obj}, s₅.heap.get? b = some o → (∀ es ep, o.data ≠ .dict es ep) → b ≠ L ∧ b ≠ dx := fun {b o} e hn => ⟨fun q => by
    obtain ⟨oL, es, ep, z, d, _⟩ := hm₅
    rw [q, z] at e; cases e; exact hn _ _ d, fun q => by
    rw [q, hd₅] at e; cases e; exact hn _ _ rfl⟩
  have at6 : ∀ {b : Addr} {o : Obj}, s₅.heap.get? b = some o → (∀ es ep, o.data ≠ .dict es ep) → h₆.get? b = some o := fun {b o} e hn => k₆ b o (neL e hn).2 (neL e hn).1 e
  have eG₅ := k45 _ _ nGL eG
  have notD : ∀ es ep, oc.data ≠ .dict es ep := fun _ _ z => by rw [dc] at z; cases z
  have ncL : c' ≠ L := fun q => by
    obtain ⟨m, hm⟩ := St.ns S₄
    obtain ⟨oL, es, ep, z, d, _⟩ := hm
    have z' : h₄.get? L = some oL := z
    rw [q, z'] at ec; cases ec; exact notD _ _ d
  have ec6 := at6 (k45 _ _ ncL ec) notD
  have t6 := at6 (k45 _ _ (Ne.symm nL112) t4) (fun _ _ q => by cases q)
  have eG6 := at6 eG₅ (fun _ _ q => by cases q)
  have stp : ∀ {W : List Addr}, L ∈ W → dx ∈ W → (112 ∈ W ∨ TabF w.params H) → StepU W s { s₅ with heap := h₆, toks := s₅.toks + 2 } := fun {W} hLW hdW h1 =>
    (((((StepU.of_keeps hk).trans (s'' := { s₁ with heap := h₂, toks := tk₂ }) ⟨h₂, tk₂, rfl, fun b o _ e => X.keep b o e⟩).trans (st₃.mono fun a ha => by rw [List.mem_singleton.mp ha]; exact hLW)).trans (s'' := { s₃ with heap := h₄, toks := tk₄ })
      ⟨h₄, tk₄, rfl, fun b o hb e => h1.elim (fun z => k4 b o (fun q => hb (q ▸ z)) e) (fun z => f4 z b o e)⟩).trans (st₅.mono fun a ha => by rw [List.mem_singleton.mp ha]; exact hLW)).trans ⟨h₆, s₅.toks + 2, rfl, fun b o hb e => k₆ b o (fun q => hb (q ▸ hdW)) (fun q => hb (q ▸ hLW)) e⟩
  have newG : s.heap.get? G = none := by
    cases q : s.heap.get? G with
    | none => rfl
    | some o => rw [k03 _ _ q] at nG; cases nG
  have leH : Le H h₆ := fun b o e => by
    have e0 := hH b o e
    by_cases q : b = 112
    · rcases hq with ⟨z, _⟩ | z
      · rw [q, z] at e; cases e
      · exact (stp (W := [L, dx]) (.head _) (.tail _ (.head _)) (.inr z)).at (fun m => by
          rcases List.mem_cons.mp m with r | r
          · exact oldL e0 r
          · rw [List.mem_singleton.mp r, newOf X.nd] at e0; cases e0) e0
    · exact k₆ b o (fun r => by rw [r, newOf X.nd] at e0; cases e0) (oldL e0) (k05 b o q e0)
  have rb : Le H (rise H s.heap h₆) := rise_base leH
  have rc : (rise H s.heap h₆).get? c' = some oc := by
    rcases oldc with z | z
    · refine rise_new ?_ ec6
      cases q : s.heap.get? c' with
      | none => rfl
      | some o => rw [k03 _ _ q] at z; cases z
    · exact rb _ _ z
  have crec : (rise H s.heap h₆).CodeRec (.ref c') (rdQual w.params) := ⟨c', oc, vsc, tt, rfl, rc, dc, qc⟩
  refine ⟨x, rfl, ?_, fun hF => ?_, ⟨dx, G, _, _, rise_new (newOf X.nx) (k₆ _ _ (Ne.symm X.ne) nxL hx₅), rise_new (newOf X.nd) d₆, rfl, ⟨H, rdQual w.params, L + 1, L + 2, doc, pm, .ref c', ct, t, T, rb, rise_new newG eG6, crec, ?_, ?_, ?_, ?_, nL, Nat.ne_of_lt (Nat.lt_succ_self _)⟩⟩, ⟨c', rise_tab t6, crec⟩, rb⟩
  · exact (stp (W := [112, L, dx]) (.tail _ (.head _)) (.tail _ (.tail _ (.head _))) (.inl (.head _))).less fun a ha => by
      rcases List.mem_cons.mp ha with q | ha
      · exact .inl (q ▸ .head _)
      rcases List.mem_cons.mp ha with q | ha
      · rw [q]; exact .inr hLn
      · rw [List.mem_singleton.mp ha]; exact .inr (newOf X.nd)
  · exact (stp (W := [L, dx]) (.head _) (.tail _ (.head _)) (.inr hF)).keeps fun a ha => by
      rcases List.mem_cons.mp ha with q | ha
      · rw [q]; exact hLn
      · rw [List.mem_singleton.mp ha]; exact newOf X.nd
  · obtain ⟨o, e, d⟩ := iO
    exact ⟨o, rise_new (inL (.tail _ (.tail _ (.head _)))) (at6 e (fun _ _ z => by rw [d] at z; cases z)), d⟩
  · obtain ⟨o, e, d⟩ := iA
    exact ⟨o, rise_new (inL (.tail _ (.head _))) (at6 e (fun _ _ z => by rw [d] at z; cases z)), d⟩
  · exact (St.offs S₅ (L + 1) (.tail _ (.tail _ (.head _)))).2
  · exact (St.offs S₅ (L + 2) (.tail _ (.head _))).2
end
end Mine
end
noncomputable section
open PySem PySem.Calls PySem.W PyProof.Rows
set_option Elab.async false
set_option maxRecDepth 100000
set_option linter.unusedVariables false
namespace Mine

theorem step_next {W : List Addr} {l : List Env} {s s₁ : Shared} {base h' : Heap} {tk : Nat} (st : StepX W (frOf l) s s₁) (hD : ∀ a ∈ frOf l, IsD s.heap a) (hk : ∀ b o, s.heap.get? b = some o → b ∉ W → b ∉ frOf l → base.get? b = some o) (hb : base.StaysIn h') (hu : s₁.heap.UpToSlots h') :
    StepX W (frOf l) s { s₁ with heap := h', toks := tk } := by
  obtain ⟨h₁, t₁, rfl, k₁⟩ := st
  refine ⟨h', tk, rfl, fun b o hbW q => ?_⟩
  by_cases m : b ∈ frOf l
  · obtain ⟨o₁, e₁, c₁⟩ := k₁ b o hbW q
    obtain ⟨o', es, ep, e', d⟩ := hD b m
    rw [q] at e'; cases e'
    have hss : SameS o o₁ := by
      rcases c₁ with rfl | ⟨_, z⟩
      · exact ⟨o₁.slots, rfl⟩
      · exact z
    obtain ⟨sl₁, rfl⟩ := hss
    obtain ⟨sl, z⟩ := hu b _ e₁ (fun vs r => by
      have r' : o.data = .fields vs := r
      rw [d] at r'; cases r')
    exact ⟨_, z, .inr ⟨m, sl, rfl⟩⟩
  · exact ⟨o, hb b o (hk b o q hbW m), .inl rfl⟩

theorem StepX.toW {W W' F F' : List Addr} {s s' : Shared} (st : StepX W F s s') (h1 : ∀ b ∈ W, b ∈ W') (h2 : ∀ b ∈ F, b ∈ W' ∨ b ∈ F') : StepX W' F' s s' := by
  obtain ⟨h', t', rfl, k⟩ := st
  refine ⟨h', t', rfl, fun b o hb e => ?_⟩
  obtain ⟨o', e', cc⟩ := k b o (fun m => hb (h1 b m)) e
  refine ⟨o', e', cc.imp id fun ⟨m, q⟩ => ⟨?_, q⟩⟩
  rcases h2 b m with r | r
  · exact (hb r).elim
  · exact r
section
variable {c : Cx} {A : Around} {s : Shared} {Q : Flow → Heap → Prop} {rest : List Stmt}
/-- try: x.append(read_string1(y)) except ValueError as z: return (x, z.args) -/
theorem Ex.tryRead {x y z : Str} {a I aL : Addr} {bs : List UInt8} {p k₀ : Nat} {texts : List Tx} {outer : List Env} {ap np cp fp yp p₁ vp xp zp zap tp rp hp trp : Pos} {pos : Pos} (T : Wd (KK c.w) c.H) (tp' : Tape c.w c.H I aL bs) (hμ : c.μ = [(a, texts.map dS), (aL, [.int (p : Int)])]) (hx : c.ρ.lookup x = some (.val (.ref a))) (hy : c.ρ.lookup y = some (.val (.ref I)))
    (hk : 3 ≤ c.k) (hfr : c.fr = some (c.env :: outer)) (hF : c.F = frOf outer) (hf : c.env.frame = some c.env.locals) (hFn : Fns (c.env :: outer)) (hz : c.env.kindOf z = some .local) (hfn : NameIs c (Str.ofString "read_string1") (.ref 42)) (hname : ∀ μ, NameIs { c with μ := μ } (Str.ofString "ValueError") (.type "ValueError"))
    (hsz : bs.length ≤ 100000) (hp' : p ≤ bs.length) (hpos : p < bs.length → 0 < sizeAt bs p) (htl : texts.length ≤ 1000)
    (h1 : fits bs p → Ex { c with μ := [(a, (texts ++ [textAt bs p]).map dS), (aL, [.int ((p + 1 + sizeAt bs p : Nat) : Int)])] } rest Q)
    (h2 : ¬ fits bs p → ∀ g r t vs n u, g.get? r = some (tu [.ref a, .ref t] 0) → r ∉ c.U → t ∉ c.U → g.get? t = some (tu [.str (mk (wordsAt bs p)) u] 0) → g.get? a = some (lo vs n) → RdL c.U g vs (texts.map dS) → Q (.ret (.ref r)) g)
    (hline : (ap.endLine == cp.line) = true := by rfl) (hse : starEach [.Call (.Name (Str.ofString "read_string1") fp) [.Name y yp] [] pos] c.env = [(false, eval (.Call (.Name (Str.ofString "read_string1") fp) [.Name y yp] [] pos) c.env)] := by rfl) (hse' : starEach [.Name y yp] c.env = [(false, eval (.Name y yp) c.env)] := by rfl)
    (hset : starEach [.Name x xp, .Attribute (.Name z zp) "args" zap] c.env = [(false, eval (.Name x xp) c.env), (false, eval (.Attribute (.Name z zp) "args" zap) c.env)] := by rfl)
    (hd : (x == ("__debug__" : Str)) = false := by decide) (hc : (x == ("__classdict__" : Str)) = false := by decide) (hdy : (y == ("__debug__" : Str)) = false := by decide) (hcy : (y == ("__classdict__" : Str)) = false := by decide) (hdz : (z == ("__debug__" : Str)) = false := by decide) (hcz : (z == ("__classdict__" : Str)) = false := by decide) (hxz : (x == z) = false := by decide)
    (hi : interactive c.env = false := by rfl) (hs : swapsWith (.Call (.Attribute (.Name x np) (Str.ofString "append") ap) [.Call (.Name (Str.ofString "read_string1") fp) [.Name y yp] [] pos] [] cp) none p₁.line c.env = pure false := by rfl) :
    Ex c (.Try [.Expr (.Call (.Attribute (.Name x np) (Str.ofString "append") ap) [.Call (.Name (Str.ofString "read_string1") fp) [.Name y yp] [] pos] [] cp) p₁] [.ExceptHandler (some (.Name (Str.ofString "ValueError") vp)) (some z) [.Return (some (.Tuple [.Name x xp, .Attribute (.Name z zp) "args" zap] k₀ tp)) rp] hp] [] [] trp :: rest) Q := fun A s ok S => by
  obtain ⟨v, hv, hb⟩ := S.vars x _ hx
  have hb' : v = .ref a := hb
  subst hb'
  obtain ⟨vy, hvy, hby⟩ := S.vars y _ hy
  have hby' : vy = .ref I := hby
  subst hby'
  obtain ⟨haW, vs, n, hg, hrd⟩ := S.mutsW a (texts.map dS) (by rw [hμ]; exact .head _)
  obtain ⟨hLW, vl, nl, hgl, hrl⟩ := S.mutsW aL [.int (p : Int)] (by rw [hμ]; exact .tail _ (.head _))
  cases hrl with | cons r r' => cases r' with | nil => cases r with | int _ tl =>
  have hne : a ≠ aL := fun q => by
    have := S.mapart
    rw [hμ] at this
    simp [q] at this
  have hfrm : frOf (c.env :: outer) = c.env.locals :: frOf outer := by simp [frOf, hf]
  have hDl := frames_dicts S hF hf
  have hFU : ∀ b ∈ frOf (c.env :: outer), b ∈ c.U := fun b hb => by
    rw [hfrm] at hb
    rcases List.mem_cons.mp hb with q | q
    · rw [q]; exact S.loc
    · exact (S.frs b (by rw [hF]; exact q)).1
  obtain ⟨of, hof, hofd⟩ := (s42 T).ho
  have okF : Ok 3 (some (c.env :: outer)) A := by have := ok.lessF hk; rw [hfr] at this; exact this
  refine wpAny_execs_cons (wpAny_Try_except (wpAny_execs_cons (exec_expr_none ?_ hi hs)))
  refine wpAny_Call_method (T := "list") (id := "list.append") rfl (by rw [hse]; rfl) hline PySem.F.plainAttrs_list slot_list_append type_list_append (load_var S hv ?_ hd hc)
  refine ⟨⟨_, hg, rfl⟩, fun b q => by cases q; exact ⟨_, hg, rfl⟩, Calls.callWith_builtin (starEach_plain (by rw [hse]; rfl) cp) ?_⟩
  rw [hse]
  refine evalArgs_plain (x := eval (.Call (.Name (Str.ofString "read_string1") fp) [.Name y yp] [] pos) c.env) (rest := []) (Calls.spliced_cons ?_)
  refine wpAny_Call_NameR (hfn A s fp _ _ S (Calls.callWith_function (o := of) (fd := fd42 c.w.params) ?_))
  rw [hse']
  refine evalArgs_plain (x := eval (.Name y yp) c.env) (rest := []) (Calls.spliced_cons (load_var S hvy (Calls.spliced_nil ⟨⟨S.base _ _ hof, hofd⟩, ?_⟩) hdy hcy))
  refine wpAny_mono (string1_call (prog := c.prog) (w := c.w) (U := c.U) T tp' okF hFn (fun b hb => ⟨hFU b hb, hDl b hb⟩) S.base S.offs (S.subW _ hLW) hgl hsz hp' hpos) (fun u s₁ g₁ => ?_) (fun e s₁ g₁ => ?_)
  · obtain ⟨st₁, hfit, ⟨tt, rfl⟩, t₁, k₁, hg₁⟩ := g₁
    refine Calls.spliced_nil ?_
    have hga : s₁.heap.get? a = some (lo vs n) := st₁.at (fun m => hne (List.mem_singleton.mp m)) hg
    refine append_of hga (by rw [hrd.length, List.length_map]; lia) fun h' hg' hs' => ⟨rfl, wpAny_execs_nil (wpAny_execs_nil ?_)⟩
    have hgl' : h'.get? aL = some (lo [.int ((p + 1 + sizeAt bs p : Nat) : Int) t₁] k₁) := (hs'.2 aL (Ne.symm hne)).trans hg₁
    have stU : StepU [a, aL] s { s₁ with heap := h' } := (st₁.mono fun b hb => .tail _ hb).trans ⟨h', _, rfl, fun b o hb e => (hs'.2 b fun q => hb (q ▸ .head _)).trans e⟩
    have rdk : RdL c.U h' vs (texts.map dS) := hrd.frame fun b o hb e => ⟨hb, stU.at (fun m => hb (by
      rcases List.mem_cons.mp m with q | q
      · exact q ▸ S.subW _ haW
      · exact (List.mem_singleton.mp q) ▸ S.subW _ hLW)) e⟩
    have S₁ : Cx.S { c with μ := [(a, (texts ++ [textAt bs p]).map dS), (aL, [.int ((p + 1 + sizeAt bs p : Nat) : Int)])] } h' := by
      refine St.change (F := []) (μ := c.μ) S (fun b hb => nomatch hb) (fun b o hb e => ⟨o, stU.at (fun m => hb (by rw [hμ]; exact m)) e, .inl rfl⟩) (fun b hb => ?_) (fun b ds hm => ?_) (by simp [hne])
      · rw [hμ] at hb
        rcases List.mem_cons.mp hb with q | q
        · rw [q]; exact ⟨_, hg'⟩
        · rw [List.mem_singleton.mp q]; exact ⟨_, hgl'⟩
      · rcases List.mem_cons.mp hm with q | q
        · cases q
          refine ⟨haW, _, _, hg', ?_⟩
          rw [List.map_append]
          exact rdk.append (.one (.str _ _))
        · cases List.mem_singleton.mp q
          exact ⟨hLW, _, _, hgl', .cons (.int _ _) .nil⟩
    refine wp_of (h1 hfit A { s₁ with heap := h' } ok S₁) fun f s₃ g₃ => ⟨(stU.mono fun b hb => ?_).tx g₃.1, g₃.2⟩
    rcases List.mem_cons.mp hb with q | q
    · exact q ▸ haW
    · exact (List.mem_singleton.mp q) ▸ hLW
  · obtain ⟨hnf, ea, t, u, base, rfl, st₁, hea, htn, hfly, hbt, hnk, hkb⟩ := g₁
    have nfl : NF s₁.heap aL := hnk _ ⟨_, hgl, fun vs q => by cases q⟩
    have at_a : ∀ {s' : Shared}, StepX [aL] (frOf (c.env :: outer)) s s' → s'.heap.get? a = some (lo vs n) := fun {s'} st => st.at (fun m => hne (List.mem_singleton.mp m)) (fun m => (hDl a m).not_list hg rfl) hg
    have rd_a : ∀ {s' : Shared}, StepX [aL] (frOf (c.env :: outer)) s s' → RdL c.U s'.heap vs (texts.map dS) := fun {s'} st => hrd.frame fun b o hb e => ⟨hb, st.at (fun m => hb ((List.mem_singleton.mp m) ▸ S.subW _ hLW)) (fun m => hb (hFU b m)) e⟩
    have mk_S : ∀ {s' : Shared}, StepX [aL] (frOf (c.env :: outer)) s s' → NF s'.heap aL → Cx.S { c with μ := [(a, texts.map dS)] } s'.heap := fun {s'} st nf => by
      have hga := at_a st
      have hrd' := rd_a st
      obtain ⟨h', tk, rfl, kk⟩ := id st
      refine St.change (F := frOf (c.env :: outer)) (μ := c.μ) S (fun b hb => ⟨hFU b hb, hDl b hb⟩) (fun b o hb e => kk b o (fun m => hb (by rw [hμ, List.mem_singleton.mp m]; exact .tail _ (.head _))) e) (fun b hb => ?_) (fun b ds hm => ?_) (by simp)
      · rw [hμ] at hb
        rcases List.mem_cons.mp hb with q | q
        · rw [q]; exact ⟨_, hga⟩
        · rw [List.mem_singleton.mp q]; obtain ⟨o, e, _⟩ := nf; exact ⟨o, e⟩
      · cases List.mem_singleton.mp hm
        exact ⟨haW, _, _, hga, hrd'⟩
    refine wpAny_looks_onW (ok.frames _ hfr) hf hfly fun h₂ held₂ u₂ => ?_
    refine wpAny_landsW (s := { s₁ with heap := h₂ }) held₂ fun h₃ fly₃ u₃ => ?_
    have st₃ : StepX [aL] (frOf (c.env :: outer)) s { s₁ with heap := h₃ } := step_next st₁ hDl hkb fly₃.1 (u₂.trans u₃)
    have nf₃ : NF h₃ aL := nfl.slots (u₂.trans u₃)
    have S₃ := mk_S st₃ nf₃
    refine wpAny_handleBy_builtin_as (X := "ValueError") (T := "ValueError") (b := true) PySem.F.isExc_ValueError PySem.F.notTuple_ValueError (by rw [isSubtype_type]; kernel_rfl) (hname [(a, texts.map dS)] _ { s₁ with heap := h₃ } vp _ _ S₃ ⟨rfl, ?_, ?_⟩)
    · obtain ⟨ob, h5, h6⟩ := fly₃.there
      exact ⟨ob, h5, h6⟩
    rw [if_pos rfl]
    refine lands_againW (s := { s₁ with heap := h₃ }) fly₃ fun h₄ fly₄ u₄ => ?_
    have st₄ : StepX [aL] (frOf (c.env :: outer)) s { s₁ with heap := h₄ } := step_next st₁ hDl hkb fly₄.1 ((u₂.trans u₃).trans u₄)
    have S₄ := mk_S st₄ (nf₃.slots u₄)
    refine wp_of (storeL_of (c := { c with μ := [(a, texts.map dS)] }) (s := { s₁ with heap := h₄ }) (b := .val (.ref ea)) (v := .ref ea) S₄ hz rfl) fun _ s₅ g₅ => ?_
    obtain ⟨st₅, S₅⟩ := g₅
    obtain ⟨oe, ws, hoe, hoec, hoed, hoe0⟩ := fly₄.first
    have hL4 : ∃ oL es ep, h₄.get? c.env.locals = some oL ∧ oL.data = .dict es ep := by
      obtain ⟨m, oL, es, ep, e1, e2, _⟩ := St.ns S₄; exact ⟨oL, es, ep, e1, e2⟩
    have k45 : ∀ b o, b ≠ c.env.locals → h₄.get? b = some o → s₅.heap.get? b = some o := fun b o hb e => st₅.at (fun m => hb (List.mem_singleton.mp m)) e
    have nd : ∀ {b : Addr} {o : Obj}, h₄.get? b = some o → (∀ es ep, o.data ≠ .dict es ep) → b ≠ c.env.locals := fun {b o} e hn q => by
      obtain ⟨oL, es, ep, e1, e2⟩ := hL4
      rw [q, e1] at e; cases e; exact hn _ _ e2
    have hoe5 := k45 _ _ (nd hoe (fun _ _ q => by rw [hoed] at q; cases q)) hoe
    have ht4 : h₄.get? t = some (tu [.str (mk (wordsAt bs p)) u] 0) := fly₄.1 _ _ hbt
    have ht5 := k45 _ _ (nd ht4 (fun _ _ q => by cases q)) ht4
    have ha5 := k45 _ _ (nd (at_a st₄) (fun _ _ q => by cases q)) (at_a st₄)
    obtain ⟨vx, hvx, hbx⟩ := St.vars S₅ x _ (show List.lookup x ((z, Bd.val (.ref ea)) :: c.ρ) = _ by rw [List.lookup_cons, hxz]; exact hx)
    have hbx' : vx = .ref a := hbx
    subst hbx'
    obtain ⟨vz, hvz, hbz⟩ := St.vars S₅ z _ (show List.lookup z ((z, Bd.val (.ref ea)) :: c.ρ) = _ by rw [List.lookup_cons, beq_self_eq_true])
    have hbz' : vz = .ref ea := hbz
    subst hbz'
    refine wpAny_execs_cons (wpAny_Return_some (Tuple_ ?_))
    rw [hset]
    refine Calls.spliced_cons (x := eval (.Name x xp) c.env) (rest := [(false, eval (.Attribute (.Name z zp) "args" zap) c.env)]) (load_var (c := { c with μ := [(a, texts.map dS)], ρ := (z, .val (.ref ea)) :: c.ρ }) S₅ hvx ?_ hd hc)
    obtain ⟨h5, g5, d5, tk5, os5⟩ := s₅
    refine Calls.spliced_cons (x := eval (.Attribute (.Name z zp) "args" zap) c.env) (rest := []) (Attribute_name (load_var (c := { c with μ := [(a, texts.map dS)], ρ := (z, .val (.ref ea)) :: c.ρ }) S₅ hvz (args_attr PySem.F.excAttr_ValueError hoe5 hoec hoed hoe0 (Calls.spliced_nil ?_)) hdz hcz))
    refine wpAny_newObj_type ?_ (by show 2 ≤ sizeLine; rw [sizeLine_eq]; lia)
    obtain ⟨m5, hm5⟩ := St.ns S₅
    have hm6 := hm5.push (tu [.ref a, .ref t] 0)
    refine wpAny_nameGoes hz hm6 (by rw [S.kind]; rfl) fun h₇ m' hn₇ hs₇ => ?_
    have kp : ∀ b o, h5.get? b = some o → (h5.push (tu [.ref a, .ref t] 0)).get? b = some o := fun b o e => Heap.get?_push_of_some _ e
    have k57 : ∀ b o, b ≠ c.env.locals → h5.get? b = some o → h₇.get? b = some o := fun b o hb e => (hs₇.2 b hb).trans (kp b o e)
    have k47 : ∀ b o, b ≠ c.env.locals → h₄.get? b = some o → h₇.get? b = some o := fun b o hb e => k57 b o hb (k45 b o hb e)
    have hlt : c.env.locals < h5.objs.size := hm5.lt
    have hr : h₇.get? h5.objs.size = some (tu [.ref a, .ref t] 0) := (hs₇.2 _ (Nat.ne_of_gt hlt)).trans (Heap.get?_push_size _ rfl)
    have hU5 : ∀ b ∈ c.U, b < h5.objs.size := fun b hb => by
      obtain ⟨o, e⟩ := (St.offs S₅ b hb).1
      exact Heap.lt_size e
    refine ⟨?_, h2 hnf _ _ t vs n u hr (fun m => Nat.lt_irrefl _ (hU5 _ m)) (fun m => by
      obtain ⟨o, e⟩ := (S.offs t m).1
      rw [htn] at e; cases e) (k57 _ _ (nd ht4 (fun _ _ q => by cases q)) ht5) (k57 _ _ (nd (at_a st₄) (fun _ _ q => by cases q)) ha5) ?_⟩
    · have st57 : StepX c.W c.F { s₁ with heap := h₄ } { heap := h₇, gens := g5, drawn := d5, toks := tk5 + 1 + 1, os := os5 } := by
        obtain ⟨h', tk', q, _⟩ := st₅
        obtain ⟨q1, q2, q3, q4, q5⟩ := Shared.mk.inj q
        subst q2; subst q3; subst q5
        exact ⟨h₇, _, rfl, fun b o hb e => ⟨o, k47 b o (fun z => hb (z ▸ S.locW)) e, .inl rfl⟩⟩
      have st0 : StepX c.W c.F s { s₁ with heap := h₄ } := st₄.toW (fun b m => (List.mem_singleton.mp m) ▸ hLW) fun b m => by
        rw [hfrm] at m
        rcases List.mem_cons.mp m with r | r
        · exact .inl (r ▸ S.locW)
        · exact .inr (by rw [hF]; exact r)
      exact st0.trans st57
    · refine RdL.frame (fun b o hb e => ⟨hb, ?_⟩) (rd_a st₄)
      exact k47 b o (fun q => hb (q ▸ S.loc)) e
end
end Mine
end
noncomputable section
open PySem PySem.Calls PySem.W PyProof.Rows
set_option Elab.async false
set_option maxRecDepth 100000
set_option linter.unusedVariables false
namespace Mine

/-- what _law_read_all reads: the texts, and the words of its end -/
def readGo : Nat → List UInt8 → Nat → List Tx → List Tx × Option Tx
  | 0, _, _, acc => (acc, none)
  | n + 1, bs, p, acc => if fits bs p then readGo n bs (p + 1 + sizeAt bs p) (acc ++ [textAt bs p]) else (acc, some (wordsAt bs p))
def GoodAt : Nat → List UInt8 → Nat → Prop
  | 0, _, _ => True
  | n + 1, bs, p => p ≤ bs.length ∧ (p < bs.length → 0 < sizeAt bs p) ∧ (fits bs p → GoodAt n bs (p + 1 + sizeAt bs p))
def dWords : Option Tx → PyData
  | none => .tuple []
  | some t => .tuple [dS t]
def readD (r : List Tx × Option Tx) : PyData := .tuple [dSs r.1, dWords r.2]

theorem args2 {M : Model} {A : Around} {f : Value} {pos : Pos} {e₁ e₂ : Expr} {env : Env} {Q : Args → Shared → Prop} {E : Value → Shared → Prop} {s : Shared} (h : wpAny M A (eval e₁ env) (fun v₁ s₁ => wpAny M A (eval e₂ env) (fun v₂ s₂ => Q ⟨[v₁, v₂], []⟩ s₂) E s₁) E s)
    (hse : starEach [e₁, e₂] env = [(false, eval e₁ env), (false, eval e₂ env)] := by rfl) : wpAny M A (evalArgs f true (backTo pos (starEach [e₁, e₂] env)) []) Q E s := by
  rw [hse]
  exact evalArgs_plain (x := eval e₁ env) (rest := [(false, eval e₂ env)]) (Calls.spliced_cons (wpAny_mono h (fun v₁ s₁ h₁ => Calls.spliced_cons (wpAny_mono h₁ (fun v₂ s₂ h₂ => Calls.spliced_nil h₂) fun _ _ q => q)) fun _ _ q => q))
theorem args1 {M : Model} {A : Around} {f : Value} {pos : Pos} {e₁ : Expr} {env : Env} {Q : Args → Shared → Prop} {E : Value → Shared → Prop} {s : Shared} (h : wpAny M A (eval e₁ env) (fun v₁ s₁ => Q ⟨[v₁], []⟩ s₁) E s)
    (hse : starEach [e₁] env = [(false, eval e₁ env)] := by rfl) : wpAny M A (evalArgs f true (backTo pos (starEach [e₁] env)) []) Q E s := by
  rw [hse]
  exact evalArgs_plain (x := eval e₁ env) (rest := []) (Calls.spliced_cons (wpAny_mono h (fun v₁ s₁ h₁ => Calls.spliced_nil h₁) fun _ _ q => q))
theorem list1 {M : Model} {A : Around} {pos : Pos} {e₁ : Expr} {env : Env} {Q : Value → Shared → Prop} {E : Value → Shared → Prop} {s : Shared} (h : wpAny M A (eval e₁ env) (fun v₁ s₁ => Q (.ref s₁.heap.objs.size) { s₁ with heap := s₁.heap.push (lo [v₁] 0) }) E s)
    (hse : starEach [e₁] env = [(false, eval e₁ env)] := by rfl) : wpAny M A (eval (.List [e₁] pos) env) Q E s := by
  refine List_ ?_
  rw [hse]
  exact Calls.spliced_cons (x := eval e₁ env) (rest := []) (wpAny_mono h (fun v₁ s₁ h₁ => Calls.spliced_nil (wpAny_newObj_type h₁ (by show 1 ≤ sizeLine; rw [sizeLine_eq]; lia))) fun _ _ q => q)
theorem St.rebase {F : List Addr} {H H' : Heap} {U W : List Addr} {env : Env} {ρ : Rho} {μ : List (Addr × List PyData)} {h : Heap} (S : St F H U W env ρ μ h) (k : Le H' h) (o : ∀ a ∈ U, H'.get? a = none) : St F H' U W env ρ μ h :=
  { S with base := k, offs := fun a ha => ⟨(S.offs a ha).1, o a ha⟩ }
/-- what is there to say of 112 ahead of a call -/
def Tab (w : World) (H h : Heap) : Prop := (H.get? 112 = none ∧ h.get? 112 = some (tabObj #[])) ∨ TabF w.params H
theorem Tab.up {w : World} {H h h' : Heap} (x : Tab w H h) (k : Le h h') : Tab w H h' := x.imp (fun z => ⟨z.1, k _ _ z.2⟩) id

section
variable {prog : Program} {w : World} {H : Heap}
set_option maxHeartbeats 2000000 in
theorem readAll_call (T : Wd (KK w) H) (B : BmAt H) {A : Around} {s : Shared} {U : List Addr} {bs : List UInt8} {t : Tok} {outer : List Env} (ok : Ok 4 (some outer) A) (hFn : Fns outer) (hF : ∀ b ∈ frOf outer, b ∈ U ∧ IsD s.heap b)
    (hH : Le H s.heap) (hU : ∀ b ∈ U, (∃ o, s.heap.get? b = some o) ∧ H.get? b = none) (n112 : (112 : Addr) ∉ U) (hq : Tab w H s.heap) (hz : bs.length ≤ 100000) (hgood : GoodAt 21 bs 0) :
    wpAny (model prog w) A (call (.ref 143) [.bytes bs.toArray t]) (fun v s' => StepX [112] (frOf outer) s s' ∧ (TabF w.params H → StepX [] (frOf outer) s s') ∧ Rd U s'.heap v (readD (readGo 21 bs 0 [])) ∧ ∃ H', Le H H' ∧ Le H' s'.heap ∧ TabF w.params H' ∧ ∀ b ∈ U, H'.get? b = none) No s := by
  refine (s143 T).call (F := frOf outer) (U := U) (W₀ := []) (ρ₀ := [(Str.ofString "octets", .val (.bytes bs.toArray t))]) (μ₀ := []) ok.room hH hU (fun b hb => nomatch hb) rfl (fun y b e => ?_) (fun b ds hm => nomatch hm) .nil hF ?_
  · rw [List.lookup_cons] at e
    cases q : y == Str.ofString "octets" with
    | true => rw [q] at e; cases e; rw [eq_of_beq q]; exact ⟨_, .head _, rfl⟩
    | false => rw [q] at e; cases e
  intro L s₁ hLU hLn hown hk S
  have hO : own (fd143 w.params) L = [L] := rfl
  have ok' := ok.deeperF (callEnvC (fd143 w.params) L 143)
  have hFn' : Fns (callEnvC (fd143 w.params) L 143 :: outer) := fun e he => by
    rcases List.mem_cons.mp he with q | q
    · rw [q]; exact ⟨by show (fd143 w.params).scope.kind ≠ _; rw [show (fd143 w.params).scope.kind = .function from rfl]; decide, L, rfl⟩
    · exact hFn e q
  have S' : Cx.S ⟨prog, w, H, 3, some (callEnvC (fd143 w.params) L 143 :: outer), frOf outer, [L] ++ U, [L] ++ [], callEnvC (fd143 w.params) L 143, [(Str.ofString "octets", .val (.bytes bs.toArray t))], []⟩ s₁.heap := S
  obtain ⟨of, hof, hofd⟩ := (s117 T).ho
  delta bd143
  refine wpAny_execs_cons (wpAny_Assign_Name (wpAny_Call_NameR (NameIs.glob (c := ⟨prog, w, H, 3, some (callEnvC (fd143 w.params) L 143 :: outer), frOf outer, [L] ++ U, [L] ++ [], callEnvC (fd143 w.params) L 143, [(Str.ofString "octets", .val (.bytes bs.toArray t))], []⟩) T (g_law_stream w) rfl (by decide) _ s₁ _ _ _ S'
    (Calls.callWith_function (o := of) (fd := fd117 w.params) ?_))) rfl)
  obtain ⟨vo, hvo, hbo⟩ := St.vars S' (Str.ofString "octets") _ rfl
  have hbo' : vo = .bytes bs.toArray t := hbo
  subst hbo'
  refine args2 (load_var S' hvo (list1 (wpAny_Constant_int ?_)) (by decide) (by decide))
  have S₁ := Cx.S.up S' (keeps_tok s₁ (s₁.toks + 1))
  have S₂ := St.pushMut (vs := [.int 0 s₁.toks]) (ds := [.int 0]) S₁ (.cons (.int _ _) .nil)
  refine ⟨⟨St.base S₂ _ _ hof, hofd⟩, ?_⟩
  have naL1 : s₁.heap.get? s₁.heap.objs.size = none := none_of_le (Nat.le_refl _)
  have naL : s.heap.get? s₁.heap.objs.size = none := by
    cases q : s.heap.get? s₁.heap.objs.size with
    | none => rfl
    | some o => rw [keeps_le hk _ _ q] at naL1; cases naL1
  have k12 : Keeps s₁ { s₁ with heap := s₁.heap.push (lo [.int 0 s₁.toks] 0), toks := s₁.toks + 1 } := keeps_push _ _ _
  have hq₂ := hq.up (keeps_le (keeps_trans hk k12))
  refine wp_of (stream_call (prog := prog) (w := w) (bs := bs) (t := t) (aL := s₁.heap.objs.size) T B (ok'.less (by lia)) (St.base S₂) hq₂ (St.offs S₂ _ (.head _)).2) fun v s₃ g₃ => ?_
  obtain ⟨I, rfl, X⟩ := g₃
  generalize haL : s₁.heap.objs.size = aL at *
  have nLn : L ≠ 112 := fun q => by
    rcases hq with ⟨_, z⟩ | ⟨c', z, _⟩
    · rw [← q, hLn] at z; cases z
    · have := hH _ _ z; rw [← q, hLn] at this; cases this
  have naLn : aL ≠ 112 := fun q => by
    rcases hq with ⟨_, z⟩ | ⟨c', z, _⟩
    · rw [← q, naL] at z; cases z
    · have := hH _ _ z; rw [← q, naL] at this; cases this
  have n112U : (112 : Addr) ∉ aL :: ([L] ++ U) := fun m => by
    rcases List.mem_cons.mp m with q | m
    · exact naLn q.symm
    · rcases List.mem_append.mp m with q | q
      · exact nLn (List.mem_singleton.mp q).symm
      · exact n112 q
  -- the frame over what stands from now on
  have S₃' : St (frOf outer) H (aL :: ([L] ++ U)) (aL :: ([L] ++ [])) (callEnvC (fd143 w.params) L 143) [(Str.ofString "octets", .val (.bytes bs.toArray t))] [(aL, [.int 0])] s₃.heap := by
    rcases hq₂ with ⟨z1, z2⟩ | z
    · exact St.off S₂ z2 (.fields rfl) (fun q => nomatch q) n112U z1 fun b o hb e => X.step.at (fun m => hb (List.mem_singleton.mp m)) e
    · exact St.up S₂ (keeps_le (X.same z))
  have offR : ∀ b ∈ aL :: ([L] ++ U), (rise H (s₁.heap.push (lo [.int 0 s₁.toks] 0)) s₃.heap).get? b = none := fun b hb => by
    obtain ⟨o, e⟩ := (St.offs S₂ b hb).1
    exact rise_off e (St.offs S₂ b hb).2 (fun q => n112U (q ▸ hb))
  have S₃ := S₃'.rebase (rise_le _ _ _) offR
  have T₂ : Wd (KK w) (rise H (s₁.heap.push (lo [.int 0 s₁.toks] 0)) s₃.heap) := T.up X.base
  have tp : Tape w (rise H (s₁.heap.push (lo [.int 0 s₁.toks] 0)) s₃.heap) I aL bs := X.tape
  refine wp_of (storeL_of (c := ⟨prog, w, rise H (s₁.heap.push (lo [.int 0 s₁.toks] 0)) s₃.heap, 3, some (callEnvC (fd143 w.params) L 143 :: outer), frOf outer, aL :: ([L] ++ U), aL :: ([L] ++ []), callEnvC (fd143 w.params) L 143, [(Str.ofString "octets", .val (.bytes bs.toArray t))], [(aL, [.int 0])]⟩) (b := .val (.ref I)) (v := .ref I) S₃ rfl rfl) fun _ s₄ g₄ => ?_
  obtain ⟨st₄, S₄⟩ := g₄
  have hbase := X.base
  have htab := X.tab
  have hsame := X.same
  have hstep := X.step
  clear X
  generalize rise H (s₁.heap.push (lo [.int 0 s₁.toks] 0)) s₃.heap = H₂ at *
  have key : Ex ⟨prog, w, H₂, 3, some (callEnvC (fd143 w.params) L 143 :: outer), frOf outer, aL :: ([L] ++ U), aL :: ([L] ++ []), callEnvC (fd143 w.params) L 143, (Str.ofString "tape", .val (.ref I)) :: [(Str.ofString "octets", .val (.bytes bs.toArray t))], [(aL, [.int 0])]⟩ (bd143.drop 1) (fun f h => ∃ v, f = .ret v ∧ Rd U h v (readD (readGo 21 bs 0 []))) := by
    delta bd143
    refine Ex.newOwn .nil (by simp) (.inl rfl) fun a ha => ?_
    have haU : a ∉ U := fun m => ha (.tail _ (List.mem_append_right _ m))
    have lessU : ∀ b ∈ U, b ∈ a :: aL :: ([L] ++ U) := fun b hb => .tail _ (.tail _ (List.mem_append_right _ hb))
    refine Ex.while (σ := List Tx × Nat) (fun _ => [(Str.ofString "texts", .val (.ref a)), (Str.ofString "tape", .val (.ref I))]) (fun x => [(a, x.1.map dS), (aL, [.int (x.2 : Int)])]) (fun x => ∃ n, x.1.length + n = 21 ∧ GoodAt n bs x.2 ∧ readGo n bs x.2 x.1 = readGo 21 bs 0 [])
      (fun x => 21 - x.1.length) (fun x => decide (x.1.length < 21)) ([], 0) (fun g S => S.to ⟨rfl, rfl, trivial⟩) ⟨21, rfl, hgood, rfl⟩ ?_ ?_ ?_
    · rintro ⟨texts, p⟩ ⟨n, hn, _, _⟩
      have e : decide (texts.length < 21) = decide (((texts.map dS).length : Int) < 21) := by
        rw [List.length_map]
        by_cases q : texts.length < 21
        · rw [decide_eq_true q, decide_eq_true (by lia)]
        · rw [decide_eq_false q, decide_eq_false (by lia)]
      dsimp only at hn ⊢
      rw [e]
      exact Tr.frozen (x := Str.ofString "texts") (List.Perm.refl _) rfl (Tr.cmp (Ev.callB (NameIs.boot T₂ (m_len w) b_len) (.cons (Ev.var rfl) .nil) (c_len_list (by rw [List.length_map]; lia))) Ev.int op_lt_int)
    · rintro ⟨texts, p⟩ ⟨n, hn, hgd, hrd⟩ hb
      have hlt : texts.length < 21 := of_decide_eq_true hb
      dsimp only at hn hgd hrd ⊢
      obtain ⟨n, rfl⟩ : ∃ m, n = m + 1 := ⟨n - 1, by lia⟩
      obtain ⟨g1, g2, g3⟩ := hgd
      rw [readGo] at hrd
      refine Ex.tryRead (outer := outer) T₂ tp rfl rfl rfl (Nat.le_refl _) rfl rfl rfl hFn' rfl (NameIs.glob T₂ (g_read_string1 w)) (fun μ => NameIs.boot T₂ (m_ValueError w) b_ValueError) hz g1 g2 (by lia) (fun hf => ?_) (fun hf g r t' vs k u hr hrU htU ht ha' hrd' => ?_)
      · rw [if_pos hf] at hrd
        refine Ex.nil fun g S => ⟨(texts ++ [textAt bs p], p + 1 + sizeAt bs p), ⟨n, by dsimp only; rw [List.length_append, List.length_singleton]; lia, g3 hf, hrd⟩, by dsimp only; rw [List.length_append, List.length_singleton]; lia, S⟩
      · rw [if_neg hf] at hrd
        refine ⟨_, rfl, ?_⟩
        rw [← hrd]
        exact .tuple (fun m => hrU (lessU _ m)) hr (.cons (.list haU ha' (hrd'.less lessU)) (.cons (.tuple (fun m => htU (lessU _ m)) ht (.cons (.str _ _) .nil)) .nil))
    · rintro ⟨texts, p⟩ ⟨n, hn, hgd, hrd⟩ hb
      have hge : ¬ texts.length < 21 := of_decide_eq_false hb
      dsimp only at hn hrd ⊢
      obtain rfl : n = 0 := by lia
      rw [readGo] at hrd
      refine Ex.freeze (x := Str.ofString "texts") (List.Perm.refl _) rfl ?_
      refine Ex.ret (d := readD (texts, none)) (Ev.tuple (.cons (Ev.var rfl) (.cons (Ev.tuple .nil) .nil))) fun g v S r => ⟨v, rfl, ?_⟩
      rw [← hrd]
      exact r.less fun b hb => mem_off.mpr ⟨lessU b hb, fun q => haU (q ▸ hb)⟩
  refine wpAny_mono (key (A.deeper _) s₄ ok' S₄) (fun f s₅ g₅ => ?_) fun _ _ q => q.elim
  obtain ⟨st₅, v, rfl, hv⟩ := g₅
  have hW : ∀ {W : List Addr}, (112 ∈ W ∨ TabF w.params H) → StepX (aL :: L :: W) (frOf outer) s s₅ := fun {W} h => by
    have s3 : StepX (aL :: L :: W) (frOf outer) s s₃ := by
      rcases h with h | h
      · exact ((StepU.of_keeps (keeps_trans hk k12)).trans (hstep.mono fun a ha => by rw [List.mem_singleton.mp ha]; exact .tail _ (.tail _ h))).x
      · exact .of_keeps (keeps_trans (keeps_trans hk k12) (hsame h))
    refine s3.trans ((st₄.mono fun a ha => ?_).tx (st₅.toW (fun b hb => ?_) fun b hb => .inr hb))
    · rw [List.mem_singleton.mp ha]; exact .tail _ (.head _)
    · rcases List.mem_cons.mp hb with q | q
      · exact q ▸ .head _
      · rw [List.mem_singleton.mp q]; exact .tail _ (.head _)
  have drop : ∀ {W : List Addr}, ∀ b ∈ aL :: L :: W, b ∈ W ∨ s.heap.get? b = none := fun {W} b hb => by
    rcases List.mem_cons.mp hb with q | hb
    · rw [q]; exact .inr naL
    rcases List.mem_cons.mp hb with q | hb
    · rw [q]; exact .inr hLn
    · exact .inl hb
  refine ⟨(hW (.inl (.head _))).less drop, fun h => (hW (.inr h)).less drop, hv, H₂, hbase, fun b o e => ?_, htab, fun b hb => offR b (.tail _ (List.mem_append_right _ hb))⟩
  have e4 := St.base S₄ b o e
  refine st₅.at (fun m => ?_) (fun m => ?_) e4
  · have := (St.offs S₄ b (St.subW S₄ b m)).2
    rw [e] at this; cases this
  · have := (St.offs S₄ b (St.frs S₄ b m).1).2
    rw [e] at this; cases this
end
end Mine
end
noncomputable section
open PySem PySem.W PyProof.Rows
set_option Elab.async false
set_option linter.unusedVariables false
namespace Mine

/-! texts written on a tape -/
def encT (l : List Tx) : List Nat := l.flatMap fun t => t.length :: t
def encB (l : List Tx) : List UInt8 := (encT l).map Nat.toUInt8
def Tapeable (l : List Tx) : Prop := ∀ t ∈ l, t ≠ [] ∧ t.length < 256 ∧ ∀ x ∈ t, x < 256
theorem byte_nat {n : Nat} (h : n < 256) : (Nat.toUInt8 n).toNat = n := by
  show n % 256 = n
  lia
theorem bytes_nat {t : Tx} (h : ∀ x ∈ t, x < 256) : (t.map Nat.toUInt8).map (·.toNat) = t := by
  rw [List.map_map]
  conv => rhs; rw [← List.map_id t]
  exact List.map_congr_left fun x hx => byte_nat (h x hx)
theorem encB_cons (t : Tx) (l : List Tx) : encB (t :: l) = Nat.toUInt8 t.length :: (t.map Nat.toUInt8 ++ encB l) := by
  unfold encB encT
  rw [List.flatMap_cons, List.map_append, List.map_cons]; rfl
theorem encB_append (l r : List Tx) : encB (l ++ r) = encB l ++ encB r := by
  unfold encB encT
  rw [List.flatMap_append, List.map_append]

theorem at_text {bs z : List UInt8} {p : Nat} {t : Tx} (h : bs.drop p = Nat.toUInt8 t.length :: (t.map Nat.toUInt8 ++ z)) (h1 : t.length < 256) (h2 : ∀ x ∈ t, x < 256) :
    fits bs p ∧ sizeAt bs p = t.length ∧ textAt bs p = t ∧ bs.drop (p + 1 + t.length) = z ∧ bs.length = p + 1 + t.length + z.length := by
  have hlen : bs.length = p + 1 + t.length + z.length := by
    have := congrArg List.length h
    rw [List.length_drop, List.length_cons, List.length_append, List.length_map] at this
    lia
  have hs : sizeAt bs p = t.length := by
    have e : bs[p]? = some (Nat.toUInt8 t.length) := by
      have := congrArg (fun l : List UInt8 => l[0]?) h
      simp only [List.getElem?_drop, List.getElem?_cons_zero, Nat.add_zero] at this
      exact this
    unfold sizeAt
    rw [List.getD_eq_getElem?_getD, e]
    exact byte_nat h1
  have hd : bs.drop (p + 1) = t.map Nat.toUInt8 ++ z := by
    have := congrArg (List.drop 1) h
    rw [List.drop_drop, List.drop_succ_cons, List.drop_zero] at this
    exact this
  refine ⟨⟨by lia, by rw [hs]; lia⟩, hs, ?_, ?_, hlen⟩
  · unfold textAt
    rw [hs, hd, List.take_append_of_le_length (by simp), List.take_of_length_le (by simp), bytes_nat h2]
  · have := congrArg (List.drop t.length) hd
    have e0 : (t.map Nat.toUInt8).drop t.length = [] := List.drop_eq_nil_iff.mpr (by simp)
    rw [List.drop_drop, List.drop_append_of_le_length (by simp), e0, List.nil_append] at this
    exact this
theorem read_enc {bs z : List UInt8} : ∀ (r : List Tx) (m p : Nat) (acc : List Tx), Tapeable r → bs.drop p = encB r ++ z → p ≤ bs.length →
    readGo (r.length + m) bs p acc = readGo m bs (p + (encB r).length) (acc ++ r) ∧ (GoodAt m bs (p + (encB r).length) → GoodAt (r.length + m) bs p) ∧ bs.drop (p + (encB r).length) = z ∧ bs.length = p + (encB r).length + z.length
  | [], m, p, acc, ht, h, hp => by
    have e : (encB []).length = 0 := rfl
    have e2 : encB [] = [] := rfl
    rw [e2, List.nil_append] at h
    rw [e, List.length_nil, Nat.zero_add, Nat.add_zero, List.append_nil]
    refine ⟨rfl, id, h, ?_⟩
    have := congrArg List.length h
    rw [List.length_drop] at this
    lia
  | t :: r, m, p, acc, ht, h, hp => by
    obtain ⟨t1, t2, t3⟩ := ht t (.head _)
    rw [encB_cons] at h
    obtain ⟨f1, f2, f3, f4, f5⟩ := at_text (z := encB r ++ z) (by rw [h]; simp) t2 t3
    obtain ⟨g1, g2, g3, g4⟩ := read_enc r m (p + 1 + t.length) (acc ++ [t]) (fun x hx => ht x (.tail _ hx)) f4 (by lia)
    have hl : (encB (t :: r)).length = 1 + t.length + (encB r).length := by
      rw [encB_cons, List.length_cons, List.length_append, List.length_map]; lia
    have e1 : (t :: r).length + m = (r.length + m) + 1 := by rw [List.length_cons]; lia
    have e2 : p + (encB (t :: r)).length = p + 1 + t.length + (encB r).length := by lia
    rw [e1, e2]
    refine ⟨?_, fun hg => ?_, g3, g4⟩
    · rw [readGo, if_pos f1, f2, f3, g1, List.append_assoc]; rfl
    · refine ⟨hp, fun _ => by rw [f2]; exact List.length_pos_iff.mpr t1, fun _ => ?_⟩
      rw [f2]; exact g2 hg
/-- a whole tape -/
theorem read_whole {l : List Tx} (h : Tapeable l) (hl : l.length ≤ 20) : readGo 21 (encB l) 0 [] = (l, some msg1) ∧ GoodAt 21 (encB l) 0 := by
  obtain ⟨m, hm⟩ : ∃ m, 21 = l.length + (m + 1) := ⟨20 - l.length, by lia⟩
  obtain ⟨g1, g2, g3, g4⟩ := read_enc (bs := encB l) (z := []) l (m + 1) 0 [] h (by rw [List.drop_zero, List.append_nil]) (Nat.zero_le _)
  rw [List.length_nil, Nat.add_zero] at g4
  have nf : ¬ fits (encB l) (0 + (encB l).length) := fun q => by have := q.1; lia
  rw [hm]
  constructor
  · rw [g1, readGo, if_neg nf]
    show ([] ++ l, some (wordsAt (encB l) (0 + (encB l).length))) = (l, some msg1)
    have : wordsAt (encB l) (0 + (encB l).length) = msg1 := if_neg (by lia)
    rw [this]; rfl
  · exact g2 ⟨by lia, fun q => by lia, fun q => (nf q).elim⟩
/-- a tape without its last octet -/
theorem read_short {l : List Tx} {t : Tx} (h : Tapeable (l ++ [t])) (hl : l.length ≤ 19) : readGo 21 (encB (l ++ [t])).dropLast 0 [] = (l, some (pctT t.length ((t.length - 1 : Nat) : Int))) ∧ GoodAt 21 (encB (l ++ [t])).dropLast 0 := by
  obtain ⟨m, hm⟩ : ∃ m, 21 = l.length + (m + 1) := ⟨20 - l.length, by lia⟩
  obtain ⟨t1, t2, t3⟩ := h t (List.mem_append_right _ (.head _))
  have tp := List.length_pos_iff.mpr t1
  have e : (encB (l ++ [t])).dropLast = encB l ++ (Nat.toUInt8 t.length :: (t.map Nat.toUInt8).dropLast) := by
    rw [encB_append, encB_cons]
    have e0 : encB [] = [] := rfl
    rw [e0, List.append_nil, List.dropLast_append_of_ne_nil (List.cons_ne_nil _ _), List.dropLast_cons_of_ne_nil (by intro q; exact t1 (List.map_eq_nil_iff.mp q))]
  obtain ⟨g1, g2, g3, g4⟩ := read_enc (bs := (encB (l ++ [t])).dropLast) (z := Nat.toUInt8 t.length :: (t.map Nat.toUInt8).dropLast) l (m + 1) 0 [] (fun x hx => h x (List.mem_append_left _ hx)) (by rw [List.drop_zero, e]) (Nat.zero_le _)
  generalize (encB (l ++ [t])).dropLast = bs at *
  rw [List.length_cons, List.length_dropLast, List.length_map] at g4
  have hs : sizeAt bs (0 + (encB l).length) = t.length := by
    have e2 : bs[0 + (encB l).length]? = some (Nat.toUInt8 t.length) := by
      have := congrArg (fun l : List UInt8 => l[0]?) g3
      simp only [List.getElem?_drop, List.getElem?_cons_zero, Nat.add_zero] at this
      exact this
    unfold sizeAt
    rw [List.getD_eq_getElem?_getD, e2]
    exact byte_nat t2
  have nf : ¬ fits bs (0 + (encB l).length) := fun q => by have := q.2; rw [hs] at this; lia
  have hp : 0 + (encB l).length < bs.length := by lia
  rw [hm]
  constructor
  · rw [g1, readGo, if_neg nf]
    have ew : wordsAt bs (0 + (encB l).length) = pctT t.length ((t.length - 1 : Nat) : Int) := by
      unfold wordsAt
      rw [if_pos hp, hs]
      congr 2
      lia
    rw [ew]; rfl
  · exact g2 ⟨by lia, fun _ => by rw [hs]; exact tp, fun q => (nf q).elim⟩
end Mine
end
noncomputable section
open PySem PySem.Calls PySem.W PyProof.Rows
set_option Elab.async false
set_option maxRecDepth 100000
set_option linter.unusedVariables false
namespace Mine

theorem execs_append (pre rest : List Stmt) (env : Env) : execs (pre ++ rest) env = (execs pre env >>= fun f => match f with | .next => execs rest env | f => pure f) := by
  induction pre with
  | nil => rw [List.nil_append]; show _ = (pure Flow.next >>= _); rw [pure_bind]
  | cons st pre ih =>
    rw [List.cons_append, execs_cons, execs_cons, bind_assoc]
    congr 1
    funext f
    cases f <;> first | exact ih | (rw [pure_bind])
theorem wpAny_execs_append {M : Model} {A : Around} {pre rest : List Stmt} {env : Env} {Q : Flow → Shared → Prop} {E : Value → Shared → Prop} {s : Shared} (h : wpAny M A (execs pre env) (fun f s' => match f with | .next => wpAny M A (execs rest env) Q E s' | f => Q f s') E s) :
    wpAny M A (execs (pre ++ rest) env) Q E s := by
  rw [execs_append]
  refine wpAny_bind (wpAny_mono h (fun f s' h' => ?_) fun _ _ q => q)
  cases f <;> first | exact h' | exact wpAny_pure h'
/-- the first statements, with a frame of their own reach -/
theorem Ex.cut {c : Cx} {c' : Heap → Prop} {A : Around} {s : Shared} {ss : List Stmt} (n : Nat) {Q : Flow → Shared → Prop} {E : Value → Shared → Prop} (S : c.S s.heap) (ok : Ok c.k c.fr A) (h : Ex c (ss.take n) (fun f g => f = .next ∧ c' g))
    (k : ∀ s', StepX c.W c.F s s' → c' s'.heap → wpAny c.M A (execs (ss.drop n) c.env) Q E s') : wpAny c.M A (execs ss c.env) Q E s := by
  rw [← List.take_append_drop n ss]
  refine wpAny_execs_append (wp_of (h A s ok S) fun f s' g => ?_)
  obtain ⟨st, rfl, hc⟩ := g
  exact k s' st hc

/-- 112 turns, and the slots of frames -/
theorem St.turn {Fs F : List Addr} {H H' : Heap} {U W : List Addr} {env : Env} {ρ : Rho} {μ : List (Addr × List PyData)} {h h' : Heap} {ps ps' : Array Value} (S : St Fs H U W env ρ μ h) (hF : ∀ a ∈ F, a ∈ U ∧ IsD h a) (n112 : (112 : Addr) ∉ U) (hH : H.get? 112 = none) (e : h.get? 112 = some (tabObj ps)) (e' : h'.get? 112 = some (tabObj ps'))
    (hk : ∀ b o, b ≠ 112 → h.get? b = some o → ∃ o', h'.get? b = some o' ∧ (o' = o ∨ (b ∈ F ∧ SameS o o'))) (kb : Le H' h') (ko : ∀ a ∈ U, H'.get? a = none) : St Fs H' U W env ρ μ h' := by
  have em : (h.update 112 (fun _ => tabObj ps')).get? 112 = some (tabObj ps') := Heap.get?_update_self _ e rfl
  have eo : ∀ b, b ≠ 112 → (h.update 112 (fun _ => tabObj ps')).get? b = h.get? b := fun b hb => Heap.get?_update_other _ _ (Ne.symm hb)
  have nF : ∀ a ∈ F, a ≠ 112 := fun a ha q => n112 (q ▸ (hF a ha).1)
  have S₁ : St Fs H U W env ρ μ (h.update 112 (fun _ => tabObj ps')) := St.off S e (.fields rfl) (fun q => nomatch q) n112 hH fun b o hb q => (eo b hb).trans q
  have S₂ : St Fs H U W env ρ μ h' := St.slots S₁ (F := F) (fun a ha => ⟨(hF a ha).1, (hF a ha).2.at fun o q => (eo a (nF a ha)).trans q⟩) fun b o q => by
    by_cases hb : b = 112
    · subst hb
      rw [em] at q; cases q
      exact ⟨_, e', .inl rfl⟩
    · rw [eo b hb] at q
      exact hk b o hb q
  exact S₂.rebase kb ko

section
variable {c : Cx} {A : Around} {s : Shared} {e : Expr} {pos p : Pos} {rest : List Stmt}
theorem EvP.bytesOf {ns : List Int} {np : Pos} (hn : NameIs c (Str.ofString "bytes") (.type "bytes")) (h : Ev c e (dIs ns)) (hr : ∀ n ∈ ns, 0 ≤ n ∧ n < 256) (hz : ns.length ≤ 1000000) (he : starEach [e] c.env = [(false, eval e c.env)] := by rfl) :
    EvP c (.Call (.Name (Str.ofString "bytes") np) [e] [] pos) (BV (ns.map fun n => n.toNat.toUInt8)) := fun A s ok S =>
  wpAny_Call_NameR (hn A s np _ _ S (PySem.callWith_type (starEach_plain (by rw [he]; rfl) pos) (args1 (wp_of (h A s ok S) fun v s₁ g => by
    obtain ⟨k₁, r⟩ := g
    cases r with | @list a vs n _ ha hg q =>
    have hi : IntsAre vs ns := q.ints
    refine call_bytes_ints ⟨_, hg, rfl, n, rfl⟩ hi hr (by rw [hi.length]; exact sz8 hz) ok.handled fun h' t k hk => ⟨keeps_trans k₁ ⟨h', k, rfl, hk⟩, t, rfl⟩) he)))
/-- x, y = _law_read_all(e) -/
theorem go_readAll {x y : Str} {bs : List UInt8} {outer : List Env} {fp xp yp tpp : Pos} {k₀ : Nat} {Q : Flow → Shared → Prop} {E : Value → Shared → Prop} (S : c.S s.heap) (ok : Ok c.k c.fr A) (T : Wd (KK c.w) c.H) (B : BmAt c.H) (hk : 4 ≤ c.k) (hfr : c.fr = some (c.env :: outer)) (hF : c.F = frOf outer) (hf : c.env.frame = some c.env.locals) (hFn : Fns (c.env :: outer))
    (n112 : (112 : Addr) ∉ c.U) (hq : Tab c.w c.H s.heap) (hfn : NameIs c (Str.ofString "_law_read_all") (.ref 143)) (he : EvP c e (BV bs)) (hx : c.env.kindOf x = some .local) (hy : c.env.kindOf y = some .local) (hsz : bs.length ≤ 100000) (hgood : GoodAt 21 bs 0)
    (k : ∀ s' H', Le c.H H' → TabF c.w.params H' → StepX (112 :: c.W) c.F s s' → (TabF c.w.params c.H → StepX c.W c.F s s') → Cx.S { c with H := H', ρ := (y, .dat (dWords (readGo 21 bs 0 []).2)) :: (x, .dat (dSs (readGo 21 bs 0 []).1)) :: c.ρ } s'.heap → wpAny c.M A (execs rest c.env) Q E s')
    (hse : starEach [e] c.env = [(false, eval e c.env)] := by rfl) (hae : assignEach [.Name x xp, .Name y yp] c.env = [(false, PySem.assign (.Name x xp) c.env), (false, PySem.assign (.Name y yp) c.env)] := by rfl)
    (hs : swapsWithSole [.Tuple [.Name x xp, .Name y yp] k₀ tpp] (.Call (.Name (Str.ofString "_law_read_all") fp) [e] [] pos) p.line c.env = pure false := by rfl)
    (hw : swappedStores [.Tuple [.Name x xp, .Name y yp] k₀ tpp] (.Call (.Name (Str.ofString "_law_read_all") fp) [e] [] pos) c.env = pure none := by rfl) :
    wpAny c.M A (execs (.Assign [.Tuple [.Name x xp, .Name y yp] k₀ tpp] (.Call (.Name (Str.ofString "_law_read_all") fp) [e] [] pos) p :: rest) c.env) Q E s := by
  obtain ⟨of, hof, hofd⟩ := (s143 T).ho
  have hDl := frames_dicts S hF hf
  have hfrm : frOf (c.env :: outer) = c.env.locals :: frOf outer := by simp [frOf, hf]
  have hFU : ∀ b ∈ frOf (c.env :: outer), b ∈ c.U := fun b hb => by
    rw [hfrm] at hb
    rcases List.mem_cons.mp hb with q | q
    · rw [q]; exact S.loc
    · exact (S.frs b (by rw [hF]; exact q)).1
  refine wpAny_execs_cons (Assign_Tuple (wpAny_Call_NameR (hfn A s fp _ _ S (Calls.callWith_function (o := of) (fd := fd143 c.w.params) (args1 (wp_of (he A s ok S) fun v s₁ g₁ => ?_) hse)))) hs hw)
  obtain ⟨k₁, t, rfl⟩ := g₁
  have S₁ := S.up k₁
  refine ⟨⟨S₁.base _ _ hof, hofd⟩, ?_⟩
  have okF : Ok 4 (some (c.env :: outer)) A := by have := ok.lessF hk; rw [hfr] at this; exact this
  have hDl₁ : ∀ b ∈ frOf (c.env :: outer), b ∈ c.U ∧ IsD s₁.heap b := fun b hb => ⟨hFU b hb, (hDl b hb).at fun o q => keeps_le k₁ _ _ q⟩
  have hq₁ := hq.up (keeps_le k₁)
  refine wp_of (readAll_call (prog := c.prog) (w := c.w) T B okF hFn hDl₁ S₁.base S₁.offs n112 hq₁ hsz hgood) fun v s₂ g₂ => ?_
  obtain ⟨st₂, st₂', hv, H', kH, kH', tH, oH⟩ := g₂
  have S₂ : Cx.S { c with H := H' } s₂.heap := by
    rcases hq₁ with ⟨z1, z2⟩ | z
    · obtain ⟨c', z3, _⟩ := tH.up kH'
      obtain ⟨h₂, tk₂, rfl, kk⟩ := id st₂
      exact St.turn (ps := #[]) S₁ hDl₁ n112 z1 z2 z3 (fun b o hb q => kk b o (fun m => hb (List.mem_singleton.mp m)) q) kH' oH
    · obtain ⟨h₂, tk₂, rfl, kk⟩ := id (st₂' z)
      exact (St.slots S₁ hDl₁ fun b o q => kk b o (fun m => nomatch m) q).rebase kH' oH
  refine wp_of (AsgL.pair (c := { c with H := H' }) (p := tpp) (k := k₀) (px := xp) (py := yp) (d₁ := dSs (readGo 21 bs 0 []).1) (d₂ := dWords (readGo 21 bs 0 []).2) hx hy hae A s₂ v ok S₂ hv) fun _ s₃ g₃ => ?_
  obtain ⟨st₃, S₃⟩ := g₃
  have toF : ∀ {W : List Addr} {a b : Shared}, StepX W (frOf (c.env :: outer)) a b → StepX (W ++ c.W) c.F a b := fun {W a b} st => st.toW (fun b m => List.mem_append_left _ m) fun b m => by
    rw [hfrm] at m
    rcases List.mem_cons.mp m with r | r
    · exact .inl (List.mem_append_right _ (r ▸ S.locW))
    · exact .inr (by rw [hF]; exact r)
  have locIn : ∀ a ∈ [c.env.locals], a ∈ c.W := fun a ha => by rw [List.mem_singleton.mp ha]; exact S.locW
  refine k s₃ H' kH tH ?_ (fun z => ?_) S₃
  · exact (StepX.of_keeps k₁).trans ((toF st₂).trans (st₃.mono fun a ha => .tail _ (locIn a ha)).x)
  · exact (StepX.of_keeps k₁).trans ((toF (st₂' z)).trans (st₃.mono locIn).x)
end
end Mine
end
noncomputable section
open PySem PySem.Calls PySem.W PyProof.Rows
set_option Elab.async false
set_option maxRecDepth 100000
set_option linter.unusedVariables false
namespace Mine

theorem strOk_of' (s : String) : PyData.strOk (Str.ofString s) = true := by
  rw [PySem.Str.ofString_eq_toList]
  show (Array.all _ _) = true
  rw [← Array.all_toList]
  rw [List.all_eq_true]
  intro x hx
  obtain ⟨c, _, rfl⟩ := List.mem_map.mp hx
  have h : c.toNat < 0xd800 ∨ (0xdfff < c.toNat ∧ c.toNat < 0x110000) := c.valid
  exact decide_eq_true (by lia)
theorem strOk_app {x y : Str} (hx : PyData.strOk x = true) (hy : PyData.strOk y = true) : PyData.strOk (x ++ y) = true := by
  unfold PyData.strOk at *
  show (x.cps ++ y.cps).all _ = true
  rw [Array.all_append, hx, hy]; rfl
theorem strOk_pct (n m : Int) : PyData.strOk (mk (pctT n m)) = true := by
  unfold pctT
  rw [mk_self]
  exact strOk_app (strOk_app (strOk_app (strOk_app (strOk_of' _) (strOk_of' _)) (strOk_of' _)) (strOk_of' _)) (strOk_of' _)
theorem strOk_msg1 : PyData.strOk (mk msg1) = true := by
  unfold msg1
  rw [mk_self]; exact strOk_of' _
theorem shaped_tup {t : Tx} (h : PyData.strOk (mk t) = true) : SeqAt.shaped (.tuple [dS t]) = true := by
  unfold SeqAt.shaped
  rw [Bool.and_eq_true, decide_eq_true_eq]
  refine ⟨?_, ?_⟩
  · show PyData.canLayAll0 [dS t] = true
    rw [PyData.canLayAll0, PyData.canLayAll0, Bool.and_true]; exact h
  · simp only [PyData.depth, PyData.depthAll]; lia
theorem eqv_tup (t : Tx) : PyData.eqv (.tuple [dS t]) (.tuple [dS t]) = true := by
  show (PyData.eqvAll [dS t] [dS t]) = true
  have := eqv_strs [t] [t]
  rw [decide_eq_true rfl] at this
  exact this
theorem eqv_self (l : List Tx) : PyData.eqv (dSs l) (dSs l) = true := by
  show PyData.eqvAll _ _ = true
  rw [eqv_strs]; exact decide_eq_true rfl

abbrev dNat (l : List Nat) : PyData := .list (l.map fun (i : Nat) => PyData.int (i : Int))
theorem dNat_dIs (l : List Nat) : dNat l = dIs (l.map fun (i : Nat) => (i : Int)) := by
  show PyData.list _ = PyData.list _
  rw [List.map_map]; rfl
theorem enc_bytes (l : List Nat) : (l.map fun (i : Nat) => (i : Int)).map (fun n => n.toNat.toUInt8) = l.map Nat.toUInt8 := by
  rw [List.map_map]
  exact List.map_congr_left fun i _ => by show (i : Int).toNat.toUInt8 = _; rw [Int.toNat_natCast]
theorem encT_len (l : List Tx) (n : Nat) (h : ∀ t ∈ l, t.length ≤ n) : (encT l).length ≤ l.length * (n + 1) := by
  unfold encT
  refine flat_len l _ (n + 1) fun t ht => ?_
  rw [List.length_cons]
  exact Nat.succ_le_succ (h t ht)
theorem encT_small {l : List Tx} (h : Tapeable l) : ∀ x ∈ encT l, x < 256 := fun x hx => by
  obtain ⟨t, ht, hx⟩ := List.mem_flatMap.mp hx
  obtain ⟨_, h2, h3⟩ := h t ht
  rcases List.mem_cons.mp hx with q | q
  · rw [q]; exact h2
  · exact h3 x q
theorem encT_take (l : List Tx) (i : Nat) (t : Tx) (h : l[i]? = some t) : encT (l.take (i + 1)) = encT (l.take i) ++ (t.length :: t) := by
  unfold encT
  rw [List.take_add_one, h]
  simp

theorem EvP.bytesOfN {c : Cx} {e : Expr} {pos : Pos} {l : List Nat} {np : Pos} (hn : NameIs c (Str.ofString "bytes") (.type "bytes")) (h : Ev c e (dNat l)) (hr : ∀ n ∈ l, n < 256) (hz : l.length ≤ 1000000) (he : starEach [e] c.env = [(false, eval e c.env)] := by rfl) :
    EvP c (.Call (.Name (Str.ofString "bytes") np) [e] [] pos) (BV (l.map Nat.toUInt8)) := by
  rw [dNat_dIs] at h
  have := EvP.bytesOf (pos := pos) (np := np) hn h (fun n hm => by
    obtain ⟨x, hx, rfl⟩ := List.mem_map.mp hm
    have := hr x hx
    lia) (by rw [List.length_map]; exact hz) he
  rw [enc_bytes] at this
  exact this
noncomputable abbrev c148 (prog : Program) (w : World) (H : Heap) (outer : List Env) (U : List Addr) (L : Addr) (ρ : Rho) : Cx :=
  ⟨prog, w, H, 4, some (callEnvC (fd148 w.params) L 148 :: outer), frOf outer, [L] ++ U, [L] ++ [], callEnvC (fd148 w.params) L 148, ρ, []⟩
section
variable {prog : Program} {w : World} {H : Heap}
set_option maxHeartbeats 1000000 in
theorem fromTape_call (T : Wd (KK w) H) (B : BmAt H) {A : Around} {s : Shared} {U : List Addr} {v : Value} {l : List Tx} {outer : List Env} (ok : Ok 5 (some outer) A) (hFn : Fns outer) (hF : ∀ b ∈ frOf outer, b ∈ U ∧ IsD s.heap b)
    (hH : Le H s.heap) (hU : ∀ b ∈ U, (∃ o, s.heap.get? b = some o) ∧ H.get? b = none) (n112 : (112 : Addr) ∉ U) (hq : Tab w H s.heap) (hr : Rd U s.heap v (dSs l)) (hne : l ≠ []) (h20 : l.length ≤ 20) (ht : ∀ t ∈ l, t ≠ [] ∧ t.length ≤ 20) (hp : Plain l) :
    wpAny (model prog w) A (call (.ref 148) [v]) (fun v' s' => StepX [112] (frOf outer) s s' ∧ (TabF w.params H → StepX [] (frOf outer) s s') ∧ Rd U s'.heap v' (dSs l) ∧ ∃ H', Le H H' ∧ Le H' s'.heap ∧ TabF w.params H' ∧ ∀ b ∈ U, H'.get? b = none) No s := by
  refine (s148 T).call (F := frOf outer) (U := U) (W₀ := []) (ρ₀ := argsAs [Str.ofString "texts"] [dSs l]) (μ₀ := []) ok.room hH hU (fun b hb => nomatch hb) rfl (fun y b e => lookup_argsAs (.cons hr .nil) rfl e) (fun b ds hm => nomatch hm) .nil hF ?_
  intro L s₁ hLU hLn hown hk S
  have hO : own (fd148 w.params) L = [L] := rfl
  have ok' := ok.deeperF (callEnvC (fd148 w.params) L 148)
  have hFn' : Fns (callEnvC (fd148 w.params) L 148 :: outer) := fun e he => by
    rcases List.mem_cons.mp he with q | q
    · rw [q]; exact ⟨by show (fd148 w.params).scope.kind ≠ _; rw [show (fd148 w.params).scope.kind = .function from rfl]; decide, L, rfl⟩
    · exact hFn e q
  have tape : Tapeable l := fun t h => ⟨(ht t h).1, by have := (ht t h).2; lia, fun x hx => by have := hp t h x hx; lia⟩
  have hq₁ := hq.up (keeps_le hk)
  have nLn : L ≠ 112 := fun q => by
    rcases hq with ⟨_, z⟩ | ⟨c', z, _⟩
    · rw [← q, hLn] at z; cases z
    · have := hH _ _ z; rw [← q, hLn] at this; cases this
  have n112U : (112 : Addr) ∉ [L] ++ U := fun m => by
    rcases List.mem_append.mp m with q | q
    · exact nLn (List.mem_singleton.mp q).symm
    · exact n112 q
  -- ahead of the first tape
  have kb : Le H s₁.heap := St.base S
  have S₁ : Cx.S ⟨prog, w, rise H s₁.heap s₁.heap, 4, some (callEnvC (fd148 w.params) L 148 :: outer), frOf outer, [L] ++ U, [L] ++ [], callEnvC (fd148 w.params) L 148, [(Str.ofString "texts", .dat (dSs l))], []⟩ s₁.heap := St.rebase S (rise_le _ _ _) fun b hb => by
    obtain ⟨o, e⟩ := (St.offs S b hb).1
    exact rise_off e (St.offs S b hb).2 (fun q => n112U (q ▸ hb))
  have T₁ : Wd (KK w) (rise H s₁.heap s₁.heap) := T.up (rise_base kb)
  have lenE : (encT l).length ≤ 420 := by
    have := encT_len l 20 fun t h => (ht t h).2
    have := Nat.mul_le_mul_right 21 h20
    lia
  refine Ex.cut (c := ⟨prog, w, rise H s₁.heap s₁.heap, 4, some (callEnvC (fd148 w.params) L 148 :: outer), frOf outer, [L] ++ U, [L] ++ [], callEnvC (fd148 w.params) L 148, [(Str.ofString "texts", .dat (dSs l))], []⟩)
    (c' := fun g => Cx.S ⟨prog, w, rise H s₁.heap s₁.heap, 4, some (callEnvC (fd148 w.params) L 148 :: outer), frOf outer, [L] ++ U, [L] ++ [], callEnvC (fd148 w.params) L 148, [(Str.ofString "octets", .dat (dNat (encT l))), (Str.ofString "texts", .dat (dSs l))], []⟩ g) 2 S₁ ok' ?_ ?_
  · delta bd148
    refine Ex.assign (d := dNat []) (Ev.list .nil) (.inl rfl) ?_
    refine Ex.for (σ := List Nat) (fun x => [(Str.ofString "octets", .dat (dNat x)), (Str.ofString "texts", .dat (dSs l))]) (fun x d => [(Str.ofString "text", .dat d), (Str.ofString "octets", .dat (dNat x)), (Str.ofString "texts", .dat (dSs l))]) (fun _ => []) (fun i x => x = encT (l.take i)) [] (IterOf.list (ds := l.map dS) (Ev.var rfl)) (fun g S => S.to ⟨rfl, rfl, trivial⟩) rfl (fun i x d hd hx => Asg.name (.inl rfl)) ?_ ?_
    · intro i x d hd hx
      rw [List.getElem?_map] at hd
      obtain ⟨t, htt, rfl⟩ := Option.map_eq_some_iff.mp hd
      have hmem := List.mem_of_getElem? htt
      have hi : i < l.length := (List.getElem?_eq_some_iff.mp htt).1
      have hxl : x.length ≤ 420 := by
        rw [hx]
        have := encT_len (l.take i) 20 fun t h => (ht t (List.mem_of_mem_take h)).2
        have h2 : (l.take i).length ≤ 20 := by rw [List.length_take]; lia
        have := Nat.mul_le_mul_right 21 h2
        lia
      have htl := (ht t hmem).2
      refine Ex.assign (d := dNat (encT (l.take (i + 1)))) ?_ (.inl rfl) (Ex.nil fun g S => ⟨_, rfl, S.to ⟨rfl, rfl, trivial⟩⟩)
      rw [encT_take l i t htt, ← hx]
      have e : dNat (x ++ (t.length :: t)) = .list ((x.map (fun (i : Nat) => PyData.int (i : Int)) ++ [PyData.int (t.length : Int)]) ++ ((t.filter fun _ => true).map fun (i : Nat) => PyData.int (i : Int))) := by
        rw [filter_true, List.append_assoc]
        show PyData.list _ = PyData.list _
        rw [List.map_append]; rfl
      rw [e]
      refine Ev.bin (Ev.bin (Ev.var rfl) (Ev.list (.cons (Ev.callB (NameIs.boot T₁ (m_len w) b_len) (.cons (Ev.var rfl) .nil) (c_len_str (by lia))) .nil)) (op_add_list (by simp; lia))) ?_ (op_add_list (by rw [filter_true]; simp; lia))
      exact Ev.comp (as := t) (fun (n : Nat) => dS [n]) (cl := []) (ρ₀ := []) (fun n => [(Str.ofString "sign", .dat (dS [n]))]) _ _ (Sees.zero rfl rfl (by decide) (by decide)) (IterOf.str (Ev.var rfl) fun n hn => hp t hmem n hn) (by lia) (fun n _ C D es => AsgL.name rfl) (fun n _ y b h => nomatch h) (fun n _ C D es => TrIfs.nil)
        (fun n _ _ C D es => Ev.callB (NameIs.boot T₁ (m_ord w) b_ord) (.cons (Ev.var rfl) .nil) c_ord)
    · intro x hx
      rw [List.length_map, List.take_length] at hx
      exact Ex.nil fun g S => ⟨rfl, hx ▸ S⟩
  intro s₂ st₂ S₂
  have U1 : ∀ b ∈ [L] ++ U, H.get? b = none := fun b hb => (St.offs S b hb).2
  have kH1 : Le H (rise H s₁.heap s₁.heap) := rise_base kb
  have S₃ : Cx.S ⟨prog, w, H, 4, some (callEnvC (fd148 w.params) L 148 :: outer), frOf outer, [L] ++ U, [L] ++ [], callEnvC (fd148 w.params) L 148, [(Str.ofString "octets", .dat (dNat (encT l))), (Str.ofString "texts", .dat (dSs l))], []⟩ s₂.heap := St.rebase S₂ (fun b o e => St.base S₂ b o (kH1 b o e)) U1
  have hq₂ : Tab w H s₂.heap := hq₁.imp (fun z => ⟨z.1, St.base S₂ _ _ (rise_tab z.2)⟩) id
  obtain ⟨l', t, hl⟩ : ∃ l' t, l = l' ++ [t] := ⟨_, _, (List.dropLast_concat_getLast hne).symm⟩
  have hl' : l'.length ≤ 19 := by rw [hl, List.length_append, List.length_singleton] at h20; lia
  have tlen := ht t (by rw [hl]; exact List.mem_append_right _ (.head _))
  obtain ⟨r1, r2⟩ := read_whole tape h20
  obtain ⟨q1, q2⟩ := read_short (l := l') (t := t) (hl ▸ tape) hl'
  rw [← hl] at q1 q2
  have small := encT_small tape
  have eB : (encT l).length ≤ 1000000 := by lia
  have lB : (encB l).length = (encT l).length := by unfold encB; rw [List.length_map]
  have dropE : (dNat (encT l).dropLast) = .list ((encT l).map fun (i : Nat) => PyData.int (i : Int)).dropLast := by rw [← List.map_dropLast]
  have encD : (encB l).dropLast = (encT l).dropLast.map Nat.toUInt8 := by unfold encB; rw [List.map_dropLast]
  have okI : ∀ r : List Nat, (∀ x ∈ r, x < 256) → ∀ n ∈ (r.map fun (i : Nat) => (i : Int)), 0 ≤ n ∧ n < 256 := fun r hr n hn => by
    obtain ⟨x, hx, rfl⟩ := List.mem_map.mp hn
    have := hr x hx
    lia
  delta bd148
  refine go_readAll (c := c148 prog w H outer U L [(Str.ofString "octets", .dat (dNat (encT l))), (Str.ofString "texts", .dat (dSs l))]) (bs := encB l) S₃ ok' T B (Nat.le_refl _) rfl rfl rfl hFn' n112U hq₂ (NameIs.glob T (g_law_read_all w)) (EvP.bytesOfN (NameIs.boot T (m_bytes w) b_bytes) (Ev.var rfl) small eB) rfl rfl (by lia) r2 ?_
  intro s₄ H₁ kH₁ tF₁ st₄ st₄' S₄
  rw [r1] at S₄
  have T₂ : Wd (KK w) H₁ := T.up kH₁
  refine go_readAll (c := c148 prog w H₁ outer U L [(Str.ofString "end", .dat (dWords (some msg1))), (Str.ofString "whole", .dat (dSs l)), (Str.ofString "octets", .dat (dNat (encT l))), (Str.ofString "texts", .dat (dSs l))]) (bs := (encB l).dropLast) S₄ ok' T₂ (B.up kH₁) (Nat.le_refl _) rfl rfl rfl hFn' n112U (.inr tF₁) (NameIs.glob T₂ (g_law_read_all w)) ?_ rfl rfl (by rw [List.length_dropLast]; lia) q2 ?_
  · rw [encD]
    exact EvP.bytesOfN (NameIs.boot T₂ (m_bytes w) b_bytes) (dropE ▸ Ev.listButLast (Ev.var rfl) (Ev.neg Ev.int) (by rw [List.length_map]; exact eB)) (fun x hx => small x ((List.dropLast_sublist _).mem hx)) (by rw [List.length_dropLast]; lia)
  intro s₅ H₂ kH₂ tF₂ st₅ st₅' S₅
  rw [q1] at S₅
  have T₃ : Wd (KK w) H₂ := T₂.up kH₂
  have tl : t.length < 1000000 := by lia
  have tpos : 0 < t.length := List.length_pos_iff.mpr tlen.1
  have pl' : Plain l' := fun x hx => hp x (by rw [hl]; exact List.mem_append_left _ hx)
  have key : Ex (c148 prog w H₂ outer U L [(Str.ofString "end_short", .dat (dWords (some (pctT t.length ((t.length - 1 : Nat) : Int))))), (Str.ofString "short", .dat (dSs l')), (Str.ofString "end", .dat (dWords (some msg1))), (Str.ofString "whole", .dat (dSs l)), (Str.ofString "octets", .dat (dNat (encT l))), (Str.ofString "texts", .dat (dSs l))]) (bd148.drop 4) (fun f h => ∃ v, f = .ret v ∧ Rd ([L] ++ U) h v (dSs l)) := by
    delta bd148
    refine Ex.assign (d := .int (t.length : Int)) ?_ (.inl rfl) ?_
    · refine Ev.callB (NameIs.boot T₃ (m_len w) b_len) (.cons (Ev.item (d := dS t) (Ev.var rfl) (Ev.neg Ev.int) (.list _) (op_item_neg (by decide) ?_ ?_ ?_)) .nil) (c_len_str (by lia))
      · show -((l.map dS).length : Int) ≤ _
        rw [List.length_map, hl, List.length_append, List.length_singleton]; lia
      · show (l.map dS)[((-1 : Int) + (l.map dS).length).toNat]? = _
        have e : ((-1 : Int) + ((l.map dS).length : Nat)).toNat = l'.length := by rw [List.length_map, hl, List.length_append, List.length_singleton]; lia
        rw [e, hl, List.map_append, List.getElem?_append_right (by simp)]
        simp
      · rw [List.length_map]; lia
    refine Ex.assign (d := .tuple [dS (pctT t.length ((t.length - 1 : Nat) : Int))]) ?_ (.inl rfl) ?_
    · refine Ev.tuple (.cons (Ev.bin (d₂ := .tuple [.int ((t.length : Nat) : Int), .int ((t.length - 1 : Nat) : Int)]) (Ev.strC (l := (Str.ofString "expected %d bytes in a string1, but only %d remain").cps.toList) mk_self') (Ev.tuple (.cons (Ev.var rfl) (.cons (Ev.bin (Ev.var rfl) Ev.int ?_) .nil))) (op_pct tl (by lia))) .nil)
      have e : ((t.length - 1 : Nat) : Int) = (t.length : Int) - 1 := by lia
      rw [e]
      exact op_sub_int
    refine Ex.ifRet (b := false) ?_ (fun h => nomatch h) fun _ => ?_
    · exact Tr.or (TrOr.cons (b := false) (b' := false) (Tr.cmp (Ev.var rfl) (Ev.var rfl) (op_ne (shaped_strs l hp) (shaped_strs l hp) (by rw [eqv_self]; rfl))) fun _ =>
        TrOr.cons (b := false) (b' := false) (Tr.cmp (Ev.var rfl) (Ev.tuple (.cons (Ev.strC mk_self') .nil)) (op_ne (shaped_tup strOk_msg1) (shaped_tup strOk_msg1) (congrArg not (eqv_tup msg1)))) fun _ => TrOr.nil)
    refine Ex.ret (d := dSs l) (Ev.ifexp (b := true) ?_ (fun _ => Ev.var rfl) fun h => nomatch h) fun g v S r => ⟨v, rfl, r⟩
    have pre : l.dropLast = l' := by rw [hl, List.dropLast_concat]
    have eD : dSs l' = .list (l.map dS).dropLast := by rw [← List.map_dropLast, pre]
    refine Tr.and (TrAnd.cons (b := true) (b' := true) (Tr.cmp (Ev.var rfl) (Ev.listButLast (Ev.var rfl) (Ev.neg Ev.int) (by rw [List.length_map]; lia)) (op_eq (shaped_strs l' pl') (eD ▸ shaped_strs l' pl') (by rw [← eD, eqv_self]))) fun _ =>
      TrAnd.cons (b := true) (b' := true) (Tr.cmp (Ev.var rfl) (Ev.var rfl) (op_eq (shaped_tup (strOk_pct _ _)) (shaped_tup (strOk_pct _ _)) (eqv_tup _))) fun _ => TrAnd.nil)
  refine wpAny_mono (key (A.deeper _) s₅ ok' S₅) (fun f s₆ g₆ => ?_) fun _ _ q => q.elim
  obtain ⟨st₆, v', rfl, hv⟩ := g₆
  have lessL : ∀ {W : List Addr}, ∀ b ∈ L :: W, b ∈ W ∨ s.heap.get? b = none := fun {W} b hb => by
    rcases List.mem_cons.mp hb with q | hb
    · rw [q]; exact .inr hLn
    · exact .inl hb
  have toW : ∀ {W W' : List Addr} {a b : Shared}, StepX W (frOf outer) a b → (∀ x ∈ W, x ∈ W') → StepX W' (frOf outer) a b := fun {W W' a b} st h => st.toW h fun b hb => .inr hb
  have s02 : StepX [L] (frOf outer) s s₂ := (StepX.of_keeps hk).trans st₂
  have s56 : StepX [L] (frOf outer) s₄ s₆ := (st₅' tF₁).trans st₆
  refine ⟨StepX.less (W := [L, 112]) ?_ lessL, fun z => StepX.less (W := [L]) ((s02.trans (st₄' z)).trans s56) lessL, hv.less fun b hb => List.mem_append_right _ hb, H₂, fun b o e => kH₂ b o (kH₁ b o e), fun b o e => ?_, tF₂, fun b hb => (St.offs S₅ b (List.mem_append_right _ hb)).2⟩
  · refine ((toW s02 fun x hx => ?_).trans (toW st₄ fun x hx => ?_)).trans (toW s56 fun x hx => ?_)
    · rw [List.mem_singleton.mp hx]; exact .head _
    · rcases List.mem_cons.mp hx with q | q
      · rw [q]; exact .tail _ (.head _)
      · rw [List.mem_singleton.mp q]; exact .head _
    · rw [List.mem_singleton.mp hx]; exact .head _
  · have e5 := St.base S₅ b o e
    refine st₆.at (fun m => ?_) (fun m => ?_) e5
    · have := (St.offs S₅ b (St.subW S₅ b m)).2
      rw [e] at this; cases this
    · have := (St.offs S₅ b (St.frs S₅ b m).1).2
      rw [e] at this; cases this
end
end Mine
end
noncomputable section
open PySem PySem.Calls PySem.W PyProof.Rows
set_option Elab.async false
set_option maxRecDepth 100000
set_option linter.unusedVariables false
namespace Mine

section
variable {c : Cx} {A : Around} {s : Shared} {e e₁ e₂ : Expr} {pos p : Pos} {rest : List Stmt}
/-- x = _law_from_tape(e) -/
theorem go_fromTape {x : Str} {l : List Tx} {outer : List Env} {fp xp : Pos} {Q : Flow → Shared → Prop} {E : Value → Shared → Prop} (S : c.S s.heap) (ok : Ok c.k c.fr A) (T : Wd (KK c.w) c.H) (B : BmAt c.H) (hk : 5 ≤ c.k) (hfr : c.fr = some (c.env :: outer)) (hF : c.F = frOf outer) (hf : c.env.frame = some c.env.locals) (hFn : Fns (c.env :: outer))
    (n112 : (112 : Addr) ∉ c.U) (hq : Tab c.w c.H s.heap) (hfn : NameIs c (Str.ofString "_law_from_tape") (.ref 148)) (he : Ev c e (dSs l)) (hx : c.env.kindOf x = some .local) (hne : l ≠ []) (h20 : l.length ≤ 20) (ht : ∀ t ∈ l, t ≠ [] ∧ t.length ≤ 20) (hp : Plain l)
    (k : ∀ s' H', Le c.H H' → TabF c.w.params H' → StepX (112 :: c.W) c.F s s' → (TabF c.w.params c.H → StepX c.W c.F s s') → Cx.S { c with H := H', ρ := (x, .dat (dSs l)) :: c.ρ } s'.heap → wpAny c.M A (execs rest c.env) Q E s')
    (hse : starEach [e] c.env = [(false, eval e c.env)] := by rfl)
    (hs : swapsWith (.Call (.Name (Str.ofString "_law_from_tape") fp) [e] [] pos) (some (.Name x xp)) p.line c.env = pure false := by rfl) :
    wpAny c.M A (execs (.Assign [.Name x xp] (.Call (.Name (Str.ofString "_law_from_tape") fp) [e] [] pos) p :: rest) c.env) Q E s := by
  obtain ⟨of, hof, hofd⟩ := (s148 T).ho
  have hDl := frames_dicts S hF hf
  have hfrm : frOf (c.env :: outer) = c.env.locals :: frOf outer := by simp [frOf, hf]
  have hFU : ∀ b ∈ frOf (c.env :: outer), b ∈ c.U := fun b hb => by
    rw [hfrm] at hb
    rcases List.mem_cons.mp hb with q | q
    · rw [q]; exact S.loc
    · exact (S.frs b (by rw [hF]; exact q)).1
  refine wpAny_execs_cons (wpAny_Assign_Name (wpAny_Call_NameR (hfn A s fp _ _ S (Calls.callWith_function (o := of) (fd := fd148 c.w.params) (args1 (wp_of (he A s ok S) fun v s₁ g₁ => ?_) hse)))) hs)
  obtain ⟨k₁, r₁⟩ := g₁
  have S₁ := S.up k₁
  refine ⟨⟨S₁.base _ _ hof, hofd⟩, ?_⟩
  have okF : Ok 5 (some (c.env :: outer)) A := by have := ok.lessF hk; rw [hfr] at this; exact this
  have hDl₁ : ∀ b ∈ frOf (c.env :: outer), b ∈ c.U ∧ IsD s₁.heap b := fun b hb => ⟨hFU b hb, (hDl b hb).at fun o q => keeps_le k₁ _ _ q⟩
  have hq₁ := hq.up (keeps_le k₁)
  refine wp_of (fromTape_call (prog := c.prog) (w := c.w) T B okF hFn hDl₁ S₁.base S₁.offs n112 hq₁ r₁ hne h20 ht hp) fun v s₂ g₂ => ?_
  obtain ⟨st₂, st₂', hv, H', kH, kH', tH, oH⟩ := g₂
  have S₂ : Cx.S { c with H := H' } s₂.heap := by
    rcases hq₁ with ⟨z1, z2⟩ | z
    · obtain ⟨c', z3, _⟩ := tH.up kH'
      obtain ⟨h₂, tk₂, rfl, kk⟩ := id st₂
      exact St.turn (ps := #[]) S₁ hDl₁ n112 z1 z2 z3 (fun b o hb q => kk b o (fun m => hb (List.mem_singleton.mp m)) q) kH' oH
    · obtain ⟨h₂, tk₂, rfl, kk⟩ := id (st₂' z)
      exact (St.slots S₁ hDl₁ fun b o q => kk b o (fun m => nomatch m) q).rebase kH' oH
  refine wp_of (store_of (c := { c with H := H' }) (b := .dat (dSs l)) S₂ (.inl hx) hv) fun _ s₃ g₃ => ?_
  obtain ⟨st₃, S₃⟩ := g₃
  have toF : ∀ {W : List Addr} {a b : Shared}, StepX W (frOf (c.env :: outer)) a b → StepX (W ++ c.W) c.F a b := fun {W a b} st => st.toW (fun b m => List.mem_append_left _ m) fun b m => by
    rw [hfrm] at m
    rcases List.mem_cons.mp m with r | r
    · exact .inl (List.mem_append_right _ (r ▸ S.locW))
    · exact .inr (by rw [hF]; exact r)
  refine k s₃ H' kH tH ?_ (fun z => ?_) S₃
  · exact (StepX.of_keeps k₁).trans ((toF st₂).trans (st₃.mono fun a ha => .tail _ ha).x)
  · exact (StepX.of_keeps k₁).trans ((toF (st₂' z)).trans st₃.x)
/-- _law_bags_are_told(e₁, e₂) -/
theorem go_bags {one two : List Tx} {outer : List Env} {fp : Pos} (S : c.S s.heap) (ok : Ok c.k c.fr A) (T : Wd (KK c.w) c.H) (hk : 2 ≤ c.k) (hfr : c.fr = some (c.env :: outer)) (hF : c.F = frOf outer) (hf : c.env.frame = some c.env.locals) (hFn : Fns (c.env :: outer))
    (hfn : NameIs c (Str.ofString "_law_bags_are_told") (.ref 182)) (h₁ : Ev c e₁ (dSs one)) (h₂ : Ev c e₂ (dSs two)) (z1 : one.length ≤ 1000) (z2 : two.length ≤ 1000) (p1 : Plain one) (p2 : Plain two)
    (hse : starEach [e₁, e₂] c.env = [(false, eval e₁ c.env), (false, eval e₂ c.env)] := by rfl) :
    wpAny c.M A (eval (.Call (.Name (Str.ofString "_law_bags_are_told") fp) [e₁, e₂] [] pos) c.env) (fun v s' => v = .bool (bagsT one two) ∧ StepX c.W c.F s s' ∧ c.S s'.heap) No s := by
  obtain ⟨of, hof, hofd⟩ := (s182 T).ho
  have hDl := frames_dicts S hF hf
  have hfrm : frOf (c.env :: outer) = c.env.locals :: frOf outer := by simp [frOf, hf]
  have hFU : ∀ b ∈ frOf (c.env :: outer), b ∈ c.U := fun b hb => by
    rw [hfrm] at hb
    rcases List.mem_cons.mp hb with q | q
    · rw [q]; exact S.loc
    · exact (S.frs b (by rw [hF]; exact q)).1
  refine wpAny_Call_NameR (hfn A s fp _ _ S (Calls.callWith_function (o := of) (fd := fd182 c.w.params) (args2 (wp_of (h₁ A s ok S) fun v₁ s₁ g₁ => ?_) hse)))
  obtain ⟨k₁, r₁⟩ := g₁
  refine wp_of (h₂ A s₁ ok (S.up k₁)) fun v₂ s₂ g₂ => ?_
  obtain ⟨k₂, r₂⟩ := g₂
  have k₁₂ := keeps_trans k₁ k₂
  have S₂ := S.up k₁₂
  refine ⟨⟨S₂.base _ _ hof, hofd⟩, ?_⟩
  have okF : Ok 2 (some (c.env :: outer)) A := by have := ok.lessF hk; rw [hfr] at this; exact this
  have hDl₂ : ∀ b ∈ frOf (c.env :: outer), b ∈ c.U ∧ IsD s₂.heap b := fun b hb => ⟨hFU b hb, (hDl b hb).at fun o q => keeps_le k₁₂ _ _ q⟩
  refine wp_of (bags_call (prog := c.prog) (w := c.w) T okF hFn hDl₂ S₂.base S₂.offs (r₁.up (keeps_le k₂)) r₂ z1 z2 p1 p2) fun v s₃ g₃ => ?_
  obtain ⟨st₃, r₃⟩ := g₃
  cases r₃
  refine ⟨rfl, (StepX.of_keeps k₁₂).trans (st₃.toW (fun b m => nomatch m) fun b m => ?_), ?_⟩
  · rw [hfrm] at m
    rcases List.mem_cons.mp m with r | r
    · exact .inl (r ▸ S.locW)
    · exact .inr (by rw [hF]; exact r)
  · obtain ⟨h₃, tk₃, rfl, kk⟩ := id st₃
    exact St.slots S₂ hDl₂ fun b o q => kk b o (fun m => nomatch m) q
end
end Mine
end
noncomputable section
open PySem PySem.W PyProof.Rows
set_option Elab.async false
set_option linter.unusedVariables false
namespace Mine

theorem getD_mem {u : Tx} {i : Nat} (h : i < u.length) : u.getD i 0 ∈ u := by
  rw [List.getD_eq_getElem?_getD, List.getElem?_eq_getElem h]; exact List.getElem_mem h
theorem ex_sign {u : Tx} {x : Nat} : x ∈ u ↔ ∃ e ∈ EX u, e.2 = x := by
  unfold EX
  constructor
  · intro h
    obtain ⟨i, hi, rfl⟩ := List.getElem_of_mem h
    refine ⟨_, List.mem_map.mpr ⟨(i + 1) % u.length, List.mem_range.mpr (Nat.mod_lt _ (by lia)), rfl⟩, ?_⟩
    show u.getD (((i + 1) % u.length + (u.length - 1)) % u.length) 0 = u[i]
    have e : ((i + 1) % u.length + (u.length - 1)) % u.length = i := by
      rw [Nat.mod_add_mod, show i + 1 + (u.length - 1) = i + u.length by lia, Nat.add_mod_right, Nat.mod_eq_of_lt hi]
    rw [e, List.getD_eq_getElem?_getD, List.getElem?_eq_getElem hi]; rfl
  · rintro ⟨e, he, rfl⟩
    obtain ⟨a, ha, rfl⟩ := List.mem_map.mp he
    have := List.mem_range.mp ha
    exact getD_mem (Nat.mod_lt _ (by lia))
theorem exs_sign {l : List Tx} {x : Nat} : x ∈ l.flatten ↔ ∃ e ∈ l.flatMap EX, e.2 = x := by
  constructor
  · intro h
    obtain ⟨u, hu, hx⟩ := List.mem_flatten.mp h
    obtain ⟨e, he, q⟩ := ex_sign.mp hx
    exact ⟨e, List.mem_flatMap.mpr ⟨u, hu, he⟩, q⟩
  · rintro ⟨e, he, q⟩
    obtain ⟨u, hu, he⟩ := List.mem_flatMap.mp he
    exact List.mem_flatten.mpr ⟨u, hu, ex_sign.mpr ⟨e, he, q⟩⟩
theorem wheels_sign {t : Tx} {x : Nat} : x ∈ (wheelsT t).flatten ↔ x ∈ t := by
  rw [exs_sign]
  constructor
  · rintro ⟨e, he, rfl⟩
    obtain ⟨p, hp, rfl⟩ := List.mem_map.mp ((wheels_rows t).mem_iff.mp he)
    exact getD_mem (List.mem_range.mp hp)
  · intro h
    obtain ⟨i, hi, rfl⟩ := List.getElem_of_mem h
    refine ⟨_, (wheels_rows t).mem_iff.mpr (List.mem_map.mpr ⟨i, List.mem_range.mpr hi, rfl⟩), ?_⟩
    show t.getD i 0 = _
    rw [List.getD_eq_getElem?_getD, List.getElem?_eq_getElem hi]; rfl
theorem text_sign {l : List Tx} (hz : l.flatten.length ≤ 20) {x : Nat} : x ∈ togT l ↔ x ∈ l.flatten := by
  rw [← wheels_sign, exs_sign, exs_sign]
  constructor
  · rintro ⟨e, he, q⟩; exact ⟨e, (text_rows hz).mem_iff.mp he, q⟩
  · rintro ⟨e, he, q⟩; exact ⟨e, (text_rows hz).mem_iff.mpr he, q⟩
theorem plain_flat {l : List Tx} (h : ∀ x ∈ l.flatten, x < 128) : Plain l := fun t ht x hx => h x (List.mem_flatten.mpr ⟨t, ht, hx⟩)
theorem part_le {l : List Tx} {t : Tx} (h : t ∈ l) : t.length ≤ l.flatten.length := by
  obtain ⟨a, b, rfl⟩ := List.append_of_mem h
  rw [List.flatten_append, List.length_append, List.flatten_cons, List.length_append]; lia
theorem file_len (m : Int) : (fileT m).length = 10 := by unfold fileT; rw [List.length_map, List.length_range]
theorem pick_plain (i : Nat) (m : Int) {r : List (Nat × Nat)} (h : ∀ e ∈ r, e.2 < 128) : pickT i m r < 128 := by
  unfold pickT
  split
  · rename_i e he; exact h e (List.mem_of_find?_eq_some he)
  · split <;> lia
theorem file_plain (m : Int) : ∀ x ∈ fileT m, x < 128 := fun x hx => by
  obtain ⟨i, hi, rfl⟩ := List.mem_map.mp hx
  refine pick_plain _ _ ?_
  have := List.mem_range.mp hi
  have all : ∀ j, j < 10 → ∀ e ∈ tabT.getD j [], e.2 < 128 := by decide
  exact all i this
theorem min_sign {w : Tx} (hw : w ≠ []) {x : Nat} (h : x ∈ minT (turnsT w)) : x ∈ w := by
  have hl := List.length_pos_iff.mpr hw
  have hm := minT_mem (l := turnsT w) (fun q => by have := turns_len w; rw [q] at this; simp at this; lia)
  obtain ⟨a, _, e⟩ := List.mem_map.mp hm
  rw [← e] at h
  unfold turnT at h
  rcases List.mem_append.mp h with q | q
  · exact List.mem_of_mem_drop q
  · exact List.mem_of_mem_take q
theorem least_plain {l : List Tx} (hl : ∀ u ∈ l, u ≠ []) (h : Plain l) : Plain (l.map fun w => minT (turnsT w)) := fun t ht x hx => by
  obtain ⟨w, hw, rfl⟩ := List.mem_map.mp ht
  exact h w hw x (min_sign (hl w hw) hx)
theorem sort_eq {l r : List Tx} (h : l.Perm r) : sortT l = sortT r := sorted_unique (sortT_sorted l) (sortT_sorted r) ((sortT_perm l).trans (h.trans (sortT_perm r).symm))
end Mine
end
noncomputable section
open PySem PySem.Calls PySem.W PyProof.Rows
set_option Elab.async false
set_option maxRecDepth 100000
set_option linter.unusedVariables false
namespace Mine

def pickI (ns : List Int) (a : Int) : List Int := (sliceRange (sliceBounds (some a) none (some 3) ns.length).1 (sliceBounds (some a) none (some 3) ns.length).2.1 (sliceBounds (some a) none (some 3) ns.length).2.2).filterMap (ns[·]?)
theorem pick_ints (ns : List Int) (a : Int) : PyData.list (pick (ns.map .int) (some a) none (some 3)) = dIs (pickI ns a) := by
  show PyData.list _ = PyData.list _
  unfold pick pickI
  rw [List.length_map]
  generalize sliceRange _ _ _ = js
  congr 1
  induction js with
  | nil => rfl
  | cons j js ih =>
    rw [List.filterMap_cons, List.filterMap_cons, List.getElem?_map]
    cases ns[j]? with
    | none => exact ih
    | some n => show _ :: _ = _ :: _; rw [ih]
def modeN (ns : List Int) (i : Nat) : Nat := (((if i = 0 then 33206 else 16895) + (pickI ns (i : Int)).sum).fmod 4294967296).toNat
def numN (ns : List Int) : Nat := ((88084560 + (pickI ns 2).sum).fmod 1152921504606846976).toNat
def listT (ns : List Int) : Tx := fileT (modeN ns 0 : Nat) ++ fileT (modeN ns 1 : Nat)
theorem mode_int (ns : List Int) (i : Nat) : ((modeN ns i : Nat) : Int) = ((if i = 0 then 33206 else 16895) + (pickI ns (i : Int)).sum).fmod 4294967296 := Int.toNat_of_nonneg (Int.fmod_nonneg_of_pos _ (by decide))
theorem num_int (ns : List Int) : ((numN ns : Nat) : Int) = (88084560 + (pickI ns 2).sum).fmod 1152921504606846976 := Int.toNat_of_nonneg (Int.fmod_nonneg_of_pos _ (by decide))
theorem list_len (ns : List Int) : (listT ns).length = 20 := by unfold listT; rw [List.length_append, file_len, file_len]
theorem list_rows (ns : List Int) : listT ns = rowT (modeN ns 0 / 4096 % 16) (modeN ns 0 % 4096) ++ rowT (modeN ns 1 / 4096 % 16) (modeN ns 1 % 4096) := by
  unfold listT
  rw [file_row, file_row]
theorem list_plain (ns : List Int) : ∀ x ∈ listT ns, x < 128 := fun x hx => by
  rcases List.mem_append.mp hx with q | q
  · exact file_plain _ x q
  · exact file_plain _ x q

noncomputable abbrev c187 (prog : Program) (w : World) (H : Heap) (outer : List Env) (U : List Addr) (L : Addr) (ρ : Rho) : Cx :=
  ⟨prog, w, H, 5, some (callEnvC (fd187 w.params) L 187 :: outer), frOf outer, [L, L + 1] ++ U, [L, L + 1] ++ [], callEnvC (fd187 w.params) L 187, ρ, []⟩
section
variable {prog : Program} {w : World} {H : Heap}
theorem law_head (T : Wd (KK w) H) {outer : List Env} {U : List Addr} {L : Addr} {ns : List Int} (hz : ns.length ≤ 63) :
    Ex (c187 prog w H outer U L [(Str.ofString "script", .dat (dIs ns))]) (bd187.take 5) (fun f g => f = .next ∧ (c187 prog w H outer U L [(Str.ofString "listing", .dat (dS (listT ns))), (Str.ofString "number", .dat (.int (numN ns : Int)))]).S g) := by
  delta bd187
  refine Ex.assignComp (as := List.range 2) (fun (i : Nat) => PyData.int (i : Int)) (cl := [(Str.ofString "script", L + 1)]) (ρ₀ := [(Str.ofString "script", .dat (dIs ns))])
    (fun i => [(Str.ofString "turn", .dat (.int (i : Int))), (Str.ofString "script", .dat (dIs ns))]) (fun _ => true) (fun i => .int (modeN ns i : Int))
    (Sees.one rfl rfl (by decide) (by decide) rfl rfl rfl rfl) (IterOf.rangeN (n := 2) (NameIs.boot T (m_range w) b_range) Ev.int (by lia)) (by simp) (fun i _ C D es => AsgL.name rfl) (fun _ _ => back_cons rfl) (fun i _ C D es => TrIfs.nil) ?_ rfl ?_
  · intro i hi _ C D es
    have hi2 := List.mem_range.mp hi
    rw [mode_int]
    refine Ev.bin (Ev.bin (Ev.item (d := .int (if i = 0 then 33206 else 16895)) (Ev.tuple (.cons Ev.int (.cons Ev.int .nil))) (Ev.var rfl) (.tuple _) (op_item_tuple (by lia) ?_ (by simp))) (Ev.callB (NameIs.boot T (m_sum w) b_sum) (.cons ?_ .nil) c_sum) op_add_int) Ev.int (op_mod_int (by decide))
    · match i, hi2 with
      | 0, _ => rfl
      | 1, _ => rfl
    · rw [← pick_ints]
      exact Ev.listStep (Ev.var rfl) (Ev.var rfl) Ev.int (by decide) (by rw [List.length_map]; lia)
  rw [filter_true]
  refine Ex.assign (d := .int (numN ns : Int)) ?_ (.inl rfl) ?_
  · rw [num_int]
    refine Ev.bin (d₂ := .int 1152921504606846976) (Ev.bin Ev.int (Ev.callB (NameIs.boot T (m_sum w) b_sum) (.cons ?_ .nil) c_sum) op_add_int) (Ev.bin Ev.int Ev.int (op_pow_int (by decide) (by decide +kernel))) (op_mod_int (by decide))
    rw [← pick_ints]
    exact Ev.listStep (Ev.var rfl) Ev.int Ev.int (by decide) (by rw [List.length_map]; lia)
  refine Ex.assign (d := dS (listT ns)) (Ev.bin (Ev.callF (NameIs.glob T (g_filemode w)) (.cons (Ev.item (d := .int (modeN ns 0 : Int)) (Ev.var rfl) Ev.int (.list _) (op_item_list (by decide) rfl (by simp))) .nil) ((file_fn T _).callD (by show 2 ≤ 5; lia)) (T.k _ _ (id rfl)) rfl)
    (Ev.callF (NameIs.glob T (g_filemode w)) (.cons (Ev.item (d := .int (modeN ns 1 : Int)) (Ev.var rfl) Ev.int (.list _) (op_item_list (by decide) rfl (by simp))) .nil) ((file_fn T _).callD (by show 2 ≤ 5; lia)) (T.k _ _ (id rfl)) rfl) (op_add_str (by rw [file_len, file_len]; lia))) (.inl rfl) ?_
  refine Ex.assignComp (as := List.range 2) (fun (i : Nat) => PyData.int (modeN ns i : Int)) (cl := []) (ρ₀ := [])
    (fun i => [(Str.ofString "mode", .dat (.int (modeN ns i : Int)))]) (fun _ => true) (fun i => dS (rowT (modeN ns i / 4096 % 16) (modeN ns i % 4096)))
    (Sees.zero rfl rfl (by decide) (by decide)) (IterOf.list (Ev.var rfl)) (by simp) (fun i _ C D es => AsgL.name rfl) (fun i _ y b h => nomatch h) (fun i _ C D es => TrIfs.nil) ?_ rfl ?_
  · intro i hi _ C D es
    exact Ev.callF (NameIs.glob T (g_law_row w)) (.cons (Ev.bin (Ev.bin (Ev.var rfl) Ev.int (op_div_nat (b := 4096) (by lia) (by lia))) Ev.int (op_mod_nat (b := 16) (by lia))) (.cons (Ev.bin (Ev.var rfl) Ev.int (op_mod_nat (b := 4096) (by lia))) .nil))
      ((row_fn T _ _ (Nat.mod_lt _ (by lia)) (Nat.mod_lt _ (by lia))).callD (by show 1 ≤ 5; lia)) (T.k _ _ (id rfl)) rfl
  rw [filter_true]
  refine Ex.ifRet (b := false) ?_ (fun h => nomatch h) fun _ => Ex.nil fun g S => ⟨rfl, S.to ⟨rfl, rfl, trivial⟩⟩
  have e : (!decide (listT ns = rowT (modeN ns 0 / 4096 % 16) (modeN ns 0 % 4096) ++ rowT (modeN ns 1 / 4096 % 16) (modeN ns 1 % 4096))) = false := by rw [decide_eq_true (list_rows ns)]; rfl
  have l0 : (rowT (modeN ns 0 / 4096 % 16) (modeN ns 0 % 4096)).length = 10 := by rw [← file_row, file_len]
  have l1 : (rowT (modeN ns 1 / 4096 % 16) (modeN ns 1 % 4096)).length = 10 := by rw [← file_row, file_len]
  have := op_ne_str (c := (c187 prog w H outer U L [(Str.ofString "script", .dat (dIs ns))])) (l := listT ns) (r := rowT (modeN ns 0 / 4096 % 16) (modeN ns 0 % 4096) ++ rowT (modeN ns 1 / 4096 % 16) (modeN ns 1 % 4096))
  rw [e] at this
  exact Tr.cmp (Ev.var rfl) (Ev.bin (Ev.item (d := dS (rowT (modeN ns 0 / 4096 % 16) (modeN ns 0 % 4096))) (Ev.var rfl) Ev.int (.list _) (op_item_list (by decide) rfl (by simp))) (Ev.item (d := dS (rowT (modeN ns 1 / 4096 % 16) (modeN ns 1 % 4096))) (Ev.var rfl) Ev.int (.list _) (op_item_list (by decide) rfl (by simp))) (op_add_str (by lia))) (e ▸ op_ne_str)
end
end Mine
end
noncomputable section
open PySem PySem.Calls PySem.W PyProof.Rows
set_option Elab.async false
set_option maxRecDepth 100000
set_option linter.unusedVariables false
namespace Mine

section
variable {prog : Program} {w : World} {H : Heap}
theorem truth_list {α : Type} {l : List α} {f : α → PyData} (h : l ≠ []) : truth (.list (l.map f)) = true := by
  cases l with
  | nil => exact (h rfl).elim
  | cons x r => rfl
theorem ne_of_len {l : List Tx} {n : Nat} (h : l.flatten.length = n + 1) : l ≠ [] := fun q => by rw [q] at h; simp at h
theorem law_mid (T : Wd (KK w) H) {outer : List Env} {U : List Addr} {L : Addr} {t : Tx} {wh wd : List Tx} {n : PyData} (ht : t.length = 20) (hwh : togT wh = t) (hfl : wh.flatten.length = 20) (hww : ∀ u ∈ wh, u ≠ [] ∧ wheelT u = true) (hwd : wd.flatten.length = 20) (hdd : ∀ u ∈ wd, u ≠ []) :
    Ex (c187 prog w H outer U L [(Str.ofString "words", .dat (dSs wd)), (Str.ofString "wheels", .dat (dSs wh)), (Str.ofString "listing", .dat (dS t)), (Str.ofString "number", .dat n)]) ((bd187.drop 7).take 4) (fun f g => f = .next ∧ (c187 prog w H outer U L [(Str.ofString "text", .dat (dS (togT wd))), (Str.ofString "words", .dat (dSs wd)), (Str.ofString "wheels", .dat (dSs wh))]).S g) := by
  delta bd187
  have tlen : (togT wd).length = 20 := by rw [text_len (by lia), hwd]
  have le : ∀ {l : List Tx}, l.flatten.length = 20 → ∀ u ∈ l, u.length ≤ 20 := fun {l} h u hu => h ▸ part_le hu
  have lc : ∀ {l : List Tx}, l.flatten.length = 20 → (∀ u ∈ l, u ≠ []) → l.length ≤ 20 := fun {l} h h' => h ▸ count_len h'
  have nw := lc hfl fun u hu => (hww u hu).1
  have nd := lc hwd hdd
  refine Ex.ifRet (b := false) ?_ (fun h => nomatch h) fun _ => ?_
  · have e : (!decide (togT wh = t)) = false := by rw [decide_eq_true hwh]; rfl
    exact Tr.or (TrOr.cons (b := false) (b' := false) (Tr.not (b := true) (Tr.plain (Ev.var rfl) (truth_list (ne_of_len hfl)) (by show (wh.map dS).length ≤ _; rw [List.length_map]; lia))) fun _ =>
      TrOr.cons (b := false) (b' := false) (Tr.not (b := true) (Tr.plain (Ev.var rfl) (truth_list (ne_of_len hwd)) (by show (wd.map dS).length ≤ _; rw [List.length_map]; lia))) fun _ =>
      TrOr.cons (b := false) (b' := false) (Tr.cmp (Ev.callF (NameIs.glob T (g_law_together w)) (.cons (Ev.var rfl) .nil) ((together_fn T wh (fun u hu => ⟨(hww u hu).1, by have := le hfl u hu; lia⟩) (by lia) (by lia)).callD (by show 3 ≤ 5; lia)) (T.k _ _ (id rfl)) rfl) (Ev.var rfl) (e ▸ op_ne_str)) fun _ => TrOr.nil)
  refine Ex.ifRet (b := false) ?_ (fun h => nomatch h) fun _ => ?_
  · refine Tr.plain (Ev.comp (as := wh) dS (cl := []) (ρ₀ := []) (fun u => [(Str.ofString "wheel", .dat (dS u))]) (fun u => !wheelT u) dS (Sees.zero rfl rfl (by decide) (by decide)) (IterOf.list (Ev.var rfl)) (by lia) (fun u _ C D es => AsgL.name rfl) (fun u _ y b h => nomatch h)
      (fun u hu C D es => TrIfs.one (Tr.not (Tr.bool (Ev.callF (NameIs.glob T (g_law_is_wheel w)) (.cons (Ev.var rfl) .nil) ((is_wheel_fn T u (by have := le hfl u hu; lia)).callD (by show 2 ≤ 5; lia)) (T.k _ _ (id rfl)) rfl)))) (fun u _ _ C D es => Ev.var rfl)) ?_ ?_
    · have e : (wh.filter fun u => !wheelT u) = [] := List.filter_eq_nil_iff.mpr fun u hu => by rw [(hww u hu).2]; decide
      rw [e]; rfl
    · show (List.map _ _).length ≤ _
      rw [List.length_map]
      exact Nat.le_trans (List.length_filter_le _ _) (by lia)
  refine Ex.assign (d := dS (togT wd)) (Ev.callF (NameIs.glob T (g_law_together w)) (.cons (Ev.var rfl) .nil) ((together_fn T wd (fun u hu => ⟨hdd u hu, by have := le hwd u hu; lia⟩) (by lia) (by lia)).callD (by show 3 ≤ 5; lia)) (T.k _ _ (id rfl)) rfl) (.inl rfl) ?_
  refine Ex.ifRet (b := false) ?_ (fun h => nomatch h) fun _ => Ex.nil fun g S => ⟨rfl, S.to ⟨rfl, rfl, rfl, trivial⟩⟩
  refine Tr.not (b := true) (Tr.plain (Ev.var rfl) ?_ ?_)
  · show ((mk (togT wd)).length != 0) = true
    rw [mk_length, tlen]; rfl
  · show (mk (togT wd)).length ≤ _
    rw [mk_length, tlen]; lia
theorem law_parts (T : Wd (KK w) H) {outer : List Env} {U : List Addr} {L : Addr} {wh wd ri : List Tx} {tx : PyData} (hfl : ri.flatten.length = 20) (hrr : ∀ u ∈ ri, u ≠ []) (hwd : wd.flatten.length = 20) (hdd : ∀ u ∈ wd, u ≠ []) :
    Ex (c187 prog w H outer U L [(Str.ofString "rings", .dat (dSs ri)), (Str.ofString "text", .dat tx), (Str.ofString "words", .dat (dSs wd)), (Str.ofString "wheels", .dat (dSs wh))]) ((bd187.drop 12).take 2) (fun f g => f = .next ∧ (c187 prog w H outer U L [(Str.ofString "least", .dat (dSs (ri.map fun u => minT (turnsT u)))), (Str.ofString "parts", .dat (dSs (partsT wd))), (Str.ofString "wheels", .dat (dSs wh))]).S g) := by
  delta bd187
  have le : ∀ {l : List Tx}, l.flatten.length = 20 → ∀ u ∈ l, u.length ≤ 20 := fun {l} h u hu => h ▸ part_le hu
  have lc : ∀ {l : List Tx}, l.flatten.length = 20 → (∀ u ∈ l, u ≠ []) → l.length ≤ 20 := fun {l} h h' => h ▸ count_len h'
  have nw := lc hfl hrr
  have nd := lc hwd hdd
  refine Ex.assign (d := dSs (partsT wd)) (Ev.callF (NameIs.glob T (g_law_parts w)) (.cons (Ev.var rfl) .nil) ((parts_fn T wd (fun u hu => ⟨hdd u hu, le hwd u hu⟩) nd).callD (by show 2 ≤ 5; lia)) (T.k _ _ (id rfl)) rfl) (.inl rfl) ?_
  refine Ex.assignComp (as := ri) dS (cl := []) (ρ₀ := []) (fun u => [(Str.ofString "ring", .dat (dS u))]) (fun _ => true) (fun u => dS (minT (turnsT u))) (Sees.zero rfl rfl (by decide) (by decide)) (IterOf.list (Ev.var rfl)) (by lia) (fun u _ C D es => AsgL.name rfl) (fun u _ y b h => nomatch h)
    (fun u _ C D es => TrIfs.nil) ?_ rfl ?_
  · intro u hu _ C D es
    have hul := le hfl u hu
    refine Ev.callB (NameIs.boot T (m_min w) b_min) (.cons (Ev.callF (NameIs.glob T (g_law_turns w)) (.cons (Ev.var rfl) .nil) ((turns_fn T u (by lia)).callD (by show 1 ≤ 5; lia)) (T.k _ _ (id rfl)) rfl) .nil) (c_min fun q => ?_)
    have := turns_len u
    rw [q] at this
    exact hrr u hu (List.length_eq_zero_iff.mp this.symm)
  have e : (ri.filter fun _ => true).map (fun u => dS (minT (turnsT u))) = (ri.map fun u => minT (turnsT u)).map dS := by rw [filter_true, List.map_map]; rfl
  rw [e]
  exact Ex.nil fun g S => ⟨rfl, S.to ⟨rfl, rfl, rfl, trivial⟩⟩
end
end Mine
end
noncomputable section
open PySem PySem.Calls PySem.W PyProof.Rows
set_option Elab.async false
set_option maxRecDepth 100000
set_option linter.unusedVariables false
namespace Mine

section
variable {prog : Program} {w : World} {H : Heap}
set_option maxHeartbeats 2000000 in
theorem law_call (T : Wd (KK w) H) (B : BmAt H) {A : Around} {s : Shared} {U : List Addr} {v : Value} {ns : List Int} {outer : List Env} (ok : Ok 6 (some outer) A) (hFn : Fns outer) (hF : ∀ b ∈ frOf outer, b ∈ U ∧ IsD s.heap b)
    (hH : Le H s.heap) (hU : ∀ b ∈ U, (∃ o, s.heap.get? b = some o) ∧ H.get? b = none) (n112 : (112 : Addr) ∉ U) (hq : Tab w H s.heap) (hr : Rd U s.heap v (dIs ns)) (hz : ns.length ≤ 63) :
    wpAny (model prog w) A (call (.ref 187) [v]) (fun v' s' => v' = .bool true ∧ StepX [112] (frOf outer) s s' ∧ ∃ ps, s'.heap.get? 112 = some (tabObj ps)) No s := by
  refine (s187 T).call (F := frOf outer) (U := U) (W₀ := []) (ρ₀ := argsAs [Str.ofString "script"] [dIs ns]) (μ₀ := []) ok.room hH hU (fun b hb => nomatch hb) rfl (fun y b e => lookup_argsAs (.cons hr .nil) rfl e) (fun b ds hm => nomatch hm) .nil hF ?_
  intro L s₁ hLU hLn hown hk S
  have hO : own (fd187 w.params) L = [L, L + 1] := rfl
  have ok' := ok.deeperF (callEnvC (fd187 w.params) L 187)
  have hFn' : Fns (callEnvC (fd187 w.params) L 187 :: outer) := fun e he => by
    rcases List.mem_cons.mp he with q | q
    · rw [q]; exact ⟨by show (fd187 w.params).scope.kind ≠ _; rw [show (fd187 w.params).scope.kind = .function from rfl]; decide, L, rfl⟩
    · exact hFn e q
  have hq₁ := hq.up (keeps_le hk)
  have nown : ∀ b ∈ [L, L + 1], b ≠ 112 := fun b hb q => by
    have hn := hown b (by rw [hO]; exact hb)
    rcases hq with ⟨_, z⟩ | ⟨c', z, _⟩
    · rw [← q, hn] at z; cases z
    · have := hH _ _ z; rw [← q, hn] at this; cases this
  have n112U : (112 : Addr) ∉ [L, L + 1] ++ U := fun m => by
    rcases List.mem_append.mp m with q | q
    · exact nown _ q rfl
    · exact n112 q
  have S₁ : (c187 prog w H outer U L [(Str.ofString "script", .dat (dIs ns))]).S s₁.heap := S
  refine Ex.cut (c := c187 prog w H outer U L [(Str.ofString "script", .dat (dIs ns))]) (c' := (c187 prog w H outer U L [(Str.ofString "listing", .dat (dS (listT ns))), (Str.ofString "number", .dat (.int (numN ns : Int)))]).S) 5 S₁ ok' (law_head T hz) ?_
  intro s₂ st₂ S₂
  have hq₂ : Tab w H s₂.heap := hq₁.imp (fun z => ⟨z.1, st₂.at (fun m => n112U (List.mem_append_left _ (by simpa using m))) (fun m => n112 (hF _ m).1) z.2⟩) id
  -- the plain facts
  have tl := list_len ns
  have tp := list_plain ns
  generalize listT ns = t at *
  generalize numN ns = num at *
  have whf : (wheelsT t).flatten.length = 20 := by rw [wheels_len, tl]
  have whw : ∀ u ∈ wheelsT t, u ≠ [] ∧ wheelT u = true := fun u hu => ⟨(wheels_prim (by lia) hu).1, prim_wheel (wheels_prim (by lia) hu).2⟩
  have whp : Plain (wheelsT t) := plain_flat fun x hx => tp x (wheels_sign.mp hx)
  obtain ⟨wdt, wdn⟩ := cut_spec t.length t num (Nat.le_refl _)
  have wdf : (cutT t.length t num).flatten.length = 20 := by rw [wdt, tl]
  have wdp : Plain (cutT t.length t num) := plain_flat fun x hx => tp x (wdt ▸ hx)
  have txl : (togT (cutT t.length t num)).length = 20 := by rw [text_len (by lia), wdf]
  have txp : ∀ x ∈ togT (cutT t.length t num), x < 128 := fun x hx => tp x (wdt ▸ (text_sign (by lia)).mp hx)
  have rif : (wheelsT (togT (cutT t.length t num))).flatten.length = 20 := by rw [wheels_len, txl]
  have rin : ∀ u ∈ wheelsT (togT (cutT t.length t num)), u ≠ [] := fun u hu => (wheels_prim (by lia) hu).1
  have rip : Plain (wheelsT (togT (cutT t.length t num))) := plain_flat fun x hx => txp x (wheels_sign.mp hx)
  have perm := parts_least (l := cutT t.length t num) wdn (by lia)
  have twh : togT (wheelsT t) = t := wheels_together (by lia)
  have cutF : Fn prog w H 1 136 [dS t, .int (num : Int)] (dSs (cutT t.length t num)) := cut_fn T t num (by lia)
  have whF : Fn prog w H 1 129 [dS t] (dSs (wheelsT t)) := wheels_fn T t (by lia) (by lia)
  generalize hwh : wheelsT t = wh at *
  generalize hwd : cutT t.length t num = wd at *
  have le : ∀ {l : List Tx}, l.flatten.length = 20 → ∀ u ∈ l, u.length ≤ 20 := fun {l} h u hu => h ▸ part_le hu
  have lc : ∀ {l : List Tx}, l.flatten.length = 20 → (∀ u ∈ l, u ≠ []) → l.length ≤ 20 := fun {l} h h' => h ▸ count_len h'
  delta bd187
  refine go_fromTape (c := c187 prog w H outer U L [(Str.ofString "listing", .dat (dS t)), (Str.ofString "number", .dat (.int (num : Int)))]) (l := wh) S₂ ok' T B (Nat.le_refl _) rfl rfl rfl hFn' n112U hq₂ (NameIs.glob T (g_law_from_tape w))
    (Ev.callF (NameIs.glob T (g_law_wheels w)) (.cons (Ev.var rfl) .nil) (whF.callD (by show 1 ≤ 5; lia)) (T.k _ _ (id rfl)) rfl) rfl (ne_of_len whf) (lc whf fun u hu => (whw u hu).1) (fun u hu => ⟨(whw u hu).1, le whf u hu⟩) whp ?_
  intro s₃ H₁ kH₁ tF₁ st₃ st₃' S₃
  have T₁ : Wd (KK w) H₁ := T.up kH₁
  refine go_fromTape (c := c187 prog w H₁ outer U L [(Str.ofString "wheels", .dat (dSs wh)), (Str.ofString "listing", .dat (dS t)), (Str.ofString "number", .dat (.int (num : Int)))]) (l := wd) S₃ ok' T₁ (B.up kH₁) (Nat.le_refl _) rfl rfl rfl hFn' n112U (.inr tF₁) (NameIs.glob T₁ (g_law_from_tape w))
    (Ev.callF (NameIs.glob T₁ (g_law_cut w)) (.cons (Ev.var rfl) (.cons (Ev.var rfl) .nil)) ((hwd ▸ cut_fn T₁ t num (by lia) : Fn prog w H₁ 1 136 [dS t, .int (num : Int)] (dSs wd)).callD (by show 1 ≤ 5; lia)) (T₁.k _ _ (id rfl)) rfl) rfl (ne_of_len wdf) (lc wdf wdn) (fun u hu => ⟨wdn u hu, le wdf u hu⟩) wdp ?_
  intro s₄ H₂ kH₂ tF₂ st₄ st₄' S₄
  have T₂ : Wd (KK w) H₂ := T₁.up kH₂
  refine Ex.cut (c := c187 prog w H₂ outer U L [(Str.ofString "words", .dat (dSs wd)), (Str.ofString "wheels", .dat (dSs wh)), (Str.ofString "listing", .dat (dS t)), (Str.ofString "number", .dat (.int (num : Int)))]) (c' := (c187 prog w H₂ outer U L [(Str.ofString "text", .dat (dS (togT wd))), (Str.ofString "words", .dat (dSs wd)), (Str.ofString "wheels", .dat (dSs wh))]).S) 4 S₄ ok' (law_mid T₂ tl twh whf whw wdf wdn) ?_
  intro s₅ st₅ S₅
  have tgF : Fn prog w H₂ 1 129 [dS (togT wd)] (dSs (wheelsT (togT wd))) := wheels_fn T₂ (togT wd) (by lia) (by lia)
  generalize hri : wheelsT (togT wd) = ri at *
  have riL := lc rif rin
  refine go_fromTape (c := c187 prog w H₂ outer U L [(Str.ofString "text", .dat (dS (togT wd))), (Str.ofString "words", .dat (dSs wd)), (Str.ofString "wheels", .dat (dSs wh))]) (l := ri) S₅ ok' T₂ ((B.up kH₁).up kH₂) (Nat.le_refl _) rfl rfl rfl hFn' n112U (.inr tF₂) (NameIs.glob T₂ (g_law_from_tape w))
    (Ev.callF (NameIs.glob T₂ (g_law_wheels w)) (.cons (Ev.var rfl) .nil) (tgF.callD (by show 1 ≤ 5; lia)) (T₂.k _ _ (id rfl)) rfl) rfl (ne_of_len rif) riL (fun u hu => ⟨rin u hu, le rif u hu⟩) rip ?_
  intro s₆ H₃ kH₃ tF₃ st₆ st₆' S₆
  have T₃ : Wd (KK w) H₃ := T₂.up kH₃
  refine Ex.cut (c := c187 prog w H₃ outer U L [(Str.ofString "rings", .dat (dSs ri)), (Str.ofString "text", .dat (dS (togT wd))), (Str.ofString "words", .dat (dSs wd)), (Str.ofString "wheels", .dat (dSs wh))])
    (c' := (c187 prog w H₃ outer U L [(Str.ofString "least", .dat (dSs (ri.map fun u => minT (turnsT u)))), (Str.ofString "parts", .dat (dSs (partsT wd))), (Str.ofString "wheels", .dat (dSs wh))]).S) 2 S₆ ok' (law_parts T₃ rif rin wdf wdn) ?_
  intro s₇ st₇ S₇
  have lp : Plain (ri.map fun u => minT (turnsT u)) := least_plain rin rip
  have pp : Plain (partsT wd) := fun u hu => lp u (perm.mem_iff.mp hu)
  have ll : (ri.map fun u => minT (turnsT u)).length ≤ 20 := by rw [List.length_map]; exact riL
  have pl : (partsT wd).length ≤ 20 := by rw [perm.length_eq]; exact ll
  have sp : Plain (sortT (partsT wd)) := fun u hu => pp u ((sortT_perm _).mem_iff.mp hu)
  have sl : Plain (sortT (ri.map fun u => minT (turnsT u))) := fun u hu => lp u ((sortT_perm _).mem_iff.mp hu)
  refine wpAny_execs_cons (wpAny_If (isTrue_or (wp_of (Tr.go (c := c187 prog w H₃ outer U L [(Str.ofString "least", .dat (dSs (ri.map fun u => minT (turnsT u)))), (Str.ofString "parts", .dat (dSs (partsT wd))), (Str.ofString "wheels", .dat (dSs wh))]) S₇ ok' (Tr.cmp (b := false) (d₁ := dSs (sortT (partsT wd))) (d₂ := dSs (sortT (ri.map fun u => minT (turnsT u)))) (Ev.callB (NameIs.boot T₃ (m_sorted w) b_sorted) (.cons (Ev.var rfl) .nil) (c_sorted (by lia))) (Ev.callB (NameIs.boot T₃ (m_sorted w) b_sorted) (.cons (Ev.var rfl) .nil) (c_sorted (by lia)))
    (op_ne (shaped_strs _ sp) (shaped_strs _ sl) (by rw [sort_eq perm, eqv_self]; rfl)))) fun b s₈ g₈ => ?_)))
  obtain ⟨k₈, rfl⟩ := g₈
  have S₈ := S₇.up k₈
  refine isTrue_or (isTrue_not (isTrue_plain (wp_of (go_bags (c := c187 prog w H₃ outer U L [(Str.ofString "least", .dat (dSs (ri.map fun u => minT (turnsT u)))), (Str.ofString "parts", .dat (dSs (partsT wd))), (Str.ofString "wheels", .dat (dSs wh))]) (outer := outer) S₈ ok' T₃ (by show 2 ≤ 5; lia) rfl rfl rfl hFn' (NameIs.glob T₃ (g_law_bags_are_told w)) (Ev.var rfl) (Ev.var rfl) (by lia) (by lia) pp lp) fun v₉ s₉ g₉ => ?_) rfl))
  obtain ⟨rfl, st₉, S₉⟩ := g₉
  rw [bags_true]
  refine wpAny_truthy_bool ?_
  refine isTrue_or_nil ?_
  refine wpAny_execs_nil ?_
  have whl : (wh.map fun u => minT (turnsT u)).length ≤ 20 := by rw [List.length_map]; exact lc whf fun u hu => (whw u hu).1
  have wl : Plain (wh.map fun u => minT (turnsT u)) := least_plain (fun u hu => (whw u hu).1) whp
  refine wpAny_execs_cons (wpAny_Return_some (wp_of (go_bags (c := c187 prog w H₃ outer U L [(Str.ofString "least", .dat (dSs (ri.map fun u => minT (turnsT u)))), (Str.ofString "parts", .dat (dSs (partsT wd))), (Str.ofString "wheels", .dat (dSs wh))]) (outer := outer) (one := wh.map fun u => minT (turnsT u)) S₉ ok' T₃ (by show 2 ≤ 5; lia) rfl rfl rfl hFn' (NameIs.glob T₃ (g_law_bags_are_told w)) ?_ (Ev.var rfl) (by lia) (by lia) wl pp) fun v₁₀ s₁₀ g₁₀ => ?_))
  · have e : (dSs (wh.map fun u => minT (turnsT u))) = .list ((wh.filter fun _ => true).map fun u => dS (minT (turnsT u))) := by rw [filter_true]; show PyData.list _ = PyData.list _; rw [List.map_map]; rfl
    rw [e]
    refine Ev.comp (as := wh) dS (cl := []) (ρ₀ := []) (fun u => [(Str.ofString "wheel", .dat (dS u))]) (fun _ => true) (fun u => dS (minT (turnsT u))) (Sees.zero rfl rfl (by decide) (by decide)) (IterOf.list (Ev.var rfl)) (by rw [List.length_map] at whl; lia) (fun u _ C D es => AsgL.name rfl) (fun u _ y b h => nomatch h)
      (fun u _ C D es => TrIfs.nil) fun u hu _ C D es => ?_
    have hul := le whf u hu
    refine Ev.callB (NameIs.boot T₃ (m_min w) b_min) (.cons (Ev.callF (NameIs.glob T₃ (g_law_turns w)) (.cons (Ev.var rfl) .nil) ((turns_fn T₃ u (by lia)).callD (by show 1 ≤ 5; lia)) (T₃.k _ _ (id rfl)) rfl) .nil) (c_min fun q => ?_)
    have := turns_len u
    rw [q] at this
    exact (whw u hu).1 (List.length_eq_zero_iff.mp this.symm)
  obtain ⟨rfl, st₁₀, S₁₀⟩ := g₁₀
  have toW : ∀ {W W' : List Addr} {a b : Shared}, StepX W (frOf outer) a b → (∀ x ∈ W, x ∈ W') → StepX W' (frOf outer) a b := fun {W W' a b} st h => st.toW h fun b hb => .inr hb
  have i1 : ∀ x ∈ [L, L + 1], x ∈ 112 :: [L, L + 1] := fun x hx => .tail _ hx
  have all : StepX (112 :: [L, L + 1]) (frOf outer) s s₁₀ :=
    (StepX.of_keeps hk).trans ((toW st₂ i1).trans ((toW st₃ fun x hx => hx).trans ((toW (st₄' tF₁) i1).trans ((toW st₅ i1).trans ((toW (st₆' tF₂) i1).trans ((toW st₇ i1).trans ((StepX.of_keeps k₈).trans ((toW st₉ i1).trans (toW st₁₀ i1)))))))))
  refine ⟨by rw [bags_true], all.less fun a ha => ?_, ?_⟩
  · rcases List.mem_cons.mp ha with q | q
    · rw [q]; exact .inl (.head _)
    · exact .inr (hown a (by rw [hO]; exact q))
  · obtain ⟨c', z, _⟩ := tF₃.up (St.base S₁₀)
    exact ⟨_, z⟩
end
end Mine
end
noncomputable section
open PySem PySem.Calls PySem.W PyProof.Rows
set_option Elab.async false
set_option maxRecDepth 100000
set_option maxHeartbeats 8000000
set_option linter.unusedVariables false
namespace Mine
theorem g_law (w : World) : nsIn (KK w) mainGlobals (Str.ofString "law") = some (some (.ref 187)) := id rfl
theorem caller_ok : Ok 6 (some []) callerA := ⟨rfl, by show 301 + 6 < _; decide, by show 4 + 100 + 10 * 6 < _; decide, fun l h => by cases h; rfl⟩
theorem good_post {cw : ClaimW} {cl : Str → Option Addr} {mean : ExcName → Option Value} {args : List WData} {s s' : Shared} {ps : Array Value} (hT : TabsAt [(116, 112)] s.heap) (hr : ∀ a x, cw.raises a x = false) (hp : cw.post args (.bool true) args = true) (hg : s.gens = #[])
    (st : StepX [112] [] s s') (h : s'.heap.get? 112 = some (tabObj ps)) : GoodWG cw cl mean args s (.ok (.ret (.bool true))) s' := by
  obtain ⟨h', t, rfl, k⟩ := st
  have hT' := hT (116, 112) (.head _)
  refine ⟨.inl ⟨.bool true, .bool true, [], rfl, fun c => hr _ _, .bool _, hp, fun _ => ⟨.nil, fun a ha => nomatch ha⟩⟩, ⟨fun b o e => ?_, fun b o e => ?_⟩, rfl, .of_eq hg⟩
  · by_cases hb : b = 112
    · subst hb
      rw [hT'.2] at e; cases e
      exact .inr (.inl ⟨(hT'.1.tab hT'.2).isCodeTable, rfl, #[], ps, rfl, by rw [Array.empty_append]; exact h⟩)
    · obtain ⟨o', e', q⟩ := k b o (fun m => hb (List.mem_singleton.mp m)) e
      rcases q with q | ⟨m, _⟩
      · exact .inl (q ▸ e')
      · exact nomatch m
  · by_cases hb : b = 112
    · subst hb; exact ⟨_, h⟩
    · obtain ⟨o', e', q⟩ := k b o (fun m => hb (List.mem_singleton.mp m)) e
      exact ⟨_, e'⟩
theorem ints_rd {U : List Addr} {h : Heap} : ∀ {vs : List Value} {ns : List Int}, IntsAre vs ns → RdL U h vs (ns.map .int)
  | [], [], _ => .nil
  | v :: vs, n :: ns, q => by
    cases q
    exact .cons (.int _ _) (ints_rd ‹_›)
theorem no_tabs (P : Params) : noTabs (Mine.hd.heap_39 P) = true := by kernel_rfl
theorem law_done {w : World} {s : Shared} {p : Program} {loose : List Str} {mean' : ExcName → Option Value} {mg mb : Str → Option Value} {fa a : Addr} {vs : List Value} {ns : List Int} {cw : ClaimW} {cl : Str → Option Addr} {mean : ExcName → Option Value} {args : List WData} {prog : Program}
    (KX : (KK w).In s.heap) (hT : TabsAt [(116, 112)] s.heap) (T : Top p loose mean' mg mb s.heap) (hmg : mg (Str.ofString "law") = some (.ref fa)) (hg : s.gens = #[]) (hL : s.heap.IsList a vs.toArray) (hW : Well w.params s.heap (.ref a) (ofPy (.list (ns.map .int)))) (hI : IntsAre vs ns) (hz : ¬ (63 : Int) < ns.length)
    (hr : ∀ a x, cw.raises a x = false) (hp : cw.post args (.bool true) args = true) :
    wpAny (model prog w) callerA (call (.ref fa) [.ref a]) (fun v s' => GoodWG cw cl mean args s (.ok (.ret v)) s') (fun e s' => GoodWG cw cl mean args s (.error e) s') s := by
  have e1 := mg_of KX T.g (g_law w)
  rw [hmg] at e1
  cases e1
  have H0 : Le (ghostOf s.heap [(116, 112)]) s.heap := fun b o e => of_hideAll _ e
  have T' : Wd (KK w) (ghostOf s.heap [(116, 112)]) := by
    refine ⟨ghost_K hT KX (no_tabs _), ⟨mg, ghost_ns hT T.g⟩, ⟨mb, ghost_ns hT T.b, T.builtins⟩, ?_, ?_⟩
    · obtain ⟨mc, a, r⟩ := T.nolimit; exact ⟨mc, ghost_ns hT a, r⟩
    · obtain ⟨mc, a, r⟩ := T.nodigits; exact ⟨mc, ghost_ns hT a, r⟩
  have B : BmAt (ghostOf s.heap [(116, 112)]) := by
    obtain ⟨bm, ob, a1, a2, a3, a4, a5, a6⟩ := T.bmain
    have e2 := mg_of KX T.g (g_bm w)
    have e3 : mg (Str.ofString "__builtins__") = some (.ref bm) := a1
    rw [e3] at e2
    cases e2
    exact ⟨ob, ghost_get hT a3 (fun q => by rw [q] at a4; cases a4), a4, a5, a6, a2⟩
  have tab : Tab w (ghostOf s.heap [(116, 112)]) s.heap := .inl ⟨hideAll_none _ (.head _), (hT (116, 112) (.head _)).2⟩
  have rd : Rd [] s.heap (.ref a) (dIs ns) := by
    obtain ⟨o, e, hc, n, hd⟩ := hL
    generalize hx : ofPy (.list (ns.map .int)) = x at hW
    cases hW with
    | @list _ vs' xs g _ =>
      rw [g] at e; cases e
      cases hd
      exact .list (fun m => nomatch m) g (ints_rd hI)
    | _ => exact absurd hx (by simp [ofPy])
  refine wp_of (law_call (outer := []) (U := []) T' B caller_ok (fun e he => nomatch he) (fun b hb => nomatch hb) H0 (fun b hb => nomatch hb) (fun m => nomatch m) tab rd (by omega)) fun v s' g => ?_
  obtain ⟨rfl, st, ps, e⟩ := g
  exact good_post hT hr hp hg st e
theorem said : Challenge.rw_op0056_01.wellSaid = true := by
  delta OpenLaw.wellSaid
  repeat' with_reducible apply look_both
  all_goals first
    | (delta OpenRow.wellSaid; repeat' with_reducible apply look_both)
    | skip
  all_goals first
    | (delta OpenRow.partSaid; repeat' with_reducible apply look_both)
    | skip
  all_goals decide +kernel
end Mine
end
section
open PySem PySem.Calls PySem.W PyProof.Rows
set_option Elab.async false
set_option maxRecDepth 100000
set_option maxHeartbeats 8000000
theorem PySem.Challenge.cw_op0056_01_holds : PySem.Challenge.rw_op0056_01.Holds := by
  w_on
  refine holds_law Mine.said fun said => ?_
  refine holds_open (q := Mine.hd.view_39) (loose := [Str.ofString "_filemode_table"]) (Xt := fun s => xlAt Mine.hd.view_39 Mine.hd.vals s && recOk (RowW.records (OpenRow.toRowW Challenge.rw_op0056_01.row)) s) (XP := XL Mine.hd.view_39 Mine.hd.vals) (Yf := Hook.obs Mine.hd.hook) (Ya := Hook.val Mine.hd.hook) (YP := Hook.says Mine.hd.hook) (N := 2434) Mine.hd.left
    (Hook.of Mine.hd.hook) (Hook.keeps Mine.hd.hook) (fun s e => xl_of s (Bool.and_eq_true_iff.mp e).1) XL.keeps (by rfl) (by rfl) (by rfl) (fun s e => recFacts_of (Bool.and_eq_true_iff.mp e).2) rfl (by first | assumption | decide +kernel) (by decide +kernel) ⟨rfl, rfl, rfl, rfl, rfl, by decide +kernel⟩ ?hw ?hc
  case hw => w_witness2
  intro w s₀ s₁ mg mb G Y fa o pm cd doc dV kV ho hd hcd hD hmg hg args vals as hpre hlay hrd hwl hlo
  have KX := km_in_of Y
  have hT8 := km_tabs_of Y
  refine Ground.open G ?_
  intro T B D TE TW
  try (refine guard_noD D (by decide +kernel) ?_; clear D)
  have hT9 : TabsAt [(116, 112)] s₁.heap := List.forall_mem_cons.mpr ⟨⟨codeHd_of_K (c := 116) (P := 112) KX (by kernel_rfl), hT8 112 (.head _)⟩, fun q h => nomatch h⟩
  wrow_args hpre hlay hrd hwl hlo
  all_goals refine Mine.law_done KX hT9 T hmg hg (by assumption) (by assumption) (by assumption) (by assumption) (fun _ _ => rfl) ?_
  all_goals kernel_rfl
end

import PyProof.Rows.All
import Wide.All
import OpenK.AllK
import Wide.FinOn
import PySem.Challenge.RW_oy0181_01
section
open PySem PySem.W PyProof.Rows PySem.Calls
set_option Elab.async false
set_option maxRecDepth 1000000
set_option maxHeartbeats 0
namespace Mine
/-- the program, and its pieces by their place -/
abbrev PW : Program := PySem.Challenge.pw_oy0181_01
abbrev RL : OpenRow := OpenLaw.row PySem.Challenge.rw_oy0181_01
abbrev RT : RowW := OpenRow.toRowW RL
def st (i : Nat) : Stmt := PW.main.body.getD i (.Pass ⟨0, 0, 0, 0⟩)
def clsIn4 : Stmt → List Stmt
  | .ClassDef _ _ _ b .. => b
  | _ => []
def st4 (i : Nat) : Stmt := (clsIn4 (st 4)).getD i (.Pass ⟨0, 0, 0, 0⟩)
def parIn : Stmt → Arguments
  | .FunctionDef _ p .. => p
  | _ => ⟨[], [], none, [], [], none, []⟩
def bodyIn : Stmt → List Stmt
  | .FunctionDef _ _ b .. => b
  | _ => []
def scopeIn : Stmt → Scope
  | .FunctionDef _ _ _ _ _ _ s .. => s
  | _ => PW.main.scope
def docIn (x : Stmt) : Str := match bodyIn x with
  | .Expr (.Constant (.str d) _ _) _ :: _ => d
  | _ => Str.ofString ""
set_option maxRecDepth 1000000 in
noncomputable def KK (P : PySem.Params) : PySem.W.Frag :=
 (nat_lit 2, { cls := Value.none, data := Data.dict #[] }) ::
 (nat_lit 3, { cls := Value.type "dict", data := Data.dict #[{ hash := PyData.keyHash P (Str.ofString "__name__"), key := Value.str (Str.ofString "__name__") 165, val := Value.str (Str.ofString "law_oy0181_01") 538 }, { hash := PyData.keyHash P (Str.ofString "__doc__"), key := Value.str (Str.ofString "__doc__") 166, val := Value.none }, { hash := PyData.keyHash P (Str.ofString "__package__"), key := Value.str (Str.ofString "__package__") 167, val := Value.none }, { hash := PyData.keyHash P (Str.ofString "__loader__"), key := Value.str (Str.ofString "__loader__") 168, val := Value.builtin "__main__.__loader__#opaque" }, { hash := PyData.keyHash P (Str.ofString "__spec__"), key := Value.str (Str.ofString "__spec__") 169, val := Value.none }, { hash := PyData.keyHash P (Str.ofString "__annotations__"), key := Value.str (Str.ofString "__annotations__") 170, val := Value.ref 6 }, { hash := PyData.keyHash P (Str.ofString "__builtins__"), key := Value.str (Str.ofString "__builtins__") 171, val := Value.ref 4 }, { hash := PyData.keyHash P (Str.ofString "__file__"), key := Value.str (Str.ofString "__file__") 173, val := Value.str (Str.ofString "/claim/cut.py") 172 }, { hash := PyData.keyHash P (Str.ofString "__cached__"), key := Value.str (Str.ofString "__cached__") 174, val := Value.none }, { hash := PyData.keyHash P (Str.ofString "_wall"), key := Value.str (Str.ofString "_wall") 193, val := Value.ref 21 }, { hash := PyData.keyHash P (Str.ofString "_tuplegetter"), key := Value.str (Str.ofString "_tuplegetter") 252, val := Value.ref 60 }, { hash := PyData.keyHash P (Str.ofString "unorderable_list_difference"), key := Value.str (Str.ofString "unorderable_list_difference") 263, val := Value.ref 71 }, { hash := PyData.keyHash P (Str.ofString "Mismatch"), key := Value.str (Str.ofString "Mismatch") 391, val := Value.ref 142 }, { hash := PyData.keyHash P (Str.ofString "_Mismatch"), key := Value.str (Str.ofString "_Mismatch") 392, val := Value.ref 142 }, { hash := PyData.keyHash P (Str.ofString "_count_diff_all_purpose"), key := Value.str (Str.ofString "_count_diff_all_purpose") 414, val := Value.ref 152 }, { hash := PyData.keyHash P (Str.ofString "S_IFMT"), key := Value.str (Str.ofString "S_IFMT") 424, val := Value.ref 159 }, { hash := PyData.keyHash P (Str.ofString "S_IFDIR"), key := Value.str (Str.ofString "S_IFDIR") 426, val := Value.int 16384 425 }, { hash := PyData.keyHash P (Str.ofString "S_IFCHR"), key := Value.str (Str.ofString "S_IFCHR") 428, val := Value.int 8192 427 }, { hash := PyData.keyHash P (Str.ofString "S_IFBLK"), key := Value.str (Str.ofString "S_IFBLK") 430, val := Value.int 24576 429 }, { hash := PyData.keyHash P (Str.ofString "S_IFREG"), key := Value.str (Str.ofString "S_IFREG") 432, val := Value.int 32768 431 }, { hash := PyData.keyHash P (Str.ofString "S_IFIFO"), key := Value.str (Str.ofString "S_IFIFO") 434, val := Value.int 4096 433 }, { hash := PyData.keyHash P (Str.ofString "S_IFLNK"), key := Value.str (Str.ofString "S_IFLNK") 436, val := Value.int 40960 435 }, { hash := PyData.keyHash P (Str.ofString "S_IFSOCK"), key := Value.str (Str.ofString "S_IFSOCK") 438, val := Value.int 49152 437 }, { hash := PyData.keyHash P (Str.ofString "S_ISUID"), key := Value.str (Str.ofString "S_ISUID") 440, val := Value.int 2048 439 }, { hash := PyData.keyHash P (Str.ofString "S_ISGID"), key := Value.str (Str.ofString "S_ISGID") 442, val := Value.int 1024 441 }, { hash := PyData.keyHash P (Str.ofString "S_ISVTX"), key := Value.str (Str.ofString "S_ISVTX") 444, val := Value.int 512 443 }, { hash := PyData.keyHash P (Str.ofString "S_IRUSR"), key := Value.str (Str.ofString "S_IRUSR") 446, val := Value.int 256 445 }, { hash := PyData.keyHash P (Str.ofString "S_IWUSR"), key := Value.str (Str.ofString "S_IWUSR") 448, val := Value.int 128 447 }, { hash := PyData.keyHash P (Str.ofString "S_IXUSR"), key := Value.str (Str.ofString "S_IXUSR") 450, val := Value.int 64 449 }, { hash := PyData.keyHash P (Str.ofString "S_IRGRP"), key := Value.str (Str.ofString "S_IRGRP") 452, val := Value.int 32 451 }, { hash := PyData.keyHash P (Str.ofString "S_IWGRP"), key := Value.str (Str.ofString "S_IWGRP") 454, val := Value.int 16 453 }, { hash := PyData.keyHash P (Str.ofString "S_IXGRP"), key := Value.str (Str.ofString "S_IXGRP") 456, val := Value.int 8 455 }, { hash := PyData.keyHash P (Str.ofString "S_IROTH"), key := Value.str (Str.ofString "S_IROTH") 458, val := Value.int 4 457 }, { hash := PyData.keyHash P (Str.ofString "S_IWOTH"), key := Value.str (Str.ofString "S_IWOTH") 460, val := Value.int 2 459 }, { hash := PyData.keyHash P (Str.ofString "S_IXOTH"), key := Value.str (Str.ofString "S_IXOTH") 462, val := Value.int 1 461 }, { hash := PyData.keyHash P (Str.ofString "_filemode_table"), key := Value.str (Str.ofString "_filemode_table") 488, val := Value.ref 192 }, { hash := PyData.keyHash P (Str.ofString "filemode"), key := Value.str (Str.ofString "filemode") 501, val := Value.ref 199 }, { hash := PyData.keyHash P (Str.ofString "_MAX_STRING_SIZE"), key := Value.str (Str.ofString "_MAX_STRING_SIZE") 505, val := Value.int 40 504 }, { hash := PyData.keyHash P (Str.ofString "_MOVE_COST"), key := Value.str (Str.ofString "_MOVE_COST") 507, val := Value.int 2 506 }, { hash := PyData.keyHash P (Str.ofString "_CASE_COST"), key := Value.str (Str.ofString "_CASE_COST") 509, val := Value.int 1 508 }, { hash := PyData.keyHash P (Str.ofString "_substitution_cost"), key := Value.str (Str.ofString "_substitution_cost") 517, val := Value.ref 206 }, { hash := PyData.keyHash P (Str.ofString "_levenshtein_distance"), key := Value.str (Str.ofString "_levenshtein_distance") 537, val := Value.ref 213 }, { hash := PyData.keyHash P (Str.ofString "_law_modes"), key := Value.str (Str.ofString "_law_modes") 545, val := Value.ref 218 }, { hash := PyData.keyHash P (Str.ofString "_law_told"), key := Value.str (Str.ofString "_law_told") 551, val := Value.ref 223 }, { hash := PyData.keyHash P (Str.ofString "_law_row"), key := Value.str (Str.ofString "_law_row") 562, val := Value.ref 230 }, { hash := PyData.keyHash P (Str.ofString "_law_due"), key := Value.str (Str.ofString "_law_due") 568, val := Value.ref 235 }, { hash := PyData.keyHash P (Str.ofString "law"), key := Value.str (Str.ofString "law") 577, val := Value.ref 242 }] 47 }) ::
 (nat_lit 70, { cls := Value.type "code", data := Data.fields #[Value.str (Str.ofString "unorderable_list_difference") 253, Value.str (Str.ofString "unorderable_list_difference") 254, Value.str (Str.ofString "/claim/cut.py") 255, Value.int 23 0, Value.int 2 0, Value.int 0 0, Value.int 0 0, Value.int 3 0, Value.ref 65, Value.bool Bool.true, Value.int 181 0, Value.ref 66, Value.none, Value.ref 67, Value.ref 68, Value.ref 69, Value.int 260 0, Value.int 23 0, Value.str (Str.ofString "/claim/cut.py") 261] }) ::
 (nat_lit 71, Obj.mk (Value.type "function") Option.none (Data.func (FuncData.mk (Str.ofString "unorderable_list_difference") (Str.ofString "unorderable_list_difference") (parIn (st 3)) (FuncBody.stmts (bodyIn (st 3))) (scopeIn (st 3)) 3 [] (Value.none) (Value.none) (Value.str (docIn (st 3)) 262) (Value.str (Str.ofString "cpy313.unittest.util") 194) Option.none (Value.ref 70) (Value.none) 0)) #[]) ::
 (nat_lit 72, { cls := Value.type "tuple", data := Data.seq #[Value.type "tuple"] }) ::
 (nat_lit 88, { cls := Value.type "code", data := Data.fields #[Value.str (Str.ofString "__new__") 285, Value.str (Str.ofString "Mismatch.__new__") 286, Value.str (Str.ofString "/claim/cut.py") 287, Value.int 43 0, Value.int 4 0, Value.int 0 0, Value.int 0 0, Value.int 3 0, Value.ref 83, Value.bool Bool.true, Value.int 181 0, Value.ref 84, Value.none, Value.ref 85, Value.ref 86, Value.ref 87, Value.int 292 0, Value.int 43 0, Value.str (Str.ofString "/claim/cut.py") 293] }) ::
 (nat_lit 89, Obj.mk (Value.type "function") Option.none (Data.func (FuncData.mk (Str.ofString "__new__") (Str.ofString "Mismatch.__new__") (parIn (st4 4)) (FuncBody.stmts (bodyIn (st4 4))) (scopeIn (st4 4)) 3 [] (Value.none) (Value.none) (Value.str (docIn (st4 4)) 294) (Value.str (Str.ofString "cpy313.unittest.util") 194) Option.none (Value.ref 88) (Value.none) 0)) #[]) ::
 (nat_lit 141, { cls := Value.type "dict", data := Data.dict #[{ hash := PyData.keyHash P (Str.ofString "__module__"), key := Value.str (Str.ofString "__module__") 271, val := Value.str (Str.ofString "cpy313.unittest.util") 194 }, { hash := PyData.keyHash P (Str.ofString "__firstlineno__"), key := Value.str (Str.ofString "__firstlineno__") 275, val := Value.int 37 274 }, { hash := PyData.keyHash P (Str.ofString "__doc__"), key := Value.str (Str.ofString "__doc__") 277, val := Value.str (Str.ofString "Mismatch(actual, expected, value)") 276 }, { hash := PyData.keyHash P (Str.ofString "__slots__"), key := Value.str (Str.ofString "__slots__") 279, val := Value.ref 80 }, { hash := PyData.keyHash P (Str.ofString "_fields"), key := Value.str (Str.ofString "_fields") 283, val := Value.ref 81 }, { hash := PyData.keyHash P (Str.ofString "_field_defaults"), key := Value.str (Str.ofString "_field_defaults") 284, val := Value.ref 82 }, { hash := PyData.keyHash P (Str.ofString "__new__"), key := Value.str (Str.ofString "__new__") 295, val := Value.ref 143 }, { hash := PyData.keyHash P (Str.ofString "_make"), key := Value.str (Str.ofString "_make") 317, val := Value.ref 98 }, { hash := PyData.keyHash P (Str.ofString "_replace"), key := Value.str (Str.ofString "_replace") 328, val := Value.ref 107 }, { hash := PyData.keyHash P (Str.ofString "__replace__"), key := Value.str (Str.ofString "__replace__") 329, val := Value.ref 107 }, { hash := PyData.keyHash P (Str.ofString "__repr__"), key := Value.str (Str.ofString "__repr__") 337, val := Value.ref 114 }, { hash := PyData.keyHash P (Str.ofString "_asdict"), key := Value.str (Str.ofString "_asdict") 344, val := Value.ref 121 }, { hash := PyData.keyHash P (Str.ofString "__getnewargs__"), key := Value.str (Str.ofString "__getnewargs__") 352, val := Value.ref 128 }, { hash := PyData.keyHash P (Str.ofString "__match_args__"), key := Value.str (Str.ofString "__match_args__") 356, val := Value.ref 129 }, { hash := PyData.keyHash P (Str.ofString "actual"), key := Value.str (Str.ofString "actual") 366, val := Value.ref 131 }, { hash := PyData.keyHash P (Str.ofString "expected"), key := Value.str (Str.ofString "expected") 376, val := Value.ref 134 }, { hash := PyData.keyHash P (Str.ofString "value"), key := Value.str (Str.ofString "value") 386, val := Value.ref 137 }, { hash := PyData.keyHash P (Str.ofString "__static_attributes__"), key := Value.str (Str.ofString "__static_attributes__") 387, val := Value.ref 139 }] 2 }) ::
 (nat_lit 142, { cls := Value.type "type", data := Data.cls { name := Str.ofString "Mismatch", bases := [Value.type "tuple"], mro := [Value.ref 142, Value.type "tuple", Value.type "object"], ns := 141, qualname := Str.ofString "Mismatch", hasDict := Bool.false }, slots := #[Option.some (Value.ref 72), Option.none, Option.some (Value.str (Str.ofString "Mismatch") 264), Option.some (Value.str (Str.ofString "Mismatch") 272), Option.some Value.none, Option.some (Value.bool Bool.false)] }) ::
 (nat_lit 143, { cls := Value.type "staticmethod", data := Data.fields #[Value.ref 89] }) ::
 (nat_lit 151, { cls := Value.type "code", data := Data.fields #[Value.str (Str.ofString "_count_diff_all_purpose") 393, Value.str (Str.ofString "_count_diff_all_purpose") 394, Value.str (Str.ofString "/claim/cut.py") 395, Value.int 81 0, Value.int 2 0, Value.int 0 0, Value.int 0 0, Value.int 3 0, Value.ref 146, Value.bool Bool.true, Value.int 181 0, Value.ref 147, Value.none, Value.ref 148, Value.ref 149, Value.ref 150, Value.int 411 0, Value.int 81 0, Value.str (Str.ofString "/claim/cut.py") 412] }) ::
 (nat_lit 152, Obj.mk (Value.type "function") Option.none (Data.func (FuncData.mk (Str.ofString "_count_diff_all_purpose") (Str.ofString "_count_diff_all_purpose") (parIn (st 6)) (FuncBody.stmts (bodyIn (st 6))) (scopeIn (st 6)) 3 [] (Value.none) (Value.none) (Value.str (docIn (st 6)) 413) (Value.str (Str.ofString "cpy313.unittest.util") 194) Option.none (Value.ref 151) (Value.none) 0)) #[]) ::
 (nat_lit 158, { cls := Value.type "code", data := Data.fields #[Value.str (Str.ofString "S_IFMT") 417, Value.str (Str.ofString "S_IFMT") 418, Value.str (Str.ofString "/claim/cut.py") 419, Value.int 114 0, Value.int 1 0, Value.int 0 0, Value.int 0 0, Value.int 3 0, Value.ref 153, Value.bool Bool.true, Value.int 181 0, Value.ref 154, Value.none, Value.ref 155, Value.ref 156, Value.ref 157, Value.int 421 0, Value.int 114 0, Value.str (Str.ofString "/claim/cut.py") 422] }) ::
 (nat_lit 159, Obj.mk (Value.type "function") Option.none (Data.func (FuncData.mk (Str.ofString "S_IFMT") (Str.ofString "S_IFMT") (parIn (st 8)) (FuncBody.stmts (bodyIn (st 8))) (scopeIn (st 8)) 3 [] (Value.none) (Value.none) (Value.str (docIn (st 8)) 423) (Value.str (Str.ofString "cpy313.stat") 415) Option.none (Value.ref 158) (Value.none) 0)) #[]) ::
 (nat_lit 160, { cls := Value.type "tuple", data := Data.seq #[Value.int 40960 435, Value.str (Str.ofString "l") 463] }) ::
 (nat_lit 161, { cls := Value.type "tuple", data := Data.seq #[Value.int 49152 437, Value.str (Str.ofString "s") 464] }) ::
 (nat_lit 162, { cls := Value.type "tuple", data := Data.seq #[Value.int 32768 431, Value.str (Str.ofString "-") 465] }) ::
 (nat_lit 163, { cls := Value.type "tuple", data := Data.seq #[Value.int 24576 429, Value.str (Str.ofString "b") 466] }) ::
 (nat_lit 164, { cls := Value.type "tuple", data := Data.seq #[Value.int 16384 425, Value.str (Str.ofString "d") 467] }) ::
 (nat_lit 165, { cls := Value.type "tuple", data := Data.seq #[Value.int 8192 427, Value.str (Str.ofString "c") 468] }) ::
 (nat_lit 166, { cls := Value.type "tuple", data := Data.seq #[Value.int 4096 433, Value.str (Str.ofString "p") 469] }) ::
 (nat_lit 167, { cls := Value.type "tuple", data := Data.seq #[Value.ref 160, Value.ref 161, Value.ref 162, Value.ref 163, Value.ref 164, Value.ref 165, Value.ref 166] }) ::
 (nat_lit 168, { cls := Value.type "tuple", data := Data.seq #[Value.int 256 445, Value.str (Str.ofString "r") 470] }) ::
 (nat_lit 169, { cls := Value.type "tuple", data := Data.seq #[Value.ref 168] }) ::
 (nat_lit 170, { cls := Value.type "tuple", data := Data.seq #[Value.int 128 447, Value.str (Str.ofString "w") 471] }) ::
 (nat_lit 171, { cls := Value.type "tuple", data := Data.seq #[Value.ref 170] }) ::
 (nat_lit 172, { cls := Value.type "tuple", data := Data.seq #[Value.int 2112 472, Value.str (Str.ofString "s") 473] }) ::
 (nat_lit 173, { cls := Value.type "tuple", data := Data.seq #[Value.int 2048 439, Value.str (Str.ofString "S") 474] }) ::
 (nat_lit 174, { cls := Value.type "tuple", data := Data.seq #[Value.int 64 449, Value.str (Str.ofString "x") 475] }) ::
 (nat_lit 175, { cls := Value.type "tuple", data := Data.seq #[Value.ref 172, Value.ref 173, Value.ref 174] }) ::
 (nat_lit 176, { cls := Value.type "tuple", data := Data.seq #[Value.int 32 451, Value.str (Str.ofString "r") 476] }) ::
 (nat_lit 177, { cls := Value.type "tuple", data := Data.seq #[Value.ref 176] }) ::
 (nat_lit 178, { cls := Value.type "tuple", data := Data.seq #[Value.int 16 453, Value.str (Str.ofString "w") 477] }) ::
 (nat_lit 179, { cls := Value.type "tuple", data := Data.seq #[Value.ref 178] }) ::
 (nat_lit 180, { cls := Value.type "tuple", data := Data.seq #[Value.int 1032 478, Value.str (Str.ofString "s") 479] }) ::
 (nat_lit 181, { cls := Value.type "tuple", data := Data.seq #[Value.int 1024 441, Value.str (Str.ofString "S") 480] }) ::
 (nat_lit 182, { cls := Value.type "tuple", data := Data.seq #[Value.int 8 455, Value.str (Str.ofString "x") 481] }) ::
 (nat_lit 183, { cls := Value.type "tuple", data := Data.seq #[Value.ref 180, Value.ref 181, Value.ref 182] }) ::
 (nat_lit 184, { cls := Value.type "tuple", data := Data.seq #[Value.int 4 457, Value.str (Str.ofString "r") 482] }) ::
 (nat_lit 185, { cls := Value.type "tuple", data := Data.seq #[Value.ref 184] }) ::
 (nat_lit 186, { cls := Value.type "tuple", data := Data.seq #[Value.int 2 459, Value.str (Str.ofString "w") 483] }) ::
 (nat_lit 187, { cls := Value.type "tuple", data := Data.seq #[Value.ref 186] }) ::
 (nat_lit 188, { cls := Value.type "tuple", data := Data.seq #[Value.int 513 484, Value.str (Str.ofString "t") 485] }) ::
 (nat_lit 189, { cls := Value.type "tuple", data := Data.seq #[Value.int 512 443, Value.str (Str.ofString "T") 486] }) ::
 (nat_lit 190, { cls := Value.type "tuple", data := Data.seq #[Value.int 1 461, Value.str (Str.ofString "x") 487] }) ::
 (nat_lit 191, { cls := Value.type "tuple", data := Data.seq #[Value.ref 188, Value.ref 189, Value.ref 190] }) ::
 (nat_lit 192, { cls := Value.type "tuple", data := Data.seq #[Value.ref 167, Value.ref 169, Value.ref 171, Value.ref 175, Value.ref 177, Value.ref 179, Value.ref 183, Value.ref 185, Value.ref 187, Value.ref 191] }) ::
 (nat_lit 198, { cls := Value.type "code", data := Data.fields #[Value.str (Str.ofString "filemode") 489, Value.str (Str.ofString "filemode") 490, Value.str (Str.ofString "/claim/cut.py") 491, Value.int 139 0, Value.int 1 0, Value.int 0 0, Value.int 0 0, Value.int 3 0, Value.ref 193, Value.bool Bool.true, Value.int 181 0, Value.ref 194, Value.none, Value.ref 195, Value.ref 196, Value.ref 197, Value.int 498 0, Value.int 139 0, Value.str (Str.ofString "/claim/cut.py") 499] }) ::
 (nat_lit 199, Obj.mk (Value.type "function") Option.none (Data.func (FuncData.mk (Str.ofString "filemode") (Str.ofString "filemode") (parIn (st 29)) (FuncBody.stmts (bodyIn (st 29))) (scopeIn (st 29)) 3 [] (Value.none) (Value.none) (Value.str (docIn (st 29)) 500) (Value.str (Str.ofString "cpy313.stat") 415) Option.none (Value.ref 198) (Value.none) 0)) #[]) ::
 (nat_lit 205, { cls := Value.type "code", data := Data.fields #[Value.str (Str.ofString "_substitution_cost") 510, Value.str (Str.ofString "_substitution_cost") 511, Value.str (Str.ofString "/claim/cut.py") 512, Value.int 161 0, Value.int 2 0, Value.int 0 0, Value.int 0 0, Value.int 3 0, Value.ref 200, Value.bool Bool.true, Value.int 181 0, Value.ref 201, Value.none, Value.ref 202, Value.ref 203, Value.ref 204, Value.int 515 0, Value.int 161 0, Value.str (Str.ofString "/claim/cut.py") 516] }) ::
 (nat_lit 206, Obj.mk (Value.type "function") Option.none (Data.func (FuncData.mk (Str.ofString "_substitution_cost") (Str.ofString "_substitution_cost") (parIn (st 34)) (FuncBody.stmts (bodyIn (st 34))) (scopeIn (st 34)) 3 [] (Value.none) (Value.none) Value.none (Value.str (Str.ofString "cpy313.traceback") 502) Option.none (Value.ref 205) (Value.none) 0)) #[]) ::
 (nat_lit 212, { cls := Value.type "code", data := Data.fields #[Value.str (Str.ofString "_levenshtein_distance") 518, Value.str (Str.ofString "_levenshtein_distance") 519, Value.str (Str.ofString "/claim/cut.py") 520, Value.int 167 0, Value.int 3 0, Value.int 0 0, Value.int 0 0, Value.int 3 0, Value.ref 207, Value.bool Bool.true, Value.int 181 0, Value.ref 208, Value.none, Value.ref 209, Value.ref 210, Value.ref 211, Value.int 535 0, Value.int 167 0, Value.str (Str.ofString "/claim/cut.py") 536] }) ::
 (nat_lit 213, Obj.mk (Value.type "function") Option.none (Data.func (FuncData.mk (Str.ofString "_levenshtein_distance") (Str.ofString "_levenshtein_distance") (parIn (st 35)) (FuncBody.stmts (bodyIn (st 35))) (scopeIn (st 35)) 3 [] (Value.none) (Value.none) Value.none (Value.str (Str.ofString "cpy313.traceback") 502) Option.none (Value.ref 212) (Value.none) 0)) #[]) ::
 (nat_lit 217, { cls := Value.type "code", data := Data.fields #[Value.str (Str.ofString "_law_modes") 540, Value.str (Str.ofString "_law_modes") 541, Value.str (Str.ofString "/claim/cut.py") 542, Value.int 206 0, Value.int 1 0, Value.int 0 0, Value.int 0 0, Value.int 3 0, Value.ref 214, Value.bool Bool.true, Value.int 181 0, Value.ref 215, Value.none, Value.none, Value.none, Value.ref 216, Value.int 543 0, Value.int 206 0, Value.str (Str.ofString "/claim/cut.py") 544] }) ::
 (nat_lit 218, Obj.mk (Value.type "function") Option.none (Data.func (FuncData.mk (Str.ofString "_law_modes") (Str.ofString "_law_modes") (parIn (st 37)) (FuncBody.stmts (bodyIn (st 37))) (scopeIn (st 37)) 3 [] (Value.none) (Value.none) Value.none (Value.str (Str.ofString "law_oy0181_01") 538) Option.none (Value.ref 217) (Value.none) 0)) #[]) ::
 (nat_lit 222, { cls := Value.type "code", data := Data.fields #[Value.str (Str.ofString "_law_told") 546, Value.str (Str.ofString "_law_told") 547, Value.str (Str.ofString "/claim/cut.py") 548, Value.int 208 0, Value.int 2 0, Value.int 0 0, Value.int 0 0, Value.int 3 0, Value.ref 219, Value.bool Bool.true, Value.int 181 0, Value.ref 220, Value.none, Value.none, Value.none, Value.ref 221, Value.int 549 0, Value.int 208 0, Value.str (Str.ofString "/claim/cut.py") 550] }) ::
 (nat_lit 223, Obj.mk (Value.type "function") Option.none (Data.func (FuncData.mk (Str.ofString "_law_told") (Str.ofString "_law_told") (parIn (st 38)) (FuncBody.stmts (bodyIn (st 38))) (scopeIn (st 38)) 3 [] (Value.none) (Value.none) Value.none (Value.str (Str.ofString "law_oy0181_01") 538) Option.none (Value.ref 222) (Value.none) 0)) #[]) ::
 (nat_lit 229, { cls := Value.type "code", data := Data.fields #[Value.str (Str.ofString "_law_row") 552, Value.str (Str.ofString "_law_row") 553, Value.str (Str.ofString "/claim/cut.py") 554, Value.int 215 0, Value.int 1 0, Value.int 0 0, Value.int 0 0, Value.int 3 0, Value.ref 224, Value.bool Bool.true, Value.int 181 0, Value.ref 225, Value.none, Value.ref 226, Value.ref 227, Value.ref 228, Value.int 560 0, Value.int 215 0, Value.str (Str.ofString "/claim/cut.py") 561] }) ::
 (nat_lit 230, Obj.mk (Value.type "function") Option.none (Data.func (FuncData.mk (Str.ofString "_law_row") (Str.ofString "_law_row") (parIn (st 39)) (FuncBody.stmts (bodyIn (st 39))) (scopeIn (st 39)) 3 [] (Value.none) (Value.none) Value.none (Value.str (Str.ofString "law_oy0181_01") 538) Option.none (Value.ref 229) (Value.none) 0)) #[]) ::
 (nat_lit 234, { cls := Value.type "code", data := Data.fields #[Value.str (Str.ofString "_law_due") 563, Value.str (Str.ofString "_law_due") 564, Value.str (Str.ofString "/claim/cut.py") 565, Value.int 222 0, Value.int 2 0, Value.int 0 0, Value.int 0 0, Value.int 3 0, Value.ref 231, Value.bool Bool.true, Value.int 181 0, Value.ref 232, Value.none, Value.none, Value.none, Value.ref 233, Value.int 566 0, Value.int 222 0, Value.str (Str.ofString "/claim/cut.py") 567] }) ::
 (nat_lit 235, Obj.mk (Value.type "function") Option.none (Data.func (FuncData.mk (Str.ofString "_law_due") (Str.ofString "_law_due") (parIn (st 40)) (FuncBody.stmts (bodyIn (st 40))) (scopeIn (st 40)) 3 [] (Value.none) (Value.none) Value.none (Value.str (Str.ofString "law_oy0181_01") 538) Option.none (Value.ref 234) (Value.none) 0)) #[]) ::
 (nat_lit 241, { cls := Value.type "code", data := Data.fields #[Value.str (Str.ofString "law") 569, Value.str (Str.ofString "law") 570, Value.str (Str.ofString "/claim/cut.py") 571, Value.int 233 0, Value.int 1 0, Value.int 0 0, Value.int 0 0, Value.int 3 0, Value.ref 236, Value.bool Bool.true, Value.int 181 0, Value.ref 237, Value.none, Value.ref 238, Value.ref 239, Value.ref 240, Value.int 575 0, Value.int 233 0, Value.str (Str.ofString "/claim/cut.py") 576] }) ::
 (nat_lit 242, Obj.mk (Value.type "function") Option.none (Data.func (FuncData.mk (Str.ofString "law") (Str.ofString "law") (parIn (st 41)) (FuncBody.stmts (bodyIn (st 41))) (scopeIn (st 41)) 3 [] (Value.none) (Value.none) Value.none (Value.str (Str.ofString "law_oy0181_01") 538) Option.none (Value.ref 241) (Value.none) 0)) #[]) :: []
def asK : List Addr := [nat_lit 2, nat_lit 3, nat_lit 70, nat_lit 71, nat_lit 72, nat_lit 88, nat_lit 89, nat_lit 141, nat_lit 142, nat_lit 143, nat_lit 151, nat_lit 152, nat_lit 158, nat_lit 159, nat_lit 160, nat_lit 161, nat_lit 162, nat_lit 163, nat_lit 164, nat_lit 165, nat_lit 166, nat_lit 167, nat_lit 168, nat_lit 169, nat_lit 170, nat_lit 171, nat_lit 172, nat_lit 173, nat_lit 174, nat_lit 175, nat_lit 176, nat_lit 177, nat_lit 178, nat_lit 179, nat_lit 180, nat_lit 181, nat_lit 182, nat_lit 183, nat_lit 184, nat_lit 185, nat_lit 186, nat_lit 187, nat_lit 188, nat_lit 189, nat_lit 190, nat_lit 191, nat_lit 192, nat_lit 198, nat_lit 199, nat_lit 205, nat_lit 206, nat_lit 212, nat_lit 213, nat_lit 217, nat_lit 218, nat_lit 222, nat_lit 223, nat_lit 229, nat_lit 230, nat_lit 234, nat_lit 235, nat_lit 241, nat_lit 242]
noncomputable def hookK : Hook := kHook KK asK (fun _ => by kernel_rfl)
/-- the view: the law alone; all else is loose -/
def viewQ : Program := { PW with main := { PW.main with body := [st 41] } }
def looseQ : List Str := (PW.main.scope.names.map (·.1)).filter fun x => !(x == Str.ofString "law")

theorem of_boot {p q : Program} {loose : List Str} {Xt : Shared → Bool} {α : Type} {Yf : Shared → α} {Ya : World → α} {N : Nat} {g0 : Bool}
    (open_ : ∀ w : World, (fencedOpening treeTable p w N).map (fun s => (s.heap, s.gens, s.drawn, s.toks)) = some (boot_heap w.params, #[], boot_drawn, boot_toks))
    (h : ∀ w os, (topFrom treeTable p w N ⟨boot_heap w.params, #[], boot_drawn, boot_toks, os⟩).map (fun s => (openSeen q loose (importedModules p.main.body) Xt g0 s, Yf s)) = some (openGood q loose, Ya w)) :
    LeftO p q loose Xt Yf Ya N g0 := fun w => by
  obtain ⟨⟨h', gs, d, k, os⟩, e, e'⟩ := Option.map_eq_some_iff.mp (open_ w)
  obtain ⟨rfl, rfl, rfl, rfl⟩ : h' = boot_heap w.params ∧ gs = #[] ∧ d = boot_drawn ∧ k = boot_toks := by simpa using e'
  unfold openEnds
  rw [e]
  exact h w os
theorem opens : ∀ w : World, (fencedOpening treeTable PW w 4444).map (fun s => (s.heap, s.gens, s.drawn, s.toks)) = some (boot_heap w.params, #[], boot_drawn, boot_toks) :=
  boot_open (by kernel_rfl) (by decide +kernel) (fun _ => by kernel_rfl)
theorem topSeen : ∀ w os, (topFrom treeTable PW w 4444 ⟨boot_heap w.params, #[], boot_drawn, boot_toks, os⟩).map (fun s => (openSeen viewQ looseQ (importedModules PW.main.body) (fun s => recOk (RowW.records RT) s) true s, hookK.obs s)) = some (openGood viewQ looseQ, hookK.val w) := by
  unfold topFrom
  rw [Fast.te14082659384304107361, Fast.te14364793385576792824, Fast.te4187177175401517315]
  intro w os
  kernel_rfl
theorem said : OpenLaw.wellSaid PySem.Challenge.rw_oy0181_01 = true := by kernel_rfl
def posIn : Stmt → Pos
  | .FunctionDef _ _ _ _ _ _ _ _ _ p => p
  | _ => ⟨0, 0, 0, 0⟩
def dLaw : DefRec := { name := Str.ofString "law", params := parIn (st 41), body := bodyIn (st 41), scope := scopeIn (st 41), pos := posIn (st 41) }
theorem seenLeft : LeftO RT.prog viewQ looseQ (fun s => recOk RT.records s) hookK.obs hookK.val 4444 := of_boot opens topSeen
theorem hdl (walk : WalkO viewQ looseQ (fun _ _ => True) hookK.says RT dLaw [] fun f vs => PySem.call f vs) : PySem.Challenge.rw_oy0181_01.Holds := by
  refine holds_law said fun ok => ?_
  refine holds_open (q := viewQ) (loose := looseQ) (Xt := fun s => recOk RT.records s) (XP := fun _ _ => True) (Yf := hookK.obs) (Ya := hookK.val) (YP := hookK.says) (N := 4444) (d := dLaw) (kwd := [])
    seenLeft hookK.of hookK.keeps (fun _ _ => trivial) (fun _ _ _ _ _ => trivial) (by kernel_rfl) (by kernel_rfl) (by kernel_rfl) (fun s e => recFacts_of e) (by kernel_rfl) ok (by decide +kernel)
    ⟨rfl, rfl, rfl, rfl, rfl, by decide +kernel⟩ ?_ walk
  exact ⟨[.list []], by decide +kernel, by decide +kernel⟩
end Mine
end
section
open PySem PySem.W PyProof.Rows PySem.Calls
set_option Elab.async false
namespace Mine
/-! the places at which the walk is to stop: each is the thing itself, to be tried by its form -/
theorem at1 : ∀ {x1 x2 x3 x4 x5 x6 x7 x8 x9 x10}, wpAny x1 x2 (exec (Stmt.While x3 x4 x5 x6) x7) x8 x9 x10 → wpAny x1 x2 (exec (Stmt.While x3 x4 x5 x6) x7) x8 x9 x10 := fun h => h
theorem at2 : ∀ {x1 x2 x3 x4 x5 x6 x7 x8 x9 x10 x11}, wpAny x1 x2 (exec (Stmt.For x3 x4 x5 x6 x7) x8) x9 x10 x11 → wpAny x1 x2 (exec (Stmt.For x3 x4 x5 x6 x7) x8) x9 x10 x11 := fun h => h
theorem at3 : ∀ {x1 x2 x3 x4 x5 x6 x7 x8 x9 x10 x11}, wpAny x1 x2 (exec (Stmt.Try x3 x4 x5 x6 x7) x8) x9 x10 x11 → wpAny x1 x2 (exec (Stmt.Try x3 x4 x5 x6 x7) x8) x9 x10 x11 := fun h => h
theorem at4 : ∀ {x1 x2 x3 x4 x5 x6 x7 x8}, wpAny x1 x2 (PySem.call x3 x4 x5) x6 x7 x8 → wpAny x1 x2 (PySem.call x3 x4 x5) x6 x7 x8 := fun h => h
theorem at5 : ∀ {x1 x2 x3 x4 x5 x6 x7 x8}, wpAny x1 x2 (PySem.call (Value.ref x3) x4 x5) x6 x7 x8 → wpAny x1 x2 (PySem.call (Value.ref x3) x4 x5) x6 x7 x8 := fun h => h
theorem at6 : ∀ {x1 x2 x3 x4 x5 x6 x7 x8 x9}, wpAny x1 x2 (subscriptTail x3 x4 x5 x6) x7 x8 x9 → wpAny x1 x2 (subscriptTail x3 x4 x5 x6) x7 x8 x9 := fun h => h
theorem at7 : ∀ {x1 x2 x3 x4 x5 x6 x7}, wpAny x1 x2 (compareOp CmpOp.Eq x3 x4) x5 x6 x7 → wpAny x1 x2 (compareOp CmpOp.Eq x3 x4) x5 x6 x7 := fun h => h
theorem at8 : ∀ {x1 x2 x3 x4 x5 x6 x7 x8}, wpAny x1 x2 (setItem x3 x4 x5) x6 x7 x8 → wpAny x1 x2 (setItem x3 x4 x5) x6 x7 x8 := fun h => h
theorem at9 : ∀ {x1 x2 x3 x4 x5 x6 x7}, wpAny x1 x2 (PySem.call (Value.builtin "list.append") x3 x4) x5 x6 x7 → wpAny x1 x2 (PySem.call (Value.builtin "list.append") x3 x4) x5 x6 x7 := fun h => h
theorem at10 : ∀ {x1 x2 x3 x4 x5 x6 x7}, wpAny x1 x2 (PySem.call (Value.builtin "str.join") x3 x4) x5 x6 x7 → wpAny x1 x2 (PySem.call (Value.builtin "str.join") x3 x4) x5 x6 x7 := fun h => h
theorem at11 : ∀ {x1 x2 x3 x4 x5 x6}, wpAny x1 x2 (pyIter (Value.ref x3)) x4 x5 x6 → wpAny x1 x2 (pyIter (Value.ref x3)) x4 x5 x6 := fun h => h
theorem at12 : ∀ {x1 x2 x3 x4 x5 x6 x7 x8 x9 x10}, wpAny x1 x2 (subscriptTail x3 x4 x5 (Value.int x6 x7)) x8 x9 x10 → wpAny x1 x2 (subscriptTail x3 x4 x5 (Value.int x6 x7)) x8 x9 x10 := fun h => h
theorem at13 : ∀ {x1 x2 x3 x4 x5 x6 x7 x8 x9 x10 x11}, wpAny x1 x2 (execs (Stmt.If x3 x4 x5 x6 :: x7) x8) x9 x10 x11 → wpAny x1 x2 (execs (Stmt.If x3 x4 x5 x6 :: x7) x8) x9 x10 x11 := fun h => h
theorem at14 : ∀ {x1 x2 x3 x4 x5 x6 x7 x8 x9 x10}, wpAny x1 x2 (eval (Expr.ListComp x3 x4 x5 x6) x7) x8 x9 x10 → wpAny x1 x2 (eval (Expr.ListComp x3 x4 x5 x6) x7) x8 x9 x10 := fun h => h
theorem at15 : ∀ {x1 x2 x3 x4 x5 x6 x7 x8 x9}, wpAny x1 x2 (subscriptTail x3 x4 (Value.ref x5) (Value.ref x6)) x7 x8 x9 → wpAny x1 x2 (subscriptTail x3 x4 (Value.ref x5) (Value.ref x6)) x7 x8 x9 := fun h => h
theorem at16 : ∀ {x1 x2 x3 x4 x5 x6 x7 x8}, wpAny x1 x2 (binaryOp x3 (Value.ref x4) (Value.ref x5)) x6 x7 x8 → wpAny x1 x2 (binaryOp x3 (Value.ref x4) (Value.ref x5)) x6 x7 x8 := fun h => h
theorem at17 : ∀ {x1 x2 x3 x4 x5 x6 x7 x8 x9 x10 x11 x12}, wpAny x1 x2 (exec (Stmt.Assign x3 (Expr.ListComp x4 x5 x6 x7) x8) x9) x10 x11 x12 → wpAny x1 x2 (exec (Stmt.Assign x3 (Expr.ListComp x4 x5 x6 x7) x8) x9) x10 x11 x12 := fun h => h
theorem at18 : ∀ {x1 x2 x3 x4 x5 x6 x7}, wpAny x1 x2 (PySem.call (Value.type "tuple") x3 x4) x5 x6 x7 → wpAny x1 x2 (PySem.call (Value.type "tuple") x3 x4) x5 x6 x7 := fun h => h
theorem at19 : ∀ {x1 x2 x3 x4 x5 x6 x7}, wpAny x1 x2 (PySem.call (Value.type "zip") x3 x4) x5 x6 x7 → wpAny x1 x2 (PySem.call (Value.type "zip") x3 x4) x5 x6 x7 := fun h => h
theorem at20 : ∀ {x1 x2 x3 x4 x5 x6 x7}, wpAny x1 x2 (PySem.call (Value.builtin "sorted") x3 x4) x5 x6 x7 → wpAny x1 x2 (PySem.call (Value.builtin "sorted") x3 x4) x5 x6 x7 := fun h => h
theorem at21 : ∀ {x1 x2 x3 x4 x5 x6 x7}, wpAny x1 x2 (PySem.call (Value.builtin "len") x3 x4) x5 x6 x7 → wpAny x1 x2 (PySem.call (Value.builtin "len") x3 x4) x5 x6 x7 := fun h => h
theorem at22 : ∀ {x1 x2 x3 x4 x5 x6 x7}, wpAny x1 x2 (PySem.call (Value.builtin "list.count") x3 x4) x5 x6 x7 → wpAny x1 x2 (PySem.call (Value.builtin "list.count") x3 x4) x5 x6 x7 := fun h => h
theorem at23 : ∀ {x1 x2 x3 x4 x5 x6 x7}, wpAny x1 x2 (compareOp CmpOp.NotIn x3 x4) x5 x6 x7 → wpAny x1 x2 (compareOp CmpOp.NotIn x3 x4) x5 x6 x7 := fun h => h
theorem at24 : ∀ {x1 x2 x3 x4 x5 x6 x7}, wpAny x1 x2 (compareOp CmpOp.NotEq x3 x4) x5 x6 x7 → wpAny x1 x2 (compareOp CmpOp.NotEq x3 x4) x5 x6 x7 := fun h => h
theorem at25 : ∀ {x1 x2 x3 x4 x5 x6 x7 x8 x9}, wpAny x1 x2 (binaryOp x3 (Value.ref x4) (Value.int x5 x6)) x7 x8 x9 → wpAny x1 x2 (binaryOp x3 (Value.ref x4) (Value.int x5 x6)) x7 x8 x9 := fun h => h
theorem at26 : ∀ {x1 x2 x3 x4 x5 x6 x7}, wpAny x1 x2 (PySem.call (Value.builtin "sum") x3 x4) x5 x6 x7 → wpAny x1 x2 (PySem.call (Value.builtin "sum") x3 x4) x5 x6 x7 := fun h => h
theorem at27 : ∀ {x1 x2 x3 x4 x5 x6 x7}, wpAny x1 x2 (compareOp CmpOp.Eq (Value.ref x3) (Value.ref x4)) x5 x6 x7 → wpAny x1 x2 (compareOp CmpOp.Eq (Value.ref x3) (Value.ref x4)) x5 x6 x7 := fun h => h
theorem at28 : ∀ {x1 x2 x3 x4 x5 x6 x7 x8 x9 x10 x11 x12}, wpAny x1 x2 (subscriptTail (Expr.Name x3 x4) (Expr.Slice none (some x5) none x6) (Value.str x7 x8) (Value.ref x9)) x10 x11 x12 → wpAny x1 x2 (subscriptTail (Expr.Name x3 x4) (Expr.Slice none (some x5) none x6) (Value.str x7 x8) (Value.ref x9)) x10 x11 x12 := fun h => h
end Mine
end
section
open PySem PySem.W PyProof.Rows PySem.Calls
set_option Elab.async false
set_option maxRecDepth 100000
set_option maxHeartbeats 8000000
namespace Mine

abbrev Ar (dp un : Nat) (gd : Option (List Code)) (fr : Option (List Env)) : Around := { handled := none, depth := dp, frames := fr, guards := gd, units := un }

section
variable {prog : Program} {w : World} {A : Around} {s : Shared} {h₀ : Heap} {K : Frag} {p : Program} {loose : List Str} {mean : ExcName → Option Value} {mg mb : Str → Option Value}
  {name qual : Str} {params params₀ : Arguments} {body body₀ : List Stmt} {scope scope₀ : Scope} {dV kV doc pm cdv ct oc : Value} {an od : Option Addr} {osl : Array (Option Value)} {f : Addr} {pos : List Value} {binds : List (Str × Value)}
  {Q E : Value → Shared → Prop}

/-- a call of a def of the text: the callee's base is the heap without the touched objects -/
theorem callM (touched : List (Addr × Obj)) (X : K.In h₀) (T : Top p loose mean mg mb h₀) (hk : h₀.StaysIn s.heap) (ht : ∀ q ∈ touched, s.heap.get? q.1 = some q.2 ∧ h₀.get? q.1 = none)
    (ho : K.lookup f = some ⟨oc, od, .func (fnOf name qual params₀ body₀ scope₀ dV kV doc pm an cdv ct), osl⟩) (ep : params₀ = params) (eb : body₀ = body) (es : scope₀ = scope) (hcd : codeIn K cdv qual = true) (hroom : A.depth < recursionLimit)
    (hbind : BindsTo s (fnOf name qual params body scope dV kV doc pm an cdv ct) ⟨pos, []⟩ binds) (hloc : ∀ y ∈ binds, scope.names.lookup y.1 = some .local)
    (h : ∀ g L' h₁, Fr g L' h₁ (fun y => binds.reverse.lookup y) → News g L' h₁ touched → K.In g → Top p loose mean mg mb g → (∀ q ∈ touched, q.1 < L') →
      (∀ b o, s.heap.get? b = some o → b ∉ touched.map Prod.fst → g.get? b = some o) →
      wpAny (model prog w) (A.deeper (envOf qual scope L' f cdv)) (execs body (envOf qual scope L' f cdv))
        (fun fl s' => Q (match fl with | .ret v => v | _ => .none) s') (fun _ _ => False)
        { s with heap := h₁, toks := s.toks + binds.length })
    (hcell : ∀ x ∈ scope.names, x.2 ≠ .cell) (hco : scope.isCoroutine = false := by rfl) (hgen : scope.isGenerator = false := by rfl) (hkf : scope.kind = .function := by rfl) :
    wpAny (model prog w) A (call (.ref f) pos []) Q E s := by
  subst ep eb es
  have st : h₀.StaysIn (hideAll s.heap (touched.map Prod.fst)) := fun b o e => hideAll_get _ (hk b o e) fun q => by
    obtain ⟨x, hx, rfl⟩ := List.mem_map.mp q
    rw [(ht x hx).2] at e; cases e
  refine wpAny_call (codeAny_call_def (fd := fnOf name qual params₀ body₀ scope₀ dV kV doc pm an cdv ct) (body := body₀) (binds := binds) hroom (hk _ _ (X _ _ ho)) rfl (T.nolimit.keeps hk) (codeRec_of (X.keeps hk) hcd) rfl hbind hcell hloc (fun h₁ hns hk₁ => ?_) hco hgen hkf)
  refine wpAny_mono (h (hideAll s.heap (touched.map Prod.fst)) s.heap.objs.size h₁ ⟨hns, fun b o e => hk₁ b o (of_hideAll _ e), Nat.le_of_eq (hideAll_size _ _)⟩
    (fun q hq => ⟨hk₁ _ _ (ht q hq).1, Nat.ne_of_lt (Heap.lt_size (ht q hq).1), hideAll_none _ (List.mem_map_of_mem hq)⟩) (X.keeps st) (T.keeps st) (fun q hq => Heap.lt_size (ht q hq).1)
    (fun b o e n => hideAll_get _ e n)) (fun fl s' hq => hq) fun _ _ x => x.elim

end


section
variable {prog : Program} {w : World} {A : Around} {s : Shared} {env : Env}
/-- a while by an invariant and a measure; nothing leaves it by a raise -/
theorem whileM {test : Expr} {body orelse : List Stmt} {pos : Pos} {Q : Flow → Shared → Prop} (I : Nat → Shared → Prop)
    (turn : ∀ n s, I n s → wpAny (model prog w) A (isTrue test env (eval test env)) (fun b s₂ =>
      if b then wpAny (model prog w) A (execs body env) (fun f s₃ => match f with
          | .next | .cont => ∃ m, m < n ∧ I m s₃
          | .brk => Q .next s₃
          | .ret v => Q (.ret v) s₃) (fun _ _ => False) s₂
      else wpAny (model prog w) A (execs orelse env) Q (fun _ _ => False) s₂) (fun _ _ => False) s)
    (n : Nat) (h : I n s) : wpAny (model prog w) A (exec (.While test body orelse pos) env) Q (fun _ _ => False) s := by
  refine wpAny_While (codeAny_whileLoop I (fun n s hI => ?_) n h)
  refine wpAny_mono (turn n s hI) (fun b s₂ hb => ?_) fun _ _ x => x.elim
  cases b with
  | false =>
    rw [if_neg (by decide)] at hb ⊢
    exact wpAny_mono hb (fun _ _ x => x) fun _ _ x => x.elim
  | true =>
    rw [if_pos rfl] at hb ⊢
    refine wpAny_mono hb (fun f s₃ x => ?_) fun _ _ x => x.elim
    cases f <;> exact x

/-- the start of one turn of a for -/
def ForTurn (prog : Program) (w : World) (A : Around) (env : Env) (target : Expr) (it : Value) (Pn Ps : Shared → Prop) (s : Shared) : Prop :=
  wpAny (model prog w) A (pyNext it) (fun r s₁ => match r with
    | none => Pn s₁
    | some v => wpAny (model prog w) A (letOwnedTupleGo target it v) (fun _ s₁' => wpAny (model prog w) A (assign target env v) (fun _ s₂ => Ps s₂) (fun _ _ => False) s₁') (fun _ _ => False) s₁) (fun _ _ => False) s

/-- a for by an invariant and a measure; nothing leaves it by a raise -/
theorem forM {target iter : Expr} {body orelse : List Stmt} {pos : Pos} {Q : Flow → Shared → Prop}
    (h : wpAny (model prog w) A (eval iter env) (fun x s₁ => wpAny (model prog w) A (pyIter x) (fun it s₂ => ∃ (I : Nat → Shared → Prop) (n : Nat), I n s₂ ∧
      ∀ n s, I n s → ForTurn prog w A env target it (fun s₁ => wpAny (model prog w) A (execs orelse env) Q (fun _ _ => False) s₁)
        (fun s₂ => wpAny (model prog w) A (execs body env) (fun f s₃ => match f with
            | .next | .cont => ∃ m, m < n ∧ I m s₃
            | .brk => Q .next s₃
            | .ret v => Q (.ret v) s₃) (fun _ _ => False) s₂) s) (fun _ _ => False) s₁) (fun _ _ => False) s)
    (hs : ∀ x, foldedSetIterable iter env x = pure x := by intro _; rfl) :
    wpAny (model prog w) A (exec (.For target iter body orelse pos) env) Q (fun _ _ => False) s := by
  refine wpAny_For (wpAny_mono h (fun x s₁ h₁ => wpAny_mono h₁ (fun it s₂ h₂ => ?_) fun _ _ x => x) fun _ _ x => x) hs
  obtain ⟨I, n, h0, turn⟩ := h₂
  refine codeAny_forLoop_any I (fun n s hI => ?_) n h0
  refine wpAny_mono (turn n s hI) (fun r s₁ hr => ?_) fun _ _ x => x.elim
  cases r with
  | none => exact wpAny_mono hr (fun _ _ x => x) fun _ _ x => x.elim
  | some v =>
    refine wpAny_mono hr (fun _ s₁' h1 => ?_) fun _ _ x => x.elim
    refine wpAny_mono h1 (fun _ s₂ h2 => ?_) fun _ _ x => x.elim
    refine wpAny_mono h2 (fun f s₃ x => ?_) fun _ _ x => x.elim
    cases f <;> exact x
end

theorem lkI {y k : Str} {v : Value} {r : List (Str × Value)} : List.lookup y ((k, v) :: r) = if y = k then some v else List.lookup y r := by
  by_cases q : y = k
  · subst q; simp [List.lookup]
  · have : (y == k) = false := by simpa using q
    simp [List.lookup, this, q]
theorem Fr.congr {h₀ h : Heap} {L : Addr} {m m' : Str → Option Value} (F : Fr h₀ L h m) (e : ∀ y, m y = m' y) : Fr h₀ L h m' := by
  have : m = m' := funext e
  exact this ▸ F

theorem Fr.know {h₀ h : Heap} {L : Addr} {m : Str → Option Value} {x : Str} {v : Value} (F : Fr h₀ L h m) (e : m x = some v) : Fr h₀ L h (fun y => if y = x then some v else m y) :=
  Fr.congr F fun y => by
    by_cases q : y = x
    · subst q; simp [e]
    · simp [q]
theorem fillup : PySem.Challenge.rw_oy0181_01 = PySem.Challenge.rw_oy0181_01 ∧ KK = KK := by k_fill; exact ⟨rfl, rfl⟩
end Mine
end
section
open PySem PySem.W PyProof.Rows PySem.Calls Builtin
set_option Elab.async false
set_option maxRecDepth 100000
set_option maxHeartbeats 8000000
namespace Mine
theorem ty_type : PySem.typeOf (.type "tuple") = pure (.type "type") := by kernel_rfl
theorem ty_stub : Manifest.isStub "tuple" = false := by decide +kernel
theorem ty_fc (w : World) : findCls (KK w.params) (.type "tuple") (.type "type") "__new__" = some (.val (.builtin "tuple.__new__")) := by kernel_rfl
theorem pk_check (S : Setting) (P : Params) (D : Addr) : peek (KK P) S (checkBuiltinCall "tuple.__new__" ⟨[.ref 142, .ref D], []⟩) = some () := by kernel_rfl
theorem pk_istype (S : Setting) (P : Params) : peek (KK P) S (PySem.isType (.ref 142)) = some true := by kernel_rfl
theorem pk_sub (S : Setting) (P : Params) : peek (KK P) S (isSubtype (.ref 142) (.type "tuple")) = some true := by kernel_rfl
theorem pk_here (S : Setting) (P : Params) : peek (KK P) S (Bind.madeHere "tuple.__new__" (.ref 142)) = some () := by kernel_rfl
theorem pk_init (S : Setting) (P : Params) : peek (KK P) S (typeLookup (.ref 142) "__init__") = some (some (.builtin "object.__init__")) := by kernel_rfl
theorem pk_made (S : Setting) (P : Params) : peek (KK P) S (Bind.madeBy (.ref 142)) = some none := by kernel_rfl
theorem pk_mro (S : Setting) (P : Params) : peek (KK P) S (mroOf (.ref 142)) = some [.ref 142, .type "tuple", .type "object"] := by kernel_rfl
theorem pk_self (S : Setting) (P : Params) : peek (KK P) S (isSubtype (.ref 142) (.ref 142)) = some true := by kernel_rfl
theorem pk_obj (S : Setting) (P : Params) : peek (KK P) S (isSubtype (.ref 142) (.type "object")) = some true := by kernel_rfl
theorem tn_plain : plainId "tuple.__new__" = true := by decide +kernel
end Mine
end
section
open PySem PySem.W PyProof.Rows PySem.Calls Builtin
set_option Elab.async false
set_option maxRecDepth 100000
set_option maxHeartbeats 8000000
set_option profiler true
set_option profiler.threshold 1500
namespace Mine
theorem fillup2 : PySem.Challenge.rw_oy0181_01 = PySem.Challenge.rw_oy0181_01 ∧ KK = KK := by k_fill; exact ⟨rfl, rfl⟩
variable {prog : Program} {w : World} {p : Program} {loose : List Str} {mean : ExcName → Option Value} {mg mb : Str → Option Value}

abbrev mmObj (a b c : Value) (dx : Addr) : Obj := { cls := .ref 142, dict := some dx, data := .seq #[a, b, c] }

theorem tn_new {A : Around} {s : Shared} {Q E : Value → Shared → Prop} {a b c : Value} {D : Addr} {o : Obj} {n : Nat} (X : (KK w.params).In s.heap)
    (ho : s.heap.get? D = some o) (hc : o.cls = .type "tuple") (hd' : o.data = .seq #[a, b, c] n)
    (hQ : ∀ h' : Heap, (∀ b o', s.heap.get? b = some o' → h'.get? b = some o') → Q (.ref (h'.objs.size + 1)) { s with heap := (h'.push { cls := .type "dict", data := .dict #[] }).push (mmObj a b c h'.objs.size) }) :
    wpAny (model prog w) A (PySem.call (.builtin "tuple.__new__") [.ref 142, .ref D]) Q E s := by
  obtain ⟨h, g, d, t, os⟩ := s
  dsimp only at *
  have L0 : Looks (model prog w) h (checkBuiltinCall "tuple.__new__" ⟨[.ref 142, .ref D], []⟩) () := Looks.of_peek X (pk_check _ _ _)
  have L1 : Looks (model prog w) h (PySem.isType (.ref 142)) true := Looks.of_peek X (pk_istype _ _)
  have L2 : Looks (model prog w) h (isSubtype (.ref 142) (.type "tuple")) true := Looks.of_peek X (pk_sub _ _)
  have L3 : Looks (model prog w) h (Bind.madeHere "tuple.__new__" (.ref 142)) () := Looks.of_peek X (pk_here _ _)
  have L4 : Looks (model prog w) h (typeLookup (.ref 142) "__init__") (some (.builtin "object.__init__")) := Looks.of_peek X (pk_init _ _)
  refine wpAny_call (codeAny_call_builtin tn_plain PySem.F.entry_tuple_new (L0.at ?_))
  unfold Builtin.«tuple.__new__»
  dsimp only
  refine wpAny_bind (L1.at ?_)
  rw [if_neg (by decide)]
  refine wpAny_bind (L2.at ?_)
  rw [if_neg (by decide)]
  refine wpAny_bind (L3.at ?_)
  refine wpAny_bind (L4.at ?_)
  rw [if_pos (by rfl)]
  refine wpAny_bind (wpAny_of_eq (a := ()) (by rfl) ?_)
  refine wpAny_bind (wpAny_of_eq (a := ()) (by rfl) ?_)
  rw [if_neg (by decide)]
  refine wpAny_bind (wpAny_collect_seq D (.inr rfl) ho hc hd' (fun h' hk => ?_) (by size_fits))
  refine wpAny_bind (wpAny_pure ?_)
  refine wpAny_bind (wpAny_alloc ?_)
  refine wpAny_bind ?_
  unfold newObj
  dsimp only
  rw [if_neg (show ¬ (#[a, b, c].size > sizeLine) from (by decide : ¬ (3 > sizeLine)))]
  unfold newObjAsIs classHasDel
  refine wpAny_bind (wpAny_alloc ?_)
  dsimp only
  refine wpAny_bind (wpAny_bind (wpAny_load (Heap.get?_push_of_some _ (Heap.get?_push_of_some _ (hk _ _ (X 142 _ (by k_is))))) ?_))
  refine wpAny_pure ?_
  refine wpAny_pure (wpAny_pure ?_)
  have := hQ h' hk
  rw [show (h'.push { cls := .type "dict", data := .dict #[] }).objs.size = h'.objs.size + 1 from Heap.size_push ..]
  exact this

theorem oi_args4 (a b c d : Value) : argsOk "object.__init__" ⟨[a, b, c, d], []⟩ := by unfold argsOk; kernel_rfl
theorem mm_call (dp un : Nat) (gd : Option (List Code)) (fr : Option (List Env)) (h₀ : Heap) (s : Shared) (Q E : Value → Shared → Prop) (a b c : Value)
   (X : (KK w.params).In h₀) (T : Top p loose mean mg mb h₀) (hst : h₀.StaysIn s.heap) (hdp : dp + 10 < recursionLimit) (hun : un + 50 < cLine)
   (hQ : ∀ h' x dx tk, (∀ b o', s.heap.get? b = some o' → h'.get? b = some o') → s.heap.get? x = none → h'.get? x = some (mmObj a b c dx) → Q (.ref x) { s with heap := h', toks := tk })
   : wpAny (model prog w) (Ar dp un gd fr) (PySem.call (.ref 142) [a, b, c]) Q E s := by
  have X1 : (KK w.params).In s.heap := X.keeps hst
  have T1 := T.keeps hst
  obtain ⟨h, g, d, t, os⟩ := s
  dsimp only at *
  have made : Looks (model prog w) h (Bind.madeBy (.ref 142)) none := Looks.of_peek X1 (pk_made _ _)
  have mro : Looks (model prog w) h (mroOf (.ref 142)) [.ref 142, .type "tuple", .type "object"] := Looks.of_peek X1 (pk_mro _ _)
  have call : Looks (model prog w) h (specialOf (.ref 142) "__call__") (some (.builtin "type.__call__")) := looks_specialIn X1 (by k_is)
  have typ : Looks (model prog w) h (isInstance (.ref 142) (.type "type")) true := looks_instIn X1 (by k_is)
  refine wpAny_call (codeAny_of_tree ?_)
  show wpAny _ _ (callAny (.ref 142) _) _ _ _
  refine nd_load (X1 142 _ (by k_is)) ?_
  show wpAny _ _ (callAny.viaDunder (.ref 142) _) _ _ _
  unfold callAny.viaDunder
  refine wpAny_bind (call.at ?_)
  dsimp only
  rw [tc_bind]
  refine wpAny_bind (wpAny_pure (wpAny_bind (wpAny_pure ?_)))
  refine wpAny_pure (a := Fin.again (.call (.builtin "type.__call__") ⟨.ref 142 :: [a, b, c], []⟩)) (And.intro rfl ?_)
  refine codeAny_call_builtin_at (Code.quiet_builtin _ (by decide +kernel)) entry_typeCall (check_slot tc_kind tc_split typ (tc_args _ _ _) ?_)
  unfold Builtin.«type.__call__»
  repeat (first | simp only [List.isEmpty_cons, Bool.false_eq_true, if_false] | ((fail_if_success (with_reducible show wpAny _ _ (getAttr _ _ _) _ _ _)); lk))
  refine' PySem.W.cls_bind (K := KK w.params) (mc := .type "type") (s := ⟨h, g, d, t, os⟩) (g := .builtin "staticmethod.__get__") (a := .ref _) (obj := .none) (tp := .ref 142) X1 ?b ?c (wpAny_call (sm_get (K := KK w.params) (f := .ref 89) (s := ⟨h, g, d, t + 1, os⟩) X1 ?d (handed_on rfl ?_)))
  case b => k_is
  case c => k_is
  case d => k_is
  refine wpAny_bind (wpAny_holding ?_)
  refine' callM (K := KK w.params) (h₀ := h₀) (p := p) (loose := loose) (mean := mean) (mg := mg) (mb := mb) (binds := [("_cls", .ref 142), ("actual", a), ("expected", b), ("value", c)]) [] X T ?z ?a ?b ?ep ?eb ?es ?c ?d ?e ?f ?_ ?g ?h ?i ?j
  case z => exact hst
  case a => exact fun _ h => nomatch h
  case b => k_is
  case ep => conv => lhs; whnf
  case eb => conv => lhs; whnf
  case es => conv => lhs; whnf
  case c => k_is
  case d => simp only [depth_under_make]; omega
  case e => exact BindsTo.of_eq rfl
  case f => exact locs rfl
  case g => decide
  case h => rfl
  case i => rfl
  case j => rfl
  intro g L' h₁ F' N' X' T' hlt hg
  clear X T
  k_steps
  with_reducible refine' method_type (v := .builtin "tuple.__new__") ?k1 ?k2 ?k3 ?k4 ?k5 ?k6 ?_
  case k1 => exact F'
  case k2 => exact X'
  case k3 => exact ty_type
  case k4 => exact ty_stub
  case k5 => exact ty_fc _
  case k6 => rfl
  dsimp only
  k_steps
  rename_i F2 N2 _
  refine' tn_new ?a (N2 _ (.head _)).1 rfl rfl fun h2 hk2 => ?_
  case a => exact X'.keeps F2.keep
  dsimp only at hk2 ⊢
  have hk3 : ∀ y o, h.get? y = some o → h2.get? y = some o := fun y o e => hk2 y o (F2.keep y o (hg y o e (fun q => nomatch q)))
  have hkk : ∀ y o, h.get? y = some o → ((h2.push { cls := .type "dict", data := .dict #[] }).push (mmObj a b c h2.objs.size)).get? y = some o :=
    fun y o e => Heap.get?_push_of_some _ (Heap.get?_push_of_some _ (hk3 y o e))
  have hx : ((h2.push { cls := .type "dict", data := .dict #[] }).push (mmObj a b c h2.objs.size)).get? (h2.objs.size + 1) = some (mmObj a b c h2.objs.size) := by
    rw [show h2.objs.size + 1 = (h2.push { cls := .type "dict", data := .dict #[] }).objs.size from (Heap.size_push ..).symm]
    exact Heap.get?_push_size _ rfl
  have hlt : h.get? (h2.objs.size + 1) = none := by
    cases q : h.get? (h2.objs.size + 1) with
    | none => rfl
    | some o => exact absurd (Heap.lt_size (hk3 _ _ q)) (Nat.not_lt.mpr (Nat.le_succ _))
  generalize (h2.push { cls := .type "dict", data := .dict #[] }).push (mmObj a b c h2.objs.size) = h3 at hkk hx ⊢
  generalize h2.objs.size = dx at hx hlt ⊢
  generalize dx + 1 = x at hx hlt ⊢
  have X3 : (KK w.params).In h3 := X1.keeps hkk
  have t1 : Looks (model prog w) h3 (PySem.typeOf (.ref x)) (.ref 142) := (Looks.ld hx).andThen .now
  have i1 : Looks (model prog w) h3 (typeLookup (.ref 142) "__init__") (some (.builtin "object.__init__")) := Looks.of_peek X3 (pk_init _ _)
  have m1 : Looks (model prog w) h3 (Bind.madeBy (.ref 142)) none := Looks.of_peek X3 (pk_made _ _)
  have is1 : Looks (model prog w) h3 (isInstance (.ref x) (.ref 142)) true := t1.andThen (Looks.of_peek X3 (pk_self _ _))
  have is2 : Looks (model prog w) h3 (isInstance (.ref x) (.type "object")) true := t1.andThen (Looks.of_peek X3 (pk_obj _ _))
  have sp1 : Looks (model prog w) h3 (specialOf (.ref x) "__init__") (some (.builtin "object.__init__")) := t1.andThen i1
  refine wpAny_bind (is1.at ?_)
  rw [if_neg (by decide)]
  unfold callSpecial?
  refine wpAny_bind (wpAny_holding (wpAny_bind (sp1.at ?_)))
  dsimp only
  rw [oi_bind]
  refine wpAny_holding (wpAny_bind (wpAny_pure (wpAny_bind ?_)))
  show wpAny _ _ (PySem.call (.builtin "object.__init__") [.ref x, a, b, c]) _ _ _
  refine wpAny_call (codeAny_call_builtin oi_plain entry_oi (check_slot (s := ⟨h3, _, _, _, _⟩) oi_kind oi_split is2 (oi_args4 _ _ _ _) ?_))
  unfold Builtin.«object.__init__»
  dsimp only
  rw [if_pos (by rfl)]
  refine wpAny_bind (t1.at ?_)
  refine wpAny_bind (i1.at ?_)
  dsimp only
  refine wpAny_bind (m1.at ?_)
  rw [if_neg (by decide), if_neg (by decide)]
  refine wpAny_pure ?_
  refine wpAny_pure ?_
  dsimp only
  rw [if_neg (by decide)]
  exact wpAny_pure (hQ h3 x dx _ hkk hlt hx)
end Mine
end
section
open PySem PySem.W PyProof.Rows PySem.Calls PyProof.Rows.TI
set_option Elab.async false
set_option maxRecDepth 100000
set_option maxHeartbeats 8000000
namespace Mine
theorem fillup3 : PySem.Challenge.rw_oy0181_01 = PySem.Challenge.rw_oy0181_01 ∧ KK = KK := by k_fill; exact ⟨rfl, rfl⟩

/-- texts with their tokens, as values -/
def SV (xs : List (Str × Tok)) : List Value := xs.map fun p => Value.str p.1 p.2
abbrev LS (xs : List (Str × Tok)) (n : Nat) : Obj := W.listOf (SV xs).toArray n
theorem SV_length (xs : List (Str × Tok)) : (SV xs).length = xs.length := List.length_map ..
theorem SV_append (xs ys : List (Str × Tok)) : SV (xs ++ ys) = SV xs ++ SV ys := List.map_append ..

/-- what the loop of unorderable_list_difference reckons: the first list from behind -/
def uldF : List (Str × Tok) → List (Str × Tok) → List (Str × Tok) → List (Str × Tok) × List (Str × Tok)
  | [], ys, zs => (zs, ys)
  | x :: xs, ys, zs => if ys.any (fun p => p.1 == x.1) then uldF xs (ys.eraseP fun p => p.1 == x.1) zs else uldF xs ys (zs ++ [x])

theorem eraseLast {α : Type} : ∀ (l : List α) (x : α), (l ++ [x]).eraseIdx l.length = l
  | [], _ => rfl
  | a :: l, x => by simp [eraseLast l x]
theorem newsL {h₀ h : Heap} {L d : Addr} {m : Str → Option Value} (pre post : List (Addr × Obj)) {its : Array Value} (its' : Array Value) {n : Nat} (f : Array Value → Array Value) (F : Fr h₀ L h m) (N : News h₀ L h (pre ++ (d, W.listOf its n) :: post))
    (h1 : ∀ p ∈ pre, p.1 ≠ d) (h2 : ∀ p ∈ post, p.1 ≠ d) (e : f its = its') : ∃ n', Fr h₀ L (h.update d (Obj.mapSeq f)) m ∧ News h₀ L (h.update d (Obj.mapSeq f)) (pre ++ (d, W.listOf its' n') :: post) := by
  subst e
  exact ⟨_, news_upd F N h1 h2 rfl rfl⟩
theorem allLt_mem {d : Nat} : ∀ {l : List (Addr × Obj)}, AllLt d l → ∀ p ∈ l, @LT.lt Nat _ p.1 d
  | [], _, _, h => nomatch h
  | _ :: _, x, p, h => by
    rcases List.mem_cons.mp h with rfl | h
    · exact x.1
    · exact allLt_mem x.2 p h
theorem eraseP_idx {α : Type} : ∀ (l : List α) (p : α → Bool), l.any p = true → l.eraseP p = l.eraseIdx (l.findIdx p)
  | [], _, h => by simp at h
  | a :: l, p, h => by
    cases q : p a with
    | true => simp [List.eraseP_cons, List.findIdx_cons, q]
    | false =>
      rw [List.any_cons, q, Bool.false_or] at h
      simp [List.eraseP_cons, List.findIdx_cons, q, eraseP_idx l p h]
theorem eraseIdx_mapM {α β : Type} (f : α → β) : ∀ (l : List α) (i : Nat), (l.map f).eraseIdx i = (l.eraseIdx i).map f
  | [], _ => rfl
  | _ :: _, 0 => rfl
  | a :: l, i + 1 => by simp [eraseIdx_mapM f l i]
variable {prog : Program} {w : World} {p : Program} {loose : List Str} {mean : ExcName → Option Value} {mg mb : Str → Option Value}

theorem uld_call (dp un : Nat) (gd : Option (List Code)) (l : List Env) (frs : List (Addr × Obj)) (h₀ : Heap) (s : Shared) (Q E : Value → Shared → Prop)
   (e b : Addr) (xs ys : List (Str × Tok)) (n k : Nat)
   (X : (KK w.params).In h₀) (T : Top p loose mean mg mb h₀) (hst : h₀.StaysIn s.heap) (hdp : dp + 10 < recursionLimit) (hun : un + 50 < cLine)
   (ht : ∀ q ∈ (e, LS xs n) :: (b, LS ys k) :: frs, s.heap.get? q.1 = some q.2 ∧ h₀.get? q.1 = none) (heb : e ≠ b) (hef : e ∉ frs.map Prod.fst) (hbf : b ∉ frs.map Prod.fst) (Fs : Frs l frs)
   (hxs : xs.length ≤ 1000) (hys : ys.length ≤ 1000)
   (hQ : ∀ h' tk lm t n1 n2 n3 frs', SameUp frs frs' → Frs l frs' → (∀ y o, s.heap.get? y = some o → y ∉ e :: b :: frs.map Prod.fst → h'.get? y = some o) →
      (∀ q ∈ (t, ({ cls := .type "tuple", data := .seq #[.ref lm, .ref b] } : Obj)) :: (lm, LS (uldF xs.reverse ys []).1 n3) :: (e, LS [] n1) :: (b, LS (uldF xs.reverse ys []).2 n2) :: frs', h'.get? q.1 = some q.2) →
      s.heap.get? t = none → s.heap.get? lm = none → lm ≠ t → Q (.ref t) { s with heap := h', toks := tk })
   : wpAny (model prog w) (Ar dp un gd (some l)) (call (.ref 71) [.ref e, .ref b]) Q E s := by
  refine' callM (binds := [("expected", .ref e), ("actual", .ref b)]) ((e, LS xs n) :: (b, LS ys k) :: frs) X T hst ?a ?b ?ep ?eb ?es ?c ?d ?e ?f ?_ ?g ?h ?i ?j
  case a => exact ht
  case b => k_is
  case ep => conv => lhs; whnf
  case eb => conv => lhs; whnf
  case es => conv => lhs; whnf
  case c => k_is
  case d => show dp < _; omega
  case e => exact BindsTo.of_eq rfl
  case f => exact locs rfl
  case g => decide
  case h => rfl
  case i => rfl
  case j => rfl
  intro g L' h₁ F' N' X' T' hlt hg
  clear X T
  (repeat' ((with_reducible show wpAny _ _ _ _ _ _); (fail_if_success (with_reducible (first | refine at1 ?_ | refine at2 ?_ | refine at3 ?_ | refine at4 ?_))); (first | walk1 | (dsimp only; walk1))))
  rename_i tk0 lm h2 l1 h3 F1 N1
  refine whileM (fun n s' => ∃ h tk vi xs' ys' zs' n1 n2 n3 frs', s' = { s with heap := h, toks := tk } ∧
    Fr g L' h (fun y => if y = Str.ofString "item" then vi else if y = Str.ofString "missing" then some (.ref lm) else if y = Str.ofString "expected" then some (.ref e) else if y = Str.ofString "actual" then some (.ref b) else none) ∧
    News g L' h ((lm, LS zs' n3) :: (e, LS xs' n1) :: (b, LS ys' n2) :: frs') ∧ SameUp frs frs' ∧ Frs l frs' ∧ n = xs'.length ∧ uldF xs'.reverse ys' zs' = uldF xs.reverse ys [] ∧
    ys'.length ≤ 1000 ∧ zs'.length + xs'.length ≤ 1000) ?turn xs.length ?init
  case init =>
    refine ⟨h3, tk, none, xs, ys, [], n, k, 0, frs, rfl, ?_, ?_, SameUp.refl _, Fs, rfl, rfl, hys, by simpa using hxs⟩
    · exact Fr.congr F1 fun y => by
        by_cases q1 : y = Str.ofString "missing"
        · subst q1; rfl
        by_cases q2 : y = Str.ofString "expected"
        · subst q2; rfl
        by_cases q3 : y = Str.ofString "actual"
        · subst q3; rfl
        by_cases q4 : y = Str.ofString "item"
        · subst q4; rfl
        simp [q1, q2, q3, q4, lkI]
    · exact N1
  case turn =>
    rintro nn s' ⟨h, tk, vi, xs', ys', zs', n1, n2, n3, frs', rfl, F, N, SU, Fs', rfl, hf, hy', hz'⟩
    clear F1 N1
    walk1
    walk1
    have hE := (N (e, LS xs' n1) (.tail _ (.head _))).1
    with_reducible refine' wpAny_truthy_list (items := (SV xs').toArray) ?a ?b ?_
    case a => exact ⟨_, hE, rfl, n1, rfl⟩
    case b => simp only [List.size_toArray, SV_length]; omega
    rcases List.eq_nil_or_concat xs' with rfl | ⟨xl, x0, rfl⟩
    · -- the list is empty: the loop is done
      simp only [SV, List.map_nil, List.isEmpty_toArray, List.isEmpty_nil, Bool.not_true, Bool.false_eq_true, if_false]
      (repeat' ((with_reducible show wpAny _ _ _ _ _ _); (fail_if_success (with_reducible (first | refine at1 ?_ | refine at2 ?_ | refine at3 ?_ | refine at4 ?_))); (first | walk1 | (dsimp only; walk1))))
      rename_i D h5 F5 N5 l5
      have hnew : ∀ y, g.get? y = none → y ∉ e :: b :: frs.map Prod.fst → s.heap.get? y = none := fun y hy hn => by
        cases q : s.heap.get? y with
        | none => rfl
        | some o => rw [hg y o q (by simpa using hn)] at hy; cases hy
      have hfD : ∀ x ∈ frs, @LT.lt Nat _ x.1 D := fun x hx => by
        obtain ⟨sl, hx'⟩ := SU.back x hx
        have := allLt_mem l5.2.2.2 _ hx'
        exact this
      simp only [List.reverse_nil, uldF] at hf
      refine hQ h5 _ lm D n1 n2 n3 frs' SU Fs' (fun y o hy hn => F5.keep y o (hg y o hy (by simpa using hn))) (fun q hq => (N5 q (by rw [← hf] at hq; exact hq)).1) (hnew D (N5 _ (.head _)).2.2 ?_) (hnew lm (N5 _ (.tail _ (.head _))).2.2 ?_) (Nat.ne_of_lt l5.1)
      · intro hm
        rcases List.mem_cons.mp hm with q | hm
        · exact absurd l5.2.1 (by rw [q]; exact Nat.lt_irrefl _)
        rcases List.mem_cons.mp hm with q | hm
        · exact absurd l5.2.2.1 (by rw [q]; exact Nat.lt_irrefl _)
        obtain ⟨x, hx, q⟩ := List.mem_map.mp hm
        exact absurd (hfD x hx) (by rw [← q]; exact Nat.lt_irrefl _)
      · intro hm
        rcases List.mem_cons.mp hm with q | hm
        · exact absurd l1.1 (by rw [q]; exact Nat.lt_irrefl _)
        rcases List.mem_cons.mp hm with q | hm
        · exact absurd l1.2.1 (by rw [q]; exact Nat.lt_irrefl _)
        obtain ⟨x, hx, q⟩ := List.mem_map.mp hm
        exact absurd (allLt_mem l1.2.2 x hx) (by rw [← q]; exact Nat.lt_irrefl _)
    · rw [List.concat_eq_append] at N hf hz' hE ⊢
      rw [show (!(SV (xl ++ [x0])).toArray.isEmpty) = true by simp [SV], if_pos rfl]
      (repeat' ((with_reducible show wpAny _ _ _ _ _ _); (fail_if_success (with_reducible (first | refine at1 ?_ | refine at2 ?_ | refine at3 ?_ | refine at4 ?_))); (first | walk1 | (dsimp only; walk1))))
      have hlast : (SV (xl ++ [x0])).toArray[(SV (xl ++ [x0])).toArray.size - 1]? = some (.str x0.1 x0.2) := by simp [SV]
      dsimp only
      with_reducible refine' call_meets PySem.F.slot_list_pop ?a PySem.F.entry_list_pop (PySem.F.args_list_pop_1 _) (MeetsSeq.list_pop_last e (SV (xl ++ [x0])).toArray n1 (.str x0.1 x0.2) hlast ?z) ⟨hE, ?_⟩
      case a => exact ⟨_, hE, rfl⟩
      case z => simp only [List.size_toArray, SV_length, sizeLine_eq]; omega
      have hfe : ∀ p ∈ frs', p.1 ≠ e := fun p hp q => by obtain ⟨x, hx, q'⟩ := SU.fwd p hp; exact hef (List.mem_map.mpr ⟨x, hx, q'.symm.trans q⟩)
      have hfb : ∀ p ∈ frs', p.1 ≠ b := fun p hp q => by obtain ⟨x, hx, q'⟩ := SU.fwd p hp; exact hbf (List.mem_map.mpr ⟨x, hx, q'.symm.trans q⟩)
      have hfl : ∀ p ∈ frs', p.1 ≠ lm := fun p hp q => by obtain ⟨x, hx, q'⟩ := SU.fwd p hp; exact absurd (allLt_mem l1.2.2 x hx) (by rw [← q', q]; exact Nat.lt_irrefl _)
      have hle : lm ≠ e := Nat.ne_of_gt l1.1
      have hlb : lm ≠ b := Nat.ne_of_gt l1.2.1
      obtain ⟨n1', F2, N2⟩ := newsL [(lm, LS zs' n3)] ((b, LS ys' n2) :: frs') (SV xl).toArray (fun xs => xs.eraseIdxIfInBounds ((SV (xl ++ [x0])).toArray.size - 1)) F N (by simpa using hle)
        (by intro p hp; rcases List.mem_cons.mp hp with rfl | hp; exact heb.symm; exact hfe p hp) (by apply Array.toList_inj.mp; simpa [SV, Array.toList_eraseIdxIfInBounds] using eraseLast (xl.map fun p => Value.str p.1 p.2) (.str x0.1 x0.2))
      clear F N hE hlast
      simp only [List.cons_append, List.nil_append] at N2
      generalize h.update e (Obj.mapSeq fun xs => xs.eraseIdxIfInBounds ((SV (xl ++ [x0])).toArray.size - 1)) = h4 at F2 N2 ⊢
      dsimp only
      (repeat' ((with_reducible show wpAny _ _ _ _ _ _); (fail_if_success (with_reducible (first | refine at1 ?_ | refine at2 ?_ | refine at3 ?_ | refine at4 ?_))); (first | walk1 | (dsimp only; walk1))))
      rename_i h5 F5 N5
      have F6 : Fr g L' h5 (fun y => if y = Str.ofString "item" then some (.str x0.1 x0.2) else if y = Str.ofString "missing" then some (.ref lm) else if y = Str.ofString "expected" then some (.ref e) else if y = Str.ofString "actual" then some (.ref b) else none) :=
        Fr.congr F5 fun y => by by_cases q : y = Str.ofString "item" <;> simp [q]
      clear F5
      refine wpAny_Try_except ?_
      (repeat' ((with_reducible show wpAny _ _ _ _ _ _); (fail_if_success (with_reducible (first | refine at1 ?_ | refine at2 ?_ | refine at3 ?_ | refine at4 ?_))); (first | walk1 | (dsimp only; walk1))))
      have hB := (N5 (b, LS ys' n2) (.tail _ (.tail _ (.head _)))).1
      try dsimp only
      by_cases hany : ys'.any (fun p => p.1 == x0.1) = true
      · have he : ∀ y, y ∈ (SV ys').toArray → MeetsSeq.EqGives y (.str x0.1 x0.2) (match y with | .str a _ => a == x0.1 | _ => false) := by
          intro y hy
          simp only [SV, List.mem_toArray, List.mem_map] at hy
          obtain ⟨q, _, rfl⟩ := hy
          exact eqGives_str _ _ _ _
        have hj : ys'.findIdx (fun p => p.1 == x0.1) < ys'.length := List.findIdx_lt_length.mpr (by simpa using hany)
        with_reducible refine' call_meets PySem.F.slot_list_remove ?a PySem.F.entry_list_remove (PySem.F.args_list_remove_2 _ _) (MeetsSeq.list_remove b (SV ys').toArray n2 (.str x0.1 x0.2) _ he (ys'.findIdx (fun p => p.1 == x0.1)) ?y ?z ?x ?v) ⟨hB, ?_⟩
        case a => exact ⟨_, hB, rfl⟩
        case y => simpa [SV] using hj
        case z => simpa only [SV, List.getElem_toArray, List.getElem_map] using List.findIdx_getElem (w := hj)
        case x =>
          intro i hi hlt
          simpa only [SV, List.getElem_toArray, List.getElem_map] using List.not_of_lt_findIdx hlt
        case v => simp only [List.size_toArray, SV_length, sizeLine_eq]; omega
        obtain ⟨n2', F7, N7⟩ := newsL [(lm, LS zs' n3), (e, LS xl n1')] frs' (SV (ys'.eraseP fun p => p.1 == x0.1)).toArray (fun xs => xs.eraseIdxIfInBounds (ys'.findIdx (fun p => p.1 == x0.1))) F6 N5
          (by intro q hq; simp only [List.mem_cons, List.not_mem_nil, or_false] at hq; rcases hq with rfl | rfl; exact hlb; exact heb) hfb
          (by apply Array.toList_inj.mp; rw [eraseP_idx ys' _ hany]; simp [SV, eraseIdx_mapM])
        clear F6 N5 hB
        simp only [List.cons_append, List.nil_append] at N7
        dsimp only [wants]
        generalize h5.update b (Obj.mapSeq fun xs => xs.eraseIdxIfInBounds (ys'.findIdx (fun p => p.1 == x0.1))) = h6 at F7 N7 ⊢
        (repeat' ((with_reducible show wpAny _ _ _ _ _ _); (fail_if_success (with_reducible (first | refine at1 ?_ | refine at2 ?_ | refine at3 ?_ | refine at4 ?_))); (first | walk1 | (dsimp only; walk1))))
        refine ⟨xl.length, by simp, h6, _, _, xl, _, zs', n1', n2', n3, frs', rfl, F7, N7, SU, Fs', rfl, ?_, ?_, ?_⟩
        · rw [← hf, List.reverse_append, List.reverse_singleton, List.singleton_append, uldF, if_pos hany]
        · exact Nat.le_trans (List.length_eraseP_le) hy'
        · rw [List.length_append] at hz'; omega
      · have he : ∀ y, y ∈ (SV ys').toArray → MeetsSeq.EqGives y (.str x0.1 x0.2) (match y with | .str a _ => a == x0.1 | _ => false) := by
          intro y hy
          simp only [SV, List.mem_toArray, List.mem_map] at hy
          obtain ⟨q, _, rfl⟩ := hy
          exact eqGives_str _ _ _ _
        with_reducible refine' call_meets PySem.F.slot_list_remove ?a PySem.F.entry_list_remove (PySem.F.args_list_remove_2 _ _) (MeetsSeq.list_remove_none b (SV ys').toArray n2 (.str x0.1 x0.2) _ he ?z) ⟨hB, ?_⟩
        case a => exact ⟨_, hB, rfl⟩
        case z =>
          intro i hi
          simp only [SV, List.getElem_toArray, List.getElem_map]
          have := hany
          simp only [List.any_eq_true, not_exists, not_and, Bool.not_eq_true] at this
          exact this _ (List.getElem_mem _)
        refine ⟨rfl, fun h6 tk6 ex hx => ?_⟩
        show wpAny _ _ (noteFrame (.ref ex) _) _ _ _
        with_reducible refine' TLg.noted_newA (new := [(lm, LS zs' n3), (e, LS xl n1'), (b, LS ys' n2)]) (frs := frs') (l := l) ?f1 ?f2 ?f3 ?f4 ?f5 ?f6 ?_ ?f7
        case f1 => rfl
        case f2 => exact Fs'
        case f3 => exact hx
        case f4 => exact F6
        case f5 => exact N5
        case f6 =>
          intro q hq hm
          have hL := (N5 q (by simp only [List.mem_cons, List.not_mem_nil, or_false] at hq; rcases hq with rfl | rfl | rfl <;> simp)).2.1
          rcases List.mem_cons.mp hm with z | hm
          · exact hL z
          · obtain ⟨x, hx', z⟩ := List.mem_map.mp hm
            simp only [List.mem_cons, List.not_mem_nil, or_false] at hq
            rcases hq with rfl | rfl | rfl
            · exact hfl x hx' z
            · exact hfe x hx' z
            · exact hfb x hx' z
        case f7 => rfl
        intro h7 frs7 SU7 Fs7 H7
        refine H7.land fun h8 H8 => ?_
        refine wpAny_handleBy_builtin (X := "ValueError") (T := "ValueError") (b := true) PySem.F.isExc_ValueError PySem.F.notTuple_ValueError (by rw [isSubtype_type]; kernel_rfl) ?_
        have F8 := H8.held.fr
        have N8 := H8.made
        walk1
        refine ⟨rfl, H8.isA, ?_⟩
        rw [if_pos rfl]
        refine H8.lands fun h9 F9 N9 => ?_
        clear F8 N8 H8 H7 F6 N5
        refine wpAny_noRaise ?_
        (repeat' ((with_reducible show wpAny _ _ _ _ _ _); (fail_if_success (with_reducible (first | refine at1 ?_ | refine at2 ?_ | refine at3 ?_ | refine at4 ?_))); (first | walk1 | (dsimp only; walk1))))
        have hM := (N9 (lm, LS zs' n3) (.head _)).1
        with_reducible refine' call_meets PySem.F.slot_list_append ?a PySem.F.entry_list_append (PySem.F.args_list_append_2 _ _) (list_append lm (SV zs').toArray n3 (.str x0.1 x0.2) ?z) ⟨hM, ?_⟩
        case a => exact ⟨_, hM, rfl⟩
        case z => simp only [List.size_toArray, SV_length, sizeLine_eq]; omega
        have SU9 := SU.trans SU7
        obtain ⟨n3', FA, NA⟩ := newsL [] ((e, LS xl n1') :: (b, LS ys' n2) :: frs7) (SV (zs' ++ [x0])).toArray (fun xs => xs.push (.str x0.1 x0.2)) F9 N9
          (fun _ h => nomatch h) (by
            intro q hq
            rcases List.mem_cons.mp hq with rfl | hq
            · exact hle.symm
            rcases List.mem_cons.mp hq with rfl | hq
            · exact hlb.symm
            obtain ⟨x, hx, q'⟩ := SU9.fwd q hq
            exact Nat.ne_of_lt (q' ▸ allLt_mem l1.2.2 x hx))
          (by apply Array.toList_inj.mp; simp [SV])
        clear F9 N9 hM
        simp only [List.nil_append] at NA
        dsimp only [wants]
        (repeat' ((with_reducible show wpAny _ _ _ _ _ _); (fail_if_success (with_reducible (first | refine at1 ?_ | refine at2 ?_ | refine at3 ?_ | refine at4 ?_))); (first | walk1 | (dsimp only; walk1))))
        refine ⟨xl.length, by simp, _, _, _, xl, ys', zs' ++ [x0], n1', n2, n3', frs7, rfl, FA, NA, SU9, Fs7, rfl, ?_, hy', ?_⟩
        · rw [← hf, List.reverse_append, List.reverse_singleton, List.singleton_append, uldF, if_neg hany]
        · rw [List.length_append] at hz' ⊢; simp only [List.length_singleton] at *; omega
end Mine
end
section
open PySem PySem.W PyProof.Rows PySem.Calls
set_option Elab.async false
set_option maxRecDepth 100000
set_option maxHeartbeats 8000000
namespace Mine
theorem ob_new : Builtin.«object.__new__» ⟨[.type "object"], []⟩ = (newObj (.type "object") .plain none >>= fun v => ret v) := by kernel_rfl
theorem ob_mro : mroOf (.type "object") = pure [.type "object"] := by rw [mroOf_type]; kernel_rfl
theorem ob_lookup : typeLookup (.type "object") "__new__" = pure (some (.builtin "object.__new__")) := by rw [typeLookup_type, builtinLookup_eq_fast]; kernel_rfl
theorem ob_init : Slot "object" "__init__" "object.__init__" := (Slot.of (T := "object") (name := "__init__") (owner := "object") (n := "__init__") (by rw [typeLookup_type, builtinLookup_eq_fast]; kernel_rfl) (by decide +kernel) (by decide +kernel) (by decide +kernel)
    (.inl (by decide +kernel)) (by rw [isSubtype_type]; kernel_rfl))
theorem ob_called : TypeCalled "object" "object.__new__" "object.__init__" :=
  ⟨by decide +kernel, by decide +kernel, ⟨_, _, ob_mro⟩, madeBy_type ob_mro ob_lookup (by decide +kernel), by decide +kernel, by rw [isSubtype_type]; kernel_rfl, ob_init⟩
theorem ob_tc : checkTypeCall "object" ⟨[], []⟩ = pure () := by kernel_rfl
theorem ob_nc : checkBuiltinCall "object.__new__" ⟨[.type "object"], []⟩ = pure () := by kernel_rfl
theorem ob_en : entryFor table "object.__new__" = some Builtin.«object.__new__» := entryFor_of_tree (by kernel_rfl)
theorem ob_init_meets (a : Value) : Meets (Builtin.«object.__init__» ⟨[a], []⟩) (fun _ R s => R (.ok (.ret .none)) s) := fun prog w A R s h => by rw [oi_run]; exact wpAny_pure h
theorem ob_new_meets : Meets (Builtin.«object.__new__» ⟨[.type "object"], []⟩) (fun _ R s => R (.ok (.ret (.ref s.heap.objs.size))) { s with heap := s.heap.push { cls := .type "object", data := .plain } }) := fun prog w A R s h => by
  rw [ob_new]
  exact wpAny_bind (wpAny_newObj_type (wpAny_pure h))
theorem object_call {prog : Program} {w : World} {A : Around} {s : Shared} {Q E : Value → Shared → Prop} (h : Q (.ref s.heap.objs.size) { s with heap := s.heap.push { cls := .type "object", data := .plain } }) :
    wpAny (model prog w) A (PySem.call (.type "object") []) Q E s :=
  callType_meets (Q₁ := fun obj s₁ => s₁.TypeIs obj "object" ∧ Q obj s₁) ob_called ob_tc ob_nc ob_en entry_oi ob_new_meets ⟨⟨_, Heap.get?_push_size _ rfl, rfl⟩, h⟩ fun obj _ hq => ⟨hq.1, oi_args obj, _, ob_init_meets obj, rfl, hq.2⟩
end Mine
end
section
open PySem PySem.W PyProof.Rows PySem.Calls
set_option Elab.async false
set_option maxRecDepth 100000
set_option maxHeartbeats 8000000
namespace Mine

section
variable {g h h' : Heap} {L : Addr} {m : Str → Option Value} {news : List (Addr × Obj)}
theorem fr_but (D : List Addr) (F : Fr g L h m) (hk : ∀ b o, b ∉ D → h.get? b = some o → h'.get? b = some o) (hL : L ∉ D) (hg : ∀ d ∈ D, g.get? d = none) : Fr g L h' m := by
  obtain ⟨oL, es, ep, hoL, r⟩ := F.ns
  refine ⟨⟨oL, es, ep, hk _ _ hL hoL, r⟩, fun b o e => hk b o (fun q => ?_) (F.keep b o e), F.above⟩
  rw [hg b q] at e; cases e
theorem news_but (D : List Addr) (N : News g L h news) (hk : ∀ b o, b ∉ D → h.get? b = some o → h'.get? b = some o) (hd : ∀ p ∈ news, p.1 ∉ D) : News g L h' news :=
  fun p hp => ⟨hk _ _ (hd p hp) (N p hp).1, (N p hp).2⟩
theorem news_cons {a : Addr} {o : Obj} (h1 : h.get? a = some o) (h2 : a ≠ L) (h3 : g.get? a = none) (N : News g L h news) : News g L h ((a, o) :: news) := fun p hp => by
  rcases List.mem_cons.mp hp with rfl | hp
  · exact ⟨h1, h2, h3⟩
  · exact N p hp
theorem news_tail {p : Addr × Obj} (N : News g L h (p :: news)) : News g L h news := fun q hq => N q (.tail _ hq)
end

abbrev enumO (it : Addr) (i : Int) (old : Value) : Obj := { cls := .type "enumerate", dict := none, data := .fields #[.none, .bool false, .ref it, rawInt i, .none, old], slots := #[] }
def ItO (o : Obj) (l : Addr) (i : Nat) : Prop := o.cls = .type "list_iterator" ∧ o.data = .fields #[.ref l, .int i 0]
abbrev rangeO (x left : Int) : Obj := { cls := .type "range_iterator", dict := none, data := .fields #[rawInt x, rawInt left, rawInt 1], slots := #[] }

section
variable {prog : Program} {w : World} {A : Around} {s : Shared} {env : Env} {g : Heap} {m : Str → Option Value} {rest : List (Addr × Obj)}

theorem enumTurn {xi xv : Str} {pi pv pt : Pos} {x1 : Nat} {e it l : Addr} {items : Array Value} {n : Nat} {i : Nat} {old : Value} {oit : Obj} {Pn Ps : Shared → Prop}
    (hh : A.handled = none) (hki : env.kindOf xi = some .local) (hkv : env.kindOf xv = some .local) (hp : (env.scope.kind == .class || (env.scope.kind == .module && env.locals != env.globals)) = false)
    (F : Fr g env.locals s.heap m) (N : News g env.locals s.heap ((e, enumO it i old) :: (it, oit) :: rest)) (ho : ItO oit l i) (hl : (l, W.listOf items n) ∈ rest)
    (hei : e ≠ it) (hre : ∀ p ∈ rest, p.1 ≠ e) (hri : ∀ p ∈ rest, p.1 ≠ it)
    (hend : items[i]? = none → ∀ h', Fr g env.locals h' m → News g env.locals h' rest → Pn { s with heap := h' })
    (hitem : ∀ v, items[i]? = some v → ∀ h' tk oit' t, ItO oit' l (i + 1) → Fr g env.locals h' (fun y => if y = xv then some v else if y = xi then some (.int i t) else m y) →
      News g env.locals h' ((e, enumO it (i + 1 : Nat) v) :: (it, oit') :: rest) → Ps { s with heap := h', toks := tk }) :
    ForTurn prog w A env (.Tuple [.Name xi pi, .Name xv pv] x1 pt) (.ref e) Pn Ps s := by
  unfold ForTurn
  obtain ⟨H, gs, d, tk, os⟩ := s
  dsimp only at *
  have he := (N _ (.head _)).1
  have hit : H.IsListIter it l i := ⟨oit, (N _ (.tail _ (.head _))).1, ho⟩
  have hL : H.IsList l items := ⟨_, (N _ (.tail _ (.tail _ hl))).1, rfl, n, rfl⟩
  have Nr : News g env.locals H rest := news_tail (news_tail N)
  have heL : e ≠ env.locals := (N _ (.head _)).2.1
  have hiL : it ≠ env.locals := (N _ (.tail _ (.head _))).2.1
  have heg : g.get? e = none := (N _ (.head _)).2.2
  have hig : g.get? it = none := (N _ (.tail _ (.head _))).2.2
  have heH : e < H.objs.size := Heap.lt_size he
  have hiH : it < H.objs.size := Heap.lt_size (N _ (.tail _ (.head _))).1
  have hLH : env.locals < H.objs.size := F.ns.lt
  cases hv : items[i]? with
  | none =>
    refine wpAny_pyNext_enum_end hh he hit hL hv fun h₁ he₁ => ?_
    refine hend hv h₁ (fr_but [it] F (fun b o hb x => he₁ b o (by simpa using hb) x) (by simpa using Ne.symm hiL) (by simpa using hig)) (news_but [it] Nr (fun b o hb x => he₁ b o (by simpa using hb) x) (by simpa using hri))
  | some v =>
    refine wpAny_pyNext_enum_item he hit hL hv hei fun h₁ heo hit₁ ht₁ hz₁ hk₁ => ?_
    refine wpAny_letOwnedTupleGo_enum heo fun h₂ he₂ hs₂ => ?_
    replace hs₂ : Heap.SameBut e h₁ h₂ := hs₂
    have ht₂ : h₂.IsTuple H.objs.size #[.int i tk, v] := ⟨_, (hs₂.2 _ (Nat.ne_of_gt heH)).trans ht₁, rfl, _, rfl⟩
    have hz₂ : h₂.objs.size = H.objs.size + 1 := hs₂.1.trans hz₁
    refine wpAny_assign_Tuple hh ht₂ rfl rfl fun h₃ hx₃ => ?_
    replace hx₃ : Heap.ExtBut h₂.objs.size h₂ h₃ := hx₃
    have old₃ : ∀ b o, b < H.objs.size → h₂.get? b = some o → h₃.get? b = some o := fun b o hb x => hx₃ b o (by rw [hz₂]; exact Nat.ne_of_lt (Nat.lt_succ_of_lt hb)) x
    have k₃ : ∀ b o, b ∉ [e, it] → H.get? b = some o → h₃.get? b = some o := fun b o hb x => by
      simp only [List.mem_cons, List.not_mem_nil, or_false, not_or] at hb
      exact old₃ b o (Heap.lt_size x) (hs₂.extBut b o hb.1 (hk₁ b o hb.1 hb.2 x))
    have F₃ : Fr g env.locals h₃ m := fr_but [e, it] F k₃ (by simpa using ⟨Ne.symm heL, Ne.symm hiL⟩) (by simpa using ⟨heg, hig⟩)
    obtain ⟨oit', hoit', ho'⟩ := hit₁
    have hoit₃ : h₃.get? it = some oit' := old₃ _ _ hiH (hs₂.extBut _ _ (Ne.symm hei) hoit')
    have N₃ : News g env.locals h₃ ((e, enumO it (i + 1 : Nat) v) :: (it, oit') :: rest) := by
      refine news_cons ?_ heL heg (news_cons hoit₃ hiL hig (news_but [e, it] Nr k₃ (fun p hp => by simpa using ⟨hre p hp, hri p hp⟩)))
      have := old₃ _ _ heH he₂
      rw [this]; push_cast; rfl
    show wpAny _ A (do holding [v] (assign (.Name xi pi) env (.int i tk)); do holding [] (assign (.Name xv pv) env v); pure ()) _ _ _
    refine wpAny_bind (wpAny_holding (wpAny_assign_Name (wpAny_storeName_local hki F₃.ns (fun h₄ hn₄ hs₄ => ?_) hp)))
    replace hs₄ : Heap.SameBut env.locals h₃ h₄ := hs₄
    have F₄ := F₃.set hn₄ hs₄
    refine wpAny_bind (wpAny_holding (wpAny_assign_Name (wpAny_storeName_local hkv F₄.ns (fun h₅ hn₅ hs₅ => wpAny_pure ?_) hp)))
    replace hs₅ : Heap.SameBut env.locals h₄ h₅ := hs₅
    exact hitem v hv h₅ _ oit' tk ho' (F₄.set hn₅ hs₅) ((N₃.set hs₄).set hs₅)

theorem rangeTurn {x : Str} {px : Pos} {it : Addr} {a left : Int} {Pn Ps : Shared → Prop}
    (hh : A.handled = none) (hki : env.kindOf x = some .local) (hp : (env.scope.kind == .class || (env.scope.kind == .module && env.locals != env.globals)) = false)
    (F : Fr g env.locals s.heap m) (N : News g env.locals s.heap ((it, rangeO a left) :: rest)) (hri : ∀ p ∈ rest, p.1 ≠ it)
    (hend : left ≤ 0 → ∀ h', Fr g env.locals h' m → News g env.locals h' rest → Pn { s with heap := h' })
    (hitem : 0 < left → ∀ h' tk t, Fr g env.locals h' (fun y => if y = x then some (.int a t) else m y) →
      News g env.locals h' ((it, rangeO (a + 1) (left - 1)) :: rest) → Ps { s with heap := h', toks := tk }) :
    ForTurn prog w A env (.Name x px) (.ref it) Pn Ps s := by
  unfold ForTurn
  obtain ⟨H, gs, d, tk, os⟩ := s
  dsimp only at *
  have he := (N _ (.head _)).1
  have Nr : News g env.locals H rest := news_tail N
  have hiL : it ≠ env.locals := (N _ (.head _)).2.1
  have hig : g.get? it = none := (N _ (.head _)).2.2
  by_cases hle : left ≤ 0
  · refine wpAny_pyNext_range_end hh he hle fun h₁ he₁ => ?_
    exact hend hle h₁ (fr_but [it] F (fun b o hb x => he₁ b o (by simpa using hb) x) (by simpa using Ne.symm hiL) (by simpa using hig)) (news_but [it] Nr (fun b o hb x => he₁ b o (by simpa using hb) x) (by simpa using hri))
  · have hlt : 0 < left := by omega
    refine wpAny_pyNext_range_item he hlt fun h₁ he₁ hs₁ => ?_
    replace hs₁ : Heap.SameBut it H h₁ := hs₁
    have k₁ : ∀ b o, b ∉ [it] → H.get? b = some o → h₁.get? b = some o := fun b o hb x => hs₁.extBut b o (by simpa using hb) x
    have F₁ : Fr g env.locals h₁ m := fr_but [it] F k₁ (by simpa using Ne.symm hiL) (by simpa using hig)
    have N₁ : News g env.locals h₁ ((it, rangeO (a + 1) (left - 1)) :: rest) := news_cons he₁ hiL hig (news_but [it] Nr k₁ (by simpa using hri))
    refine wpAny_of_eq (a := ()) rfl ?_
    refine wpAny_assign_Name (wpAny_storeName_local hki F₁.ns (fun h₄ hn₄ hs₄ => ?_) hp)
    replace hs₄ : Heap.SameBut env.locals h₁ h₄ := hs₄
    exact hitem hlt h₄ _ tk (F₁.set hn₄ hs₄) (N₁.set hs₄)

theorem enumStart {L l : Addr} {items : Array Value} {n : Nat} {Q : Value → Shared → Prop} (F : Fr g L s.heap m) (N : News g L s.heap rest) (hl : (l, W.listOf items n) ∈ rest)
    (hQ : ∀ h' e it oit, ItO oit l 0 → Fr g L h' m → News g L h' ((e, enumO it (0 : Nat) .none) :: (it, oit) :: rest) → (∀ q ∈ rest, q.1 < it) → it < e → Q (.ref e) { s with heap := h' }) :
    wpAny (model prog w) A (call (.type "enumerate") [.ref l]) (fun x s₁ => wpAny (model prog w) A (pyIter x) Q (fun _ _ => False) s₁) (fun _ _ => False) s := by
  refine call_enumerate_list (items := items) ⟨_, (N _ hl).1, rfl, n, rfl⟩ fun h' he hit hz hk => ?_
  refine wpAny_pyIter_enum he ?_
  obtain ⟨oit, ho, hoit⟩ := hit
  have hLs : L < s.heap.objs.size := F.ns.lt
  have F' : Fr g L h' m := F.keeps hk
  have hg : ∀ b, s.heap.objs.size ≤ b → g.get? b = none := fun b hb => by
    cases q : g.get? b with
    | none => rfl
    | some o => exact absurd (Heap.lt_size (F.keep b o q)) (Nat.not_lt.mpr hb)
  exact hQ h' _ _ oit hoit F' (news_cons he (Nat.ne_of_gt (Nat.lt_succ_of_lt hLs)) (hg _ (Nat.le_succ _)) (news_cons ho (Nat.ne_of_gt hLs) (hg _ (Nat.le_refl _)) fun p hp => ⟨hk _ _ (N p hp).1, (N p hp).2⟩))
    (fun q hq => Heap.lt_size (N q hq).1) (Nat.lt_succ_self _)

theorem range_size {a b : Int} (hab : a ≤ b) : Builtin.Range.rangeSize a b 1 = b - a := by
  unfold Builtin.Range.rangeSize
  by_cases h : a < b
  · simp [h]
  · have : a = b := by omega
    subst this; simp
theorem range_small {a b : Int} (h0 : 0 ≤ a) (hab : a ≤ b) (hb : b ≤ 100000) : Builtin.Range.small a b 1 = true := by
  unfold Builtin.Range.small
  rw [range_size hab]
  unfold Builtin.Range.rangeFitsLong
  simp only [Bool.and_eq_true, Bool.or_eq_true, decide_eq_true_eq, beq_iff_eq]
  simp
  omega
theorem rangeStart {L r : Addr} {a b : Int} {t u v : Tok} {Q E : Value → Shared → Prop} (F : Fr g L s.heap m) (N : News g L s.heap rest) (hr : IsRange s.heap r a b 1 t u v) (h0 : 0 ≤ a) (hab : a ≤ b) (hb : b ≤ 100000)
    (hQ : ∀ h' it, Fr g L h' m → News g L h' ((it, rangeO a (b - a)) :: rest) → (∀ q ∈ rest, q.1 < it) → Q (.ref it) { s with heap := h' }) :
    wpAny (model prog w) A (pyIter (.ref r)) Q E s := by
  refine wpAny_pyIter_range hr (range_small h0 hab hb) ?_
  rw [range_size hab]
  exact hQ _ _ (F.push _) (N.push F _) fun q hq => Heap.lt_size (N q hq).1
end
end Mine
end
section
open PySem PySem.W PyProof.Rows PySem.Calls
open AutoSeq1 (wpAny_loadPart')
set_option Elab.async false
set_option maxRecDepth 100000
set_option maxHeartbeats 8000000
namespace Mine
abbrev plainO : Obj := { cls := .type "object", data := .plain }
theorem sub_str_object : isSubtype (.type "str") (.type "object") = pure true := by rw [isSubtype_type]; kernel_rfl
theorem slot_object_eq : Slot "object" "__eq__" "object.__eq__" := .of (owner := "object") (n := "__eq__") (by rw [typeLookup_type, builtinLookup_eq_fast]; kernel_rfl) (by decide +kernel) (by decide +kernel) (by decide +kernel)
    (by first | exact .inl (by decide +kernel) | exact .inr (by decide +kernel)) (by rw [isSubtype_type]; kernel_rfl)
theorem entry_object_eq : entryFor table "object.__eq__" = some Builtin.«object.__eq__» := entryFor_of_tree (by kernel_rfl)
theorem args_object_eq (a b : Value) : argsOk "object.__eq__" ⟨[a, b], []⟩ := by unfold argsOk; kernel_rfl
theorem str_eq_declines (b : Str) (u : Tok) (l : Addr) :
    Meets (Builtin.«str.__eq__» ⟨[.str b u, .ref l], []⟩) (fun _ R s => s.heap.get? l = some plainO ∧ R (.ok (.ret .notImplemented)) s) :=
  .of_wp fun prog w A R s h => by obtain ⟨hp, g, d, tk, os⟩ := s; obtain ⟨hl, h⟩ := h; wp_walk using wpAny_loadPart' hl, wpAny_load hl; exact ⟨_, rfl, h⟩
theorem object_eq_declines (b : Str) (u : Tok) (l : Addr) :
    Meets (Builtin.«object.__eq__» ⟨[.ref l, .str b u], []⟩) (fun _ R s => s.heap.get? l = some plainO ∧ R (.ok (.ret .notImplemented)) s) :=
  .of_wp fun prog w A R s h => by obtain ⟨hp, g, d, tk, os⟩ := s; obtain ⟨hl, h⟩ := h; wp_walk using wpAny_loadPart' hl, wpAny_load hl; exact ⟨_, rfl, h⟩
theorem eq_obj_str {prog : Program} {w : World} {A : Around} {E : Value → Shared → Prop} {s : Shared} {x : Addr} {b : Str} {u : Tok} {Q : Value → Shared → Prop} (ho : s.heap.get? x = some plainO) (hu : A.units < cLine) (h : Q (.bool false) s) :
    wpAny (model prog w) A (compareOp .Eq (.ref x) (.str b u)) Q E s := by
  refine cmp_ofEq ?_
  have ha : s.TypeIs (.ref x) "object" := ⟨_, ho, rfl⟩
  have hb : s.TypeIs (.str b u) "str" := typeIs_str s b u
  simp only [richCompare, cmpInfo, ha.oneThing_none]
  try with_reducible refine wpAny_holding ?_
  refine wpAny_bind (wpAny_cRoomFor_or (.inr hu) ?_)
  refine wpAny_bind (wpAny_typeOf ha (wpAny_bind (wpAny_typeOf hb ?_)))
  simp only [show (Value.type "object" != Value.type "str") = true by decide, if_true]
  refine wpAny_bind (wpAny_of_eq sub_str_object ?_)
  simp only [if_true]
  refine wpAny_bind (m := tryCompare (.str b u) _ (.ref x)) (wpAny_tryCompare_declines hb PySem.F.slot_str_eq_refl (call_meets PySem.F.slot_str_eq_refl hb PySem.F.entry_str_eq (PySem.F.args_str_eq_2 _ _) (str_eq_declines b u x) ⟨ho, ⟨rfl, ?_⟩⟩))
  refine wpAny_bind (m := tryCompare (.ref x) _ (.str b u)) (wpAny_tryCompare_declines ha slot_object_eq (call_meets slot_object_eq ha entry_object_eq (args_object_eq _ _) (object_eq_declines b u x) ⟨ho, ⟨rfl, ?_⟩⟩))
  simp only [Bool.not_true, Bool.false_eq_true, if_false]
  exact wpAny_bind (wpAny_rule (wpAny_bind (wpAny_isSame_plain rfl (wpAny_pure h))))
end Mine
end
section
open PySem PySem.W PyProof.Rows PySem.Calls
set_option Elab.async false
set_option maxRecDepth 100000
set_option maxHeartbeats 8000000
namespace Mine
theorem if_pos_p {c : Prop} [Decidable c] {a b : Prop} (hc : c) (h : a) : if c then a else b := by rw [if_pos hc]; exact h
theorem if_neg_p {c : Prop} [Decidable c] {a b : Prop} (hc : ¬ c) (h : b) : if c then a else b := by rw [if_neg hc]; exact h
theorem fillup4 : PySem.Challenge.rw_oy0181_01 = PySem.Challenge.rw_oy0181_01 ∧ KK = KK := by k_fill; exact ⟨rfl, rfl⟩
variable {prog : Program} {w : World} {p : Program} {loose : List Str} {mean : ExcName → Option Value} {mg mb : Str → Option Value}

/-- what is asked behind, under one letter -/
theorem hideQ {α : Type} {M : Model} {A : Around} {t : Sem α} {Q : α → Shared → Prop} {E : Value → Shared → Prop} {s : Shared} (h : ∀ R : α → Shared → Prop, (∀ v s, Q v s → R v s) → wpAny M A t R E s) : wpAny M A t Q E s := h Q fun _ _ x => x
abbrev OS := List (Option (Str × Tok))
def ov (nu : Addr) : Option (Str × Tok) → Value
  | none => .ref nu
  | some p => .str p.1 p.2
def OV (nu : Addr) (l : OS) : List Value := l.map (ov nu)
def isK (k : Str) : Option (Str × Tok) → Bool
  | none => false
  | some p => p.1 == k
def nulK (k : Str) (l : OS) : OS := l.map fun x => if isK k x then none else x
def cntK (k : Str) (l : OS) : Nat := l.countP (isK k)
abbrev RTy := List (Int × Int × (Str × Tok))
def step1 (st : OS × OS × RTy) (i : Nat) : OS × OS × RTy := match st.1[i]? with
  | some (some p) => (st.1.take i ++ nulK p.1 (st.1.drop i), nulK p.1 st.2.1,
      if (cntK p.1 (st.1.drop i) : Int) ≠ cntK p.1 st.2.1 then st.2.2 ++ [((cntK p.1 (st.1.drop i) : Int), (cntK p.1 st.2.1 : Int), p)] else st.2.2)
  | _ => st
def step2 (st : OS × RTy) (i : Nat) : OS × RTy := match st.1[i]? with
  | some (some p) => (st.1.take i ++ nulK p.1 (st.1.drop i), st.2 ++ [(0, (cntK p.1 (st.1.drop i) : Int), p)])
  | _ => st
def cd1 (xs ys : List (Str × Tok)) : OS × OS × RTy := (List.range xs.length).foldl step1 (xs.map some, ys.map some, [])
def cdF (xs ys : List (Str × Tok)) : RTy := ((List.range ys.length).foldl step2 ((cd1 xs ys).2.1, (cd1 xs ys).2.2)).2
/-- the ledger's Mismatch objects and what they say -/
def MMs (mms : List (Addr × Obj)) (res : RTy) : Prop := Paired (fun m (r : Int × Int × (Str × Tok)) => ∃ t1 t2 dx, m.2 = mmObj (.int r.1 t1) (.int r.2.1 t2) (.str r.2.2.1 r.2.2.2) dx) mms res
abbrev refs (mms : List (Addr × Obj)) : List Value := mms.map fun m => Value.ref m.1
theorem eq_ov {A : Around} {E : Value → Shared → Prop} {s : Shared} {nu : Addr} {o : Option (Str × Tok)} {k : Str} {u : Tok} {Q : Value → Shared → Prop} (ho : s.heap.get? nu = some plainO) (hu : A.units < cLine) (h : Q (.bool (isK k o)) s) :
    wpAny (model prog w) A (compareOp .Eq (ov nu o) (.str k u)) Q E s := by
  cases o with
  | none => exact eq_obj_str ho hu h
  | some p => exact cmp_ofEq (PySem.SeqAt.RcAt.str_str p.1 p.2 k u prog w E Q h)
/-- the first r places of the back part are done -/
def nulR (k : Str) (i r : Nat) (l : OS) : OS := l.take i ++ (nulK k ((l.drop i).take r) ++ (l.drop i).drop r)
theorem nulR_zero (k : Str) (i : Nat) (l : OS) : nulR k i 0 l = l := by simp [nulR, nulK]
theorem nulR_all (k : Str) (i r : Nat) (l : OS) (h : l.length ≤ i + r) : nulR k i r l = l.take i ++ nulK k (l.drop i) := by
  have h1 : (l.drop i).length ≤ r := by rw [List.length_drop]; omega
  simp [nulR, List.take_of_length_le h1, List.drop_eq_nil_of_le h1, nulK]
theorem nulR_get (k : Str) (i r : Nat) (l : OS) (h : i + r < l.length) : (nulR k i r l)[i + r]? = l[i + r]? := by
  unfold nulR
  rw [List.getElem?_append_right (by simp; omega)]
  rw [List.getElem?_append_right (by simp [nulK]; omega)]
  simp [nulK, List.length_take, List.length_drop]
  congr 1; omega
theorem nulR_succ (k : Str) (i r : Nat) (l : OS) (o : Option (Str × Tok)) (h : l[i + r]? = some o) : nulR k i (r + 1) l = if isK k o then (nulR k i r l).set (i + r) none else nulR k i r l := by
  have hlt : i + r < l.length := (List.getElem?_eq_some_iff.mp h).1
  have hd : (l.drop i).drop r = o :: (l.drop i).drop (r + 1) := by
    rw [List.drop_drop, List.drop_drop, List.drop_eq_getElem_cons hlt]
    congr 1
    rw [List.getElem?_eq_getElem hlt] at h; exact Option.some.inj h
  have ht : (l.drop i).take (r + 1) = (l.drop i).take r ++ [o] := by
    rw [List.take_add_one, List.getElem?_drop, h]; rfl
  have hl1 : (l.take i).length = i := by simp; omega
  have hl2 : (nulK k ((l.drop i).take r)).length = r := by simp [nulK]; omega
  unfold nulR
  rw [ht, hd]
  by_cases q : isK k o = true
  · rw [if_pos q, List.set_append_right _ _ (by omega), hl1, List.set_append_right _ _ (by omega), hl2]
    simp [nulK, q]
  · rw [if_neg q]
    simp [nulK, q]
theorem cntK_succ (k : Str) (i r : Nat) (l : OS) (o : Option (Str × Tok)) (h : l[i + r]? = some o) : cntK k ((l.drop i).take (r + 1)) = cntK k ((l.drop i).take r) + (if isK k o then 1 else 0) := by
  have ht : (l.drop i).take (r + 1) = (l.drop i).take r ++ [o] := by
    rw [List.take_add_one, List.getElem?_drop, h]; rfl
  rw [ht]
  simp [cntK, List.countP_cons]
theorem OV_set (nu : Addr) (l : OS) (j : Nat) (o : Option (Str × Tok)) : OV nu (l.set j o) = (OV nu l).set j (ov nu o) := by simp [OV, List.map_set]
theorem OV_length (nu : Addr) (l : OS) : (OV nu l).length = l.length := List.length_map ..
theorem nulR_length (k : Str) (i r : Nat) (l : OS) : (nulR k i r l).length = l.length := by
  simp [nulR, nulK]; omega

theorem MMs_snoc {mms : List (Addr × Obj)} {res : RTy} {x : Addr} {a b : Int} {t1 t2 : Tok} {p : Str × Tok} {dx : Addr} (h : MMs mms res) :
    MMs (mms ++ [(x, mmObj (.int a t1) (.int b t2) (.str p.1 p.2) dx)]) (res ++ [(a, b, p)]) := h.snoc ⟨t1, t2, dx, rfl⟩
theorem appendL {A : Around} {E : Value → Shared → Prop} {s : Shared} {h₀ : Heap} {L D : Addr} {m : Str → Option Value} (pre post : List (Addr × Obj)) {its : Array Value} {n : Nat} {x : Value} {Q : Value → Shared → Prop}
    (F : Fr h₀ L s.heap m) (N : News h₀ L s.heap (pre ++ (D, W.listOf its n) :: post)) (h1 : ∀ p ∈ pre, p.1 ≠ D) (h2 : ∀ p ∈ post, p.1 ≠ D) (hsz : its.size ≤ sizeLine)
    (h : ∀ h', Fr h₀ L h' m → News h₀ L h' (pre ++ (D, W.listOf (its.push x) (n + 1)) :: post) → Q .none { s with heap := h' }) : wpAny (model prog w) A (call (.builtin "list.append") [.ref D, x]) Q E s := by
  have z := N (D, W.listOf its n) (List.mem_append.mpr (.inr (.head _)))
  exact append_at (hsz := hsz) z.1 fun h' hs ho' => h h' (F.change hs z.2.1 z.2.2) (news_set N h1 h2 hs ho')

theorem cd_call (dp un : Nat) (gd : Option (List Code)) (fr : Option (List Env)) (h₀ : Heap) (s : Shared) (Q E : Value → Shared → Prop)
   (a b : Addr) (xs ys : List (Str × Tok)) (n k : Nat)
   (X : (KK w.params).In h₀) (T : Top p loose mean mg mb h₀) (hst : h₀.StaysIn s.heap) (hdp : dp + 20 < recursionLimit) (hun : un + 100 < cLine)
   (ha : s.heap.get? a = some (LS xs n)) (hb : s.heap.get? b = some (LS ys k)) (hxs : xs.length ≤ 1000) (hys : ys.length ≤ 1000)
   (hQ : ∀ h' tk R nR mms, (∀ y o, s.heap.get? y = some o → h'.get? y = some o) → s.heap.get? R = none → (∀ q ∈ mms, s.heap.get? q.1 = none ∧ q.1 ≠ R) → h'.get? R = some (W.listOf (refs mms).toArray nR) →
      (∀ q ∈ mms, h'.get? q.1 = some q.2) → MMs mms (cdF xs ys) → mms.length ≤ xs.length + ys.length → Q (.ref R) { s with heap := h', toks := tk })
   : wpAny (model prog w) (Ar dp un gd fr) (call (.ref 152) [.ref a, .ref b]) Q E s := by
  refine' callM (binds := [("actual", .ref a), ("expected", .ref b)]) [] X T hst ?a ?b ?ep ?eb ?es ?c ?d ?e ?f ?_ ?g ?h ?i ?j
  case a => exact fun _ h => nomatch h
  case b => k_is
  case ep => conv => lhs; whnf
  case eb => conv => lhs; whnf
  case es => conv => lhs; whnf
  case c => k_is
  case d => show dp < _; omega
  case e => exact BindsTo.of_eq rfl
  case f => exact locs rfl
  case g => decide
  case h => rfl
  case i => rfl
  case j => rfl
  intro g L' h₁ F' N' X' TT hlt0 hg
  clear X T
  have hA : g.IsList a (SV xs).toArray := ⟨_, hg a _ ha (fun q => nomatch q), rfl, n, rfl⟩
  have hB : g.IsList b (SV ys).toArray := ⟨_, hg b _ hb (fun q => nomatch q), rfl, k, rfl⟩
  (repeat' (first | ((with_reducible show @ite Prop _ _ _ _); first | refine if_pos_p (by decide) ?_ | refine if_neg_p (by decide) ?_) | ((with_reducible show wpAny _ _ _ _ _ _); (fail_if_success (with_reducible (first | refine at1 ?_ | refine at2 ?_ | refine at3 ?_ | refine at5 ?_ | refine at6 ?_ | refine at7 ?_ | refine at8 ?_ | refine at9 ?_))); (try dsimp only); walk1)))
  with_reducible refine' PySem.W.list_copyK (items := (SV xs).toArray) ?k1 ?k2 ?k3 ?_ ?z
  case k1 => exact F'
  case k2 => exact N'
  case k3 => exact stays_list F'.keep hA
  case z => simp only [List.size_toArray, SV_length, sizeLine_eq]; omega
  clear F' N'
  intro S c1 h2 F2 N2 l2
  (repeat' (first | ((with_reducible show @ite Prop _ _ _ _); first | refine if_pos_p (by decide) ?_ | refine if_neg_p (by decide) ?_) | ((with_reducible show wpAny _ _ _ _ _ _); (fail_if_success (with_reducible (first | refine at1 ?_ | refine at2 ?_ | refine at3 ?_ | refine at5 ?_ | refine at6 ?_ | refine at7 ?_ | refine at8 ?_ | refine at9 ?_))); (try dsimp only); walk1)))
  with_reducible refine' PySem.W.list_copyK (items := (SV ys).toArray) ?k1 ?k2 ?k3 ?_ ?z
  case k1 => exact F2
  case k2 => exact N2
  case k3 => exact stays_list F2.keep hB
  case z => simp only [List.size_toArray, SV_length, sizeLine_eq]; omega
  clear F2 N2
  intro D c2 h3 F3 N3 l3
  have l4 : S < D := l3 _ (.head _)
  clear l2 l3
  (repeat' (first | ((with_reducible show @ite Prop _ _ _ _); first | refine if_pos_p (by decide) ?_ | refine if_neg_p (by decide) ?_) | ((with_reducible show wpAny _ _ _ _ _ _); (fail_if_success (with_reducible (first | refine at1 ?_ | refine at2 ?_ | refine at3 ?_ | refine at5 ?_ | refine at6 ?_ | refine at7 ?_ | refine at8 ?_ | refine at9 ?_))); (try dsimp only); walk1)))
  rename_i Dt h4 l5 h5 h6 h7 F7 N7
  have N8 := news_tail N7
  clear N7 l5
  with_reducible refine' len_list (items := (SV xs).toArray) ?a ?b ?_
  case a => exact ⟨_, (N8 _ (.tail _ (.head _))).1, rfl, c1, rfl⟩
  case b => simp only [List.size_toArray, SV_length]; omega
  (repeat' (first | ((with_reducible show @ite Prop _ _ _ _); first | refine if_pos_p (by decide) ?_ | refine if_neg_p (by decide) ?_) | ((with_reducible show wpAny _ _ _ _ _ _); (fail_if_success (with_reducible (first | refine at1 ?_ | refine at2 ?_ | refine at3 ?_ | refine at5 ?_ | refine at6 ?_ | refine at7 ?_ | refine at8 ?_ | refine at9 ?_))); (try dsimp only); walk1)))
  with_reducible refine' len_list (items := (SV ys).toArray) ?a ?b ?_
  case a => exact ⟨_, (N8 _ (.head _)).1, rfl, c2, rfl⟩
  case b => simp only [List.size_toArray, SV_length]; omega
  (repeat' (first | ((with_reducible show @ite Prop _ _ _ _); first | refine if_pos_p (by decide) ?_ | refine if_neg_p (by decide) ?_) | ((with_reducible show wpAny _ _ _ _ _ _); (fail_if_success (with_reducible (first | refine at1 ?_ | refine at2 ?_ | refine at3 ?_ | refine at5 ?_ | refine at6 ?_ | refine at7 ?_ | refine at8 ?_ | refine at9 ?_))); (try dsimp only); walk1)))
  rename_i tk2 Dt2 h8 l6 h9 h10 h11 F11 N11
  have N12 := news_tail N11
  clear N11 l6
  with_reducible refine' object_call ?_
  have F13 := F11.push { cls := .type "object", data := .plain }
  have N13 := N12.push F11 { cls := .type "object", data := .plain }
  have l7 : D < h11.objs.size := Heap.lt_size (N12 _ (.head _)).1
  clear F11 N12
  dsimp only
  generalize h11.push { cls := .type "object", data := .plain } = h12 at F13 N13 ⊢
  generalize h11.objs.size = NU at N13 l7 ⊢
  (repeat' (first | ((with_reducible show @ite Prop _ _ _ _); first | refine if_pos_p (by decide) ?_ | refine if_neg_p (by decide) ?_) | ((with_reducible show wpAny _ _ _ _ _ _); (fail_if_success (with_reducible (first | refine at1 ?_ | refine at2 ?_ | refine at3 ?_ | refine at5 ?_ | refine at6 ?_ | refine at7 ?_ | refine at8 ?_ | refine at9 ?_))); (try dsimp only); walk1)))
  rename_i h13 tk3 R h14 l8 h15 F15 N15
  refine wpAny_mono (E := fun _ _ => False) (Q := fun f s' => f = .next ∧ ∃ h tk mm S' T' res mms nR nS nD, s' = { s with heap := h, toks := tk } ∧ Fr g L' h mm ∧
    mm "s" = some (.ref S) ∧ mm "t" = some (.ref D) ∧ mm "m" = some (.int (SV xs).toArray.size (tk2 + 1)) ∧ mm "n" = some (.int (SV ys).toArray.size (tk2 + 1 + 1 + 1)) ∧ mm "NULL" = some (.ref NU) ∧ mm "result" = some (.ref R) ∧
    News g L' h ((R, W.listOf (refs mms).toArray nR) :: (NU, { cls := .type "object", data := .plain }) :: (D, W.listOf (OV NU T').toArray nD) :: (S, W.listOf (OV NU S').toArray nS) :: mms) ∧
    cd1 xs ys = (S', T', res) ∧ MMs mms res ∧ (∀ q ∈ mms, q.1 ≠ R ∧ q.1 ≠ NU ∧ q.1 ≠ D ∧ q.1 ≠ S) ∧ mms.length ≤ xs.length ∧ T'.length = ys.length) ?loop1 ?rest (fun _ _ x => x)
  case rest =>
    rintro f s' ⟨rfl, h40, tk40, mm0, S0, T0, res0, mms0, nR0, nS0, nD0, rfl, F40, eS, eT, eM, eN, eU, eR, N40, hcd, hM0, hlt0, hml0, hTl0⟩
    have F41 := Fr.know (x := "result") (v := .ref R) (Fr.know (x := "NULL") (v := .ref NU) (Fr.know (x := "n") (v := .int (SV ys).toArray.size (tk2 + 1 + 1 + 1)) (Fr.know (x := "t") (v := .ref D) F40 eT) eN) eU) eR
    clear F40
    dsimp only
    (repeat' (first | ((with_reducible show @ite Prop _ _ _ _); first | refine if_pos_p (by decide) ?_ | refine if_neg_p (by decide) ?_) | ((with_reducible show wpAny _ _ _ _ _ _); (fail_if_success (with_reducible (first | refine at1 ?_ | refine at2 ?_ | refine at3 ?_ | refine at5 ?_ | refine at6 ?_ | refine at7 ?_ | refine at8 ?_ | refine at9 ?_))); (try dsimp only); walk1)))
    refine wpAny_mono (E := fun _ _ => False) (Q := fun f s' => f = .next ∧ ∃ h tk mm T' mms nR nD, s' = { s with heap := h, toks := tk } ∧ Fr g L' h mm ∧ mm "result" = some (.ref R) ∧
      News g L' h ((R, W.listOf (refs mms).toArray nR) :: (NU, { cls := .type "object", data := .plain }) :: (D, W.listOf (OV NU T').toArray nD) :: (S, W.listOf (OV NU S0).toArray nS0) :: mms) ∧
      MMs mms (cdF xs ys) ∧ (∀ q ∈ mms, q.1 ≠ R) ∧ mms.length ≤ xs.length + ys.length) ?loop2 ?fin (fun _ _ x => x)
    case fin =>
      rintro f s' ⟨rfl, h50, tk50, mm5, T5, mms5, nR5, nD5, rfl, F50, eR5, N50, hM5, hlt5, hml5⟩
      have F51 := Fr.know (x := "result") (v := .ref R) F50 eR5
      clear F50
      dsimp only
      (repeat' (first | ((with_reducible show @ite Prop _ _ _ _); first | refine if_pos_p (by decide) ?_ | refine if_neg_p (by decide) ?_) | ((with_reducible show wpAny _ _ _ _ _ _); (fail_if_success (with_reducible (first | refine at1 ?_ | refine at2 ?_ | refine at3 ?_ | refine at5 ?_ | refine at6 ?_ | refine at7 ?_ | refine at8 ?_ | refine at9 ?_))); (try dsimp only); walk1)))
      have hnew : ∀ y, g.get? y = none → s.heap.get? y = none := fun y hy => by
        cases q : s.heap.get? y with
        | none => rfl
        | some o => rw [hg y o q (fun q => nomatch q)] at hy; cases hy
      exact hQ h50 _ R nR5 mms5 (fun y o hy => F51.keep y o (hg y o hy (fun q => nomatch q))) (hnew R (N50 _ (.head _)).2.2) (fun q hq => ⟨hnew q.1 (N50 _ (.tail _ (.tail _ (.tail _ (.tail _ hq))))).2.2, hlt5 q hq⟩)
        (N50 _ (.head _)).1 (fun q hq => (N50 _ (.tail _ (.tail _ (.tail _ (.tail _ hq))))).1) hM5 hml5
    case loop2 =>
      refine hideQ fun Rl hRl => ?_
      refine forM ?_
      (repeat' (first | ((with_reducible show @ite Prop _ _ _ _); first | refine if_pos_p (by decide) ?_ | refine if_neg_p (by decide) ?_) | ((with_reducible show wpAny _ _ _ _ _ _); (fail_if_success (with_reducible (first | refine at1 ?_ | refine at2 ?_ | refine at3 ?_ | refine at5 ?_ | refine at6 ?_ | refine at7 ?_ | refine at8 ?_ | refine at9 ?_))); (try dsimp only); walk1)))
      with_reducible refine' enumStart (items := (OV NU T0).toArray) (n := nD0) ?e1 ?e2 ?e3 ?_
      case e1 => exact F41
      case e2 => exact N40
      case e3 => exact .tail _ (.tail _ (.head _))
      intro h16 e it oit ho F16 N16 lr lie
      refine ⟨fun k s' => ∃ h tk mm i T' res mms oit old nR nD, s' = { s with heap := h, toks := tk } ∧ Fr g L' h mm ∧
        mm "t" = some (.ref D) ∧ mm "n" = some (.int (SV ys).toArray.size (tk2 + 1 + 1 + 1)) ∧ mm "NULL" = some (.ref NU) ∧ mm "result" = some (.ref R) ∧
        News g L' h ((e, enumO it (i : Nat) old) :: (it, oit) :: (R, W.listOf (refs mms).toArray nR) :: (NU, { cls := .type "object", data := .plain }) :: (D, W.listOf (OV NU T').toArray nD) :: (S, W.listOf (OV NU S0).toArray nS0) :: mms) ∧
        ItO oit D i ∧ (List.range i).foldl step2 (T0, res0) = (T', res) ∧ MMs mms res ∧ (∀ q ∈ mms, q.1 ≠ e ∧ q.1 ≠ it ∧ q.1 ≠ R ∧ q.1 ≠ NU ∧ q.1 ≠ D ∧ q.1 ≠ S) ∧ i ≤ ys.length ∧ k = ys.length + 1 - i ∧ T'.length = ys.length ∧ mms.length ≤ xs.length + i,
        ys.length + 1, ?init, ?turn⟩
      case init =>
        refine ⟨h16, _, _, 0, T0, res0, mms0, oit, .none, nR0, nD0, rfl, F16, rfl, rfl, rfl, rfl, N16, ho, rfl, hM0, ?_, Nat.zero_le _, rfl, hTl0, hml0⟩
        intro q hq
        have hit : q.1 < it := lr q (.tail _ (.tail _ (.tail _ (.tail _ hq))))
        exact ⟨Nat.ne_of_lt (Nat.lt_trans hit lie), Nat.ne_of_lt hit, hlt0 q hq⟩
      case turn =>
        rintro k s' ⟨h, tk, mm, i, T', res, mms, oit, old, nR, nD, rfl, F, eT, eN, eU, eR, N, ho, hf, hM, hlt, hi, rfl, hTl, hml⟩
        clear F41 N40 F16 N16
        have lR : R < it := lr (R, _) (.head _)
        have lU : NU < it := lr (NU, _) (.tail _ (.head _))
        have lD : D < it := lr (D, _) (.tail _ (.tail _ (.head _)))
        have lS : S < it := lr (S, _) (.tail _ (.tail _ (.tail _ (.head _))))
        have hne : ∀ q ∈ ((R, W.listOf (refs mms).toArray nR) :: (NU, ({ cls := .type "object", data := .plain } : Obj)) :: (D, W.listOf (OV NU T').toArray nD) :: (S, W.listOf (OV NU S0).toArray nS0) :: mms), q.1 ≠ e ∧ q.1 ≠ it := by
          intro q hq
          rcases List.mem_cons.mp hq with rfl | hq
          · exact ⟨Nat.ne_of_lt (Nat.lt_trans lR lie), Nat.ne_of_lt lR⟩
          rcases List.mem_cons.mp hq with rfl | hq
          · exact ⟨Nat.ne_of_lt (Nat.lt_trans lU lie), Nat.ne_of_lt lU⟩
          rcases List.mem_cons.mp hq with rfl | hq
          · exact ⟨Nat.ne_of_lt (Nat.lt_trans lD lie), Nat.ne_of_lt lD⟩
          rcases List.mem_cons.mp hq with rfl | hq
          · exact ⟨Nat.ne_of_lt (Nat.lt_trans lS lie), Nat.ne_of_lt lS⟩
          · exact ⟨(hlt q hq).1, (hlt q hq).2.1⟩
        with_reducible refine' enumTurn (items := (OV NU T').toArray) (n := nD) ?t1 ?t2 ?t3 ?t4 ?t5 ?t6 ?t7 ?t8 ?t9 ?t10 ?t11 ?tend ?titem
        case t1 => rfl
        case t2 => rfl
        case t3 => rfl
        case t4 => rfl
        case t5 => exact F
        case t6 => exact N
        case t7 => exact ho
        case t8 => exact .tail _ (.tail _ (.head _))
        case t9 => exact Nat.ne_of_gt lie
        case t10 => exact fun q hq => (hne q hq).1
        case t11 => exact fun q hq => (hne q hq).2
        case tend =>
          intro hv h17 F17 N17
          have hil : i = ys.length := by
            have : (OV NU T').length ≤ i := by simpa using hv
            have h2 : (OV NU T').length = T'.length := List.length_map ..
            omega
          subst hil
          (repeat' (first | ((with_reducible show @ite Prop _ _ _ _); first | refine if_pos_p (by decide) ?_ | refine if_neg_p (by decide) ?_) | ((with_reducible show wpAny _ _ _ _ _ _); (fail_if_success (with_reducible (first | refine at1 ?_ | refine at2 ?_ | refine at3 ?_ | refine at5 ?_ | refine at6 ?_ | refine at7 ?_ | refine at8 ?_ | refine at9 ?_))); (try dsimp only); walk1)))
          refine hRl _ _ ?_
          refine ⟨rfl, h17, _, mm, T', mms, nR, nD, rfl, F17, eR, N17, ?_, (fun q hq => (hlt q hq).2.2.1), hml⟩
          have : cdF xs ys = res := by rw [cdF, hcd, hf]
          rw [this]; exact hM
        case titem =>
          intro v hv h17 tk17 oit' ti ho' F17 N17
          refine hideQ fun Rq hRq => ?_
          replace F17 : Fr g L' h17 _ := F17
          replace N17 : News g L' h17 _ := N17
          have hv' : (T'[i]?).map (ov NU) = some v := by simpa [OV] using hv
          obtain ⟨o, ho1, ho2⟩ := Option.map_eq_some_iff.mp hv'
          have hiT : i < T'.length := (List.getElem?_eq_some_iff.mp ho1).1
          have F18 := Fr.know (x := "result") (v := .ref R) (Fr.know (x := "NULL") (v := .ref NU) (Fr.know (x := "n") (v := .int (SV ys).toArray.size (tk2 + 1 + 1 + 1)) (Fr.know (x := "t") (v := .ref D) F17 eT) eN) eU) eR
          clear F17 F N
          cases o with
          | none =>
            subst ho2
            dsimp only [ov] at F18 N17 hv ⊢
            (repeat' (first | ((with_reducible show @ite Prop _ _ _ _); first | refine if_pos_p (by decide) ?_ | refine if_neg_p (by decide) ?_) | ((with_reducible show wpAny _ _ _ _ _ _); (fail_if_success (with_reducible (first | refine at1 ?_ | refine at2 ?_ | refine at3 ?_ | refine at5 ?_ | refine at6 ?_ | refine at7 ?_ | refine at8 ?_ | refine at9 ?_))); (try dsimp only); walk1)))
            refine hRq _ _ ?_
            refine ⟨ys.length + 1 - (i + 1), by omega, h17, _, _, i + 1, T', res, mms, oit', _, nR, nD, rfl, F18, rfl, rfl, rfl, rfl, N17, ho', ?_, hM, hlt, by omega, rfl, hTl, by omega⟩
            rw [List.range_succ, List.foldl_append, hf]
            simp only [List.foldl_cons, List.foldl_nil, step2, ho1]
          | some p =>
            subst ho2
            dsimp only [ov] at F18 N17 hv ⊢
            (repeat' (first | ((with_reducible show @ite Prop _ _ _ _); first | refine if_pos_p (by decide) ?_ | refine if_neg_p (by decide) ?_) | ((with_reducible show wpAny _ _ _ _ _ _); (fail_if_success (with_reducible (first | refine at1 ?_ | refine at2 ?_ | refine at3 ?_ | refine at5 ?_ | refine at6 ?_ | refine at7 ?_ | refine at8 ?_ | refine at9 ?_))); (try dsimp only); walk1)))
            refine wpAny_is_other rfl nofun ?_
            (repeat' (first | ((with_reducible show @ite Prop _ _ _ _); first | refine if_pos_p (by decide) ?_ | refine if_neg_p (by decide) ?_) | ((with_reducible show wpAny _ _ _ _ _ _); (fail_if_success (with_reducible (first | refine at1 ?_ | refine at2 ?_ | refine at3 ?_ | refine at5 ?_ | refine at6 ?_ | refine at7 ?_ | refine at8 ?_ | refine at9 ?_))); (try dsimp only); walk1)))
            rename_i h19 F19 N19
            refine wpAny_mono (E := fun _ _ => False) (Q := fun f s' => f = .next ∧ ∃ h tk mm nD t1, s' = { s with heap := h, toks := tk } ∧ Fr g L' h mm ∧
              mm "t" = some (.ref D) ∧ mm "n" = some (.int (SV ys).toArray.size (tk2 + 1 + 1 + 1)) ∧ mm "NULL" = some (.ref NU) ∧ mm "result" = some (.ref R) ∧
              mm "elem" = some (.str p.1 p.2) ∧ mm "cnt_t" = some (.int (cntK p.1 (T'.drop i)) t1) ∧
              News g L' h ((e, enumO it (i + 1 : Nat) (.str p.1 p.2)) :: (it, oit') :: (R, W.listOf (refs mms).toArray nR) :: (NU, { cls := .type "object", data := .plain }) :: (D, W.listOf (OV NU (T'.take i ++ nulK p.1 (T'.drop i))).toArray nD) :: (S, W.listOf (OV NU S0).toArray nS0) :: mms)) ?l1 ?r1 (fun _ _ x => x)
            case r1 =>
              rintro f s' ⟨rfl, h30, tk30, mm3, nD2, t2, rfl, F30, eT3, eN3, eU3, eR3, eE3, eCt3, N30⟩
              have F31 := Fr.know (x := "result") (v := .ref R) (Fr.know (x := "elem") (v := .str p.1 p.2) (Fr.know (x := "cnt_t") (v := .int (cntK p.1 (T'.drop i)) t2) F30 eCt3) eE3) eR3
              clear F30
              dsimp only
              (repeat' (first | ((with_reducible show @ite Prop _ _ _ _); first | refine if_pos_p (by decide) ?_ | refine if_neg_p (by decide) ?_) | ((with_reducible show wpAny _ _ _ _ _ _); (fail_if_success (with_reducible (first | refine at1 ?_ | refine at2 ?_ | refine at3 ?_ | refine at5 ?_ | refine at6 ?_ | refine at7 ?_ | refine at8 ?_ | refine at9 ?_))); (try dsimp only); walk1)))
              refine ⟨X'.keeps F31.keep, ?_⟩
              refine mm_call (dp + 1) (un + 3) gd _ g _ _ _ _ _ _ X' TT F31.keep (by omega) (by omega) ?_
              intro h32 x dx tk32 hk32 hx0 hx
              dsimp only at hk32 hx0 hx ⊢
              have F32 := F31.keeps hk32
              have hgx : g.get? x = none := by
                cases z : g.get? x with
                | none => rfl
                | some o => rw [F31.keep x o z] at hx0; cases hx0
              have hne6 : ∀ q ∈ ((e, enumO it (i + 1 : Nat) (.str p.1 p.2)) :: (it, oit') :: (R, W.listOf (refs mms).toArray nR) :: (NU, ({ cls := .type "object", data := .plain } : Obj)) :: (D, W.listOf (OV NU (T'.take i ++ nulK p.1 (T'.drop i))).toArray nD2) :: (S, W.listOf (OV NU S0).toArray nS0) :: mms), x ≠ q.1 := by
                intro q hq z
                have := (N30 q hq).1
                rw [← z, hx0] at this; cases this
              have hxL : x ≠ L' := fun z => by
                obtain ⟨oL, _, _, hoL, _⟩ := F31.ns
                rw [← z, hx0] at hoL; cases hoL
              have N32 := news_cons hx hxL hgx (fun q hq => ⟨hk32 _ _ (N30 q hq).1, (N30 q hq).2⟩ : News g L' h32 _)
              clear F31 N30 hx
              (repeat' (first | ((with_reducible show @ite Prop _ _ _ _); first | refine if_pos_p (by decide) ?_ | refine if_neg_p (by decide) ?_) | ((with_reducible show wpAny _ _ _ _ _ _); (fail_if_success (with_reducible (first | refine at1 ?_ | refine at2 ?_ | refine at3 ?_ | refine at5 ?_ | refine at6 ?_ | refine at7 ?_ | refine at8 ?_ | refine at9 ?_))); (try dsimp only); walk1)))
              rename_i h33 F33 N33
              refine appendL [(x, _), (e, _), (it, _)] _ F33 N33 ?_ ?_ ?_ ?_
              · intro q hq
                simp only [List.mem_cons, List.not_mem_nil, or_false] at hq
                rcases hq with rfl | rfl | rfl
                · exact hne6 (R, _) (.tail _ (.tail _ (.head _)))
                · exact Nat.ne_of_gt (Nat.lt_trans lR lie)
                · exact Nat.ne_of_gt lR
              · intro q hq
                rcases List.mem_cons.mp hq with rfl | hq
                · exact Nat.ne_of_lt l8.1
                rcases List.mem_cons.mp hq with rfl | hq
                · exact Nat.ne_of_lt l8.2.1
                rcases List.mem_cons.mp hq with rfl | hq
                · exact Nat.ne_of_lt l8.2.2
                · exact (hlt q hq).2.2.1
              · simp only [List.size_toArray, List.length_map, sizeLine_eq]; omega
              intro h34 F34 N34
              clear F33 N33
              (repeat' (first | ((with_reducible show @ite Prop _ _ _ _); first | refine if_pos_p (by decide) ?_ | refine if_neg_p (by decide) ?_) | ((with_reducible show wpAny _ _ _ _ _ _); (fail_if_success (with_reducible (first | refine at1 ?_ | refine at2 ?_ | refine at3 ?_ | refine at5 ?_ | refine at6 ?_ | refine at7 ?_ | refine at8 ?_ | refine at9 ?_))); (try dsimp only); walk1)))
              refine hRq _ _ ?_
              refine ⟨ys.length + 1 - (i + 1), by omega, h34, _, _, i + 1, T'.take i ++ nulK p.1 (T'.drop i), res ++ [((0 : Int), (cntK p.1 (T'.drop i) : Int), p)], mms ++ [(x, mmObj (.int 0 tk30) (.int (cntK p.1 (T'.drop i)) t2) (.str p.1 p.2) dx)], oit', .str p.1 p.2, nR + 1, nD2, rfl, F34, eT3, eN3, eU3, rfl, ?_, ho', ?_, ?_, ?_, by omega, rfl, ?_, ?_⟩
              · rw [show (refs (mms ++ [(x, mmObj (.int 0 tk30) (.int (cntK p.1 (T'.drop i)) t2) (.str p.1 p.2) dx)])).toArray = (refs mms).toArray.push (.ref x) by simp [refs]]
                intro q hq
                apply N34 q
                simp only [List.mem_cons, List.mem_append, List.not_mem_nil, or_false] at hq ⊢
                rcases hq with h | h | h | h | h | h | h | h <;> simp [h]
              · rw [List.range_succ, List.foldl_append, hf]
                simp only [List.foldl_cons, List.foldl_nil, step2, ho1]
              · exact MMs_snoc hM
              · intro q hq
                rcases List.mem_append.mp hq with hq | hq
                · exact hlt q hq
                · rw [List.mem_singleton] at hq
                  subst hq
                  exact ⟨hne6 (e, _) (.head _), hne6 (it, _) (.tail _ (.head _)), hne6 (R, _) (.tail _ (.tail _ (.head _))), hne6 (NU, _) (.tail _ (.tail _ (.tail _ (.head _)))), hne6 (D, _) (.tail _ (.tail _ (.tail _ (.tail _ (.head _))))), hne6 (S, _) (.tail _ (.tail _ (.tail _ (.tail _ (.tail _ (.head _))))))⟩
              · simp [nulK]; omega
              · simp; omega
            case l1 =>
              refine hideQ fun Rl hRl => ?_
              refine forM ?_
              (repeat' (first | ((with_reducible show @ite Prop _ _ _ _); first | refine if_pos_p (by decide) ?_ | refine if_neg_p (by decide) ?_) | ((with_reducible show wpAny _ _ _ _ _ _); (fail_if_success (with_reducible (first | refine at1 ?_ | refine at2 ?_ | refine at3 ?_ | refine at5 ?_ | refine at6 ?_ | refine at7 ?_ | refine at8 ?_ | refine at9 ?_))); (try dsimp only); walk1)))
              rename_i h20 tk20 t20 u20 v20 hr F20 N20 hk20
              dsimp only at hr ⊢
              have hsz : (SV ys).toArray.size = ys.length := by simp [SV]
              rw [hsz] at hr
              with_reducible refine' rangeStart ?q1 ?q2 hr ?q3 ?q4 ?q5 ?_
              case q1 => exact F20
              case q2 => exact N20
              case q3 => omega
              case q4 => omega
              case q5 => omega
              intro h21 it2 F21 N21 lr2
              refine ⟨fun k s' => ∃ h tk mm r nD t1, s' = { s with heap := h, toks := tk } ∧ Fr g L' h mm ∧
                mm "t" = some (.ref D) ∧ mm "n" = some (.int (SV ys).toArray.size (tk2 + 1 + 1 + 1)) ∧ mm "NULL" = some (.ref NU) ∧ mm "result" = some (.ref R) ∧
                mm "elem" = some (.str p.1 p.2) ∧ mm "cnt_t" = some (.int (cntK p.1 ((T'.drop i).take r)) t1) ∧
                News g L' h ((it2, rangeO (i + r : Nat) (ys.length - (i + r) : Nat)) :: (e, enumO it (i + 1 : Nat) (.str p.1 p.2)) :: (it, oit') :: (R, W.listOf (refs mms).toArray nR) :: (NU, { cls := .type "object", data := .plain }) :: (D, W.listOf (OV NU (nulR p.1 i r T')).toArray nD) :: (S, W.listOf (OV NU S0).toArray nS0) :: mms) ∧
                i + r ≤ ys.length ∧ k = ys.length + 1 - (i + r), ys.length + 1 - i, ?init1, ?turn1⟩
              case init1 =>
                refine ⟨h21, _, _, 0, nD, _, rfl, F21, rfl, rfl, rfl, rfl, rfl, rfl, ?_, by omega, rfl⟩
                have e1 : ((ys.length : Int) - i) = ((ys.length - (i + 0) : Nat) : Int) := by omega
                rw [nulR_zero, ← e1]
                exact N21
              case turn1 =>
                clear F20 N20 F21 N21 hr hk20
                rintro k s' ⟨h, tk, mm, r, nD', t1, rfl, F, eT, eN, eU, eR, eE, eCt, N, hir, rfl⟩
                have hN2 : ∀ q ∈ ((e, enumO it (i + 1 : Nat) (.str p.1 p.2)) :: (it, oit') :: (R, W.listOf (refs mms).toArray nR) :: (NU, ({ cls := .type "object", data := .plain } : Obj)) :: (D, W.listOf (OV NU (nulR p.1 i r T')).toArray nD') :: (S, W.listOf (OV NU S0).toArray nS0) :: mms), q.1 ≠ it2 := by
                  intro q hq
                  have : q.1 ∈ ((e, enumO it (i + 1 : Nat) (.str p.1 p.2)) :: (it, oit') :: (R, W.listOf (refs mms).toArray nR) :: (NU, ({ cls := .type "object", data := .plain } : Obj)) :: (D, W.listOf (OV NU T').toArray nD) :: (S, W.listOf (OV NU S0).toArray nS0) :: mms).map Prod.fst := by
                    have := List.mem_map_of_mem (f := Prod.fst) hq
                    simpa using this
                  obtain ⟨q', hq', e'⟩ := List.mem_map.mp this
                  exact e' ▸ Nat.ne_of_lt (lr2 q' hq')
                with_reducible refine' rangeTurn ?t1 ?t2 ?t3 ?t4 ?t5 ?t6 ?tend ?titem
                case t1 => rfl
                case t2 => rfl
                case t3 => rfl
                case t4 => exact F
                case t5 => exact N
                case t6 => exact hN2
                case tend =>
                  intro hle h22 F22 N22
                  have hr2 : i + r = ys.length := by omega
                  (repeat' (first | ((with_reducible show @ite Prop _ _ _ _); first | refine if_pos_p (by decide) ?_ | refine if_neg_p (by decide) ?_) | ((with_reducible show wpAny _ _ _ _ _ _); (fail_if_success (with_reducible (first | refine at1 ?_ | refine at2 ?_ | refine at3 ?_ | refine at5 ?_ | refine at6 ?_ | refine at7 ?_ | refine at8 ?_ | refine at9 ?_))); (try dsimp only); walk1)))
                  refine hRl _ _ ?_
                  refine ⟨rfl, h22, _, mm, nD', t1, rfl, F22, eT, eN, eU, eR, eE, ?_, ?_⟩
                  · rw [eCt, List.take_of_length_le (by rw [List.length_drop]; omega)]
                  · rw [nulR_all _ _ _ _ (by omega)] at N22
                    exact N22
                case titem =>
                  intro hpos h22 tk22 tj F22 N22
                  refine hideQ fun Rq hRq => ?_
                  replace F22 : Fr g L' h22 _ := F22
                  replace N22 : News g L' h22 _ := N22
                  have F23 := Fr.know (x := "cnt_t") (v := .int (cntK p.1 ((T'.drop i).take r)) t1) (Fr.know (x := "elem") (v := .str p.1 p.2) (Fr.know (x := "NULL") (v := .ref NU) (Fr.know (x := "t") (v := .ref D) F22 eT) eU) eE) eCt
                  clear F22 F N
                  (repeat' (first | ((with_reducible show @ite Prop _ _ _ _); first | refine if_pos_p (by decide) ?_ | refine if_neg_p (by decide) ?_) | ((with_reducible show wpAny _ _ _ _ _ _); (fail_if_success (with_reducible (first | refine at1 ?_ | refine at2 ?_ | refine at3 ?_ | refine at5 ?_ | refine at6 ?_ | refine at7 ?_ | refine at8 ?_ | refine at9 ?_))); (try dsimp only); walk1)))
                  have hltT : i + r < T'.length := by omega
                  obtain ⟨o, hol⟩ : ∃ o, T'[i + r]? = some o := ⟨_, List.getElem?_eq_getElem hltT⟩
                  have hDL := (N22 (D, W.listOf (OV NU (nulR p.1 i r T')).toArray nD') (by simp)).1
                  have hNU := (N22 (NU, plainO) (by simp)).1
                  with_reducible refine' item_list (items := (OV NU (nulR p.1 i r T')).toArray) (x := ov NU o) ?i1 ?i2 ?i3 ?i4 ?_ ?i5 ?i6
                  case i1 => exact ⟨_, hDL, rfl, nD', rfl⟩
                  case i2 => omega
                  case i3 => omega
                  case i4 =>
                    have := nulR_get p.1 i r T' hltT
                    show (OV NU (nulR p.1 i r T')).toArray[((i + r : Nat) : Int).toNat]? = _
                    rw [Int.toNat_natCast]
                    simp [OV, this, hol]
                  case i5 => with_unfolding_all rfl
                  case i6 => intro _; with_unfolding_all rfl
                  (repeat' (first | ((with_reducible show @ite Prop _ _ _ _); first | refine if_pos_p (by decide) ?_ | refine if_neg_p (by decide) ?_) | ((with_reducible show wpAny _ _ _ _ _ _); (fail_if_success (with_reducible (first | refine at1 ?_ | refine at2 ?_ | refine at3 ?_ | refine at5 ?_ | refine at6 ?_ | refine at7 ?_ | refine at8 ?_ | refine at9 ?_))); (try dsimp only); walk1)))
                  with_reducible refine' eq_ov ?j1 ?j2 ?_
                  case j1 => exact hNU
                  case j2 => show un + 3 < cLine; omega
                  refine wpAny_truthy_bool ?_
                  by_cases q : isK p.1 o = true
                  · rw [if_pos q]
                    (repeat' (first | ((with_reducible show @ite Prop _ _ _ _); first | refine if_pos_p (by decide) ?_ | refine if_neg_p (by decide) ?_) | ((with_reducible show wpAny _ _ _ _ _ _); (fail_if_success (with_reducible (first | refine at1 ?_ | refine at2 ?_ | refine at3 ?_ | refine at5 ?_ | refine at6 ?_ | refine at7 ?_ | refine at8 ?_ | refine at9 ?_))); (try dsimp only); walk1)))
                    rename_i h23 F24 N24
                    have hDL := (N24 (D, W.listOf (OV NU (nulR p.1 i r T')).toArray nD') (by simp)).1
                    with_reducible refine' ki_setAt (n := nD') (items := (OV NU (nulR p.1 i r T')).toArray) ?s1 ?s2 ?s3 ?s4 ?_
                    case s1 => exact hDL
                    case s2 => omega
                    case s3 => omega
                    case s4 => simp only [List.size_toArray, OV_length, nulR_length]; omega
                    have lit2 : e < it2 := lr2 (e, _) (.head _)
                    have hD6 : ∀ q ∈ [(it2, rangeO ((i + r : Nat) + 1) ((ys.length - (i + r) : Nat) - 1)), (e, enumO it (i + 1 : Nat) (.str p.1 p.2)), (it, oit'), (R, W.listOf (refs mms).toArray nR), (NU, plainO)], q.1 ≠ D := by
                      intro q hq
                      simp only [List.mem_cons, List.not_mem_nil, or_false] at hq
                      rcases hq with rfl | rfl | rfl | rfl | rfl
                      · exact Nat.ne_of_gt (Nat.lt_trans (Nat.lt_trans lD lie) lit2)
                      · exact Nat.ne_of_gt (Nat.lt_trans lD lie)
                      · exact Nat.ne_of_gt lD
                      · exact Nat.ne_of_gt l8.2.1
                      · exact Nat.ne_of_gt l7
                    obtain ⟨nD2, F25, N25⟩ := newsL [(it2, rangeO ((i + r : Nat) + 1) ((ys.length - (i + r) : Nat) - 1)), (e, enumO it (i + 1 : Nat) (.str p.1 p.2)), (it, oit'), (R, W.listOf (refs mms).toArray nR), (NU, plainO)] ((S, W.listOf (OV NU S0).toArray nS0) :: mms)
                      (OV NU ((nulR p.1 i r T').set (i + r) none)).toArray (fun xs => xs.setIfInBounds ((i + r : Nat) : Int).toNat (.ref NU)) F24 N24 hD6
                      (fun q hq => by
                        rcases List.mem_cons.mp hq with rfl | hq
                        · exact Nat.ne_of_lt l4
                        · exact (hlt q hq).2.2.2.2.1) (by rw [Int.toNat_natCast]; apply Array.toList_inj.mp; simp [OV_set, ov])
                    clear F24 N24 hDL
                    simp only [List.cons_append, List.nil_append] at N25
                    dsimp only
                    generalize h23.update D _ = h24 at F25 N25 ⊢
                    (repeat' (first | ((with_reducible show @ite Prop _ _ _ _); first | refine if_pos_p (by decide) ?_ | refine if_neg_p (by decide) ?_) | ((with_reducible show wpAny _ _ _ _ _ _); (fail_if_success (with_reducible (first | refine at1 ?_ | refine at2 ?_ | refine at3 ?_ | refine at5 ?_ | refine at6 ?_ | refine at7 ?_ | refine at8 ?_ | refine at9 ?_))); (try dsimp only); walk1)))
                    refine hRq _ _ ?_
                    refine ⟨ys.length + 1 - (i + (r + 1)), by omega, h24, _, _, r + 1, nD2, _, rfl, F25, rfl, eN, rfl, eR, rfl, (by rw [cntK_succ p.1 i r T' o hol, if_pos q]; rfl), ?_, by omega, rfl⟩
                    · rw [nulR_succ p.1 i r T' o hol, if_pos q]
                      have e1 : (((i + r : Nat) : Int) + 1) = ((i + (r + 1) : Nat) : Int) := by omega
                      have e2 : (((ys.length - (i + r) : Nat) : Int) - 1) = ((ys.length - (i + (r + 1)) : Nat) : Int) := by omega
                      rw [e1, e2] at N25
                      exact N25
                  · rw [if_neg q]
                    (repeat' (first | ((with_reducible show @ite Prop _ _ _ _); first | refine if_pos_p (by decide) ?_ | refine if_neg_p (by decide) ?_) | ((with_reducible show wpAny _ _ _ _ _ _); (fail_if_success (with_reducible (first | refine at1 ?_ | refine at2 ?_ | refine at3 ?_ | refine at5 ?_ | refine at6 ?_ | refine at7 ?_ | refine at8 ?_ | refine at9 ?_))); (try dsimp only); walk1)))
                    refine hRq _ _ ?_
                    refine ⟨ys.length + 1 - (i + (r + 1)), by omega, h22, _, _, r + 1, nD', t1, rfl, F23, rfl, eN, rfl, eR, rfl, ?_, ?_, by omega, rfl⟩
                    · rw [cntK_succ p.1 i r T' o hol, if_neg q]; rfl
                    · rw [nulR_succ p.1 i r T' o hol, if_neg q]
                      have e1 : (((i + r : Nat) : Int) + 1) = ((i + (r + 1) : Nat) : Int) := by omega
                      have e2 : (((ys.length - (i + r) : Nat) : Int) - 1) = ((ys.length - (i + (r + 1)) : Nat) : Int) := by omega
                      rw [e1, e2] at N22
                      exact N22
  case loop1 =>
    refine hideQ fun Rl hRl => ?_
    refine forM ?_
    (repeat' (first | ((with_reducible show @ite Prop _ _ _ _); first | refine if_pos_p (by decide) ?_ | refine if_neg_p (by decide) ?_) | ((with_reducible show wpAny _ _ _ _ _ _); (fail_if_success (with_reducible (first | refine at1 ?_ | refine at2 ?_ | refine at3 ?_ | refine at5 ?_ | refine at6 ?_ | refine at7 ?_ | refine at8 ?_ | refine at9 ?_))); (try dsimp only); walk1)))
    with_reducible refine' enumStart (items := (SV xs).toArray) (n := c1) ?e1 ?e2 ?e3 ?_
    case e1 => exact F15
    case e2 => exact N15
    case e3 => exact .tail _ (.tail _ (.tail _ (.head _)))
    intro h16 e it oit ho F16 N16 lr lie
    refine ⟨fun k s' => ∃ h tk mm i S' T' res mms oit old nR nS nD, s' = { s with heap := h, toks := tk } ∧ Fr g L' h mm ∧
      mm "s" = some (.ref S) ∧ mm "t" = some (.ref D) ∧ mm "m" = some (.int (SV xs).toArray.size (tk2 + 1)) ∧ mm "n" = some (.int (SV ys).toArray.size (tk2 + 1 + 1 + 1)) ∧ mm "NULL" = some (.ref NU) ∧ mm "result" = some (.ref R) ∧
      News g L' h ((e, enumO it (i : Nat) old) :: (it, oit) :: (R, W.listOf (refs mms).toArray nR) :: (NU, { cls := .type "object", data := .plain }) :: (D, W.listOf (OV NU T').toArray nD) :: (S, W.listOf (OV NU S').toArray nS) :: mms) ∧
      ItO oit S i ∧ (List.range i).foldl step1 (xs.map some, ys.map some, []) = (S', T', res) ∧ MMs mms res ∧ (∀ q ∈ mms, q.1 ≠ e ∧ q.1 ≠ it ∧ q.1 ≠ R ∧ q.1 ≠ NU ∧ q.1 ≠ D ∧ q.1 ≠ S) ∧ i ≤ xs.length ∧ k = xs.length + 1 - i ∧ S'.length = xs.length ∧ T'.length = ys.length ∧ mms.length ≤ i,
      xs.length + 1, ?init, ?turn⟩
    case init =>
      refine ⟨h16, _, _, 0, xs.map some, ys.map some, [], [], oit, .none, 0, c1, c2, rfl, F16, rfl, rfl, rfl, rfl, rfl, rfl, ?_, ho, rfl, .nil, (fun _ h => nomatch h), Nat.zero_le _, rfl, by simp, by simp, by simp⟩
      have e1 : OV NU (xs.map some) = SV xs := by simp [OV, SV, ov, Function.comp_def]
      have e2 : OV NU (ys.map some) = SV ys := by simp [OV, SV, ov, Function.comp_def]
      rw [e1, e2]
      exact N16
    case turn =>
      rintro k s' ⟨h, tk, mm, i, S', T', res, mms, oit, old, nR, nS, nD, rfl, F, eS, eT, eM, eN, eU, eR, N, ho, hf, hM, hlt, hi, rfl, hSl, hTl, hml⟩
      clear F15 N15 F16 N16
      have hne : ∀ q ∈ ((R, W.listOf (refs mms).toArray nR) :: (NU, ({ cls := .type "object", data := .plain } : Obj)) :: (D, W.listOf (OV NU T').toArray nD) :: (S, W.listOf (OV NU S').toArray nS) :: mms), q.1 ≠ e ∧ q.1 ≠ it := by
        have l1 := lr (R, W.listOf #[] 0) (.head _)
        have l2 := lr (NU, _) (.tail _ (.head _))
        have l3 := lr (D, _) (.tail _ (.tail _ (.head _)))
        have l4 := lr (S, _) (.tail _ (.tail _ (.tail _ (.head _))))
        dsimp only at l1 l2 l3 l4
        intro q hq
        rcases List.mem_cons.mp hq with rfl | hq
        · exact ⟨Nat.ne_of_lt (Nat.lt_trans l1 lie), Nat.ne_of_lt l1⟩
        rcases List.mem_cons.mp hq with rfl | hq
        · exact ⟨Nat.ne_of_lt (Nat.lt_trans l2 lie), Nat.ne_of_lt l2⟩
        rcases List.mem_cons.mp hq with rfl | hq
        · exact ⟨Nat.ne_of_lt (Nat.lt_trans l3 lie), Nat.ne_of_lt l3⟩
        rcases List.mem_cons.mp hq with rfl | hq
        · exact ⟨Nat.ne_of_lt (Nat.lt_trans l4 lie), Nat.ne_of_lt l4⟩
        · exact ⟨(hlt q hq).1, (hlt q hq).2.1⟩
      with_reducible refine' enumTurn (items := (OV NU S').toArray) (n := nS) ?t1 ?t2 ?t3 ?t4 ?t5 ?t6 ?t7 ?t8 ?t9 ?t10 ?t11 ?tend ?titem
      case t1 => rfl
      case t2 => rfl
      case t3 => rfl
      case t4 => rfl
      case t5 => exact F
      case t6 => exact N
      case t7 => exact ho
      case t8 => exact .tail _ (.tail _ (.tail _ (.head _)))
      case t9 => exact Nat.ne_of_gt lie
      case t10 => exact fun q hq => (hne q hq).1
      case t11 => exact fun q hq => (hne q hq).2
      case tend =>
        intro hv h17 F17 N17
        have hil : i = xs.length := by
          have : (OV NU S').length ≤ i := by simpa using hv
          have h2 : (OV NU S').length = S'.length := List.length_map ..
          omega
        subst hil
        (repeat' (first | ((with_reducible show @ite Prop _ _ _ _); first | refine if_pos_p (by decide) ?_ | refine if_neg_p (by decide) ?_) | ((with_reducible show wpAny _ _ _ _ _ _); (fail_if_success (with_reducible (first | refine at1 ?_ | refine at2 ?_ | refine at3 ?_ | refine at5 ?_ | refine at6 ?_ | refine at7 ?_ | refine at8 ?_ | refine at9 ?_))); (try dsimp only); walk1)))
        refine hRl _ _ ?_
        refine ⟨rfl, h17, _, mm, S', T', res, mms, nR, nS, nD, rfl, F17, eS, eT, eM, eN, eU, eR, N17, hf, hM, (fun q hq => (hlt q hq).2.2), hml, hTl⟩
      case titem =>
        intro v hv h17 tk17 oit' ti ho' F17 N17
        refine hideQ fun Rq hRq => ?_
        replace F17 : Fr g L' h17 _ := F17
        replace N17 : News g L' h17 _ := N17
        have hv' : (S'[i]?).map (ov NU) = some v := by simpa [OV] using hv
        obtain ⟨o, ho1, ho2⟩ := Option.map_eq_some_iff.mp hv'
        have hiS : i < S'.length := (List.getElem?_eq_some_iff.mp ho1).1
        have F18 := Fr.know (x := "result") (v := .ref R) (Fr.know (x := "NULL") (v := .ref NU) (Fr.know (x := "n") (v := .int (SV ys).toArray.size (tk2 + 1 + 1 + 1)) (Fr.know (x := "m") (v := .int (SV xs).toArray.size (tk2 + 1)) (Fr.know (x := "t") (v := .ref D) (Fr.know (x := "s") (v := .ref S) F17 eS) eT) eM) eN) eU) eR
        clear F17 F N
        cases o with
        | none =>
          subst ho2
          dsimp only [ov] at F18 N17 hv ⊢
          (repeat' (first | ((with_reducible show @ite Prop _ _ _ _); first | refine if_pos_p (by decide) ?_ | refine if_neg_p (by decide) ?_) | ((with_reducible show wpAny _ _ _ _ _ _); (fail_if_success (with_reducible (first | refine at1 ?_ | refine at2 ?_ | refine at3 ?_ | refine at5 ?_ | refine at6 ?_ | refine at7 ?_ | refine at8 ?_ | refine at9 ?_))); (try dsimp only); walk1)))
          refine hRq _ _ ?_
          refine ⟨xs.length + 1 - (i + 1), by omega, h17, _, _, i + 1, S', T', res, mms, oit', _, nR, nS, nD, rfl, F18, rfl, rfl, rfl, rfl, rfl, rfl, N17, ho', ?_, hM, hlt, by omega, rfl, hSl, hTl, by omega⟩
          rw [List.range_succ, List.foldl_append, hf]
          simp only [List.foldl_cons, List.foldl_nil, step1, ho1]
        | some p =>
          subst ho2
          dsimp only [ov] at F18 N17 hv ⊢
          (repeat' (first | ((with_reducible show @ite Prop _ _ _ _); first | refine if_pos_p (by decide) ?_ | refine if_neg_p (by decide) ?_) | ((with_reducible show wpAny _ _ _ _ _ _); (fail_if_success (with_reducible (first | refine at1 ?_ | refine at2 ?_ | refine at3 ?_ | refine at5 ?_ | refine at6 ?_ | refine at7 ?_ | refine at8 ?_ | refine at9 ?_))); (try dsimp only); walk1)))
          refine wpAny_is_other rfl nofun ?_
          (repeat' (first | ((with_reducible show @ite Prop _ _ _ _); first | refine if_pos_p (by decide) ?_ | refine if_neg_p (by decide) ?_) | ((with_reducible show wpAny _ _ _ _ _ _); (fail_if_success (with_reducible (first | refine at1 ?_ | refine at2 ?_ | refine at3 ?_ | refine at5 ?_ | refine at6 ?_ | refine at7 ?_ | refine at8 ?_ | refine at9 ?_))); (try dsimp only); walk1)))
          rename_i h18 h19 F19 N19
          refine wpAny_mono (E := fun _ _ => False) (Q := fun f s' => f = .next ∧ ∃ h tk mm nS t1, s' = { s with heap := h, toks := tk } ∧ Fr g L' h mm ∧
            mm "s" = some (.ref S) ∧ mm "t" = some (.ref D) ∧ mm "m" = some (.int (SV xs).toArray.size (tk2 + 1)) ∧ mm "n" = some (.int (SV ys).toArray.size (tk2 + 1 + 1 + 1)) ∧ mm "NULL" = some (.ref NU) ∧ mm "result" = some (.ref R) ∧
            mm "elem" = some (.str p.1 p.2) ∧ mm "cnt_t" = some (.int 0 tk17) ∧ mm "cnt_s" = some (.int (cntK p.1 (S'.drop i)) t1) ∧
            News g L' h ((e, enumO it (i + 1 : Nat) (.str p.1 p.2)) :: (it, oit') :: (R, W.listOf (refs mms).toArray nR) :: (NU, { cls := .type "object", data := .plain }) :: (D, W.listOf (OV NU T').toArray nD) :: (S, W.listOf (OV NU (S'.take i ++ nulK p.1 (S'.drop i))).toArray nS) :: mms)) ?l1 ?r1 (fun _ _ x => x)
          case r1 =>
            rintro f s' ⟨rfl, h20, tk20, mm2, nS2, t1, rfl, F20, eS2, eT2, eM2, eN2, eU2, eR2, eE2, eCt2, eCs2, N20⟩
            clear eS eT eM eN eU eR
            have F21 := Fr.know (x := "t") (v := .ref D) F20 eT2
            clear F20
            dsimp only
            (repeat' (first | ((with_reducible show @ite Prop _ _ _ _); first | refine if_pos_p (by decide) ?_ | refine if_neg_p (by decide) ?_) | ((with_reducible show wpAny _ _ _ _ _ _); (fail_if_success (with_reducible (first | refine at1 ?_ | refine at2 ?_ | refine at3 ?_ | refine at5 ?_ | refine at6 ?_ | refine at7 ?_ | refine at8 ?_ | refine at9 ?_))); (try dsimp only); walk1)))
            refine wpAny_mono (E := fun _ _ => False) (Q := fun f s' => f = .next ∧ ∃ h tk mm nD t2, s' = { s with heap := h, toks := tk } ∧ Fr g L' h mm ∧
              mm "s" = some (.ref S) ∧ mm "t" = some (.ref D) ∧ mm "m" = some (.int (SV xs).toArray.size (tk2 + 1)) ∧ mm "n" = some (.int (SV ys).toArray.size (tk2 + 1 + 1 + 1)) ∧ mm "NULL" = some (.ref NU) ∧ mm "result" = some (.ref R) ∧
              mm "elem" = some (.str p.1 p.2) ∧ mm "cnt_t" = some (.int (cntK p.1 T') t2) ∧ mm "cnt_s" = some (.int (cntK p.1 (S'.drop i)) t1) ∧
              News g L' h ((e, enumO it (i + 1 : Nat) (.str p.1 p.2)) :: (it, oit') :: (R, W.listOf (refs mms).toArray nR) :: (NU, { cls := .type "object", data := .plain }) :: (D, W.listOf (OV NU (nulK p.1 T')).toArray nD) :: (S, W.listOf (OV NU (S'.take i ++ nulK p.1 (S'.drop i))).toArray nS2) :: mms)) ?l2 ?r2 (fun _ _ x => x)
            case r2 =>
              rintro f s' ⟨rfl, h30, tk30, mm3, nD2, t2, rfl, F30, eS3, eT3, eM3, eN3, eU3, eR3, eE3, eCt3, eCs3, N30⟩
              have F31 := Fr.know (x := "result") (v := .ref R) (Fr.know (x := "elem") (v := .str p.1 p.2) (Fr.know (x := "cnt_t") (v := .int (cntK p.1 T') t2) (Fr.know (x := "cnt_s") (v := .int (cntK p.1 (S'.drop i)) t1) F30 eCs3) eCt3) eE3) eR3
              clear F30
              dsimp only
              (repeat' (first | ((with_reducible show @ite Prop _ _ _ _); first | refine if_pos_p (by decide) ?_ | refine if_neg_p (by decide) ?_) | ((with_reducible show wpAny _ _ _ _ _ _); (fail_if_success (with_reducible (first | refine at1 ?_ | refine at2 ?_ | refine at3 ?_ | refine at5 ?_ | refine at6 ?_ | refine at7 ?_ | refine at8 ?_ | refine at9 ?_))); (try dsimp only); walk1)))
              by_cases q : ((cntK p.1 (S'.drop i) : Int) != (cntK p.1 T' : Int)) = true
              · rw [if_pos q]
                (repeat' (first | ((with_reducible show @ite Prop _ _ _ _); first | refine if_pos_p (by decide) ?_ | refine if_neg_p (by decide) ?_) | ((with_reducible show wpAny _ _ _ _ _ _); (fail_if_success (with_reducible (first | refine at1 ?_ | refine at2 ?_ | refine at3 ?_ | refine at5 ?_ | refine at6 ?_ | refine at7 ?_ | refine at8 ?_ | refine at9 ?_))); (try dsimp only); walk1)))
                refine ⟨X'.keeps F31.keep, ?_⟩
                refine mm_call (dp + 1) (un + 3) gd _ g _ _ _ _ _ _ X' TT F31.keep (by omega) (by omega) ?_
                intro h32 x dx tk32 hk32 hx0 hx
                dsimp only at hk32 hx0 hx ⊢
                have F32 := F31.keeps hk32
                have hgx : g.get? x = none := by
                  cases z : g.get? x with
                  | none => rfl
                  | some o => rw [F31.keep x o z] at hx0; cases hx0
                have hne6 : ∀ q ∈ ((e, enumO it (i + 1 : Nat) (.str p.1 p.2)) :: (it, oit') :: (R, W.listOf (refs mms).toArray nR) :: (NU, ({ cls := .type "object", data := .plain } : Obj)) :: (D, W.listOf (OV NU (nulK p.1 T')).toArray nD2) :: (S, W.listOf (OV NU (S'.take i ++ nulK p.1 (S'.drop i))).toArray nS2) :: mms), x ≠ q.1 := by
                  intro q hq z
                  have := (N30 q hq).1
                  rw [← z, hx0] at this; cases this
                have hxL : x ≠ L' := fun z => by
                  obtain ⟨oL, _, _, hoL, _⟩ := F31.ns
                  rw [← z, hx0] at hoL; cases hoL
                have N32 := news_cons hx hxL hgx (fun q hq => ⟨hk32 _ _ (N30 q hq).1, (N30 q hq).2⟩ : News g L' h32 _)
                clear F31 N30 hx
                (repeat' (first | ((with_reducible show @ite Prop _ _ _ _); first | refine if_pos_p (by decide) ?_ | refine if_neg_p (by decide) ?_) | ((with_reducible show wpAny _ _ _ _ _ _); (fail_if_success (with_reducible (first | refine at1 ?_ | refine at2 ?_ | refine at3 ?_ | refine at5 ?_ | refine at6 ?_ | refine at7 ?_ | refine at8 ?_ | refine at9 ?_))); (try dsimp only); walk1)))
                rename_i h33 F33 N33
                have lR : R < it := lr (R, _) (.head _)
                refine appendL [(x, _), (e, _), (it, _)] _ F33 N33 ?_ ?_ ?_ ?_
                · intro q hq
                  simp only [List.mem_cons, List.not_mem_nil, or_false] at hq
                  rcases hq with rfl | rfl | rfl
                  · exact hne6 (R, _) (.tail _ (.tail _ (.head _)))
                  · exact Nat.ne_of_gt (Nat.lt_trans lR lie)
                  · exact Nat.ne_of_gt lR
                · intro q hq
                  rcases List.mem_cons.mp hq with rfl | hq
                  · exact Nat.ne_of_lt l8.1
                  rcases List.mem_cons.mp hq with rfl | hq
                  · exact Nat.ne_of_lt l8.2.1
                  rcases List.mem_cons.mp hq with rfl | hq
                  · exact Nat.ne_of_lt l8.2.2
                  · exact (hlt q hq).2.2.1
                · simp only [List.size_toArray, List.length_map, sizeLine_eq]; omega
                intro h34 F34 N34
                clear F33 N33
                (repeat' (first | ((with_reducible show @ite Prop _ _ _ _); first | refine if_pos_p (by decide) ?_ | refine if_neg_p (by decide) ?_) | ((with_reducible show wpAny _ _ _ _ _ _); (fail_if_success (with_reducible (first | refine at1 ?_ | refine at2 ?_ | refine at3 ?_ | refine at5 ?_ | refine at6 ?_ | refine at7 ?_ | refine at8 ?_ | refine at9 ?_))); (try dsimp only); walk1)))
                refine hRq _ _ ?_
                refine ⟨xs.length + 1 - (i + 1), by omega, h34, _, _, i + 1, S'.take i ++ nulK p.1 (S'.drop i), nulK p.1 T', res ++ [((cntK p.1 (S'.drop i) : Int), (cntK p.1 T' : Int), p)], mms ++ [(x, mmObj (.int (cntK p.1 (S'.drop i)) t1) (.int (cntK p.1 T') t2) (.str p.1 p.2) dx)], oit', .str p.1 p.2, nR + 1, nS2, nD2, rfl, F34, eS3, eT3, eM3, eN3, eU3, rfl, ?_, ho', ?_, ?_, ?_, by omega, rfl, ?_, ?_, ?_⟩
                · rw [show (refs (mms ++ [(x, mmObj (.int (cntK p.1 (S'.drop i)) t1) (.int (cntK p.1 T') t2) (.str p.1 p.2) dx)])).toArray = (refs mms).toArray.push (.ref x) by simp [refs]]
                  intro q hq
                  apply N34 q
                  simp only [List.mem_cons, List.mem_append, List.not_mem_nil, or_false] at hq ⊢
                  rcases hq with h | h | h | h | h | h | h | h <;> simp [h]
                · rw [List.range_succ, List.foldl_append, hf]
                  simp only [List.foldl_cons, List.foldl_nil, step1, ho1]
                  rw [if_pos (by simpa using q)]
                · exact MMs_snoc hM
                · intro q hq
                  rcases List.mem_append.mp hq with hq | hq
                  · exact hlt q hq
                  · rw [List.mem_singleton] at hq
                    subst hq
                    exact ⟨hne6 (e, _) (.head _), hne6 (it, _) (.tail _ (.head _)), hne6 (R, _) (.tail _ (.tail _ (.head _))), hne6 (NU, _) (.tail _ (.tail _ (.tail _ (.head _)))), hne6 (D, _) (.tail _ (.tail _ (.tail _ (.tail _ (.head _))))), hne6 (S, _) (.tail _ (.tail _ (.tail _ (.tail _ (.tail _ (.head _))))))⟩
                · simp [nulK]; omega
                · simp [nulK]; omega
                · simp; omega
              · rw [if_neg q]
                (repeat' (first | ((with_reducible show @ite Prop _ _ _ _); first | refine if_pos_p (by decide) ?_ | refine if_neg_p (by decide) ?_) | ((with_reducible show wpAny _ _ _ _ _ _); (fail_if_success (with_reducible (first | refine at1 ?_ | refine at2 ?_ | refine at3 ?_ | refine at5 ?_ | refine at6 ?_ | refine at7 ?_ | refine at8 ?_ | refine at9 ?_))); (try dsimp only); walk1)))
                refine hRq _ _ ?_
                refine ⟨xs.length + 1 - (i + 1), by omega, h30, _, _, i + 1, S'.take i ++ nulK p.1 (S'.drop i), nulK p.1 T', res, mms, oit', _, nR, nS2, nD2, rfl, F31, eS3, eT3, eM3, eN3, eU3, rfl, N30, ho', ?_, hM, hlt, by omega, rfl, ?_, ?_, by omega⟩
                · rw [List.range_succ, List.foldl_append, hf]
                  simp only [List.foldl_cons, List.foldl_nil, step1, ho1]
                  rw [if_neg (by simpa using q)]
                · simp [nulK]; omega
                · simp [nulK]; omega
            case l2 =>
              refine hideQ fun Rl hRl => ?_
              refine forM ?_
              (repeat' (first | ((with_reducible show @ite Prop _ _ _ _); first | refine if_pos_p (by decide) ?_ | refine if_neg_p (by decide) ?_) | ((with_reducible show wpAny _ _ _ _ _ _); (fail_if_success (with_reducible (first | refine at1 ?_ | refine at2 ?_ | refine at3 ?_ | refine at5 ?_ | refine at6 ?_ | refine at7 ?_ | refine at8 ?_ | refine at9 ?_))); (try dsimp only); walk1)))
              with_reducible refine' enumStart (items := (OV NU T').toArray) (n := nD) ?e1 ?e2 ?e3 ?_
              case e1 => exact F21
              case e2 => exact N20
              case e3 => exact .tail _ (.tail _ (.tail _ (.tail _ (.head _))))
              intro h22 e2 it3 oit3 ho3 F22 N22 lr3 lie3
              refine ⟨fun k s' => ∃ h tk mm r nD t2 oit3 old, s' = { s with heap := h, toks := tk } ∧ Fr g L' h mm ∧
                mm "s" = some (.ref S) ∧ mm "t" = some (.ref D) ∧ mm "m" = some (.int (SV xs).toArray.size (tk2 + 1)) ∧ mm "n" = some (.int (SV ys).toArray.size (tk2 + 1 + 1 + 1)) ∧ mm "NULL" = some (.ref NU) ∧ mm "result" = some (.ref R) ∧
                mm "elem" = some (.str p.1 p.2) ∧ mm "cnt_t" = some (.int (cntK p.1 (T'.take r)) t2) ∧ mm "cnt_s" = some (.int (cntK p.1 (S'.drop i)) t1) ∧
                News g L' h ((e2, enumO it3 (r : Nat) old) :: (it3, oit3) :: (e, enumO it (i + 1 : Nat) (.str p.1 p.2)) :: (it, oit') :: (R, W.listOf (refs mms).toArray nR) :: (NU, { cls := .type "object", data := .plain }) :: (D, W.listOf (OV NU (nulR p.1 0 r T')).toArray nD) :: (S, W.listOf (OV NU (S'.take i ++ nulK p.1 (S'.drop i))).toArray nS2) :: mms) ∧
                ItO oit3 D r ∧ r ≤ ys.length ∧ k = ys.length + 1 - r, ys.length + 1, ?init2, ?turn2⟩
              case init2 =>
                refine ⟨h22, _, _, 0, nD, tk17, oit3, .none, rfl, F22, eS2, rfl, eM2, eN2, eU2, eR2, eE2, ?_, eCs2, ?_, ho3, by omega, rfl⟩
                · exact eCt2
                · rw [nulR_zero]; exact N22
              case turn2 =>
                clear F21 N20 F22 N22 ho3
                rintro k s' ⟨h, tk, mm, r, nD', t2, oit3, old, rfl, F, eS, eT, eM, eN, eU, eR, eE, eCt, eCs, N, ho3, hr, rfl⟩
                have hN3 : ∀ q ∈ ((e, enumO it (i + 1 : Nat) (.str p.1 p.2)) :: (it, oit') :: (R, W.listOf (refs mms).toArray nR) :: (NU, ({ cls := .type "object", data := .plain } : Obj)) :: (D, W.listOf (OV NU (nulR p.1 0 r T')).toArray nD') :: (S, W.listOf (OV NU (S'.take i ++ nulK p.1 (S'.drop i))).toArray nS2) :: mms), q.1 < it3 := by
                  intro q hq
                  have : q.1 ∈ ((e, enumO it (i + 1 : Nat) (.str p.1 p.2)) :: (it, oit') :: (R, W.listOf (refs mms).toArray nR) :: (NU, ({ cls := .type "object", data := .plain } : Obj)) :: (D, W.listOf (OV NU T').toArray nD) :: (S, W.listOf (OV NU (S'.take i ++ nulK p.1 (S'.drop i))).toArray nS2) :: mms).map Prod.fst := by
                    have := List.mem_map_of_mem (f := Prod.fst) hq
                    simpa using this
                  obtain ⟨q', hq', e'⟩ := List.mem_map.mp this
                  exact e' ▸ lr3 q' hq'
                with_reducible refine' enumTurn (items := (OV NU (nulR p.1 0 r T')).toArray) (n := nD') ?t1 ?t2 ?t3 ?t4 ?t5 ?t6 ?t7 ?t8 ?t9 ?t10 ?t11 ?tend ?titem
                case t1 => rfl
                case t2 => rfl
                case t3 => rfl
                case t4 => rfl
                case t5 => exact F
                case t6 => exact N
                case t7 => exact ho3
                case t8 => exact .tail _ (.tail _ (.tail _ (.tail _ (.head _))))
                case t9 => exact Nat.ne_of_gt lie3
                case t10 => exact fun q hq => Nat.ne_of_lt (Nat.lt_trans (hN3 q hq) lie3)
                case t11 => exact fun q hq => Nat.ne_of_lt (hN3 q hq)
                case tend =>
                  intro hv h23 F23 N23
                  have hrl : T'.length ≤ r := by
                    have : (OV NU (nulR p.1 0 r T')).length ≤ r := by simpa using hv
                    rw [OV_length, nulR_length] at this; exact this
                  (repeat' (first | ((with_reducible show @ite Prop _ _ _ _); first | refine if_pos_p (by decide) ?_ | refine if_neg_p (by decide) ?_) | ((with_reducible show wpAny _ _ _ _ _ _); (fail_if_success (with_reducible (first | refine at1 ?_ | refine at2 ?_ | refine at3 ?_ | refine at5 ?_ | refine at6 ?_ | refine at7 ?_ | refine at8 ?_ | refine at9 ?_))); (try dsimp only); walk1)))
                  refine hRl _ _ ?_
                  refine ⟨rfl, h23, _, mm, nD', t2, rfl, F23, eS, eT, eM, eN, eU, eR, eE, ?_, eCs, ?_⟩
                  · rw [eCt, List.take_of_length_le hrl]
                  · rw [nulR_all _ _ _ _ (by omega)] at N23
                    exact N23
                case titem =>
                  intro v hv h23 tk23 oit4 tj ho4 F23 N23
                  refine hideQ fun Rq hRq => ?_
                  replace F23 : Fr g L' h23 _ := F23
                  replace N23 : News g L' h23 _ := N23
                  have hrT : r < T'.length := by
                    have : r < (OV NU (nulR p.1 0 r T')).length := by
                      have := (Array.getElem?_eq_some_iff.mp hv).1
                      simpa using this
                    rw [OV_length, nulR_length] at this; exact this
                  obtain ⟨o, hol⟩ : ∃ o, T'[r]? = some o := ⟨_, List.getElem?_eq_getElem hrT⟩
                  have hol0 : T'[0 + r]? = some o := by rw [Nat.zero_add]; exact hol
                  have hvo : v = ov NU o := by
                    have h1 := nulR_get p.1 0 r T' (by omega)
                    rw [Nat.zero_add, hol] at h1
                    have h2 : (OV NU (nulR p.1 0 r T'))[r]? = some (ov NU o) := by simp [OV, h1]
                    have h3 : (OV NU (nulR p.1 0 r T'))[r]? = some v := by simpa using hv
                    rw [h2] at h3; exact (Option.some.inj h3).symm
                  subst hvo
                  have hNU := (N23 (NU, plainO) (by simp)).1
                  have F24 := Fr.know (x := "cnt_t") (v := .int (cntK p.1 (T'.take r)) t2) (Fr.know (x := "elem") (v := .str p.1 p.2) (Fr.know (x := "NULL") (v := .ref NU) (Fr.know (x := "t") (v := .ref D) F23 eT) eU) eE) eCt
                  clear F23 F N
                  (repeat' (first | ((with_reducible show @ite Prop _ _ _ _); first | refine if_pos_p (by decide) ?_ | refine if_neg_p (by decide) ?_) | ((with_reducible show wpAny _ _ _ _ _ _); (fail_if_success (with_reducible (first | refine at1 ?_ | refine at2 ?_ | refine at3 ?_ | refine at5 ?_ | refine at6 ?_ | refine at7 ?_ | refine at8 ?_ | refine at9 ?_))); (try dsimp only); walk1)))
                  with_reducible refine' eq_ov ?j1 ?j2 ?_
                  case j1 => exact hNU
                  case j2 => show un + 3 < cLine; omega
                  refine wpAny_truthy_bool ?_
                  have hcs : cntK p.1 (T'.take (r + 1)) = cntK p.1 (T'.take r) + (if isK p.1 o then 1 else 0) := by
                    have := cntK_succ p.1 0 r T' o hol0
                    simpa using this
                  by_cases q : isK p.1 o = true
                  · rw [if_pos q]
                    rw [if_pos q] at hcs
                    (repeat' (first | ((with_reducible show @ite Prop _ _ _ _); first | refine if_pos_p (by decide) ?_ | refine if_neg_p (by decide) ?_) | ((with_reducible show wpAny _ _ _ _ _ _); (fail_if_success (with_reducible (first | refine at1 ?_ | refine at2 ?_ | refine at3 ?_ | refine at5 ?_ | refine at6 ?_ | refine at7 ?_ | refine at8 ?_ | refine at9 ?_))); (try dsimp only); walk1)))
                    rename_i h24 F25 N25
                    have hDL := (N25 (D, W.listOf (OV NU (nulR p.1 0 r T')).toArray nD') (by simp)).1
                    with_reducible refine' ki_setAt (n := nD') (items := (OV NU (nulR p.1 0 r T')).toArray) ?s1 ?s2 ?s3 ?s4 ?_
                    case s1 => exact hDL
                    case s2 => omega
                    case s3 => omega
                    case s4 => simp only [List.size_toArray, OV_length, nulR_length]; omega
                    have lD : D < it := lr (D, _) (.tail _ (.tail _ (.head _)))
                    have lit3 : e < it3 := lr3 (e, _) (.head _)
                    have hD6 : ∀ q ∈ [(e2, enumO it3 (r + 1 : Nat) (ov NU o)), (it3, oit4), (e, enumO it (i + 1 : Nat) (.str p.1 p.2)), (it, oit'), (R, W.listOf (refs mms).toArray nR), (NU, plainO)], q.1 ≠ D := by
                      intro q hq
                      simp only [List.mem_cons, List.not_mem_nil, or_false] at hq
                      rcases hq with rfl | rfl | rfl | rfl | rfl | rfl
                      · exact Nat.ne_of_gt (Nat.lt_trans (Nat.lt_trans (Nat.lt_trans lD lie) lit3) lie3)
                      · exact Nat.ne_of_gt (Nat.lt_trans (Nat.lt_trans lD lie) lit3)
                      · exact Nat.ne_of_gt (Nat.lt_trans lD lie)
                      · exact Nat.ne_of_gt lD
                      · exact Nat.ne_of_gt l8.2.1
                      · exact Nat.ne_of_gt l7
                    obtain ⟨nD2, F26, N26⟩ := newsL [(e2, enumO it3 (r + 1 : Nat) (ov NU o)), (it3, oit4), (e, enumO it (i + 1 : Nat) (.str p.1 p.2)), (it, oit'), (R, W.listOf (refs mms).toArray nR), (NU, plainO)] ((S, W.listOf (OV NU (S'.take i ++ nulK p.1 (S'.drop i))).toArray nS2) :: mms)
                      (OV NU ((nulR p.1 0 r T').set r none)).toArray (fun xs => xs.setIfInBounds ((r : Nat) : Int).toNat (.ref NU)) F25 N25 hD6
                      (fun q hq => by
                        rcases List.mem_cons.mp hq with rfl | hq
                        · exact Nat.ne_of_lt l4
                        · exact (hlt q hq).2.2.2.2.1) (by rw [Int.toNat_natCast]; apply Array.toList_inj.mp; simp [OV_set, ov])
                    clear F25 N25 hDL
                    simp only [List.cons_append, List.nil_append] at N26
                    dsimp only
                    generalize h24.update D _ = h25 at F26 N26 ⊢
                    (repeat' (first | ((with_reducible show @ite Prop _ _ _ _); first | refine if_pos_p (by decide) ?_ | refine if_neg_p (by decide) ?_) | ((with_reducible show wpAny _ _ _ _ _ _); (fail_if_success (with_reducible (first | refine at1 ?_ | refine at2 ?_ | refine at3 ?_ | refine at5 ?_ | refine at6 ?_ | refine at7 ?_ | refine at8 ?_ | refine at9 ?_))); (try dsimp only); walk1)))
                    refine hRq _ _ ?_
                    refine ⟨ys.length + 1 - (r + 1), by omega, h25, _, _, r + 1, nD2, _, oit4, ov NU o, rfl, F26, eS, rfl, eM, eN, rfl, eR, rfl, (by rw [hcs]; rfl), eCs, ?_, ho4, by omega, rfl⟩
                    have h5 := nulR_succ p.1 0 r T' o hol0
                    rw [if_pos q, Nat.zero_add] at h5
                    rw [h5]
                    exact N26
                  · rw [if_neg q]
                    rw [if_neg q] at hcs
                    (repeat' (first | ((with_reducible show @ite Prop _ _ _ _); first | refine if_pos_p (by decide) ?_ | refine if_neg_p (by decide) ?_) | ((with_reducible show wpAny _ _ _ _ _ _); (fail_if_success (with_reducible (first | refine at1 ?_ | refine at2 ?_ | refine at3 ?_ | refine at5 ?_ | refine at6 ?_ | refine at7 ?_ | refine at8 ?_ | refine at9 ?_))); (try dsimp only); walk1)))
                    refine hRq _ _ ?_
                    refine ⟨ys.length + 1 - (r + 1), by omega, h23, _, _, r + 1, nD', t2, oit4, ov NU o, rfl, F24, eS, rfl, eM, eN, rfl, eR, rfl, (by rw [hcs]; rfl), eCs, ?_, ho4, by omega, rfl⟩
                    have h5 := nulR_succ p.1 0 r T' o hol0
                    rw [if_neg q] at h5
                    rw [h5]
                    exact N23
          case l1 =>
            refine hideQ fun Rl hRl => ?_
            refine forM ?_
            (repeat' (first | ((with_reducible show @ite Prop _ _ _ _); first | refine if_pos_p (by decide) ?_ | refine if_neg_p (by decide) ?_) | ((with_reducible show wpAny _ _ _ _ _ _); (fail_if_success (with_reducible (first | refine at1 ?_ | refine at2 ?_ | refine at3 ?_ | refine at5 ?_ | refine at6 ?_ | refine at7 ?_ | refine at8 ?_ | refine at9 ?_))); (try dsimp only); walk1)))
            rename_i h20 tk20 t20 u20 v20 hr F20 N20 hk20
            dsimp only at hr ⊢
            have hsz : (SV xs).toArray.size = xs.length := by simp [SV]
            rw [hsz] at hr
            with_reducible refine' rangeStart ?q1 ?q2 hr ?q3 ?q4 ?q5 ?_
            case q1 => exact F20
            case q2 => exact N20
            case q3 => omega
            case q4 => omega
            case q5 => omega
            intro h21 it2 F21 N21 lr2
            refine ⟨fun k s' => ∃ h tk mm r nS t1, s' = { s with heap := h, toks := tk } ∧ Fr g L' h mm ∧
              mm "s" = some (.ref S) ∧ mm "t" = some (.ref D) ∧ mm "m" = some (.int (SV xs).toArray.size (tk2 + 1)) ∧ mm "n" = some (.int (SV ys).toArray.size (tk2 + 1 + 1 + 1)) ∧ mm "NULL" = some (.ref NU) ∧ mm "result" = some (.ref R) ∧
              mm "elem" = some (.str p.1 p.2) ∧ mm "cnt_t" = some (.int 0 tk17) ∧ mm "cnt_s" = some (.int (cntK p.1 ((S'.drop i).take r)) t1) ∧
              News g L' h ((it2, rangeO (i + r : Nat) (xs.length - (i + r) : Nat)) :: (e, enumO it (i + 1 : Nat) (.str p.1 p.2)) :: (it, oit') :: (R, W.listOf (refs mms).toArray nR) :: (NU, { cls := .type "object", data := .plain }) :: (D, W.listOf (OV NU T').toArray nD) :: (S, W.listOf (OV NU (nulR p.1 i r S')).toArray nS) :: mms) ∧
              i + r ≤ xs.length ∧ k = xs.length + 1 - (i + r), xs.length + 1 - i, ?init1, ?turn1⟩
            case init1 =>
              refine ⟨h21, _, _, 0, nS, _, rfl, F21, rfl, rfl, rfl, rfl, rfl, rfl, rfl, rfl, rfl, ?_, by omega, rfl⟩
              have e1 : ((xs.length : Int) - i) = ((xs.length - (i + 0) : Nat) : Int) := by omega
              rw [nulR_zero, ← e1]
              exact N21
            case turn1 =>
              clear F20 N20 F21 N21 hr hk20
              rintro k s' ⟨h, tk, mm, r, nS', t1, rfl, F, eS, eT, eM, eN, eU, eR, eE, eCt, eCs, N, hir, rfl⟩
              have hN2 : ∀ q ∈ ((e, enumO it (i + 1 : Nat) (.str p.1 p.2)) :: (it, oit') :: (R, W.listOf (refs mms).toArray nR) :: (NU, ({ cls := .type "object", data := .plain } : Obj)) :: (D, W.listOf (OV NU T').toArray nD) :: (S, W.listOf (OV NU (nulR p.1 i r S')).toArray nS') :: mms), q.1 ≠ it2 := by
                intro q hq
                have : q.1 ∈ ((e, enumO it (i + 1 : Nat) (.str p.1 p.2)) :: (it, oit') :: (R, W.listOf (refs mms).toArray nR) :: (NU, ({ cls := .type "object", data := .plain } : Obj)) :: (D, W.listOf (OV NU T').toArray nD) :: (S, W.listOf (OV NU S').toArray nS) :: mms).map Prod.fst := by
                  have := List.mem_map_of_mem (f := Prod.fst) hq
                  simpa using this
                obtain ⟨q', hq', e'⟩ := List.mem_map.mp this
                exact e' ▸ Nat.ne_of_lt (lr2 q' hq')
              with_reducible refine' rangeTurn ?t1 ?t2 ?t3 ?t4 ?t5 ?t6 ?tend ?titem
              case t1 => rfl
              case t2 => rfl
              case t3 => rfl
              case t4 => exact F
              case t5 => exact N
              case t6 => exact hN2
              case tend =>
                intro hle h22 F22 N22
                have hr2 : i + r = xs.length := by omega
                (repeat' (first | ((with_reducible show @ite Prop _ _ _ _); first | refine if_pos_p (by decide) ?_ | refine if_neg_p (by decide) ?_) | ((with_reducible show wpAny _ _ _ _ _ _); (fail_if_success (with_reducible (first | refine at1 ?_ | refine at2 ?_ | refine at3 ?_ | refine at5 ?_ | refine at6 ?_ | refine at7 ?_ | refine at8 ?_ | refine at9 ?_))); (try dsimp only); walk1)))
                refine hRl _ _ ?_
                refine ⟨rfl, h22, _, mm, nS', t1, rfl, F22, eS, eT, eM, eN, eU, eR, eE, eCt, ?_, ?_⟩
                · rw [eCs, List.take_of_length_le (by rw [List.length_drop]; omega)]
                · rw [nulR_all _ _ _ _ (by omega)] at N22
                  exact N22
              case titem =>
                intro hpos h22 tk22 tj F22 N22
                refine hideQ fun Rq hRq => ?_
                replace F22 : Fr g L' h22 _ := F22
                replace N22 : News g L' h22 _ := N22
                have F23 := Fr.know (x := "cnt_s") (v := .int (cntK p.1 ((S'.drop i).take r)) t1) (Fr.know (x := "elem") (v := .str p.1 p.2) (Fr.know (x := "NULL") (v := .ref NU) (Fr.know (x := "s") (v := .ref S) F22 eS) eU) eE) eCs
                clear F22 F N
                (repeat' (first | ((with_reducible show @ite Prop _ _ _ _); first | refine if_pos_p (by decide) ?_ | refine if_neg_p (by decide) ?_) | ((with_reducible show wpAny _ _ _ _ _ _); (fail_if_success (with_reducible (first | refine at1 ?_ | refine at2 ?_ | refine at3 ?_ | refine at5 ?_ | refine at6 ?_ | refine at7 ?_ | refine at8 ?_ | refine at9 ?_))); (try dsimp only); walk1)))
                have hltS : i + r < S'.length := by omega
                obtain ⟨o, hol⟩ : ∃ o, S'[i + r]? = some o := ⟨_, List.getElem?_eq_getElem hltS⟩
                have hSL := (N22 (S, W.listOf (OV NU (nulR p.1 i r S')).toArray nS') (by simp)).1
                have hNU := (N22 (NU, plainO) (by simp)).1
                with_reducible refine' item_list (items := (OV NU (nulR p.1 i r S')).toArray) (x := ov NU o) ?i1 ?i2 ?i3 ?i4 ?_ ?i5 ?i6
                case i1 => exact ⟨_, hSL, rfl, nS', rfl⟩
                case i2 => omega
                case i3 => omega
                case i4 =>
                  have := nulR_get p.1 i r S' hltS
                  show (OV NU (nulR p.1 i r S')).toArray[((i + r : Nat) : Int).toNat]? = _
                  rw [Int.toNat_natCast]
                  simp [OV, this, hol]
                case i5 => with_unfolding_all rfl
                case i6 => intro _; with_unfolding_all rfl
                (repeat' (first | ((with_reducible show @ite Prop _ _ _ _); first | refine if_pos_p (by decide) ?_ | refine if_neg_p (by decide) ?_) | ((with_reducible show wpAny _ _ _ _ _ _); (fail_if_success (with_reducible (first | refine at1 ?_ | refine at2 ?_ | refine at3 ?_ | refine at5 ?_ | refine at6 ?_ | refine at7 ?_ | refine at8 ?_ | refine at9 ?_))); (try dsimp only); walk1)))
                with_reducible refine' eq_ov ?j1 ?j2 ?_
                case j1 => exact hNU
                case j2 => show un + 3 < cLine; omega
                refine wpAny_truthy_bool ?_
                by_cases q : isK p.1 o = true
                · rw [if_pos q]
                  (repeat' (first | ((with_reducible show @ite Prop _ _ _ _); first | refine if_pos_p (by decide) ?_ | refine if_neg_p (by decide) ?_) | ((with_reducible show wpAny _ _ _ _ _ _); (fail_if_success (with_reducible (first | refine at1 ?_ | refine at2 ?_ | refine at3 ?_ | refine at5 ?_ | refine at6 ?_ | refine at7 ?_ | refine at8 ?_ | refine at9 ?_))); (try dsimp only); walk1)))
                  rename_i h23 F24 N24
                  have hSL := (N24 (S, W.listOf (OV NU (nulR p.1 i r S')).toArray nS') (by simp)).1
                  with_reducible refine' ki_setAt (n := nS') (items := (OV NU (nulR p.1 i r S')).toArray) ?s1 ?s2 ?s3 ?s4 ?_
                  case s1 => exact hSL
                  case s2 => omega
                  case s3 => omega
                  case s4 => simp only [List.size_toArray, OV_length, nulR_length]; omega
                  have lS : S < it := lr (S, _) (.tail _ (.tail _ (.tail _ (.head _))))
                  have lit2 : e < it2 := lr2 (e, _) (.head _)
                  have hS6 : ∀ q ∈ [(it2, rangeO ((i + r : Nat) + 1) ((xs.length - (i + r) : Nat) - 1)), (e, enumO it (i + 1 : Nat) (.str p.1 p.2)), (it, oit'), (R, W.listOf (refs mms).toArray nR), (NU, plainO), (D, W.listOf (OV NU T').toArray nD)], q.1 ≠ S := by
                    intro q hq
                    simp only [List.mem_cons, List.not_mem_nil, or_false] at hq
                    rcases hq with rfl | rfl | rfl | rfl | rfl | rfl
                    · exact Nat.ne_of_gt (Nat.lt_trans (Nat.lt_trans lS lie) lit2)
                    · exact Nat.ne_of_gt (Nat.lt_trans lS lie)
                    · exact Nat.ne_of_gt lS
                    · exact Nat.ne_of_gt l8.2.2
                    · exact Nat.ne_of_gt (Nat.lt_trans l4 l7)
                    · exact Nat.ne_of_gt l4
                  obtain ⟨nS2, F25, N25⟩ := newsL [(it2, rangeO ((i + r : Nat) + 1) ((xs.length - (i + r) : Nat) - 1)), (e, enumO it (i + 1 : Nat) (.str p.1 p.2)), (it, oit'), (R, W.listOf (refs mms).toArray nR), (NU, plainO), (D, W.listOf (OV NU T').toArray nD)] mms
                    (OV NU ((nulR p.1 i r S').set (i + r) none)).toArray (fun xs => xs.setIfInBounds ((i + r : Nat) : Int).toNat (.ref NU)) F24 N24 hS6
                    (fun q hq => (hlt q hq).2.2.2.2.2) (by rw [Int.toNat_natCast]; apply Array.toList_inj.mp; simp [OV_set, ov])
                  clear F24 N24 hSL
                  simp only [List.cons_append, List.nil_append] at N25
                  dsimp only
                  generalize h23.update S _ = h24 at F25 N25 ⊢
                  (repeat' (first | ((with_reducible show @ite Prop _ _ _ _); first | refine if_pos_p (by decide) ?_ | refine if_neg_p (by decide) ?_) | ((with_reducible show wpAny _ _ _ _ _ _); (fail_if_success (with_reducible (first | refine at1 ?_ | refine at2 ?_ | refine at3 ?_ | refine at5 ?_ | refine at6 ?_ | refine at7 ?_ | refine at8 ?_ | refine at9 ?_))); (try dsimp only); walk1)))
                  refine hRq _ _ ?_
                  refine ⟨xs.length + 1 - (i + (r + 1)), by omega, h24, _, _, r + 1, nS2, _, rfl, F25, rfl, eT, eM, eN, rfl, eR, rfl, eCt, (by rw [cntK_succ p.1 i r S' o hol, if_pos q]; rfl), ?_, by omega, rfl⟩
                  · rw [nulR_succ p.1 i r S' o hol, if_pos q]
                    have e1 : (((i + r : Nat) : Int) + 1) = ((i + (r + 1) : Nat) : Int) := by omega
                    have e2 : (((xs.length - (i + r) : Nat) : Int) - 1) = ((xs.length - (i + (r + 1)) : Nat) : Int) := by omega
                    rw [e1, e2] at N25
                    exact N25
                · rw [if_neg q]
                  (repeat' (first | ((with_reducible show @ite Prop _ _ _ _); first | refine if_pos_p (by decide) ?_ | refine if_neg_p (by decide) ?_) | ((with_reducible show wpAny _ _ _ _ _ _); (fail_if_success (with_reducible (first | refine at1 ?_ | refine at2 ?_ | refine at3 ?_ | refine at5 ?_ | refine at6 ?_ | refine at7 ?_ | refine at8 ?_ | refine at9 ?_))); (try dsimp only); walk1)))
                  refine hRq _ _ ?_
                  refine ⟨xs.length + 1 - (i + (r + 1)), by omega, h22, _, _, r + 1, nS', t1, rfl, F23, rfl, eT, eM, eN, rfl, eR, rfl, eCt, ?_, ?_, by omega, rfl⟩
                  · rw [cntK_succ p.1 i r S' o hol, if_neg q]; rfl
                  · rw [nulR_succ p.1 i r S' o hol, if_neg q]
                    have e1 : (((i + r : Nat) : Int) + 1) = ((i + (r + 1) : Nat) : Int) := by omega
                    have e2 : (((xs.length - (i + r) : Nat) : Int) - 1) = ((xs.length - (i + (r + 1)) : Nat) : Int) := by omega
                    rw [e1, e2] at N22
                    exact N22
end Mine
end
section
open PySem PySem.W PyProof.Rows PySem.Calls
open AutoSeq1 (wpAny_loadPart')
set_option Elab.async false
set_option maxRecDepth 100000
set_option maxHeartbeats 8000000
namespace Mine
section
variable {prog : Program} {w : World} {A : Around} {E : Value → Shared → Prop} {s : Shared}
theorem nextOf_tuple_item {it t : Addr} {i : Nat} {items} {x : Value} {Q : Value → Shared → Prop} (hit : s.heap.IsTupleIter it t i)
    (ht : s.heap.IsTuple t items) (hx : items[i]? = some x)
    (hQ : ∀ h', h'.IsTupleIter it t (i + 1) → Heap.SameBut it s.heap h' → Q x { s with heap := h' }) :
    wpAny (model prog w) A (Builtin.SmallTypes.nextOf (.ref it)) Q E s := by
  obtain ⟨o, ho, hc, hd⟩ := id hit
  obtain ⟨ol, hol, _, nl, hdl⟩ := ht
  unfold Builtin.SmallTypes.nextOf
  refine wpAny_bind (wpAny_callSpecial?_slot (name := Str.ofString "__next__") hit.typeIs PySem.F.slot_tuple_iterator_next
    (wpAny_call_entry PySem.F.slot_tuple_iterator_next hit.typeIs PySem.F.entry_tuple_iterator_next ?_ (PySem.F.args_tuple_iterator_next_1 _)))
  show wpAny _ _ (field (.ref it) 0 >>= _) _ _ s
  refine wpAny_bind (wpAny_field ho hd (x := .ref t) rfl ?_)
  show wpAny _ _ (if (Value.ref t == Value.none) = true then _ else _) _ _ s
  rw [if_neg (show ¬ ((Value.ref t == Value.none) = true) from Bool.false_ne_true)]
  show wpAny _ _ (field (.ref it) 1 >>= _) _ _ s
  refine wpAny_bind (wpAny_field ho hd (x := .int i 0) rfl ?_)
  show wpAny _ _ (seqItems? (.ref t) >>= _) _ _ s
  refine wpAny_bind (wpAny_seqItems hol hdl ?_)
  simp only [Int.toNat_natCast, hx]
  refine wpAny_bind (wpAny_setField ho hd (by simp) (wpAny_pure ⟨x, rfl, wpAny_pure (hQ _ ?_ (Heap.SameBut.update ..))⟩))
  exact ⟨_, Heap.get?_update_self _ ho (Obj.isFreed_of_fields (Obj.data_mapFields hd _)), (Obj.cls_mapFields ..).trans hc, by
    rw [Obj.data_mapFields hd]; simp [rawInt]⟩

theorem nextOf_tuple_end {it t : Addr} {i : Nat} {items} {Q : Value → Shared → Prop} (hh : A.handled = none)
    (hit : s.heap.IsTupleIter it t i) (ht : s.heap.IsTuple t items) (hx : items[i]? = none)
    (hE : ∀ h' e, Heap.ExtBut it s.heap h' → (∃ o, h'.get? e = some o ∧ o.cls = .type "StopIteration") → E (.ref e) { s with heap := h' }) :
    wpAny (model prog w) A (Builtin.SmallTypes.nextOf (.ref it)) Q E s := by
  obtain ⟨o, ho, hc, hd⟩ := id hit
  obtain ⟨ol, hol, _, nl, hdl⟩ := ht
  unfold Builtin.SmallTypes.nextOf
  refine wpAny_bind (wpAny_callSpecial?_slot (name := Str.ofString "__next__") hit.typeIs PySem.F.slot_tuple_iterator_next
    (wpAny_call_entry PySem.F.slot_tuple_iterator_next hit.typeIs PySem.F.entry_tuple_iterator_next ?_ (PySem.F.args_tuple_iterator_next_1 _)))
  show wpAny _ _ (field (.ref it) 0 >>= _) _ _ s
  refine wpAny_bind (wpAny_field ho hd (x := .ref t) rfl ?_)
  show wpAny _ _ (if (Value.ref t == Value.none) = true then _ else _) _ _ s
  rw [if_neg (show ¬ ((Value.ref t == Value.none) = true) from Bool.false_ne_true)]
  show wpAny _ _ (field (.ref it) 1 >>= _) _ _ s
  refine wpAny_bind (wpAny_field ho hd (x := .int i 0) rfl ?_)
  show wpAny _ _ (seqItems? (.ref t) >>= _) _ _ s
  refine wpAny_bind (wpAny_seqItems hol hdl ?_)
  simp only [Int.toNat_natCast, hx]
  refine wpAny_bind (wpAny_rule (wpAny_bind (wpAny_setField ho hd (by simp) ?_)))
  show wpAny _ _ (newExc (.type "StopIteration") [] >>= _) _ _ _
  refine wpAny_bind ?_
  simp only [newExc, newTuple]
  refine wpAny_bind (wpAny_newObj_type ?_ (by size_fits))
  refine wpAny_bind (m := firstArgMember _ _) (wpAny_of_eq (a := Value.none) (by first | rfl | (simp only [firstArgMember]; rfl)) ?_)
  refine wpAny_newObj_type ?_ (by size_fits)
  simp only [raiseNew]
  refine wpAny_bind (wpAny_handled ?_)
  first | rw [show A.in1.handled = none from hh] | rw [hh]
  refine wpAny_bind (wpAny_pure (wpAny_throw ?_))
  exact hE _ _ (((Heap.SameBut.update ..).extBut.push _).push _) ⟨_, Heap.get?_push_size _ rfl, rfl⟩

theorem drawsT (hh : A.handled = none) {it t : Addr} (hne : t ≠ it) (items : Array Value) :
    Draws prog w A it [it, t] items.size (fun i v => items[i]? = some v) (fun i h => h.IsTupleIter it t i ∧ h.IsTuple t items) where
  live := fun i h ⟨⟨o, ho, _⟩, _⟩ => ⟨o, ho⟩
  frame := fun i h h' ⟨⟨o, ho, r⟩, ⟨o', ho', r'⟩⟩ hk => ⟨⟨o, hk _ (by simp) _ ho, r⟩, ⟨o', hk _ (by simp) _ ho', r'⟩⟩
  item := fun i s Q E hi ⟨hit, ht⟩ hQ => by
    have hx : items[i]? = some items[i] := by simp [hi]
    exact nextOf_tuple_item hit ht hx fun h' hit' hs => hQ _ h' s.toks hx ⟨hit', ht.extBut hs.extBut hne⟩ hs
  done := fun s Q E ⟨hit, ht⟩ hE => nextOf_tuple_end hh hit ht (by simp) fun h' e he hx => hE h' e he hx

theorem meets_enumerate_newT (t : Addr) (items : Array Value) (n : Nat) (dct : Option Addr) (sl : Array (Option Value)) :
    Meets (Builtin.«enumerate.__new__» ⟨[.type "enumerate", .ref t], []⟩) (fun _ R s => s.heap.get? t = some { cls := .type "tuple", dict := dct, data := .seq items n, slots := sl } ∧
      R (.ok (.ret (.ref (s.heap.push { cls := .type "tuple_iterator", data := .fields #[.ref t, .int 0 0] }).objs.size)))
        { s with heap := (s.heap.push { cls := .type "tuple_iterator", data := .fields #[.ref t, .int 0 0] }).push { cls := .type "enumerate", data := .fields #[.none, .bool false, .ref s.heap.objs.size, rawInt 0, .none, .none] } }) :=
  .of_wp fun prog w A R s h => by
    obtain ⟨hp, g, d, tk, os⟩ := s; obtain ⟨hl, h⟩ := h
    have hsub := sub_enumerate
    have hT : Heap.IsTuple (Shared.heap ⟨hp, g, d, tk, os⟩) t items := ⟨_, hl, rfl, n, rfl⟩
    wp_walk using wpAny_loadPart' hl
    refine wpAny_stack_any fun st => wpAny_pure ?_
    split
    · rename_i c _ _ _ _ _
      cases (c == Value.type "enumerate")
      · wp_walk using wpAny_loadPart' hl, wpAny_pyIter_tuple hT
        exact ⟨_, rfl, h⟩
      · wp_walk using wpAny_loadPart' hl, wpAny_pyIter_tuple hT
        exact ⟨_, rfl, h⟩
    · wp_walk using wpAny_loadPart' hl, wpAny_pyIter_tuple hT
      exact ⟨_, rfl, h⟩

theorem call_enumerate_tuple {t : Addr} {items : Array Value} {Q : Value → Shared → Prop} (hT : s.heap.IsTuple t items)
    (h : ∀ h', IsEnum h' (s.heap.objs.size + 1) s.heap.objs.size 0 .none → h'.IsTupleIter s.heap.objs.size t 0 → h'.objs.size = s.heap.objs.size + 2 →
      (∀ b o, s.heap.get? b = some o → h'.get? b = some o) → Q (.ref (s.heap.objs.size + 1)) { s with heap := h' }) :
    wpAny (model prog w) A (call (.type "enumerate") [.ref t]) Q E s := by
  obtain ⟨⟨c, dct, dt, sl⟩, hl, hc, n, hd⟩ := hT
  replace hc : c = .type "tuple" := hc
  replace hd : dt = .seq items n := hd
  subst hc hd
  refine callType_new PySem.F.called_enumerate (by decide) (PySem.F.typeCall_enumerate_1 _) (PySem.F.newCall_enumerate_1 _) (fun obj => PySem.F.args_object_init_2 obj _) PySem.F.entry_enumerate_new
    (meets_enumerate_newT t items n dct sl) ⟨hl, ?_⟩
  have hz : (s.heap.push { cls := .type "tuple_iterator", data := .fields #[.ref t, .int 0 0] }).objs.size = s.heap.objs.size + 1 := Heap.size_push ..
  show _ ∧ _
  rw [hz]
  have he : IsEnum ((s.heap.push { cls := .type "tuple_iterator", data := .fields #[.ref t, .int 0 0] }).push
      { cls := .type "enumerate", data := .fields #[.none, .bool false, .ref s.heap.objs.size, rawInt 0, .none, .none] }) (s.heap.objs.size + 1) s.heap.objs.size 0 .none := by
    have := Heap.get?_push_size (s.heap.push { cls := .type "tuple_iterator", data := .fields #[.ref t, .int 0 0] })
      (o := { cls := .type "enumerate", data := .fields #[.none, .bool false, .ref s.heap.objs.size, rawInt 0, .none, .none] }) rfl
    rw [hz] at this; exact this
  refine ⟨⟨_, he, rfl⟩, h _ he ⟨_, Heap.get?_push_of_some _ (Heap.get?_push_size _ rfl), rfl, rfl⟩ (by rw [Heap.size_push, hz]) fun b o x => Heap.get?_push_of_some _ (Heap.get?_push_of_some _ x)⟩
theorem letGo_tupiter {elts : List Expr} {x1} {pos : Pos} {I l T : Addr} {i : Nat} {Q : Unit → Shared → Prop} (hit : s.heap.IsTupleIter I l i) (hQ : Q () s) :
    wpAny (model prog w) A (letOwnedTupleGo (.Tuple elts x1 pos) (.ref I) (.ref T)) Q E s := by
  obtain ⟨o, ho, hc, hd⟩ := hit
  unfold letOwnedTupleGo
  refine wpAny_bind (wpAny_load ho ?_)
  rw [hc, hd]
  show wpAny _ A (if (["enumerate", "zip", "dict_itemiterator", "dict_reverseitemiterator", "odict_iterator", "itertools.zip_longest", "itertools.pairwise"].contains "tuple_iterator" &&
      (#[.ref l, .int i 0] : Array Value)[0]? == some (rawInt T)) = true then _ else _) Q E s
  rw [if_neg (by
    intro h
    rw [show (["enumerate", "zip", "dict_itemiterator", "dict_reverseitemiterator", "odict_iterator", "itertools.zip_longest", "itertools.pairwise"].contains "tuple_iterator") = false from by decide, Bool.false_and] at h
    cases h)]
  exact wpAny_pure hQ
end

def TiO (o : Obj) (l : Addr) (i : Nat) : Prop := o.cls = .type "tuple_iterator" ∧ o.data = .fields #[.ref l, .int i 0]
section
variable {prog : Program} {w : World} {A : Around} {s : Shared} {env : Env} {g : Heap} {m : Str → Option Value} {rest : List (Addr × Obj)}

/-- a turn of «for i, x in enumerate(t)», t a tuple of the base -/
theorem enumTurnT {xi xv : Str} {pi pv pt : Pos} {x1 : Nat} {e it t : Addr} {items : Array Value} {i : Nat} {old : Value} {oit : Obj} {Pn Ps : Shared → Prop}
    (hh : A.handled = none) (hki : env.kindOf xi = some .local) (hkv : env.kindOf xv = some .local) (hp : (env.scope.kind == .class || (env.scope.kind == .module && env.locals != env.globals)) = false)
    (F : Fr g env.locals s.heap m) (N : News g env.locals s.heap ((e, enumO it i old) :: (it, oit) :: rest)) (ho : TiO oit t i) (ht : g.IsTuple t items)
    (hei : e ≠ it) (hre : ∀ p ∈ rest, p.1 ≠ e) (hri : ∀ p ∈ rest, p.1 ≠ it)
    (hend : i = items.size → ∀ h' , Fr g env.locals h' m → News g env.locals h' rest → Pn { s with heap := h' })
    (hitem : ∀ v, items[i]? = some v → ∀ h' tk oit' t', TiO oit' t (i + 1) → Fr g env.locals h' (fun y => if y = xv then some v else if y = xi then some (.int i t') else m y) →
      News g env.locals h' ((e, enumO it (i + 1 : Nat) v) :: (it, oit') :: rest) → Ps { s with heap := h', toks := tk }) (hi : i ≤ items.size) :
    ForTurn prog w A env (.Tuple [.Name xi pi, .Name xv pv] x1 pt) (.ref e) Pn Ps s := by
  unfold ForTurn
  obtain ⟨H, gs, d, tk, os⟩ := s
  dsimp only at *
  have he := (N _ (.head _)).1
  have hit : H.IsTupleIter it t i := ⟨oit, (N _ (.tail _ (.head _))).1, ho⟩
  have htH : H.IsTuple t items := let ⟨o, a, r⟩ := ht; ⟨o, F.keep _ _ a, r⟩
  have Nr : News g env.locals H rest := news_tail (news_tail N)
  have heL : e ≠ env.locals := (N _ (.head _)).2.1
  have hiL : it ≠ env.locals := (N _ (.tail _ (.head _))).2.1
  have heg : g.get? e = none := (N _ (.head _)).2.2
  have hig : g.get? it = none := (N _ (.tail _ (.head _))).2.2
  have hte : t ≠ e := fun q => by obtain ⟨o, a, _⟩ := ht; rw [q, heg] at a; cases a
  have hti : t ≠ it := fun q => by obtain ⟨o, a, _⟩ := ht; rw [q, hig] at a; cases a
  have heH : e < H.objs.size := Heap.lt_size he
  have hiH : it < H.objs.size := Heap.lt_size (N _ (.tail _ (.head _))).1
  have hLH : env.locals < H.objs.size := F.ns.lt
  have D : Draws prog w A.in1 it [it, t] items.size (fun i v => items[i]? = some v) (fun i h => h.IsTupleIter it t i ∧ h.IsTuple t items) := drawsT (A := A.in1) (show A.in1.handled = none from hh) hti items
  by_cases hlt : i < items.size
  · refine wpAny_pyNext_enum_itemD D he ⟨hit, htH⟩ hlt hei (by simpa using ⟨hei, Ne.symm hte⟩) fun v h₁ tk₁ hv heo ⟨hit₁, htt₁⟩ ht₁ hz₁ hk₁ => ?_
    dsimp only at ht₁ hz₁ hk₁ heo ⊢
    refine wpAny_letOwnedTupleGo_enum heo fun h₂ he₂ hs₂ => ?_
    replace hs₂ : Heap.SameBut e h₁ h₂ := hs₂
    have ht₂ : h₂.IsTuple H.objs.size #[.int i tk₁, v] := ⟨_, (hs₂.2 _ (Nat.ne_of_gt heH)).trans ht₁, rfl, _, rfl⟩
    have hz₂ : h₂.objs.size = H.objs.size + 1 := hs₂.1.trans hz₁
    refine wpAny_assign_Tuple hh ht₂ rfl rfl fun h₃ hx₃ => ?_
    replace hx₃ : Heap.ExtBut h₂.objs.size h₂ h₃ := hx₃
    have old₃ : ∀ b o, b < H.objs.size → h₂.get? b = some o → h₃.get? b = some o := fun b o hb x => hx₃ b o (by rw [hz₂]; exact Nat.ne_of_lt (Nat.lt_succ_of_lt hb)) x
    have k₃ : ∀ b o, b ∉ [e, it] → H.get? b = some o → h₃.get? b = some o := fun b o hb x => by
      simp only [List.mem_cons, List.not_mem_nil, or_false, not_or] at hb
      exact old₃ b o (Heap.lt_size x) (hs₂.extBut b o hb.1 (hk₁ b o hb.1 hb.2 x))
    have F₃ : Fr g env.locals h₃ m := fr_but [e, it] F k₃ (by simpa using ⟨Ne.symm heL, Ne.symm hiL⟩) (by simpa using ⟨heg, hig⟩)
    obtain ⟨oit', hoit', ho'⟩ := hit₁
    have hoit₃ : h₃.get? it = some oit' := old₃ _ _ hiH (hs₂.extBut _ _ (Ne.symm hei) hoit')
    have N₃ : News g env.locals h₃ ((e, enumO it (i + 1 : Nat) v) :: (it, oit') :: rest) := by
      refine news_cons ?_ heL heg (news_cons hoit₃ hiL hig (news_but [e, it] Nr k₃ (fun p hp => by simpa using ⟨hre p hp, hri p hp⟩)))
      have := old₃ _ _ heH he₂
      rw [this]; push_cast; rfl
    show wpAny _ A (do holding [v] (assign (.Name xi pi) env (.int i tk₁)); do holding [] (assign (.Name xv pv) env v); pure ()) _ _ _
    refine wpAny_bind (wpAny_holding (wpAny_assign_Name (wpAny_storeName_local hki F₃.ns (fun h₄ hn₄ hs₄ => ?_) hp)))
    replace hs₄ : Heap.SameBut env.locals h₃ h₄ := hs₄
    have F₄ := F₃.set hn₄ hs₄
    refine wpAny_bind (wpAny_holding (wpAny_assign_Name (wpAny_storeName_local hkv F₄.ns (fun h₅ hn₅ hs₅ => wpAny_pure ?_) hp)))
    replace hs₅ : Heap.SameBut env.locals h₄ h₅ := hs₅
    exact hitem v hv h₅ _ oit' tk₁ ho' (F₄.set hn₅ hs₅) ((N₃.set hs₄).set hs₅)
  · have hie : i = items.size := by omega
    subst hie
    refine wpAny_pyNext_enum_endD D he ⟨hit, htH⟩ fun h₁ he₁ => ?_
    exact hend rfl h₁ (fr_but [it] F (fun b o hb x => he₁ b o (by simpa using hb) x) (by simpa using Ne.symm hiL) (by simpa using hig)) (news_but [it] Nr (fun b o hb x => he₁ b o (by simpa using hb) x) (by simpa using hri))

theorem enumStartT {L t : Addr} {items : Array Value} {Q : Value → Shared → Prop} (F : Fr g L s.heap m) (N : News g L s.heap rest) (ht : g.IsTuple t items)
    (hQ : ∀ h' e it oit, TiO oit t 0 → Fr g L h' m → News g L h' ((e, enumO it (0 : Nat) .none) :: (it, oit) :: rest) → (∀ q ∈ rest, q.1 < it) → it < e → Q (.ref e) { s with heap := h' }) :
    wpAny (model prog w) A (call (.type "enumerate") [.ref t]) (fun x s₁ => wpAny (model prog w) A (pyIter x) Q (fun _ _ => False) s₁) (fun _ _ => False) s := by
  have htH : s.heap.IsTuple t items := let ⟨o, a, r⟩ := ht; ⟨o, F.keep _ _ a, r⟩
  refine call_enumerate_tuple (items := items) htH fun h' he hit hz hk => ?_
  refine wpAny_pyIter_enum he ?_
  obtain ⟨oit, ho, hoit⟩ := hit
  have hLs : L < s.heap.objs.size := F.ns.lt
  have F' : Fr g L h' m := F.keeps hk
  have hg : ∀ b, s.heap.objs.size ≤ b → g.get? b = none := fun b hb => by
    cases q : g.get? b with
    | none => rfl
    | some o => exact absurd (Heap.lt_size (F.keep b o q)) (Nat.not_lt.mpr hb)
  exact hQ h' _ _ oit hoit F' (news_cons he (Nat.ne_of_gt (Nat.lt_succ_of_lt hLs)) (hg _ (Nat.le_succ _)) (news_cons ho (Nat.ne_of_gt hLs) (hg _ (Nat.le_refl _)) fun p hp => ⟨hk _ _ (N p hp).1, (N p hp).2⟩))
    (fun q hq => Heap.lt_size (N q hq).1) (Nat.lt_succ_self _)

/-- a turn of «for a, b in t», t a tuple of the base, its items pairs of the base -/
theorem pairTurnT {xa xb : Str} {pa pb pt : Pos} {x1 : Nat} {it t : Addr} {items : Array Value} {i : Nat} {oit : Obj} {Pn Ps : Shared → Prop}
    (hh : A.handled = none) (hka : env.kindOf xa = some .local) (hkb : env.kindOf xb = some .local) (hp : (env.scope.kind == .class || (env.scope.kind == .module && env.locals != env.globals)) = false)
    (F : Fr g env.locals s.heap m) (N : News g env.locals s.heap ((it, oit) :: rest)) (ho : TiO oit t i) (ht : g.IsTuple t items) (hri : ∀ p ∈ rest, p.1 ≠ it)
    (hend : items[i]? = none → ∀ h' , Fr g env.locals h' m → News g env.locals h' rest → Pn { s with heap := h' })
    (hitem : ∀ v, items[i]? = some v → ∃ T a b, v = .ref T ∧ g.IsTuple T #[a, b] ∧ ∀ h' tk oit', TiO oit' t (i + 1) → Fr g env.locals h' (fun y => if y = xb then some b else if y = xa then some a else m y) →
      News g env.locals h' ((it, oit') :: rest) → Ps { s with heap := h', toks := tk }) :
    ForTurn prog w A env (.Tuple [.Name xa pa, .Name xb pb] x1 pt) (.ref it) Pn Ps s := by
  unfold ForTurn
  obtain ⟨H, gs, d, tk, os⟩ := s
  dsimp only at *
  have hit : H.IsTupleIter it t i := ⟨oit, (N _ (.head _)).1, ho⟩
  have htH : H.IsTuple t items := let ⟨o, a, r⟩ := ht; ⟨o, F.keep _ _ a, r⟩
  have Nr : News g env.locals H rest := news_tail N
  have hiL : it ≠ env.locals := (N _ (.head _)).2.1
  have hig : g.get? it = none := (N _ (.head _)).2.2
  have hiH : it < H.objs.size := Heap.lt_size (N _ (.head _)).1
  have hti : t ≠ it := fun q => by obtain ⟨o, a, _⟩ := ht; rw [q, hig] at a; cases a
  cases hv : items[i]? with
  | none =>
    refine wpAny_pyNext_tuple_end hh hit htH hv fun h₁ he₁ => ?_
    exact hend hv h₁ (fr_but [it] F (fun b o hb x => he₁ b o (by simpa using hb) x) (by simpa using Ne.symm hiL) (by simpa using hig)) (news_but [it] Nr (fun b o hb x => he₁ b o (by simpa using hb) x) (by simpa using hri))
  | some v =>
    refine wpAny_pyNext_tuple_item hit htH hv fun h₁ hit₁ hs₁ => ?_
    replace hs₁ : Heap.SameBut it H h₁ := hs₁
    obtain ⟨T, a, b, rfl, hT, hgo⟩ := hitem v hv
    refine letGo_tupiter (s := ⟨h₁, gs, d, tk, os⟩) hit₁ ?_
    have k₁ : ∀ b o, b ∉ [it] → H.get? b = some o → h₁.get? b = some o := fun b o hb x => hs₁.extBut b o (by simpa using hb) x
    have F₁ : Fr g env.locals h₁ m := fr_but [it] F k₁ (by simpa using Ne.symm hiL) (by simpa using hig)
    have hT₁ : h₁.IsTuple T #[a, b] := let ⟨o, a, r⟩ := hT; ⟨o, F₁.keep _ _ a, r⟩
    have hsz : h₁.objs.size = H.objs.size := hs₁.1
    refine wpAny_assign_Tuple hh hT₁ rfl rfl fun h₃ hx₃ => ?_
    replace hx₃ : Heap.ExtBut h₁.objs.size h₁ h₃ := hx₃
    have k₃ : ∀ b o, h₁.get? b = some o → h₃.get? b = some o := fun b o x => hx₃ b o (Nat.ne_of_lt (Heap.lt_size x)) x
    obtain ⟨oit', hoit', ho'⟩ := hit₁
    have F₃ := F₁.keeps k₃
    have N₃ : News g env.locals h₃ ((it, oit') :: rest) := news_cons (k₃ _ _ hoit') hiL hig (news_but [it] Nr (fun b o hb x => k₃ b o (k₁ b o hb x)) (by simpa using hri))
    show wpAny _ A (do holding [b] (assign (.Name xa pa) env a); do holding [] (assign (.Name xb pb) env b); pure ()) _ _ _
    refine wpAny_bind (wpAny_holding (wpAny_assign_Name (wpAny_storeName_local hka F₃.ns (fun h₄ hn₄ hs₄ => ?_) hp)))
    replace hs₄ : Heap.SameBut env.locals h₃ h₄ := hs₄
    have F₄ := F₃.set hn₄ hs₄
    refine wpAny_bind (wpAny_holding (wpAny_assign_Name (wpAny_storeName_local hkb F₄.ns (fun h₅ hn₅ hs₅ => wpAny_pure ?_) hp)))
    replace hs₅ : Heap.SameBut env.locals h₄ h₅ := hs₅
    exact hgo h₅ _ oit' ho' (F₄.set hn₅ hs₅) ((N₃.set hs₄).set hs₅)

theorem tupStart {L t : Addr} {items : Array Value} {Q E : Value → Shared → Prop} (F : Fr g L s.heap m) (N : News g L s.heap rest) (ht : g.IsTuple t items)
    (hQ : ∀ h' it oit, TiO oit t 0 → Fr g L h' m → News g L h' ((it, oit) :: rest) → (∀ q ∈ rest, q.1 < it) → Q (.ref it) { s with heap := h' }) :
    wpAny (model prog w) A (pyIter (.ref t)) Q E s := by
  have htH : s.heap.IsTuple t items := let ⟨o, a, r⟩ := ht; ⟨o, F.keep _ _ a, r⟩
  refine wpAny_pyIter_tuple htH ?_
  exact hQ _ _ _ ⟨rfl, rfl⟩ (F.push _) (N.push F _) fun q hq => Heap.lt_size (N q hq).1
/-- a turn of «for x in l», l a list of the ledger -/
theorem listTurn {x : Str} {px : Pos} {it l : Addr} {items : Array Value} {i : Nat} {oit : Obj} {Pn Ps : Shared → Prop}
    (hh : A.handled = none) (hki : env.kindOf x = some .local) (hp : (env.scope.kind == .class || (env.scope.kind == .module && env.locals != env.globals)) = false)
    (F : Fr g env.locals s.heap m) (N : News g env.locals s.heap ((it, oit) :: rest)) (ho : ItO oit l i) (hl : s.heap.IsList l items) (hri : ∀ p ∈ rest, p.1 ≠ it)
    (hend : items[i]? = none → ∀ h', (∀ b o, b ≠ it → s.heap.get? b = some o → h'.get? b = some o) → Fr g env.locals h' m → News g env.locals h' rest → Pn { s with heap := h' })
    (hitem : ∀ v, items[i]? = some v → ∀ h' tk oit', ItO oit' l (i + 1) → (∀ b o, b ≠ it → b ≠ env.locals → s.heap.get? b = some o → h'.get? b = some o) → Fr g env.locals h' (fun y => if y = x then some v else m y) →
      News g env.locals h' ((it, oit') :: rest) → Ps { s with heap := h', toks := tk }) :
    ForTurn prog w A env (.Name x px) (.ref it) Pn Ps s := by
  unfold ForTurn
  obtain ⟨H, gs, d, tk, os⟩ := s
  dsimp only at *
  have hit : H.IsListIter it l i := ⟨oit, (N _ (.head _)).1, ho⟩
  have Nr : News g env.locals H rest := news_tail N
  have hiL : it ≠ env.locals := (N _ (.head _)).2.1
  have hig : g.get? it = none := (N _ (.head _)).2.2
  cases hv : items[i]? with
  | none =>
    refine wpAny_pyNext_list_end hh hit hl hv fun h₁ he₁ => ?_
    exact hend hv h₁ (fun b o hb x => he₁ b o hb x) (fr_but [it] F (fun b o hb x => he₁ b o (by simpa using hb) x) (by simpa using Ne.symm hiL) (by simpa using hig)) (news_but [it] Nr (fun b o hb x => he₁ b o (by simpa using hb) x) (by simpa using hri))
  | some v =>
    refine wpAny_pyNext_list_item hit hl hv fun h₁ hit₁ hs₁ => ?_
    replace hs₁ : Heap.SameBut it H h₁ := hs₁
    have k₁ : ∀ b o, b ∉ [it] → H.get? b = some o → h₁.get? b = some o := fun b o hb x => hs₁.extBut b o (by simpa using hb) x
    have F₁ : Fr g env.locals h₁ m := fr_but [it] F k₁ (by simpa using Ne.symm hiL) (by simpa using hig)
    obtain ⟨oit', hoit', ho'⟩ := hit₁
    have N₁ : News g env.locals h₁ ((it, oit') :: rest) := news_cons hoit' hiL hig (news_but [it] Nr k₁ (by simpa using hri))
    refine wpAny_of_eq (a := ()) rfl ?_
    refine wpAny_assign_Name (wpAny_storeName_local hki F₁.ns (fun h₄ hn₄ hs₄ => ?_) hp)
    replace hs₄ : Heap.SameBut env.locals h₁ h₄ := hs₄
    exact hitem v hv h₄ _ oit' ho' (fun b o hb hL x => hs₄.extBut b o hL (hs₁.extBut b o hb x)) (F₁.set hn₄ hs₄) (N₁.set hs₄)
theorem listStart {L l : Addr} {items : Array Value} {Q E : Value → Shared → Prop} (F : Fr g L s.heap m) (N : News g L s.heap rest) (hl : s.heap.IsList l items)
    (hQ : ∀ h' it oit, ItO oit l 0 → (∀ b o, s.heap.get? b = some o → h'.get? b = some o) → Fr g L h' m → News g L h' ((it, oit) :: rest) → (∀ q ∈ rest, q.1 < it) → l < it → Q (.ref it) { s with heap := h' }) :
    wpAny (model prog w) A (pyIter (.ref l)) Q E s := by
  refine wpAny_pyIter_list hl ?_
  obtain ⟨o, ho, _⟩ := id hl
  exact hQ _ _ _ ⟨rfl, rfl⟩ (fun b o x => Heap.get?_push_of_some _ x) (F.push _) (N.push F _) (fun q hq => Heap.lt_size (N q hq).1) (Heap.lt_size ho)
end
section
variable {prog : Program} {w : World} {A : Around} {E : Value → Shared → Prop} {s : Shared}
theorem bool_index : typeLookup (.type "bool") "__index__" = pure (some (.builtin "int.__index__")) := by rw [typeLookup_type, builtinLookup_eq_fast]; kernel_rfl
theorem subscript_bool {b : Bool} {Q : Option Int → Shared → Prop} (h : Q (some (if b then 1 else 0)) s) :
    wpAny (model prog w) A (Builtin.List.listSubscript? (.bool b)) Q E s := by
  unfold Builtin.List.listSubscript?
  refine wpAny_bind (wpAny_specialOf (T := "bool") rfl bool_index ?_)
  show wpAny _ A (asIndex (.bool b) >>= _) Q E s
  refine wpAny_bind (wpAny_of_eq (a := if b then 1 else 0) (by cases b <;> rfl) ?_)
  cases b
  · show wpAny _ A (if (!Builtin.List.listFitsIndex 0) = true then _ else _) Q E s
    rw [if_neg (by decide)]
    exact wpAny_pure h
  · show wpAny _ A (if (!Builtin.List.listFitsIndex 1) = true then _ else _) Q E s
    rw [if_neg (by decide)]
    exact wpAny_pure h
theorem getItem_list_bool {l : Addr} {items : Array Value} {b : Bool} {x : Value} {Q : Value → Shared → Prop} (hl : s.heap.IsList l items)
    (hx : items[(if b then 1 else 0 : Nat)]? = some x) (h : Q x s) : wpAny (model prog w) A (getItem (.ref l) (.bool b)) Q E s := by
  obtain ⟨o, ho, hc, ne, hd⟩ := id hl
  unfold getItem
  try with_reducible refine wpAny_holding ?_
  first | refine wpAny_bind (wpAny_pure ?_) | skip
  refine wpAny_bind (wpAny_sequenceKey hl.typeIs (by decide) ?_)
  refine wpAny_bind (wpAny_callSpecial?_slot (name := Str.ofString "__getitem__") hl.typeIs slot_list_getitem
    (wpAny_call_entry slot_list_getitem hl.typeIs entry_list_getitem ?_ (args_list_getitem _ _)))
  show wpAny _ _ (Builtin.List.listSubscript? (.bool b) >>= _) _ _ s
  refine wpAny_bind (subscript_bool ?_)
  cases b
  · show wpAny _ _ ((seqItemAt l 0 >>= fun r => pure (r.map (0, ·))) >>= _) _ _ s
    refine wpAny_bind (wpAny_bind (wpAny_seqItemAt ho hd (wpAny_pure ?_)))
    have hx' : items[0]? = some x := hx
    rw [hx']
    first
      | exact wpAny_bind (wpAny_pure (wpAny_pure ⟨x, rfl, wpAny_pure h⟩))
      | exact wpAny_pure ⟨x, rfl, wpAny_pure h⟩
  · show wpAny _ _ ((seqItemAt l 1 >>= fun r => pure (r.map (1, ·))) >>= _) _ _ s
    refine wpAny_bind (wpAny_bind (wpAny_seqItemAt ho hd (wpAny_pure ?_)))
    have hx' : items[1]? = some x := hx
    rw [hx']
    first
      | exact wpAny_bind (wpAny_pure (wpAny_pure ⟨x, rfl, wpAny_pure h⟩))
      | exact wpAny_pure ⟨x, rfl, wpAny_pure h⟩
end
end Mine
end
section
open PySem PySem.W PyProof.Rows PySem.Calls
set_option Elab.async false
set_option maxRecDepth 100000
set_option maxHeartbeats 1000000
namespace Mine
theorem fillup5 : PySem.Challenge.rw_oy0181_01 = PySem.Challenge.rw_oy0181_01 ∧ KK = KK := by k_fill; exact ⟨rfl, rfl⟩
variable {prog : Program} {w : World} {p : Program} {loose : List Str} {mean : ExcName → Option Value} {mg mb : Str → Option Value}

def tabsL : List (Addr × List (Addr × (Int × Tok) × (Str × Tok))) := [
  (167, [(160, (40960, 435), (Str.ofString "l", 463)), (161, (49152, 437), (Str.ofString "s", 464)), (162, (32768, 431), (Str.ofString "-", 465)), (163, (24576, 429), (Str.ofString "b", 466)), (164, (16384, 425), (Str.ofString "d", 467)), (165, (8192, 427), (Str.ofString "c", 468)), (166, (4096, 433), (Str.ofString "p", 469))]),
  (169, [(168, (256, 445), (Str.ofString "r", 470))]),
  (171, [(170, (128, 447), (Str.ofString "w", 471))]),
  (175, [(172, (2112, 472), (Str.ofString "s", 473)), (173, (2048, 439), (Str.ofString "S", 474)), (174, (64, 449), (Str.ofString "x", 475))]),
  (177, [(176, (32, 451), (Str.ofString "r", 476))]),
  (179, [(178, (16, 453), (Str.ofString "w", 477))]),
  (183, [(180, (1032, 478), (Str.ofString "s", 479)), (181, (1024, 441), (Str.ofString "S", 480)), (182, (8, 455), (Str.ofString "x", 481))]),
  (185, [(184, (4, 457), (Str.ofString "r", 482))]),
  (187, [(186, (2, 459), (Str.ofString "w", 483))]),
  (191, [(188, (513, 484), (Str.ofString "t", 485)), (189, (512, 443), (Str.ofString "T", 486)), (190, (1, 461), (Str.ofString "x", 487))])]

theorem tabK {P : Params} {g : Heap} (X : (KK P).In g) : ∀ q ∈ tabsL, g.IsTuple q.1 (q.2.map (fun p => Value.ref p.1)).toArray ∧ ∀ p ∈ q.2, g.IsTuple p.1 #[.int p.2.1.1 p.2.1.2, .str p.2.2.1 p.2.2.2] := by
  unfold tabsL
  simp only [List.forall_mem_cons, List.not_mem_nil, false_implies, implies_true, and_true]
  repeat' apply And.intro
  all_goals exact ⟨_, X _ _ (by k_is), rfl, _, rfl⟩
theorem tabTop {P : Params} {g : Heap} (X : (KK P).In g) : g.IsTuple 192 (tabsL.map (fun q => Value.ref q.1)).toArray := ⟨_, X _ _ (by k_is), rfl, _, rfl⟩

abbrev Row4 := Addr × (Int × Tok) × (Str × Tok)
def fmHit (i : Nat) (m : Int) (p : Row4) : Bool := if i = 0 then Builtin.bitAnd m 61440 == p.2.1.1 else Builtin.bitAnd m p.2.1.1 == p.2.1.1
def fmOf (i : Nat) (m : Int) (l : List Row4) : Str := match l.find? (fmHit i m) with
  | some p => p.2.2.1
  | none => if i = 0 then Str.ofString "?" else Str.ofString "-"
def fmChr (m : Int) (i : Nat) : Str := fmOf i m ((tabsL[i]?).map (·.2) |>.getD [])
/-- what filemode gives back -/
def fmS (m : Int) : Str := Txt.join (Str.ofString "") ((List.range 10).map (fmChr m))

theorem ifmt_call (dp un : Nat) (gd : Option (List Code)) (fr : Option (List Env)) (h₀ : Heap) (s : Shared) (Q E : Value → Shared → Prop) (m : Int) (t : Tok)
   (X : (KK w.params).In h₀) (T : Top p loose mean mg mb h₀) (hst : h₀.StaysIn s.heap) (hdp : dp + 10 < recursionLimit) (hun : un + 50 < cLine) (h0 : 0 ≤ m) (h1 : m < 65536)
   (hQ : ∀ h' tk t', (∀ y o, s.heap.get? y = some o → h'.get? y = some o) → Q (.int (Builtin.bitAnd m 61440) t') { s with heap := h', toks := tk })
   : wpAny (model prog w) (Ar dp un gd fr) (PySem.call (.ref 159) [.int m t]) Q E s := by
  refine' callM (binds := [("mode", .int m t)]) [] X T hst ?a ?b ?ep ?eb ?es ?c ?d ?e ?f ?_ ?g ?h ?i ?j
  case a => exact fun _ h => nomatch h
  case b => k_is
  case ep => conv => lhs; whnf
  case eb => conv => lhs; whnf
  case es => conv => lhs; whnf
  case c => k_is
  case d => show dp < _; omega
  case e => exact BindsTo.of_eq rfl
  case f => exact locs rfl
  case g => decide
  case h => rfl
  case i => rfl
  case j => rfl
  intro g L' h₁ F' N' X' TT hlt0 hg
  clear X T
  (repeat' (first | ((with_reducible show @ite Prop _ _ _ _); first | refine if_pos_p (by decide) ?_ | refine if_neg_p (by decide) ?_) | ((with_reducible show wpAny _ _ _ _ _ _); (fail_if_success (with_reducible (first | refine at1 ?_ | refine at2 ?_ | refine at3 ?_ | refine at5 ?_ | refine at6 ?_ | refine at9 ?_ | refine at10 ?_ | refine at11 ?_))); (first | walk1 | (dsimp only; walk1)))))
  exact hQ _ _ _ fun y o hy => F'.keep y o (hg y o hy (fun q => nomatch q))

theorem SV_push (ps : List (Str × Tok)) (c : Str) (tc : Tok) : (SV ps).toArray.push (.str c tc) = (SV (ps ++ [(c, tc)])).toArray := by simp [SV]
theorem find_first {α : Type} {f : α → Bool} : ∀ {l : List α} {j : Nat} {p : α}, (∀ q ∈ l.take j, f q = false) → l[j]? = some p → f p = true → l.find? f = some p
  | [], _, _, _, h, _ => by simp at h
  | a :: l, 0, p, _, h, hp => by
    obtain rfl : a = p := by simpa using h
    rw [List.find?_cons, hp]
  | a :: l, j + 1, p, hn, h, hp => by
    have ha : f a = false := hn a (by simp)
    rw [List.find?_cons, ha]
    exact find_first (j := j) (fun q hq => hn q (by simp [hq])) (by simpa using h) hp
theorem tab_len : ∀ q ∈ tabsL, ∀ p ∈ q.2, p.2.2.1.length ≤ 1 := by decide +kernel
theorem fm_len (m : Int) (i : Nat) : (fmChr m i).length ≤ 1 := by
  unfold fmChr fmOf
  split
  · rename_i p hp
    cases h : tabsL[i]? with
    | none => rw [h] at hp; cases hp
    | some q =>
      rw [h] at hp
      exact tab_len q (List.mem_of_getElem? h) p (List.mem_of_find?_eq_some hp)
  · split <;> decide +kernel
theorem join_fm {A : Around} {E : Value → Shared → Prop} {s : Shared} {Q : Value → Shared → Prop} {D : Addr} {nR : Nat} {ps : List (Str × Tok)} {m : Int} {t : Tok} (hl : s.heap.get? D = some (LS ps nR)) (hps : ps.map Prod.fst = (List.range 10).map (fmChr m))
    (hq : ∀ t' k, Q (.str (fmS m) t') { s with toks := k }) : wpAny (model prog w) A (PySem.call (.builtin "str.join") [.str (Str.ofString "") t, .ref D]) Q E s := by
  have hL : s.heap.IsList D (strValues ps).toArray := ⟨_, hl, rfl, nR, rfl⟩
  generalize hx : (List.range 10).map (fmChr m) = tx at hps
  have hq' : ∀ t' k, Q (.str (Txt.join (Str.ofString "") tx) t') { s with toks := k } := fun t' k => by
    rw [← hx]; exact hq t' k
  refine SC.join hL hps ?_ hq'
  unfold JoinOk
  rw [Bool.not_eq_true']
  refine StrLaws.joinFits (B := 1) (fun y hy => ?_) ?_
  · rw [← hx] at hy
    obtain ⟨i, _, rfl⟩ := List.mem_map.mp hy
    exact fm_len m i
  · rw [← hx]; simp; decide
theorem fm_call (dp un : Nat) (gd : Option (List Code)) (fr : Option (List Env)) (h₀ : Heap) (s : Shared) (Q E : Value → Shared → Prop) (m : Int) (t : Tok)
   (X : (KK w.params).In h₀) (T : Top p loose mean mg mb h₀) (hst : h₀.StaysIn s.heap) (hdp : dp + 20 < recursionLimit) (hun : un + 100 < cLine) (h0 : 0 ≤ m) (h1 : m < 65536)
   (hQ : ∀ h' tk t', (∀ y o, s.heap.get? y = some o → h'.get? y = some o) → Q (.str (fmS m) t') { s with heap := h', toks := tk })
   : wpAny (model prog w) (Ar dp un gd fr) (PySem.call (.ref 199) [.int m t]) Q E s := by
  refine' callM (binds := [("mode", .int m t)]) [] X T hst ?a ?b ?ep ?eb ?es ?c ?d ?e ?f ?_ ?g ?h ?i ?j
  case a => exact fun _ h => nomatch h
  case b => k_is
  case ep => conv => lhs; whnf
  case eb => conv => lhs; whnf
  case es => conv => lhs; whnf
  case c => k_is
  case d => show dp < _; omega
  case e => exact BindsTo.of_eq rfl
  case f => exact locs rfl
  case g => decide
  case h => rfl
  case i => rfl
  case j => rfl
  intro g L' h₁ F' N' X' TT hlt0 hg
  clear X T
  (repeat' (first | ((with_reducible show @ite Prop _ _ _ _); first | refine if_pos_p (by decide) ?_ | refine if_neg_p (by decide) ?_) | ((with_reducible show wpAny _ _ _ _ _ _); (fail_if_success (with_reducible (first | refine at1 ?_ | refine at2 ?_ | refine at3 ?_ | refine at5 ?_ | refine at6 ?_ | refine at9 ?_ | refine at10 ?_ | refine at11 ?_))); (first | walk1 | (dsimp only; walk1)))))
  rename_i R _ _ h2 F2 N2
  refine wpAny_mono (E := fun _ _ => False) (Q := fun f s' => f = .next ∧ ∃ h tk mm ps nR, s' = { s with heap := h, toks := tk } ∧ Fr g L' h mm ∧ mm "perm" = some (.ref R) ∧ mm "mode" = some (.int m t) ∧
    News g L' h [(R, LS ps nR)] ∧ ps.map Prod.fst = (List.range 10).map (fmChr m)) ?loop ?rest (fun _ _ x => x)
  case rest =>
    rintro f s' ⟨rfl, h3, tk3, mm, ps, nR, rfl, F3, eP, eM, N3, hps⟩
    have F4 := Fr.know (x := "perm") (v := .ref R) F3 eP
    clear F3 F2 N2
    dsimp only
    (repeat' (first | ((with_reducible show @ite Prop _ _ _ _); first | refine if_pos_p (by decide) ?_ | refine if_neg_p (by decide) ?_) | ((with_reducible show wpAny _ _ _ _ _ _); (fail_if_success (with_reducible (first | refine at1 ?_ | refine at2 ?_ | refine at3 ?_ | refine at5 ?_ | refine at6 ?_ | refine at9 ?_ | refine at10 ?_ | refine at11 ?_))); (first | walk1 | (dsimp only; walk1)))))
    with_reducible refine' join_fm ?j1 ?j2 ?_
    case j1 => exact (N3 _ (.head _)).1
    case j2 => exact hps
    intro t' k
    dsimp only
    (repeat' (first | ((with_reducible show @ite Prop _ _ _ _); first | refine if_pos_p (by decide) ?_ | refine if_neg_p (by decide) ?_) | ((with_reducible show wpAny _ _ _ _ _ _); (fail_if_success (with_reducible (first | refine at1 ?_ | refine at2 ?_ | refine at3 ?_ | refine at5 ?_ | refine at6 ?_ | refine at9 ?_ | refine at10 ?_ | refine at11 ?_))); (first | walk1 | (dsimp only; walk1)))))
    with_reducible refine hQ _ _ _ ?_
    exact fun y o hy => F4.keep y o (hg y o hy (fun q => nomatch q))
  case loop =>
    refine hideQ fun Rl hRl => ?_
    refine forM ?_
    (repeat' (first | ((with_reducible show @ite Prop _ _ _ _); first | refine if_pos_p (by decide) ?_ | refine if_neg_p (by decide) ?_) | ((with_reducible show wpAny _ _ _ _ _ _); (fail_if_success (with_reducible (first | refine at1 ?_ | refine at2 ?_ | refine at3 ?_ | refine at5 ?_ | refine at6 ?_ | refine at9 ?_ | refine at10 ?_ | refine at11 ?_))); (first | walk1 | (dsimp only; walk1)))))
    with_reducible refine' enumStartT (items := (tabsL.map (fun q => Value.ref q.1)).toArray) ?e1 ?e2 ?e3 ?_
    case e1 => exact F2
    case e2 => exact N2
    case e3 => exact tabTop X'
    intro h16 e it oit ho F16 N16 lr lie
    refine ⟨fun k s' => ∃ h tk mm i oit old ps nR, s' = { s with heap := h, toks := tk } ∧ Fr g L' h mm ∧ mm "perm" = some (.ref R) ∧ mm "mode" = some (.int m t) ∧
      News g L' h [(e, enumO it (i : Nat) old), (it, oit), (R, LS ps nR)] ∧ TiO oit 192 i ∧ ps.map Prod.fst = (List.range i).map (fmChr m) ∧ i ≤ 10 ∧ k = 11 - i, 11, ?init, ?turn⟩
    case init =>
      refine ⟨h16, _, _, 0, oit, .none, [], 0, rfl, F16, rfl, rfl, N16, ho, rfl, by omega, rfl⟩
    case turn =>
      rintro k s' ⟨h, tk, mm, i, oit, old, ps, nR, rfl, F, eP, eM, N, ho, hps, hi, rfl⟩
      clear F2 N2 F16 N16
      have lRi : R < it := lr (R, _) (.head _)
      with_reducible refine' enumTurnT (items := (tabsL.map (fun q => Value.ref q.1)).toArray) ?t1 ?t2 ?t3 ?t4 ?t5 ?t6 ?t7 ?t8 ?t9 ?t10 ?t11 ?tend ?titem ?t12
      case t1 => rfl
      case t2 => rfl
      case t3 => rfl
      case t4 => rfl
      case t5 => exact F
      case t6 => exact N
      case t7 => exact ho
      case t8 => exact tabTop X'
      case t9 => exact Nat.ne_of_gt lie
      case t10 => simp only [List.mem_singleton, forall_eq]; exact Nat.ne_of_lt (Nat.lt_trans lRi lie)
      case t11 => simp only [List.mem_singleton, forall_eq]; exact Nat.ne_of_lt lRi
      case t12 => exact hi
      case tend =>
        intro hv h17 F17 N17
        have hil : i = 10 := hv
        subst hil
        (repeat' (first | ((with_reducible show @ite Prop _ _ _ _); first | refine if_pos_p (by decide) ?_ | refine if_neg_p (by decide) ?_) | ((with_reducible show wpAny _ _ _ _ _ _); (fail_if_success (with_reducible (first | refine at1 ?_ | refine at2 ?_ | refine at3 ?_ | refine at5 ?_ | refine at6 ?_ | refine at9 ?_ | refine at10 ?_ | refine at11 ?_))); (first | walk1 | (dsimp only; walk1)))))
        exact hRl _ _ ⟨rfl, h17, _, mm, ps, nR, rfl, F17, eP, eM, N17, hps⟩
      case titem =>
        intro v hv h17 tk17 oit' ti ho' F17 N17
        refine hideQ fun Rq hRq => ?_
        replace F17 : Fr g L' h17 _ := F17
        replace N17 : News g L' h17 _ := N17
        have hv' : (tabsL[i]?).map (fun q => Value.ref q.1) = some v := by simpa using hv
        obtain ⟨tab, htab, rfl⟩ := Option.map_eq_some_iff.mp hv'
        have hK := tabK X' tab (List.mem_of_getElem? htab)
        have hpl : ps.length = i := by simpa using congrArg List.length hps
        have hi10 : i < 10 := (List.getElem?_eq_some_iff.mp htab).1
        have F18 := Fr.know (x := "mode") (v := .int m t) (Fr.know (x := "perm") (v := .ref R) F17 eP) eM
        clear F17 F N
        (repeat' (first | ((with_reducible show @ite Prop _ _ _ _); first | refine if_pos_p (by decide) ?_ | refine if_neg_p (by decide) ?_) | ((with_reducible show wpAny _ _ _ _ _ _); (fail_if_success (with_reducible (first | refine at1 ?_ | refine at2 ?_ | refine at3 ?_ | refine at5 ?_ | refine at6 ?_ | refine at9 ?_ | refine at10 ?_ | refine at11 ?_))); (first | walk1 | (dsimp only; walk1)))))
        refine wpAny_mono (E := fun _ _ => False) (Q := fun f s' => f = .next ∧ ∃ h tk mm tc nR, s' = { s with heap := h, toks := tk } ∧ Fr g L' h mm ∧ mm "perm" = some (.ref R) ∧ mm "mode" = some (.int m t) ∧
          News g L' h [(e, enumO it (i + 1 : Nat) (.ref tab.1)), (it, oit'), (R, LS (ps ++ [(fmOf i m tab.2, tc)]) nR)]) ?il ?ir (fun _ _ x => x)
        case ir =>
          rintro f s' ⟨rfl, h20, tk20, mm2, tc, nR2, rfl, F20, eP2, eM2, N20⟩
          (repeat' (first | ((with_reducible show @ite Prop _ _ _ _); first | refine if_pos_p (by decide) ?_ | refine if_neg_p (by decide) ?_) | ((with_reducible show wpAny _ _ _ _ _ _); (fail_if_success (with_reducible (first | refine at1 ?_ | refine at2 ?_ | refine at3 ?_ | refine at5 ?_ | refine at6 ?_ | refine at9 ?_ | refine at10 ?_ | refine at11 ?_))); (first | walk1 | (dsimp only; walk1)))))
          refine hRq _ _ ?_
          refine ⟨11 - (i + 1), by omega, h20, _, mm2, i + 1, oit', _, ps ++ [(fmOf i m tab.2, tc)], nR2, rfl, F20, eP2, eM2, N20, ho', ?_, by omega, rfl⟩
          rw [List.map_append, hps, List.range_succ, List.map_append]
          simp only [List.map_cons, List.map_nil, fmChr, htab, Option.map_some, Option.getD_some]
        case il =>
          refine hideQ fun Rl hRl => ?_
          refine forM ?_
          (repeat' (first | ((with_reducible show @ite Prop _ _ _ _); first | refine if_pos_p (by decide) ?_ | refine if_neg_p (by decide) ?_) | ((with_reducible show wpAny _ _ _ _ _ _); (fail_if_success (with_reducible (first | refine at1 ?_ | refine at2 ?_ | refine at3 ?_ | refine at5 ?_ | refine at6 ?_ | refine at9 ?_ | refine at10 ?_ | refine at11 ?_))); (first | walk1 | (dsimp only; walk1)))))
          with_reducible refine' tupStart (items := (tab.2.map (fun p => Value.ref p.1)).toArray) ?e1 ?e2 ?e3 ?_
          case e1 => exact F18
          case e2 => exact N17
          case e3 => exact hK.1
          intro h21 it2 oit2 ho2 F21 N21 lr2
          have li2 : e < it2 := lr2 (e, _) (.head _)
          refine ⟨fun k s' => ∃ h tk mm j oit2, s' = { s with heap := h, toks := tk } ∧ Fr g L' h mm ∧ mm "perm" = some (.ref R) ∧ mm "mode" = some (.int m t) ∧ mm "index" = some (.int (i : Nat) ti) ∧
            News g L' h [(it2, oit2), (e, enumO it (i + 1 : Nat) (.ref tab.1)), (it, oit'), (R, LS ps nR)] ∧ TiO oit2 tab.1 j ∧ (∀ q ∈ tab.2.take j, fmHit i m q = false) ∧ j ≤ tab.2.length ∧ k = tab.2.length + 1 - j, tab.2.length + 1, ?init2, ?turn2⟩
          case init2 =>
            refine ⟨h21, _, _, 0, oit2, rfl, F21, rfl, rfl, rfl, N21, ho2, ?_, Nat.zero_le _, rfl⟩
            simp
          case turn2 =>
            rintro k s' ⟨h, tk, mm, j, oit2, rfl, F, eP, eM, eI, N, ho2, hno, hj, rfl⟩
            clear F18 N17 F21 N21
            have hri : ∀ p ∈ [(e, enumO it (i + 1 : Nat) (.ref tab.1)), (it, oit'), (R, LS ps nR)], p.1 ≠ it2 := by
              intro p hp
              simp only [List.mem_cons, List.not_mem_nil, or_false] at hp
              rcases hp with rfl | rfl | rfl
              · exact Nat.ne_of_lt li2
              · exact Nat.ne_of_lt (Nat.lt_trans lie li2)
              · exact Nat.ne_of_lt (Nat.lt_trans lRi (Nat.lt_trans lie li2))
            with_reducible refine' pairTurnT (items := (tab.2.map (fun p => Value.ref p.1)).toArray) ?t1 ?t2 ?t3 ?t4 ?t5 ?t6 ?t7 ?t8 ?t9 ?tend ?titem
            case t1 => rfl
            case t2 => rfl
            case t3 => rfl
            case t4 => rfl
            case t5 => exact F
            case t6 => exact N
            case t7 => exact ho2
            case t8 => exact hK.1
            case t9 => exact hri
            case tend =>
              intro hv h22 F22 N22
              have hjl : tab.2.length ≤ j := by simpa using hv
              have F23 := Fr.know (x := "index") (v := .int (i : Nat) ti) (Fr.know (x := "perm") (v := .ref R) F22 eP) eI
              clear F22 F N
              have hnone : tab.2.find? (fmHit i m) = none := by
                rw [List.find?_eq_none]
                intro q hq
                rw [List.take_of_length_le hjl] at hno
                simp [hno q hq]
              (repeat' (first | ((with_reducible show @ite Prop _ _ _ _); first | refine if_pos_p (by decide) ?_ | refine if_neg_p (by decide) ?_) | ((with_reducible show wpAny _ _ _ _ _ _); (fail_if_success (with_reducible (first | refine at1 ?_ | refine at2 ?_ | refine at3 ?_ | refine at5 ?_ | refine at6 ?_ | refine at9 ?_ | refine at10 ?_ | refine at11 ?_))); (first | walk1 | (dsimp only; walk1)))))
              have hpre : ∀ q ∈ [(e, enumO it (i + 1 : Nat) (.ref tab.1)), (it, oit')], q.1 ≠ R := by
                intro q hq
                simp only [List.mem_cons, List.not_mem_nil, or_false] at hq
                rcases hq with rfl | rfl
                · exact Nat.ne_of_gt (Nat.lt_trans lRi lie)
                · exact Nat.ne_of_gt lRi
              by_cases q : i = 0
              · rw [if_pos (by simp [q])]
                (repeat' (first | ((with_reducible show @ite Prop _ _ _ _); first | refine if_pos_p (by decide) ?_ | refine if_neg_p (by decide) ?_) | ((with_reducible show wpAny _ _ _ _ _ _); (fail_if_success (with_reducible (first | refine at1 ?_ | refine at2 ?_ | refine at3 ?_ | refine at5 ?_ | refine at6 ?_ | refine at9 ?_ | refine at10 ?_ | refine at11 ?_))); (first | walk1 | (dsimp only; walk1)))))
                refine appendL [(e, _), (it, _)] [] F23 N22 hpre (fun _ h => nomatch h) (by simp only [List.size_toArray, SV_length, sizeLine_eq]; omega) ?_
                intro h24 F24 N24
                rw [SV_push] at N24
                (repeat' (first | ((with_reducible show @ite Prop _ _ _ _); first | refine if_pos_p (by decide) ?_ | refine if_neg_p (by decide) ?_) | ((with_reducible show wpAny _ _ _ _ _ _); (fail_if_success (with_reducible (first | refine at1 ?_ | refine at2 ?_ | refine at3 ?_ | refine at5 ?_ | refine at6 ?_ | refine at9 ?_ | refine at10 ?_ | refine at11 ?_))); (first | walk1 | (dsimp only; walk1)))))
                have hc : fmOf i m tab.2 = Str.ofString "?" := by rw [fmOf, hnone]; exact if_pos q
                refine hRl _ _ ?_
                rw [hc]
                exact ⟨rfl, h24, _, _, _, nR + 1, rfl, F24, rfl, eM, N24⟩
              · rw [if_neg (by simpa using q)]
                (repeat' (first | ((with_reducible show @ite Prop _ _ _ _); first | refine if_pos_p (by decide) ?_ | refine if_neg_p (by decide) ?_) | ((with_reducible show wpAny _ _ _ _ _ _); (fail_if_success (with_reducible (first | refine at1 ?_ | refine at2 ?_ | refine at3 ?_ | refine at5 ?_ | refine at6 ?_ | refine at9 ?_ | refine at10 ?_ | refine at11 ?_))); (first | walk1 | (dsimp only; walk1)))))
                refine appendL [(e, _), (it, _)] [] F23 N22 hpre (fun _ h => nomatch h) (by simp only [List.size_toArray, SV_length, sizeLine_eq]; omega) ?_
                intro h24 F24 N24
                rw [SV_push] at N24
                (repeat' (first | ((with_reducible show @ite Prop _ _ _ _); first | refine if_pos_p (by decide) ?_ | refine if_neg_p (by decide) ?_) | ((with_reducible show wpAny _ _ _ _ _ _); (fail_if_success (with_reducible (first | refine at1 ?_ | refine at2 ?_ | refine at3 ?_ | refine at5 ?_ | refine at6 ?_ | refine at9 ?_ | refine at10 ?_ | refine at11 ?_))); (first | walk1 | (dsimp only; walk1)))))
                have hc : fmOf i m tab.2 = Str.ofString "-" := by rw [fmOf, hnone]; exact if_neg q
                refine hRl _ _ ?_
                rw [hc]
                exact ⟨rfl, h24, _, _, _, nR + 1, rfl, F24, rfl, eM, N24⟩
            case titem =>
              intro v hv
              have hv' : (tab.2[j]?).map (fun q => Value.ref q.1) = some v := by simpa using hv
              obtain ⟨pr, hpr, rfl⟩ := Option.map_eq_some_iff.mp hv'
              refine ⟨pr.1, _, _, rfl, hK.2 pr (List.mem_of_getElem? hpr), fun h22 tk22 oit4 ho4 F22 N22 => ?_⟩
              refine hideQ fun Rt hRt => ?_
              replace F22 : Fr g L' h22 _ := F22
              replace N22 : News g L' h22 _ := N22
              have F23 := Fr.know (x := "index") (v := .int (i : Nat) ti) (Fr.know (x := "mode") (v := .int m t) (Fr.know (x := "perm") (v := .ref R) F22 eP) eM) eI
              clear F22 F N
              (repeat' (first | ((with_reducible show @ite Prop _ _ _ _); first | refine if_pos_p (by decide) ?_ | refine if_neg_p (by decide) ?_) | ((with_reducible show wpAny _ _ _ _ _ _); (fail_if_success (with_reducible (first | refine at1 ?_ | refine at2 ?_ | refine at3 ?_ | refine at5 ?_ | refine at6 ?_ | refine at9 ?_ | refine at10 ?_ | refine at11 ?_))); (first | walk1 | (dsimp only; walk1)))))
              have hpre : ∀ q ∈ [(it2, oit4), (e, enumO it (i + 1 : Nat) (.ref tab.1)), (it, oit')], q.1 ≠ R := by
                intro q hq
                simp only [List.mem_cons, List.not_mem_nil, or_false] at hq
                rcases hq with rfl | rfl | rfl
                · exact Nat.ne_of_gt (Nat.lt_trans lRi (Nat.lt_trans lie li2))
                · exact Nat.ne_of_gt (Nat.lt_trans lRi lie)
                · exact Nat.ne_of_gt lRi
              have hnext : fmHit i m pr = false → ∀ q ∈ tab.2.take (j + 1), fmHit i m q = false := fun hf q hq => by
                rw [List.take_add_one, hpr] at hq
                rcases List.mem_append.mp hq with hq | hq
                · exact hno q hq
                · simp only [Option.toList_some, List.mem_singleton] at hq
                  rw [hq]; exact hf
              have hjlt : j < tab.2.length := (List.getElem?_eq_some_iff.mp hpr).1
              by_cases q : i = 0
              · rw [if_pos (by simp [q])]
                (repeat' (first | ((with_reducible show @ite Prop _ _ _ _); first | refine if_pos_p (by decide) ?_ | refine if_neg_p (by decide) ?_) | ((with_reducible show wpAny _ _ _ _ _ _); (fail_if_success (with_reducible (first | refine at1 ?_ | refine at2 ?_ | refine at3 ?_ | refine at5 ?_ | refine at6 ?_ | refine at9 ?_ | refine at10 ?_ | refine at11 ?_))); (first | walk1 | (dsimp only; walk1)))))
                refine ⟨X'.keeps F23.keep, ?_⟩
                refine ifmt_call (dp + 1) (un + 3) gd _ g _ _ _ _ _ X' TT F23.keep (by omega) (by omega) h0 h1 ?_
                intro h24 tk24 t24 hk24
                dsimp only at hk24 ⊢
                have F24 := F23.keeps hk24
                have N24 : News g L' h24 _ := fun q hq => ⟨hk24 _ _ (N22 q hq).1, (N22 q hq).2⟩
                clear F23 N22
                (repeat' (first | ((with_reducible show @ite Prop _ _ _ _); first | refine if_pos_p (by decide) ?_ | refine if_neg_p (by decide) ?_) | ((with_reducible show wpAny _ _ _ _ _ _); (fail_if_success (with_reducible (first | refine at1 ?_ | refine at2 ?_ | refine at3 ?_ | refine at5 ?_ | refine at6 ?_ | refine at9 ?_ | refine at10 ?_ | refine at11 ?_))); (first | walk1 | (dsimp only; walk1)))))
                by_cases q2 : (Builtin.bitAnd m 61440 == pr.2.1.1) = true
                · rw [if_pos q2]
                  have hf : fmHit i m pr = true := by rw [fmHit, if_pos q]; exact q2
                  (repeat' (first | ((with_reducible show @ite Prop _ _ _ _); first | refine if_pos_p (by decide) ?_ | refine if_neg_p (by decide) ?_) | ((with_reducible show wpAny _ _ _ _ _ _); (fail_if_success (with_reducible (first | refine at1 ?_ | refine at2 ?_ | refine at3 ?_ | refine at5 ?_ | refine at6 ?_ | refine at9 ?_ | refine at10 ?_ | refine at11 ?_))); (first | walk1 | (dsimp only; walk1)))))
                  refine appendL [(it2, _), (e, _), (it, _)] [] F24 N24 hpre (fun _ h => nomatch h) (by simp only [List.size_toArray, SV_length, sizeLine_eq]; omega) ?_
                  intro h26 F26 N26
                  rw [SV_push] at N26
                  (repeat' (first | ((with_reducible show @ite Prop _ _ _ _); first | refine if_pos_p (by decide) ?_ | refine if_neg_p (by decide) ?_) | ((with_reducible show wpAny _ _ _ _ _ _); (fail_if_success (with_reducible (first | refine at1 ?_ | refine at2 ?_ | refine at3 ?_ | refine at5 ?_ | refine at6 ?_ | refine at9 ?_ | refine at10 ?_ | refine at11 ?_))); (first | walk1 | (dsimp only; walk1)))))
                  refine hRt _ _ ?_
                  refine hRl _ _ ?_
                  refine ⟨rfl, h26, _, _, pr.2.2.2, nR + 1, rfl, F26, rfl, ?_, ?_⟩
                  · first | exact eM | rfl
                  · rw [fmOf, find_first hno hpr hf]
                    exact fun q hq => N26 q (by simp only [List.cons_append, List.nil_append, List.mem_cons] at hq ⊢; right; exact hq)
                · rw [if_neg q2]
                  have hf : fmHit i m pr = false := by rw [fmHit, if_pos q]; simpa using q2
                  (repeat' (first | ((with_reducible show @ite Prop _ _ _ _); first | refine if_pos_p (by decide) ?_ | refine if_neg_p (by decide) ?_) | ((with_reducible show wpAny _ _ _ _ _ _); (fail_if_success (with_reducible (first | refine at1 ?_ | refine at2 ?_ | refine at3 ?_ | refine at5 ?_ | refine at6 ?_ | refine at9 ?_ | refine at10 ?_ | refine at11 ?_))); (first | walk1 | (dsimp only; walk1)))))
                  exact hRt _ _ ⟨tab.2.length + 1 - (j + 1), by omega, _, _, _, j + 1, oit4, rfl, F24, rfl, rfl, rfl, N24, ho4, hnext hf, hjlt, rfl⟩
              · rw [if_neg (by simpa using q)]
                (repeat' (first | ((with_reducible show @ite Prop _ _ _ _); first | refine if_pos_p (by decide) ?_ | refine if_neg_p (by decide) ?_) | ((with_reducible show wpAny _ _ _ _ _ _); (fail_if_success (with_reducible (first | refine at1 ?_ | refine at2 ?_ | refine at3 ?_ | refine at5 ?_ | refine at6 ?_ | refine at9 ?_ | refine at10 ?_ | refine at11 ?_))); (first | walk1 | (dsimp only; walk1)))))
                by_cases q2 : (Builtin.bitAnd m pr.2.1.1 == pr.2.1.1) = true
                · rw [if_pos q2]
                  have hf : fmHit i m pr = true := by rw [fmHit, if_neg q]; exact q2
                  (repeat' (first | ((with_reducible show @ite Prop _ _ _ _); first | refine if_pos_p (by decide) ?_ | refine if_neg_p (by decide) ?_) | ((with_reducible show wpAny _ _ _ _ _ _); (fail_if_success (with_reducible (first | refine at1 ?_ | refine at2 ?_ | refine at3 ?_ | refine at5 ?_ | refine at6 ?_ | refine at9 ?_ | refine at10 ?_ | refine at11 ?_))); (first | walk1 | (dsimp only; walk1)))))
                  refine appendL [(it2, _), (e, _), (it, _)] [] F23 N22 hpre (fun _ h => nomatch h) (by simp only [List.size_toArray, SV_length, sizeLine_eq]; omega) ?_
                  intro h26 F26 N26
                  rw [SV_push] at N26
                  (repeat' (first | ((with_reducible show @ite Prop _ _ _ _); first | refine if_pos_p (by decide) ?_ | refine if_neg_p (by decide) ?_) | ((with_reducible show wpAny _ _ _ _ _ _); (fail_if_success (with_reducible (first | refine at1 ?_ | refine at2 ?_ | refine at3 ?_ | refine at5 ?_ | refine at6 ?_ | refine at9 ?_ | refine at10 ?_ | refine at11 ?_))); (first | walk1 | (dsimp only; walk1)))))
                  refine hRt _ _ ?_
                  refine hRl _ _ ?_
                  refine ⟨rfl, h26, _, _, pr.2.2.2, nR + 1, rfl, F26, rfl, ?_, ?_⟩
                  · first | exact eM | rfl
                  · rw [fmOf, find_first hno hpr hf]
                    exact fun q hq => N26 q (by simp only [List.cons_append, List.nil_append, List.mem_cons] at hq ⊢; right; exact hq)
                · rw [if_neg q2]
                  have hf : fmHit i m pr = false := by rw [fmHit, if_neg q]; simpa using q2
                  (repeat' (first | ((with_reducible show @ite Prop _ _ _ _); first | refine if_pos_p (by decide) ?_ | refine if_neg_p (by decide) ?_) | ((with_reducible show wpAny _ _ _ _ _ _); (fail_if_success (with_reducible (first | refine at1 ?_ | refine at2 ?_ | refine at3 ?_ | refine at5 ?_ | refine at6 ?_ | refine at9 ?_ | refine at10 ?_ | refine at11 ?_))); (first | walk1 | (dsimp only; walk1)))))
                  exact hRt _ _ ⟨tab.2.length + 1 - (j + 1), by omega, _, _, _, j + 1, oit4, rfl, F23, rfl, rfl, rfl, N22, ho4, hnext hf, hjlt, rfl⟩
end Mine
end
section
open PySem PySem.W PyProof.Rows PySem.Calls PyProof.V
set_option Elab.async false
set_option maxRecDepth 100000
set_option maxHeartbeats 2000000
namespace Mine
theorem fillup6 : PySem.Challenge.rw_oy0181_01 = PySem.Challenge.rw_oy0181_01 ∧ KK = KK := by k_fill; exact ⟨rfl, rfl⟩
variable {prog : Program} {w : World} {p : Program} {loose : List Str} {mean : ExcName → Option Value} {mg mb : Str → Option Value}

theorem tailAny {A : Around} {E : Value → Shared → Prop} {s : Shared} {value slice : PySem.Expr} {o i : Value} {T id : String} {Q : Value → Shared → Prop} (hT : s.TypeIs o T)
    (hl : typeLookup (.type T) "__getitem__" = pure (some (.builtin id))) (h : wpAny (model prog w) A (getItem o i) Q E s)
    (hs : subscripted slice false o i = operate [o, i] (getItem o i)) : wpAny (model prog w) A (subscriptTail value slice o i) Q E s := by
  unfold subscriptTail
  refine wpAny_bind ?_
  rw [getitemInPython_of_ne hT.not_modules]
  refine wpAny_bind (wpAny_specialOf hT hl ?_)
  have fin : wpAny (model prog w) A (subscripted slice false o i) (fun r s₃ => wpAny (model prog w) A (letTemporaryGo value o r >>= fun _ => pure r) Q E s₃) E s := by
    rw [hs]
    exact wpAny_operating (wpAny_mono h (fun r s₃ h₃ => wpAny_bind (wpAny_letTemporaryGo (wpAny_pure h₃))) fun _ _ x => x)
  first
    | exact wpAny_pure (wpAny_bind fin)
    | exact wpAny_bind (wpAny_pure (wpAny_bind fin))
    | exact wpAny_bind fin
theorem dictTail {K : Type} [DecidableEq K] {knd : KeyKind prog w K} {A : Around} {E : Value → Shared → Prop} {s : Shared} {h₀ : Heap} {L d : Addr} {news : List (Addr × Obj)} {o : Obj} {kvs : List (K × Value)} {k : K} {key v : Value} {value slice : PySem.Expr} {Q : Value → Shared → Prop}
    (N : News h₀ L s.heap news) (hp : (d, o) ∈ news) (hd : o.IsDictOf knd kvs) (hkey : knd.is k key = true) (hl : valueAt kvs k = some v) (h : Q v { s with toks := s.toks + 1 })
    (hs : subscripted slice false (.ref d) key = operate [.ref d, key] (getItem (.ref d) key)) :
    wpAny (model prog w) A (subscriptTail value slice (.ref d) key) Q E s :=
  have hD := kda_dict N hp hd
  tailAny hD.typeIs slot_dict_getitem.lookup (wpAny_getItem_of hkey hD.mapOf hl h) hs
/-- the first sign of a row -/
def lrTop (m : Int) : Str := if m.fdiv 4096 * 4096 = 16384 then Str.ofString "d" else if m.fdiv 4096 * 4096 = 32768 then Str.ofString "-" else Str.ofString "l"
def lrK (m : Int) (k : Int) (x : Str) : Str :=
  Txt.item (Str.ofString "-r") (((m.fdiv (8 ^ k.toNat)).fmod 8).fdiv 4) ++ Txt.item (Str.ofString "-w") ((((m.fdiv (8 ^ k.toNat)).fmod 8).fdiv 2).fmod 2) ++
    Txt.item x (((m.fdiv (8 ^ k.toNat)).fmod 8).fmod 2 + ((m.fdiv 512).fdiv (2 ^ k.toNat)).fmod 2 * 2)
def lrPre (m : Int) : Nat → Str
  | 0 => lrTop m
  | 1 => lrTop m ++ lrK m 2 (Str.ofString "-xSs")
  | 2 => lrTop m ++ lrK m 2 (Str.ofString "-xSs") ++ lrK m 1 (Str.ofString "-xSs")
  | _ + 3 => lrTop m ++ lrK m 2 (Str.ofString "-xSs") ++ lrK m 1 (Str.ofString "-xSs") ++ lrK m 0 (Str.ofString "-xTt")
/-- what _law_row gives back -/
def lrS (m : Int) : Str := lrPre m 3
theorem lrK_len (m k : Int) (x : Str) : (lrK m k x).length = 3 := by
  unfold lrK
  rw [Str.length_append, Str.length_append, len_item, len_item, len_item]
theorem lrPre_len (m : Int) (i : Nat) : (lrPre m i).length ≤ 10 := by
  have h1 : (lrTop m).length = 1 := by unfold lrTop; split; rfl; split <;> rfl
  unfold lrPre
  split <;> simp only [Str.length_append, lrK_len, h1] <;> omega
theorem mod8 (x : Int) : 0 ≤ x.fmod 8 ∧ x.fmod 8 < 8 := by rw [Int.fmod_eq_emod_of_nonneg _ (by decide)]; omega
theorem mod2 (x : Int) : 0 ≤ x.fmod 2 ∧ x.fmod 2 < 2 := by rw [Int.fmod_eq_emod_of_nonneg _ (by decide)]; omega
theorem itA {a : Int} (h : 0 ≤ a ∧ a < 8) : fitsSsize (a.fdiv 4) = true ∧ -2 ≤ a.fdiv 4 ∧ a.fdiv 4 < 2 := by
  rw [Int.fdiv_eq_ediv_of_nonneg _ (by decide)]
  exact ⟨fitsSsize_of (N := 9223372036854775808) (by omega) (by omega) (Int.le_refl _), by omega, by omega⟩
theorem itB {a : Int} (h : 0 ≤ a ∧ a < 2) : fitsSsize a = true ∧ -2 ≤ a ∧ a < 2 :=
  ⟨fitsSsize_of (N := 9223372036854775808) (by omega) (by omega) (Int.le_refl _), by omega, by omega⟩
theorem itC {a b : Int} (h : 0 ≤ a ∧ a < 2) (k : 0 ≤ b ∧ b < 2) : fitsSsize (a + b * 2) = true ∧ -4 ≤ a + b * 2 ∧ a + b * 2 < 4 :=
  ⟨fitsSsize_of (N := 9223372036854775808) (by omega) (by omega) (Int.le_refl _), by omega, by omega⟩
theorem lr_call (dp un : Nat) (gd : Option (List Code)) (fr : Option (List Env)) (h₀ : Heap) (s : Shared) (Q E : Value → Shared → Prop) (m : Int) (t : Tok)
   (X : (KK w.params).In h₀) (T : Top p loose mean mg mb h₀) (hst : h₀.StaysIn s.heap) (hdp : dp + 20 < recursionLimit) (hun : un + 100 < cLine) (h0 : 0 ≤ m) (h1 : m < 65536) (hm : m.fdiv 4096 * 4096 = 16384 ∨ m.fdiv 4096 * 4096 = 32768 ∨ m.fdiv 4096 * 4096 = 40960)
   (hQ : ∀ h' tk t', (∀ y o, s.heap.get? y = some o → h'.get? y = some o) → Q (.str (lrS m) t') { s with heap := h', toks := tk })
   : wpAny (model prog w) (Ar dp un gd fr) (PySem.call (.ref 230) [.int m t]) Q E s := by
  refine' callM (binds := [("mode", .int m t)]) [] X T hst ?a ?b ?ep ?eb ?es ?c ?d ?e ?f ?_ ?g ?h ?i ?j
  case a => exact fun _ h => nomatch h
  case b => k_is
  case ep => conv => lhs; whnf
  case eb => conv => lhs; whnf
  case es => conv => lhs; whnf
  case c => k_is
  case d => show dp < _; omega
  case e => exact BindsTo.of_eq rfl
  case f => exact locs rfl
  case g => decide
  case h => rfl
  case i => rfl
  case j => rfl
  intro g L' h₁ F' N' X' TT hlt0 hg
  clear X T
  (repeat' (first | ((with_reducible show @ite Prop _ _ _ _); first | refine if_pos_p (by decide) ?_ | refine if_neg_p (by decide) ?_) | ((with_reducible show wpAny _ _ _ _ _ _); (fail_if_success (with_reducible (first | refine at1 ?_ | refine at2 ?_ | refine at3 ?_ | refine at5 ?_ | refine at6 ?_ | refine at9 ?_ | refine at10 ?_ | refine at11 ?_))); (try dsimp only); walk1)))
  refine made_int F' N' rfl (by simp [intKeyPairs]) fun h2 o2 F2 N2 hd2 => ?_
  clear F' N'
  dsimp only at F2 N2 hd2 ⊢
  generalize h₁.objs.size = dd at N2 ⊢
  (repeat' (first | ((with_reducible show @ite Prop _ _ _ _); first | refine if_pos_p (by decide) ?_ | refine if_neg_p (by decide) ?_) | ((with_reducible show wpAny _ _ _ _ _ _); (fail_if_success (with_reducible (first | refine at1 ?_ | refine at2 ?_ | refine at3 ?_ | refine at5 ?_ | refine at6 ?_ | refine at9 ?_ | refine at10 ?_ | refine at11 ?_))); (try dsimp only); walk1)))
  dsimp only
  obtain ⟨tc, hv⟩ : ∃ tc, valueAt (intKeyPairs [(Value.int 16384 tk, Value.str (Str.ofString "d") (tk + 1)), (Value.int 32768 (tk + 1 + 1), Value.str (Str.ofString "-") (tk + 1 + 1 + 1)), (Value.int 40960 (tk + 1 + 1 + 1 + 1), Value.str (Str.ofString "l") (tk + 1 + 1 + 1 + 1 + 1))]) (m.fdiv 4096 * 4096) = some (.str (lrTop m) tc) := by
    unfold lrTop
    rcases hm with h | h | h <;> rw [h] <;> exact ⟨_, rfl⟩
  with_reducible refine' dictTail (knd := intKind prog w) (k := m.fdiv 4096 * 4096) ?k1 ?k2 ?k3 ?k4 ?k5 ?_ ?k6
  case k1 => exact N2
  case k2 => exact .head _
  case k3 => exact hd2
  case k4 => simp [intKind, Value.isInt]
  case k5 => exact hv
  case k6 => with_unfolding_all rfl
  have N3 := news_tail N2
  clear N2 hd2
  (repeat' (first | ((with_reducible show @ite Prop _ _ _ _); first | refine if_pos_p (by decide) ?_ | refine if_neg_p (by decide) ?_) | ((with_reducible show wpAny _ _ _ _ _ _); (fail_if_success (with_reducible (first | refine at1 ?_ | refine at2 ?_ | refine at3 ?_ | refine at5 ?_ | refine at6 ?_ | refine at9 ?_ | refine at10 ?_ | refine at11 ?_))); (try dsimp only); walk1)))
  rename_i h4 F4 N4
  refine wpAny_mono (E := fun _ _ => False) (Q := fun f s' => f = .next ∧ ∃ h tk mm tr, s' = { s with heap := h, toks := tk } ∧ Fr g L' h mm ∧ mm "row" = some (.str (lrS m) tr)) ?loop ?rest (fun _ _ x => x)
  case rest =>
    rintro f s' ⟨rfl, h5, tk5, mm, tr, rfl, F5, eR⟩
    have F6 := Fr.know (x := "row") (v := .str (lrS m) tr) F5 eR
    dsimp only
    (repeat' (first | ((with_reducible show @ite Prop _ _ _ _); first | refine if_pos_p (by decide) ?_ | refine if_neg_p (by decide) ?_) | ((with_reducible show wpAny _ _ _ _ _ _); (fail_if_success (with_reducible (first | refine at1 ?_ | refine at2 ?_ | refine at3 ?_ | refine at5 ?_ | refine at6 ?_ | refine at9 ?_ | refine at10 ?_ | refine at11 ?_))); (try dsimp only); walk1)))
    with_reducible refine hQ _ _ _ ?_
    exact fun y o hy => F6.keep y o (hg y o hy (fun q => nomatch q))
  case loop =>
    refine hideQ fun Rl hRl => ?_
    refine forM ?_
    (repeat' (first | ((with_reducible show @ite Prop _ _ _ _); first | refine if_pos_p (by decide) ?_ | refine if_neg_p (by decide) ?_) | ((with_reducible show wpAny _ _ _ _ _ _); (fail_if_success (with_reducible (first | refine at1 ?_ | refine at2 ?_ | refine at3 ?_ | refine at5 ?_ | refine at6 ?_ | refine at9 ?_ | refine at10 ?_ | refine at11 ?_))); (try dsimp only); walk1)))
    rename_i l5 h5 F5 N5 _
    have hl5 := (N5 _ (.head _)).1
    with_reducible refine' listStart (items := #[Value.int 2 tk, Value.int 1 (tk + 1), Value.int 0 (tk + 1 + 1)]) ?e1 ?e2 ?e3 ?_
    case e1 => exact F5
    case e2 => exact N5
    case e3 => exact ⟨_, hl5, rfl, _, rfl⟩
    intro h6 it oit ho hk6 F6 N6 lr lit
    dsimp only at hk6
    refine ⟨fun k s' => ∃ h tk' mm i oit tr, s' = { s with heap := h, toks := tk' } ∧ Fr g L' h mm ∧ mm "row" = some (.str (lrPre m i) tr) ∧ mm "mode" = some (.int m t) ∧
      News g L' h [(it, oit), (l5, W.listOf #[Value.int 2 tk, Value.int 1 (tk + 1), Value.int 0 (tk + 1 + 1)] 0)] ∧ ItO oit l5 i ∧ i ≤ 3 ∧ k = 4 - i, 4, ?init, ?turn⟩
    case init => exact ⟨h6, _, _, 0, oit, tc, rfl, F6, rfl, rfl, N6, ho, by omega, rfl⟩
    case turn =>
      rintro k s' ⟨h, tk', mm, i, oit, tr, rfl, F, eR, eM, N, ho, hi, rfl⟩
      clear F5 N5 F6 N6 hk6 hl5
      have hl := (N _ (.tail _ (.head _))).1
      with_reducible refine' listTurn (items := #[Value.int 2 tk, Value.int 1 (tk + 1), Value.int 0 (tk + 1 + 1)]) ?t1 ?t2 ?t3 ?t4 ?t5 ?t6 ?t7 ?t8 ?tend ?titem
      case t1 => rfl
      case t2 => rfl
      case t3 => rfl
      case t4 => exact F
      case t5 => exact N
      case t6 => exact ho
      case t7 => exact ⟨_, hl, rfl, _, rfl⟩
      case t8 => simp only [List.mem_singleton, forall_eq]; exact Nat.ne_of_lt lit
      case tend =>
        intro hv h7 _ F7 N7
        have hi3 : i = 3 := by
          have : 3 ≤ i := by simpa using hv
          omega
        subst hi3
        (repeat' (first | ((with_reducible show @ite Prop _ _ _ _); first | refine if_pos_p (by decide) ?_ | refine if_neg_p (by decide) ?_) | ((with_reducible show wpAny _ _ _ _ _ _); (fail_if_success (with_reducible (first | refine at1 ?_ | refine at2 ?_ | refine at3 ?_ | refine at5 ?_ | refine at6 ?_ | refine at9 ?_ | refine at10 ?_ | refine at11 ?_))); (try dsimp only); walk1)))
        exact hRl _ _ ⟨rfl, h7, _, mm, tr, rfl, F7, eR⟩
      case titem =>
        intro v hv h7 tk7 oit7 ho7 _ F7 N7
        refine hideQ fun Rq hRq => ?_
        replace F7 : Fr g L' h7 _ := F7
        replace N7 : News g L' h7 _ := N7
        have F8 := Fr.know (x := "mode") (v := .int m t) (Fr.know (x := "row") (v := .str (lrPre m i) tr) F7 eR) eM
        clear F7 F N hl
        rcases i with _ | _ | _ | i
        · obtain rfl : Value.int 2 tk = v := by simpa using hv
          (repeat' (first | ((with_reducible show @ite Prop _ _ _ _); first | refine if_pos_p (by decide) ?_ | refine if_neg_p (by decide) ?_) | ((with_reducible show wpAny _ _ _ _ _ _); (fail_if_success (with_reducible (first | refine at1 ?_ | refine at2 ?_ | refine at3 ?_ | refine at5 ?_ | refine at6 ?_ | refine at9 ?_ | refine at10 ?_ | refine at11 ?_))); (try dsimp only); walk1)))
          have hlen := lrPre_len m 0
          have b3 := mod8 (m.fdiv (8 ^ Int.toNat 2))
          with_reducible refine' item_str ?i1 ?i2 ?i3 ?_ ?i4 ?i5
          case i1 => exact (itA b3).1
          case i2 => exact (itA b3).2.1
          case i3 => exact (itA b3).2.2
          case i4 => with_unfolding_all rfl
          case i5 => intro _; with_unfolding_all rfl
          intro n1
          (repeat' (first | ((with_reducible show @ite Prop _ _ _ _); first | refine if_pos_p (by decide) ?_ | refine if_neg_p (by decide) ?_) | ((with_reducible show wpAny _ _ _ _ _ _); (fail_if_success (with_reducible (first | refine at1 ?_ | refine at2 ?_ | refine at3 ?_ | refine at5 ?_ | refine at6 ?_ | refine at9 ?_ | refine at10 ?_ | refine at11 ?_))); (try dsimp only); walk1)))
          have b4 := mod2 (((m.fdiv (8 ^ Int.toNat 2)).fmod 8).fdiv 2)
          with_reducible refine' item_str ?i1 ?i2 ?i3 ?_ ?i4 ?i5
          case i1 => exact (itB b4).1
          case i2 => exact (itB b4).2.1
          case i3 => exact (itB b4).2.2
          case i4 => with_unfolding_all rfl
          case i5 => intro _; with_unfolding_all rfl
          intro n2
          (repeat' (first | ((with_reducible show @ite Prop _ _ _ _); first | refine if_pos_p (by decide) ?_ | refine if_neg_p (by decide) ?_) | ((with_reducible show wpAny _ _ _ _ _ _); (fail_if_success (with_reducible (first | refine at1 ?_ | refine at2 ?_ | refine at3 ?_ | refine at5 ?_ | refine at6 ?_ | refine at9 ?_ | refine at10 ?_ | refine at11 ?_))); (try dsimp only); walk1)))
          with_reducible refine' tailAny (T := "list") ?i1 slot_list_getitem.lookup ?_ ?i2
          case i1 => exact ⟨_, (show News _ _ _ _ by assumption) _ (.head _) |>.1, rfl⟩
          case i2 => with_unfolding_all rfl
          show wpAny _ _ (getItem (Value.ref _) (Value.bool true)) _ _ _
          with_reducible refine' getItem_list_bool (x := Value.str (Str.ofString "-xSs") ?tt0) ?i1 ?i2 ?_
          case i1 => exact ⟨_, (show News _ _ _ _ by assumption) _ (.head _) |>.1, rfl, _, rfl⟩
          case i2 => rfl
          (repeat' (first | ((with_reducible show @ite Prop _ _ _ _); first | refine if_pos_p (by decide) ?_ | refine if_neg_p (by decide) ?_) | ((with_reducible show wpAny _ _ _ _ _ _); (fail_if_success (with_reducible (first | refine at1 ?_ | refine at2 ?_ | refine at3 ?_ | refine at5 ?_ | refine at6 ?_ | refine at9 ?_ | refine at10 ?_ | refine at11 ?_))); (try dsimp only); walk1)))
          have b5 := mod2 ((m.fdiv (8 ^ Int.toNat 2)).fmod 8)
          have b6 := mod2 ((m.fdiv 512).fdiv (2 ^ Int.toNat 2))
          with_reducible refine' item_str ?i1 ?i2 ?i3 ?_ ?i4 ?i5
          case i1 => exact (itC b5 b6).1
          case i2 => exact (itC b5 b6).2.1
          case i3 => exact (itC b5 b6).2.2
          case i4 => with_unfolding_all rfl
          case i5 => intro _; with_unfolding_all rfl
          intro n3
          (repeat' (first | ((with_reducible show @ite Prop _ _ _ _); first | refine if_pos_p (by decide) ?_ | refine if_neg_p (by decide) ?_) | ((with_reducible show wpAny _ _ _ _ _ _); (fail_if_success (with_reducible (first | refine at1 ?_ | refine at2 ?_ | refine at3 ?_ | refine at5 ?_ | refine at6 ?_ | refine at9 ?_ | refine at10 ?_ | refine at11 ?_))); (try dsimp only); walk1)))
          rename_i Fe Ne
          exact hRq _ _ ⟨4 - (0 + 1), by omega, _, _, _, 0 + 1, oit7, _, rfl, Fe, rfl, rfl, news_tail Ne, ho7, by omega, rfl⟩
        · obtain rfl : Value.int 1 (tk + 1) = v := by simpa using hv
          (repeat' (first | ((with_reducible show @ite Prop _ _ _ _); first | refine if_pos_p (by decide) ?_ | refine if_neg_p (by decide) ?_) | ((with_reducible show wpAny _ _ _ _ _ _); (fail_if_success (with_reducible (first | refine at1 ?_ | refine at2 ?_ | refine at3 ?_ | refine at5 ?_ | refine at6 ?_ | refine at9 ?_ | refine at10 ?_ | refine at11 ?_))); (try dsimp only); walk1)))
          have hlen := lrPre_len m 1
          have b3 := mod8 (m.fdiv (8 ^ Int.toNat 1))
          with_reducible refine' item_str ?i1 ?i2 ?i3 ?_ ?i4 ?i5
          case i1 => exact (itA b3).1
          case i2 => exact (itA b3).2.1
          case i3 => exact (itA b3).2.2
          case i4 => with_unfolding_all rfl
          case i5 => intro _; with_unfolding_all rfl
          intro n1
          (repeat' (first | ((with_reducible show @ite Prop _ _ _ _); first | refine if_pos_p (by decide) ?_ | refine if_neg_p (by decide) ?_) | ((with_reducible show wpAny _ _ _ _ _ _); (fail_if_success (with_reducible (first | refine at1 ?_ | refine at2 ?_ | refine at3 ?_ | refine at5 ?_ | refine at6 ?_ | refine at9 ?_ | refine at10 ?_ | refine at11 ?_))); (try dsimp only); walk1)))
          have b4 := mod2 (((m.fdiv (8 ^ Int.toNat 1)).fmod 8).fdiv 2)
          with_reducible refine' item_str ?i1 ?i2 ?i3 ?_ ?i4 ?i5
          case i1 => exact (itB b4).1
          case i2 => exact (itB b4).2.1
          case i3 => exact (itB b4).2.2
          case i4 => with_unfolding_all rfl
          case i5 => intro _; with_unfolding_all rfl
          intro n2
          (repeat' (first | ((with_reducible show @ite Prop _ _ _ _); first | refine if_pos_p (by decide) ?_ | refine if_neg_p (by decide) ?_) | ((with_reducible show wpAny _ _ _ _ _ _); (fail_if_success (with_reducible (first | refine at1 ?_ | refine at2 ?_ | refine at3 ?_ | refine at5 ?_ | refine at6 ?_ | refine at9 ?_ | refine at10 ?_ | refine at11 ?_))); (try dsimp only); walk1)))
          with_reducible refine' tailAny (T := "list") ?i1 slot_list_getitem.lookup ?_ ?i2
          case i1 => exact ⟨_, (show News _ _ _ _ by assumption) _ (.head _) |>.1, rfl⟩
          case i2 => with_unfolding_all rfl
          show wpAny _ _ (getItem (Value.ref _) (Value.bool true)) _ _ _
          with_reducible refine' getItem_list_bool (x := Value.str (Str.ofString "-xSs") ?tt1) ?i1 ?i2 ?_
          case i1 => exact ⟨_, (show News _ _ _ _ by assumption) _ (.head _) |>.1, rfl, _, rfl⟩
          case i2 => rfl
          (repeat' (first | ((with_reducible show @ite Prop _ _ _ _); first | refine if_pos_p (by decide) ?_ | refine if_neg_p (by decide) ?_) | ((with_reducible show wpAny _ _ _ _ _ _); (fail_if_success (with_reducible (first | refine at1 ?_ | refine at2 ?_ | refine at3 ?_ | refine at5 ?_ | refine at6 ?_ | refine at9 ?_ | refine at10 ?_ | refine at11 ?_))); (try dsimp only); walk1)))
          have b5 := mod2 ((m.fdiv (8 ^ Int.toNat 1)).fmod 8)
          have b6 := mod2 ((m.fdiv 512).fdiv (2 ^ Int.toNat 1))
          with_reducible refine' item_str ?i1 ?i2 ?i3 ?_ ?i4 ?i5
          case i1 => exact (itC b5 b6).1
          case i2 => exact (itC b5 b6).2.1
          case i3 => exact (itC b5 b6).2.2
          case i4 => with_unfolding_all rfl
          case i5 => intro _; with_unfolding_all rfl
          intro n3
          (repeat' (first | ((with_reducible show @ite Prop _ _ _ _); first | refine if_pos_p (by decide) ?_ | refine if_neg_p (by decide) ?_) | ((with_reducible show wpAny _ _ _ _ _ _); (fail_if_success (with_reducible (first | refine at1 ?_ | refine at2 ?_ | refine at3 ?_ | refine at5 ?_ | refine at6 ?_ | refine at9 ?_ | refine at10 ?_ | refine at11 ?_))); (try dsimp only); walk1)))
          rename_i Fe Ne
          exact hRq _ _ ⟨4 - (1 + 1), by omega, _, _, _, 1 + 1, oit7, _, rfl, Fe, rfl, rfl, news_tail Ne, ho7, by omega, rfl⟩
        · obtain rfl : Value.int 0 (tk + 1 + 1) = v := by simpa using hv
          have hlen := lrPre_len m (0 + 1 + 1)
          generalize hR : lrPre m (0 + 1 + 1) = R at F8 hlen
          (repeat' (first | ((with_reducible show @ite Prop _ _ _ _); first | refine if_pos_p (by decide) ?_ | refine if_neg_p (by decide) ?_) | ((with_reducible show wpAny _ _ _ _ _ _); (fail_if_success (with_reducible (first | refine at1 ?_ | refine at2 ?_ | refine at3 ?_ | refine at5 ?_ | refine at6 ?_ | refine at9 ?_ | refine at10 ?_ | refine at11 ?_))); (try dsimp only); walk1)))
          have b3 := mod8 (m.fdiv (8 ^ Int.toNat 0))
          with_reducible refine' item_str ?i1 ?i2 ?i3 ?_ ?i4 ?i5
          case i1 => exact (itA b3).1
          case i2 => exact (itA b3).2.1
          case i3 => exact (itA b3).2.2
          case i4 => with_unfolding_all rfl
          case i5 => intro _; with_unfolding_all rfl
          intro n1
          (repeat' (first | ((with_reducible show @ite Prop _ _ _ _); first | refine if_pos_p (by decide) ?_ | refine if_neg_p (by decide) ?_) | ((with_reducible show wpAny _ _ _ _ _ _); (fail_if_success (with_reducible (first | refine at1 ?_ | refine at2 ?_ | refine at3 ?_ | refine at5 ?_ | refine at6 ?_ | refine at9 ?_ | refine at10 ?_ | refine at11 ?_))); (try dsimp only); walk1)))
          have b4 := mod2 (((m.fdiv (8 ^ Int.toNat 0)).fmod 8).fdiv 2)
          with_reducible refine' item_str ?i1 ?i2 ?i3 ?_ ?i4 ?i5
          case i1 => exact (itB b4).1
          case i2 => exact (itB b4).2.1
          case i3 => exact (itB b4).2.2
          case i4 => with_unfolding_all rfl
          case i5 => intro _; with_unfolding_all rfl
          intro n2
          (repeat' (first | ((with_reducible show @ite Prop _ _ _ _); first | refine if_pos_p (by decide) ?_ | refine if_neg_p (by decide) ?_) | ((with_reducible show wpAny _ _ _ _ _ _); (fail_if_success (with_reducible (first | refine at1 ?_ | refine at2 ?_ | refine at3 ?_ | refine at5 ?_ | refine at6 ?_ | refine at9 ?_ | refine at10 ?_ | refine at11 ?_))); (try dsimp only); walk1)))
          with_reducible refine' tailAny (T := "list") ?i1 slot_list_getitem.lookup ?_ ?i2
          case i1 => exact ⟨_, (show News _ _ _ _ by assumption) _ (.head _) |>.1, rfl⟩
          case i2 => with_unfolding_all rfl
          show wpAny _ _ (getItem (Value.ref _) (Value.bool false)) _ _ _
          with_reducible refine' getItem_list_bool (x := Value.str (Str.ofString "-xTt") ?tt2) ?i1 ?i2 ?_
          case i1 => exact ⟨_, (show News _ _ _ _ by assumption) _ (.head _) |>.1, rfl, _, rfl⟩
          case i2 => rfl
          (repeat' (first | ((with_reducible show @ite Prop _ _ _ _); first | refine if_pos_p (by decide) ?_ | refine if_neg_p (by decide) ?_) | ((with_reducible show wpAny _ _ _ _ _ _); (fail_if_success (with_reducible (first | refine at1 ?_ | refine at2 ?_ | refine at3 ?_ | refine at5 ?_ | refine at6 ?_ | refine at9 ?_ | refine at10 ?_ | refine at11 ?_))); (try dsimp only); walk1)))
          have b5 := mod2 ((m.fdiv (8 ^ Int.toNat 0)).fmod 8)
          have b6 := mod2 ((m.fdiv 512).fdiv (2 ^ Int.toNat 0))
          with_reducible refine' item_str ?i1 ?i2 ?i3 ?_ ?i4 ?i5
          case i1 => exact (itC b5 b6).1
          case i2 => exact (itC b5 b6).2.1
          case i3 => exact (itC b5 b6).2.2
          case i4 => with_unfolding_all rfl
          case i5 => intro _; with_unfolding_all rfl
          intro n3
          (repeat' (first | ((with_reducible show @ite Prop _ _ _ _); first | refine if_pos_p (by decide) ?_ | refine if_neg_p (by decide) ?_) | ((with_reducible show wpAny _ _ _ _ _ _); (fail_if_success (with_reducible (first | refine at1 ?_ | refine at2 ?_ | refine at3 ?_ | refine at5 ?_ | refine at6 ?_ | refine at9 ?_ | refine at10 ?_ | refine at11 ?_))); (try dsimp only); walk1)))
          rename_i Fe Ne
          have e3 : R ++ lrK m 0 (Str.ofString "-xTt") = lrPre m (2 + 1) := by rw [← hR]; rfl
          unfold lrK at e3
          rw [e3] at Fe
          exact hRq _ _ ⟨4 - (2 + 1), by omega, _, _, _, 2 + 1, oit7, _, rfl, Fe, rfl, rfl, news_tail Ne, ho7, by omega, rfl⟩
        · simp at hv
end Mine
end
section
open PySem PySem.W PyProof.Rows PySem.Calls PyProof.V
set_option Elab.async false
namespace Mine
def mkS (l : List Nat) : Str := ⟨l.toArray⟩
theorem mkS_len (l : List Nat) : (mkS l).length = l.length := by simp [mkS, Str.length]
theorem mkS_inj {a b : List Nat} : mkS a = mkS b ↔ a = b := by
  constructor
  · intro h; simpa [mkS] using h
  · rintro rfl; rfl
theorem slice_from (l : List Nat) (i : Nat) (h : i ≤ l.length) : Txt.slice (mkS l) (some (i : Int)) none = mkS (l.drop i) := by
  have := StrLaws.sliceText_from (x := mkS l) (i := (i : Int)) ⟨by omega, by simp [mkS]; omega⟩
  refine Eq.trans (b := StrLaws.sliceText (mkS l) (some (i : Int)) none) rfl (this.trans ?_)
  simp [mkS]
  exact List.take_of_length_le (by simp)
theorem slice_to (l : List Nat) (j : Nat) (h : j ≤ l.length) : Txt.slice (mkS l) none (some (j : Int)) = mkS (l.take j) := by
  have := StrLaws.sliceText_to (x := mkS l) (j := (j : Int)) ⟨by omega, by simp [mkS]; omega⟩
  refine Eq.trans (b := StrLaws.sliceText (mkS l) none (some (j : Int))) rfl (this.trans ?_)
  simp [mkS]
theorem slice_neg (l : List Nat) (j : Nat) (h0 : 0 < j) (h : j ≤ l.length) : Txt.slice (mkS l) none (some (-(j : Int))) = mkS (l.take (l.length - j)) := by
  rw [slice_to_neg (by omega), mkS_len]
  rw [show max 0 ((l.length : Int) + -(j : Int)) = ((l.length - j : Nat) : Int) by omega]
  exact slice_to l _ (by omega)
theorem slice_all (l : List Nat) : Txt.slice (mkS l) none none = mkS l := by
  have h := slice_to l l.length (Nat.le_refl _)
  rw [List.take_length] at h
  refine Eq.trans ?_ h
  unfold Txt.slice
  rw [mkS_len, StrLaws.sliceIdx_none_hi]
theorem item_nat (l : List Nat) (i : Nat) (h : i < l.length) : Txt.item (mkS l) (i : Int) = mkS [l[i]] := by
  unfold Txt.item Txt.charAt
  rw [mkS_len, StrLaws.seqIndex_nonneg (by omega) (by omega)]
  simp [mkS, h]
theorem item_neg (l : List Nat) (j : Nat) (h0 : 0 < j) (h : j ≤ l.length) : Txt.item (mkS l) (-(j : Int)) = mkS [l[l.length - j]] := by
  unfold Txt.item Txt.charAt
  rw [mkS_len, StrLaws.seqIndex_neg (by omega) (by omega)]
  have : (-(j : Int) + (l.length : Int)).toNat = l.length - j := by omega
  rw [this]
  simp [mkS, show l.length - j < l.length by omega]
theorem item_back (c d : Nat) (v : List Nat) (i : Nat) (hcd : c ≠ d) (h : i ≤ v.length) : (Txt.item (mkS (c :: v)) (-(i : Nat) - 1) == Txt.item (mkS (d :: v)) (-(i : Nat) - 1)) = decide (i < v.length) := by
  rw [show -((i : Nat) : Int) - 1 = -((i + 1 : Nat) : Int) by omega, item_neg _ (i + 1) (by omega) (by simp; omega), item_neg _ (i + 1) (by omega) (by simp; omega)]
  by_cases q : i < v.length
  · obtain ⟨k, hk⟩ : ∃ k, (c :: v).length - (i + 1) = k + 1 := ⟨v.length - i - 1, by simp; omega⟩
    have hk' : (d :: v).length - (i + 1) = k + 1 := by simpa using hk
    have e : (c :: v)[(c :: v).length - (i + 1)]'(by simp; omega) = (d :: v)[(d :: v).length - (i + 1)]'(by simp; omega) := by
      simp only [hk, hk', List.getElem_cons_succ]
    rw [e]; simp [q]
  · have hz : (c :: v).length - (i + 1) = 0 := by simp; omega
    have hz' : (d :: v).length - (i + 1) = 0 := by simp; omega
    have e1 : (c :: v)[(c :: v).length - (i + 1)]'(by simp; omega) = c := by simp only [hz, List.getElem_cons_zero]
    have e2 : (d :: v)[(d :: v).length - (i + 1)]'(by simp; omega) = d := by simp only [hz', List.getElem_cons_zero]
    rw [e1, e2]
    simp [mkS, q, hcd]
end Mine
end
section
open PySem PySem.W PyProof.Rows PySem.Calls PyProof.V
set_option Elab.async false
set_option maxRecDepth 100000
set_option maxHeartbeats 4000000
namespace Mine
theorem fillup8 : PySem.Challenge.rw_oy0181_01 = PySem.Challenge.rw_oy0181_01 ∧ KK = KK := by k_fill; exact ⟨rfl, rfl⟩
variable {prog : Program} {w : World} {p : Program} {loose : List Str} {mean : ExcName → Option Value} {mg mb : Str → Option Value}


theorem sc_call (dp un : Nat) (gd : Option (List Code)) (fr : Option (List Env)) (h₀ : Heap) (s : Shared) (Q E : Value → Shared → Prop) (z : Str) (tx ty : Tok)
   (X : (KK w.params).In h₀) (T : Top p loose mean mg mb h₀) (hst : h₀.StaysIn s.heap) (hdp : dp + 10 < recursionLimit) (hun : un + 50 < cLine) (hz : z = Str.ofString "r" ∨ z = Str.ofString "w")
   (hQ : ∀ h' tk t', (∀ y o, s.heap.get? y = some o → h'.get? y = some o) → Q (.int 2 t') { s with heap := h', toks := tk })
   : wpAny (model prog w) (Ar dp un gd fr) (PySem.call (.ref 206) [.str (Str.ofString "-") tx, .str z ty]) Q E s := by
  refine' callM (binds := [("ch_a", .str (Str.ofString "-") tx), ("ch_b", .str z ty)]) [] X T hst ?a ?b ?ep ?eb ?es ?c ?d ?e ?f ?_ ?g ?h ?i ?j
  case a => exact fun _ h => nomatch h
  case b => k_is
  case ep => conv => lhs; whnf
  case eb => conv => lhs; whnf
  case es => conv => lhs; whnf
  case c => k_is
  case d => show dp < _; omega
  case e => exact BindsTo.of_eq rfl
  case f => exact locs rfl
  case g => decide
  case h => rfl
  case i => rfl
  case j => rfl
  intro g L' h₁ F' N' X' TT hlt0 hg
  clear X T
  rcases hz with rfl | rfl
  · (repeat' (first | ((with_reducible show @ite Prop _ _ _ _); first | refine if_pos_p (by decide) ?_ | refine if_neg_p (by decide) ?_) | ((with_reducible show wpAny _ _ _ _ _ _); (try dsimp only); walk1)))
    exact hQ _ _ _ fun y o hy => (show Fr g L' _ _ by assumption).keep y o (hg y o hy (fun q => nomatch q))
  · (repeat' (first | ((with_reducible show @ite Prop _ _ _ _); first | refine if_pos_p (by decide) ?_ | refine if_neg_p (by decide) ?_) | ((with_reducible show wpAny _ _ _ _ _ _); (try dsimp only); walk1)))
    exact hQ _ _ _ fun y o hy => (show Fr g L' _ _ by assumption).keep y o (hg y o hy (fun q => nomatch q))
theorem lv_tail (dp un : Nat) (gd : Option (List Code)) (fr : Option (List Env)) (g : Heap) (L' : Addr) (s : Shared) (mm : Str → Option Value) (z : Str) (ta tb tm : Tok) (Q : Flow → Shared → Prop)
   (X' : (KK w.params).In g) (TT : Top p loose mean mg mb g) (hdp : dp + 20 < recursionLimit) (hun : un + 100 < cLine) (hz : z = Str.ofString "r" ∨ z = Str.ofString "w")
   (F : Fr g L' s.heap (fun y => if y = Str.ofString "a" then some (.str z ta) else if y = Str.ofString "b" then some (.str (Str.ofString "-") tb) else if y = Str.ofString "max_cost" then some (.int 2 tm) else mm y))
   (N : News g L' s.heap [])
   (hQ : ∀ h' tk t', (∀ y o, g.get? y = some o → h'.get? y = some o) → Q (.ret (.int 2 t')) { s with heap := h', toks := tk }) :
   wpAny (model prog w) ((Ar dp un gd fr).deeper (envOf (Str.ofString "_levenshtein_distance") (scopeIn (st 35)) L' 213 (.ref 212))) (execs (List.drop 9 (bodyIn (st 35))) (envOf (Str.ofString "_levenshtein_distance") (scopeIn (st 35)) L' 213 (.ref 212))) Q (fun _ _ => False) s := by
  generalize hb : List.drop 9 (bodyIn (st 35)) = body
  conv at hb => lhs; whnf
  subst hb
  generalize hs : scopeIn (st 35) = scope
  conv at hs => lhs; whnf
  subst hs
  rcases hz with rfl | rfl
  · (repeat' (first | ((with_reducible show @ite Prop _ _ _ _); first | refine if_pos_p (by decide) ?_ | refine if_neg_p (by decide) ?_) | ((with_reducible show wpAny _ _ _ _ _ _); (fail_if_success (with_reducible (first | refine at1 ?_ | refine at2 ?_ | refine at3 ?_ | refine at5 ?_ | refine at12 ?_ | refine at9 ?_ | refine at10 ?_ | refine at11 ?_))); (try dsimp only); walk1)))
    rename_i h1 _ _ _ _ hr F1 N1 hk1
    dsimp only at hr hk1 ⊢
    generalize s.heap.objs.size = r at hr ⊢
    have hRn : g.get? h1.objs.size = none := by
      cases q : g.get? h1.objs.size with
      | none => rfl
      | some o => exact absurd (Heap.lt_size (F1.keep _ _ q)) (Nat.lt_irrefl _)
    have hRL : h1.objs.size ≠ L' := Nat.ne_of_gt F1.ns.lt
    with_reducible refine' call_list_range (n := 1) ?a1 hr ?a4 ?a5 ?a6 ?_
    case a1 => rfl
    case a4 => decide
    case a5 => decide
    case a6 => decide
    intro h2 tk2 acc c2 hk2 hS2 hacc
    dsimp only at hk2 hS2 hacc ⊢
    generalize h1.objs.size = R at hRn hRL hS2 ⊢
    obtain ⟨t2, rfl⟩ : ∃ t2, acc = #[Value.int 2 t2] := by
      obtain ⟨l⟩ := acc
      rcases l with _ | ⟨v, _ | ⟨v2, l⟩⟩
      · exact absurd hacc.1 (by simp)
      · obtain ⟨t2, e⟩ := hacc.2 0 v rfl
        exact ⟨t2, by rw [e]; rfl⟩
      · exact absurd hacc.1 (by simp)
    have F2 := F1.keeps hk2
    have N2 : News g L' h2 [(R, W.listOf #[Value.int 2 t2] c2)] := news_cons hS2 hRL hRn (fun _ hq => nomatch hq)
    clear F1 N1 hk1 hk2
    k_steps
    refine sc_call (dp + 1) (un + 3) gd _ g _ _ _ _ _ _ X' TT (show Fr g L' _ _ by assumption).keep (by omega) (by omega) (Or.inl (by decide)) ?_
    intro h5 tk5 t5 hk5
    dsimp only at hk5 ⊢
    have F5 := (show Fr g L' _ _ by assumption).keeps hk5
    have N5 : News g L' h5 _ := fun q hq => ⟨hk5 _ _ ((show News g L' _ _ by assumption) q hq).1, ((show News g L' _ _ by assumption) q hq).2⟩
    clear hk5
    k_steps
    dsimp only
    refine hQ _ _ _ fun y o hy => ?_
    exact (show Fr g L' _ _ by assumption).keep y o hy
  · (repeat' (first | ((with_reducible show @ite Prop _ _ _ _); first | refine if_pos_p (by decide) ?_ | refine if_neg_p (by decide) ?_) | ((with_reducible show wpAny _ _ _ _ _ _); (fail_if_success (with_reducible (first | refine at1 ?_ | refine at2 ?_ | refine at3 ?_ | refine at5 ?_ | refine at12 ?_ | refine at9 ?_ | refine at10 ?_ | refine at11 ?_))); (try dsimp only); walk1)))
    rename_i h1 _ _ _ _ hr F1 N1 hk1
    dsimp only at hr hk1 ⊢
    generalize s.heap.objs.size = r at hr ⊢
    have hRn : g.get? h1.objs.size = none := by
      cases q : g.get? h1.objs.size with
      | none => rfl
      | some o => exact absurd (Heap.lt_size (F1.keep _ _ q)) (Nat.lt_irrefl _)
    have hRL : h1.objs.size ≠ L' := Nat.ne_of_gt F1.ns.lt
    with_reducible refine' call_list_range (n := 1) ?a1 hr ?a4 ?a5 ?a6 ?_
    case a1 => rfl
    case a4 => decide
    case a5 => decide
    case a6 => decide
    intro h2 tk2 acc c2 hk2 hS2 hacc
    dsimp only at hk2 hS2 hacc ⊢
    generalize h1.objs.size = R at hRn hRL hS2 ⊢
    obtain ⟨t2, rfl⟩ : ∃ t2, acc = #[Value.int 2 t2] := by
      obtain ⟨l⟩ := acc
      rcases l with _ | ⟨v, _ | ⟨v2, l⟩⟩
      · exact absurd hacc.1 (by simp)
      · obtain ⟨t2, e⟩ := hacc.2 0 v rfl
        exact ⟨t2, by rw [e]; rfl⟩
      · exact absurd hacc.1 (by simp)
    have F2 := F1.keeps hk2
    have N2 : News g L' h2 [(R, W.listOf #[Value.int 2 t2] c2)] := news_cons hS2 hRL hRn (fun _ hq => nomatch hq)
    clear F1 N1 hk1 hk2
    k_steps
    refine sc_call (dp + 1) (un + 3) gd _ g _ _ _ _ _ _ X' TT (show Fr g L' _ _ by assumption).keep (by omega) (by omega) (Or.inr (by decide)) ?_
    intro h5 tk5 t5 hk5
    dsimp only at hk5 ⊢
    have F5 := (show Fr g L' _ _ by assumption).keeps hk5
    have N5 : News g L' h5 _ := fun q hq => ⟨hk5 _ _ ((show News g L' _ _ by assumption) q hq).1, ((show News g L' _ _ by assumption) q hq).2⟩
    clear hk5
    k_steps
    dsimp only
    refine hQ _ _ _ fun y o hy => ?_
    exact (show Fr g L' _ _ by assumption).keep y o hy
end Mine
end
section
open PySem PySem.W PyProof.Rows PySem.Calls PyProof.V
set_option Elab.async false
set_option maxRecDepth 100000
set_option maxHeartbeats 2000000
namespace Mine
theorem fillup7 : PySem.Challenge.rw_oy0181_01 = PySem.Challenge.rw_oy0181_01 ∧ KK = KK := by k_fill; exact ⟨rfl, rfl⟩
variable {prog : Program} {w : World} {p : Program} {loose : List Str} {mean : ExcName → Option Value} {mg mb : Str → Option Value}

theorem ld_call (dp un : Nat) (gd : Option (List Code)) (fr : Option (List Env)) (h₀ : Heap) (s : Shared) (Q E : Value → Shared → Prop) (u v : List Nat) (c : Nat) (tx ty tm : Tok)
   (X : (KK w.params).In h₀) (T : Top p loose mean mg mb h₀) (hst : h₀.StaysIn s.heap) (hdp : dp + 20 < recursionLimit) (hun : un + 100 < cLine) (hc : c = 114 ∨ c = 119) (hl : u.length + v.length ≤ 15)
   (hQ : ∀ h' tk t', (∀ y o, s.heap.get? y = some o → h'.get? y = some o) → Q (.int 2 t') { s with heap := h', toks := tk })
   : wpAny (model prog w) (Ar dp un gd fr) (PySem.call (.ref 213) [.str (mkS (u ++ c :: v)) tx, .str (mkS (u ++ 45 :: v)) ty, .int 2 tm]) Q E s := by
  refine' callM (binds := [("a", .str (mkS (u ++ c :: v)) tx), ("b", .str (mkS (u ++ 45 :: v)) ty), ("max_cost", .int 2 tm)]) [] X T hst ?a ?b ?ep ?eb ?es ?c ?d ?e ?f ?_ ?g ?h ?i ?j
  case a => exact fun _ h => nomatch h
  case b => k_is
  case ep => conv => lhs; whnf
  case eb => conv => lhs; whnf
  case es => conv => lhs; whnf
  case c => k_is
  case d => show dp < _; omega
  case e => exact BindsTo.of_eq rfl
  case f => exact locs rfl
  case g => decide
  case h => rfl
  case i => rfl
  case j => rfl
  intro g L' h₁ F' N' X' TT hlt0 hg
  clear X T
  have hx : (mkS (u ++ c :: v)).length ≤ 16 := by rw [mkS_len]; simp; omega
  have hy : (mkS (u ++ 45 :: v)).length ≤ 16 := by rw [mkS_len]; simp; omega
  have hne : mkS (u ++ c :: v) ≠ mkS (u ++ 45 :: v) := by
    rw [Ne, mkS_inj]
    intro h
    have := List.append_cancel_left h
    simp only [List.cons.injEq, and_true] at this
    omega
  generalize hX : mkS (u ++ c :: v) = x at F' hx hne
  generalize hY : mkS (u ++ 45 :: v) = y at F' hy hne
  walk1
  walk1
  (repeat' (first | ((with_reducible show @ite Prop _ _ _ _); first | refine if_pos_p (by decide) ?_ | refine if_neg_p (by decide) ?_) | ((with_reducible refine at28 ?_); (with_reducible rename Fr _ _ _ _ => F'); (with_reducible rename News _ _ _ _ => N'); refine slice_strN_nn_len (s := ⟨_, _, _, _, _⟩) F' N' ?_; intro _ _ _ _ _ _) | ((with_reducible show wpAny _ _ _ _ _ _); (fail_if_success (with_reducible (first | refine at1 ?_ | refine at2 ?_ | refine at3 ?_ | refine at5 ?_ | refine at12 ?_ | refine at9 ?_ | refine at10 ?_ | refine at11 ?_ | refine at13 ?_))); (try dsimp only); walk1)))
  rw [if_neg (by simpa using hne)]
  (repeat' (first | ((with_reducible show @ite Prop _ _ _ _); first | refine if_pos_p (by decide) ?_ | refine if_neg_p (by decide) ?_) | ((with_reducible refine at28 ?_); (with_reducible rename Fr _ _ _ _ => F'); (with_reducible rename News _ _ _ _ => N'); refine slice_strN_nn_len (s := ⟨_, _, _, _, _⟩) F' N' ?_; intro _ _ _ _ _ _) | ((with_reducible show wpAny _ _ _ _ _ _); (fail_if_success (with_reducible (first | refine at1 ?_ | refine at2 ?_ | refine at3 ?_ | refine at5 ?_ | refine at12 ?_ | refine at9 ?_ | refine at10 ?_ | refine at11 ?_ | refine at13 ?_))); (try dsimp only); walk1)))
  rename_i tk1 h2 F2 N2
  refine wpAny_mono (E := fun _ _ => False) (Q := fun f s' => f = .next ∧ ∃ h tk mm t1, s' = { s with heap := h, toks := tk } ∧ Fr g L' h mm ∧ mm "a" = some (.str x tx) ∧ mm "b" = some (.str y ty) ∧ mm "max_cost" = some (.int 2 tm) ∧ mm "pre" = some (.int u.length t1)) ?l1 ?r1 (fun _ _ x => x)
  case l1 =>
    refine whileM (fun n s' => ∃ h tk mm t1 i, s' = { s with heap := h, toks := tk } ∧ Fr g L' h mm ∧ mm "a" = some (.str x tx) ∧ mm "b" = some (.str y ty) ∧ mm "max_cost" = some (.int 2 tm) ∧ mm "pre" = some (.int (i : Nat) t1) ∧ i ≤ u.length ∧ n = u.length - i) ?turn u.length ?init
    case init => exact ⟨_, _, _, _, 0, rfl, F2, rfl, rfl, rfl, rfl, by omega, rfl⟩
    case turn =>
      rintro n s' ⟨h, tk, mm, t1, i, rfl, F, eA, eB, eM, eP, hi, rfl⟩
      clear F2 N2 
      have F8 := Fr.know (x := "a") (v := .str x tx) (Fr.know (x := "b") (v := .str y ty) (Fr.know (x := "max_cost") (v := .int 2 tm) (Fr.know (x := "pre") (v := .int (i : Nat) t1) F eP) eM) eB) eA
      clear F
      have N8 : News g L' h [] := fun _ hq => nomatch hq
      have sx : (((Txt.slice x (some (i : Nat)) none).length : Int) != 0) = true := by
        rw [← hX, slice_from _ _ (by simp; omega), mkS_len]; simp; omega
      have sy : (((Txt.slice y (some (i : Nat)) none).length : Int) != 0) = true := by
        rw [← hY, slice_from _ _ (by simp; omega), mkS_len]; simp; omega
      have lx : (i : Int) < x.length := by rw [← hX, mkS_len]; simp; omega
      have ly : (i : Int) < y.length := by rw [← hY, mkS_len]; simp; omega
      have hit : (Txt.item x (i : Nat) == Txt.item y (i : Nat)) = decide (i < u.length) := by
        rw [← hX, ← hY, item_nat _ i (by simp; omega), item_nat _ i (by simp; omega)]
        by_cases q : i < u.length
        · simp [q]
        · have : i = u.length := by omega
          subst this
          simp [mkS]; omega
      (repeat' (first | ((with_reducible show @ite Prop _ _ _ _); first | refine if_pos_p (by decide) ?_ | refine if_neg_p (by decide) ?_) | ((with_reducible refine at28 ?_); (with_reducible rename Fr _ _ _ _ => F'); (with_reducible rename News _ _ _ _ => N'); refine slice_strN_nn_len (s := ⟨_, _, _, _, _⟩) F' N' ?_; intro _ _ _ _ _ _) | ((with_reducible show wpAny _ _ _ _ _ _); (fail_if_success (with_reducible (first | refine at1 ?_ | refine at2 ?_ | refine at3 ?_ | refine at5 ?_ | refine at12 ?_ | refine at9 ?_ | refine at10 ?_ | refine at11 ?_ | refine at13 ?_))); (try dsimp only); walk1)))
      rw [if_pos sx]
      (repeat' (first | ((with_reducible show @ite Prop _ _ _ _); first | refine if_pos_p (by decide) ?_ | refine if_neg_p (by decide) ?_) | ((with_reducible refine at28 ?_); (with_reducible rename Fr _ _ _ _ => F'); (with_reducible rename News _ _ _ _ => N'); refine slice_strN_nn_len (s := ⟨_, _, _, _, _⟩) F' N' ?_; intro _ _ _ _ _ _) | ((with_reducible show wpAny _ _ _ _ _ _); (fail_if_success (with_reducible (first | refine at1 ?_ | refine at2 ?_ | refine at3 ?_ | refine at5 ?_ | refine at12 ?_ | refine at9 ?_ | refine at10 ?_ | refine at11 ?_ | refine at13 ?_))); (try dsimp only); walk1)))
      rw [if_pos sy]
      (repeat' (first | ((with_reducible show @ite Prop _ _ _ _); first | refine if_pos_p (by decide) ?_ | refine if_neg_p (by decide) ?_) | ((with_reducible refine at28 ?_); (with_reducible rename Fr _ _ _ _ => F'); (with_reducible rename News _ _ _ _ => N'); refine slice_strN_nn_len (s := ⟨_, _, _, _, _⟩) F' N' ?_; intro _ _ _ _ _ _) | ((with_reducible show wpAny _ _ _ _ _ _); (fail_if_success (with_reducible (first | refine at1 ?_ | refine at2 ?_ | refine at3 ?_ | refine at5 ?_ | refine at12 ?_ | refine at9 ?_ | refine at10 ?_ | refine at11 ?_ | refine at13 ?_))); (try dsimp only); walk1)))
      with_reducible refine' item_str ?i1 ?i2 ?i3 ?_ ?i4 ?i5
      case i1 => exact fitsSsize_of (N := 9223372036854775808) (by omega) (by omega) (Int.le_refl _)
      case i2 => omega
      case i3 => exact lx
      case i4 => with_unfolding_all rfl
      case i5 => intro _; with_unfolding_all rfl
      intro n1
      (repeat' (first | ((with_reducible show @ite Prop _ _ _ _); first | refine if_pos_p (by decide) ?_ | refine if_neg_p (by decide) ?_) | ((with_reducible refine at28 ?_); (with_reducible rename Fr _ _ _ _ => F'); (with_reducible rename News _ _ _ _ => N'); refine slice_strN_nn_len (s := ⟨_, _, _, _, _⟩) F' N' ?_; intro _ _ _ _ _ _) | ((with_reducible show wpAny _ _ _ _ _ _); (fail_if_success (with_reducible (first | refine at1 ?_ | refine at2 ?_ | refine at3 ?_ | refine at5 ?_ | refine at12 ?_ | refine at9 ?_ | refine at10 ?_ | refine at11 ?_ | refine at13 ?_))); (try dsimp only); walk1)))
      with_reducible refine' item_str ?i1 ?i2 ?i3 ?_ ?i4 ?i5
      case i1 => exact fitsSsize_of (N := 9223372036854775808) (by omega) (by omega) (Int.le_refl _)
      case i2 => omega
      case i3 => exact ly
      case i4 => with_unfolding_all rfl
      case i5 => intro _; with_unfolding_all rfl
      intro n2
      (repeat' (first | ((with_reducible show @ite Prop _ _ _ _); first | refine if_pos_p (by decide) ?_ | refine if_neg_p (by decide) ?_) | ((with_reducible refine at28 ?_); (with_reducible rename Fr _ _ _ _ => F'); (with_reducible rename News _ _ _ _ => N'); refine slice_strN_nn_len (s := ⟨_, _, _, _, _⟩) F' N' ?_; intro _ _ _ _ _ _) | ((with_reducible show wpAny _ _ _ _ _ _); (fail_if_success (with_reducible (first | refine at1 ?_ | refine at2 ?_ | refine at3 ?_ | refine at5 ?_ | refine at12 ?_ | refine at9 ?_ | refine at10 ?_ | refine at11 ?_ | refine at13 ?_))); (try dsimp only); walk1)))
      by_cases q : i < u.length
      · rw [if_pos (by rw [hit]; simpa using q)]
        (repeat' (first | ((with_reducible show @ite Prop _ _ _ _); first | refine if_pos_p (by decide) ?_ | refine if_neg_p (by decide) ?_) | ((with_reducible refine at28 ?_); (with_reducible rename Fr _ _ _ _ => F'); (with_reducible rename News _ _ _ _ => N'); refine slice_strN_nn_len (s := ⟨_, _, _, _, _⟩) F' N' ?_; intro _ _ _ _ _ _) | ((with_reducible show wpAny _ _ _ _ _ _); (fail_if_success (with_reducible (first | refine at1 ?_ | refine at2 ?_ | refine at3 ?_ | refine at5 ?_ | refine at12 ?_ | refine at9 ?_ | refine at10 ?_ | refine at11 ?_ | refine at13 ?_))); (try dsimp only); walk1)))
        rename_i Fe Ne
        exact ⟨u.length - (i + 1), by omega, _, _, _, _, i + 1, rfl, Fe, rfl, rfl, rfl, rfl, by omega, rfl⟩
      · rw [if_neg (by rw [hit]; simpa using q)]
        have hiu : i = u.length := by omega
        subst hiu
        (repeat' (first | ((with_reducible show @ite Prop _ _ _ _); first | refine if_pos_p (by decide) ?_ | refine if_neg_p (by decide) ?_) | ((with_reducible refine at28 ?_); (with_reducible rename Fr _ _ _ _ => F'); (with_reducible rename News _ _ _ _ => N'); refine slice_strN_nn_len (s := ⟨_, _, _, _, _⟩) F' N' ?_; intro _ _ _ _ _ _) | ((with_reducible show wpAny _ _ _ _ _ _); (fail_if_success (with_reducible (first | refine at1 ?_ | refine at2 ?_ | refine at3 ?_ | refine at5 ?_ | refine at12 ?_ | refine at9 ?_ | refine at10 ?_ | refine at11 ?_ | refine at13 ?_))); (try dsimp only); walk1)))
        have Fe := (show Fr g L' _ _ by assumption)
        exact ⟨rfl, _, _, _, _, rfl, Fe, rfl, rfl, rfl, rfl⟩
  case r1 =>
    rintro f s' ⟨rfl, h3, tk3, mm3, t3, rfl, F3, eA, eB, eM, eP⟩
    clear F2 N2
    have F4 := Fr.know (x := "a") (v := .str x tx) (Fr.know (x := "b") (v := .str y ty) (Fr.know (x := "max_cost") (v := .int 2 tm) (Fr.know (x := "pre") (v := .int (u.length : Nat) t3) F3 eP) eM) eB) eA
    clear F3
    have N4 : News g L' h3 [] := fun _ hq => nomatch hq
    dsimp only
    (repeat' (first | ((with_reducible show @ite Prop _ _ _ _); first | refine if_pos_p (by decide) ?_ | refine if_neg_p (by decide) ?_) | ((with_reducible refine at28 ?_); (with_reducible rename Fr _ _ _ _ => F'); (with_reducible rename News _ _ _ _ => N'); refine slice_strN_nn_len (s := ⟨_, _, _, _, _⟩) F' N' ?_; intro _ _ _ _ _ _) | ((with_reducible show wpAny _ _ _ _ _ _); (fail_if_success (with_reducible (first | refine at1 ?_ | refine at2 ?_ | refine at3 ?_ | refine at5 ?_ | refine at12 ?_ | refine at9 ?_ | refine at10 ?_ | refine at11 ?_ | refine at13 ?_))); (try dsimp only); walk1)))
    rename_i F5 N5
    have hsx : Txt.slice x (some (u.length : Nat)) none = mkS (c :: v) := by rw [← hX, slice_from _ _ (by simp), List.drop_left]
    have hsy : Txt.slice y (some (u.length : Nat)) none = mkS (45 :: v) := by rw [← hY, slice_from _ _ (by simp), List.drop_left]
    rw [hsx, hsy] at F5
    have hx2 : (mkS (c :: v)).length = v.length + 1 := by rw [mkS_len]; simp
    have hy2 : (mkS (45 :: v)).length = v.length + 1 := by rw [mkS_len]; simp
    generalize hX2 : mkS (c :: v) = x2 at F5 hx2
    generalize hY2 : mkS (45 :: v) = y2 at F5 hy2
    clear hsx hsy
    refine wpAny_mono (E := fun _ _ => False) (Q := fun f s' => f = .next ∧ ∃ h tk mm t1 ta tb, s' = { s with heap := h, toks := tk } ∧ Fr g L' h mm ∧ mm "a" = some (.str x2 ta) ∧ mm "b" = some (.str y2 tb) ∧ mm "max_cost" = some (.int 2 tm) ∧ mm "post" = some (.int (-(v.length : Nat)) t1)) ?l2 ?r2 (fun _ _ x => x)
    case l2 =>
      refine whileM (fun n s' => ∃ h tk mm t1 ta tb i, s' = { s with heap := h, toks := tk } ∧ Fr g L' h mm ∧ mm "a" = some (.str x2 ta) ∧ mm "b" = some (.str y2 tb) ∧ mm "max_cost" = some (.int 2 tm) ∧ mm "post" = some (.int (-(i : Nat)) t1) ∧ i ≤ v.length ∧ n = v.length - i) ?turn2 v.length ?init2
      case init2 => exact ⟨_, _, _, _, _, _, 0, rfl, F5, rfl, rfl, rfl, rfl, by omega, rfl⟩
      case turn2 =>
        rintro n s' ⟨h, tk, mm, t1, ta, tb, i, rfl, F, eA, eB, eM, eP, hi, rfl⟩
        clear F5 N5
        have F8 := Fr.know (x := "a") (v := .str x2 ta) (Fr.know (x := "b") (v := .str y2 tb) (Fr.know (x := "max_cost") (v := .int 2 tm) (Fr.know (x := "post") (v := .int (-(i : Nat)) t1) F eP) eM) eB) eA
        clear F
        have N8 : News g L' h [] := fun _ hq => nomatch hq
        have hit : (Txt.item x2 (-(i : Nat) - 1) == Txt.item y2 (-(i : Nat) - 1)) = decide (i < v.length) := by
          rw [← hX2, ← hY2]; exact item_back c 45 v i (by omega) hi
        by_cases q0 : i = 0
        · have z0 : (-((i : Nat) : Int) != 0) = false := by rw [q0]; rfl
          have sx : (((Txt.slice x2 none none).length : Int) != 0) = true := by rw [← hX2, slice_all, mkS_len]; simp; omega
          have sy : (((Txt.slice y2 none none).length : Int) != 0) = true := by rw [← hY2, slice_all, mkS_len]; simp; omega
          (repeat' (first | ((with_reducible show @ite Prop _ _ _ _); first | refine if_pos_p (by decide) ?_ | refine if_neg_p (by decide) ?_) | ((with_reducible refine at28 ?_); (with_reducible rename Fr _ _ _ _ => F'); (with_reducible rename News _ _ _ _ => N'); refine slice_strN_nn_len (s := ⟨_, _, _, _, _⟩) F' N' ?_; intro _ _ _ _ _ _) | ((with_reducible show wpAny _ _ _ _ _ _); (fail_if_success (with_reducible (first | refine at1 ?_ | refine at2 ?_ | refine at3 ?_ | refine at5 ?_ | refine at12 ?_ | refine at9 ?_ | refine at10 ?_ | refine at11 ?_ | refine at13 ?_))); (try dsimp only); walk1)))
          rw [if_neg (by rw [z0]; decide)]
          (repeat' (first | ((with_reducible show @ite Prop _ _ _ _); first | refine if_pos_p (by decide) ?_ | refine if_neg_p (by decide) ?_) | ((with_reducible refine at28 ?_); (with_reducible rename Fr _ _ _ _ => F'); (with_reducible rename News _ _ _ _ => N'); refine slice_strN_nn_len (s := ⟨_, _, _, _, _⟩) F' N' ?_; intro _ _ _ _ _ _) | ((with_reducible show wpAny _ _ _ _ _ _); (fail_if_success (with_reducible (first | refine at1 ?_ | refine at2 ?_ | refine at3 ?_ | refine at5 ?_ | refine at12 ?_ | refine at9 ?_ | refine at10 ?_ | refine at11 ?_ | refine at13 ?_))); (try dsimp only); walk1)))
          rw [if_pos sx]
          (repeat' (first | ((with_reducible show @ite Prop _ _ _ _); first | refine if_pos_p (by decide) ?_ | refine if_neg_p (by decide) ?_) | ((with_reducible refine at28 ?_); (with_reducible rename Fr _ _ _ _ => F'); (with_reducible rename News _ _ _ _ => N'); refine slice_strN_nn_len (s := ⟨_, _, _, _, _⟩) F' N' ?_; intro _ _ _ _ _ _) | ((with_reducible show wpAny _ _ _ _ _ _); (fail_if_success (with_reducible (first | refine at1 ?_ | refine at2 ?_ | refine at3 ?_ | refine at5 ?_ | refine at12 ?_ | refine at9 ?_ | refine at10 ?_ | refine at11 ?_ | refine at13 ?_))); (try dsimp only); walk1)))
          rw [if_neg (by rw [z0]; decide)]
          (repeat' (first | ((with_reducible show @ite Prop _ _ _ _); first | refine if_pos_p (by decide) ?_ | refine if_neg_p (by decide) ?_) | ((with_reducible refine at28 ?_); (with_reducible rename Fr _ _ _ _ => F'); (with_reducible rename News _ _ _ _ => N'); refine slice_strN_nn_len (s := ⟨_, _, _, _, _⟩) F' N' ?_; intro _ _ _ _ _ _) | ((with_reducible show wpAny _ _ _ _ _ _); (fail_if_success (with_reducible (first | refine at1 ?_ | refine at2 ?_ | refine at3 ?_ | refine at5 ?_ | refine at12 ?_ | refine at9 ?_ | refine at10 ?_ | refine at11 ?_ | refine at13 ?_))); (try dsimp only); walk1)))
          rw [if_pos sy]
          (repeat' (first | ((with_reducible show @ite Prop _ _ _ _); first | refine if_pos_p (by decide) ?_ | refine if_neg_p (by decide) ?_) | ((with_reducible refine at28 ?_); (with_reducible rename Fr _ _ _ _ => F'); (with_reducible rename News _ _ _ _ => N'); refine slice_strN_nn_len (s := ⟨_, _, _, _, _⟩) F' N' ?_; intro _ _ _ _ _ _) | ((with_reducible show wpAny _ _ _ _ _ _); (fail_if_success (with_reducible (first | refine at1 ?_ | refine at2 ?_ | refine at3 ?_ | refine at5 ?_ | refine at12 ?_ | refine at9 ?_ | refine at10 ?_ | refine at11 ?_ | refine at13 ?_))); (try dsimp only); walk1)))
          with_reducible refine' item_str ?i1 ?i2 ?i3 ?_ ?i4 ?i5
          case i1 => exact fitsSsize_of (N := 9223372036854775808) (by omega) (by omega) (Int.le_refl _)
          case i2 => rw [hx2]; omega
          case i3 => rw [hx2]; omega
          case i4 => with_unfolding_all rfl
          case i5 => intro _; with_unfolding_all rfl
          intro n1
          (repeat' (first | ((with_reducible show @ite Prop _ _ _ _); first | refine if_pos_p (by decide) ?_ | refine if_neg_p (by decide) ?_) | ((with_reducible refine at28 ?_); (with_reducible rename Fr _ _ _ _ => F'); (with_reducible rename News _ _ _ _ => N'); refine slice_strN_nn_len (s := ⟨_, _, _, _, _⟩) F' N' ?_; intro _ _ _ _ _ _) | ((with_reducible show wpAny _ _ _ _ _ _); (fail_if_success (with_reducible (first | refine at1 ?_ | refine at2 ?_ | refine at3 ?_ | refine at5 ?_ | refine at12 ?_ | refine at9 ?_ | refine at10 ?_ | refine at11 ?_ | refine at13 ?_))); (try dsimp only); walk1)))
          with_reducible refine' item_str ?i1 ?i2 ?i3 ?_ ?i4 ?i5
          case i1 => exact fitsSsize_of (N := 9223372036854775808) (by omega) (by omega) (Int.le_refl _)
          case i2 => rw [hy2]; omega
          case i3 => rw [hy2]; omega
          case i4 => with_unfolding_all rfl
          case i5 => intro _; with_unfolding_all rfl
          intro n2
          (repeat' (first | ((with_reducible show @ite Prop _ _ _ _); first | refine if_pos_p (by decide) ?_ | refine if_neg_p (by decide) ?_) | ((with_reducible refine at28 ?_); (with_reducible rename Fr _ _ _ _ => F'); (with_reducible rename News _ _ _ _ => N'); refine slice_strN_nn_len (s := ⟨_, _, _, _, _⟩) F' N' ?_; intro _ _ _ _ _ _) | ((with_reducible show wpAny _ _ _ _ _ _); (fail_if_success (with_reducible (first | refine at1 ?_ | refine at2 ?_ | refine at3 ?_ | refine at5 ?_ | refine at12 ?_ | refine at9 ?_ | refine at10 ?_ | refine at11 ?_ | refine at13 ?_))); (try dsimp only); walk1)))
          by_cases q : i < v.length
          · rw [if_pos (by rw [hit]; simpa using q)]
            (repeat' (first | ((with_reducible show @ite Prop _ _ _ _); first | refine if_pos_p (by decide) ?_ | refine if_neg_p (by decide) ?_) | ((with_reducible refine at28 ?_); (with_reducible rename Fr _ _ _ _ => F'); (with_reducible rename News _ _ _ _ => N'); refine slice_strN_nn_len (s := ⟨_, _, _, _, _⟩) F' N' ?_; intro _ _ _ _ _ _) | ((with_reducible show wpAny _ _ _ _ _ _); (fail_if_success (with_reducible (first | refine at1 ?_ | refine at2 ?_ | refine at3 ?_ | refine at5 ?_ | refine at12 ?_ | refine at9 ?_ | refine at10 ?_ | refine at11 ?_ | refine at13 ?_))); (try dsimp only); walk1)))
            have Fe := (show Fr g L' _ _ by assumption)
            rw [show -((i : Nat) : Int) - 1 = -((i + 1 : Nat) : Int) by omega] at Fe
            exact ⟨v.length - (i + 1), by omega, _, _, _, _, _, _, i + 1, rfl, Fe, rfl, rfl, rfl, rfl, by omega, rfl⟩
          · rw [if_neg (by rw [hit]; simpa using q)]
            have hiv : i = v.length := by omega
            (repeat' (first | ((with_reducible show @ite Prop _ _ _ _); first | refine if_pos_p (by decide) ?_ | refine if_neg_p (by decide) ?_) | ((with_reducible refine at28 ?_); (with_reducible rename Fr _ _ _ _ => F'); (with_reducible rename News _ _ _ _ => N'); refine slice_strN_nn_len (s := ⟨_, _, _, _, _⟩) F' N' ?_; intro _ _ _ _ _ _) | ((with_reducible show wpAny _ _ _ _ _ _); (fail_if_success (with_reducible (first | refine at1 ?_ | refine at2 ?_ | refine at3 ?_ | refine at5 ?_ | refine at12 ?_ | refine at9 ?_ | refine at10 ?_ | refine at11 ?_ | refine at13 ?_))); (try dsimp only); walk1)))
            have Fe := (show Fr g L' _ _ by assumption)
            rw [hiv] at Fe
            exact ⟨rfl, _, _, _, _, _, _, rfl, Fe, rfl, rfl, rfl, rfl⟩
        · have z1 : (-((i : Nat) : Int) != 0) = true := by simpa using q0
          have sx : (((Txt.slice x2 none (some (-(i : Nat)))).length : Int) != 0) = true := by rw [← hX2, slice_neg _ i (by omega) (by simp; omega), mkS_len]; simp; omega
          have sy : (((Txt.slice y2 none (some (-(i : Nat)))).length : Int) != 0) = true := by rw [← hY2, slice_neg _ i (by omega) (by simp; omega), mkS_len]; simp; omega
          (repeat' (first | ((with_reducible show @ite Prop _ _ _ _); first | refine if_pos_p (by decide) ?_ | refine if_neg_p (by decide) ?_) | ((with_reducible refine at28 ?_); (with_reducible rename Fr _ _ _ _ => F'); (with_reducible rename News _ _ _ _ => N'); refine slice_strN_nn_len (s := ⟨_, _, _, _, _⟩) F' N' ?_; intro _ _ _ _ _ _) | ((with_reducible show wpAny _ _ _ _ _ _); (fail_if_success (with_reducible (first | refine at1 ?_ | refine at2 ?_ | refine at3 ?_ | refine at5 ?_ | refine at12 ?_ | refine at9 ?_ | refine at10 ?_ | refine at11 ?_ | refine at13 ?_))); (try dsimp only); walk1)))
          rw [if_pos z1]
          (repeat' (first | ((with_reducible show @ite Prop _ _ _ _); first | refine if_pos_p (by decide) ?_ | refine if_neg_p (by decide) ?_) | ((with_reducible refine at28 ?_); (with_reducible rename Fr _ _ _ _ => F'); (with_reducible rename News _ _ _ _ => N'); refine slice_strN_nn_len (s := ⟨_, _, _, _, _⟩) F' N' ?_; intro _ _ _ _ _ _) | ((with_reducible show wpAny _ _ _ _ _ _); (fail_if_success (with_reducible (first | refine at1 ?_ | refine at2 ?_ | refine at3 ?_ | refine at5 ?_ | refine at12 ?_ | refine at9 ?_ | refine at10 ?_ | refine at11 ?_ | refine at13 ?_))); (try dsimp only); walk1)))
          rw [if_pos sx]
          (repeat' (first | ((with_reducible show @ite Prop _ _ _ _); first | refine if_pos_p (by decide) ?_ | refine if_neg_p (by decide) ?_) | ((with_reducible refine at28 ?_); (with_reducible rename Fr _ _ _ _ => F'); (with_reducible rename News _ _ _ _ => N'); refine slice_strN_nn_len (s := ⟨_, _, _, _, _⟩) F' N' ?_; intro _ _ _ _ _ _) | ((with_reducible show wpAny _ _ _ _ _ _); (fail_if_success (with_reducible (first | refine at1 ?_ | refine at2 ?_ | refine at3 ?_ | refine at5 ?_ | refine at12 ?_ | refine at9 ?_ | refine at10 ?_ | refine at11 ?_ | refine at13 ?_))); (try dsimp only); walk1)))
          rw [if_pos z1]
          (repeat' (first | ((with_reducible show @ite Prop _ _ _ _); first | refine if_pos_p (by decide) ?_ | refine if_neg_p (by decide) ?_) | ((with_reducible refine at28 ?_); (with_reducible rename Fr _ _ _ _ => F'); (with_reducible rename News _ _ _ _ => N'); refine slice_strN_nn_len (s := ⟨_, _, _, _, _⟩) F' N' ?_; intro _ _ _ _ _ _) | ((with_reducible show wpAny _ _ _ _ _ _); (fail_if_success (with_reducible (first | refine at1 ?_ | refine at2 ?_ | refine at3 ?_ | refine at5 ?_ | refine at12 ?_ | refine at9 ?_ | refine at10 ?_ | refine at11 ?_ | refine at13 ?_))); (try dsimp only); walk1)))
          rw [if_pos sy]
          (repeat' (first | ((with_reducible show @ite Prop _ _ _ _); first | refine if_pos_p (by decide) ?_ | refine if_neg_p (by decide) ?_) | ((with_reducible refine at28 ?_); (with_reducible rename Fr _ _ _ _ => F'); (with_reducible rename News _ _ _ _ => N'); refine slice_strN_nn_len (s := ⟨_, _, _, _, _⟩) F' N' ?_; intro _ _ _ _ _ _) | ((with_reducible show wpAny _ _ _ _ _ _); (fail_if_success (with_reducible (first | refine at1 ?_ | refine at2 ?_ | refine at3 ?_ | refine at5 ?_ | refine at12 ?_ | refine at9 ?_ | refine at10 ?_ | refine at11 ?_ | refine at13 ?_))); (try dsimp only); walk1)))
          with_reducible refine' item_str ?i1 ?i2 ?i3 ?_ ?i4 ?i5
          case i1 => exact fitsSsize_of (N := 9223372036854775808) (by omega) (by omega) (Int.le_refl _)
          case i2 => rw [hx2]; omega
          case i3 => rw [hx2]; omega
          case i4 => with_unfolding_all rfl
          case i5 => intro _; with_unfolding_all rfl
          intro n1
          (repeat' (first | ((with_reducible show @ite Prop _ _ _ _); first | refine if_pos_p (by decide) ?_ | refine if_neg_p (by decide) ?_) | ((with_reducible refine at28 ?_); (with_reducible rename Fr _ _ _ _ => F'); (with_reducible rename News _ _ _ _ => N'); refine slice_strN_nn_len (s := ⟨_, _, _, _, _⟩) F' N' ?_; intro _ _ _ _ _ _) | ((with_reducible show wpAny _ _ _ _ _ _); (fail_if_success (with_reducible (first | refine at1 ?_ | refine at2 ?_ | refine at3 ?_ | refine at5 ?_ | refine at12 ?_ | refine at9 ?_ | refine at10 ?_ | refine at11 ?_ | refine at13 ?_))); (try dsimp only); walk1)))
          with_reducible refine' item_str ?i1 ?i2 ?i3 ?_ ?i4 ?i5
          case i1 => exact fitsSsize_of (N := 9223372036854775808) (by omega) (by omega) (Int.le_refl _)
          case i2 => rw [hy2]; omega
          case i3 => rw [hy2]; omega
          case i4 => with_unfolding_all rfl
          case i5 => intro _; with_unfolding_all rfl
          intro n2
          (repeat' (first | ((with_reducible show @ite Prop _ _ _ _); first | refine if_pos_p (by decide) ?_ | refine if_neg_p (by decide) ?_) | ((with_reducible refine at28 ?_); (with_reducible rename Fr _ _ _ _ => F'); (with_reducible rename News _ _ _ _ => N'); refine slice_strN_nn_len (s := ⟨_, _, _, _, _⟩) F' N' ?_; intro _ _ _ _ _ _) | ((with_reducible show wpAny _ _ _ _ _ _); (fail_if_success (with_reducible (first | refine at1 ?_ | refine at2 ?_ | refine at3 ?_ | refine at5 ?_ | refine at12 ?_ | refine at9 ?_ | refine at10 ?_ | refine at11 ?_ | refine at13 ?_))); (try dsimp only); walk1)))
          by_cases q : i < v.length
          · rw [if_pos (by rw [hit]; simpa using q)]
            (repeat' (first | ((with_reducible show @ite Prop _ _ _ _); first | refine if_pos_p (by decide) ?_ | refine if_neg_p (by decide) ?_) | ((with_reducible refine at28 ?_); (with_reducible rename Fr _ _ _ _ => F'); (with_reducible rename News _ _ _ _ => N'); refine slice_strN_nn_len (s := ⟨_, _, _, _, _⟩) F' N' ?_; intro _ _ _ _ _ _) | ((with_reducible show wpAny _ _ _ _ _ _); (fail_if_success (with_reducible (first | refine at1 ?_ | refine at2 ?_ | refine at3 ?_ | refine at5 ?_ | refine at12 ?_ | refine at9 ?_ | refine at10 ?_ | refine at11 ?_ | refine at13 ?_))); (try dsimp only); walk1)))
            have Fe := (show Fr g L' _ _ by assumption)
            rw [show -((i : Nat) : Int) - 1 = -((i + 1 : Nat) : Int) by omega] at Fe
            exact ⟨v.length - (i + 1), by omega, _, _, _, _, _, _, i + 1, rfl, Fe, rfl, rfl, rfl, rfl, by omega, rfl⟩
          · rw [if_neg (by rw [hit]; simpa using q)]
            have hiv : i = v.length := by omega
            (repeat' (first | ((with_reducible show @ite Prop _ _ _ _); first | refine if_pos_p (by decide) ?_ | refine if_neg_p (by decide) ?_) | ((with_reducible refine at28 ?_); (with_reducible rename Fr _ _ _ _ => F'); (with_reducible rename News _ _ _ _ => N'); refine slice_strN_nn_len (s := ⟨_, _, _, _, _⟩) F' N' ?_; intro _ _ _ _ _ _) | ((with_reducible show wpAny _ _ _ _ _ _); (fail_if_success (with_reducible (first | refine at1 ?_ | refine at2 ?_ | refine at3 ?_ | refine at5 ?_ | refine at12 ?_ | refine at9 ?_ | refine at10 ?_ | refine at11 ?_ | refine at13 ?_))); (try dsimp only); walk1)))
            have Fe := (show Fr g L' _ _ by assumption)
            rw [hiv] at Fe
            exact ⟨rfl, _, _, _, _, _, _, rfl, Fe, rfl, rfl, rfl, rfl⟩
    case r2 =>
      rintro f s' ⟨rfl, h6, tk6, mm6, t6, ta6, tb6, rfl, F6, eA6, eB6, eM6, eP6⟩
      clear F5 N5
      have F7 := Fr.know (x := "a") (v := .str x2 ta6) (Fr.know (x := "b") (v := .str y2 tb6) (Fr.know (x := "max_cost") (v := .int 2 tm) (Fr.know (x := "post") (v := .int (-(v.length : Nat)) t6) F6 eP6) eM6) eB6) eA6
      clear F6
      have N7 : News g L' h6 [] := fun _ hq => nomatch hq
      dsimp only
      by_cases q0 : v.length = 0
      · have hv0 : v = [] := List.eq_nil_of_length_eq_zero q0
        have z0 : (-((v.length : Nat) : Int) != 0) = false := by rw [q0]; rfl
        (repeat' (first | ((with_reducible show @ite Prop _ _ _ _); first | refine if_pos_p (by decide) ?_ | refine if_neg_p (by decide) ?_) | ((with_reducible refine at28 ?_); (with_reducible rename Fr _ _ _ _ => F'); (with_reducible rename News _ _ _ _ => N'); refine slice_strN_nn_len (s := ⟨_, _, _, _, _⟩) F' N' ?_; intro _ _ _ _ _ _) | ((with_reducible show wpAny _ _ _ _ _ _); (fail_if_success (with_reducible (first | refine at1 ?_ | refine at2 ?_ | refine at3 ?_ | refine at5 ?_ | refine at12 ?_ | refine at9 ?_ | refine at10 ?_ | refine at11 ?_ | refine at13 ?_))); (try dsimp only); walk1)))
        rw [if_neg (by rw [z0]; decide)]
        (repeat' (first | ((with_reducible show @ite Prop _ _ _ _); first | refine if_pos_p (by decide) ?_ | refine if_neg_p (by decide) ?_) | ((with_reducible refine at28 ?_); (with_reducible rename Fr _ _ _ _ => F'); (with_reducible rename News _ _ _ _ => N'); refine slice_strN_nn_len (s := ⟨_, _, _, _, _⟩) F' N' ?_; intro _ _ _ _ _ _) | ((with_reducible show wpAny _ _ _ _ _ _); (fail_if_success (with_reducible (first | refine at1 ?_ | refine at2 ?_ | refine at3 ?_ | refine at5 ?_ | refine at12 ?_ | refine at9 ?_ | refine at10 ?_ | refine at11 ?_ | refine at13 ?_))); (try dsimp only); walk1)))
        rw [if_neg (by rw [z0]; decide)]
        (repeat' (first | ((with_reducible show @ite Prop _ _ _ _); first | refine if_pos_p (by decide) ?_ | refine if_neg_p (by decide) ?_) | ((with_reducible refine at28 ?_); (with_reducible rename Fr _ _ _ _ => F'); (with_reducible rename News _ _ _ _ => N'); refine slice_strN_nn_len (s := ⟨_, _, _, _, _⟩) F' N' ?_; intro _ _ _ _ _ _) | ((with_reducible show wpAny _ _ _ _ _ _); (fail_if_success (with_reducible (first | refine at1 ?_ | refine at2 ?_ | refine at3 ?_ | refine at5 ?_ | refine at12 ?_ | refine at9 ?_ | refine at10 ?_ | refine at11 ?_ | refine at13 ?_))); (try dsimp only); walk1)))
        have Fe := (show Fr g L' _ _ by assumption)
        rw [show Txt.slice x2 none none = mkS [c] by rw [← hX2, slice_all]; rw [hv0], show Txt.slice y2 none none = Str.ofString "-" by rw [← hY2, slice_all]; rw [hv0]; decide +kernel] at Fe
        refine lv_tail dp un gd fr g L' _ _ (mkS [c]) _ _ tm _ X' TT hdp hun ?_ (Fr.know (x := "a") (v := .str (mkS [c]) _) (Fr.know (x := "b") (v := .str (Str.ofString "-") _) (Fr.know (x := "max_cost") (v := .int 2 tm) Fe rfl) rfl) rfl) (fun _ hq => nomatch hq) ?_
        · rcases hc with rfl | rfl
          · exact .inl (by decide +kernel)
          · exact .inr (by decide +kernel)
        · intro h' tk t' hk
          exact hQ _ _ _ fun y o hy => hk y o (hg y o hy (fun q => nomatch q))
      · have z1 : (-((v.length : Nat) : Int) != 0) = true := by simpa using q0
        (repeat' (first | ((with_reducible show @ite Prop _ _ _ _); first | refine if_pos_p (by decide) ?_ | refine if_neg_p (by decide) ?_) | ((with_reducible refine at28 ?_); (with_reducible rename Fr _ _ _ _ => F'); (with_reducible rename News _ _ _ _ => N'); refine slice_strN_nn_len (s := ⟨_, _, _, _, _⟩) F' N' ?_; intro _ _ _ _ _ _) | ((with_reducible show wpAny _ _ _ _ _ _); (fail_if_success (with_reducible (first | refine at1 ?_ | refine at2 ?_ | refine at3 ?_ | refine at5 ?_ | refine at12 ?_ | refine at9 ?_ | refine at10 ?_ | refine at11 ?_ | refine at13 ?_))); (try dsimp only); walk1)))
        rw [if_pos z1]
        (repeat' (first | ((with_reducible show @ite Prop _ _ _ _); first | refine if_pos_p (by decide) ?_ | refine if_neg_p (by decide) ?_) | ((with_reducible refine at28 ?_); (with_reducible rename Fr _ _ _ _ => F'); (with_reducible rename News _ _ _ _ => N'); refine slice_strN_nn_len (s := ⟨_, _, _, _, _⟩) F' N' ?_; intro _ _ _ _ _ _) | ((with_reducible show wpAny _ _ _ _ _ _); (fail_if_success (with_reducible (first | refine at1 ?_ | refine at2 ?_ | refine at3 ?_ | refine at5 ?_ | refine at12 ?_ | refine at9 ?_ | refine at10 ?_ | refine at11 ?_ | refine at13 ?_))); (try dsimp only); walk1)))
        rw [if_pos z1]
        (repeat' (first | ((with_reducible show @ite Prop _ _ _ _); first | refine if_pos_p (by decide) ?_ | refine if_neg_p (by decide) ?_) | ((with_reducible refine at28 ?_); (with_reducible rename Fr _ _ _ _ => F'); (with_reducible rename News _ _ _ _ => N'); refine slice_strN_nn_len (s := ⟨_, _, _, _, _⟩) F' N' ?_; intro _ _ _ _ _ _) | ((with_reducible show wpAny _ _ _ _ _ _); (fail_if_success (with_reducible (first | refine at1 ?_ | refine at2 ?_ | refine at3 ?_ | refine at5 ?_ | refine at12 ?_ | refine at9 ?_ | refine at10 ?_ | refine at11 ?_ | refine at13 ?_))); (try dsimp only); walk1)))
        have Fe := (show Fr g L' _ _ by assumption)
        rw [show Txt.slice x2 none (some (-(v.length : Nat))) = mkS [c] by rw [← hX2, slice_neg _ _ (by omega) (by simp)]; simp, show Txt.slice y2 none (some (-(v.length : Nat))) = Str.ofString "-" by rw [← hY2, slice_neg _ _ (by omega) (by simp)]; simp; decide +kernel] at Fe
        refine lv_tail dp un gd fr g L' _ _ (mkS [c]) _ _ tm _ X' TT hdp hun ?_ (Fr.know (x := "a") (v := .str (mkS [c]) _) (Fr.know (x := "b") (v := .str (Str.ofString "-") _) (Fr.know (x := "max_cost") (v := .int 2 tm) Fe rfl) rfl) rfl) (fun _ hq => nomatch hq) ?_
        · rcases hc with rfl | rfl
          · exact .inl (by decide +kernel)
          · exact .inr (by decide +kernel)
        · intro h' tk t' hk
          exact hQ _ _ _ fun y o hy => hk y o (hg y o hy (fun q => nomatch q))
end Mine
end
section
open PySem PySem.W PyProof.Rows PySem.Calls
set_option Elab.async false
set_option maxRecDepth 100000
set_option maxHeartbeats 1000000
namespace Mine
section
variable {prog : Program} {w : World} {A : Around} {E : Value → Shared → Prop} {s s₁ : Shared} {env : Env}
theorem pick_upto (vs : List Value) (k : Nat) : slicePick vs.toArray none (some (k : Int)) none = (vs.take k).toArray := by
  have e : sliceBounds none (some (k : Int)) none vs.toArray.size = (((0 : Nat) : Int), ((min k vs.toArray.size : Nat) : Int), 1) := by
    simp only [sliceBounds, Option.getD_none, show (1 : Int) > 0 by decide, if_true, if_neg (show ¬ ((k : Int) < 0) by omega)]
    congr 1
    congr 1
    omega
  rw [kmk_pick_nat _ e]
  show ((vs.drop 0).take (min k vs.toArray.size - 0)).toArray = _
  rw [List.drop_zero, Nat.sub_zero, List.size_toArray, kmk_take_min]
theorem pick_all (vs : List Value) : slicePick vs.toArray none none none = vs.toArray := by
  have e : sliceBounds none none none vs.toArray.size = (((0 : Nat) : Int), ((vs.toArray.size : Nat) : Int), 1) := by
    simp only [sliceBounds, Option.getD_none, show (1 : Int) > 0 by decide, if_true]
    rfl
  rw [kmk_pick_nat _ e]
  show ((vs.drop 0).take (vs.toArray.size - 0)).toArray = _
  rw [List.drop_zero, Nat.sub_zero, List.size_toArray, List.take_length]
theorem noTest {env : Env} {Q : Bool → Shared → Prop} (h : Q true s) : wpAny (model prog w) A (forIn ([] : List Expr) true fun c r => if r = true then do let ok ← isTrue c env (eval c env); pure (ForInStep.yield ok) else pure (ForInStep.yield r)) Q E s := wpAny_pure h
end
end Mine
end
section
open PySem PySem.W PyProof.Rows PySem.Calls
set_option Elab.async false
set_option maxRecDepth 100000
set_option maxHeartbeats 1000000
namespace Mine
/-- all below C is kept, and C's own names -/
def KeepsTo (C : Addr) (s s' : Shared) : Prop := ∃ h' tk, s' = { s with heap := h', toks := tk } ∧ (∀ m, s.heap.Ns C m → h'.Ns C m) ∧ ∀ b o, @LT.lt Nat _ b C → s.heap.get? b = some o → h'.get? b = some o
theorem KeepsTo.refl (C : Addr) (s : Shared) : KeepsTo C s s := ⟨s.heap, s.toks, rfl, fun _ h => h, fun _ _ _ e => e⟩
section
variable {prog : Program} {w : World} {A : Around} {E : Value → Shared → Prop} {s s₁ : Shared} {env : Env}
theorem compBlock {elt iter : Expr} {x : Str} {px : Pos} {ifs : List Expr} {scope : Scope} {cl : List (Str × Addr)} {pos : Pos} {s₂ : Shared} {I ax : Addr} {items : Array Value} (p : Value → Bool) (F : Value → Value → Prop) {RR : Value → Addr → Result → Shared → Prop}
    (hh : A.handled = none) (hcell : ∀ y ∈ scope.names, y.2 ≠ .cell) (hkind : scope.kind = .function) (hx : scope.names.lookup x = some .local) (hsz : items.size ≤ sizeLine)
    (hit : s₂.heap.IsListIter I ax 0) (hl : s₂.heap.IsList ax items) (hne : ax ≠ I)
    (htest : ∀ C v s₃ m₃ E', v ∈ items → s₂.heap.objs.size ≤ C → s₃.heap.Ns C m₃ → m₃ x = some v → (∀ b o, b ≠ I → s₂.heap.get? b = some o → s₃.heap.get? b = some o) →
      wpAny (model prog w) A (forIn ifs true fun c r => if r = true then do let ok ← isTrue c (compEnvC scope cl C env) (eval c (compEnvC scope cl C env)); pure (ForInStep.yield ok) else pure (ForInStep.yield r))
        (fun ok s₄ => ok = p v ∧ KeepsTo C s₃ s₄) E' s₃)
    (helt : ∀ C v s₃ m₃ E', v ∈ items → p v = true → s₂.heap.objs.size ≤ C → s₃.heap.Ns C m₃ → m₃ x = some v → (∀ b o, b ≠ I → s₂.heap.get? b = some o → s₃.heap.get? b = some o) →
      wpAny (model prog w) A (eval elt (compEnvC scope cl C env)) (fun y s₄ => F v y ∧ KeepsTo C s₃ s₄) E' s₃)
    (hRR : ∀ D C h' tk m' ys, s₂.heap.get? D = none → s₂.heap.get? C = none → D ≠ C → h'.Ns C m' → h'.PlainList D ys → Paired F (items.toList.filter p) ys.toList →
      (∀ b o, b ≠ I → s₂.heap.get? b = some o → h'.get? b = some o) → RR (.ref D) C (.ok .next) { s₂ with heap := h', toks := tk }) :
    wpAny (model prog w) A (newList []) (fun acc s₃ => wpAny (model prog w) A (newFunctionEnv scope env.globals cl [] env.qual none .none (some env)) (fun cenv s₄ =>
      codeAny (model prog w) A (.compStart (.ListComp elt [⟨.Name x px, iter, ifs, 0⟩] scope pos) 0 (.ref I) acc { cenv with scope := relabel scope env }) (RR acc cenv.locals) s₄) E s₃) E s₂ := by
  refine wpAny_newObj_type (wpAny_newFunctionEnv hcell (by intro y hy; simp at hy) (fun h₁ hns₁ hsb₁ => ?_) hkind)
  dsimp only at hns₁ hsb₁ ⊢
  generalize hH2 : s₂.heap.push { cls := .type "list", dict := none, data := .seq ([] : List Value).toArray } = H2 at hns₁ hsb₁ ⊢
  have hC : H2.objs.size = s₂.heap.objs.size + 1 := by rw [← hH2, Heap.size_push]
  have hIlt : I < s₂.heap.objs.size := by obtain ⟨o, ho, _⟩ := id hit; exact Heap.lt_size ho
  have haxlt : ax < s₂.heap.objs.size := by obtain ⟨o, ho, _⟩ := id hl; exact Heap.lt_size ho
  have fresh : ∀ a, s₂.heap.objs.size ≤ a → s₂.heap.get? a = none := fun a ha => by
    cases e : s₂.heap.get? a with
    | none => rfl
    | some o' => exact absurd (Heap.lt_size e) (Nat.not_lt.mpr ha)
  have hDnone : s₂.heap.get? s₂.heap.objs.size = none := fresh _ (Nat.le_refl _)
  have hCnone : s₂.heap.get? H2.objs.size = none := fresh _ (by rw [hC]; exact Nat.le_succ _)
  have old : ∀ b o, s₂.heap.get? b = some o → h₁.get? b = some o := fun b o e => hsb₁.extBut b o (by rw [hC]; exact Nat.ne_of_lt (Nat.lt_succ_of_lt (Heap.lt_size e))) (Heap.get?_push_of_some _ (hH2 ▸ Heap.get?_push_of_some _ e))
  have hDC : s₂.heap.objs.size ≠ H2.objs.size := by rw [hC]; exact Nat.ne_of_lt (Nat.lt_succ_self _)
  have hacc : h₁.PlainList s₂.heap.objs.size #[] := ⟨_, hsb₁.extBut _ _ hDC (Heap.get?_push_of_some _ (hH2 ▸ Heap.get?_push_size _ rfl))⟩
  have hit₁ : h₁.IsListIter I ax 0 := let ⟨o, ho, r⟩ := hit; ⟨o, old _ _ ho, r⟩
  have hl₁ : h₁.IsList ax items := let ⟨o, ho, r⟩ := hl; ⟨o, old _ _ ho, r⟩
  have hDltC : @LT.lt Nat _ s₂.heap.objs.size H2.objs.size := by rw [hC]; exact Nat.lt_succ_self _
  generalize hDe : s₂.heap.objs.size = D at *
  generalize hCe : H2.objs.size = C at *
  have hIC : @LT.lt Nat _ I C := Nat.lt_trans hIlt hDltC
  have haC : @LT.lt Nat _ ax C := Nat.lt_trans haxlt hDltC
  have hID : I ≠ D := Nat.ne_of_lt hIlt
  have haD : ax ≠ D := Nat.ne_of_lt haxlt
  have hICn : I ≠ C := Nat.ne_of_lt hIC
  have haCn : ax ≠ C := Nat.ne_of_lt haC
  have loop : ∀ s₃ : Shared, s₃ = { s₂ with heap := h₁, toks := s₂.toks + ([] : List (Str × Value)).length } →
      codeAny (model prog w) A (.compLoop (.ListComp elt [⟨.Name x px, iter, ifs, 0⟩] scope pos) 0 (.ref I) (.ref D) (compEnvC scope cl C env)) (RR (.ref D) C) s₃ := by
    rintro s₃ rfl
    refine codeAny_compLoop_tests
      (fun k s' => ∃ h' tk m' ys i, s' = { s₂ with heap := h', toks := tk } ∧ h'.IsListIter I ax i ∧ h'.IsList ax items ∧ h'.PlainList D ys ∧ h'.Ns C m' ∧
        Paired F ((items.toList.take i).filter p) ys.toList ∧ i ≤ items.size ∧ k = items.size + 1 - i ∧ ∀ b o, b ≠ I → s₂.heap.get? b = some o → h'.get? b = some o) ?_ (items.size + 1)
      ⟨h₁, _, _, #[], 0, rfl, hit₁, hl₁, hacc, hns₁, by simpa using Paired.nil, Nat.zero_le _, rfl, fun b o _ e => old b o e⟩
    rintro k s' ⟨H, tk, m', ys, i, rfl, hit', hl', hacc', hn', hF, hi, rfl, hk⟩
    cases hv : items[i]? with
    | none =>
      have hsz : items.toList.length ≤ i := by simpa using hv
      refine wpAny_pyNext_list_end hh hit' hl' hv fun h₂ he₂ => ?_
      rw [List.take_of_length_le hsz] at hF
      obtain ⟨n, en⟩ := hacc'
      exact hRR D C h₂ tk m' ys hDnone hCnone hDC (hn'.extBut he₂ (Ne.symm hICn)) ⟨n, he₂ _ _ (Ne.symm hID) en⟩ hF fun b o hb e => he₂ b o hb (hk b o hb e)
    | some v =>
      have hlt : i < items.size := (Array.getElem?_eq_some_iff.mp hv).1
      have hmem : v ∈ items := by obtain ⟨h1, rfl⟩ := Array.getElem?_eq_some_iff.mp hv; exact Array.getElem_mem h1
      have hvl : items.toList[i]? = some v := by simpa using hv
      refine wpAny_pyNext_list_item hit' hl' hv fun h₂ hit₂ hs₂ => ?_
      replace hs₂ : Heap.SameBut I H h₂ := hs₂
      refine wpAny_assign_Name (wpAny_storeName_local (lookup_relabel_local hx) (hn'.sameBut hs₂ (Ne.symm hICn)) (fun h₃ hn₃ hs₃ => ?_) (by simp [compEnvC, relabel, hkind]))
      replace hs₃ : Heap.SameBut C h₂ h₃ := hs₃
      replace hn₃ : h₃.Ns C _ := hn₃
      have up₃ : ∀ b o, b ≠ I → s₂.heap.get? b = some o → h₃.get? b = some o := fun b o hb e => hs₃.extBut b o (by have := Heap.lt_size e; rw [hDe] at this; exact Nat.ne_of_lt (Nat.lt_trans this hDltC)) (hs₂.extBut b o hb (hk b o hb e))
      have hit₃ : h₃.IsListIter I ax (i + 1) := hit₂.extBut hs₃.extBut hICn
      have hl₃ : h₃.IsList ax items := (hl'.extBut hs₂.extBut hne).extBut hs₃.extBut haCn
      have hacc₃ : h₃.PlainList D ys := let ⟨n, en⟩ := hacc'; ⟨n, hs₃.extBut _ _ hDC (hs₂.extBut _ _ (Ne.symm hID) en)⟩
      refine wpAny_mono (htest C v _ _ _ hmem (Nat.le_of_lt hDltC) hn₃ (by simp) up₃) (fun ok s₃ h₃' => ?_) fun _ _ e => e
      obtain ⟨rfl, h₄, tk₄, rfl, hns₄, hk₄⟩ := h₃'
      have hn₄ := hns₄ _ hn₃
      have up₄ : ∀ b o, b ≠ I → s₂.heap.get? b = some o → h₄.get? b = some o := fun b o hb e => hk₄ b o (by have := Heap.lt_size e; rw [hDe] at this; exact Nat.lt_trans this hDltC) (up₃ b o hb e)
      have hit₄ : h₄.IsListIter I ax (i + 1) := let ⟨o, ho, r⟩ := hit₃; ⟨o, hk₄ _ _ hIC ho, r⟩
      have hl₄ : h₄.IsList ax items := let ⟨o, ho, r⟩ := hl₃; ⟨o, hk₄ _ _ haC ho, r⟩
      have hacc₄ : h₄.PlainList D ys := let ⟨n, en⟩ := hacc₃; ⟨n, hk₄ _ _ hDltC en⟩
      cases hpv : p v with
      | false =>
        simp only [Bool.false_eq_true, if_false]
        refine ⟨items.size + 1 - (i + 1), by omega, h₄, tk₄, _, ys, i + 1, rfl, hit₄, hl₄, hacc₄, hn₄, ?_, hlt, rfl, up₄⟩
        rw [take_succ_filter p _ i v hvl, hpv]; simpa using hF
      | true =>
        simp only [if_true]
        refine wpAny_mono (helt C v _ _ _ hmem hpv (Nat.le_of_lt hDltC) hn₄ (by simp) up₄) (fun y s₄ h₄' => ?_) fun _ _ e => e
        obtain ⟨hFy, h₅, tk₅, rfl, hns₅, hk₅⟩ := h₄'
        have hys : ys.size ≤ sizeLine := by
          have e1 := hF.length
          have e2 : ((items.toList.take i).filter p).length ≤ (items.toList.take i).length := List.length_filter_le _ _
          have e3 : (items.toList.take i).length ≤ items.size := by rw [List.length_take]; simp; omega
          have e4 : ys.toList.length = ys.size := by simp
          omega
        obtain ⟨n, en⟩ := hacc₄
        refine append_at (its := ys) (n := n) (hsz := hys) (hk₅ _ _ hDltC en) fun h₆ hs₆ ho₆ => ?_
        replace hs₆ : Heap.SameBut D h₅ h₆ := hs₆
        refine ⟨items.size + 1 - (i + 1), by omega, h₆, tk₅, _, ys.push y, i + 1, rfl, ?_, ?_, ⟨_, ho₆⟩, (hns₅ _ hn₄).sameBut hs₆ (Ne.symm hDC), ?_, hlt, rfl, fun b o hb e => hs₆.extBut b o ?_ (hk₅ b o ?_ (up₄ b o hb e))⟩
        · obtain ⟨o, ho, r⟩ := hit₄; exact ⟨o, hs₆.extBut _ _ hID (hk₅ _ _ hIC ho), r⟩
        · obtain ⟨o, ho, r⟩ := hl₄; exact ⟨o, hs₆.extBut _ _ haD (hk₅ _ _ haC ho), r⟩
        · rw [take_succ_filter p _ i v hvl, hpv]
          simpa using Paired.snoc hF hFy
        · have := Heap.lt_size e; rw [hDe] at this; exact Nat.ne_of_lt this
        · have := Heap.lt_size e; rw [hDe] at this; exact Nat.lt_trans this hDltC
  exact codeAny_compStart_list (loop _ rfl) (wpAny_pyIter_listiter hit₁ (loop _ rfl))

/-- what is asked behind the source of a list comprehension -/
def CompTo (prog : Program) (w : World) (A : Around) (env : Env) (scope : Scope) (cl : List (Str × Addr)) (x : Str) (ifs : List Expr) (elt : Expr) (p : Value → Bool) (F : Value → Value → Prop) (Q : Value → Shared → Prop) (xv : Value) (s₁ : Shared) : Prop :=
  ∃ ax items, xv = .ref ax ∧ s₁.heap.IsList ax items ∧ items.size ≤ sizeLine ∧
    (∀ C v s₃ m₃ E', v ∈ items → @LT.lt Nat _ s₁.heap.objs.size C → s₃.heap.Ns C m₃ → m₃ x = some v → (∀ b o, s₁.heap.get? b = some o → s₃.heap.get? b = some o) →
      wpAny (model prog w) A (forIn ifs true fun c r => if r = true then do let ok ← isTrue c (compEnvC scope cl C env) (eval c (compEnvC scope cl C env)); pure (ForInStep.yield ok) else pure (ForInStep.yield r))
        (fun ok s₄ => ok = p v ∧ KeepsTo C s₃ s₄) E' s₃) ∧
    (∀ C v s₃ m₃ E', v ∈ items → p v = true → @LT.lt Nat _ s₁.heap.objs.size C → s₃.heap.Ns C m₃ → m₃ x = some v → (∀ b o, s₁.heap.get? b = some o → s₃.heap.get? b = some o) →
      wpAny (model prog w) A (eval elt (compEnvC scope cl C env)) (fun y s₄ => F v y ∧ KeepsTo C s₃ s₄) E' s₃) ∧
    (∀ D h' tk ys, s₁.heap.get? D = none → h'.PlainList D ys → Paired F (items.toList.filter p) ys.toList → (∀ b o, s₁.heap.get? b = some o → h'.get? b = some o) → Q (.ref D) { s₁ with heap := h', toks := tk })
theorem compT {elt iter : Expr} {x : Str} {px : Pos} {ifs : List Expr} {scope : Scope} {cl : List (Str × Addr)} {pos : Pos} {Q : Value → Shared → Prop} (p : Value → Bool) (F : Value → Value → Prop)
    (hh : A.handled = none) (hclos : closureFor scope env = pure cl) (hcell : ∀ y ∈ scope.names, y.2 ≠ .cell) (hkind : scope.kind = .function)
    (hnames : ∀ y ∈ scope.names, y.2 = .local → scope.names.lookup y.1 = some .local) (hx : scope.names.lookup x = some .local)
    (h : wpAny (model prog w) A (eval iter env) (CompTo prog w A env scope cl x ifs elt p F Q) E s)
    (hs : ∀ x, foldedSetIterable iter env x = pure x := by intro _; rfl) :
    wpAny (model prog w) A (eval (.ListComp elt [⟨.Name x px, iter, ifs, 0⟩] scope pos) env) Q E s := by
  rw [eval_ListComp]
  refine wpAny_comprehension_free (use := none) rfl hs hclos hkind hnames (wpAny_mono h (fun xv s₁ hc => ?_) fun _ _ e => e)
  obtain ⟨ax, items, rfl, hl, hsz, htest, helt, hQ⟩ := hc
  refine wpAny_pyIter_list hl ?_
  have hax : ax < s₁.heap.objs.size := by obtain ⟨o, ho, _⟩ := id hl; exact Heap.lt_size ho
  have hol : ∀ b o, s₁.heap.get? b = some o → (s₁.heap.push { cls := .type "list_iterator", data := .fields #[.ref ax, .int 0 0] }).get? b = some o := fun b o e => Heap.get?_push_of_some _ e
  have hsz1 : (s₁.heap.push { cls := .type "list_iterator", data := .fields #[.ref ax, .int 0 0] }).objs.size = s₁.heap.objs.size + 1 := Heap.size_push ..
  have hlt : ∀ {C : Addr}, (s₁.heap.push { cls := .type "list_iterator", data := .fields #[.ref ax, .int 0 0] }).objs.size ≤ C → @LT.lt Nat _ s₁.heap.objs.size C := fun h => by rw [hsz1] at h; exact h
  refine compBlock (RR := fun acc C => compPost (model prog w) A E none Q acc C) p F hh hcell hkind hx hsz (ax := ax) (items := items) ⟨_, Heap.get?_push_size _ rfl, rfl, rfl⟩ (let ⟨o, ho, r⟩ := hl; ⟨o, hol _ _ ho, r⟩) (Nat.ne_of_lt hax)
    (fun C v s₃ m₃ E' hv hC hn hm hk => htest C v s₃ m₃ E' hv (hlt hC) hn hm fun b o e => hk b o (Nat.ne_of_lt (Heap.lt_size e)) (hol b o e))
    (fun C v s₃ m₃ E' hv hp hC hn hm hk => helt C v s₃ m₃ E' hv hp (hlt hC) hn hm fun b o e => hk b o (Nat.ne_of_lt (Heap.lt_size e)) (hol b o e)) ?_
  intro D C h' tk m' ys hD hC hDC hn hpl hF hk
  refine ⟨m', hn, fun h'' hs'' => hQ D h'' tk ys ?_ (hpl.extBut hs''.extBut hDC) hF fun b o e => hs''.extBut b o ?_ (hk b o (Nat.ne_of_lt (Heap.lt_size e)) (hol b o e))⟩
  · cases q : s₁.heap.get? D with
    | none => rfl
    | some o => rw [hol D o q] at hD; cases hD
  · rintro rfl; rw [hol _ _ e] at hC; cases hC
end
/-- the heap below C -/
def trunc (C : Addr) (h : Heap) : Heap := { h with objs := h.objs.extract 0 C }
theorem trunc_size (C : Addr) (h : Heap) : (trunc C h).objs.size ≤ C := by
  show (h.objs.extract 0 C).size ≤ C
  rw [Array.size_extract]; omega
theorem trunc_lt {C b : Addr} {h : Heap} (hb : @LT.lt Nat _ b C) : (trunc C h).get? b = h.get? b := by
  unfold Heap.get? trunc
  dsimp only
  have : (h.objs.extract 0 C)[b]? = h.objs[b]? := by
    rw [Array.getElem?_extract]
    by_cases q : @LT.lt Nat _ b h.objs.size
    · have h1 : @LT.lt Nat _ b (min C h.objs.size) := by
        have hb' : @LT.lt Nat _ b C := hb
        exact Nat.lt_min.mpr ⟨hb', q⟩
      simp [h1]
    · have h2 : h.objs[b]? = none := by simpa using q
      simp [h2]
  rw [this]
theorem trunc_some {C b : Addr} {h : Heap} {o : Obj} (e : (trunc C h).get? b = some o) : @LT.lt Nat _ b C ∧ h.get? b = some o := by
  have hb : @LT.lt Nat _ b C := Nat.lt_of_lt_of_le (Heap.lt_size e) (trunc_size C h)
  exact ⟨hb, by rw [← trunc_lt hb]; exact e⟩
/-- within a block: its own namespace is the frame, all below it the base -/
theorem blockFr {C : Addr} {h : Heap} {m : Str → Option Value} (hn : h.Ns C m) : Fr (trunc C h) C h m := ⟨hn, fun _ _ e => (trunc_some e).2, trunc_size C h⟩
theorem blockStays {C : Addr} {h₁ h : Heap} (hC : @LT.lt Nat _ h₁.objs.size C) (hk : ∀ b o, h₁.get? b = some o → h.get? b = some o) : h₁.StaysIn (trunc C h) := fun b o e => by
  rw [trunc_lt (Nat.lt_trans (Heap.lt_size e) hC)]; exact hk b o e
theorem blockEnd {C : Addr} {h h' : Heap} {m : Str → Option Value} {gs d t t' os} (hn : h.Ns C m) (F : Fr (trunc C h) C h' m) : KeepsTo C ⟨h, gs, d, t, os⟩ ⟨h', gs, d, t', os⟩ := by
  refine ⟨h', t', rfl, fun m' hn' => ?_, fun b o hb e => F.keep b o (by rw [trunc_lt hb]; exact e)⟩
  have : m' = m := hn'.eq_nsMap.trans hn.eq_nsMap.symm
  exact this ▸ F.ns
theorem nmOwn {M : Model} {A : Around} {E : Value → Shared → Prop} {s : Shared} {g : Heap} {C : Addr} {m : Str → Option Value} {scope : Scope} {cl : List (Str × Addr)} {env : Env} {x : Str} {pos : Pos} {v : Value} {Q : Value → Shared → Prop}
    (F : Fr g C s.heap m) (hv : m x = some v) (h : Q v s)
    (hk : (compEnvC scope cl C env).scope.kind = .function := by rfl) (hl : (compEnvC scope cl C env).kindOf x = some .local := by rfl) (hd : (x == ("__debug__" : Str)) = false := by decide) :
    wpAny M A (eval (.Name x pos) (compEnvC scope cl C env)) Q E s := wpAny_Name (wpAny_loadName_local hk hl F.ns hv h) hd
theorem nmCell {M : Model} {A : Around} {E : Value → Shared → Prop} {s : Shared} {C c : Addr} {scope : Scope} {cl : List (Str × Addr)} {env : Env} {x : Str} {pos : Pos} {v : Value} {Q : Value → Shared → Prop}
    (hc : cl.lookup x = some c) (hi : s.heap.IsCell c (some v)) (h : Q v s)
    (hk : (compEnvC scope cl C env).scope.kind = .function := by rfl) (hx : (compEnvC scope cl C env).kindOf x = some .cell := by rfl) (hd : (x == ("__debug__" : Str)) = false := by decide) :
    wpAny M A (eval (.Name x pos) (compEnvC scope cl C env)) Q E s := wpAny_Name (wpAny_loadName_cell hk hx hc hi h) hd
end Mine
end
section
open PySem PySem.W PyProof.Rows PySem.Calls PyProof.V
set_option Elab.async false
set_option maxRecDepth 100000
set_option maxHeartbeats 1000000
namespace Mine
theorem fillup10 : PySem.Challenge.rw_oy0181_01 = PySem.Challenge.rw_oy0181_01 ∧ KK = KK := by k_fill; exact ⟨rfl, rfl⟩
variable {prog : Program} {w : World} {p : Program} {loose : List Str} {mean : ExcName → Option Value} {mg mb : Str → Option Value}
/-- ints with their tokens, as values -/
def IV (ns : List (Int × Tok)) : List Value := ns.map fun p => Value.int p.1 p.2
def typeF (r : Int) : Int := if r = 0 then 16384 else if r = 1 then 32768 else 40960
def elemF (n : Int) : Int := typeF (n.fmod 3) + (n.fdiv 3).fmod 4096
def modesF (ns : List Int) : List Int := [33188, 33060, 33152, 35309, 33060, 16877] ++ (ns.take 4).map elemF

theorem paired_ints (f : Int → Int) : ∀ (l : List (Int × Tok)) (ys : List Value), Paired (fun v y => ∀ n t, v = Value.int n t → ∃ t', y = Value.int (f n) t') (IV l) ys → ∃ ms, ys = IV ms ∧ ms.map Prod.fst = (l.map Prod.fst).map f
  | [], _, .nil => ⟨[], rfl, rfl⟩
  | (n, t) :: l, _, .cons h r => by
    obtain ⟨t', rfl⟩ := h n t rfl
    obtain ⟨ms, rfl, e⟩ := paired_ints f l _ r
    exact ⟨(f n, t') :: ms, rfl, by simp [e]⟩
theorem lm_call (dp un : Nat) (gd : Option (List Code)) (fr : Option (List Env)) (h₀ : Heap) (s : Shared) (Q E : Value → Shared → Prop) (l : Addr) (ns : List (Int × Tok))
   (X : (KK w.params).In h₀) (T : Top p loose mean mg mb h₀) (hst : h₀.StaysIn s.heap) (hdp : dp + 20 < recursionLimit) (hun : un + 100 < cLine) (hl : s.heap.IsList l (IV ns).toArray) (hns : ns.length ≤ 1000)
   (hQ : ∀ h' tk R ms, (∀ y o, s.heap.get? y = some o → h'.get? y = some o) → s.heap.get? R = none → h'.PlainList R (IV ms).toArray → ms.map Prod.fst = modesF (ns.map Prod.fst) → Q (.ref R) { s with heap := h', toks := tk })
   : wpAny (model prog w) (Ar dp un gd fr) (PySem.call (.ref 218) [.ref l]) Q E s := by
  refine' callM (binds := [("script", .ref l)]) [] X T hst ?a ?b ?ep ?eb ?es ?c ?d ?e ?f ?_ ?g ?h ?i ?j
  case a => exact fun _ h => nomatch h
  case b => k_is
  case ep => conv => lhs; whnf
  case eb => conv => lhs; whnf
  case es => conv => lhs; whnf
  case c => k_is
  case d => show dp < _; omega
  case e => exact BindsTo.of_eq rfl
  case f => exact locs rfl
  case g => decide
  case h => rfl
  case i => rfl
  case j => rfl
  intro g L' h₁ F' N' X' TT hlt0 hg
  clear X T
  have hG : g.IsList l (IV ns).toArray := let ⟨o, a, r⟩ := hl; ⟨o, hg _ _ a (fun q => nomatch q), r⟩
  (repeat' (first | ((with_reducible show @ite Prop _ _ _ _); first | refine if_pos_p (by decide) ?_ | refine if_neg_p (by decide) ?_) | ((with_reducible show wpAny _ _ (eval (Expr.Name _ _) (compEnvC _ _ _ _)) _ _ _); refine nmOwn (by assumption) (by assumption) ?_) | ((with_reducible show wpAny _ _ _ _ _ _); (fail_if_success (with_reducible (first | refine at1 ?_ | refine at2 ?_ | refine at3 ?_ | refine at5 ?_ | refine at12 ?_ | refine at14 ?_ | refine at15 ?_ | refine at16 ?_ | refine at9 ?_ | refine at10 ?_ | refine at11 ?_))); (try dsimp only); walk1)))
  rename_i F2 N2 _
  with_reducible refine' compT (fun _ => true) (fun v y => ∀ n t, v = .int n t → ∃ t', y = .int (elemF n) t') ?c1 ?c2 ?c3 ?c4 ?c5 ?c6 ?_ ?c7
  case c1 => rfl
  case c2 => rfl
  case c3 => decide
  case c4 => rfl
  case c5 => decide
  case c6 => rfl
  case c7 => intro _; rfl
  (repeat' (first | ((with_reducible show @ite Prop _ _ _ _); first | refine if_pos_p (by decide) ?_ | refine if_neg_p (by decide) ?_) | ((with_reducible show wpAny _ _ (eval (Expr.Name _ _) (compEnvC _ _ _ _)) _ _ _); refine nmOwn (by assumption) (by assumption) ?_) | ((with_reducible show wpAny _ _ _ _ _ _); (fail_if_success (with_reducible (first | refine at1 ?_ | refine at2 ?_ | refine at3 ?_ | refine at5 ?_ | refine at12 ?_ | refine at14 ?_ | refine at15 ?_ | refine at16 ?_ | refine at9 ?_ | refine at10 ?_ | refine at11 ?_))); (try dsimp only); walk1)))
  have F2' := (show Fr g L' _ _ by assumption)
  have N2' := (show News g L' _ _ by assumption)
  refine' kmk_slice (s := ⟨_, _, _, _, _⟩) (its := (IV ns).toArray) (lo := none) (hi := some 4) F2' N2' ?d1 .none (.int 4 _) ?_ ?d2 ?d3 ?d4
  case d1 => exact let ⟨o, a, r⟩ := hG; ⟨o, F2'.keep _ _ a, r⟩
  case d2 => with_unfolding_all rfl
  case d3 => intro _; with_unfolding_all rfl
  case d4 => simp only [List.size_toArray, IV, List.length_map, sizeLine_eq]; omega
  intro D h6 F6 N6 l6
  rw [show slicePick (IV ns).toArray none (some 4) none = (IV (ns.take 4)).toArray by rw [show (4 : Int) = ((4 : Nat) : Int) from rfl, pick_upto]; simp [IV]] at N6
  have lD := l6 _ (.head _)
  clear F2' N2' l6
  dsimp only at lD ⊢
  refine ⟨D, (IV (ns.take 4)).toArray, rfl, ⟨_, (N6 _ (.head _)).1, rfl, _, rfl⟩, ?_, ?_, ?_, ?_⟩
  · simp [IV, sizeLine_eq]; omega
  · intro C v s₃ m₃ E' _ _ _ _ _
    exact noTest ⟨rfl, KeepsTo.refl _ _⟩
  · intro C v s₃ m₃ E' hv _ hC hn hm hk
    obtain ⟨n, t, rfl⟩ : ∃ n t, v = .int n t := by
      simp only [IV, List.mem_toArray, List.mem_map] at hv
      obtain ⟨q, _, rfl⟩ := hv
      exact ⟨_, _, rfl⟩
    obtain ⟨h7, gs7, d7, tk7, os7⟩ := s₃
    dsimp only at hn hk hC
    have F7 := blockFr hn
    have N7 : News (trunc C h7) C h7 [] := fun _ hq => nomatch hq
    have st7 : g.StaysIn (trunc C h7) := fun b o e => blockStays hC hk b o (F6.keep b o e)
    have X7 := X'.keeps st7
    have T7 := TT.keeps st7
    clear F6 N6 X' TT
    (repeat' (first | ((with_reducible show @ite Prop _ _ _ _); first | refine if_pos_p (by decide) ?_ | refine if_neg_p (by decide) ?_) | ((with_reducible show wpAny _ _ (eval (Expr.Name _ _) (compEnvC _ _ _ _)) _ _ _); refine nmOwn (by assumption) (by assumption) ?_) | ((with_reducible show wpAny _ _ _ _ _ _); (fail_if_success (with_reducible (first | refine at1 ?_ | refine at2 ?_ | refine at3 ?_ | refine at5 ?_ | refine at12 ?_ | refine at14 ?_ | refine at15 ?_ | refine at16 ?_ | refine at9 ?_ | refine at10 ?_ | refine at11 ?_))); (try dsimp only); walk1)))
    have hr : n.fmod 3 = 0 ∨ n.fmod 3 = 1 ∨ n.fmod 3 = 2 := by rw [Int.fmod_eq_emod_of_nonneg _ (by decide)]; omega
    have N8 := (show News (trunc C h7) C _ _ by assumption)
    with_reducible refine' tailAny (T := "list") ?i1 slot_list_getitem.lookup ?_ ?i2
    case i1 => exact ⟨_, (N8 _ (.head _)).1, rfl⟩
    case i2 => with_unfolding_all rfl
    obtain ⟨tx, hx⟩ : ∃ tx, #[Value.int 16384 425, Value.int 32768 431, Value.int 40960 435][(n.fmod 3).toNat]? = some (.int (typeF (n.fmod 3)) tx) := by
      rcases hr with h | h | h <;> rw [h] <;> exact ⟨_, rfl⟩
    have hr2 : 0 ≤ n.fmod 3 ∧ n.fmod 3 < 3 := by omega
    with_reducible refine' wpAny_getItem_list ?j1 ?j2 ?j3 hx ?_
    case j1 => exact ⟨_, (N8 _ (.head _)).1, rfl, _, rfl⟩
    case j2 => omega
    case j3 => omega
    clear N8
    (repeat' (first | ((with_reducible show @ite Prop _ _ _ _); first | refine if_pos_p (by decide) ?_ | refine if_neg_p (by decide) ?_) | ((with_reducible show wpAny _ _ (eval (Expr.Name _ _) (compEnvC _ _ _ _)) _ _ _); refine nmOwn (by assumption) (by assumption) ?_) | ((with_reducible show wpAny _ _ _ _ _ _); (fail_if_success (with_reducible (first | refine at1 ?_ | refine at2 ?_ | refine at3 ?_ | refine at5 ?_ | refine at12 ?_ | refine at14 ?_ | refine at15 ?_ | refine at16 ?_ | refine at9 ?_ | refine at10 ?_ | refine at11 ?_))); (try dsimp only); walk1)))
    refine ⟨fun n' t' e => ?_, blockEnd hn (show Fr (trunc C h7) C _ _ by assumption)⟩
    cases e
    exact ⟨_, rfl⟩
  · intro D2 h8 tk8 ys hD2 hp2 hF2 hk2
    dsimp only at hk2 hD2 ⊢
    have hF2' : Paired (fun v y => ∀ n t, v = Value.int n t → ∃ t', y = Value.int (elemF n) t') (IV (ns.take 4)) ys.toList := by
      have e : List.filter (fun _ => true) (IV (ns.take 4)) = IV (ns.take 4) := List.filter_eq_self.mpr (by simp)
      rw [show (IV (ns.take 4)).toArray.toList = IV (ns.take 4) from rfl, e] at hF2
      exact hF2
    obtain ⟨ms, hms, hme⟩ := paired_ints elemF _ _ hF2'
    have hys : ys = (IV ms).toArray := by rw [← hms]
    subst hys
    have hml : ms.length ≤ 4 := by have := congrArg List.length hme; simp at this; omega
    have F9 := F6.keeps hk2
    have hA := hk2 _ _ (N6 _ (.tail _ (.head _))).1
    obtain ⟨n2, hp2⟩ := hp2
    refine PySem.P.add_list (items := (IV [(33188, _), (33060, _), (33152, _), (35309, _), (33060, _), (16877, _)]).toArray) (items2 := (IV ms).toArray) (n2 := n2) hA hp2 ?_ ?_
    · refine hQ _ _ _ ([(33188, _), (33060, _), (33152, _), (35309, _), (33060, _), (16877, _)] ++ ms) (fun y o hy => Heap.get?_push_of_some _ (F9.keep y o (hg y o hy (fun q => nomatch q)))) ?_ ⟨_, by rw [show IV ([(33188, _), (33060, _), (33152, _), (35309, _), (33060, _), (16877, _)] ++ ms) = IV [(33188, _), (33060, _), (33152, _), (35309, _), (33060, _), (16877, _)] ++ IV ms from List.map_append ..]; rw [← List.append_toArray]; exact Heap.get?_push_size _ rfl⟩ ?_
      · cases q : s.heap.get? h8.objs.size with
        | none => rfl
        | some o => exact absurd (Heap.lt_size (F9.keep _ _ (hg _ _ q (fun q => nomatch q)))) (Nat.lt_irrefl _)
      · rw [List.map_append, hme, modesF, List.map_take]; rfl
    · simp [IV, sizeLine_eq]; omega
end Mine
end
section
open PySem PySem.W PyProof.Rows PySem.Calls
set_option Elab.async false
set_option maxRecDepth 100000
set_option maxHeartbeats 1000000
namespace Mine
section
variable {prog : Program} {w : World} {A : Around} {s : Shared} {h₀ : Heap} {K : Frag} {p : Program} {loose : List Str} {mean : ExcName → Option Value} {mg mb : Str → Option Value}
  {name qual : Str} {params params₀ : Arguments} {body body₀ : List Stmt} {scope scope₀ : Scope} {dV kV doc pm cdv ct oc : Value} {an od : Option Addr} {osl : Array (Option Value)} {f : Addr} {pos : List Value} {binds : List (Str × Value)}
  {Q E : Value → Shared → Prop}
/-- a call of a def of the text some of whose names are captured by its blocks: the cells stand ahead in the ledger -/
theorem callMC (touched : List (Addr × Obj)) (X : K.In h₀) (T : Top p loose mean mg mb h₀) (hk : h₀.StaysIn s.heap) (ht : ∀ q ∈ touched, s.heap.get? q.1 = some q.2 ∧ h₀.get? q.1 = none)
    (ho : K.lookup f = some ⟨oc, od, .func (fnOf name qual params₀ body₀ scope₀ dV kV doc pm an cdv ct), osl⟩) (ep : params₀ = params) (eb : body₀ = body) (es : scope₀ = scope) (hcd : codeIn K cdv qual = true) (hroom : A.depth < recursionLimit)
    (hbind : BindsTo s (fnOf name qual params body scope dV kV doc pm an cdv ct) ⟨pos, []⟩ binds)
    (hkind : ∀ n, ∀ x ∈ binds, scope.names.lookup x.1 = some .local ∨ (scope.names.lookup x.1 = some .cell ∧ ((cellsFrom n scope.names []).lookup x.1).isSome = true))
    (hnd : ((cellsFrom 0 scope.names []).map (·.1)).Nodup)
    (h : ∀ g L' h₁ tk cells, Fr g L' h₁ (bindL (envX qual scope L' f cdv (cellsFrom (L' + 1) scope.names [])).kindOf binds fun _ => none) → News g L' h₁ (cells ++ touched) →
      CellsAre (bindC (envX qual scope L' f cdv (cellsFrom (L' + 1) scope.names [])).kindOf binds fun _ => none) (cellsFrom (L' + 1) scope.names []) cells → (∀ q ∈ cells, s.heap.get? q.1 = none) → K.In g → Top p loose mean mg mb g → (∀ q ∈ touched, q.1 < L') →
      (∀ b o, s.heap.get? b = some o → b ∉ touched.map Prod.fst → g.get? b = some o) →
      wpAny (model prog w) (A.deeper (envX qual scope L' f cdv (cellsFrom (L' + 1) scope.names []))) (execs body (envX qual scope L' f cdv (cellsFrom (L' + 1) scope.names [])))
        (fun fl s' => Q (match fl with | .ret v => v | _ => .none) s') (fun _ _ => False)
        { s with heap := h₁, toks := tk })
    (hco : scope.isCoroutine = false := by rfl) (hgen : scope.isGenerator = false := by rfl) (hkf : scope.kind = .function := by rfl) :
    wpAny (model prog w) A (call (.ref f) pos []) Q E s := by
  subst ep eb es
  have st : h₀.StaysIn (hideAll s.heap (touched.map Prod.fst)) := fun b o e => hideAll_get _ (hk b o e) fun q => by
    obtain ⟨x, hx, rfl⟩ := List.mem_map.mp q
    rw [(ht x hx).2] at e; cases e
  refine wpAny_call ?_
  refine codeAny_call_function (fd := fnOf name qual params₀ body₀ scope₀ dV kV doc pm an cdv ct) hroom (hk _ _ (X _ _ ho)) rfl hco hgen rfl (codeRec_of (X.keeps hk) hcd) (hbind _ _ _ _ ?_)
  refine wpAny_newFunctionEnv_cells hkf (hkind _) fun env' he s' x => ?_
  subst he
  refine ⟨(T.nolimit.keeps hk).keeps x.toInCall.keep, codeAny_func ?_⟩
  obtain ⟨h₁, tk, rfl, _⟩ := x.done
  have hk₁ := x.toInCall.keep
  obtain ⟨cells, NC, Y⟩ := Cl.news (h₀ := s.heap) (Nat.le_refl _) fun n c hm => ⟨x.cell n c (lookup_of_mem_nodup (cellsFrom_names scope₀.names 0 (s.heap.objs.size + 1) [] [] rfl ▸ hnd) hm), x.above n c hm⟩
  refine wpAny_mono (h (hideAll s.heap (touched.map Prod.fst)) s.heap.objs.size h₁ tk cells ⟨x.toInCall.ns, fun b o e => hk₁ b o (of_hideAll _ e), Nat.le_of_eq (hideAll_size _ _)⟩
    (fun q hq => ?_) Y (fun q hq => (NC q hq).2.2) (X.keeps st) (T.keeps st) (fun q hq => Heap.lt_size (ht q hq).1) (fun b o e n => hideAll_get _ e n)) (fun fl s' hq => hq) fun _ _ x => x.elim
  rcases List.mem_append.mp hq with hp | hp
  · refine ⟨(NC q hp).1, (NC q hp).2.1, ?_⟩
    cases z : (hideAll s.heap (touched.map (·.1))).get? q.1 with
    | none => rfl
    | some o => have := of_hideAll _ z; rw [(NC q hp).2.2] at this; cases this
  · exact ⟨hk₁ _ _ (ht q hp).1, Nat.ne_of_lt (Heap.lt_size (ht q hp).1), hideAll_none _ (List.mem_map_of_mem hp)⟩
end
section
variable {prog : Program} {w : World} {A : Around} {E : Value → Shared → Prop} {env : Env}
/-- y = [.. for x in l ..], the frame's base and ledger kept -/
theorem compA {s : Shared} {elt iter : Expr} {x y : Str} {px py : Pos} {ifs : List Expr} {scope : Scope} {cl : List (Str × Addr)} {pos spos : Pos} {Q : Flow → Shared → Prop} {g : Heap} (p : Value → Bool) (F : Value → Value → Prop)
    (hsw : swapsWith (.ListComp elt [⟨.Name x px, iter, ifs, 0⟩] scope pos) (some (.Name y py)) spos.line env = pure true)
    (hh : A.handled = none) (hclos : closureFor scope env = pure cl) (hcell : ∀ z ∈ scope.names, z.2 ≠ .cell) (hkind : scope.kind = .function)
    (hnames : ∀ z ∈ scope.names, z.2 = .local → scope.names.lookup z.1 = some .local) (hx : scope.names.lookup x = some .local)
    (hy : env.kindOf y = some .local) (hp : (env.scope.kind == .class || (env.scope.kind == .module && env.locals != env.globals)) = false)
    (h : wpAny (model prog w) A (eval iter env) (fun xv s₁ => ∃ m news, Fr g env.locals s₁.heap m ∧ News g env.locals s₁.heap news ∧ CompTo prog w A env scope cl x ifs elt p F
      (fun v s₂ => ∀ D, v = .ref D → ∀ h' tk, Fr g env.locals h' (fun z => if z = y then v else m z) → (∀ ys n, s₂.heap.get? D = some (W.listOf ys n) → News g env.locals h' ((D, W.listOf ys n) :: news)) → Q .next { s₂ with heap := h', toks := tk }) xv s₁) E s)
    (hs : ∀ x, foldedSetIterable iter env x = pure x := by intro _; rfl) :
    wpAny (model prog w) A (exec (.Assign [.Name y py] (.ListComp elt [⟨.Name x px, iter, ifs, 0⟩] scope pos) spos) env) Q E s := by
  rw [exec_Assign_Name_used _ _ _ _ hsw]
  refine wpAny_bind (wpAny_standAt (wpAny_bind ?_))
  show wpAny _ A (do let _ ← comprehension (.ListComp elt [⟨.Name x px, iter, ifs, 0⟩] scope pos) scope env _ (newList []) false (eval iter env) (some (assign (.Name y py) env))) _ _ s
  refine wpAny_bind (wpAny_mono (wpAny_comprehension_free (use := some (assign (.Name y py) env)) (Q := fun _ s' => Q .next s') rfl hs hclos hkind hnames
    (wpAny_mono h (fun xv s₁ h₁ => ?_) fun _ _ e => e)) (fun _ s' hq => wpAny_pure (wpAny_pure hq)) fun _ _ e => e)
  obtain ⟨m, news, F₁, N₁, ax, items, rfl, hl, hsz, htest, helt, hQ⟩ := h₁
  refine wpAny_pyIter_list hl ?_
  have hax : ax < s₁.heap.objs.size := by obtain ⟨o, ho, _⟩ := id hl; exact Heap.lt_size ho
  have hol : ∀ b o, s₁.heap.get? b = some o → (s₁.heap.push { cls := .type "list_iterator", data := .fields #[.ref ax, .int 0 0] }).get? b = some o := fun b o e => Heap.get?_push_of_some _ e
  have hsz1 : (s₁.heap.push { cls := .type "list_iterator", data := .fields #[.ref ax, .int 0 0] }).objs.size = s₁.heap.objs.size + 1 := Heap.size_push ..
  have hlt : ∀ {C : Addr}, (s₁.heap.push { cls := .type "list_iterator", data := .fields #[.ref ax, .int 0 0] }).objs.size ≤ C → @LT.lt Nat _ s₁.heap.objs.size C := fun h => by rw [hsz1] at h; exact h
  refine compBlock (RR := fun acc C => compPost (model prog w) A E (some (assign (.Name y py) env)) (fun _ s' => Q .next s') acc C) p F hh hcell hkind hx hsz (ax := ax) (items := items) ⟨_, Heap.get?_push_size _ rfl, rfl, rfl⟩ (let ⟨o, ho, r⟩ := hl; ⟨o, hol _ _ ho, r⟩) (Nat.ne_of_lt hax)
    (fun C v s₃ m₃ E' hv hC hn hm hk => htest C v s₃ m₃ E' hv (hlt hC) hn hm fun b o e => hk b o (Nat.ne_of_lt (Heap.lt_size e)) (hol b o e))
    (fun C v s₃ m₃ E' hv hp hC hn hm hk => helt C v s₃ m₃ E' hv hp (hlt hC) hn hm fun b o e => hk b o (Nat.ne_of_lt (Heap.lt_size e)) (hol b o e)) ?_
  intro D C h' tk m' ys hD hC hDC hnC hpl hF hk
  have hk' : ∀ b o, s₁.heap.get? b = some o → h'.get? b = some o := fun b o e => hk b o (Nat.ne_of_lt (Heap.lt_size e)) (hol b o e)
  have hD' : s₁.heap.get? D = none := by
    cases q : s₁.heap.get? D with
    | none => rfl
    | some o => rw [hol D o q] at hD; cases hD
  have hC' : s₁.heap.get? C = none := by
    cases q : s₁.heap.get? C with
    | none => rfl
    | some o => rw [hol C o q] at hC; cases hC
  have F₂ := F₁.keeps hk'
  have hLC : env.locals ≠ C := by rintro rfl; obtain ⟨o, _, _, ho, _⟩ := F₁.ns; rw [hC'] at ho; cases ho
  have hLD : env.locals ≠ D := by rintro rfl; obtain ⟨o, _, _, ho, _⟩ := F₁.ns; rw [hD'] at ho; cases ho
  have gn : ∀ b, s₁.heap.get? b = none → g.get? b = none := fun b hb => by
    cases q : g.get? b with
    | none => rfl
    | some o => rw [F₁.keep _ _ q] at hb; cases hb
  show wpAny _ A (assign (.Name y py) env (.ref D)) _ _ _
  refine wpAny_assign_Name (wpAny_storeName_local hy F₂.ns (fun h₂ hn₂ hs₂ => ?_) hp)
  replace hs₂ : Heap.SameBut env.locals h' h₂ := hs₂
  refine ⟨m', hnC.sameBut hs₂ (Ne.symm hLC), fun h₃ hs₃ => ?_⟩
  replace hs₃ : Heap.SameBut C h₂ h₃ := hs₃
  have F₃ := F₂.set hn₂ hs₂
  have F₄ := F₃.change hs₃ (Ne.symm hLC) (gn C hC')
  refine hQ D h' tk ys hD' hpl hF hk' D rfl h₃ _ F₄ fun ys' n' hget => ?_
  have N₂ : News g env.locals h' ((D, W.listOf ys' n') :: news) := news_cons hget (Ne.symm hLD) (gn D hD') fun q hq => ⟨hk' _ _ (N₁ q hq).1, (N₁ q hq).2⟩
  have N₃ := N₂.set hs₂
  intro q hq
  refine ⟨hs₃.extBut _ _ ?_ (N₃ q hq).1, (N₃ q hq).2⟩
  rcases List.mem_cons.mp hq with rfl | hq
  · exact hDC
  · rintro z
    have := (N₁ q hq).1
    rw [z, hC'] at this; cases this
end
end Mine
end
section
open PySem PySem.W PyProof.Rows PySem.Calls
set_option Elab.async false
set_option maxRecDepth 100000
set_option maxHeartbeats 1000000
namespace Mine
section
variable {prog : Program} {w : World} {A : Around} {E : Value → Shared → Prop} {env : Env}
theorem Paired.mono' {α β : Type} {F G : α → β → Prop} (h : ∀ a b, F a b → G a b) : ∀ {l : List α} {r : List β}, Paired F l r → Paired G l r
  | _, _, .nil => .nil
  | _, _, .cons x r => .cons (h _ _ x) (Paired.mono' h r)
/-- the block of a list comprehension, its source any walk, what it makes known with its objects above C -/
theorem compBlockW {elt iter : Expr} {x : Str} {px : Pos} {ifs : List Expr} {scope : Scope} {cl : List (Str × Addr)} {pos : Pos} {s₂ : Shared} {I : Addr} {fp wr : List Addr} {n : Nat} {P : Nat → Value → Prop} {St : Nat → Heap → Prop}
    (W : Walks prog w A I fp wr n P St) (p : Nat → Bool) (F : Addr → Heap → Nat → Value → Prop) (KP : Addr → Heap → Heap → Prop) {RR : Value → Addr → Result → Shared → Prop}
    (mono : ∀ C h h' i y, (∀ b o, @LT.lt Nat _ C b → h.get? b = some o → h'.get? b = some o) → F C h i y → F C h' i y) (monoK : ∀ C h h' i y, KP C h h' → F C h i y → F C h' i y)
    (hcell : ∀ y ∈ scope.names, y.2 ≠ .cell) (hkind : scope.kind = .function) (hx : scope.names.lookup x = some .local) (hsz : n ≤ sizeLine)
    (hst : St 0 s₂.heap) (hfp : ∀ b ∈ fp, @LT.lt Nat _ b s₂.heap.objs.size)
    (htest : ∀ C i v s₃ m₃ E', i < n → P i v → @LT.lt Nat _ s₂.heap.objs.size C → s₃.heap.Ns C m₃ → m₃ x = some v → (∀ b o, b ∉ wr → s₂.heap.get? b = some o → s₃.heap.get? b = some o) →
      wpAny (model prog w) A (forIn ifs true fun c r => if r = true then do let ok ← isTrue c (compEnvC scope cl C env) (eval c (compEnvC scope cl C env)); pure (ForInStep.yield ok) else pure (ForInStep.yield r))
        (fun ok s₄ => ok = p i ∧ KeepsTo C s₃ s₄ ∧ KP C s₃.heap s₄.heap) E' s₃)
    (helt : ∀ C i v s₃ m₃ E', i < n → P i v → p i = true → @LT.lt Nat _ s₂.heap.objs.size C → s₃.heap.Ns C m₃ → m₃ x = some v → (∀ b o, b ∉ wr → s₂.heap.get? b = some o → s₃.heap.get? b = some o) →
      wpAny (model prog w) A (eval elt (compEnvC scope cl C env)) (fun y s₄ => F C s₄.heap i y ∧ KeepsTo C s₃ s₄ ∧ KP C s₃.heap s₄.heap) E' s₃)
    (hRR : ∀ D C h' tk m' ys, s₂.heap.objs.size ≤ D → s₂.heap.get? D = none → s₂.heap.get? C = none → @LT.lt Nat _ D C → @LT.lt Nat _ s₂.heap.objs.size C → h'.Ns C m' → h'.PlainList D ys → Paired (F C h') ((List.range n).filter p) ys.toList →
      (∀ b o, b ∉ wr → s₂.heap.get? b = some o → h'.get? b = some o) → RR (.ref D) C (.ok .next) { s₂ with heap := h', toks := tk }) :
    wpAny (model prog w) A (newList []) (fun acc s₃ => wpAny (model prog w) A (newFunctionEnv scope env.globals cl [] env.qual none .none (some env)) (fun cenv s₄ =>
      codeAny (model prog w) A (.compStart (.ListComp elt [⟨.Name x px, iter, ifs, 0⟩] scope pos) 0 (.ref I) acc { cenv with scope := relabel scope env }) (RR acc cenv.locals) s₄) E s₃) E s₂ := by
  refine wpAny_newObj_type (wpAny_newFunctionEnv hcell (by intro y hy; simp at hy) (fun h₁ hns₁ hsb₁ => ?_) hkind)
  dsimp only at hns₁ hsb₁ ⊢
  generalize hH2 : s₂.heap.push { cls := .type "list", dict := none, data := .seq ([] : List Value).toArray } = H2 at hns₁ hsb₁ ⊢
  have hC : H2.objs.size = s₂.heap.objs.size + 1 := by rw [← hH2, Heap.size_push]
  have fresh : ∀ a, s₂.heap.objs.size ≤ a → s₂.heap.get? a = none := fun a ha => by
    cases e : s₂.heap.get? a with
    | none => rfl
    | some o' => exact absurd (Heap.lt_size e) (Nat.not_lt.mpr ha)
  have hDnone : s₂.heap.get? s₂.heap.objs.size = none := fresh _ (Nat.le_refl _)
  have hCnone : s₂.heap.get? H2.objs.size = none := fresh _ (by rw [hC]; exact Nat.le_succ _)
  have old : ∀ b o, s₂.heap.get? b = some o → h₁.get? b = some o := fun b o e => hsb₁.extBut b o (by rw [hC]; exact Nat.ne_of_lt (Nat.lt_succ_of_lt (Heap.lt_size e))) (Heap.get?_push_of_some _ (hH2 ▸ Heap.get?_push_of_some _ e))
  have hDltC : @LT.lt Nat _ s₂.heap.objs.size H2.objs.size := by rw [hC]; exact Nat.lt_succ_self _
  have hDC : s₂.heap.objs.size ≠ H2.objs.size := Nat.ne_of_lt hDltC
  have hacc : h₁.PlainList s₂.heap.objs.size #[] := ⟨_, hsb₁.extBut _ _ hDC (Heap.get?_push_of_some _ (hH2 ▸ Heap.get?_push_size _ rfl))⟩
  have hst₁ : St 0 h₁ := W.frame _ _ _ hst fun b hb o e => old b o e
  have hlC : ∀ b, @LT.lt Nat _ b s₂.heap.objs.size → @LT.lt Nat _ b H2.objs.size := fun b hb => Nat.lt_trans hb hDltC
  have hwC : H2.objs.size ∉ wr := fun q => absurd (hlC _ (hfp _ (W.sub _ q))) (Nat.lt_irrefl _)
  have hwD : s₂.heap.objs.size ∉ wr := fun q => absurd (hfp _ (W.sub _ q)) (Nat.lt_irrefl _)
  have loop : ∀ s₃ : Shared, s₃ = { s₂ with heap := h₁, toks := s₂.toks + ([] : List (Str × Value)).length } →
      codeAny (model prog w) A (.compLoop (.ListComp elt [⟨.Name x px, iter, ifs, 0⟩] scope pos) 0 (.ref I) (.ref s₂.heap.objs.size) (compEnvC scope cl H2.objs.size env)) (RR (.ref s₂.heap.objs.size) H2.objs.size) s₃ := by
    rintro s₃ rfl
    generalize hDe : s₂.heap.objs.size = D at *
    generalize hCe : H2.objs.size = C at *
    refine codeAny_compLoop_tests
      (fun k s' => ∃ h' tk m' ys i, s' = { s₂ with heap := h', toks := tk } ∧ St i h' ∧ h'.PlainList D ys ∧ h'.Ns C m' ∧
        Paired (F C h') ((List.range i).filter p) ys.toList ∧ i ≤ n ∧ k = n + 1 - i ∧ ∀ b o, b ∉ wr → s₂.heap.get? b = some o → h'.get? b = some o) ?_ (n + 1)
      ⟨h₁, _, _, #[], 0, rfl, hst₁, hacc, hns₁, by simpa using Paired.nil, Nat.zero_le _, rfl, fun b o _ e => old b o e⟩
    rintro k s' ⟨H, tk, m', ys, i, rfl, hst', hacc', hn', hF, hi, rfl, hk⟩
    by_cases hlt : i < n
    · refine W.item i _ _ _ hlt hst' fun v h₂ tk₂ hPv hst₂ hk₂ => ?_
      refine wpAny_assign_Name (wpAny_storeName_local (lookup_relabel_local hx) (hn'.at' fun o e => hk₂ _ o hwC e) (fun h₃ hn₃ hs₃ => ?_) (by simp [compEnvC, relabel, hkind]))
      replace hs₃ : Heap.SameBut C h₂ h₃ := hs₃
      replace hn₃ : h₃.Ns C _ := hn₃
      have ne3 : ∀ b o, s₂.heap.get? b = some o → b ≠ C := fun b o e => by have := Heap.lt_size e; rw [hDe] at this; exact Nat.ne_of_lt (Nat.lt_trans this hDltC)
      have up₃ : ∀ b o, b ∉ wr → s₂.heap.get? b = some o → h₃.get? b = some o := fun b o hb e => hs₃.extBut b o (ne3 b o e) (hk₂ b o hb (hk b o hb e))
      have hst₃ : St (i + 1) h₃ := W.frame _ _ _ hst₂ fun b hb o e => hs₃.extBut b o (Nat.ne_of_lt (hlC _ (hfp _ hb))) e
      have hacc₃ : h₃.PlainList D ys := let ⟨n, en⟩ := hacc'; ⟨n, hs₃.extBut _ _ hDC (hk₂ _ _ hwD en)⟩
      have hF₃ : Paired (F C h₃) ((List.range i).filter p) ys.toList := Paired.mono' (fun a b q => mono _ _ _ _ _ (fun b o hb e => hs₃.extBut b o (Nat.ne_of_gt hb) (hk₂ b o (fun q => absurd (Nat.lt_trans hb (hlC _ (hfp _ (W.sub _ q)))) (Nat.lt_irrefl _)) e)) q) hF
      refine wpAny_mono (htest C i v _ _ _ hlt hPv hDltC hn₃ (by simp) up₃) (fun ok s₃ h₃' => ?_) fun _ _ e => e
      obtain ⟨rfl, ⟨h₄, tk₄, rfl, hns₄, hk₄⟩, hKP₄⟩ := h₃'
      have hn₄ := hns₄ _ hn₃
      have ltC : ∀ b o, s₂.heap.get? b = some o → @LT.lt Nat _ b C := fun b o e => by have := Heap.lt_size e; rw [hDe] at this; exact Nat.lt_trans this hDltC
      have up₄ : ∀ b o, b ∉ wr → s₂.heap.get? b = some o → h₄.get? b = some o := fun b o hb e => hk₄ b o (ltC b o e) (up₃ b o hb e)
      have hst₄ : St (i + 1) h₄ := W.frame _ _ _ hst₃ fun b hb o e => hk₄ b o (hlC _ (hfp _ hb)) e
      have hacc₄ : h₄.PlainList D ys := let ⟨n, en⟩ := hacc₃; ⟨n, hk₄ _ _ hDltC en⟩
      have hF₄ : Paired (F C h₄) ((List.range i).filter p) ys.toList := Paired.mono' (fun a b q => monoK _ _ _ _ _ hKP₄ q) hF₃
      cases hpv : p i with
      | false =>
        simp only [Bool.false_eq_true, if_false]
        refine ⟨n + 1 - (i + 1), by omega, h₄, tk₄, _, ys, i + 1, rfl, hst₄, hacc₄, hn₄, ?_, hlt, rfl, up₄⟩
        rw [List.range_succ, List.filter_append]; simpa [hpv] using hF₄
      | true =>
        simp only [if_true]
        refine wpAny_mono (helt C i v _ _ _ hlt hPv hpv hDltC hn₄ (by simp) up₄) (fun y s₄ h₄' => ?_) fun _ _ e => e
        obtain ⟨hFy, ⟨h₅, tk₅, rfl, hns₅, hk₅⟩, hKP₅⟩ := h₄'
        have hF₅ : Paired (F C h₅) ((List.range i).filter p) ys.toList := Paired.mono' (fun a b q => monoK _ _ _ _ _ hKP₅ q) hF₄
        have hys : ys.size ≤ sizeLine := by
          have e1 := hF.length
          have e2 : ((List.range i).filter p).length ≤ (List.range i).length := List.length_filter_le _ _
          have e3 : (List.range i).length = i := by simp
          have e4 : ys.toList.length = ys.size := by simp
          omega
        obtain ⟨n', en⟩ := hacc₄
        refine append_at (its := ys) (n := n') (hsz := hys) (hk₅ _ _ hDltC en) fun h₆ hs₆ ho₆ => ?_
        replace hs₆ : Heap.SameBut D h₅ h₆ := hs₆
        have up6 : ∀ b o, @LT.lt Nat _ C b → h₅.get? b = some o → h₆.get? b = some o := fun b o hb e => hs₆.extBut b o (Nat.ne_of_gt (Nat.lt_trans hDltC hb)) e
        refine ⟨n + 1 - (i + 1), by omega, h₆, tk₅, _, ys.push y, i + 1, rfl, ?_, ⟨_, ho₆⟩, (hns₅ _ hn₄).sameBut hs₆ (Ne.symm hDC), ?_, hlt, rfl, fun b o hb e => hs₆.extBut b o ?_ (hk₅ b o ?_ (up₄ b o hb e))⟩
        · exact W.frame _ _ _ hst₄ fun b hb o e => hs₆.extBut b o (Nat.ne_of_lt (hfp _ hb)) (hk₅ b o (hlC _ (hfp _ hb)) e)
        · rw [List.range_succ, List.filter_append]
          have hl : List.filter p [i] = [i] := by simp [hpv]
          rw [hl]
          simpa using Paired.snoc (Paired.mono' (fun a b q => mono _ _ _ _ _ up6 q) hF₅) (mono _ _ _ _ _ up6 hFy)
        · have := Heap.lt_size e; rw [hDe] at this; exact Nat.ne_of_lt this
        · exact ltC b o e
    · have hin : i = n := Nat.le_antisymm hi (Nat.not_lt.mp hlt)
      subst hin
      refine W.done _ _ _ hst' fun h₂ tk₂ hk₂ => ?_
      obtain ⟨n', en⟩ := hacc'
      refine hRR D C h₂ tk₂ m' ys (Nat.le_refl _) hDnone hCnone hDltC hDltC (hn'.at' fun o e => hk₂ _ o hwC e) ⟨n', hk₂ _ _ hwD en⟩ (Paired.mono' (fun a b q => mono _ _ _ _ _ (fun b o hb e => hk₂ b o (fun q => absurd (Nat.lt_trans hb (hlC _ (hfp _ (W.sub _ q)))) (Nat.lt_irrefl _)) e) q) hF) fun b o hb e => hk₂ b o hb (hk b o hb e)
  exact codeAny_compStart_list (loop _ rfl) (W.self 0 _ _ _ hst₁ (loop _ rfl))
/-- what is asked behind the source of a list comprehension, its iterator known -/
def CompToW (prog : Program) (w : World) (A : Around) (env : Env) (scope : Scope) (cl : List (Str × Addr)) (x : Str) (ifs : List Expr) (elt : Expr) (p : Nat → Bool) (F : Addr → Heap → Nat → Value → Prop) (KP : Addr → Heap → Heap → Prop)
    (Q : Addr → Addr → Nat → Array Value → List (Addr × Obj) → Heap → (Str → Option Value) → Shared → Heap → Nat → Prop) (it : Value) (s₂ : Shared) : Prop :=
  ∃ I fp wr n P St g m news, it = .ref I ∧ Walks prog w A I fp wr n P St ∧ n ≤ sizeLine ∧ St 0 s₂.heap ∧ (∀ b ∈ fp, @LT.lt Nat _ b s₂.heap.objs.size) ∧ Fr g env.locals s₂.heap m ∧ News g env.locals s₂.heap news ∧
    (∀ b ∈ wr, b ≠ env.locals ∧ g.get? b = none ∧ ∀ q ∈ news, q.1 ≠ b) ∧
    (∀ C i v s₃ m₃ E', i < n → P i v → @LT.lt Nat _ s₂.heap.objs.size C → s₃.heap.Ns C m₃ → m₃ x = some v → (∀ b o, b ∉ wr → s₂.heap.get? b = some o → s₃.heap.get? b = some o) →
      wpAny (model prog w) A (forIn ifs true fun c r => if r = true then do let ok ← isTrue c (compEnvC scope cl C env) (eval c (compEnvC scope cl C env)); pure (ForInStep.yield ok) else pure (ForInStep.yield r))
        (fun ok s₄ => ok = p i ∧ KeepsTo C s₃ s₄ ∧ KP C s₃.heap s₄.heap) E' s₃) ∧
    (∀ C i v s₃ m₃ E', i < n → P i v → p i = true → @LT.lt Nat _ s₂.heap.objs.size C → s₃.heap.Ns C m₃ → m₃ x = some v → (∀ b o, b ∉ wr → s₂.heap.get? b = some o → s₃.heap.get? b = some o) →
      wpAny (model prog w) A (eval elt (compEnvC scope cl C env)) (fun y s₄ => F C s₄.heap i y ∧ KeepsTo C s₃ s₄ ∧ KP C s₃.heap s₄.heap) E' s₃) ∧
    (∀ D C ys h' tk, g.get? D = none → @LT.lt Nat _ env.locals D → @LT.lt Nat _ D C → Q D C n ys news g m s₂ h' tk)
theorem compAW {s : Shared} {elt iter : Expr} {x y : Str} {px py : Pos} {ifs : List Expr} {scope : Scope} {cl : List (Str × Addr)} {pos spos : Pos} {Q : Flow → Shared → Prop} (p : Nat → Bool) (F : Addr → Heap → Nat → Value → Prop) (KP : Addr → Heap → Heap → Prop)
    (mono : ∀ C h h' i y, (∀ b o, @LT.lt Nat _ C b → h.get? b = some o → h'.get? b = some o) → F C h i y → F C h' i y) (monoK : ∀ C h h' i y, KP C h h' → F C h i y → F C h' i y)
    (hsw : swapsWith (.ListComp elt [⟨.Name x px, iter, ifs, 0⟩] scope pos) (some (.Name y py)) spos.line env = pure true)
    (hclos : closureFor scope env = pure cl) (hcell : ∀ z ∈ scope.names, z.2 ≠ .cell) (hkind : scope.kind = .function)
    (hnames : ∀ z ∈ scope.names, z.2 = .local → scope.names.lookup z.1 = some .local) (hx : scope.names.lookup x = some .local)
    (hy : env.kindOf y = some .local) (hp : (env.scope.kind == .class || (env.scope.kind == .module && env.locals != env.globals)) = false)
    (h : wpAny (model prog w) A (eval iter env) (fun xv s₁ => wpAny (model prog w) A (pyIter xv) (CompToW prog w A env scope cl x ifs elt p F KP
      (fun D C n ys news g m s₂ h' tk => Fr g env.locals h' (fun z => if z = y then some (.ref D) else m z) → ∀ k, News g env.locals h' ((D, W.listOf ys k) :: news) → Paired (F C h') ((List.range n).filter p) ys.toList → Q .next { s₂ with heap := h', toks := tk })) E s₁) E s)
    (hs : ∀ x, foldedSetIterable iter env x = pure x := by intro _; rfl) :
    wpAny (model prog w) A (exec (.Assign [.Name y py] (.ListComp elt [⟨.Name x px, iter, ifs, 0⟩] scope pos) spos) env) Q E s := by
  rw [exec_Assign_Name_used _ _ _ _ hsw]
  refine wpAny_bind (wpAny_standAt (wpAny_bind ?_))
  show wpAny _ A (do let _ ← comprehension (.ListComp elt [⟨.Name x px, iter, ifs, 0⟩] scope pos) scope env _ (newList []) false (eval iter env) (some (assign (.Name y py) env))) _ _ s
  refine wpAny_bind (wpAny_mono (wpAny_comprehension_free (use := some (assign (.Name y py) env)) (Q := fun _ s' => Q .next s') rfl hs hclos hkind hnames
    (wpAny_mono h (fun xv s₁ h₁ => ?_) fun _ _ e => e)) (fun _ s' hq => wpAny_pure (wpAny_pure hq)) fun _ _ e => e)
  refine wpAny_mono h₁ (fun it s₂ h₂ => ?_) fun _ _ e => e
  obtain ⟨I, fp, wr, n, P, St, g, m, news, rfl, Wk, hsz, hst, hfp, F₁, N₁, hwr, htest, helt, hQ⟩ := h₂
  refine compBlockW Wk (RR := fun acc C => compPost (model prog w) A E (some (assign (.Name y py) env)) (fun _ s' => Q .next s') acc C) p F KP mono monoK hcell hkind hx hsz hst hfp htest helt ?_
  intro D C h' tk m' ys hDge hD hC hDC hsC hnC hpl hF hk
  have hLlt : @LT.lt Nat _ env.locals s₂.heap.objs.size := F₁.ns.lt
  have hLw : env.locals ∉ wr := fun q => (hwr _ q).1 rfl
  have F₂ : Fr g env.locals h' m := ⟨F₁.ns.at' fun o e => hk _ o hLw e, fun b o e => hk b o (fun q => by rw [(hwr b q).2.1] at e; cases e) (F₁.keep b o e), F₁.above⟩
  have hDlt : @LT.lt Nat _ env.locals D := Nat.lt_of_lt_of_le hLlt hDge
  have hLC : env.locals ≠ C := Nat.ne_of_lt (Nat.lt_trans hDlt hDC)
  have hLD : env.locals ≠ D := Nat.ne_of_lt hDlt
  have gn : ∀ b, s₂.heap.get? b = none → g.get? b = none := fun b hb => by
    cases q : g.get? b with
    | none => rfl
    | some o => rw [F₁.keep _ _ q] at hb; cases hb
  show wpAny _ A (assign (.Name y py) env (.ref D)) _ _ _
  refine wpAny_assign_Name (wpAny_storeName_local hy F₂.ns (fun h₂ hn₂ hs₂ => ?_) hp)
  replace hs₂ : Heap.SameBut env.locals h' h₂ := hs₂
  refine ⟨m', hnC.sameBut hs₂ (Ne.symm hLC), fun h₃ hs₃ => ?_⟩
  replace hs₃ : Heap.SameBut C h₂ h₃ := hs₃
  have F₃ := F₂.set hn₂ hs₂
  have F₄ := F₃.change hs₃ (Ne.symm hLC) (gn C hC)
  obtain ⟨k, ek⟩ := hpl
  refine hQ D C ys h₃ _ (gn D hD) hDlt hDC F₄ k ?_ ?_
  · have N₂ : News g env.locals h' ((D, W.listOf ys k) :: news) := news_cons ek (Ne.symm hLD) (gn D hD) fun q hq => ⟨hk _ _ (fun z => (hwr _ z).2.2 q hq rfl) (N₁ q hq).1, (N₁ q hq).2⟩
    have N₃ := N₂.set hs₂
    intro q hq
    refine ⟨hs₃.extBut _ _ ?_ (N₃ q hq).1, (N₃ q hq).2⟩
    rcases List.mem_cons.mp hq with rfl | hq
    · exact Nat.ne_of_lt hDC
    · rintro z
      have := (N₁ q hq).1
      rw [z, hC] at this; cases this
  · exact Paired.mono' (fun a b q => mono _ _ _ _ _ (fun b o hb e => hs₃.extBut b o (Nat.ne_of_gt hb) (hs₂.extBut b o (Nat.ne_of_gt (Nat.lt_trans hDlt (Nat.lt_trans hDC hb))) e)) q) hF
/-- the block of [.. for x, x₂ in a walk of pairs] -/
theorem compBlockZ {elt iter : Expr} {x x₂ : Str} {px px₂ tp : Pos} {tkk : Nat} {scope : Scope} {cl : List (Str × Addr)} {pos : Pos} {s₂ : Shared} {I : Addr} {fp wr : List Addr} {n : Nat} {Pt : Nat → Array Value → Prop} {St : Nat → Heap → Prop} {Mid : Nat → Addr → Heap → Prop}
    (W : WalksT prog w A I fp wr n Pt St Mid) (hPt : ∀ i vals, Pt i vals → vals.size = 2) (F : Nat → Value → Prop) {RR : Value → Addr → Result → Shared → Prop} (hh : A.handled = none)
    (hcell : ∀ y ∈ scope.names, y.2 ≠ .cell) (hkind : scope.kind = .function) (hx : scope.names.lookup x = some .local) (hx₂ : scope.names.lookup x₂ = some .local) (hxx : x ≠ x₂) (hsz : n ≤ sizeLine)
    (hst : St 0 s₂.heap) (hfp : ∀ b ∈ fp, @LT.lt Nat _ b s₂.heap.objs.size)
    (helt : ∀ C i v₁ v₂ s₃ m₃ E', i < n → Pt i #[v₁, v₂] → @LT.lt Nat _ s₂.heap.objs.size C → s₃.heap.Ns C m₃ → m₃ x = some v₁ → m₃ x₂ = some v₂ → (∀ b o, b ∉ wr → s₂.heap.get? b = some o → s₃.heap.get? b = some o) →
      wpAny (model prog w) A (eval elt (compEnvC scope cl C env)) (fun y s₄ => F i y ∧ KeepsTo C s₃ s₄) E' s₃)
    (hRR : ∀ D C h' tk m' ys, s₂.heap.objs.size ≤ D → s₂.heap.get? D = none → s₂.heap.get? C = none → @LT.lt Nat _ D C → @LT.lt Nat _ s₂.heap.objs.size C → h'.Ns C m' → h'.PlainList D ys → Paired F (List.range n) ys.toList →
      (∀ b o, b ∉ wr → s₂.heap.get? b = some o → h'.get? b = some o) → RR (.ref D) C (.ok .next) { s₂ with heap := h', toks := tk }) :
    wpAny (model prog w) A (newList []) (fun acc s₃ => wpAny (model prog w) A (newFunctionEnv scope env.globals cl [] env.qual none .none (some env)) (fun cenv s₄ =>
      codeAny (model prog w) A (.compStart (.ListComp elt [⟨.Tuple [.Name x px, .Name x₂ px₂] tkk tp, iter, [], 0⟩] scope pos) 0 (.ref I) acc { cenv with scope := relabel scope env }) (RR acc cenv.locals) s₄) E s₃) E s₂ := by
  refine wpAny_newObj_type (wpAny_newFunctionEnv hcell (by intro y hy; simp at hy) (fun h₁ hns₁ hsb₁ => ?_) hkind)
  dsimp only at hns₁ hsb₁ ⊢
  generalize hH2 : s₂.heap.push { cls := .type "list", dict := none, data := .seq ([] : List Value).toArray } = H2 at hns₁ hsb₁ ⊢
  have hC : H2.objs.size = s₂.heap.objs.size + 1 := by rw [← hH2, Heap.size_push]
  have fresh : ∀ a, s₂.heap.objs.size ≤ a → s₂.heap.get? a = none := fun a ha => by
    cases e : s₂.heap.get? a with
    | none => rfl
    | some o' => exact absurd (Heap.lt_size e) (Nat.not_lt.mpr ha)
  have hDnone : s₂.heap.get? s₂.heap.objs.size = none := fresh _ (Nat.le_refl _)
  have hCnone : s₂.heap.get? H2.objs.size = none := fresh _ (by rw [hC]; exact Nat.le_succ _)
  have old : ∀ b o, s₂.heap.get? b = some o → h₁.get? b = some o := fun b o e => hsb₁.extBut b o (by rw [hC]; exact Nat.ne_of_lt (Nat.lt_succ_of_lt (Heap.lt_size e))) (Heap.get?_push_of_some _ (hH2 ▸ Heap.get?_push_of_some _ e))
  have hDltC : @LT.lt Nat _ s₂.heap.objs.size H2.objs.size := by rw [hC]; exact Nat.lt_succ_self _
  have hDC : s₂.heap.objs.size ≠ H2.objs.size := Nat.ne_of_lt hDltC
  have hacc : h₁.PlainList s₂.heap.objs.size #[] := ⟨_, hsb₁.extBut _ _ hDC (Heap.get?_push_of_some _ (hH2 ▸ Heap.get?_push_size _ rfl))⟩
  have hst₁ : St 0 h₁ := W.frame _ _ _ hst fun b hb o e => old b o e
  have hlC : ∀ b, @LT.lt Nat _ b s₂.heap.objs.size → @LT.lt Nat _ b H2.objs.size := fun b hb => Nat.lt_trans hb hDltC
  have hwC : H2.objs.size ∉ wr := fun q => absurd (hlC _ (hfp _ (W.sub _ q))) (Nat.lt_irrefl _)
  have hwD : s₂.heap.objs.size ∉ wr := fun q => absurd (hfp _ (W.sub _ q)) (Nat.lt_irrefl _)
  have loop : ∀ s₃ : Shared, s₃ = { s₂ with heap := h₁, toks := s₂.toks + ([] : List (Str × Value)).length } →
      codeAny (model prog w) A (.compLoop (.ListComp elt [⟨.Tuple [.Name x px, .Name x₂ px₂] tkk tp, iter, [], 0⟩] scope pos) 0 (.ref I) (.ref s₂.heap.objs.size) (compEnvC scope cl H2.objs.size env)) (RR (.ref s₂.heap.objs.size) H2.objs.size) s₃ := by
    rintro s₃ rfl
    generalize hDe : s₂.heap.objs.size = D at *
    generalize hCe : H2.objs.size = C at *
    refine PyProof.Rows.LCp.codeAny_compLoop_pair
      (fun k s' => ∃ h' tk m' ys i, s' = { s₂ with heap := h', toks := tk } ∧ St i h' ∧ h'.PlainList D ys ∧ h'.Ns C m' ∧
        Paired F (List.range i) ys.toList ∧ i ≤ n ∧ k = n + 1 - i ∧ ∀ b o, b ∉ wr → s₂.heap.get? b = some o → h'.get? b = some o) ?_ (n + 1)
      ⟨h₁, _, _, #[], 0, rfl, hst₁, hacc, hns₁, by simpa using Paired.nil, Nat.zero_le _, rfl, fun b o _ e => old b o e⟩
    rintro k s' ⟨H, tk, m', ys, i, rfl, hst', hacc', hn', hF, hi, rfl, hk⟩
    by_cases hlt : i < n
    · refine W.item i _ _ _ hlt hst' fun T vals h₂ tk₂ hPv hTge hT hMid hk₂ => ?_
      refine W.go _ _ _ i T _ _ _ hMid fun h₂' hst₂ hk₂' => ?_
      have hT' : h₂'.IsTuple T vals := hT.at fun o e => hk₂' T o (W.apart i T _ hMid) e
      obtain ⟨v₁, v₂, rfl⟩ : ∃ v₁ v₂, vals = #[v₁, v₂] := by
        have := hPt i vals hPv
        obtain ⟨l⟩ := vals
        match l, this with
        | [a, b], _ => exact ⟨a, b, rfl⟩
      refine assign_Tuple_tuple hh hT' rfl rfl fun h₅ he => ?_
      have he' : ∀ b o, h₂'.get? b = some o → h₅.get? b = some o := fun b o e => he b o (Nat.ne_of_lt (Heap.lt_size e)) e
      have hk₅ : ∀ b o, b ∉ wr → H.get? b = some o → h₅.get? b = some o := fun b o hb e => he' b o (hk₂' b o hb (hk₂ b o hb e))
      refine assignInOrder_cons (wpAny_assign_Name (wpAny_storeName_local (lookup_relabel_local hx) (hn'.at' fun o e => hk₅ _ o hwC e) (fun h₆ hn₆ hs₆ => ?_) (by simp [compEnvC, relabel, hkind])))
      refine assignInOrder_cons (wpAny_assign_Name (wpAny_storeName_local (lookup_relabel_local hx₂) hn₆ (fun h₃ hn₃ hs₃ => ?_) (by simp [compEnvC, relabel, hkind])))
      refine assignInOrder_nil ?_
      replace hs₆ : Heap.SameBut C h₅ h₆ := hs₆
      replace hs₃ : Heap.SameBut C h₆ h₃ := hs₃
      replace hn₃ : h₃.Ns C _ := hn₃
      have h53 : ∀ b o, b ≠ C → h₅.get? b = some o → h₃.get? b = some o := fun b o hb e => hs₃.extBut b o hb (hs₆.extBut b o hb e)
      have ltC : ∀ b o, s₂.heap.get? b = some o → @LT.lt Nat _ b C := fun b o e => by have := Heap.lt_size e; rw [hDe] at this; exact Nat.lt_trans this hDltC
      have up₃ : ∀ b o, b ∉ wr → s₂.heap.get? b = some o → h₃.get? b = some o := fun b o hb e => h53 b o (Nat.ne_of_lt (ltC b o e)) (hk₅ b o hb (hk b o hb e))
      have hst₃ : St (i + 1) h₃ := W.frame _ _ _ hst₂ fun b hb o e => h53 b o (Nat.ne_of_lt (hlC _ (hfp _ hb))) (he' b o e)
      have hacc₃ : h₃.PlainList D ys := let ⟨n, en⟩ := hacc'; ⟨n, h53 _ _ hDC (hk₅ _ _ hwD en)⟩
      refine wpAny_mono (helt C i v₁ v₂ _ _ _ hlt hPv hDltC hn₃ (by simp [hxx]) (by simp) up₃) (fun y s₄ h₄' => ?_) fun _ _ e => e
      obtain ⟨hFy, h₅, tk₅, rfl, hns₅, hk₅⟩ := h₄'
      have hys : ys.size ≤ sizeLine := by
        have e1 := hF.length
        have e3 : (List.range i).length = i := by simp
        have e4 : ys.toList.length = ys.size := by simp
        omega
      obtain ⟨n', en⟩ := hacc₃
      refine append_at (its := ys) (n := n') (hsz := hys) (hk₅ _ _ hDltC en) fun h₆ hs₆ ho₆ => ?_
      replace hs₆ : Heap.SameBut D h₅ h₆ := hs₆
      refine ⟨n + 1 - (i + 1), by omega, h₆, tk₅, _, ys.push y, i + 1, rfl, ?_, ⟨_, ho₆⟩, (hns₅ _ hn₃).sameBut hs₆ (Ne.symm hDC), ?_, hlt, rfl, fun b o hb e => hs₆.extBut b o ?_ (hk₅ b o ?_ (up₃ b o hb e))⟩
      · exact W.frame _ _ _ hst₃ fun b hb o e => hs₆.extBut b o (Nat.ne_of_lt (hfp _ hb)) (hk₅ b o (hlC _ (hfp _ hb)) e)
      · rw [List.range_succ]
        simpa using Paired.snoc hF hFy
      · have := Heap.lt_size e; rw [hDe] at this; exact Nat.ne_of_lt this
      · exact ltC b o e
    · have hin : i = n := Nat.le_antisymm hi (Nat.not_lt.mp hlt)
      subst hin
      refine W.done _ _ _ hst' fun h₂ tk₂ hk₂ => ?_
      obtain ⟨n', en⟩ := hacc'
      exact hRR D C h₂ tk₂ m' ys (Nat.le_refl _) hDnone hCnone hDltC hDltC (hn'.at' fun o e => hk₂ _ o hwC e) ⟨n', hk₂ _ _ hwD en⟩ hF fun b o hb e => hk₂ b o hb (hk b o hb e)
  exact codeAny_compStart_list (loop _ rfl) (W.self 0 _ _ _ hst₁ (loop _ rfl))
theorem compZ {s : Shared} {elt iter : Expr} {x x₂ : Str} {px px₂ tp : Pos} {tkk : Nat} {scope : Scope} {cl : List (Str × Addr)} {pos : Pos} {Q : Value → Shared → Prop} (F : Nat → Value → Prop) (hh : A.handled = none)
    (hclos : closureFor scope env = pure cl) (hcell : ∀ z ∈ scope.names, z.2 ≠ .cell) (hkind : scope.kind = .function)
    (hnames : ∀ z ∈ scope.names, z.2 = .local → scope.names.lookup z.1 = some .local) (hx : scope.names.lookup x = some .local) (hx₂ : scope.names.lookup x₂ = some .local) (hxx : x ≠ x₂)
    (h : wpAny (model prog w) A (eval iter env) (fun xv s₂ => ∃ I fp wr n Pt St Mid g m news, xv = .ref I ∧ WalksT prog w A I fp wr n Pt St Mid ∧ (∀ i vals, Pt i vals → vals.size = 2) ∧ n ≤ sizeLine ∧ St 0 s₂.heap ∧ (∀ b ∈ fp, @LT.lt Nat _ b s₂.heap.objs.size) ∧
      Fr g env.locals s₂.heap m ∧ News g env.locals s₂.heap news ∧ (∀ b ∈ wr, b ≠ env.locals ∧ g.get? b = none ∧ ∀ q ∈ news, q.1 ≠ b) ∧
      (∀ C i v₁ v₂ s₃ m₃ E', i < n → Pt i #[v₁, v₂] → @LT.lt Nat _ s₂.heap.objs.size C → s₃.heap.Ns C m₃ → m₃ x = some v₁ → m₃ x₂ = some v₂ → (∀ b o, b ∉ wr → s₂.heap.get? b = some o → s₃.heap.get? b = some o) →
        wpAny (model prog w) A (eval elt (compEnvC scope cl C env)) (fun y s₄ => F i y ∧ KeepsTo C s₃ s₄) E' s₃) ∧
      (∀ D ys k h' tk, s₂.heap.get? D = none → Fr g env.locals h' m → News g env.locals h' ((D, PySem.W.listOf ys k) :: news) → Paired F (List.range n) ys.toList → Q (.ref D) { s₂ with heap := h', toks := tk })) E s)
    (hs : ∀ x, foldedSetIterable iter env x = pure x := by intro _; rfl) :
    wpAny (model prog w) A (eval (.ListComp elt [⟨.Tuple [.Name x px, .Name x₂ px₂] tkk tp, iter, [], 0⟩] scope pos) env) Q E s := by
  rw [eval_ListComp]
  refine wpAny_comprehension_free (use := none) rfl hs hclos hkind hnames (wpAny_mono h (fun xv s₂ hc => ?_) fun _ _ e => e)
  obtain ⟨I, fp, wr, n, Pt, St, Mid, g, m, news, rfl, Wk, hPt, hsz, hst, hfp, F₁, N₁, hwr, helt, hQ⟩ := hc
  refine Wk.self 0 _ _ _ hst ?_
  refine compBlockZ Wk hPt (RR := fun acc C => compPost (model prog w) A E none Q acc C) F hh hcell hkind hx hx₂ hxx hsz hst hfp helt ?_
  intro D C h' tk m' ys hDge hD hC hDC hsC hnC hpl hF hk
  have hLlt : @LT.lt Nat _ env.locals s₂.heap.objs.size := F₁.ns.lt
  have hLw : env.locals ∉ wr := fun q => (hwr _ q).1 rfl
  have F₂ : Fr g env.locals h' m := ⟨F₁.ns.at' fun o e => hk _ o hLw e, fun b o e => hk b o (fun q => by rw [(hwr b q).2.1] at e; cases e) (F₁.keep b o e), F₁.above⟩
  have hLD : env.locals ≠ D := Nat.ne_of_lt (Nat.lt_of_lt_of_le hLlt hDge)
  have hLC : env.locals ≠ C := Nat.ne_of_lt (Nat.lt_trans hLlt hsC)
  have gn : ∀ b, s₂.heap.get? b = none → g.get? b = none := fun b hb => by
    cases q : g.get? b with
    | none => rfl
    | some o => rw [F₁.keep _ _ q] at hb; cases hb
  obtain ⟨k, ek⟩ := hpl
  refine ⟨m', hnC, fun h'' hs'' => ?_⟩
  replace hs'' : Heap.SameBut C h' h'' := hs''
  refine hQ D ys k h'' tk hD (F₂.change hs'' (Ne.symm hLC) (gn C hC)) ?_ hF
  have N₂ : News g env.locals h' ((D, PySem.W.listOf ys k) :: news) := news_cons ek (Ne.symm hLD) (gn D hD) fun q hq => ⟨hk _ _ (fun z => (hwr _ z).2.2 q hq rfl) (N₁ q hq).1, (N₁ q hq).2⟩
  intro q hq
  refine ⟨hs''.extBut _ _ ?_ (N₂ q hq).1, (N₂ q hq).2⟩
  rcases List.mem_cons.mp hq with rfl | hq
  · exact Nat.ne_of_lt hDC
  · rintro z
    have := (N₁ q hq).1
    rw [z, hC] at this; cases this
end
end Mine
end
section
open PySem PySem.W PyProof.Rows PySem.Calls
set_option Elab.async false
set_option maxRecDepth 100000
set_option maxHeartbeats 400000
namespace Mine
theorem fillup12 : PySem.Challenge.rw_oy0181_01 = PySem.Challenge.rw_oy0181_01 ∧ KK = KK := by k_fill; exact ⟨rfl, rfl⟩
theorem pk_iter (S : Setting) (P : Params) : peek (KK P) S (typeLookup (.ref 142) "__iter__") = some (some (.builtin "tuple.__iter__")) := by kernel_rfl
theorem pk_len (S : Setting) (P : Params) : peek (KK P) S (typeLookup (.ref 142) "__len__") = some (some (.builtin "tuple.__len__")) := by kernel_rfl
section
variable {prog : Program} {w : World} {A : Around} {E : Value → Shared → Prop} {s : Shared} {a dx : Addr} {x y z : Value}
theorem inst142 {Q : Bool → Shared → Prop} (X : (KK w.params).In s.heap) (ho : s.heap.get? a = some (mmObj x y z dx)) (h : Q true s) : wpAny (model prog w) A (isInstance (.ref a) (.type "tuple")) Q E s := by
  simp only [isInstance]
  refine wpAny_bind (wpAny_typeOf_ref ho ?_)
  exact (Looks.of_peek (M := model prog w) X (pk_sub _ _)).here h
theorem spec142 {name : Str} {r : Option Value} {Q : Option Value → Shared → Prop} (ho : s.heap.get? a = some (mmObj x y z dx)) (L : Looks (model prog w) s.heap (typeLookup (.ref 142) name) r) (h : Q r s) : wpAny (model prog w) A (specialOf (.ref a) name) Q E s := by
  simp only [specialOf]
  exact wpAny_bind (wpAny_typeOf_ref ho (L.here h))
theorem chk142 {id n : String} {rest : List Value} {Q : Unit → Shared → Prop} (X : (KK w.params).In s.heap) (ho : s.heap.get? a = some (mmObj x y z dx)) (hsplit : splitId id = some ("tuple", n))
    (hkind : (Manifest.find? "tuple").bind (·.attrs.lookup n) = some .slot ∨ (Manifest.find? "tuple").bind (·.attrs.lookup n) = some .method) (ha : argsOk id ⟨.ref a :: rest, []⟩) (hQ : Q () s) :
    wpAny (model prog w) A (checkBuiltinCall id ⟨.ref a :: rest, []⟩) Q E s := by
  have hk : builtinKind id = (Manifest.find? "tuple").bind (·.attrs.lookup n) := by simp only [builtinKind, hsplit]
  rcases hkind with h | h <;>
  · simp only [checkBuiltinCall, hk, h, hsplit]
    refine wpAny_bind (inst142 X ho ?_)
    simp only [Bool.not_true, Bool.false_eq_true, if_false]
    cases hsig : Manifest.signature? id with
    | none => exact wpAny_pure hQ
    | some sig =>
      simp only [argsOk, hsig] at ha
      have h2 : Bind.checkArgs id sig ⟨.ref a :: rest, []⟩ = pure () := ha
      show wpAny _ A (Bind.checkArgs id sig ⟨.ref a :: rest, []⟩) Q E s
      rw [h2]; exact wpAny_pure hQ
theorem split_iter : splitId "tuple.__iter__" = some ("tuple", "__iter__") := by decide +kernel
theorem split_len : splitId "tuple.__len__" = some ("tuple", "__len__") := by decide +kernel
theorem kind_iter : (Manifest.find? "tuple").bind (·.attrs.lookup "__iter__") = some .slot ∨ (Manifest.find? "tuple").bind (·.attrs.lookup "__iter__") = some .method := by first | exact .inl (by decide +kernel) | exact .inr (by decide +kernel)
theorem kind_len' : (Manifest.find? "tuple").bind (·.attrs.lookup "__len__") = some .slot ∨ (Manifest.find? "tuple").bind (·.attrs.lookup "__len__") = some .method := by first | exact .inl (by decide +kernel) | exact .inr (by decide +kernel)
theorem callIf142 {name : Str} {id : String} {refuse : Sem Value} {Q : Option Value → Shared → Prop} (ho : s.heap.get? a = some (mmObj x y z dx)) (L : Looks (model prog w) s.heap (typeLookup (.ref 142) name) (some (.builtin id))) (h : Slot "tuple" name id)
    (hc : wpAny (model prog w) A (PySem.call (.builtin id) [.ref a]) (fun v => Q (some v)) E s) : wpAny (model prog w) A (callSpecialIfBoundUnlessNone? (.ref a) name refuse) Q E s := by
  simp only [callSpecialIfBoundUnlessNone?, bindSpecialIfBound?]
  refine wpAny_holding (wpAny_bind (wpAny_bind (spec142 ho L ?_)))
  simp only [h.bind]
  refine wpAny_bind (wpAny_askSetting (wpAny_ite ?_))
  have fin : wpAny (model prog w) A (if (Value.builtin id == Value.none) = true then (refuse >>= fun v => pure (some v)) else (PySem.call (.builtin id) [.ref a] >>= fun v => pure (some v))) Q E s := by
    rw [if_neg (by rw [show (Value.builtin id == Value.none) = false from rfl]; decide)]
    exact wpAny_bind (wpAny_mono hc (fun v s' h' => wpAny_pure h') fun _ _ h' => h')
  split
  · exact wpAny_bind (wpAny_pure (wpAny_pure fin))
  · exact wpAny_tryCatch (wpAny_bind (wpAny_pure (wpAny_pure fin)))
theorem callSp142 {name : Str} {id : String} {Q : Option Value → Shared → Prop} (ho : s.heap.get? a = some (mmObj x y z dx)) (L : Looks (model prog w) s.heap (typeLookup (.ref 142) name) (some (.builtin id))) (h : Slot "tuple" name id)
    (hc : wpAny (model prog w) A (PySem.call (.builtin id) [.ref a]) (fun v => Q (some v)) E s) : wpAny (model prog w) A (callSpecial? (.ref a) name) Q E s := by
  simp only [callSpecial?]
  refine wpAny_bind (spec142 ho L ?_)
  simp only [h.bind]
  exact wpAny_holding (wpAny_bind (wpAny_pure (wpAny_bind (wpAny_mono hc (fun v s' h' => wpAny_pure h') fun _ _ h' => h'))))
theorem iter142 {Q : Value → Shared → Prop} (X : (KK w.params).In s.heap) (ho : s.heap.get? a = some (mmObj x y z dx))
    (h : Q (.ref s.heap.objs.size) { s with heap := s.heap.push { cls := .type "tuple_iterator", data := .fields #[.ref a, .int 0 0] } }) : wpAny (model prog w) A (pyIter (.ref a)) Q E s := by
  have L : Looks (model prog w) s.heap (typeLookup (.ref 142) "__iter__") (some (.builtin "tuple.__iter__")) := Looks.of_peek X (pk_iter _ _)
  unfold pyIter
  refine wpAny_bind (spec142 ho L ?_)
  show wpAny _ A (callSpecialIfBoundUnlessNone? (.ref a) "__iter__" _ >>= _) Q E s
  refine wpAny_bind (callIf142 ho L F.slot_tuple_iter ?_)
  refine wpAny_call (codeAny_call_builtin F.slot_tuple_iter.plain F.entry_tuple_iter (chk142 X ho split_iter kind_iter (F.args_tuple_iter_1 _) ?_))
  show wpAny _ _ (do ret (← newFields "tuple_iterator" [.ref a, rawInt 0])) _ _ s
  refine wpAny_bind (wpAny_newObj_type (wpAny_pure ?_))
  exact wpAny_bind (wpAny_specialOf (T := "tuple_iterator") ⟨_, Heap.get?_push_size _ rfl, rfl⟩ F.slot_tuple_iterator_next.lookup (wpAny_pure h))
theorem len142 {Q : Value → Shared → Prop} (X : (KK w.params).In s.heap) (ho : s.heap.get? a = some (mmObj x y z dx))
    (h : Q (.int 3 (s.toks + 1)) { s with toks := s.toks + 1 + 1 }) : wpAny (model prog w) A (PySem.call (.builtin "len") [.ref a]) Q E s := by
  have L : Looks (model prog w) s.heap (typeLookup (.ref 142) "__len__") (some (.builtin "tuple.__len__")) := Looks.of_peek X (pk_len _ _)
  refine Calls.call_function_entry kind_len plain_len entry_len (args_len1 _) ?_
  unfold Builtin.«len»
  refine wpAny_bind (m := oneArg "len" _) (wpAny_pure ?_)
  refine wpAny_bind (m := callSpecial? (.ref a) (Str.ofString "__len__")) (callSp142 ho L F.slot_tuple_len ?_)
  refine wpAny_call (codeAny_call_builtin F.slot_tuple_len.plain F.entry_tuple_len (chk142 X ho split_len kind_len' (F.args_tuple_len_1 _) ?_))
  unfold Builtin.«tuple.__len__»
  refine wpAny_bind (wpAny_of_eq (by rfl) ?_)
  refine wpAny_bind ?_
  unfold Builtin.Tuple.tupleItemsOf
  refine wpAny_bind (wpAny_seqItems ho rfl (wpAny_pure ?_))
  refine wpAny_bind (wpAny_mkInt (wpAny_pure ?_))
  show wpAny _ _ _ _ _ { s with toks := s.toks + 1 }
  refine wpAny_bind (wpAny_holding (wpAny_pure ?_))
  refine wpAny_bind (wpAny_letGo ?_)
  exact wpAny_bind (wpAny_mkInt (wpAny_pure ⟨_, rfl, h⟩))
theorem hint142 {Q : Bool → Shared → Prop} (X : (KK w.params).In s.heap) (ho : s.heap.get? a = some (mmObj x y z dx)) (h : Q true { s with toks := s.toks + 1 + 1 }) : wpAny (model prog w) A (Builtin.List.listLengthHint (.ref a)) Q E s := by
  have L : Looks (model prog w) s.heap (typeLookup (.ref 142) "__len__") (some (.builtin "tuple.__len__")) := Looks.of_peek X (pk_len _ _)
  unfold Builtin.List.listLengthHint
  refine wpAny_bind (spec142 ho L ?_)
  generalize hid : ("tuple.__len__" : String) = id0
  wp_delta
  rw [show splitId id0 = some ("tuple", "__len__") from by subst hid; decide +kernel]
  subst hid
  refine wpAny_bind (inst142 X ho ?_)
  refine wpAny_ite_split (fun hab => absurd hab (by decide)) (fun _ => ?_)
  refine wpAny_ite_split (fun _ => ?_) (fun hab => absurd hab (by decide +kernel))
  refine wpAny_bind (wpAny_typeOf_ref ho ?_)
  refine wpAny_bind (len142 X ho ?_)
  refine wpAny_bind (m := asInt? _) (wpAny_pure ?_)
  exact wpAny_pure h
theorem next142 {it t : Addr} {i n : Nat} {o' : Obj} {items : Array Value} {u : Value} {Q : Option Value → Shared → Prop} (hit : s.heap.IsTupleIter it t i) (ht : s.heap.get? t = some o') (hd' : o'.data = .seq items n) (hx : items[i]? = some u)
    (hQ : ∀ h', h'.IsTupleIter it t (i + 1) → Heap.SameBut it s.heap h' → Q (some u) { s with heap := h' }) : wpAny (model prog w) A (pyNext (.ref it)) Q E s := by
  obtain ⟨o, ho, hc, hd⟩ := id hit
  unfold pyNext
  refine wpAny_bind (wpAny_attempt (wpAny_callSpecial?_slot (name := Str.ofString "__next__") hit.typeIs F.slot_tuple_iterator_next
    (wpAny_call_entry F.slot_tuple_iterator_next hit.typeIs F.entry_tuple_iterator_next ?_ (F.args_tuple_iterator_next_1 _))))
  show wpAny _ _ (field (.ref it) 0 >>= _) _ _ s
  refine wpAny_bind (wpAny_field ho hd (x := .ref t) rfl ?_)
  show wpAny _ _ (if (Value.ref t == Value.none) = true then _ else _) _ _ s
  rw [if_neg (show ¬ ((Value.ref t == Value.none) = true) from Bool.false_ne_true)]
  show wpAny _ _ (field (.ref it) 1 >>= _) _ _ s
  refine wpAny_bind (wpAny_field ho hd (x := .int i 0) rfl ?_)
  show wpAny _ _ (seqItems? (.ref t) >>= _) _ _ s
  refine wpAny_bind (wpAny_seqItems ht hd' ?_)
  simp only [Int.toNat_natCast, hx]
  refine wpAny_bind (wpAny_setField ho hd (by simp) (wpAny_pure ⟨u, rfl, wpAny_pure (hQ _ ?_ (Heap.SameBut.update ..))⟩))
  exact ⟨_, Heap.get?_update_self _ ho (Obj.isFreed_of_fields (Obj.data_mapFields hd _)), (Obj.cls_mapFields ..).trans hc, by
    rw [Obj.data_mapFields hd]; simp [rawInt]⟩
theorem end142 {it t : Addr} {i n : Nat} {o' : Obj} {items : Array Value} {Q : Option Value → Shared → Prop} (hh : A.handled = none) (hit : s.heap.IsTupleIter it t i) (ht : s.heap.get? t = some o') (hd' : o'.data = .seq items n) (hx : items[i]? = none)
    (hQ : ∀ h', Heap.ExtBut it s.heap h' → Q none { s with heap := h' }) : wpAny (model prog w) A (pyNext (.ref it)) Q E s := by
  obtain ⟨o, ho, hc, hd⟩ := id hit
  unfold pyNext
  refine wpAny_bind (wpAny_attempt (wpAny_callSpecial?_slot (name := Str.ofString "__next__") hit.typeIs F.slot_tuple_iterator_next
    (wpAny_call_entry F.slot_tuple_iterator_next hit.typeIs F.entry_tuple_iterator_next ?_ (F.args_tuple_iterator_next_1 _))))
  show wpAny _ _ (field (.ref it) 0 >>= _) _ _ s
  refine wpAny_bind (wpAny_field ho hd (x := .ref t) rfl ?_)
  show wpAny _ _ (if (Value.ref t == Value.none) = true then _ else _) _ _ s
  rw [if_neg (show ¬ ((Value.ref t == Value.none) = true) from Bool.false_ne_true)]
  show wpAny _ _ (field (.ref it) 1 >>= _) _ _ s
  refine wpAny_bind (wpAny_field ho hd (x := .int i 0) rfl ?_)
  show wpAny _ _ (seqItems? (.ref t) >>= _) _ _ s
  refine wpAny_bind (wpAny_seqItems ht hd' ?_)
  simp only [Int.toNat_natCast, hx]
  refine wpAny_bind (wpAny_rule (wpAny_bind (wpAny_setField ho hd (by simp) ?_)))
  show wpAny _ _ (newExc (.type "StopIteration") [] >>= _) _ _ _
  refine wpAny_bind ?_
  simp only [newExc, newTuple]
  refine wpAny_bind (wpAny_newObj_type ?_ (by size_fits))
  refine wpAny_bind (m := firstArgMember _ _) (wpAny_of_eq (a := Value.none) (by first | rfl | (simp only [firstArgMember]; rfl)) ?_)
  refine wpAny_newObj_type ?_ (by size_fits)
  simp only [raiseNew]
  refine wpAny_bind (wpAny_handled ?_)
  first | rw [show A.in1.handled = none from hh] | rw [hh]
  refine wpAny_bind (wpAny_pure (wpAny_throw ?_))
  refine wpAny_bind (wpAny_isInstance (T := "StopIteration") (b := true) ⟨_, Heap.get?_push_size _ rfl, rfl⟩ isSubtype_stop ?_)
  exact wpAny_pure (hQ _ (((Heap.SameBut.update ..).extBut.push _).push _))
theorem walks142 {prog : Program} {w : World} {A : Around} (hh : A.handled = none) (I ax : Addr) (hne : ax ≠ I) {o' : Obj} {items : Array Value} {n : Nat} (hd' : o'.data = .seq items n) :
    Walks prog w A I [I, ax] [I] items.size (fun i v => items[i]? = some v) (fun i h => h.IsTupleIter I ax i ∧ h.get? ax = some o') where
  sub := fun b hb => by simp at hb; simp [hb]
  frame := fun _ _ _ st hk => ⟨st.1.at fun o e => hk I (by simp) o e, hk ax (by simp) _ st.2⟩
  item := fun i s Q E hi st hQ => by
    refine next142 st.1 st.2 hd' (u := items[i]) (by simp [hi]) fun h' hit' hs' => ?_
    exact hQ _ h' s.toks (by simp [hi]) ⟨hit', hs'.extBut _ _ hne st.2⟩ fun b o hb e => hs'.extBut b o (fun h => hb (by simp [h])) e
  done := fun s Q E st hQ => end142 hh st.1 st.2 hd' (by simp) fun h' he' => hQ h' s.toks fun b o hb e => he' b o (fun h => hb (by simp [h])) e
  self := fun _ _ _ _ st hQ => wpAny_pyIter_tupleiter st.1 hQ
theorem itemsOf_eq {items acc : Array Value} (h : ItemsOf (fun i v => items[i]? = some v) acc items.size) : acc = items := by
  refine Array.ext_getElem? fun i => ?_
  cases e : acc[i]? with
  | some v => exact (h.2 i v e).symm
  | none =>
    have h1 : acc.size ≤ i := by simpa using e
    rw [h.1] at h1
    simp [h1]
theorem collect142 {Q : List Value → Shared → Prop} (hh : A.handled = none) (X : (KK w.params).In s.heap) (ho : s.heap.get? a = some (mmObj x y z dx))
    (hQ : ∀ h' tk, (∀ b o', s.heap.get? b = some o' → h'.get? b = some o') → Q [x, y, z] { s with heap := h', toks := tk }) : wpAny (model prog w) A (collect (.ref a)) Q E s := by
  have hSa : s.heap.objs.size ≠ a := Nat.ne_of_gt (Heap.lt_size ho)
  unfold collect
  refine wpAny_bind (wpAny_runValue (codeAny_builtin F.entry_proto_collect ?_))
  rw [Around.under_plainId F.plain_proto_collect _]
  show wpAny _ A.in1 (newList [] >>= fun l => again (.builtin "list.__iadd__" ⟨[l, .ref a], []⟩)) _ _ s
  refine wpAny_bind (wpAny_newObj_type ?_)
  refine wpAny_pure ⟨plainId_quiet F.plain_list_iadd _, codeAny_builtin F.entry_list_iadd ?_⟩
  rw [Around.under_plainId F.plain_list_iadd _]
  have up1 : ∀ b o', s.heap.get? b = some o' → (s.heap.push { cls := .type "list", data := .seq ([] : List Value).toArray }).get? b = some o' := fun b o' e => Heap.get?_push_of_some _ e
  have X1 := X.keeps up1
  have ho1 := up1 _ _ ho
  have hS₁ : (s.heap.push { cls := .type "list", data := .seq ([] : List Value).toArray }).get? s.heap.objs.size = some { cls := .type "list", data := .seq ([] : List Value).toArray } := Heap.get?_push_size _ rfl
  show wpAny _ A.in1 (Builtin.List.listExtendWith (.ref s.heap.objs.size) (.ref a) (.ref s.heap.objs.size)) _ _ _
  generalize hS : s.heap.objs.size = S at *
  generalize hH1 : s.heap.push { cls := .type "list", data := .seq ([] : List Value).toArray } = H1 at *
  unfold Builtin.List.listExtendWith
  refine wpAny_bind (wpAny_typeOf_ref ho1 ?_)
  have h1 : Builtin.List.listSameRef (.ref S) (.ref a) = false := by simp [Builtin.List.listSameRef, hSa]
  rw [if_neg (by rw [h1]; exact (by decide : ¬(false || Value.ref 142 == Value.type "list" || Value.ref 142 == Value.type "tuple") = true))]
  refine wpAny_bind (iter142 (s := { s with heap := H1 }) X1 ho1 ?_)
  have up2 : ∀ b o', H1.get? b = some o' → (H1.push { cls := .type "tuple_iterator", data := .fields #[.ref a, .int 0 0] }).get? b = some o' := fun b o' e => Heap.get?_push_of_some _ e
  refine wpAny_bind (wpAny_holding ?_)
  refine hint142 (s := { s with heap := H1.push _ }) (X1.keeps up2) (up2 _ _ ho1) ?_
  rw [if_pos (by rfl)]
  refine wpAny_bind (wpAny_rule ?_)
  have hS₁' := up2 _ _ hS₁
  have hlt : S < H1.objs.size := Heap.lt_size hS₁
  have hIS : S ≠ H1.objs.size := Nat.ne_of_lt hlt
  have haI : a ≠ H1.objs.size := Nat.ne_of_lt (Heap.lt_size ho1)
  have hI : (H1.push { cls := .type "tuple_iterator", data := .fields #[.ref a, .int 0 0] }).IsTupleIter H1.objs.size a 0 := ⟨_, Heap.get?_push_size _ rfl, rfl, rfl⟩
  generalize hH2 : H1.push { cls := .type "tuple_iterator", data := .fields #[.ref a, .int 0 0] } = H2 at *
  refine wpAny_bind ?_
  show wpAny _ A.in1 (updateSeq S (·.push .none) >>= fun _ => updateSeq S (·.pop)) _ _ _
  refine wpAny_bind (wpAny_updateSeq hS₁' rfl ?_)
  have hS₂ := Heap.get?_update_self (Obj.mapSeq (·.push Value.none)) hS₁' rfl
  refine wpAny_updateSeq hS₂ rfl ?_
  have hS₃ := Heap.get?_update_self (Obj.mapSeq (·.pop)) hS₂ rfl
  have oth : ∀ b o, b ≠ S → H2.get? b = some o → ((H2.update S (Obj.mapSeq (·.push Value.none))).update S (Obj.mapSeq (·.pop))).get? b = some o :=
    fun b o hb e => (Heap.get?_update_other _ _ (Ne.symm hb)).trans ((Heap.get?_update_other _ _ (Ne.symm hb)).trans e)
  have hSf : S ∉ [H1.objs.size, a] := by simp [hIS, hSa]
  have W := walks142 (prog := prog) (w := w) (A := A.in1) hh H1.objs.size a haI (o' := mmObj x y z dx) (items := #[x, y, z]) (n := 0) rfl
  refine wpAny_pure ⟨plainId_quiet F.plain_extend_loop _, codeAny_extend_loopS W.toS (by show (3 : Nat) ≤ _; rw [sizeLine_eq]; decide) S hSf _ _ 0 _ _ _ rfl (Nat.zero_le _)
    ⟨hI.at fun o e => oth _ o (Ne.symm hIS) e, oth _ _ (Ne.symm hSa) (up2 _ _ ho1)⟩ hS₃ (ItemsOf.nil _) fun s' acc' c' hm hS' hacc => ?_⟩
  show wpAny _ A (load S >>= _) _ _ s'
  refine wpAny_bind (wpAny_load hS' (wpAny_pure ?_))
  have hacc2 : acc'.toList = [x, y, z] := by rw [itemsOf_eq hacc]
  rw [hacc2, Moved.eq_with hm]
  refine hQ _ _ fun b o' e => hm.heap b o' (fun hmem => ?_) (oth b o' ?_ (up2 _ _ (up1 _ _ e)))
  · have h1 := Heap.lt_size e
    rw [hS] at h1
    rcases List.mem_cons.mp hmem with e' | hmem
    · exact absurd h1 (by rw [e']; exact Nat.lt_irrefl _)
    · rw [List.mem_singleton.mp hmem] at h1
      exact absurd (Nat.lt_trans h1 hlt) (Nat.lt_irrefl _)
  · have := Heap.lt_size e; rw [hS] at this; exact Nat.ne_of_lt this
theorem meets142 (a dx : Addr) (x y z : Value) :
    MeetsIn prog w (Builtin.«tuple.__new__» ⟨[.type "tuple", .ref a], []⟩) (fun A R s => A.handled = none ∧ (KK w.params).In s.heap ∧ s.heap.get? a = some (mmObj x y z dx) ∧
      ∀ (h' : Heap) (tk : Nat), (∀ b o', s.heap.get? b = some o' → h'.get? b = some o') → R (.ok (.ret (.ref h'.objs.size))) { s with heap := h'.push { cls := .type "tuple", data := .seq #[x, y, z] }, toks := tk }) :=
  .of_wp fun A R s h => by
    obtain ⟨hp, g, d, tk, os⟩ := s; obtain ⟨hh, X, ho, h⟩ := h
    have hsub := sub_tuple_self
    have hinit := init_tuple_lookup
    have hmh := madeHere_tuple
    wp_walk using wpAny_typeOf_ref ho, collect142 (A := A.in1) (s := ⟨hp, g, d, tk, os⟩) hh X ho
    intro h' tk' hk
    show wpAny _ _ (Builtin.Tuple.tupleExact #[x, y, z] >>= fun v => ret v) _ _ _
    unfold Builtin.Tuple.tupleExact
    refine wpAny_bind (wpAny_newObj_type ?_ (by size_fits))
    exact wpAny_pure ⟨_, rfl, h h' tk' hk⟩
theorem tuple142 {Q : Value → Shared → Prop} (hh : A.handled = none) (X : (KK w.params).In s.heap) (ho : s.heap.get? a = some (mmObj x y z dx))
    (h : ∀ (h' : Heap) (tk : Nat), (∀ b o', s.heap.get? b = some o' → h'.get? b = some o') → Q (.ref h'.objs.size) { s with heap := h'.push { cls := .type "tuple", data := .seq #[x, y, z] }, toks := tk }) :
    wpAny (model prog w) A (PySem.call (.type "tuple") [.ref a]) Q E s := by
  exact callType_newIn F.called_tuple (by decide) (F.typeCall_tuple_1 _) (F.newCall_tuple_1 _) (fun obj => F.args_object_init_2 obj _) F.entry_tuple_new
    (meets142 a dx x y z) ⟨hh, X, ho, fun h' tk hk => ⟨⟨_, Heap.get?_push_size _ rfl, rfl⟩, h h' tk hk⟩⟩
end
end Mine
end
section
open PySem PySem.W PyProof.Rows PySem.Calls PyProof.V PyProof.Rows.TI
set_option Elab.async false
set_option maxRecDepth 100000
set_option maxHeartbeats 400000
namespace Mine
theorem fillup11 : PySem.Challenge.rw_oy0181_01 = PySem.Challenge.rw_oy0181_01 ∧ KK = KK := by k_fill; exact ⟨rfl, rfl⟩
variable {prog : Program} {w : World} {p : Program} {loose : List Str} {mean : ExcName → Option Value} {mg mb : Str → Option Value}
structure CellAt (c : Addr) (v : Value) (h : Heap) : Prop where
  has : h.IsCell c (some v)
theorem CellAt.stays {c : Addr} {v : Value} {h h' : Heap} (k : CellAt c v h) (hk : ∀ b o, h.get? b = some o → h'.get? b = some o) : CellAt c v h' := ⟨let ⟨o, a, e⟩ := k.has; ⟨o, hk _ _ a, e⟩⟩
theorem nmCellF {M : Model} {A : Around} {E : Value → Shared → Prop} {s : Shared} {g : Heap} {C c : Addr} {m : Str → Option Value} {scope : Scope} {cl : List (Str × Addr)} {env : Env} {x : Str} {pos : Pos} {v : Value} {Q : Value → Shared → Prop}
    (hc : cl.lookup x = some c) (F : Fr g C s.heap m) (hi : CellAt c v g)
    (hk : (compEnvC scope cl C env).scope.kind = .function) (hx : (compEnvC scope cl C env).kindOf x = some .cell) (hd : (x == ("__debug__" : Str)) = false) (h : Q v s) :
    wpAny M A (eval (.Name x pos) (compEnvC scope cl C env)) Q E s := nmCell hc (hi.stays F.keep).has h hk hx hd
theorem nmOwnF {M : Model} {A : Around} {E : Value → Shared → Prop} {s : Shared} {g : Heap} {C : Addr} {m : Str → Option Value} {scope : Scope} {cl : List (Str × Addr)} {env : Env} {x : Str} {pos : Pos} {v : Value} {Q : Value → Shared → Prop}
    (F : Fr g C s.heap m) (hv : m x = some v)
    (hk : (compEnvC scope cl C env).scope.kind = .function) (hl : (compEnvC scope cl C env).kindOf x = some .local) (hd : (x == ("__debug__" : Str)) = false) (h : Q v s) :
    wpAny M A (eval (.Name x pos) (compEnvC scope cl C env)) Q E s := nmOwn F hv h hk hl hd
theorem paired_strs (f : Int → Str) : ∀ (l : List (Int × Tok)) (ys : List Value), Paired (fun v y => ∀ n t, v = Value.int n t → ∃ t', y = Value.str (f n) t') (IV l) ys → ∃ xs, ys = SV xs ∧ xs.map Prod.fst = (l.map Prod.fst).map f
  | [], _, .nil => ⟨[], rfl, rfl⟩
  | (n, t) :: l, _, .cons h r => by
    obtain ⟨t', rfl⟩ := h n t rfl
    obtain ⟨ms, rfl, e⟩ := paired_strs f l _ r
    exact ⟨(f n, t') :: ms, rfl, by simp [e]⟩
theorem filter_all (l : List Value) : List.filter (fun _ => true) l = l := List.filter_eq_self.mpr (by simp)
theorem mem_IV {v : Value} {ms : List (Int × Tok)} (h : v ∈ (IV ms).toArray) : ∃ m ∈ ms, v = .int m.1 m.2 := by
  simp only [IV, List.mem_toArray, List.mem_map] at h
  obtain ⟨q, hq, rfl⟩ := h
  exact ⟨q, hq, rfl⟩
theorem keepsTo_of {C : Addr} {s : Shared} {h' : Heap} {tk : Nat} (hk : ∀ y o, s.heap.get? y = some o → h'.get? y = some o) : KeepsTo C s { s with heap := h', toks := tk } := ⟨h', tk, rfl, fun _ hn => hn.keeps hk, fun b o _ e => hk b o e⟩
theorem band_range {m r : Int} (hm : 0 ≤ m ∧ m < 65536) (hr : 0 ≤ r) : 0 ≤ Builtin.bitAnd m (Builtin.bitNot r) ∧ Builtin.bitAnd m (Builtin.bitNot r) < 65536 := by
  have h1 : Builtin.bitAnd m (Builtin.bitNot r) = m - ((m.toNat &&& r.toNat : Nat) : Int) := by
    have e1 : Builtin.bitNot r = -r - 1 := rfl
    have e2 : Builtin.bitNot (Builtin.bitNot r) = r := by show -(-r - 1) - 1 = r; omega
    unfold Builtin.bitAnd
    rw [show decide (0 ≤ m) = true from by simp [hm.1], show decide (0 ≤ Builtin.bitNot r) = false from by rw [e1]; simp; omega]
    dsimp only
    rw [e2]
  have h2 : m.toNat &&& r.toNat ≤ m.toNat := Nat.and_le_left
  rw [h1]
  omega
/-- the tuple of a line of counts -/
def tupO (r : Int × Int × (Str × Tok)) (t1 t2 : Tok) : Obj := { cls := .type "tuple", data := .seq #[.int r.1 t1, .int r.2.1 t2, .str r.2.2.1 r.2.2.2] }
def cntF (res : RTy) (C : Addr) (h : Heap) (i : Nat) (y : Value) : Prop := ∃ b r t1 t2, @LT.lt Nat _ C b ∧ y = .ref b ∧ res[i]? = some r ∧ h.get? b = some (tupO r t1 t2)
def upKP (C : Addr) (h h' : Heap) : Prop := ∀ b o, @LT.lt Nat _ C b → h.get? b = some o → h'.get? b = some o
theorem cntF_mono {res : RTy} (C : Addr) (h h' : Heap) (i : Nat) (y : Value) (k : ∀ b o, @LT.lt Nat _ C b → h.get? b = some o → h'.get? b = some o) (q : cntF res C h i y) : cntF res C h' i y := by
  obtain ⟨b, r, t1, t2, hb, e, hr, hg⟩ := q
  exact ⟨b, r, t1, t2, hb, e, hr, k _ _ hb hg⟩
theorem Paired.get {α β : Type} {F : α → β → Prop} : ∀ {l : List α} {r : List β} {i : Nat} {a : α}, Paired F l r → l[i]? = some a → ∃ b, r[i]? = some b ∧ F a b
  | _, _, 0, _, .cons x _, e => by simp at e; subst e; exact ⟨_, rfl, x⟩
  | _, _, i + 1, _, .cons _ h, e => by
    obtain ⟨b, hb, hF⟩ := Paired.get h (i := i) (by simpa using e)
    exact ⟨b, by simpa using hb, hF⟩
  | _, _, _, _, .nil, e => by simp at e
theorem range'_out {α β : Type} {H : α → β → Prop} {res : List β} : ∀ (n k : Nat) (l : List α), res.length = k + n → Paired (fun a i => ∃ r, res[i]? = some r ∧ H a r) l (List.range' k n) → Paired H l (res.drop k)
  | 0, k, _, e, .nil => by rw [List.drop_eq_nil_of_le (by omega)]; exact .nil
  | n + 1, k, a :: l, e, .cons x h => by
    obtain ⟨r, hr, hH⟩ := x
    have hk : k < res.length := by omega
    rw [List.drop_eq_getElem_cons hk]
    rw [List.getElem?_eq_getElem hk] at hr
    cases hr
    exact .cons hH (range'_out n (k + 1) l (by omega) h)
theorem cntF_out {res : RTy} {C : Addr} {h : Heap} : ∀ {ix : List Nat} {ys : List Value}, Paired (cntF res C h) ix ys → ∃ tps : List (Addr × Obj), ys = tps.map (fun q => Value.ref q.1) ∧ (∀ q ∈ tps, @LT.lt Nat _ C q.1 ∧ h.get? q.1 = some q.2) ∧
    Paired (fun (q : Addr × Obj) i => ∃ r, res[i]? = some r ∧ ∃ t1 t2, q.2 = tupO r t1 t2) tps ix
  | _, _, .nil => ⟨[], rfl, (fun _ h => nomatch h), .nil⟩
  | _, _, .cons x r => by
    obtain ⟨b, r1, t1, t2, hb, rfl, hr, hg⟩ := x
    obtain ⟨tps, rfl, hq, hp⟩ := cntF_out r
    refine ⟨(b, tupO r1 t1 t2) :: tps, rfl, ?_, .cons ⟨r1, hr, t1, t2, rfl⟩ hp⟩
    intro q hq'
    rcases List.mem_cons.mp hq' with rfl | hq'
    · exact ⟨hb, hg⟩
    · exact hq q hq'
def LevPair (x y : Str) : Prop := ∃ u v c, x = mkS (u ++ c :: v) ∧ y = mkS (u ++ 45 :: v) ∧ (c = 114 ∨ c = 119) ∧ u.length + v.length ≤ 15
theorem sv_strs : ∀ (l : List (Str × Tok)), StrsAre (SV l) (l.map Prod.fst)
  | [] => .nil
  | p :: l => .cons p.1 p.2 (sv_strs l)
theorem strs_sv : ∀ {vs : List Value} {ss : List Str}, StrsAre vs ss → ∃ l, vs = SV l ∧ l.map Prod.fst = ss
  | _, _, .nil => ⟨[], rfl, rfl⟩
  | _, _, .cons x t h => by
    obtain ⟨l, rfl, e⟩ := strs_sv h
    exact ⟨(x, t) :: l, rfl, by simp [e]⟩
theorem uldF_len : ∀ (l ys zs : List (Str × Tok)), (uldF l ys zs).1.length ≤ l.length + zs.length ∧ (uldF l ys zs).2.length ≤ ys.length ∧ (uldF l ys zs).1.length + ys.length = (uldF l ys zs).2.length + (l.length + zs.length)
  | [], ys, zs => by simp [uldF]; omega
  | x :: l, ys, zs => by
    unfold uldF
    split
    · rename_i h
      have h1 := uldF_len l (ys.eraseP fun p => p.1 == x.1) zs
      obtain ⟨a, ha, hp⟩ := List.any_eq_true.mp h
      have h2 : (ys.eraseP fun p => p.1 == x.1).length = ys.length - 1 := List.length_eraseP_of_mem ha hp
      have h3 : 0 < ys.length := List.length_pos_of_mem ha
      simp only [List.length_cons]
      omega
    · have h1 := uldF_len l ys (zs ++ [x])
      simp only [List.length_cons, List.length_append, List.length_nil] at h1 ⊢
      omega
theorem sortA {A : Around} {s : Shared} {E Q : Value → Shared → Prop} {g : Heap} {L lz : Addr} {m : Str → Option Value} {news : List (Addr × Obj)} {l : List (Str × Tok)} (F : Fr g L s.heap m) (N : News g L s.heap news) (hl : s.heap.IsList lz (SV l).toArray) (h64 : l.length < 64)
    (h : ∀ h' D l' e, Fr g L h' m → News g L h' ((D, LS l' e) :: news) → (∀ q ∈ news, q.1 < D) → (l'.map Prod.fst).Perm (l.map Prod.fst) → sortedS (l'.map Prod.fst) = true → Q (.ref D) { s with heap := h' }) :
    wpAny (model prog w) A (PySem.call (.builtin "sorted") [.ref lz]) Q E s := by
  refine sorted_N_str F N hl (sv_strs l) (by rw [SV_length]; exact h64) ?_
  intro h' vs ss e F' N' hv hp hs
  obtain ⟨l', rfl, rfl⟩ := strs_sv hv
  exact h h' _ l' e F' N' (fun q hq => Nat.lt_succ_of_lt (Heap.lt_size (N q hq).1)) hp hs
theorem zipA {A : Around} {s : Shared} {E Q : Value → Shared → Prop} {g : Heap} {L l1 l2 : Addr} {m : Str → Option Value} {news : List (Addr × Obj)} {xs ys : Array Value} (F : Fr g L s.heap m) (N : News g L s.heap news) (hl1 : s.heap.IsList l1 xs) (hl2 : s.heap.IsList l2 ys)
    (h : ∀ h' (I : Addr) o1 o2 on, Fr g L h' m → News g L h' ((I + 4, { cls := .type "zip", dict := none, data := .fields #[.none, .bool false, .bool false, .ref (I + 2), .ref (I + 3)], slots := #[] }) :: (I + 2, { cls := .type "tuple", data := .seq #[.ref I, .ref (I + 1)] }) :: (I + 3, { cls := .type "tuple", data := .seq #[.none, .none] }) :: (I, o1) :: (I + 1, o2) :: news) →
      (∀ q ∈ news, q.1 < I) → o1.cls = .type "list_iterator" → o1.data = .fields #[.ref l1, .int 0 0] → o2.cls = .type "list_iterator" → o2.data = .fields #[.ref l2, .int 0 0] → l1 < I → l2 < I → on = I → Q (.ref (I + 4)) { s with heap := h' }) :
    wpAny (model prog w) A (PySem.call (.type "zip") [.ref l1, .ref l2]) Q E s := by
  refine call_zip_2 hl1 hl2 ?_
  intro h' hz hTI hTO hi1 hi2 hsz hk
  obtain ⟨o1, a1, b1, c1⟩ := hi1
  obtain ⟨o2, a2, b2, c2⟩ := hi2
  obtain ⟨_, el1, _⟩ := hl1
  obtain ⟨_, el2, _⟩ := hl2
  have hL : @LT.lt Nat _ L s.heap.objs.size := F.ns.lt
  have gn : ∀ b, s.heap.objs.size ≤ b → b ≠ L ∧ g.get? b = none := fun b hb => ⟨Nat.ne_of_gt (Nat.lt_of_lt_of_le hL hb), Heap.get?_none_of_le (Nat.le_trans F.above (Nat.le_trans (Nat.le_of_lt hL) hb))⟩
  refine h h' s.heap.objs.size o1 o2 _ (F.keeps hk) ?_ (fun q hq => Heap.lt_size (N q hq).1) b1 c1 b2 c2 (Heap.lt_size el1) (Heap.lt_size el2) rfl
  intro q hq
  rcases List.mem_cons.mp hq with rfl | hq
  · exact ⟨hz, gn _ (Nat.le_add_right _ _)⟩
  rcases List.mem_cons.mp hq with rfl | hq
  · exact ⟨hTI, gn _ (Nat.le_add_right _ _)⟩
  rcases List.mem_cons.mp hq with rfl | hq
  · exact ⟨hTO, gn _ (Nat.le_add_right _ _)⟩
  rcases List.mem_cons.mp hq with rfl | hq
  · exact ⟨a1, gn _ (Nat.le_refl _)⟩
  rcases List.mem_cons.mp hq with rfl | hq
  · exact ⟨a2, gn _ (Nat.le_add_right _ _)⟩
  · exact ⟨hk _ _ (N q hq).1, (N q hq).2⟩
def toldD (xs zs : List (Str × Tok)) : PyData := .list [.list (xs.map fun p => .str p.1), .list (zs.map fun p => .str p.1), .list ((cdF xs zs).map fun r => .tuple [.int r.1, .int r.2.1, .str r.2.2.1]),
  .list ((uldF xs.reverse zs []).1.map fun p => .str p.1), .list ((uldF xs.reverse zs []).2.map fun p => .str p.1), .list (List.replicate (uldF xs.reverse zs []).1.length (.int 2))]
theorem reads_strs (h : Heap) : ∀ (l : List (Str × Tok)), ReadsAll h (SV l) (l.map fun p => PyData.str p.1) []
  | [] => .nil
  | p :: l => .cons (as := []) (.str p.1 p.2) (reads_strs h l)
theorem reads_twos (h : Heap) : ∀ {ix : List Nat} {ys : List Value}, Paired (fun _ y => ∃ t, y = Value.int 2 t) ix ys → ReadsAll h ys (List.replicate ix.length (PyData.int 2)) []
  | _, _, .nil => .nil
  | _, _, .cons x r => by
    obtain ⟨t, rfl⟩ := x
    exact .cons (as := []) (.int 2 t) (reads_twos h r)
theorem reads_tups (h : Heap) : ∀ {tps : List (Addr × Obj)} {res : RTy}, (∀ q ∈ tps, h.get? q.1 = some q.2) → Paired (fun (q : Addr × Obj) r => ∃ t1 t2, q.2 = tupO r t1 t2) tps res →
    ReadsAll h (tps.map fun q => Value.ref q.1) (res.map fun r => PyData.tuple [.int r.1, .int r.2.1, .str r.2.2.1]) []
  | [], [], _, .nil => .nil
  | q :: tps, r :: res, hg, .cons x rest => by
    obtain ⟨t1, t2, e⟩ := x
    have h1 := hg q (.head _)
    rw [e] at h1
    exact .cons (as := []) (.tuple h1 rfl rfl (.cons (as := []) (.int _ _) (.cons (as := []) (.int _ _) (.cons (as := []) (.str _ _) .nil)))) (reads_tups h (fun q hq => hg q (.tail _ hq)) rest)
theorem told_reads {h : Heap} {R D2 D4 D D7 D8 D9 : Addr} {n0 n2 n4 k n7 n8 n9 : Nat} {xs zs M1 M2 : List (Str × Tok)} {ys y9 : Array Value} {ts ws : List PyData}
    (h0 : h.get? R = some (W.listOf #[Value.ref D2, Value.ref D4, Value.ref D, Value.ref D7, Value.ref D8, Value.ref D9] n0)) (h1 : h.get? D2 = some (LS xs n2)) (h2 : h.get? D4 = some (LS zs n4)) (h3 : h.get? D = some (W.listOf ys k)) (h4 : h.get? D7 = some (LS M1 n7))
    (h5 : h.get? D8 = some (LS M2 n8)) (h6 : h.get? D9 = some (W.listOf y9 n9)) (ht : ReadsAll h ys.toList ts []) (hw : ReadsAll h y9.toList ws []) :
    ∃ as, Reads h (.ref R) (.list [.list (xs.map fun p => .str p.1), .list (zs.map fun p => .str p.1), .list ts, .list (M1.map fun p => .str p.1), .list (M2.map fun p => .str p.1), .list ws]) as :=
  ⟨_, .list h0 rfl rfl (.cons (.list h1 rfl rfl (reads_strs _ xs)) (.cons (.list h2 rfl rfl (reads_strs _ zs)) (.cons (.list h3 rfl rfl ht) (.cons (.list h4 rfl rfl (reads_strs _ M1)) (.cons (.list h5 rfl rfl (reads_strs _ M2)) (.cons (.list h6 rfl rfl hw) .nil))))))⟩
theorem told_call (dp un : Nat) (gd : Option (List Code)) (l : List Env) (frs : List (Addr × Obj)) (h₀ : Heap) (s : Shared) (Q E : Value → Shared → Prop) (lm : Addr) (ms : List (Int × Tok)) (r : Int) (tr : Tok)
   (X : (KK w.params).In h₀) (T : Top p loose mean mg mb h₀) (hst : h₀.StaysIn s.heap) (hdp : dp + 40 < recursionLimit) (hun : un + 200 < cLine)
   (ht : ∀ q ∈ frs, s.heap.get? q.1 = some q.2 ∧ h₀.get? q.1 = none) (Fs : Frs l frs) (hl : s.heap.IsList lm (IV ms).toArray) (hlf : lm ∉ frs.map Prod.fst) (hms : ms.length ≤ 20)
   (hm : ∀ m ∈ ms, 0 ≤ m.1 ∧ m.1 < 65536) (hr : 0 ≤ r)
   (hLev : ∀ xs zs : List (Str × Tok), xs.map Prod.fst = (ms.map Prod.fst).map fmS → zs.map Prod.fst = (ms.map Prod.fst).map (fun n => fmS (Builtin.bitAnd n (Builtin.bitNot r))) → ∀ a b : List Str, a.Perm ((uldF xs.reverse zs []).1.map Prod.fst) → b.Perm ((uldF xs.reverse zs []).2.map Prod.fst) →
     sortedS a = true → sortedS b = true → ∀ (i : Nat) (x y : Str), a[i]? = some x → b[i]? = some y → LevPair x y)
   (hQ : ∀ h' tk R as frs' xs zs, xs.map Prod.fst = (ms.map Prod.fst).map fmS → zs.map Prod.fst = (ms.map Prod.fst).map (fun n => fmS (Builtin.bitAnd n (Builtin.bitNot r))) → Reads h' (.ref R) (toldD xs zs) as → SameUp frs frs' → (∀ q ∈ frs', h'.get? q.1 = some q.2) →
     (∀ y o, s.heap.get? y = some o → y ∉ frs.map Prod.fst → h'.get? y = some o) → Q (.ref R) { s with heap := h', toks := tk })
   : wpAny (model prog w) (Ar dp un gd (some l)) (PySem.call (.ref 223) [.ref lm, .int r tr]) Q E s := by
  refine' callMC (binds := [("modes", .ref lm), ("right", .int r tr)]) frs X T hst ?a ?b ?ep ?eb ?es ?c ?d ?e ?f ?g ?_ ?h ?i ?j
  case a => exact ht
  case b => k_is
  case ep => conv => lhs; whnf
  case eb => conv => lhs; whnf
  case es => conv => lhs; whnf
  case c => k_is
  case d => show dp < _; omega
  case e => exact BindsTo.of_eq rfl
  case f => intro n x hx; simp only [List.mem_cons, List.not_mem_nil, or_false] at hx; rcases hx with rfl | rfl; exact .inl rfl; exact .inr ⟨rfl, rfl⟩
  case g => decide
  case h => rfl
  case i => rfl
  case j => rfl
  intro g L' h₁ tk cells F' N' hcells hcn X' TT hlt0 hg
  clear X T
  obtain ⟨oc, rfl, hoc⟩ := CellsAre.one hcells
  replace hoc : oc.data = .cell (some (.int r tr)) := hoc
  have F1 : Fr g L' h₁ (fun y => if y = Str.ofString "modes" then some (.ref lm) else none) := F'
  simp only [List.cons_append, List.nil_append] at N'
  clear F'
  have hG : g.IsList lm (IV ms).toArray := let ⟨o, a, q⟩ := hl; ⟨o, hg _ _ a hlf, q⟩
  (repeat' (first | ((with_reducible show @ite Prop _ _ _ _); first | refine if_pos_p (by decide) ?_ | refine if_neg_p (by decide) ?_) | ((with_reducible show wpAny _ _ (eval (Expr.Name _ _) (compEnvC _ _ _ _)) _ _ _); first | ((with_reducible refine' nmOwnF ?ca ?cb ?cd ?ce ?cf ?_); (case ca => with_reducible assumption); (case cb => with_reducible assumption); (case cd => rfl); (case ce => rfl); (case cf => decide)) | ((with_reducible refine' nmCellF ?ca ?cg ?cb ?cd ?ce ?cf ?_); (case cg => with_reducible assumption); (case ca => rfl); (case cb => with_reducible assumption); (case cd => rfl); (case ce => rfl); (case cf => decide))) | ((with_reducible show wpAny _ _ _ _ _ _); (fail_if_success (with_reducible (first | refine at1 ?_ | refine at2 ?_ | refine at3 ?_ | refine at5 ?_ | refine at12 ?_ | refine at14 ?_ | refine at17 ?_ | refine at15 ?_ | refine at16 ?_ | refine at9 ?_ | refine at10 ?_ | refine at11 ?_ | refine at18 ?_ | refine at19 ?_ | refine at20 ?_))); (try dsimp only); walk1)))
  with_reducible refine' compA (g := g) (fun _ => true) (fun v y => ∀ n t, v = .int n t → ∃ t', y = .str (fmS n) t') ?c0 ?c1 ?c2 ?c3 ?c4 ?c5 ?c6 ?c8 ?c9 ?_ ?c7
  case c0 => rfl
  case c1 => rfl
  case c2 => rfl
  case c3 => decide
  case c4 => rfl
  case c5 => decide
  case c6 => rfl
  case c7 => intro _; rfl
  case c8 => rfl
  case c9 => rfl
  (repeat' (first | ((with_reducible show @ite Prop _ _ _ _); first | refine if_pos_p (by decide) ?_ | refine if_neg_p (by decide) ?_) | ((with_reducible show wpAny _ _ (eval (Expr.Name _ _) (compEnvC _ _ _ _)) _ _ _); first | ((with_reducible refine' nmOwnF ?ca ?cb ?cd ?ce ?cf ?_); (case ca => with_reducible assumption); (case cb => with_reducible assumption); (case cd => rfl); (case ce => rfl); (case cf => decide)) | ((with_reducible refine' nmCellF ?ca ?cg ?cb ?cd ?ce ?cf ?_); (case cg => with_reducible assumption); (case ca => rfl); (case cb => with_reducible assumption); (case cd => rfl); (case ce => rfl); (case cf => decide))) | ((with_reducible show wpAny _ _ _ _ _ _); (fail_if_success (with_reducible (first | refine at1 ?_ | refine at2 ?_ | refine at3 ?_ | refine at5 ?_ | refine at12 ?_ | refine at14 ?_ | refine at17 ?_ | refine at15 ?_ | refine at16 ?_ | refine at9 ?_ | refine at10 ?_ | refine at11 ?_ | refine at18 ?_ | refine at19 ?_ | refine at20 ?_))); (try dsimp only); walk1)))
  refine ⟨_, _, F1, N', lm, (IV ms).toArray, rfl, (let ⟨o, a, q⟩ := hG; ⟨o, F1.keep _ _ a, q⟩), ?_, ?_, ?_, ?_⟩
  · simp [IV, sizeLine_eq]; omega
  · intro C v s₃ m₃ E' _ _ _ _ _
    exact noTest ⟨rfl, KeepsTo.refl _ _⟩
  · intro C v s₃ m₃ E' hv _ hC hn hm3 hk
    obtain ⟨⟨n, t⟩, hnm, rfl⟩ := mem_IV hv
    obtain ⟨h7, gs7, d7, tk7, os7⟩ := s₃
    dsimp only at hn hk hC
    have F7 := blockFr hn
    have N7 : News (trunc C h7) C h7 [] := fun _ hq => nomatch hq
    have st7 : g.StaysIn (trunc C h7) := fun b o e => blockStays hC hk b o (F1.keep b o e)
    have X7 := X'.keeps st7
    have T7 := TT.keeps st7
    clear F1 N' X' TT
    (repeat' (first | ((with_reducible show @ite Prop _ _ _ _); first | refine if_pos_p (by decide) ?_ | refine if_neg_p (by decide) ?_) | ((with_reducible show wpAny _ _ (eval (Expr.Name _ _) (compEnvC _ _ _ _)) _ _ _); first | ((with_reducible refine' nmOwnF ?ca ?cb ?cd ?ce ?cf ?_); (case ca => with_reducible assumption); (case cb => with_reducible assumption); (case cd => rfl); (case ce => rfl); (case cf => decide)) | ((with_reducible refine' nmCellF ?ca ?cg ?cb ?cd ?ce ?cf ?_); (case cg => with_reducible assumption); (case ca => rfl); (case cb => with_reducible assumption); (case cd => rfl); (case ce => rfl); (case cf => decide))) | ((with_reducible show wpAny _ _ _ _ _ _); (fail_if_success (with_reducible (first | refine at1 ?_ | refine at2 ?_ | refine at3 ?_ | refine at5 ?_ | refine at12 ?_ | refine at14 ?_ | refine at17 ?_ | refine at15 ?_ | refine at16 ?_ | refine at9 ?_ | refine at10 ?_ | refine at11 ?_ | refine at18 ?_ | refine at19 ?_ | refine at20 ?_))); (try dsimp only); walk1)))
    refine ⟨X7.keeps F7.keep, ?_⟩
    refine fm_call (dp + 1) (un + 3) gd _ (trunc C h7) _ _ _ _ _ X7 T7 F7.keep (by omega) (by omega) (hm _ hnm).1 (hm _ hnm).2 ?_
    intro h9 tk9 t9 hk9
    exact ⟨fun n' t' e => by cases e; exact ⟨_, rfl⟩, keepsTo_of hk9⟩
  · intro D2 h8 tk8 ys hD2 hp2 hF2 hk2 D3 e3 h9 tk9 F9 N9
    cases e3
    dsimp only at hk2 hD2 F9 N9 ⊢
    obtain ⟨n2, hp2⟩ := hp2
    replace N9 := N9 ys n2 hp2
    replace hF2 : Paired (fun v y => ∀ n t, v = Value.int n t → ∃ t', y = Value.str (fmS n) t') (IV ms) ys.toList := by
      rw [show (IV ms).toArray.toList = IV ms from rfl, filter_all] at hF2; exact hF2
    obtain ⟨xs, hxs, hxe⟩ := paired_strs fmS _ _ hF2
    have hys : ys = (SV xs).toArray := by rw [← hxs]
    subst hys
    have hxl : xs.length = ms.length := by simpa using congrArg List.length hxe
    have hf2 : ∀ q ∈ frs, q.1 ≠ D2 := fun q hq e => by have := (N' q (.tail _ hq)).1; rw [e, hD2] at this; cases this
    clear F1 N' hF2 hk2 hp2 hxs
    have hG9 : h9.IsList lm (IV ms).toArray := let ⟨o, a, q⟩ := hG; ⟨o, F9.keep _ _ a, q⟩
    have hcell9 : CellAt (L' + 1) (.int r tr) h9 := ⟨oc, (N9 (L' + 1, oc) (.tail _ (.head _))).1, hoc⟩
    (repeat' (first | ((with_reducible show @ite Prop _ _ _ _); first | refine if_pos_p (by decide) ?_ | refine if_neg_p (by decide) ?_) | ((with_reducible show wpAny _ _ (eval (Expr.Name _ _) (compEnvC _ _ _ _)) _ _ _); first | ((with_reducible refine' nmOwnF ?ca ?cb ?cd ?ce ?cf ?_); (case ca => with_reducible assumption); (case cb => with_reducible assumption); (case cd => rfl); (case ce => rfl); (case cf => decide)) | ((with_reducible refine' nmCellF ?ca ?cg ?cb ?cd ?ce ?cf ?_); (case cg => with_reducible assumption); (case ca => rfl); (case cb => with_reducible assumption); (case cd => rfl); (case ce => rfl); (case cf => decide))) | ((with_reducible show wpAny _ _ _ _ _ _); (fail_if_success (with_reducible (first | refine at1 ?_ | refine at2 ?_ | refine at3 ?_ | refine at5 ?_ | refine at12 ?_ | refine at14 ?_ | refine at17 ?_ | refine at15 ?_ | refine at16 ?_ | refine at9 ?_ | refine at10 ?_ | refine at11 ?_ | refine at18 ?_ | refine at19 ?_ | refine at20 ?_))); (try dsimp only); walk1)))
    with_reducible refine' compA (g := g) (fun _ => true) (fun v y => ∀ n t, v = .int n t → ∃ t', y = .str (fmS (Builtin.bitAnd n (Builtin.bitNot r))) t') ?c0 ?c1 ?c2 ?c3 ?c4 ?c5 ?c6 ?c8 ?c9 ?_ ?c7
    case c0 => rfl
    case c1 => rfl
    case c2 => rfl
    case c3 => decide
    case c4 => rfl
    case c5 => decide
    case c6 => rfl
    case c7 => intro _; rfl
    case c8 => rfl
    case c9 => rfl
    (repeat' (first | ((with_reducible show @ite Prop _ _ _ _); first | refine if_pos_p (by decide) ?_ | refine if_neg_p (by decide) ?_) | ((with_reducible show wpAny _ _ (eval (Expr.Name _ _) (compEnvC _ _ _ _)) _ _ _); first | ((with_reducible refine' nmOwnF ?ca ?cb ?cd ?ce ?cf ?_); (case ca => with_reducible assumption); (case cb => with_reducible assumption); (case cd => rfl); (case ce => rfl); (case cf => decide)) | ((with_reducible refine' nmCellF ?ca ?cg ?cb ?cd ?ce ?cf ?_); (case cg => with_reducible assumption); (case ca => rfl); (case cb => with_reducible assumption); (case cd => rfl); (case ce => rfl); (case cf => decide))) | ((with_reducible show wpAny _ _ _ _ _ _); (fail_if_success (with_reducible (first | refine at1 ?_ | refine at2 ?_ | refine at3 ?_ | refine at5 ?_ | refine at12 ?_ | refine at14 ?_ | refine at17 ?_ | refine at15 ?_ | refine at16 ?_ | refine at9 ?_ | refine at10 ?_ | refine at11 ?_ | refine at18 ?_ | refine at19 ?_ | refine at20 ?_))); (try dsimp only); walk1)))
    refine ⟨_, _, F9, N9, lm, (IV ms).toArray, rfl, hG9, ?_, ?_, ?_, ?_⟩
    · simp [IV, sizeLine_eq]; omega
    · intro C v s₃ m₃ E' _ _ _ _ _
      exact noTest ⟨rfl, KeepsTo.refl _ _⟩
    · intro C v s₃ m₃ E' hv _ hC hn hm3 hk
      obtain ⟨⟨n, t⟩, hnm, rfl⟩ := mem_IV hv
      obtain ⟨h7, gs7, d7, tk7, os7⟩ := s₃
      dsimp only at hn hk hC
      have F7 := blockFr hn
      have N7 : News (trunc C h7) C h7 [] := fun _ hq => nomatch hq
      have st7 : g.StaysIn (trunc C h7) := fun b o e => blockStays hC hk b o (F9.keep b o e)
      have X7 := X'.keeps st7
      have T7 := TT.keeps st7
      have hcell7 : CellAt (L' + 1) (.int r tr) (trunc C h7) := hcell9.stays fun b o e => blockStays hC hk b o e
      clear F9 N9 X' TT
      (repeat' (first | ((with_reducible show @ite Prop _ _ _ _); first | refine if_pos_p (by decide) ?_ | refine if_neg_p (by decide) ?_) | ((with_reducible show wpAny _ _ (eval (Expr.Name _ _) (compEnvC _ _ _ _)) _ _ _); first | ((with_reducible refine' nmOwnF ?ca ?cb ?cd ?ce ?cf ?_); (case ca => with_reducible assumption); (case cb => with_reducible assumption); (case cd => rfl); (case ce => rfl); (case cf => decide)) | ((with_reducible refine' nmCellF ?ca ?cg ?cb ?cd ?ce ?cf ?_); (case cg => with_reducible assumption); (case ca => rfl); (case cb => with_reducible assumption); (case cd => rfl); (case ce => rfl); (case cf => decide))) | ((with_reducible show wpAny _ _ _ _ _ _); (fail_if_success (with_reducible (first | refine at1 ?_ | refine at2 ?_ | refine at3 ?_ | refine at5 ?_ | refine at12 ?_ | refine at14 ?_ | refine at17 ?_ | refine at15 ?_ | refine at16 ?_ | refine at9 ?_ | refine at10 ?_ | refine at11 ?_ | refine at18 ?_ | refine at19 ?_ | refine at20 ?_))); (try dsimp only); walk1)))
      refine ⟨X7.keeps F7.keep, ?_⟩
      refine fm_call (dp + 1) (un + 3) gd _ (trunc C h7) _ _ _ _ _ X7 T7 F7.keep (by omega) (by omega) (band_range (hm _ hnm) hr).1 (band_range (hm _ hnm) hr).2 ?_
      intro h9 tk9 t9 hk9
      exact ⟨fun n' t' e => by cases e; exact ⟨_, rfl⟩, keepsTo_of hk9⟩
    · intro D4 h8 tk8 ys hD4 hp4 hF4 hk4 D3 e3 h10 tk10 F10 N10
      cases e3
      dsimp only at hk4 hD4 F10 N10 ⊢
      obtain ⟨n4, hp4⟩ := hp4
      replace N10 := N10 ys n4 hp4
      replace hF4 : Paired (fun v y => ∀ n t, v = Value.int n t → ∃ t', y = Value.str (fmS (Builtin.bitAnd n (Builtin.bitNot r))) t') (IV ms) ys.toList := by
        rw [show (IV ms).toArray.toList = IV ms from rfl, filter_all] at hF4; exact hF4
      obtain ⟨zs, hzs, hze⟩ := paired_strs (fun n => fmS (Builtin.bitAnd n (Builtin.bitNot r))) _ _ hF4
      have hys : ys = (SV zs).toArray := by rw [← hzs]
      subst hys
      have hzl : zs.length = ms.length := by simpa using congrArg List.length hze
      have hf4 : ∀ q ∈ frs, q.1 ≠ D4 := fun q hq e => by have := (N9 q (.tail _ (.tail _ hq))).1; rw [e, hD4] at this; cases this
      clear F9 N9 hF4 hk4 hp4 hzs hG9 hcell9
      (repeat' (first | ((with_reducible show @ite Prop _ _ _ _); first | refine if_pos_p (by decide) ?_ | refine if_neg_p (by decide) ?_) | ((with_reducible show wpAny _ _ (eval (Expr.Name _ _) (compEnvC _ _ _ _)) _ _ _); first | ((with_reducible refine' nmOwnF ?ca ?cb ?cd ?ce ?cf ?_); (case ca => with_reducible assumption); (case cb => with_reducible assumption); (case cd => rfl); (case ce => rfl); (case cf => decide)) | ((with_reducible refine' nmCellF ?ca ?cg ?cb ?cd ?ce ?cf ?_); (case cg => with_reducible assumption); (case ca => rfl); (case cb => with_reducible assumption); (case cd => rfl); (case ce => rfl); (case cf => decide))) | ((with_reducible show wpAny _ _ _ _ _ _); (fail_if_success (with_reducible (first | refine at1 ?_ | refine at2 ?_ | refine at3 ?_ | refine at5 ?_ | refine at12 ?_ | refine at14 ?_ | refine at17 ?_ | refine at15 ?_ | refine at16 ?_ | refine at9 ?_ | refine at10 ?_ | refine at11 ?_ | refine at18 ?_ | refine at19 ?_ | refine at20 ?_))); (try dsimp only); walk1)))
      with_reducible refine' compAW (fun _ => true) (cntF (cdF xs zs)) upKP ?k1 ?k2 ?c0 ?c2 ?c3 ?c4 ?c5 ?c6 ?c8 ?c9 ?_ ?c7
      case k1 => exact cntF_mono
      case k2 => exact cntF_mono
      case c0 => rfl
      case c2 => rfl
      case c3 => decide
      case c4 => rfl
      case c5 => decide
      case c6 => rfl
      case c7 => intro _; rfl
      case c8 => rfl
      case c9 => rfl
      (repeat' (first | ((with_reducible show @ite Prop _ _ _ _); first | refine if_pos_p (by decide) ?_ | refine if_neg_p (by decide) ?_) | ((with_reducible show wpAny _ _ (eval (Expr.Name _ _) (compEnvC _ _ _ _)) _ _ _); first | ((with_reducible refine' nmOwnF ?ca ?cb ?cd ?ce ?cf ?_); (case ca => with_reducible assumption); (case cb => with_reducible assumption); (case cd => rfl); (case ce => rfl); (case cf => decide)) | ((with_reducible refine' nmCellF ?ca ?cg ?cb ?cd ?ce ?cf ?_); (case cg => with_reducible assumption); (case ca => rfl); (case cb => with_reducible assumption); (case cd => rfl); (case ce => rfl); (case cf => decide))) | ((with_reducible show wpAny _ _ _ _ _ _); (fail_if_success (with_reducible (first | refine at1 ?_ | refine at2 ?_ | refine at3 ?_ | refine at5 ?_ | refine at12 ?_ | refine at14 ?_ | refine at17 ?_ | refine at15 ?_ | refine at16 ?_ | refine at9 ?_ | refine at10 ?_ | refine at11 ?_ | refine at18 ?_ | refine at19 ?_ | refine at20 ?_))); (try dsimp only); walk1)))
      refine ⟨X'.keeps F10.keep, ?_⟩
      have ha10 := (N10 (D2, LS xs n2) (.tail _ (.head _))).1
      have hb10 := (N10 (D4, LS zs n4) (.head _)).1
      refine cd_call (dp + 1) (un + 3) gd _ g _ _ _ D2 D4 xs zs n2 n4 X' TT F10.keep (by omega) (by omega) ha10 hb10 (by omega) (by omega) ?_
      intro h11 tk11 R nR mms hk11 hR hmmR hR11 hmm11 hMM hmlen
      have F11 := F10.keeps hk11
      have N11 := N10.grown hk11
      clear F10 N10
      have hRs : R < h11.objs.size := Heap.lt_size hR11
      have hmms : mms.length = (cdF xs zs).length := by have := hMM.length; simpa using this
      refine wpAny_pyIter_list (items := (refs mms).toArray) ⟨_, hR11, rfl, nR, rfl⟩ ?_
      have up12 : ∀ b o, h11.get? b = some o → (h11.push { cls := .type "list_iterator", data := .fields #[.ref R, .int 0 0] }).get? b = some o := fun b o e => Heap.get?_push_of_some _ e
      have sz12 : (h11.push { cls := .type "list_iterator", data := .fields #[.ref R, .int 0 0] }).objs.size = h11.objs.size + 1 := Heap.size_push ..
      have F12 := F11.keeps up12
      have N12 := N11.grown up12
      have gn11 : g.get? h11.objs.size = none := Heap.get?_none_of_le (Nat.le_trans F11.above (Nat.le_of_lt F11.ns.lt))
      refine ⟨h11.objs.size, [h11.objs.size, R], [h11.objs.size], (refs mms).toArray.size, _, _, g, _, _, rfl, Walks.list rfl h11.objs.size R (Nat.ne_of_lt hRs) (refs mms).toArray, ?_, ?_, ?_, F12, N12, ?_, ?_, ?_, ?_⟩
      · simp [sizeLine_eq]; omega
      · exact ⟨⟨_, Heap.get?_push_size _ rfl, rfl, rfl⟩, ⟨_, up12 _ _ hR11, rfl, nR, rfl⟩⟩
      · intro b hb
        show b < (h11.push _).objs.size
        rw [sz12]
        rcases List.mem_cons.mp hb with rfl | hb
        · exact Nat.lt_succ_self _
        · rw [List.mem_singleton.mp hb]; exact Nat.lt_succ_of_lt hRs
      · intro b hb
        rw [List.mem_singleton.mp hb]
        exact ⟨Nat.ne_of_gt F11.ns.lt, gn11, fun q hq => Nat.ne_of_lt (Heap.lt_size (N11 q hq).1)⟩
      · intro C i v s₃ m₃ E' _ _ _ _ _ _
        exact noTest ⟨rfl, KeepsTo.refl _ _, fun _ _ _ e => e⟩
      · intro C i v s₃ m₃ E' hi hv _ hC hn hm3 hk
        obtain ⟨q, hq, rfl⟩ : ∃ q, mms[i]? = some q ∧ v = .ref q.1 := by
          simp only [refs, List.getElem?_toArray, List.getElem?_map, Option.map_eq_some_iff] at hv
          obtain ⟨q, hq, e⟩ := hv
          exact ⟨q, hq, e.symm⟩
        obtain ⟨r1, hr1, u1, u2, dx, hqo⟩ := Paired.get hMM hq
        have hq7 := hmm11 q (List.mem_of_getElem? hq)
        rw [hqo] at hq7
        obtain ⟨h7, gs7, d7, tk7, os7⟩ := s₃
        dsimp only at hn hk hC
        replace hk : ∀ b o, h11.get? b = some o → h7.get? b = some o := fun b o e => hk b o (fun z => by rw [List.mem_singleton.mp z] at e; exact absurd (Heap.lt_size e) (Nat.lt_irrefl _)) (up12 b o e)
        replace hC : @LT.lt Nat _ h11.objs.size C := by rw [sz12] at hC; exact Nat.lt_trans (Nat.lt_succ_self _) hC
        have F7 := blockFr hn
        have N7 : News (trunc C h7) C h7 [] := fun _ hq => nomatch hq
        have st7 : g.StaysIn (trunc C h7) := fun b o e => blockStays hC hk b o (F11.keep b o e)
        have X7 := X'.keeps st7
        have T7 := TT.keeps st7
        have hq8 := hk _ _ hq7
        have XX := X7.keeps F7.keep
        clear F11 N11 F12 N12 X' TT hMM hmm11
        (repeat' (first | ((with_reducible show @ite Prop _ _ _ _); first | refine if_pos_p (by decide) ?_ | refine if_neg_p (by decide) ?_) | ((with_reducible show wpAny _ _ (eval (Expr.Name _ _) (compEnvC _ _ _ _)) _ _ _); first | ((with_reducible refine' nmOwnF ?ca ?cb ?cd ?ce ?cf ?_); (case ca => with_reducible assumption); (case cb => with_reducible assumption); (case cd => rfl); (case ce => rfl); (case cf => decide)) | ((with_reducible refine' nmCellF ?ca ?cg ?cb ?cd ?ce ?cf ?_); (case cg => with_reducible assumption); (case ca => rfl); (case cb => with_reducible assumption); (case cd => rfl); (case ce => rfl); (case cf => decide))) | ((with_reducible show wpAny _ _ _ _ _ _); (fail_if_success (with_reducible (first | refine at1 ?_ | refine at2 ?_ | refine at3 ?_ | refine at5 ?_ | refine at12 ?_ | refine at14 ?_ | refine at17 ?_ | refine at15 ?_ | refine at16 ?_ | refine at9 ?_ | refine at10 ?_ | refine at11 ?_ | refine at18 ?_ | refine at19 ?_ | refine at20 ?_))); (try dsimp only); walk1)))
        refine tuple142 rfl XX hq8 ?_
        intro h9 tk9 hk9
        have up9 : ∀ b o, h9.get? b = some o → (h9.push { cls := .type "tuple", data := .seq #[.int r1.1 u1, .int r1.2.1 u2, .str r1.2.2.1 r1.2.2.2] }).get? b = some o := fun b o e => Heap.get?_push_of_some _ e
        refine ⟨⟨h9.objs.size, r1, u1, u2, ?_, rfl, hr1, Heap.get?_push_size _ rfl⟩, keepsTo_of (fun y o e => up9 _ _ (hk9 y o e)), fun b o _ e => up9 _ _ (hk9 b o e)⟩
        obtain ⟨oC, _, _, hoC, _⟩ := hn
        exact Heap.lt_size (hk9 _ _ hoC)
      · intro D C ys h' tk' hgD hLD hDC F13 k N13 hP
        dsimp only at N13 hP ⊢
        replace hLD : @LT.lt Nat _ L' D := hLD
        obtain ⟨tps, hys, htps, hTP⟩ := cntF_out hP
        have hTP2 : Paired (fun (q : Addr × Obj) r => ∃ t1 t2, q.2 = tupO r t1 t2) tps (cdF xs zs) := by
          have e1 : List.filter (fun _ => true) (List.range (refs mms).toArray.size) = List.range' 0 (cdF xs zs).length := by
            rw [List.filter_eq_self.mpr (by simp), show (refs mms).toArray.size = (cdF xs zs).length by simpa [refs] using hmms, List.range_eq_range']
          rw [e1] at hTP
          exact range'_out (cdF xs zs).length 0 tps (Nat.zero_add _).symm hTP
        have gC : ∀ b, @LT.lt Nat _ C b → g.get? b = none := fun b hb => Heap.get?_none_of_le (Nat.le_trans F11.above (Nat.le_of_lt (Nat.lt_trans hLD (Nat.lt_trans hDC hb))))
        have N14 : News g L' h' ((D, W.listOf ys k) :: (D4, LS zs n4) :: (D2, LS xs n2) :: (L' + 1, oc) :: (tps ++ frs)) := by
          intro q hq
          by_cases hq' : q ∈ tps
          · have := htps q hq'
            exact ⟨this.2, Nat.ne_of_gt (Nat.lt_trans hLD (Nat.lt_trans hDC this.1)), gC _ this.1⟩
          · refine N13 q ?_
            simp only [List.mem_cons, List.mem_append] at hq ⊢
            rcases hq with h | h | h | h | h | h
            · exact .inl h
            · exact .inr (.inl h)
            · exact .inr (.inr (.inl h))
            · exact .inr (.inr (.inr (.inl h)))
            · exact absurd h hq'
            · exact .inr (.inr (.inr (.inr h)))
        clear N13 F11 F12 N11 N12 hP hTP hk11 hR hmmR hR11 hmm11 hMM up12
        (repeat' (first | ((with_reducible show @ite Prop _ _ _ _); first | refine if_pos_p (by decide) ?_ | refine if_neg_p (by decide) ?_) | ((with_reducible show wpAny _ _ (eval (Expr.Name _ _) (compEnvC _ _ _ _)) _ _ _); first | ((with_reducible refine' nmOwnF ?ca ?cb ?cd ?ce ?cf ?_); (case ca => with_reducible assumption); (case cb => with_reducible assumption); (case cd => rfl); (case ce => rfl); (case cf => decide)) | ((with_reducible refine' nmCellF ?ca ?cg ?cb ?cd ?ce ?cf ?_); (case cg => with_reducible assumption); (case ca => rfl); (case cb => with_reducible assumption); (case cd => rfl); (case ce => rfl); (case cf => decide))) | ((with_reducible show wpAny _ _ _ _ _ _); (fail_if_success (with_reducible (first | refine at1 ?_ | refine at2 ?_ | refine at3 ?_ | refine at5 ?_ | refine at12 ?_ | refine at14 ?_ | refine at17 ?_ | refine at15 ?_ | refine at16 ?_ | refine at9 ?_ | refine at10 ?_ | refine at11 ?_ | refine at18 ?_ | refine at19 ?_ | refine at20 ?_))); (try dsimp only); walk1)))
        have F15 := (show Fr g L' _ _ by assumption)
        have N15 := (show News g L' _ _ by assumption)
        have hD2 : h'.IsList D2 (SV xs).toArray := ⟨_, (N14 (D2, LS xs n2) (.tail _ (.tail _ (.head _)))).1, rfl, _, rfl⟩
        refine' kmk_slice (s := ⟨_, _, _, _, _⟩) (its := (SV xs).toArray) (lo := none) (hi := none) F13 N14 ?d1 .none .none ?_ ?d2 ?d3 ?d4
        case d1 => exact hD2
        case d2 => with_unfolding_all rfl
        case d3 => intro _; with_unfolding_all rfl
        case d4 => simp only [List.size_toArray, SV, List.length_map, sizeLine_eq]; omega
        intro D5 h16 F16 N16 l16
        rw [pick_all] at N16
        clear F13 N14
        (repeat' (first | ((with_reducible show @ite Prop _ _ _ _); first | refine if_pos_p (by decide) ?_ | refine if_neg_p (by decide) ?_) | ((with_reducible show wpAny _ _ (eval (Expr.Name _ _) (compEnvC _ _ _ _)) _ _ _); first | ((with_reducible refine' nmOwnF ?ca ?cb ?cd ?ce ?cf ?_); (case ca => with_reducible assumption); (case cb => with_reducible assumption); (case cd => rfl); (case ce => rfl); (case cf => decide)) | ((with_reducible refine' nmCellF ?ca ?cg ?cb ?cd ?ce ?cf ?_); (case cg => with_reducible assumption); (case ca => rfl); (case cb => with_reducible assumption); (case cd => rfl); (case ce => rfl); (case cf => decide))) | ((with_reducible show wpAny _ _ _ _ _ _); (fail_if_success (with_reducible (first | refine at1 ?_ | refine at2 ?_ | refine at3 ?_ | refine at5 ?_ | refine at12 ?_ | refine at14 ?_ | refine at17 ?_ | refine at15 ?_ | refine at16 ?_ | refine at9 ?_ | refine at10 ?_ | refine at11 ?_ | refine at18 ?_ | refine at19 ?_ | refine at20 ?_))); (try dsimp only); walk1)))
        have hD4 : h16.IsList D4 (SV zs).toArray := ⟨_, (N16 (D4, LS zs n4) (.tail _ (.tail _ (.head _)))).1, rfl, _, rfl⟩
        refine' kmk_slice (s := ⟨_, _, _, _, _⟩) (its := (SV zs).toArray) (lo := none) (hi := none) F16 N16 ?d5 .none .none ?_ ?d6 ?d7 ?d8
        case d5 => exact hD4
        case d6 => with_unfolding_all rfl
        case d7 => intro _; with_unfolding_all rfl
        case d8 => simp only [List.size_toArray, SV, List.length_map, sizeLine_eq]; omega
        intro D6 h17 F17 N17 l17
        rw [pick_all] at N17
        clear F16 N16
        (repeat' (first | ((with_reducible show @ite Prop _ _ _ _); first | refine if_pos_p (by decide) ?_ | refine if_neg_p (by decide) ?_) | ((with_reducible show wpAny _ _ (eval (Expr.Name _ _) (compEnvC _ _ _ _)) _ _ _); first | ((with_reducible refine' nmOwnF ?ca ?cb ?cd ?ce ?cf ?_); (case ca => with_reducible assumption); (case cb => with_reducible assumption); (case cd => rfl); (case ce => rfl); (case cf => decide)) | ((with_reducible refine' nmCellF ?ca ?cg ?cb ?cd ?ce ?cf ?_); (case cg => with_reducible assumption); (case ca => rfl); (case cb => with_reducible assumption); (case cd => rfl); (case ce => rfl); (case cf => decide))) | ((with_reducible show wpAny _ _ _ _ _ _); (fail_if_success (with_reducible (first | refine at1 ?_ | refine at2 ?_ | refine at3 ?_ | refine at5 ?_ | refine at12 ?_ | refine at14 ?_ | refine at17 ?_ | refine at15 ?_ | refine at16 ?_ | refine at9 ?_ | refine at10 ?_ | refine at11 ?_ | refine at18 ?_ | refine at19 ?_ | refine at20 ?_))); (try dsimp only); walk1)))
        obtain ⟨oL, hoL, hNL⟩ := LCg.ns_obj F17.ns
        have hfL : ∀ q ∈ frs, q.1 < L' := fun q hq => hlt0 q hq
        have hLD5 : D5 ≠ L' := (N17 (D5, LS xs 0) (.tail _ (.head _))).2.1
        have hLD6 : D6 ≠ L' := (N17 (D6, LS zs 0) (.head _)).2.1
        have hf5 : ∀ q ∈ frs, q.1 < D5 := fun q hq => l16 q (.tail _ (.tail _ (.tail _ (.tail _ (List.mem_append_right _ hq)))))
        have hf6 : ∀ q ∈ frs, q.1 < D6 := fun q hq => l17 q (.tail _ (.tail _ (.tail _ (.tail _ (.tail _ (List.mem_append_right _ hq))))))
        have h56 : @LT.lt Nat _ D5 D6 := l17 (D5, LS xs 0) (.head _)
        refine ⟨X'.keeps F17.keep, ?_⟩
        refine uld_call (dp + 1) (un + 3) gd (_ :: l) ((L', oL) :: frs) g _ _ _ D5 D6 xs zs 0 0 X' TT F17.keep (by omega) (by omega) ?u1 ?u2 ?u3 ?u4 ?u5 (by omega) (by omega) ?_
        case u1 =>
          intro q hq
          rcases List.mem_cons.mp hq with rfl | hq
          · exact ⟨(N17 (D5, LS xs 0) (.tail _ (.head _))).1, (N17 (D5, LS xs 0) (.tail _ (.head _))).2.2⟩
          rcases List.mem_cons.mp hq with rfl | hq
          · exact ⟨(N17 (D6, LS zs 0) (.head _)).1, (N17 (D6, LS zs 0) (.head _)).2.2⟩
          rcases List.mem_cons.mp hq with rfl | hq
          · exact ⟨hoL, Heap.get?_none_of_le F17.above⟩
          · have := N17 q (.tail _ (.tail _ (.tail _ (.tail _ (.tail _ (.tail _ (List.mem_append_right _ hq)))))))
            exact ⟨this.1, this.2.2⟩
        case u2 => exact Nat.ne_of_lt h56
        case u3 =>
          intro hq
          rcases List.mem_cons.mp hq with hq | hq
          · exact hLD5 hq
          · obtain ⟨q, hq, e⟩ := List.mem_map.mp hq
            exact absurd (hf5 q hq) (by rw [e]; exact Nat.lt_irrefl _)
        case u4 =>
          intro hq
          rcases List.mem_cons.mp hq with hq | hq
          · exact hLD6 hq
          · obtain ⟨q, hq, e⟩ := List.mem_map.mp hq
            exact absurd (hf6 q hq) (by rw [e]; exact Nat.lt_irrefl _)
        case u5 => exact ⟨by show ScopeKind.function ≠ ScopeKind.module; decide, rfl, let ⟨es, ep, hd, _⟩ := hNL; ⟨es, ep, hd⟩, Fs⟩
        intro h18 tk18 lz t m1 m2 m3 frs1 SU Fs1 hk18 hob ht18 hlz18 hlzt
        obtain _ | ⟨pL, frs2⟩ := frs1
        · exact SU.elim
        obtain ⟨eL, ⟨sl, esl⟩, SU2⟩ := SU
        obtain ⟨aL, oL2⟩ := pL
        dsimp only at eL esl
        subst eL esl
        dsimp only at hk18 ht18 hlz18
        have hgt : ∀ b ∈ D5 :: D6 :: List.map Prod.fst ((aL, oL) :: frs), g.get? b = none := by
          intro b hb
          rcases List.mem_cons.mp hb with rfl | hb
          · exact (N17 (b, LS xs 0) (.tail _ (.head _))).2.2
          rcases List.mem_cons.mp hb with rfl | hb
          · exact (N17 (b, LS zs 0) (.head _)).2.2
          rcases List.mem_cons.mp hb with rfl | hb
          · exact Heap.get?_none_of_le F17.above
          · obtain ⟨q, hq, rfl⟩ := List.mem_map.mp hb
            exact (N17 q (.tail _ (.tail _ (.tail _ (.tail _ (.tail _ (.tail _ (List.mem_append_right _ hq)))))))).2.2
        have F18 := (⟨LCg.NsObj.ns (show LCg.NsObj { oL with slots := sl } _ from let ⟨es, ep, hd, r⟩ := hNL; ⟨es, ep, hd, r⟩) (hob (aL, { oL with slots := sl }) (.tail _ (.tail _ (.tail _ (.tail _ (.head _)))))),
          fun b o e => hk18 b o (F17.keep b o e) (fun hb => by rw [hgt b hb] at e; cases e), F17.above⟩ : Fr g aL h18 _)
        have gn17 : ∀ b, h17.get? b = none → g.get? b = none ∧ b ≠ aL := by
          intro b hb
          constructor
          · cases q : g.get? b with
            | none => rfl
            | some o => rw [F17.keep _ _ q] at hb; cases hb
          · intro e
            rw [e, hoL] at hb
            cases hb
        have N18 : News g aL h18 ((t, ({ cls := .type "tuple", data := .seq #[.ref lz, .ref D6] } : Obj)) :: (lz, LS (uldF xs.reverse zs []).1 m3) :: (D6, LS (uldF xs.reverse zs []).2 m2) :: (D, W.listOf ys k) :: (D4, LS zs n4) :: (D2, LS xs n2) :: (aL + 1, oc) :: (tps ++ frs2)) := by
          have old : ∀ q ∈ (D, W.listOf ys k) :: (D4, LS zs n4) :: (D2, LS xs n2) :: (aL + 1, oc) :: (tps ++ frs), q.1 ∉ frs.map Prod.fst → h18.get? q.1 = some q.2 ∧ q.1 ≠ aL ∧ g.get? q.1 = none := by
            intro q hq hqf
            have h1 := N17 q (.tail _ (.tail _ hq))
            refine ⟨hk18 _ _ h1.1 ?_, h1.2⟩
            intro hb
            rcases List.mem_cons.mp hb with hb | hb
            · exact absurd (l16 q hq) (by rw [hb]; exact Nat.lt_irrefl _)
            rcases List.mem_cons.mp hb with hb | hb
            · exact absurd (l17 q (.tail _ hq)) (by rw [hb]; exact Nat.lt_irrefl _)
            rcases List.mem_cons.mp hb with hb | hb
            · exact h1.2.1 hb
            · exact hqf hb
          have nf : ∀ b, @LT.lt Nat _ aL b → b ∉ frs.map Prod.fst := fun b hb hm => by
            obtain ⟨q, hq, rfl⟩ := List.mem_map.mp hm
            exact absurd (Nat.lt_trans hb (hfL q hq)) (Nat.lt_irrefl _)
          have nf' : ∀ b, (∀ q ∈ frs, q.1 ≠ b) → b ∉ frs.map Prod.fst := fun b hb hm => by
            obtain ⟨q, hq, rfl⟩ := List.mem_map.mp hm
            exact hb q hq rfl
          intro q hq
          rcases List.mem_cons.mp hq with rfl | hq
          · exact ⟨hob _ (.head _), (gn17 _ ht18).2, (gn17 _ ht18).1⟩
          rcases List.mem_cons.mp hq with rfl | hq
          · exact ⟨hob _ (.tail _ (.head _)), (gn17 _ hlz18).2, (gn17 _ hlz18).1⟩
          rcases List.mem_cons.mp hq with rfl | hq
          · exact ⟨hob _ (.tail _ (.tail _ (.tail _ (.head _)))), hLD6, hgt _ (.tail _ (.head _))⟩
          rcases List.mem_cons.mp hq with rfl | hq
          · exact old _ (.head _) (nf _ hLD)
          rcases List.mem_cons.mp hq with rfl | hq
          · exact old _ (.tail _ (.head _)) (nf' _ hf4)
          rcases List.mem_cons.mp hq with rfl | hq
          · exact old _ (.tail _ (.tail _ (.head _))) (nf' _ hf2)
          rcases List.mem_cons.mp hq with rfl | hq
          · exact old _ (.tail _ (.tail _ (.tail _ (.head _)))) (nf _ (Nat.lt_succ_self _))
          rcases List.mem_append.mp hq with hq | hq
          · exact old _ (.tail _ (.tail _ (.tail _ (.tail _ (List.mem_append_left _ hq))))) (nf _ (Nat.lt_trans hLD (Nat.lt_trans hDC (htps q hq).1)))
          · obtain ⟨q', hq', e⟩ := SU2.fwd q hq
            refine ⟨hob _ (.tail _ (.tail _ (.tail _ (.tail _ (.tail _ hq))))), ?_, ?_⟩
            · rw [e]; exact Nat.ne_of_lt (hfL q' hq')
            · exact hgt _ (.tail _ (.tail _ (.tail _ (by rw [e]; exact List.mem_map_of_mem hq'))))
        clear F17 N17 l16 l17 hob hk18 hgt gn17 hNL hoL
        (repeat' (first | ((with_reducible show @ite Prop _ _ _ _); first | refine if_pos_p (by decide) ?_ | refine if_neg_p (by decide) ?_) | ((with_reducible show wpAny _ _ (eval (Expr.Name _ _) (compEnvC _ _ _ _)) _ _ _); first | ((with_reducible refine' nmOwnF ?ca ?cb ?cd ?ce ?cf ?_); (case ca => with_reducible assumption); (case cb => with_reducible assumption); (case cd => rfl); (case ce => rfl); (case cf => decide)) | ((with_reducible refine' nmCellF ?ca ?cg ?cb ?cd ?ce ?cf ?_); (case cg => with_reducible assumption); (case ca => rfl); (case cb => with_reducible assumption); (case cd => rfl); (case ce => rfl); (case cf => decide))) | ((with_reducible show wpAny _ _ _ _ _ _); (fail_if_success (with_reducible (first | refine at1 ?_ | refine at2 ?_ | refine at3 ?_ | refine at5 ?_ | refine at12 ?_ | refine at14 ?_ | refine at17 ?_ | refine at15 ?_ | refine at16 ?_ | refine at9 ?_ | refine at10 ?_ | refine at11 ?_ | refine at18 ?_ | refine at19 ?_ | refine at20 ?_))); (try dsimp only); walk1)))
        have hUL := uldF_len xs.reverse zs []
        simp only [List.length_reverse, List.length_nil, Nat.add_zero] at hUL
        have hL1 := hLev xs zs hxe (by rw [hze, List.map_map]) 
        generalize hM1 : (uldF xs.reverse zs []).1 = M1 at *
        generalize hM2 : (uldF xs.reverse zs []).2 = M2 at *
        have F20 := (show Fr g aL _ _ by assumption)
        have N20 := (show News g aL _ _ by assumption)
        refine sortA (s := ⟨_, _, _, _, _⟩) F20 N20 ⟨_, (N20 (lz, LS M1 m3) (.tail _ (.head _))).1, rfl, _, rfl⟩ (by omega) ?_
        intro h21 A1 l1 e1 F21 N21 f21 hp1 hs1
        clear F20 N20
        (repeat' (first | ((with_reducible show @ite Prop _ _ _ _); first | refine if_pos_p (by decide) ?_ | refine if_neg_p (by decide) ?_) | ((with_reducible show wpAny _ _ (eval (Expr.Name _ _) (compEnvC _ _ _ _)) _ _ _); first | ((with_reducible refine' nmOwnF ?ca ?cb ?cd ?ce ?cf ?_); (case ca => with_reducible assumption); (case cb => with_reducible assumption); (case cd => rfl); (case ce => rfl); (case cf => decide)) | ((with_reducible refine' nmCellF ?ca ?cg ?cb ?cd ?ce ?cf ?_); (case cg => with_reducible assumption); (case ca => rfl); (case cb => with_reducible assumption); (case cd => rfl); (case ce => rfl); (case cf => decide))) | ((with_reducible show wpAny _ _ _ _ _ _); (fail_if_success (with_reducible (first | refine at1 ?_ | refine at2 ?_ | refine at3 ?_ | refine at5 ?_ | refine at12 ?_ | refine at14 ?_ | refine at17 ?_ | refine at15 ?_ | refine at16 ?_ | refine at9 ?_ | refine at10 ?_ | refine at11 ?_ | refine at18 ?_ | refine at19 ?_ | refine at20 ?_))); (try dsimp only); walk1)))
        have F22 := (show Fr g aL _ _ by assumption)
        have N22 := (show News g aL _ _ by assumption)
        refine sortA (s := ⟨_, _, _, _, _⟩) F22 N22 ⟨_, (N22 (D6, LS M2 m2) (.tail _ (.tail _ (.tail _ (.head _))))).1, rfl, _, rfl⟩ (by omega) ?_
        intro h23 A2 l2 e2 F23 N23 f23 hp2 hs2
        clear F22 N22 F21 N21
        (repeat' (first | ((with_reducible show @ite Prop _ _ _ _); first | refine if_pos_p (by decide) ?_ | refine if_neg_p (by decide) ?_) | ((with_reducible show wpAny _ _ (eval (Expr.Name _ _) (compEnvC _ _ _ _)) _ _ _); first | ((with_reducible refine' nmOwnF ?ca ?cb ?cd ?ce ?cf ?_); (case ca => with_reducible assumption); (case cb => with_reducible assumption); (case cd => rfl); (case ce => rfl); (case cf => decide)) | ((with_reducible refine' nmCellF ?ca ?cg ?cb ?cd ?ce ?cf ?_); (case cg => with_reducible assumption); (case ca => rfl); (case cb => with_reducible assumption); (case cd => rfl); (case ce => rfl); (case cf => decide))) | ((with_reducible show wpAny _ _ _ _ _ _); (fail_if_success (with_reducible (first | refine at1 ?_ | refine at2 ?_ | refine at3 ?_ | refine at5 ?_ | refine at12 ?_ | refine at14 ?_ | refine at17 ?_ | refine at15 ?_ | refine at16 ?_ | refine at9 ?_ | refine at10 ?_ | refine at11 ?_ | refine at18 ?_ | refine at19 ?_ | refine at20 ?_))); (try dsimp only); walk1)))
        refine zipA (s := ⟨_, _, _, _, _⟩) F23 N23 ⟨_, (N23 (A1, LS l1 e1) (.tail _ (.head _))).1, rfl, _, rfl⟩ ⟨_, (N23 (A2, LS l2 e2) (.head _)).1, rfl, _, rfl⟩ ?_
        intro h24 I o1 o2 _ F24 N24 f24 b1 c1 b2 c2 hA1I hA2I _
        clear F23 N23
        (repeat' (first | ((with_reducible show @ite Prop _ _ _ _); first | refine if_pos_p (by decide) ?_ | refine if_neg_p (by decide) ?_) | ((with_reducible show wpAny _ _ (eval (Expr.Name _ _) (compEnvC _ _ _ _)) _ _ _); first | ((with_reducible refine' nmOwnF ?ca ?cb ?cd ?ce ?cf ?_); (case ca => with_reducible assumption); (case cb => with_reducible assumption); (case cd => rfl); (case ce => rfl); (case cf => decide)) | ((with_reducible refine' nmCellF ?ca ?cg ?cb ?cd ?ce ?cf ?_); (case cg => with_reducible assumption); (case ca => rfl); (case cb => with_reducible assumption); (case cd => rfl); (case ce => rfl); (case cf => decide))) | ((with_reducible show wpAny _ _ _ _ _ _); (fail_if_success (with_reducible (first | refine at1 ?_ | refine at2 ?_ | refine at3 ?_ | refine at5 ?_ | refine at12 ?_ | refine at14 ?_ | refine at17 ?_ | refine at15 ?_ | refine at16 ?_ | refine at9 ?_ | refine at10 ?_ | refine at11 ?_ | refine at18 ?_ | refine at19 ?_ | refine at20 ?_))); (try dsimp only); walk1)))
        have F25 := (show Fr g aL _ _ by assumption)
        have N25 := (show News g aL _ _ by assumption)
        have hlz : (Heap.IsList _ lz (SV M1).toArray) := ⟨_, (N25 (lz, LS M1 m3) (by simp)).1, rfl, _, rfl⟩
        refine' kmk_slice (s := ⟨_, _, _, _, _⟩) (its := (SV M1).toArray) (lo := none) (hi := none) F25 N25 ?d9 .none .none ?_ ?d10 ?d11 ?d12
        case d9 => exact hlz
        case d10 => with_unfolding_all rfl
        case d11 => intro _; with_unfolding_all rfl
        case d12 => simp only [List.size_toArray, SV, List.length_map, sizeLine_eq]; omega
        intro D7 h26 F26 N26 l26
        rw [pick_all] at N26
        clear F25 N25
        (repeat' (first | ((with_reducible show @ite Prop _ _ _ _); first | refine if_pos_p (by decide) ?_ | refine if_neg_p (by decide) ?_) | ((with_reducible show wpAny _ _ (eval (Expr.Name _ _) (compEnvC _ _ _ _)) _ _ _); first | ((with_reducible refine' nmOwnF ?ca ?cb ?cd ?ce ?cf ?_); (case ca => with_reducible assumption); (case cb => with_reducible assumption); (case cd => rfl); (case ce => rfl); (case cf => decide)) | ((with_reducible refine' nmCellF ?ca ?cg ?cb ?cd ?ce ?cf ?_); (case cg => with_reducible assumption); (case ca => rfl); (case cb => with_reducible assumption); (case cd => rfl); (case ce => rfl); (case cf => decide))) | ((with_reducible show wpAny _ _ _ _ _ _); (fail_if_success (with_reducible (first | refine at1 ?_ | refine at2 ?_ | refine at3 ?_ | refine at5 ?_ | refine at12 ?_ | refine at14 ?_ | refine at17 ?_ | refine at15 ?_ | refine at16 ?_ | refine at9 ?_ | refine at10 ?_ | refine at11 ?_ | refine at18 ?_ | refine at19 ?_ | refine at20 ?_))); (try dsimp only); walk1)))
        have F27 := (show Fr g aL _ _ by assumption)
        have N27 := (show News g aL _ _ by assumption)
        have hlD6 : (Heap.IsList _ D6 (SV M2).toArray) := ⟨_, (N27 (D6, LS M2 m2) (by simp)).1, rfl, _, rfl⟩
        refine' kmk_slice (s := ⟨_, _, _, _, _⟩) (its := (SV M2).toArray) (lo := none) (hi := none) F27 N27 ?e9 .none .none ?_ ?e10 ?e11 ?e12
        case e9 => exact hlD6
        case e10 => with_unfolding_all rfl
        case e11 => intro _; with_unfolding_all rfl
        case e12 => simp only [List.size_toArray, SV, List.length_map, sizeLine_eq]; omega
        intro D8 h28 F28 N28 l28
        rw [pick_all] at N28
        clear F27 N27
        (repeat' (first | ((with_reducible show @ite Prop _ _ _ _); first | refine if_pos_p (by decide) ?_ | refine if_neg_p (by decide) ?_) | ((with_reducible show wpAny _ _ (eval (Expr.Name _ _) (compEnvC _ _ _ _)) _ _ _); first | ((with_reducible refine' nmOwnF ?ca ?cb ?cd ?ce ?cf ?_); (case ca => with_reducible assumption); (case cb => with_reducible assumption); (case cd => rfl); (case ce => rfl); (case cf => decide)) | ((with_reducible refine' nmCellF ?ca ?cg ?cb ?cd ?ce ?cf ?_); (case cg => with_reducible assumption); (case ca => rfl); (case cb => with_reducible assumption); (case cd => rfl); (case ce => rfl); (case cf => decide))) | ((with_reducible show wpAny _ _ _ _ _ _); (fail_if_success (with_reducible (first | refine at1 ?_ | refine at2 ?_ | refine at3 ?_ | refine at5 ?_ | refine at12 ?_ | refine at14 ?_ | refine at17 ?_ | refine at15 ?_ | refine at16 ?_ | refine at9 ?_ | refine at10 ?_ | refine at11 ?_ | refine at18 ?_ | refine at19 ?_ | refine at20 ?_))); (try dsimp only); walk1)))
        have hI7 : @LT.lt Nat _ (I + 4) D7 := l26 _ (.head _)
        have hI8 : @LT.lt Nat _ (I + 4) D8 := l28 _ (.tail _ (.head _))
        have N29 : News g aL h28 ((D8, LS M2 0) :: (D7, LS M1 0) :: (A2, LS l2 e2) :: (A1, LS l1 e1) :: (t, { cls := Value.type "tuple", data := Data.seq #[Value.ref lz, Value.ref D6] }) :: (lz, LS M1 m3) :: (D6, LS M2 m2) :: (D, W.listOf ys k) :: (D4, LS zs n4) :: (D2, LS xs n2) :: (aL + 1, oc) :: (tps ++ frs2)) := by
          intro q hq
          refine N28 q ?_
          rcases List.mem_cons.mp hq with rfl | hq
          · exact .head _
          rcases List.mem_cons.mp hq with rfl | hq
          · exact .tail _ (.head _)
          · exact .tail _ (.tail _ (.tail _ (.tail _ (.tail _ (.tail _ (.tail _ hq))))))
        have hz28 := N28 _ (.tail _ (.tail _ (.head _)))
        have hTI28 := N28 _ (.tail _ (.tail _ (.tail _ (.head _))))
        have hTO28 := N28 _ (.tail _ (.tail _ (.tail _ (.tail _ (.head _)))))
        have hi28 := N28 _ (.tail _ (.tail _ (.tail _ (.tail _ (.tail _ (.head _))))))
        have hj28 := N28 _ (.tail _ (.tail _ (.tail _ (.tail _ (.tail _ (.tail _ (.head _)))))))
        with_reducible refine' compZ (fun i y => ∃ t, y = .int 2 t) ?z1 ?z2 ?z3 ?z4 ?z5 ?z6 ?z7 ?z8 ?_ ?z9
        case z1 => rfl
        case z2 => rfl
        case z3 => decide
        case z4 => rfl
        case z5 => decide
        case z6 => rfl
        case z7 => rfl
        case z8 => decide
        case z9 => intro _; rfl
        (repeat' (first | ((with_reducible show @ite Prop _ _ _ _); first | refine if_pos_p (by decide) ?_ | refine if_neg_p (by decide) ?_) | ((with_reducible show wpAny _ _ (eval (Expr.Name _ _) (compEnvC _ _ _ _)) _ _ _); first | ((with_reducible refine' nmOwnF ?ca ?cb ?cd ?ce ?cf ?_); (case ca => with_reducible assumption); (case cb => with_reducible assumption); (case cd => rfl); (case ce => rfl); (case cf => decide)) | ((with_reducible refine' nmCellF ?ca ?cg ?cb ?cd ?ce ?cf ?_); (case cg => with_reducible assumption); (case ca => rfl); (case cb => with_reducible assumption); (case cd => rfl); (case ce => rfl); (case cf => decide))) | ((with_reducible show wpAny _ _ _ _ _ _); (fail_if_success (with_reducible (first | refine at1 ?_ | refine at2 ?_ | refine at3 ?_ | refine at5 ?_ | refine at12 ?_ | refine at14 ?_ | refine at17 ?_ | refine at15 ?_ | refine at16 ?_ | refine at9 ?_ | refine at10 ?_ | refine at11 ?_ | refine at18 ?_ | refine at19 ?_ | refine at20 ?_))); (try dsimp only); walk1)))
        refine ⟨I + 4, [I + 4, I + 2, I + 3, I, I + 1, A1, A2], [I + 4, I + 3, I, I + 1], min (SV l1).toArray.size (SV l2).toArray.size, _, _, _, g, _, _, rfl, WalksT.zip2 rfl (I + 4) (I + 2) (I + 3) I (I + 1) A1 A2 (ktu_apart I A1 A2 hA1I hA2I) (SV l1).toArray (SV l2).toArray, ?_, ?_, ?_, ?_, F28, N29, ?_, ?_, ?_⟩
        · rintro i vals ⟨x, y, _, _, rfl⟩
          rfl
        · have : (SV l1).toArray.size ≤ sizeLine := by
            have := hp1.length_eq
            simp only [List.length_map] at this
            simp only [List.size_toArray, SV_length, sizeLine_eq]; omega
          exact Nat.le_trans (Nat.min_le_left ..) this
        · exact ⟨hz28.1, ⟨hTI28.1, ⟨_, _, hTO28.1⟩, ⟨_, hi28.1, b1, c1⟩, ⟨_, hj28.1, b2, c2⟩, ⟨_, (N29 (A1, LS l1 e1) (.tail _ (.tail _ (.tail _ (.head _))))).1, rfl, _, rfl⟩, ⟨_, (N29 (A2, LS l2 e2) (.tail _ (.tail _ (.head _)))).1, rfl, _, rfl⟩⟩⟩
        · intro b hb
          have h1 := Heap.lt_size hz28.1
          have hb' : b ≤ I + 4 := by
            have hA1' : (A1 : Nat) < I := hA1I
            have hA2' : (A2 : Nat) < I := hA2I
            simp only [List.mem_cons, List.not_mem_nil, or_false] at hb
            rcases hb with h | h | h | h | h | h | h <;> (subst h; first | exact Nat.le_refl _ | exact Nat.add_le_add_left (by decide) _ | exact Nat.le_add_right _ _ | exact Nat.le_trans (Nat.le_of_lt hA1') (Nat.le_add_right _ _) | exact Nat.le_trans (Nat.le_of_lt hA2') (Nat.le_add_right _ _))
          exact Nat.lt_of_le_of_lt hb' h1
        · intro b hb
          have hbI : I ≤ b ∧ b ≤ I + 4 := by
            simp only [List.mem_cons, List.not_mem_nil, or_false] at hb
            rcases hb with h | h | h | h <;> (subst h; exact ⟨by first | exact Nat.le_refl _ | exact Nat.le_add_right _ _, by first | exact Nat.le_refl _ | exact Nat.add_le_add_left (by decide) _ | exact Nat.le_add_right _ _⟩)
          refine ⟨?_, ?_, ?_⟩
          · simp only [List.mem_cons, List.not_mem_nil, or_false] at hb
            rcases hb with rfl | rfl | rfl | rfl
            · exact hz28.2.1
            · exact hTO28.2.1
            · exact hi28.2.1
            · exact hj28.2.1
          · simp only [List.mem_cons, List.not_mem_nil, or_false] at hb
            rcases hb with rfl | rfl | rfl | rfl
            · exact hz28.2.2
            · exact hTO28.2.2
            · exact hi28.2.2
            · exact hj28.2.2
          · intro q hq
            rcases List.mem_cons.mp hq with rfl | hq
            · exact Nat.ne_of_gt (Nat.lt_of_le_of_lt hbI.2 hI8)
            rcases List.mem_cons.mp hq with rfl | hq
            · exact Nat.ne_of_gt (Nat.lt_of_le_of_lt hbI.2 hI7)
            · exact Nat.ne_of_lt (Nat.lt_of_lt_of_le (f24 q hq) hbI.1)
        · intro C i v₁ v₂ s₃ m₃ E' hi hv hC hn hx3 hy3 hk
          obtain ⟨x, y, hx, hy, hxy⟩ := hv
          have e1 : v₁ = x ∧ v₂ = y := by simpa using hxy
          obtain ⟨rfl, rfl⟩ := e1
          obtain ⟨q1, hq1, rfl⟩ : ∃ q, l1[i]? = some q ∧ v₁ = .str q.1 q.2 := by
            simp only [SV, List.getElem?_toArray, List.getElem?_map, Option.map_eq_some_iff] at hx
            obtain ⟨q, hq, e⟩ := hx
            exact ⟨q, hq, e.symm⟩
          obtain ⟨q2, hq2, rfl⟩ : ∃ q, l2[i]? = some q ∧ v₂ = .str q.1 q.2 := by
            simp only [SV, List.getElem?_toArray, List.getElem?_map, Option.map_eq_some_iff] at hy
            obtain ⟨q, hq, e⟩ := hy
            exact ⟨q, hq, e.symm⟩
          obtain ⟨u, v, c, ex, ey, hc, huv⟩ := hL1 _ _ hp1 hp2 hs1 hs2 i q1.1 q2.1 (by rw [List.getElem?_map, hq1]; rfl) (by rw [List.getElem?_map, hq2]; rfl)
          obtain ⟨x1, t1⟩ := q1
          obtain ⟨x2, t2⟩ := q2
          dsimp only at ex ey hx3 hy3
          subst ex ey
          obtain ⟨h7, gs7, d7, tk7, os7⟩ := s₃
          dsimp only at hn hk hC
          have F7 := blockFr hn
          have N7 : News (trunc C h7) C h7 [] := fun _ hq => nomatch hq
          have st7 : g.StaysIn (trunc C h7) := fun b o e => by
            have h1 := F28.keep b o e
            have hlt : @LT.lt Nat _ b h28.objs.size := Heap.lt_size h1
            rw [trunc_lt (Nat.lt_trans hlt hC)]
            refine hk b o (fun hb => ?_) h1
            simp only [List.mem_cons, List.not_mem_nil, or_false] at hb
            rcases hb with rfl | rfl | rfl | rfl
            · rw [hz28.2.2] at e; cases e
            · rw [hTO28.2.2] at e; cases e
            · rw [hi28.2.2] at e; cases e
            · rw [hj28.2.2] at e; cases e
          have X7 := X'.keeps st7
          have T7 := TT.keeps st7
          clear F28 N28 N29 X' TT
          (repeat' (first | ((with_reducible show @ite Prop _ _ _ _); first | refine if_pos_p (by decide) ?_ | refine if_neg_p (by decide) ?_) | ((with_reducible show wpAny _ _ (eval (Expr.Name _ _) (compEnvC _ _ _ _)) _ _ _); first | ((with_reducible refine' nmOwnF ?ca ?cb ?cd ?ce ?cf ?_); (case ca => with_reducible assumption); (case cb => with_reducible assumption); (case cd => rfl); (case ce => rfl); (case cf => decide)) | ((with_reducible refine' nmCellF ?ca ?cg ?cb ?cd ?ce ?cf ?_); (case cg => with_reducible assumption); (case ca => rfl); (case cb => with_reducible assumption); (case cd => rfl); (case ce => rfl); (case cf => decide))) | ((with_reducible show wpAny _ _ _ _ _ _); (fail_if_success (with_reducible (first | refine at1 ?_ | refine at2 ?_ | refine at3 ?_ | refine at5 ?_ | refine at12 ?_ | refine at14 ?_ | refine at17 ?_ | refine at15 ?_ | refine at16 ?_ | refine at9 ?_ | refine at10 ?_ | refine at11 ?_ | refine at18 ?_ | refine at19 ?_ | refine at20 ?_))); (try dsimp only); walk1)))
          refine ⟨X7.keeps F7.keep, ?_⟩
          refine ld_call (dp + 1) (un + 3) gd _ (trunc C h7) _ _ _ u v c t1 t2 tk7 X7 T7 F7.keep (by omega) (by omega) hc huv ?_
          intro h9 tk9 t' hk9
          exact ⟨⟨t', rfl⟩, keepsTo_of hk9⟩
        · intro D9 y9 k9 h9 tk9 hD9 F30 N30 hP30
          (repeat' (first | ((with_reducible show @ite Prop _ _ _ _); first | refine if_pos_p (by decide) ?_ | refine if_neg_p (by decide) ?_) | ((with_reducible show wpAny _ _ (eval (Expr.Name _ _) (compEnvC _ _ _ _)) _ _ _); first | ((with_reducible refine' nmOwnF ?ca ?cb ?cd ?ce ?cf ?_); (case ca => with_reducible assumption); (case cb => with_reducible assumption); (case cd => rfl); (case ce => rfl); (case cf => decide)) | ((with_reducible refine' nmCellF ?ca ?cg ?cb ?cd ?ce ?cf ?_); (case cg => with_reducible assumption); (case ca => rfl); (case cb => with_reducible assumption); (case cd => rfl); (case ce => rfl); (case cf => decide))) | ((with_reducible show wpAny _ _ _ _ _ _); (fail_if_success (with_reducible (first | refine at1 ?_ | refine at2 ?_ | refine at3 ?_ | refine at5 ?_ | refine at12 ?_ | refine at14 ?_ | refine at17 ?_ | refine at15 ?_ | refine at16 ?_ | refine at9 ?_ | refine at10 ?_ | refine at11 ?_ | refine at18 ?_ | refine at19 ?_ | refine at20 ?_))); (try dsimp only); walk1)))
          have F31 := (show Fr g aL _ _ by assumption)
          have N31 := (show News g aL _ _ by assumption)
          have hlen1 := hp1.length_eq
          have hlen2 := hp2.length_eq
          simp only [List.length_map] at hlen1 hlen2
          have hmin : min (SV l1).toArray.size (SV l2).toArray.size = M1.length := by
            simp only [List.size_toArray, SV_length]
            omega
          rw [hmin] at hP30
          have hP31 : ∀ h, ReadsAll h y9.toList (List.replicate M1.length (PyData.int 2)) [] := fun h => by
            have := reads_twos h hP30
            rwa [List.length_range] at this
          obtain ⟨as, RR⟩ := told_reads (ts := (cdF xs zs).map fun r => PyData.tuple [.int r.1, .int r.2.1, .str r.2.2.1]) (N31 _ (.head _)).1 (N31 (D2, LS xs n2) (by simp)).1 (N31 (D4, LS zs n4) (by simp)).1 (N31 (D, W.listOf ys k) (by simp)).1 (N31 (D7, LS M1 0) (by simp)).1 (N31 (D8, LS M2 0) (by simp)).1 (N31 (D9, W.listOf y9 k9) (by simp)).1
            (by rw [hys]; exact reads_tups _ (fun q hq => (N31 q (by simp [hq])).1) hTP2) (hP31 _)
          exact hQ _ _ _ as frs2 xs zs hxe (by rw [hze]) (by unfold toldD; rw [hM1, hM2]; exact RR) SU2 (fun q hq => (N31 q (by simp [hq])).1) (fun y o hy hn => F31.keep y o (hg y o hy hn))
end Mine
end
section
open PySem PySem.W PyProof.Rows PySem.Calls
set_option Elab.async false
set_option maxRecDepth 10000
set_option maxHeartbeats 400000
namespace Mine
/-- a line of counts without its token -/
def dat3 (r : Int × Int × (Str × Tok)) : Int × Int × Str := (r.1, r.2.1, r.2.2.1)
def dueStepS (A B : List Str) (k : Nat) : List (Int × Int × Str) := match (A ++ B)[k]? with
  | some x => if ((A ++ B).take k).contains x = false ∧ A.count x ≠ B.count x then [((A.count x : Int), (B.count x : Int), x)] else []
  | none => []
/-- the counts as the law says them, the first k places -/
def dueCS (A B : List Str) : Nat → List (Int × Int × Str)
  | 0 => []
  | k + 1 => dueCS A B k ++ dueStepS A B k
/-- what is crossed out -/
def offL (S : List Str) (xs : List (Str × Tok)) : OS := xs.map fun p => if S.contains p.1 then none else some p
theorem offL_get (S : List Str) (xs : List (Str × Tok)) (i : Nat) : (offL S xs)[i]? = (xs[i]?).map fun p => if S.contains p.1 then none else some p := by simp [offL]
theorem nulK_off (k : Str) (S : List Str) (xs : List (Str × Tok)) : nulK k (offL S xs) = offL (S ++ [k]) xs := by
  unfold nulK offL
  rw [List.map_map]
  apply List.map_congr_left
  intro p _
  simp only [Function.comp]
  by_cases h : p.1 ∈ S
  · have h1 : S.contains p.1 = true := by simpa using h
    have h2 : (S ++ [k]).contains p.1 = true := by simp [h]
    rw [if_pos h1, if_pos h2]; rfl
  · have h1 : ¬ S.contains p.1 = true := by simpa using h
    rw [if_neg h1]
    by_cases q : p.1 = k
    · have h2 : (S ++ [k]).contains p.1 = true := by simp [q]
      rw [if_pos h2, if_pos (by simp [isK, q])]
    · have h2 : ¬ (S ++ [k]).contains p.1 = true := by simp [q, h]
      rw [if_neg h2, if_neg (by simp [isK, q])]
theorem cntK_off (k : Str) (S : List Str) (xs : List (Str × Tok)) (h : k ∉ S) : cntK k (offL S xs) = (xs.map Prod.fst).count k := by
  unfold cntK offL
  rw [List.countP_map, List.count, List.countP_map]
  apply List.countP_congr
  intro p _
  simp only [Function.comp]
  by_cases q : p.1 = k
  · subst q
    rw [if_neg (by simpa using h)]; simp [isK]
  · by_cases z : S.contains p.1 = true
    · rw [if_pos z]; simp [isK, q]
    · rw [if_neg z]; simp [isK]
theorem off_front (S : List Str) (xs : List (Str × Tok)) (i : Nat) (h : ∀ x ∈ (xs.map Prod.fst).take i, x ∈ S) : ∀ o ∈ (offL S xs).take i, o = none := by
  intro o ho
  unfold offL at ho
  rw [← List.map_take] at ho
  obtain ⟨p, hp, rfl⟩ := List.mem_map.mp ho
  have : p.1 ∈ S := h _ (by rw [← List.map_take]; exact List.mem_map_of_mem hp)
  rw [if_pos (by simpa using this)]
theorem nulK_nones (k : Str) (l : OS) (h : ∀ o ∈ l, o = none) : nulK k l = l := by
  unfold nulK
  conv => rhs; rw [← List.map_id l]
  apply List.map_congr_left
  intro o ho
  rw [h o ho]; rfl
theorem cntK_nones (k : Str) (l : OS) (h : ∀ o ∈ l, o = none) : cntK k l = 0 := by
  unfold cntK
  rw [List.countP_eq_zero]
  intro o ho
  rw [h o ho]; simp [isK]
theorem nul_split (k : Str) (l : OS) (i : Nat) (h : ∀ o ∈ l.take i, o = none) : l.take i ++ nulK k (l.drop i) = nulK k l := by
  conv => rhs; rw [← List.take_append_drop i l]
  unfold nulK
  rw [List.map_append]
  congr 1
  exact (nulK_nones k _ h).symm
theorem cnt_split (k : Str) (l : OS) (i : Nat) (h : ∀ o ∈ l.take i, o = none) : cntK k (l.drop i) = cntK k l := by
  conv => rhs; rw [← List.take_append_drop i l]
  unfold cntK
  rw [List.countP_append]
  have := cntK_nones k _ h
  unfold cntK at this
  omega
theorem off_same (S : List Str) (x : Str) (xs : List (Str × Tok)) (h : x ∈ S) : offL (S ++ [x]) xs = offL S xs := by
  unfold offL
  apply List.map_congr_left
  intro p _
  congr 1
  simp only [List.contains_append, eq_iff_iff, Bool.or_eq_true]
  constructor
  · rintro (h1 | h1)
    · exact h1
    · have : p.1 = x := by simpa using h1
      rw [this]; simpa using h
  · exact .inl
theorem take_map_succ (xs : List (Str × Tok)) (i : Nat) (p : Str × Tok) (h : xs[i]? = some p) : (xs.map Prod.fst).take (i + 1) = (xs.map Prod.fst).take i ++ [p.1] := by
  rw [List.take_add_one, List.getElem?_map, h]; rfl
theorem cd1_inv (xs zs : List (Str × Tok)) : ∀ i, i ≤ xs.length → ∃ res, (List.range i).foldl step1 (xs.map some, zs.map some, []) = (offL ((xs.map Prod.fst).take i) xs, offL ((xs.map Prod.fst).take i) zs, res) ∧
    res.map dat3 = dueCS (xs.map Prod.fst) (zs.map Prod.fst) i
  | 0, _ => ⟨[], by simp [offL], rfl⟩
  | i + 1, hi => by
    obtain ⟨res, e, hr⟩ := cd1_inv xs zs i (by omega)
    rw [List.range_succ, List.foldl_append, e]
    simp only [List.foldl_cons, List.foldl_nil]
    have hp : xs[i]? = some xs[i] := List.getElem?_eq_getElem (by omega)
    generalize xs[i] = p at hp
    have hAB : ((xs.map Prod.fst) ++ (zs.map Prod.fst))[i]? = some p.1 := by
      rw [List.getElem?_append_left (by simp; omega), List.getElem?_map, hp]; rfl
    have htk : ((xs.map Prod.fst) ++ (zs.map Prod.fst)).take i = (xs.map Prod.fst).take i := by
      rw [List.take_append_of_le_length (by simp; omega)]
    rw [take_map_succ _ _ _ hp]
    generalize hS : (xs.map Prod.fst).take i = S at *
    unfold step1
    simp only [offL_get, hp, Option.map_some]
    by_cases hm : p.1 ∈ S
    · rw [if_pos (by simpa using hm)]
      refine ⟨res, ?_, ?_⟩
      · rw [off_same _ _ _ hm, off_same _ _ _ hm]
      · show _ = dueCS _ _ i ++ dueStepS _ _ i
        rw [hr]
        unfold dueStepS
        rw [hAB]
        dsimp only
        rw [htk, if_neg (by simp [hm]), List.append_nil]
    · rw [if_neg (by simpa using hm)]
      dsimp only
      have hfr := off_front S xs i (by rw [hS]; exact fun _ h => h)
      rw [nul_split _ _ _ hfr, cnt_split _ _ _ hfr, nulK_off, nulK_off, cntK_off _ _ _ hm, cntK_off _ _ _ hm]
      refine ⟨_, rfl, ?_⟩
      show _ = dueCS _ _ i ++ dueStepS _ _ i
      unfold dueStepS
      rw [hAB]
      dsimp only
      rw [htk]
      by_cases hc : (xs.map Prod.fst).count p.1 = (zs.map Prod.fst).count p.1
      · rw [if_neg (by simp [hc]), if_neg (by simp [hc]), List.append_nil, hr]
      · rw [if_pos (by omega), if_pos ⟨by simpa using hm, hc⟩, List.map_append, hr]; rfl
theorem cd2_inv (xs zs : List (Str × Tok)) (res0 : RTy) (h0 : res0.map dat3 = dueCS (xs.map Prod.fst) (zs.map Prod.fst) xs.length) : ∀ i, i ≤ zs.length →
    ∃ res, (List.range i).foldl step2 (offL (xs.map Prod.fst) zs, res0) = (offL (xs.map Prod.fst ++ (zs.map Prod.fst).take i) zs, res) ∧ res.map dat3 = dueCS (xs.map Prod.fst) (zs.map Prod.fst) (xs.length + i)
  | 0, _ => ⟨res0, by simp, h0⟩
  | i + 1, hi => by
    obtain ⟨res, e, hr⟩ := cd2_inv xs zs res0 h0 i (by omega)
    rw [List.range_succ, List.foldl_append, e]
    simp only [List.foldl_cons, List.foldl_nil]
    have hp : zs[i]? = some zs[i] := List.getElem?_eq_getElem (by omega)
    generalize zs[i] = p at hp
    have hAB : ((xs.map Prod.fst) ++ (zs.map Prod.fst))[xs.length + i]? = some p.1 := by
      rw [List.getElem?_append_right (by simp), List.getElem?_map, List.length_map, Nat.add_sub_cancel_left, hp]; rfl
    have htk : ((xs.map Prod.fst) ++ (zs.map Prod.fst)).take (xs.length + i) = xs.map Prod.fst ++ (zs.map Prod.fst).take i := by
      rw [List.take_append, List.length_map, Nat.add_sub_cancel_left, List.take_of_length_le (by simp)]
    rw [take_map_succ _ _ _ hp, ← List.append_assoc]
    generalize hS : xs.map Prod.fst ++ (zs.map Prod.fst).take i = S at *
    unfold step2
    simp only [offL_get, hp, Option.map_some]
    by_cases hm : p.1 ∈ S
    · rw [if_pos (by simpa using hm)]
      refine ⟨res, ?_, ?_⟩
      · rw [off_same _ _ _ hm]
      · show _ = dueCS _ _ (xs.length + i) ++ dueStepS _ _ (xs.length + i)
        rw [hr]
        unfold dueStepS
        rw [hAB]
        dsimp only
        rw [htk, if_neg (by simp [hm]), List.append_nil]
    · rw [if_neg (by simpa using hm)]
      dsimp only
      have hfr := off_front S zs i (by rw [← hS]; exact fun _ h => List.mem_append_right _ h)
      rw [nul_split _ _ _ hfr, cnt_split _ _ _ hfr, nulK_off, cntK_off _ _ _ hm]
      refine ⟨_, rfl, ?_⟩
      show _ = dueCS _ _ (xs.length + i) ++ dueStepS _ _ (xs.length + i)
      unfold dueStepS
      rw [hAB]
      dsimp only
      have hA : p.1 ∉ xs.map Prod.fst := fun h => hm (by rw [← hS]; exact List.mem_append_left _ h)
      have hcA : (xs.map Prod.fst).count p.1 = 0 := List.count_eq_zero.mpr hA
      have hcB : 0 < (zs.map Prod.fst).count p.1 := List.count_pos_iff.mpr (List.mem_map_of_mem (List.mem_of_getElem? hp))
      rw [htk, if_pos ⟨by simpa using hm, by omega⟩, List.map_append, hr, hcA]; rfl
theorem cdF_eq (xs zs : List (Str × Tok)) : (cdF xs zs).map dat3 = dueCS (xs.map Prod.fst) (zs.map Prod.fst) (xs.length + zs.length) := by
  obtain ⟨r1, e1, h1⟩ := cd1_inv xs zs xs.length (Nat.le_refl _)
  have e2 : cd1 xs zs = (offL (xs.map Prod.fst) xs, offL (xs.map Prod.fst) zs, r1) := by
    unfold cd1; rw [e1, List.take_of_length_le (by simp)]
  obtain ⟨r2, e3, h2⟩ := cd2_inv xs zs r1 h1 zs.length (Nat.le_refl _)
  unfold cdF
  rw [e2]
  dsimp only
  rw [e3]
  exact h2
end Mine
end
section
open PySem PySem.W PyProof.Rows PySem.Calls
set_option Elab.async false
set_option maxRecDepth 10000
set_option maxHeartbeats 400000
namespace Mine
/-- the first c v likes of each v are taken out -/
def remF : (Str → Nat) → List Str → List Str
  | _, [] => []
  | c, y :: ys => if 0 < c y then remF (fun z => if z = y then c z - 1 else c z) ys else y :: remF c ys
theorem remF_congr {c d : Str → Nat} {ys : List Str} (h : ∀ z, c z = d z) : remF c ys = remF d ys := by
  have : c = d := funext h
  rw [this]
theorem remF_zero : ∀ (ys : List Str), remF (fun _ => 0) ys = ys
  | [] => rfl
  | y :: ys => by unfold remF; rw [if_neg (Nat.lt_irrefl 0), remF_zero ys]
theorem remF_erase : ∀ (ys : List Str) (c : Str → Nat) (x : Str), (remF c ys).erase x = remF (fun z => if z = x then c z + 1 else c z) ys
  | [], _, _ => rfl
  | y :: ys, c, x => by
    unfold remF
    by_cases hy : 0 < c y
    · rw [if_pos hy, if_pos (by dsimp only; split <;> omega), remF_erase ys]
      apply remF_congr
      intro z
      dsimp only
      by_cases h1 : z = x
      · by_cases h2 : z = y
        · rw [if_pos h1, if_pos h2, if_pos h2, if_pos h1]; have : c z = c y := by rw [h2]
          omega
        · rw [if_pos h1, if_neg h2, if_neg h2, if_pos h1]
      · by_cases h2 : z = y
        · rw [if_neg h1, if_pos h2, if_pos h2, if_neg h1]
        · rw [if_neg h1, if_neg h2, if_neg h2, if_neg h1]
    · rw [if_neg hy]
      by_cases h : y = x
      · subst h
        rw [if_pos (by dsimp only; rw [if_pos rfl]; omega), List.erase_cons_head]
        apply remF_congr
        intro z
        dsimp only
        by_cases h2 : z = y
        · rw [if_pos h2, if_pos h2]; rfl
        · rw [if_neg h2, if_neg h2]
      · rw [if_neg (by dsimp only; rw [if_neg h]; omega), List.erase_cons_tail (by simpa using h), remF_erase ys]
theorem remF_count : ∀ (ys : List Str) (c : Str → Nat) (v : Str), (remF c ys).count v = ys.count v - c v
  | [], _, _ => by simp [remF]
  | y :: ys, c, v => by
    unfold remF
    by_cases hy : 0 < c y
    · rw [if_pos hy, remF_count ys, List.count_cons]
      by_cases h : v = y
      · subst h; rw [if_pos rfl, if_pos (by simp)]; omega
      · rw [if_neg h, if_neg (by simpa using fun e => h e.symm)]; rfl
    · rw [if_neg hy, List.count_cons, List.count_cons, remF_count ys]
      by_cases h : v = y
      · subst h; simp; omega
      · rw [if_neg (by simpa using fun e => h e.symm)]; rfl
theorem eraseP_fst (ys : List (Str × Tok)) (x : Str) : (ys.eraseP fun p => p.1 == x).map Prod.fst = (ys.map Prod.fst).erase x := by
  induction ys with
  | nil => rfl
  | cons y ys ih =>
    rw [List.eraseP_cons, List.map_cons, List.erase_cons]
    by_cases h : (y.1 == x) = true
    · rw [if_pos h, h]; rfl
    · rw [if_neg h, ← ih, Bool.not_eq_true _ |>.mp h]; rfl
theorem any_fst (ys : List (Str × Tok)) (x : Str) : ys.any (fun p => p.1 == x) = true ↔ x ∈ ys.map Prod.fst := by
  rw [List.any_eq_true]
  constructor
  · rintro ⟨p, hp, e⟩; exact (by simpa using e : p.1 = x) ▸ List.mem_map_of_mem hp
  · intro h; obtain ⟨p, hp, rfl⟩ := List.mem_map.mp h; exact ⟨p, hp, by simp⟩
theorem uld_left (B : List Str) : ∀ (l ys zs : List (Str × Tok)) (c : Str → Nat), ys.map Prod.fst = remF c B → (uldF l ys zs).2.map Prod.fst = remF (fun z => c z + (l.map Prod.fst).count z) B
  | [], ys, zs, c, h => by simpa [uldF] using h
  | x :: l, ys, zs, c, h => by
    have key : remF (fun z => (if z = x.1 then c z + 1 else c z) + (l.map Prod.fst).count z) B = remF (fun z => c z + ((x :: l).map Prod.fst).count z) B := by
      apply remF_congr
      intro z
      rw [List.map_cons, List.count_cons]
      by_cases e : z = x.1
      · rw [if_pos e, if_pos (by simp [e])]; omega
      · rw [if_neg e, if_neg (by simpa using fun q => e q.symm)]; omega
    unfold uldF
    split
    · rename_i hm
      rw [uld_left B l _ zs (fun z => if z = x.1 then c z + 1 else c z) (by rw [eraseP_fst, h, remF_erase]), key]
    · rename_i hm
      rw [any_fst] at hm
      rw [uld_left B l _ _ (fun z => if z = x.1 then c z + 1 else c z) (by rw [← remF_erase, ← h, List.erase_of_not_mem hm]), key]
theorem uld_miss (Fp : Str → Bool) : ∀ (l ys zs : List (Str × Tok)), (∀ v, Fp v = false → (l.map Prod.fst).count v ≤ (ys.map Prod.fst).count v) → (∀ v, Fp v = true → v ∉ ys.map Prod.fst) →
    (uldF l ys zs).1.map Prod.fst = zs.map Prod.fst ++ (l.map Prod.fst).filter Fp
  | [], ys, zs, _, _ => by simp [uldF]
  | x :: l, ys, zs, h1, h2 => by
    unfold uldF
    rw [List.map_cons, List.filter_cons]
    split
    · rename_i hm
      rw [any_fst] at hm
      have hF : Fp x.1 = false := by
        cases q : Fp x.1 with
        | false => rfl
        | true => exact absurd hm (h2 _ q)
      rw [if_neg (by simp [hF])]
      refine uld_miss Fp l _ zs (fun v hv => ?_) (fun v hv hm' => h2 v hv ?_)
      · rw [eraseP_fst, List.count_erase]
        have := h1 v hv
        rw [List.map_cons, List.count_cons] at this
        by_cases e : v = x.1
        · subst e
          simp only [beq_self_eq_true, if_true] at this ⊢
          omega
        · rw [if_neg (by simpa using fun q => e q.symm)] at this ⊢
          omega
      · rw [eraseP_fst] at hm'
        exact List.mem_of_mem_erase hm'
    · rename_i hm
      rw [any_fst] at hm
      have hF : Fp x.1 = true := by
        cases q : Fp x.1 with
        | true => rfl
        | false =>
          have := h1 _ q
          rw [List.map_cons, List.count_cons, if_pos (by simp)] at this
          exact absurd (List.count_pos_iff.mp (by omega)) hm
      rw [if_pos hF, uld_miss Fp l ys (zs ++ [x]) (fun v hv => ?_) h2]
      · simp
      · have := h1 v hv
        rw [List.map_cons, List.count_cons] at this
        omega
/-- the law's own test: as many like ones ahead as there were -/
def pL (A B : List Str) (k : Nat) : Bool := match B[k]? with
  | some x => decide (A.count x ≤ (B.take k).count x)
  | none => false
def leftS (A B : List Str) : List Str := ((List.range B.length).filter (pL A B)).map fun k => (B[k]?).getD ⟨#[]⟩
theorem remF_idx (c : Str → Nat) : ∀ (ys pre : List Str), ((List.range ys.length).filter fun k => match ys[k]? with
    | some x => decide (c x ≤ (pre ++ ys.take k).count x)
    | none => false).map (fun k => (ys[k]?).getD ⟨#[]⟩) = remF (fun z => c z - pre.count z) ys
  | [], pre => rfl
  | y :: ys, pre => by
    rw [List.length_cons, List.range_succ_eq_map, List.filter_cons, List.filter_map]
    have ih := remF_idx c ys (pre ++ [y])
    have e1 : ∀ k, ((fun k => match (y :: ys)[k]? with
        | some x => decide (c x ≤ (pre ++ (y :: ys).take k).count x)
        | none => false) ∘ Nat.succ) k = (match ys[k]? with
        | some x => decide (c x ≤ ((pre ++ [y]) ++ ys.take k).count x)
        | none => false) := by
      intro k
      simp only [Function.comp, List.getElem?_cons_succ, List.take_succ_cons, List.append_assoc, List.singleton_append]
      rfl
    rw [List.filter_congr (fun k _ => e1 k)]
    simp only [List.getElem?_cons_zero, List.take_zero, List.append_nil]
    have e2 : ∀ l : List Nat, (l.map Nat.succ).map (fun k => ((y :: ys)[k]?).getD ⟨#[]⟩) = l.map (fun k => (ys[k]?).getD ⟨#[]⟩) := by
      intro l; rw [List.map_map]; rfl
    unfold remF
    by_cases hy : 0 < c y - pre.count y
    · rw [if_neg (by simp; omega), if_pos hy, e2, ih]
      apply remF_congr
      intro z
      rw [List.count_append, List.count_cons, List.count_nil]
      by_cases e : z = y
      · subst e; simp; omega
      · rw [if_neg e, if_neg (by simpa using fun q => e q.symm)]; rfl
    · rw [if_pos (by simp; omega), if_neg hy, List.map_cons, e2, ih]
      congr 1
      apply remF_congr
      intro z
      rw [List.count_append, List.count_cons, List.count_nil]
      by_cases e : z = y
      · subst e; simp; omega
      · rw [if_neg (by simpa using fun q => e q.symm)]; rfl
theorem leftS_eq (A B : List Str) : leftS A B = remF (fun z => A.count z) B := by
  have := remF_idx (fun z => A.count z) B []
  simp only [List.nil_append, List.count_nil, Nat.sub_zero] at this
  exact this
end Mine
end
section
open PySem PySem.W PyProof.Rows PySem.Calls PyProof.V PyProof.Rows.TI
set_option Elab.async false
set_option maxRecDepth 100000
set_option maxHeartbeats 2000000
namespace Mine
theorem fillup14 : PySem.Challenge.rw_oy0181_01 = PySem.Challenge.rw_oy0181_01 ∧ KK = KK := by k_fill; exact ⟨rfl, rfl⟩
variable {prog : Program} {w : World} {p : Program} {loose : List Str} {mean : ExcName → Option Value} {mg mb : Str → Option Value}
theorem countIn_strs (k : Str) : ∀ (l : List Str), Spec.countIn (.str k) (l.map PyData.str) = (l.count k : Int)
  | [] => rfl
  | x :: l => by
    rw [List.map_cons, List.count_cons]
    unfold Spec.countIn
    rw [countIn_strs k l]
    by_cases h : x = k
    · subst h; simp [Spec.same]; omega
    · simp [Spec.same, h]
section
variable {A : Around} {s : Shared} {E Q : Value → Shared → Prop} {g : Heap} {L : Addr} {m : Str → Option Value} {news : List (Addr × Obj)}
theorem addLS {a b : Addr} {xs zs : List (Str × Tok)} {n2 n4 : Nat} (F : Fr g L s.heap m) (N : News g L s.heap news) (h1 : (a, LS xs n2) ∈ news) (h2 : (b, LS zs n4) ∈ news) (hsz : xs.length + zs.length ≤ 1000)
    (h : ∀ h' S, Fr g L h' m → News g L h' ((S, LS (xs ++ zs) 0) :: news) → (∀ q ∈ news, q.1 < S) → Q (.ref S) { s with heap := h' }) : wpAny (model prog w) A (binaryOp .Add (.ref a) (.ref b)) Q E s := by
  refine add_lists (vs := SV xs) (ws := SV zs) F N ⟨_, (N _ h1).1, rfl, n2, rfl⟩ ⟨_, (N _ h2).1, rfl, n4, rfl⟩ (fun h' F' N' => ?_) (by rw [SV_length, SV_length, sizeLine_eq]; omega)
  rw [← SV_append] at N'
  exact h h' _ F' N' fun q hq => Heap.lt_size (N q hq).1
theorem cntLS {l : Addr} {xs : List (Str × Tok)} {k : Str} {t : Tok} (hl : s.heap.IsList l (SV xs).toArray) (h : Q (.int ((xs.map Prod.fst).count k : Nat) s.toks) { s with toks := s.toks + 1 }) :
    wpAny (model prog w) A (PySem.call (.builtin "list.count") [.ref l, .str k t]) Q E s := by
  refine count_list_strs hl (sv_strs xs) ?_
  rw [countIn_strs]; exact h
theorem notinLS {l : Addr} {xs : List (Str × Tok)} {k : Str} {t : Tok} (hl : s.heap.IsList l (SV xs).toArray) (h : Q (.bool (!(xs.map Prod.fst).contains k)) s) :
    wpAny (model prog w) A (compareOp .NotIn (.str k t) (.ref l)) Q E s := by
  refine notin_list_strs hl (sv_strs xs) ?_
  have e : (xs.map Prod.fst).any (fun x => x == k) = (xs.map Prod.fst).contains k := by
    rw [List.contains_eq_any_beq]
    congr 1; funext x; exact Bool.eq_iff_iff.mpr ⟨fun h => by simpa using (by simpa using h : x = k).symm, fun h => by simpa using (by simpa using h : k = x).symm⟩
  rw [e]; exact h
abbrev dueEnv (L' : Addr) : Env := envX (Str.ofString "_law_due") (scopeIn (st 40)) L' 235 (.ref 234) (cellsFrom (L' + 1) (scopeIn (st 40)).names [])
theorem tailOps {value slice : PySem.Expr} {o i : Value} {T id : String} {ops : List Value} (hT : s.TypeIs o T)
    (hl : typeLookup (.type T) "__getitem__" = pure (some (.builtin id))) (h : wpAny (model prog w) A (getItem o i) Q E s)
    (hs : subscripted slice false o i = operate ops (getItem o i)) : wpAny (model prog w) A (subscriptTail value slice o i) Q E s := by
  unfold subscriptTail
  refine wpAny_bind ?_
  rw [getitemInPython_of_ne hT.not_modules]
  refine wpAny_bind (wpAny_specialOf hT hl ?_)
  have fin : wpAny (model prog w) A (subscripted slice false o i) (fun r s₃ => wpAny (model prog w) A (letTemporaryGo value o r >>= fun _ => pure r) Q E s₃) E s := by
    rw [hs]
    exact wpAny_operating (wpAny_mono h (fun r s₃ h₃ => wpAny_bind (wpAny_letTemporaryGo (wpAny_pure h₃))) fun _ _ x => x)
  first
    | exact wpAny_pure (wpAny_bind fin)
    | exact wpAny_bind (wpAny_pure (wpAny_bind fin))
    | exact wpAny_bind fin
theorem sliceT {value slice : PySem.Expr} {l : Addr} {items : Array Value} {vl vu vk : Value} {lo hi st : Option Int} {ops : List Value}
    (F : Fr g L s.heap m) (N : News g L s.heap news) (hl : s.heap.IsList l items) (pl : IsPart vl lo) (pu : IsPart vu hi) (pk : IsPart vk st) (h0 : st ≠ some 0)
    (h : ∀ h' D, Fr g L h' m → News g L h' ((D, W.listOf (slicePick items lo hi st) 0) :: news) → (∀ q ∈ news, q.1 < D) → Q (.ref D) { s with heap := h' })
    (hs : subscripted slice false (.ref l) (.ref s.heap.objs.size) = operate ops (getItem (.ref l) (.ref s.heap.objs.size)))
    (hsz : items.size ≤ sizeLine) :
    wpAny (model prog w) A (subscriptTail value slice (.ref l) (.ref s.heap.objs.size)) Q E { s with heap := s.heap.push { cls := .type "slice", data := .fields #[vl, vu, vk] } } := by
  refine tailOps (Heap.IsList.typeIs (s := { s with heap := s.heap.push { cls := .type "slice", data := .fields #[vl, vu, vk] } }) (hl.push _)) slot_list_getitem.lookup
    (wpAny_getItem_list_slice (hl.push _) (Heap.IsSliceOf.new ..) pl pu pk h0 ?_ hsz) hs
  have N1 := News.push (F.push { cls := .type "slice", data := .fields #[vl, vu, vk] }) (N.grown fun _ _ e => Heap.get?_push_of_some _ e) { cls := .type "list", data := .seq (slicePick items lo hi st) }
  rw [Heap.size_push] at N1
  show Q (.ref (s.heap.push _).objs.size) _
  rw [Heap.size_push]
  exact h _ _ ((F.push _).push _) N1 fun q hq => Nat.lt_succ_of_lt (Heap.lt_size (N q hq).1)
theorem itemT {value slice : PySem.Expr} {l : Addr} {items : Array Value} {k : Int} {u : Tok} {x : Value} (hl : s.heap.IsList l items) (h0 : 0 ≤ k) (hfit : k < 2 ^ 63) (hx : items[k.toNat]? = some x) (h : Q x s)
    (hs : subscripted slice false (.ref l) (.int k u) = operate [.ref l, .int k u] (getItem (.ref l) (.int k u))) :
    wpAny (model prog w) A (subscriptTail value slice (.ref l) (.int k u)) Q E s :=
  tailOps hl.typeIs slot_list_getitem.lookup (wpAny_getItem_list hl h0 hfit hx h) hs
end
theorem due_loop (dp un : Nat) (gd : Option (List Code)) (fr : Option (List Env)) (g : Heap) (L' : Addr) (s : Shared) (lm D2 D4 : Addr) (ms : List (Int × Tok)) (xs zs : List (Str × Tok)) (n2 n4 : Nat) (oc1 oc2 oc3 : Obj) (Q : Flow → Shared → Prop)
   (X' : (KK w.params).In g) (TT : Top p loose mean mg mb g) (hdp : dp + 20 < recursionLimit) (hun : un + 100 < cLine)
   (F : Fr g L' s.heap (fun y => if y = Str.ofString "modes" then some (.ref lm) else none))
   (N : News g L' s.heap [(D4, LS zs n4), (D2, LS xs n2), (L' + 1 + 1 + 1, oc1), (L' + 1 + 1, oc2), (L' + 1, oc3)])
   (hoc1 : oc1.data = .cell (some (.ref D4))) (hoc2 : oc2.data = .cell (some (.ref D2))) (hG : g.IsList lm (IV ms).toArray)
   (hms : ms.length ≤ 20) (hxl : xs.length = ms.length) (hzl : zs.length = ms.length)
   (hQ : ∀ h' tk mm R n tps res, Fr g L' h' mm → mm "modes" = some (.ref lm) → mm "counts" = some (.ref R) → News g L' h' ((R, W.listOf (tps.map (fun q => Value.ref q.1)).toArray n) :: (D4, LS zs n4) :: (D2, LS xs n2) :: (L' + 1 + 1 + 1, oc1) :: (L' + 1 + 1, oc2) :: (L' + 1, oc3) :: tps) →
     Paired (fun (q : Addr × Obj) (r : Int × Int × (Str × Tok)) => ∃ t1 t2, q.2 = tupO r t1 t2) tps res → res.map dat3 = dueCS (xs.map Prod.fst) (zs.map Prod.fst) (2 * ms.length) →
     wpAny (model prog w) ((Ar dp un gd fr).deeper (dueEnv L')) (execs (List.drop 4 (bodyIn (st 40))) (dueEnv L')) Q (fun _ _ => False) { s with heap := h', toks := tk }) :
   wpAny (model prog w) ((Ar dp un gd fr).deeper (dueEnv L')) (execs (List.drop 2 (bodyIn (st 40))) (dueEnv L')) Q (fun _ _ => False) s := by
  unfold dueEnv at *
  generalize hb : List.drop 2 (bodyIn (st 40)) = body
  conv at hb => lhs; whnf
  subst hb
  generalize hb : List.drop 4 (bodyIn (st 40)) = body at hQ
  conv at hb => lhs; whnf
  subst hb
  generalize hs : scopeIn (st 40) = scope at *
  conv at hs => lhs; whnf
  subst hs
  (repeat' (first | ((with_reducible show @ite Prop _ _ _ _); first | refine if_pos_p (by decide) ?_ | refine if_neg_p (by decide) ?_) | ((with_reducible show wpAny _ _ (eval (Expr.Name _ _) (compEnvC _ _ _ _)) _ _ _); first | ((with_reducible refine' nmOwnF ?ca ?cb ?cd ?ce ?cf ?_); (case ca => with_reducible assumption); (case cb => with_reducible assumption); (case cd => rfl); (case ce => rfl); (case cf => decide)) | ((with_reducible refine' nmCellF ?ca ?cg ?cb ?cd ?ce ?cf ?_); (case cg => with_reducible assumption); (case ca => rfl); (case cb => with_reducible assumption); (case cd => rfl); (case ce => rfl); (case cf => decide))) | ((with_reducible show wpAny _ _ _ _ _ _); (fail_if_success (with_reducible (first | refine at1 ?_ | refine at2 ?_ | refine at3 ?_ | refine at5 ?_ | refine at12 ?_ | refine at14 ?_ | refine at15 ?_ | refine at16 ?_ | refine at9 ?_ | refine at10 ?_ | refine at11 ?_ | refine at18 ?_ | refine at19 ?_ | refine at20 ?_ | refine at21 ?_ | refine at22 ?_ | refine at23 ?_ | refine at24 ?_))); (try dsimp only); walk1)))
  refine hideQ fun Rl hRl => ?_
  refine forM ?_
  (repeat' (first | ((with_reducible show @ite Prop _ _ _ _); first | refine if_pos_p (by decide) ?_ | refine if_neg_p (by decide) ?_) | ((with_reducible show wpAny _ _ (eval (Expr.Name _ _) (compEnvC _ _ _ _)) _ _ _); first | ((with_reducible refine' nmOwnF ?ca ?cb ?cd ?ce ?cf ?_); (case ca => with_reducible assumption); (case cb => with_reducible assumption); (case cd => rfl); (case ce => rfl); (case cf => decide)) | ((with_reducible refine' nmCellF ?ca ?cg ?cb ?cd ?ce ?cf ?_); (case cg => with_reducible assumption); (case ca => rfl); (case cb => with_reducible assumption); (case cd => rfl); (case ce => rfl); (case cf => decide))) | ((with_reducible show wpAny _ _ _ _ _ _); (fail_if_success (with_reducible (first | refine at1 ?_ | refine at2 ?_ | refine at3 ?_ | refine at5 ?_ | refine at12 ?_ | refine at14 ?_ | refine at15 ?_ | refine at16 ?_ | refine at9 ?_ | refine at10 ?_ | refine at11 ?_ | refine at18 ?_ | refine at19 ?_ | refine at20 ?_ | refine at21 ?_ | refine at22 ?_ | refine at23 ?_ | refine at24 ?_))); (try dsimp only); walk1)))
  have F1 := (show Fr g L' _ _ by assumption)
  have N1 := (show News g L' _ _ by assumption)
  rename_i R _ lR _ _ _
  have hIL : ∀ h m, Fr g L' h m → h.IsList lm (IV ms).toArray := fun h m F => let ⟨o, a, r⟩ := hG; ⟨o, F.keep _ _ a, r⟩
  refine len_list (hIL _ _ F1) (by simp [IV]; omega) ?_
  (repeat' (first | ((with_reducible show @ite Prop _ _ _ _); first | refine if_pos_p (by decide) ?_ | refine if_neg_p (by decide) ?_) | ((with_reducible show wpAny _ _ (eval (Expr.Name _ _) (compEnvC _ _ _ _)) _ _ _); first | ((with_reducible refine' nmOwnF ?ca ?cb ?cd ?ce ?cf ?_); (case ca => with_reducible assumption); (case cb => with_reducible assumption); (case cd => rfl); (case ce => rfl); (case cf => decide)) | ((with_reducible refine' nmCellF ?ca ?cg ?cb ?cd ?ce ?cf ?_); (case cg => with_reducible assumption); (case ca => rfl); (case cb => with_reducible assumption); (case cd => rfl); (case ce => rfl); (case cf => decide))) | ((with_reducible show wpAny _ _ _ _ _ _); (fail_if_success (with_reducible (first | refine at1 ?_ | refine at2 ?_ | refine at3 ?_ | refine at5 ?_ | refine at12 ?_ | refine at14 ?_ | refine at15 ?_ | refine at16 ?_ | refine at9 ?_ | refine at10 ?_ | refine at11 ?_ | refine at18 ?_ | refine at19 ?_ | refine at20 ?_ | refine at21 ?_ | refine at22 ?_ | refine at23 ?_ | refine at24 ?_))); (try dsimp only); walk1)))
  rename_i h2 tk2 t2 u2 v2 hr F2 N2 hk2
  dsimp only at hr ⊢
  have hsz : (2 * ((IV ms).toArray.size : Int)) = ((2 * ms.length : Nat) : Int) := by simp [IV]
  rw [hsz] at hr
  with_reducible refine' rangeStart ?q1 ?q2 hr ?q3 ?q4 ?q5 ?_
  case q1 => exact F2
  case q2 => exact N2
  case q3 => omega
  case q4 => omega
  case q5 => omega
  intro h3 it F3 N3 lr
  clear F2 N2 hk2
  refine ⟨fun k s' => ∃ h tk mm i tps res n, s' = { s with heap := h, toks := tk } ∧ Fr g L' h mm ∧ mm "modes" = some (.ref lm) ∧ mm "counts" = some (.ref R) ∧
    News g L' h ((it, rangeO (i : Nat) ((2 * ms.length - i : Nat))) :: (R, W.listOf (tps.map (fun q => Value.ref q.1)).toArray n) :: (D4, LS zs n4) :: (D2, LS xs n2) :: (L' + 1 + 1 + 1, oc1) :: (L' + 1 + 1, oc2) :: (L' + 1, oc3) :: tps) ∧
    Paired (fun (q : Addr × Obj) (r : Int × Int × (Str × Tok)) => ∃ t1 t2, q.2 = tupO r t1 t2) tps res ∧ res.map dat3 = dueCS (xs.map Prod.fst) (zs.map Prod.fst) i ∧ (∀ q ∈ tps, q.1 ≠ it ∧ q.1 ≠ R) ∧ tps.length ≤ i ∧ i ≤ 2 * ms.length ∧ k = 2 * ms.length + 1 - i,
    2 * ms.length + 1, ?init, ?turn⟩
  case init =>
    refine ⟨h3, _, _, 0, [], [], 0, rfl, F3, rfl, rfl, ?_, .nil, rfl, (fun _ h => nomatch h), Nat.le_refl _, Nat.zero_le _, rfl⟩
    have e1 : (((2 * ms.length : Nat) : Int) - 0) = ((2 * ms.length - 0 : Nat) : Int) := by omega
    rw [← e1]
    exact N3
  case turn =>
    clear F3 N3 hr
    rintro k s' ⟨h, tk, mm, i, tps, res, n, rfl, F, eM, eC, N, hP, hres, htp, htl, hi, rfl⟩
    have lr2 : ∀ b ∈ [R, D4, D2, L' + 1 + 1 + 1, L' + 1 + 1, L' + 1], @LT.lt Nat _ b it := fun b hb => by
      have := lr
      simp only [List.mem_cons, List.not_mem_nil, or_false] at hb
      rcases hb with rfl | rfl | rfl | rfl | rfl | rfl
      · exact lr _ (.head _)
      · exact lr (b, LS zs n4) (.tail _ (.head _))
      · exact lr (b, LS xs n2) (.tail _ (.tail _ (.head _)))
      · exact lr _ (.tail _ (.tail _ (.tail _ (.head _))))
      · exact lr _ (.tail _ (.tail _ (.tail _ (.tail _ (.head _)))))
      · exact lr _ (.tail _ (.tail _ (.tail _ (.tail _ (.tail _ (.head _))))))
    have hN2 : ∀ q ∈ ((R, W.listOf (tps.map (fun q => Value.ref q.1)).toArray n) :: (D4, LS zs n4) :: (D2, LS xs n2) :: (L' + 1 + 1 + 1, oc1) :: (L' + 1 + 1, oc2) :: (L' + 1, oc3) :: tps), q.1 ≠ it := by
      intro q hq
      simp only [List.mem_cons] at hq
      rcases hq with rfl | rfl | rfl | rfl | rfl | rfl | hq
      iterate 6 exact Nat.ne_of_lt (lr2 _ (by simp))
      exact (htp q hq).1
    with_reducible refine' rangeTurn ?t1 ?t2 ?t3 ?t4 ?t5 ?t6 ?tend ?titem
    case t1 => rfl
    case t2 => rfl
    case t3 => rfl
    case t4 => exact F
    case t5 => exact N
    case t6 => exact hN2
    case tend =>
      intro hle h4 F4 N4
      have hi2 : i = 2 * ms.length := by omega
      subst hi2
      clear F N
      walk1
      refine hRl _ _ ?_
      exact hQ _ _ _ R n tps res F4 eM eC N4 hP hres
    case titem =>
      intro hpos h4 tk4 tj F4 N4
      refine hideQ fun Rq hRq => ?_
      replace F4 : Fr g L' h4 _ := F4
      replace N4 : News g L' h4 _ := N4
      have F5 := Fr.know (x := "counts") (v := .ref R) (Fr.know (x := "modes") (v := .ref lm) F4 eM) eC
      clear F4 F N
      (repeat' (first | ((with_reducible show @ite Prop _ _ _ _); first | refine if_pos_p (by decide) ?_ | refine if_neg_p (by decide) ?_) | ((with_reducible show wpAny _ _ (eval (Expr.Name _ _) (compEnvC _ _ _ _)) _ _ _); first | ((with_reducible refine' nmOwnF ?ca ?cb ?cd ?ce ?cf ?_); (case ca => with_reducible assumption); (case cb => with_reducible assumption); (case cd => rfl); (case ce => rfl); (case cf => decide)) | ((with_reducible refine' nmCellF ?ca ?cg ?cb ?cd ?ce ?cf ?_); (case cg => with_reducible assumption); (case ca => rfl); (case cb => with_reducible assumption); (case cd => rfl); (case ce => rfl); (case cf => decide))) | ((with_reducible show wpAny _ _ _ _ _ _); (fail_if_success (with_reducible (first | refine at1 ?_ | refine at2 ?_ | refine at3 ?_ | refine at5 ?_ | refine at12 ?_ | refine at14 ?_ | refine at15 ?_ | refine at16 ?_ | refine at9 ?_ | refine at10 ?_ | refine at11 ?_ | refine at18 ?_ | refine at19 ?_ | refine at20 ?_ | refine at21 ?_ | refine at22 ?_ | refine at23 ?_ | refine at24 ?_))); (try dsimp only); walk1)))
      have hltA : i < (xs ++ zs).length := by simp; omega
      obtain ⟨p, hp⟩ : ∃ p, (xs ++ zs)[i]? = some p := ⟨_, List.getElem?_eq_getElem hltA⟩
      have hAB : (xs.map Prod.fst ++ zs.map Prod.fst)[i]? = some p.1 := by rw [← List.map_append, List.getElem?_map, hp]; rfl
      have F6 := (show Fr g L' _ _ by assumption)
      have N6 := (show News g L' _ _ by assumption)
      refine addLS (s := ⟨_, _, _, _, _⟩) F6 N6 (a := D2) (b := D4) (xs := xs) (zs := zs) (n2 := n2) (n4 := n4) (by simp) (by simp) (by omega) ?_
      intro h7 S7 F7 N7 l7
      clear F6 N6
      (repeat' (first | ((with_reducible show @ite Prop _ _ _ _); first | refine if_pos_p (by decide) ?_ | refine if_neg_p (by decide) ?_) | ((with_reducible show wpAny _ _ (eval (Expr.Name _ _) (compEnvC _ _ _ _)) _ _ _); first | ((with_reducible refine' nmOwnF ?ca ?cb ?cd ?ce ?cf ?_); (case ca => with_reducible assumption); (case cb => with_reducible assumption); (case cd => rfl); (case ce => rfl); (case cf => decide)) | ((with_reducible refine' nmCellF ?ca ?cg ?cb ?cd ?ce ?cf ?_); (case cg => with_reducible assumption); (case ca => rfl); (case cb => with_reducible assumption); (case cd => rfl); (case ce => rfl); (case cf => decide))) | ((with_reducible show wpAny _ _ _ _ _ _); (fail_if_success (with_reducible (first | refine at1 ?_ | refine at2 ?_ | refine at3 ?_ | refine at5 ?_ | refine at12 ?_ | refine at14 ?_ | refine at15 ?_ | refine at16 ?_ | refine at9 ?_ | refine at10 ?_ | refine at11 ?_ | refine at18 ?_ | refine at19 ?_ | refine at20 ?_ | refine at21 ?_ | refine at22 ?_ | refine at23 ?_ | refine at24 ?_))); (try dsimp only); walk1)))
      refine' itemT (items := (SV (xs ++ zs)).toArray) (x := .str p.1 p.2) ?i1 ?i2 ?i3 ?i4 ?_ ?i5
      case i1 => exact ⟨_, (N7 _ (.head _)).1, rfl, _, rfl⟩
      case i2 => omega
      case i3 => omega
      case i4 =>
        show (SV (xs ++ zs)).toArray[((i : Nat) : Int).toNat]? = _
        rw [Int.toNat_natCast]
        simp only [SV, List.getElem?_toArray, List.getElem?_map, hp]; rfl
      case i5 => with_unfolding_all rfl
      (repeat' (first | ((with_reducible show @ite Prop _ _ _ _); first | refine if_pos_p (by decide) ?_ | refine if_neg_p (by decide) ?_) | ((with_reducible show wpAny _ _ (eval (Expr.Name _ _) (compEnvC _ _ _ _)) _ _ _); first | ((with_reducible refine' nmOwnF ?ca ?cb ?cd ?ce ?cf ?_); (case ca => with_reducible assumption); (case cb => with_reducible assumption); (case cd => rfl); (case ce => rfl); (case cf => decide)) | ((with_reducible refine' nmCellF ?ca ?cg ?cb ?cd ?ce ?cf ?_); (case cg => with_reducible assumption); (case ca => rfl); (case cb => with_reducible assumption); (case cd => rfl); (case ce => rfl); (case cf => decide))) | ((with_reducible show wpAny _ _ _ _ _ _); (fail_if_success (with_reducible (first | refine at1 ?_ | refine at2 ?_ | refine at3 ?_ | refine at5 ?_ | refine at12 ?_ | refine at14 ?_ | refine at15 ?_ | refine at16 ?_ | refine at9 ?_ | refine at10 ?_ | refine at11 ?_ | refine at18 ?_ | refine at19 ?_ | refine at20 ?_ | refine at21 ?_ | refine at22 ?_ | refine at23 ?_ | refine at24 ?_))); (try dsimp only); walk1)))
      have F8 := (show Fr g L' _ _ by assumption)
      have N8 := (show News g L' _ _ by assumption)
      refine addLS (s := ⟨_, _, _, _, _⟩) F8 N8 (a := D2) (b := D4) (xs := xs) (zs := zs) (n2 := n2) (n4 := n4) (by simp) (by simp) (by omega) ?_
      intro h9 S9 F9 N9 l9
      clear F8 N8
      (repeat' (first | ((with_reducible show @ite Prop _ _ _ _); first | refine if_pos_p (by decide) ?_ | refine if_neg_p (by decide) ?_) | ((with_reducible show wpAny _ _ (eval (Expr.Name _ _) (compEnvC _ _ _ _)) _ _ _); first | ((with_reducible refine' nmOwnF ?ca ?cb ?cd ?ce ?cf ?_); (case ca => with_reducible assumption); (case cb => with_reducible assumption); (case cd => rfl); (case ce => rfl); (case cf => decide)) | ((with_reducible refine' nmCellF ?ca ?cg ?cb ?cd ?ce ?cf ?_); (case cg => with_reducible assumption); (case ca => rfl); (case cb => with_reducible assumption); (case cd => rfl); (case ce => rfl); (case cf => decide))) | ((with_reducible show wpAny _ _ _ _ _ _); (fail_if_success (with_reducible (first | refine at1 ?_ | refine at2 ?_ | refine at3 ?_ | refine at5 ?_ | refine at12 ?_ | refine at14 ?_ | refine at15 ?_ | refine at16 ?_ | refine at9 ?_ | refine at10 ?_ | refine at11 ?_ | refine at18 ?_ | refine at19 ?_ | refine at20 ?_ | refine at21 ?_ | refine at22 ?_ | refine at23 ?_ | refine at24 ?_))); (try dsimp only); walk1)))
      refine' sliceT (s := ⟨_, _, _, _, _⟩) (items := (SV (xs ++ zs)).toArray) (lo := none) (hi := some (i : Int)) (st := none) (show Fr g L' _ _ by assumption) (show News g L' _ _ by assumption) ?d1 .none (.int _ _) .none ?d2 ?_ ?d3 ?d4
      case d1 => exact ⟨_, (N9 _ (.head _)).1, rfl, _, rfl⟩
      case d2 => exact fun h => nomatch h
      case d3 => with_unfolding_all rfl
      case d4 => simp only [List.size_toArray, SV, List.length_map, sizeLine_eq, List.length_append]; omega
      intro h10 S10 F10 N10 l10
      rw [pick_upto, show (SV (xs ++ zs)).take i = SV ((xs ++ zs).take i) from (List.map_take ..).symm] at N10
      clear F9 N9
      (repeat' (first | ((with_reducible show @ite Prop _ _ _ _); first | refine if_pos_p (by decide) ?_ | refine if_neg_p (by decide) ?_) | ((with_reducible show wpAny _ _ (eval (Expr.Name _ _) (compEnvC _ _ _ _)) _ _ _); first | ((with_reducible refine' nmOwnF ?ca ?cb ?cd ?ce ?cf ?_); (case ca => with_reducible assumption); (case cb => with_reducible assumption); (case cd => rfl); (case ce => rfl); (case cf => decide)) | ((with_reducible refine' nmCellF ?ca ?cg ?cb ?cd ?ce ?cf ?_); (case cg => with_reducible assumption); (case ca => rfl); (case cb => with_reducible assumption); (case cd => rfl); (case ce => rfl); (case cf => decide))) | ((with_reducible show wpAny _ _ _ _ _ _); (fail_if_success (with_reducible (first | refine at1 ?_ | refine at2 ?_ | refine at3 ?_ | refine at5 ?_ | refine at12 ?_ | refine at14 ?_ | refine at15 ?_ | refine at16 ?_ | refine at9 ?_ | refine at10 ?_ | refine at11 ?_ | refine at18 ?_ | refine at19 ?_ | refine at20 ?_ | refine at21 ?_ | refine at22 ?_ | refine at23 ?_ | refine at24 ?_))); (try dsimp only); walk1)))
      refine notinLS (xs := (xs ++ zs).take i) ⟨_, (N10 _ (.head _)).1, rfl, _, rfl⟩ ?_
      have F11 := F10
      have N11 : News g L' h10 ((it, rangeO ((i : Int) + 1) (((2 * ms.length - i : Nat) : Int) - 1)) :: (R, W.listOf (tps.map (fun q => Value.ref q.1)).toArray n) :: (D4, LS zs n4) :: (D2, LS xs n2) :: (L' + 1 + 1 + 1, oc1) :: (L' + 1 + 1, oc2) :: (L' + 1, oc3) :: tps) :=
        fun q hq => N10 q (.tail _ (.tail _ (.tail _ hq)))
      clear F10 N10 l10 l9 l7
      rw [List.map_take, List.map_append]
      generalize hcb : ((List.map Prod.fst xs ++ List.map Prod.fst zs).take i).contains p.1 = cb
      (repeat' (first | ((with_reducible show @ite Prop _ _ _ _); first | refine if_pos_p (by decide) ?_ | refine if_neg_p (by decide) ?_) | ((with_reducible show wpAny _ _ (eval (Expr.Name _ _) (compEnvC _ _ _ _)) _ _ _); first | ((with_reducible refine' nmOwnF ?ca ?cb ?cd ?ce ?cf ?_); (case ca => with_reducible assumption); (case cb => with_reducible assumption); (case cd => rfl); (case ce => rfl); (case cf => decide)) | ((with_reducible refine' nmCellF ?ca ?cg ?cb ?cd ?ce ?cf ?_); (case cg => with_reducible assumption); (case ca => rfl); (case cb => with_reducible assumption); (case cd => rfl); (case ce => rfl); (case cf => decide))) | ((with_reducible show wpAny _ _ _ _ _ _); (fail_if_success (with_reducible (first | refine at1 ?_ | refine at2 ?_ | refine at3 ?_ | refine at5 ?_ | refine at12 ?_ | refine at14 ?_ | refine at15 ?_ | refine at16 ?_ | refine at9 ?_ | refine at10 ?_ | refine at11 ?_ | refine at18 ?_ | refine at19 ?_ | refine at20 ?_ | refine at21 ?_ | refine at22 ?_ | refine at23 ?_ | refine at24 ?_))); (try dsimp only); walk1)))
      have eN : ∀ h' tps' n', News g L' h' ((it, rangeO ((i : Int) + 1) (((2 * ms.length - i : Nat) : Int) - 1)) :: (R, W.listOf (List.map (fun q => Value.ref q.1) tps').toArray n') :: (D4, LS zs n4) :: (D2, LS xs n2) :: (L' + 1 + 1 + 1, oc1) :: (L' + 1 + 1, oc2) :: (L' + 1, oc3) :: tps') →
          News g L' h' ((it, rangeO ((i + 1 : Nat) : Int) ((2 * ms.length - (i + 1) : Nat) : Int)) :: (R, W.listOf (List.map (fun q => Value.ref q.1) tps').toArray n') :: (D4, LS zs n4) :: (D2, LS xs n2) :: (L' + 1 + 1 + 1, oc1) :: (L' + 1 + 1, oc2) :: (L' + 1, oc3) :: tps') := by
        intro h' tps' n' N'
        have e1 : ((i : Int) + 1) = ((i + 1 : Nat) : Int) := by omega
        have e2 : (((2 * ms.length - i : Nat) : Int) - 1) = ((2 * ms.length - (i + 1) : Nat) : Int) := by omega
        rw [e1, e2] at N'
        exact N'
      have hD : dueCS (xs.map Prod.fst) (zs.map Prod.fst) (i + 1) = dueCS (xs.map Prod.fst) (zs.map Prod.fst) i ++ (if cb = false ∧ (xs.map Prod.fst).count p.1 ≠ (zs.map Prod.fst).count p.1 then [(((xs.map Prod.fst).count p.1 : Int), ((zs.map Prod.fst).count p.1 : Int), p.1)] else []) := by
        show _ ++ dueStepS _ _ i = _
        unfold dueStepS
        rw [hAB]
        dsimp only
        rw [hcb]
      cases cb with
      | true =>
        (repeat' (first | ((with_reducible show @ite Prop _ _ _ _); first | refine if_pos_p (by decide) ?_ | refine if_neg_p (by decide) ?_) | ((with_reducible show wpAny _ _ (eval (Expr.Name _ _) (compEnvC _ _ _ _)) _ _ _); first | ((with_reducible refine' nmOwnF ?ca ?cb ?cd ?ce ?cf ?_); (case ca => with_reducible assumption); (case cb => with_reducible assumption); (case cd => rfl); (case ce => rfl); (case cf => decide)) | ((with_reducible refine' nmCellF ?ca ?cg ?cb ?cd ?ce ?cf ?_); (case cg => with_reducible assumption); (case ca => rfl); (case cb => with_reducible assumption); (case cd => rfl); (case ce => rfl); (case cf => decide))) | ((with_reducible show wpAny _ _ _ _ _ _); (fail_if_success (with_reducible (first | refine at1 ?_ | refine at2 ?_ | refine at3 ?_ | refine at5 ?_ | refine at12 ?_ | refine at14 ?_ | refine at15 ?_ | refine at16 ?_ | refine at9 ?_ | refine at10 ?_ | refine at11 ?_ | refine at18 ?_ | refine at19 ?_ | refine at20 ?_ | refine at21 ?_ | refine at22 ?_ | refine at23 ?_ | refine at24 ?_))); (try dsimp only); walk1)))
        refine hRq _ _ ?_
        refine ⟨2 * ms.length + 1 - (i + 1), by omega, h10, _, _, i + 1, tps, res, n, rfl, F11, rfl, rfl, eN _ _ _ N11, hP, ?_, htp, by omega, by omega, rfl⟩
        rw [hD, if_neg (by simp), List.append_nil, hres]
      | false =>
        (repeat' (first | ((with_reducible show @ite Prop _ _ _ _); first | refine if_pos_p (by decide) ?_ | refine if_neg_p (by decide) ?_) | ((with_reducible show wpAny _ _ (eval (Expr.Name _ _) (compEnvC _ _ _ _)) _ _ _); first | ((with_reducible refine' nmOwnF ?ca ?cb ?cd ?ce ?cf ?_); (case ca => with_reducible assumption); (case cb => with_reducible assumption); (case cd => rfl); (case ce => rfl); (case cf => decide)) | ((with_reducible refine' nmCellF ?ca ?cg ?cb ?cd ?ce ?cf ?_); (case cg => with_reducible assumption); (case ca => rfl); (case cb => with_reducible assumption); (case cd => rfl); (case ce => rfl); (case cf => decide))) | ((with_reducible show wpAny _ _ _ _ _ _); (fail_if_success (with_reducible (first | refine at1 ?_ | refine at2 ?_ | refine at3 ?_ | refine at5 ?_ | refine at12 ?_ | refine at14 ?_ | refine at15 ?_ | refine at16 ?_ | refine at9 ?_ | refine at10 ?_ | refine at11 ?_ | refine at18 ?_ | refine at19 ?_ | refine at20 ?_ | refine at21 ?_ | refine at22 ?_ | refine at23 ?_ | refine at24 ?_))); (try dsimp only); walk1)))
        refine cntLS (xs := xs) ⟨_, (N11 (D2, LS xs n2) (by simp)).1, rfl, _, rfl⟩ ?_
        (repeat' (first | ((with_reducible show @ite Prop _ _ _ _); first | refine if_pos_p (by decide) ?_ | refine if_neg_p (by decide) ?_) | ((with_reducible show wpAny _ _ (eval (Expr.Name _ _) (compEnvC _ _ _ _)) _ _ _); first | ((with_reducible refine' nmOwnF ?ca ?cb ?cd ?ce ?cf ?_); (case ca => with_reducible assumption); (case cb => with_reducible assumption); (case cd => rfl); (case ce => rfl); (case cf => decide)) | ((with_reducible refine' nmCellF ?ca ?cg ?cb ?cd ?ce ?cf ?_); (case cg => with_reducible assumption); (case ca => rfl); (case cb => with_reducible assumption); (case cd => rfl); (case ce => rfl); (case cf => decide))) | ((with_reducible show wpAny _ _ _ _ _ _); (fail_if_success (with_reducible (first | refine at1 ?_ | refine at2 ?_ | refine at3 ?_ | refine at5 ?_ | refine at12 ?_ | refine at14 ?_ | refine at15 ?_ | refine at16 ?_ | refine at9 ?_ | refine at10 ?_ | refine at11 ?_ | refine at18 ?_ | refine at19 ?_ | refine at20 ?_ | refine at21 ?_ | refine at22 ?_ | refine at23 ?_ | refine at24 ?_))); (try dsimp only); walk1)))
        refine cntLS (xs := zs) ⟨_, (N11 (D4, LS zs n4) (by simp)).1, rfl, _, rfl⟩ ?_
        refine ne_int ?_
        by_cases hne : (xs.map Prod.fst).count p.1 = (zs.map Prod.fst).count p.1
        · rw [show (((xs.map Prod.fst).count p.1 : Int) != ((zs.map Prod.fst).count p.1 : Int)) = false from by simp [hne]]
          (repeat' (first | ((with_reducible show @ite Prop _ _ _ _); first | refine if_pos_p (by decide) ?_ | refine if_neg_p (by decide) ?_) | ((with_reducible show wpAny _ _ (eval (Expr.Name _ _) (compEnvC _ _ _ _)) _ _ _); first | ((with_reducible refine' nmOwnF ?ca ?cb ?cd ?ce ?cf ?_); (case ca => with_reducible assumption); (case cb => with_reducible assumption); (case cd => rfl); (case ce => rfl); (case cf => decide)) | ((with_reducible refine' nmCellF ?ca ?cg ?cb ?cd ?ce ?cf ?_); (case cg => with_reducible assumption); (case ca => rfl); (case cb => with_reducible assumption); (case cd => rfl); (case ce => rfl); (case cf => decide))) | ((with_reducible show wpAny _ _ _ _ _ _); (fail_if_success (with_reducible (first | refine at1 ?_ | refine at2 ?_ | refine at3 ?_ | refine at5 ?_ | refine at12 ?_ | refine at14 ?_ | refine at15 ?_ | refine at16 ?_ | refine at9 ?_ | refine at10 ?_ | refine at11 ?_ | refine at18 ?_ | refine at19 ?_ | refine at20 ?_ | refine at21 ?_ | refine at22 ?_ | refine at23 ?_ | refine at24 ?_))); (try dsimp only); walk1)))
          refine hRq _ _ ?_
          refine ⟨2 * ms.length + 1 - (i + 1), by omega, h10, _, _, i + 1, tps, res, n, rfl, F11, rfl, rfl, eN _ _ _ N11, hP, ?_, htp, by omega, by omega, rfl⟩
          rw [hD, if_neg (by simp [hne]), List.append_nil, hres]
        rw [show (((xs.map Prod.fst).count p.1 : Int) != ((zs.map Prod.fst).count p.1 : Int)) = true from by simp; omega]
        (repeat' (first | ((with_reducible show @ite Prop _ _ _ _); first | refine if_pos_p (by decide) ?_ | refine if_neg_p (by decide) ?_) | ((with_reducible show wpAny _ _ (eval (Expr.Name _ _) (compEnvC _ _ _ _)) _ _ _); first | ((with_reducible refine' nmOwnF ?ca ?cb ?cd ?ce ?cf ?_); (case ca => with_reducible assumption); (case cb => with_reducible assumption); (case cd => rfl); (case ce => rfl); (case cf => decide)) | ((with_reducible refine' nmCellF ?ca ?cg ?cb ?cd ?ce ?cf ?_); (case cg => with_reducible assumption); (case ca => rfl); (case cb => with_reducible assumption); (case cd => rfl); (case ce => rfl); (case cf => decide))) | ((with_reducible show wpAny _ _ _ _ _ _); (fail_if_success (with_reducible (first | refine at1 ?_ | refine at2 ?_ | refine at3 ?_ | refine at5 ?_ | refine at12 ?_ | refine at14 ?_ | refine at15 ?_ | refine at16 ?_ | refine at9 ?_ | refine at10 ?_ | refine at11 ?_ | refine at18 ?_ | refine at19 ?_ | refine at20 ?_ | refine at21 ?_ | refine at22 ?_ | refine at23 ?_ | refine at24 ?_))); (try dsimp only); walk1)))
        refine cntLS (xs := xs) ⟨_, (N11 (D2, LS xs n2) (by simp)).1, rfl, _, rfl⟩ ?_
        (repeat' (first | ((with_reducible show @ite Prop _ _ _ _); first | refine if_pos_p (by decide) ?_ | refine if_neg_p (by decide) ?_) | ((with_reducible show wpAny _ _ (eval (Expr.Name _ _) (compEnvC _ _ _ _)) _ _ _); first | ((with_reducible refine' nmOwnF ?ca ?cb ?cd ?ce ?cf ?_); (case ca => with_reducible assumption); (case cb => with_reducible assumption); (case cd => rfl); (case ce => rfl); (case cf => decide)) | ((with_reducible refine' nmCellF ?ca ?cg ?cb ?cd ?ce ?cf ?_); (case cg => with_reducible assumption); (case ca => rfl); (case cb => with_reducible assumption); (case cd => rfl); (case ce => rfl); (case cf => decide))) | ((with_reducible show wpAny _ _ _ _ _ _); (fail_if_success (with_reducible (first | refine at1 ?_ | refine at2 ?_ | refine at3 ?_ | refine at5 ?_ | refine at12 ?_ | refine at14 ?_ | refine at15 ?_ | refine at16 ?_ | refine at9 ?_ | refine at10 ?_ | refine at11 ?_ | refine at18 ?_ | refine at19 ?_ | refine at20 ?_ | refine at21 ?_ | refine at22 ?_ | refine at23 ?_ | refine at24 ?_))); (try dsimp only); walk1)))
        refine cntLS (xs := zs) ⟨_, (N11 (D4, LS zs n4) (by simp)).1, rfl, _, rfl⟩ ?_
        (repeat' (first | ((with_reducible show @ite Prop _ _ _ _); first | refine if_pos_p (by decide) ?_ | refine if_neg_p (by decide) ?_) | ((with_reducible show wpAny _ _ (eval (Expr.Name _ _) (compEnvC _ _ _ _)) _ _ _); first | ((with_reducible refine' nmOwnF ?ca ?cb ?cd ?ce ?cf ?_); (case ca => with_reducible assumption); (case cb => with_reducible assumption); (case cd => rfl); (case ce => rfl); (case cf => decide)) | ((with_reducible refine' nmCellF ?ca ?cg ?cb ?cd ?ce ?cf ?_); (case cg => with_reducible assumption); (case ca => rfl); (case cb => with_reducible assumption); (case cd => rfl); (case ce => rfl); (case cf => decide))) | ((with_reducible show wpAny _ _ _ _ _ _); (fail_if_success (with_reducible (first | refine at1 ?_ | refine at2 ?_ | refine at3 ?_ | refine at5 ?_ | refine at12 ?_ | refine at14 ?_ | refine at15 ?_ | refine at16 ?_ | refine at9 ?_ | refine at10 ?_ | refine at11 ?_ | refine at18 ?_ | refine at19 ?_ | refine at20 ?_ | refine at21 ?_ | refine at22 ?_ | refine at23 ?_ | refine at24 ?_))); (try dsimp only); walk1)))
        rename_i D12 h12 F12 N12 l12
        obtain ⟨ta, tb, N12⟩ : ∃ ta tb, News g L' h12 ((D12, tupO (((xs.map Prod.fst).count p.1 : Int), ((zs.map Prod.fst).count p.1 : Int), p) ta tb) :: (it, rangeO ((i : Int) + 1) (((2 * ms.length - i : Nat) : Int) - 1)) :: (R, W.listOf (tps.map (fun q => Value.ref q.1)).toArray n) :: (D4, LS zs n4) :: (D2, LS xs n2) :: (L' + 1 + 1 + 1, oc1) :: (L' + 1 + 1, oc2) :: (L' + 1, oc3) :: tps) := ⟨_, _, N12⟩
        refine appendL [(D12, _), (it, _)] _ F12 N12 ?_ ?_ ?_ ?_
        · intro q hq
          rcases List.mem_cons.mp hq with rfl | hq
          · exact Nat.ne_of_gt l12.2.1
          · rw [List.mem_singleton.mp hq]; exact Nat.ne_of_gt (lr2 R (.head _))
        · intro q hq
          simp only [List.mem_cons] at hq
          rcases hq with rfl | rfl | rfl | rfl | rfl | hq
          · exact Nat.ne_of_lt lR.1
          · exact Nat.ne_of_lt lR.2.1
          · exact Nat.ne_of_lt lR.2.2.1
          · exact Nat.ne_of_lt lR.2.2.2.1
          · exact Nat.ne_of_lt lR.2.2.2.2
          · exact (htp q hq).2
        · simp only [List.size_toArray, List.length_map, sizeLine_eq]; omega
        intro h13 F13 N13
        clear F12 N12
        (repeat' (first | ((with_reducible show @ite Prop _ _ _ _); first | refine if_pos_p (by decide) ?_ | refine if_neg_p (by decide) ?_) | ((with_reducible show wpAny _ _ (eval (Expr.Name _ _) (compEnvC _ _ _ _)) _ _ _); first | ((with_reducible refine' nmOwnF ?ca ?cb ?cd ?ce ?cf ?_); (case ca => with_reducible assumption); (case cb => with_reducible assumption); (case cd => rfl); (case ce => rfl); (case cf => decide)) | ((with_reducible refine' nmCellF ?ca ?cg ?cb ?cd ?ce ?cf ?_); (case cg => with_reducible assumption); (case ca => rfl); (case cb => with_reducible assumption); (case cd => rfl); (case ce => rfl); (case cf => decide))) | ((with_reducible show wpAny _ _ _ _ _ _); (fail_if_success (with_reducible (first | refine at1 ?_ | refine at2 ?_ | refine at3 ?_ | refine at5 ?_ | refine at12 ?_ | refine at14 ?_ | refine at15 ?_ | refine at16 ?_ | refine at9 ?_ | refine at10 ?_ | refine at11 ?_ | refine at18 ?_ | refine at19 ?_ | refine at20 ?_ | refine at21 ?_ | refine at22 ?_ | refine at23 ?_ | refine at24 ?_))); (try dsimp only); walk1)))
        refine hRq _ _ ?_
        refine ⟨2 * ms.length + 1 - (i + 1), by omega, h13, _, _, i + 1, tps ++ [(D12, tupO (((xs.map Prod.fst).count p.1 : Int), ((zs.map Prod.fst).count p.1 : Int), p) ta tb)], res ++ [(((xs.map Prod.fst).count p.1 : Int), ((zs.map Prod.fst).count p.1 : Int), p)], n + 1, rfl, F13, rfl, rfl, eN _ _ _ ?_, hP.snoc ⟨_, _, rfl⟩, ?_, ?_, ?_, by omega, rfl⟩
        · have e1 : (List.map (fun q => Value.ref q.1) (tps ++ [(D12, tupO (((xs.map Prod.fst).count p.1 : Int), ((zs.map Prod.fst).count p.1 : Int), p) ta tb)])).toArray = (List.map (fun q => Value.ref q.1) tps).toArray.push (.ref D12) := by simp
          rw [e1]
          intro q hq
          refine N13 q ?_
          simp only [List.mem_cons, List.mem_append, List.not_mem_nil, or_false, List.cons_append, List.nil_append] at hq ⊢
          rcases hq with h | h | h | h | h | h | h | h | h
          · exact .inr (.inl h)
          · exact .inr (.inr (.inl h))
          · exact .inr (.inr (.inr (.inl h)))
          · exact .inr (.inr (.inr (.inr (.inl h))))
          · exact .inr (.inr (.inr (.inr (.inr (.inl h)))))
          · exact .inr (.inr (.inr (.inr (.inr (.inr (.inl h))))))
          · exact .inr (.inr (.inr (.inr (.inr (.inr (.inr (.inl h)))))))
          · exact .inr (.inr (.inr (.inr (.inr (.inr (.inr (.inr h)))))))
          · exact .inl h
        · rw [hD, if_pos ⟨rfl, hne⟩, List.map_append, hres]; rfl
        · intro q hq
          rcases List.mem_append.mp hq with hq | hq
          · exact htp q hq
          · rw [List.mem_singleton.mp hq]; exact ⟨Nat.ne_of_gt l12.1, Nat.ne_of_gt l12.2.1⟩
        · simp; omega
end Mine
end
section
open PySem PySem.W PyProof.Rows PySem.Calls PyProof.V PyProof.Rows.TI
set_option Elab.async false
set_option maxRecDepth 100000
set_option maxHeartbeats 2000000
namespace Mine
theorem fillup15 : PySem.Challenge.rw_oy0181_01 = PySem.Challenge.rw_oy0181_01 ∧ KK = KK := by k_fill; exact ⟨rfl, rfl⟩
variable {prog : Program} {w : World} {p : Program} {loose : List Str} {mean : ExcName → Option Value} {mg mb : Str → Option Value}
def TypeOK (m : Int) : Prop := m.fdiv 4096 * 4096 = 16384 ∨ m.fdiv 4096 * 4096 = 32768 ∨ m.fdiv 4096 * 4096 = 40960
def offM (m r : Int) : Int := m - (m.fdiv r).fmod 2 * r
theorem TypeOK.lt {m : Int} (h : TypeOK m) : m < 65536 := by
  unfold TypeOK at h
  rw [Int.fdiv_eq_ediv_of_nonneg _ (by decide)] at h
  omega
/-- has the file of this mode the right? -/
def bitM (r m : Int) : Bool := (m.fdiv r).fmod 2 == 1
def bitV (r : Int) : Value → Bool
  | .int n _ => bitM r n
  | _ => false
def dueD (A B : List Str) (n : Nat) (M : List Str) : PyData := .list [.list (A.map .str), .list (B.map .str), .list ((dueCS A B n).map fun r => .tuple [.int r.1, .int r.2.1, .str r.2.2]),
  .list (M.map .str), .list ((leftS A B).map .str), .list (List.replicate M.length (.int 2))]
theorem oneTest {A : Around} {s : Shared} {E : Value → Shared → Prop} {c : Expr} {env : Env} {Q : Bool → Shared → Prop} (h : wpAny (model prog w) A (isTrue c env (eval c env)) Q E s) :
    wpAny (model prog w) A (forIn [c] true fun c r => if r = true then do let ok ← isTrue c env (eval c env); pure (ForInStep.yield ok) else pure (ForInStep.yield r)) Q E s := by
  rw [List.forIn_cons]
  refine wpAny_bind ?_
  rw [if_pos rfl]
  refine wpAny_bind (wpAny_mono h (fun ok s' hq => wpAny_pure ?_) fun _ _ e => e)
  exact wpAny_pure hq
theorem IV_filter (r : Int) (l : List (Int × Tok)) : (IV l).filter (bitV r) = IV (l.filter fun m => bitM r m.1) := by
  unfold IV
  rw [List.filter_map]
  rfl
theorem fold_rep (v : Value) : ∀ (n : Nat) (acc : Array Value), (List.foldl (fun x1 x2 => x1 ++ x2) acc (List.replicate n #[v])).toList = acc.toList ++ List.replicate n v
  | 0, acc => by simp
  | n + 1, acc => by
    rw [List.replicate_succ, List.foldl_cons, fold_rep v n, List.replicate_succ]
    simp
theorem left_out {zs : List (Str × Tok)} : ∀ {ix : List Nat} {ys : List Value}, Paired (fun i y => ∃ q, zs[i]? = some q ∧ y = Value.str q.1 q.2) ix ys →
    ∃ ls, ys = SV ls ∧ ls.map Prod.fst = ix.map fun k => ((zs.map Prod.fst)[k]?).getD ⟨#[]⟩
  | _, _, .nil => ⟨[], rfl, rfl⟩
  | _, _, .cons x r => by
    obtain ⟨q, hq, rfl⟩ := x
    obtain ⟨ls, rfl, e⟩ := left_out r
    exact ⟨q :: ls, rfl, by rw [List.map_cons, List.map_cons, e, List.getElem?_map, hq]; rfl⟩
theorem reads_strsS (h : Heap) (l : List (Str × Tok)) : ReadsAll h (SV l) ((l.map Prod.fst).map PyData.str) [] := by
  have := reads_strs h l
  rw [List.map_map]; exact this
theorem reads_tupsS {h : Heap} {tps : List (Addr × Obj)} {res : RTy} (h1 : ∀ q ∈ tps, h.get? q.1 = some q.2) (hp : Paired (fun (q : Addr × Obj) r => ∃ t1 t2, q.2 = tupO r t1 t2) tps res) :
    ReadsAll h (tps.map fun q => Value.ref q.1) ((res.map dat3).map fun r => PyData.tuple [.int r.1, .int r.2.1, .str r.2.2]) [] := by
  have := reads_tups h h1 hp
  rw [List.map_map]; exact this
theorem reads_twos2 (h : Heap) (t : Tok) : ∀ n, ReadsAll h (List.replicate n (Value.int 2 t)) (List.replicate n (PyData.int 2)) []
  | 0 => .nil
  | n + 1 => .cons (as := []) (.int 2 t) (reads_twos2 h t n)
theorem due_reads {h : Heap} {R D2 D4 D D7 D8 D9 : Addr} {n0 n2 n4 k n7 n8 n9 : Nat} {xs zs M1 M2 : List (Str × Tok)} {ys y9 : Array Value} {ts ws : List PyData}
    (h0 : h.get? R = some (W.listOf #[Value.ref D2, Value.ref D4, Value.ref D, Value.ref D7, Value.ref D8, Value.ref D9] n0)) (h1 : h.get? D2 = some (LS xs n2)) (h2 : h.get? D4 = some (LS zs n4)) (h3 : h.get? D = some (W.listOf ys k)) (h4 : h.get? D7 = some (LS M1 n7))
    (h5 : h.get? D8 = some (LS M2 n8)) (h6 : h.get? D9 = some (W.listOf y9 n9)) (ht : ReadsAll h ys.toList ts []) (hw : ReadsAll h y9.toList ws []) :
    ∃ as, Reads h (.ref R) (.list [.list ((xs.map Prod.fst).map .str), .list ((zs.map Prod.fst).map .str), .list ts, .list ((M1.map Prod.fst).map .str), .list ((M2.map Prod.fst).map .str), .list ws]) as :=
  ⟨_, .list h0 rfl rfl (.cons (.list h1 rfl rfl (reads_strsS _ xs)) (.cons (.list h2 rfl rfl (reads_strsS _ zs)) (.cons (.list h3 rfl rfl ht) (.cons (.list h4 rfl rfl (reads_strsS _ M1)) (.cons (.list h5 rfl rfl (reads_strsS _ M2)) (.cons (.list h6 rfl rfl hw) .nil))))))⟩
theorem due_tail (dp un : Nat) (gd : Option (List Code)) (fr : Option (List Env)) (g : Heap) (L' : Addr) (s : Shared) (lm D2 D4 R : Addr) (ms : List (Int × Tok)) (r : Int) (tr : Tok) (xs zs : List (Str × Tok)) (n2 n4 n : Nat) (oc1 oc2 oc3 : Obj) (mm : Str → Option Value)
   (tps : List (Addr × Obj)) (res : RTy) (Q : Flow → Shared → Prop)
   (X' : (KK w.params).In g) (TT : Top p loose mean mg mb g) (hdp : dp + 30 < recursionLimit) (hun : un + 150 < cLine)
   (F : Fr g L' s.heap mm) (eM : mm "modes" = some (.ref lm)) (eC : mm "counts" = some (.ref R))
   (N : News g L' s.heap ((R, W.listOf (tps.map (fun q => Value.ref q.1)).toArray n) :: (D4, LS zs n4) :: (D2, LS xs n2) :: (L' + 1 + 1 + 1, oc1) :: (L' + 1 + 1, oc2) :: (L' + 1, oc3) :: tps))
   (hP : Paired (fun (q : Addr × Obj) (r : Int × Int × (Str × Tok)) => ∃ t1 t2, q.2 = tupO r t1 t2) tps res) (hres : res.map dat3 = dueCS (xs.map Prod.fst) (zs.map Prod.fst) (2 * ms.length))
   (hoc1 : oc1.data = .cell (some (.ref D4))) (hoc2 : oc2.data = .cell (some (.ref D2))) (hoc3 : oc3.data = .cell (some (.int r tr))) (hG : g.IsList lm (IV ms).toArray)
   (hms : ms.length ≤ 20) (hxl : xs.length = ms.length) (hzl : zs.length = ms.length) (hr : 0 < r) (hr2 : r ≤ 256) (hm1 : ∀ m ∈ ms, 0 ≤ m.1 ∧ TypeOK m.1)
   (hQ : ∀ h' tk R as, Reads h' (.ref R) (dueD (xs.map Prod.fst) (zs.map Prod.fst) (2 * ms.length) (((ms.map Prod.fst).reverse.filter (bitM r)).map lrS)) as → (∀ b o, g.get? b = some o → h'.get? b = some o) → Q (.ret (.ref R)) { s with heap := h', toks := tk }) :
   wpAny (model prog w) ((Ar dp un gd fr).deeper (dueEnv L')) (execs (List.drop 4 (bodyIn (st 40))) (dueEnv L')) Q (fun _ _ => False) s := by
  unfold dueEnv at *
  generalize hb : List.drop 4 (bodyIn (st 40)) = body
  conv at hb => lhs; whnf
  subst hb
  generalize hs : scopeIn (st 40) = scope at *
  conv at hs => lhs; whnf
  subst hs
  have hIL : ∀ h m, Fr g L' h m → h.IsList lm (IV ms).toArray := fun h m F => let ⟨o, a, r⟩ := hG; ⟨o, F.keep _ _ a, r⟩
  have F1 := Fr.know (x := "counts") (v := .ref R) (Fr.know (x := "modes") (v := .ref lm) F eM) eC
  have N1 := N
  clear F N
  (repeat' (first | ((with_reducible show @ite Prop _ _ _ _); first | refine if_pos_p (by decide) ?_ | refine if_neg_p (by decide) ?_) | ((with_reducible show wpAny _ _ (eval (Expr.Name _ _) (compEnvC _ _ _ _)) _ _ _); first | ((with_reducible refine' nmOwnF ?ca ?cb ?cd ?ce ?cf ?_); (case ca => with_reducible assumption); (case cb => with_reducible assumption); (case cd => rfl); (case ce => rfl); (case cf => decide)) | ((with_reducible refine' nmCellF ?ca ?cg ?cb ?cd ?ce ?cf ?_); (case cg => with_reducible assumption); (case ca => rfl); (case cb => with_reducible assumption); (case cd => rfl); (case ce => rfl); (case cf => decide))) | ((with_reducible show wpAny _ _ _ _ _ _); (fail_if_success (with_reducible (first | refine at1 ?_ | refine at2 ?_ | refine at3 ?_ | refine at5 ?_ | refine at12 ?_ | refine at14 ?_ | refine at17 ?_ | refine at15 ?_ | refine at16 ?_ | refine at25 ?_ | refine at9 ?_ | refine at10 ?_ | refine at11 ?_ | refine at18 ?_ | refine at19 ?_ | refine at20 ?_ | refine at21 ?_ | refine at22 ?_ | refine at23 ?_ | refine at24 ?_))); (try dsimp only); walk1)))
  with_reducible refine' compA (g := g) (bitV r) (fun v y => ∀ n t, v = .int n t → ∃ t', y = .str (lrS n) t') ?c0 ?c1 ?c2 ?c3 ?c4 ?c5 ?c6 ?c8 ?c9 ?_ ?c7
  case c0 => rfl
  case c1 => rfl
  case c2 => rfl
  case c3 => decide
  case c4 => rfl
  case c5 => decide
  case c6 => rfl
  case c7 => intro _; rfl
  case c8 => rfl
  case c9 => rfl
  (repeat' (first | ((with_reducible show @ite Prop _ _ _ _); first | refine if_pos_p (by decide) ?_ | refine if_neg_p (by decide) ?_) | ((with_reducible show wpAny _ _ (eval (Expr.Name _ _) (compEnvC _ _ _ _)) _ _ _); first | ((with_reducible refine' nmOwnF ?ca ?cb ?cd ?ce ?cf ?_); (case ca => with_reducible assumption); (case cb => with_reducible assumption); (case cd => rfl); (case ce => rfl); (case cf => decide)) | ((with_reducible refine' nmCellF ?ca ?cg ?cb ?cd ?ce ?cf ?_); (case cg => with_reducible assumption); (case ca => rfl); (case cb => with_reducible assumption); (case cd => rfl); (case ce => rfl); (case cf => decide))) | ((with_reducible show wpAny _ _ _ _ _ _); (fail_if_success (with_reducible (first | refine at1 ?_ | refine at2 ?_ | refine at3 ?_ | refine at5 ?_ | refine at12 ?_ | refine at14 ?_ | refine at17 ?_ | refine at15 ?_ | refine at16 ?_ | refine at25 ?_ | refine at9 ?_ | refine at10 ?_ | refine at11 ?_ | refine at18 ?_ | refine at19 ?_ | refine at20 ?_ | refine at21 ?_ | refine at22 ?_ | refine at23 ?_ | refine at24 ?_))); (try dsimp only); walk1)))
  have F2 := (show Fr g L' _ _ by assumption)
  have N2 := (show News g L' _ _ by assumption)
  refine' sliceT (s := ⟨_, _, _, _, _⟩) (items := (IV ms).toArray) (lo := none) (hi := none) (st := some (-1)) F2 N2 ?d1 .none .none (.int _ _) ?d2 ?_ ?d3 ?d4
  case d1 => exact hIL _ _ F2
  case d2 => decide
  case d3 => with_unfolding_all rfl
  case d4 => simp only [List.size_toArray, IV, List.length_map, sizeLine_eq]; omega
  intro h4 D6 F4 N4 l4
  rw [krv_pick, show (IV ms).toArray.toList.reverse.toArray = (IV ms.reverse).toArray from by simp [IV, List.map_reverse]] at N4
  clear F2 N2
  dsimp only
  refine ⟨_, _, F4, N4, D6, (IV ms.reverse).toArray, rfl, ⟨_, (N4 _ (.head _)).1, rfl, _, rfl⟩, ?_, ?_, ?_, ?_⟩
  · simp [IV, sizeLine_eq]; omega
  · intro C v s₃ m₃ E' hv hC hn hm3 hk
    refine oneTest ?_
    obtain ⟨⟨n0, t⟩, hnm, rfl⟩ := mem_IV hv
    obtain ⟨h7, gs7, d7, tk7, os7⟩ := s₃
    dsimp only at hn hk hC
    have F7 := blockFr hn
    have N7 : News (trunc C h7) C h7 [] := fun _ hq => nomatch hq
    have hcell7 : CellAt (L' + 1) (.int r tr) (trunc C h7) := ⟨oc3, blockStays hC hk _ _ (N4 (L' + 1, oc3) (by simp)).1, hoc3⟩
    clear F4 N4
    (repeat' (first | ((with_reducible show @ite Prop _ _ _ _); first | refine if_pos_p (by decide) ?_ | refine if_neg_p (by decide) ?_) | ((with_reducible show wpAny _ _ (eval (Expr.Name _ _) (compEnvC _ _ _ _)) _ _ _); first | ((with_reducible refine' nmOwnF ?ca ?cb ?cd ?ce ?cf ?_); (case ca => with_reducible assumption); (case cb => with_reducible assumption); (case cd => rfl); (case ce => rfl); (case cf => decide)) | ((with_reducible refine' nmCellF ?ca ?cg ?cb ?cd ?ce ?cf ?_); (case cg => with_reducible assumption); (case ca => rfl); (case cb => with_reducible assumption); (case cd => rfl); (case ce => rfl); (case cf => decide))) | ((with_reducible show wpAny _ _ _ _ _ _); (fail_if_success (with_reducible (first | refine at1 ?_ | refine at2 ?_ | refine at3 ?_ | refine at5 ?_ | refine at12 ?_ | refine at14 ?_ | refine at17 ?_ | refine at15 ?_ | refine at16 ?_ | refine at25 ?_ | refine at9 ?_ | refine at10 ?_ | refine at11 ?_ | refine at18 ?_ | refine at19 ?_ | refine at20 ?_ | refine at21 ?_ | refine at22 ?_ | refine at23 ?_ | refine at24 ?_))); (try dsimp only); walk1)))
    (try dsimp only)
    have hb0 := hm1 _ (List.mem_reverse.mp hnm)
    have hb1 : (0 : Int) ≤ n0 ∧ n0 < 65536 := ⟨hb0.1, hb0.2.lt⟩
    exact ⟨rfl, blockEnd hn F7⟩
  · intro C v s₃ m₃ E' hv hpv hC hn hm3 hk
    obtain ⟨⟨n0, t⟩, hnm, rfl⟩ := mem_IV hv
    obtain ⟨h7, gs7, d7, tk7, os7⟩ := s₃
    dsimp only at hn hk hC
    have F7 := blockFr hn
    have N7 : News (trunc C h7) C h7 [] := fun _ hq => nomatch hq
    have st7 : g.StaysIn (trunc C h7) := fun b o e => blockStays hC hk b o (F4.keep b o e)
    have X7 := X'.keeps st7
    have T7 := TT.keeps st7
    have hb0 := hm1 _ (List.mem_reverse.mp hnm)
    clear F4 N4 X' TT
    (repeat' (first | ((with_reducible show @ite Prop _ _ _ _); first | refine if_pos_p (by decide) ?_ | refine if_neg_p (by decide) ?_) | ((with_reducible show wpAny _ _ (eval (Expr.Name _ _) (compEnvC _ _ _ _)) _ _ _); first | ((with_reducible refine' nmOwnF ?ca ?cb ?cd ?ce ?cf ?_); (case ca => with_reducible assumption); (case cb => with_reducible assumption); (case cd => rfl); (case ce => rfl); (case cf => decide)) | ((with_reducible refine' nmCellF ?ca ?cg ?cb ?cd ?ce ?cf ?_); (case cg => with_reducible assumption); (case ca => rfl); (case cb => with_reducible assumption); (case cd => rfl); (case ce => rfl); (case cf => decide))) | ((with_reducible show wpAny _ _ _ _ _ _); (fail_if_success (with_reducible (first | refine at1 ?_ | refine at2 ?_ | refine at3 ?_ | refine at5 ?_ | refine at12 ?_ | refine at14 ?_ | refine at17 ?_ | refine at15 ?_ | refine at16 ?_ | refine at25 ?_ | refine at9 ?_ | refine at10 ?_ | refine at11 ?_ | refine at18 ?_ | refine at19 ?_ | refine at20 ?_ | refine at21 ?_ | refine at22 ?_ | refine at23 ?_ | refine at24 ?_))); (try dsimp only); walk1)))
    refine ⟨X7.keeps F7.keep, ?_⟩
    refine lr_call (dp + 1) (un + 3) gd _ (trunc C h7) _ _ _ _ _ X7 T7 F7.keep (by omega) (by omega) hb0.1 hb0.2.lt hb0.2 ?_
    intro h9 tk9 t9 hk9
    exact ⟨fun n' t' e => by cases e; exact ⟨_, rfl⟩, keepsTo_of hk9⟩
  · intro D8 h8 tk8 ys hD8 hp8 hF8 hk8 D3 e3 h9 tk9 F9 N9
    cases e3
    dsimp only at hk8 hD8 F9 N9 ⊢
    obtain ⟨n8, hp8⟩ := hp8
    replace N9 := N9 ys n8 hp8
    replace hF8 : Paired (fun v y => ∀ n t, v = Value.int n t → ∃ t', y = Value.str (lrS n) t') (IV (ms.reverse.filter fun m => bitM r m.1)) ys.toList := by
      rw [show (IV ms.reverse).toArray.toList = IV ms.reverse from rfl, IV_filter] at hF8; exact hF8
    obtain ⟨vs, hvs, hve⟩ := paired_strs lrS _ _ hF8
    have hys : ys = (SV vs).toArray := by rw [← hvs]
    subst hys
    have hvl : vs.length ≤ ms.length := by
      have h1 := congrArg List.length hve
      simp only [List.length_map] at h1
      have h2 := List.length_filter_le (fun m : Int × Tok => bitM r m.1) ms.reverse
      rw [List.length_reverse] at h2
      omega
    have N10 : News g L' h9 ((D8, LS vs n8) :: (R, W.listOf (tps.map (fun q => Value.ref q.1)).toArray n) :: (D4, LS zs n4) :: (D2, LS xs n2) :: (L' + 1 + 1 + 1, oc1) :: (L' + 1 + 1, oc2) :: (L' + 1, oc3) :: tps) := by
      intro q hq
      refine N9 q ?_
      rcases List.mem_cons.mp hq with rfl | hq
      · exact .head _
      · exact .tail _ (.tail _ hq)
    clear F4 N4 N9 hF8 hk8 hp8 hvs
    (repeat' (first | ((with_reducible show @ite Prop _ _ _ _); first | refine if_pos_p (by decide) ?_ | refine if_neg_p (by decide) ?_) | ((with_reducible show wpAny _ _ (eval (Expr.Name _ _) (compEnvC _ _ _ _)) _ _ _); first | ((with_reducible refine' nmOwnF ?ca ?cb ?cd ?ce ?cf ?_); (case ca => with_reducible assumption); (case cb => with_reducible assumption); (case cd => rfl); (case ce => rfl); (case cf => decide)) | ((with_reducible refine' nmCellF ?ca ?cg ?cb ?cd ?ce ?cf ?_); (case cg => with_reducible assumption); (case ca => rfl); (case cb => with_reducible assumption); (case cd => rfl); (case ce => rfl); (case cf => decide))) | ((with_reducible show wpAny _ _ _ _ _ _); (fail_if_success (with_reducible (first | refine at1 ?_ | refine at2 ?_ | refine at3 ?_ | refine at5 ?_ | refine at12 ?_ | refine at14 ?_ | refine at17 ?_ | refine at15 ?_ | refine at16 ?_ | refine at25 ?_ | refine at9 ?_ | refine at10 ?_ | refine at11 ?_ | refine at18 ?_ | refine at19 ?_ | refine at20 ?_ | refine at21 ?_ | refine at22 ?_ | refine at23 ?_ | refine at24 ?_))); (try dsimp only); walk1)))
    with_reducible refine' compAW (pL (xs.map Prod.fst) (zs.map Prod.fst)) (fun _ _ i y => ∃ q, zs[i]? = some q ∧ y = .str q.1 q.2) (fun _ _ _ => True) ?k1 ?k2 ?c0 ?c2 ?c3 ?c4 ?c5 ?c6 ?c8 ?c9 ?_ ?c7
    case k1 => exact fun _ _ _ _ _ _ h => h
    case k2 => exact fun _ _ _ _ _ _ h => h
    case c0 => rfl
    case c2 => rfl
    case c3 => decide
    case c4 => rfl
    case c5 => decide
    case c6 => rfl
    case c7 => intro _; rfl
    case c8 => rfl
    case c9 => rfl
    (repeat' (first | ((with_reducible show @ite Prop _ _ _ _); first | refine if_pos_p (by decide) ?_ | refine if_neg_p (by decide) ?_) | ((with_reducible show wpAny _ _ (eval (Expr.Name _ _) (compEnvC _ _ _ _)) _ _ _); first | ((with_reducible refine' nmOwnF ?ca ?cb ?cd ?ce ?cf ?_); (case ca => with_reducible assumption); (case cb => with_reducible assumption); (case cd => rfl); (case ce => rfl); (case cf => decide)) | ((with_reducible refine' nmCellF ?ca ?cg ?cb ?cd ?ce ?cf ?_); (case cg => with_reducible assumption); (case ca => rfl); (case cb => with_reducible assumption); (case cd => rfl); (case ce => rfl); (case cf => decide))) | ((with_reducible show wpAny _ _ _ _ _ _); (fail_if_success (with_reducible (first | refine at1 ?_ | refine at2 ?_ | refine at3 ?_ | refine at5 ?_ | refine at12 ?_ | refine at14 ?_ | refine at17 ?_ | refine at15 ?_ | refine at16 ?_ | refine at25 ?_ | refine at9 ?_ | refine at10 ?_ | refine at11 ?_ | refine at18 ?_ | refine at19 ?_ | refine at20 ?_ | refine at21 ?_ | refine at22 ?_ | refine at23 ?_ | refine at24 ?_))); (try dsimp only); walk1)))
    refine len_list (hIL _ _ (show Fr g L' _ _ by assumption)) (by simp [IV]; omega) ?_
    (repeat' (first | ((with_reducible show @ite Prop _ _ _ _); first | refine if_pos_p (by decide) ?_ | refine if_neg_p (by decide) ?_) | ((with_reducible show wpAny _ _ (eval (Expr.Name _ _) (compEnvC _ _ _ _)) _ _ _); first | ((with_reducible refine' nmOwnF ?ca ?cb ?cd ?ce ?cf ?_); (case ca => with_reducible assumption); (case cb => with_reducible assumption); (case cd => rfl); (case ce => rfl); (case cf => decide)) | ((with_reducible refine' nmCellF ?ca ?cg ?cb ?cd ?ce ?cf ?_); (case cg => with_reducible assumption); (case ca => rfl); (case cb => with_reducible assumption); (case cd => rfl); (case ce => rfl); (case cf => decide))) | ((with_reducible show wpAny _ _ _ _ _ _); (fail_if_success (with_reducible (first | refine at1 ?_ | refine at2 ?_ | refine at3 ?_ | refine at5 ?_ | refine at12 ?_ | refine at14 ?_ | refine at17 ?_ | refine at15 ?_ | refine at16 ?_ | refine at25 ?_ | refine at9 ?_ | refine at10 ?_ | refine at11 ?_ | refine at18 ?_ | refine at19 ?_ | refine at20 ?_ | refine at21 ?_ | refine at22 ?_ | refine at23 ?_ | refine at24 ?_))); (try dsimp only); walk1)))
    rename_i h11 tk11 t11 u11 v11 hra F11 N11 hk11
    dsimp only at hra ⊢
    have hsz : ((IV ms).toArray.size : Int) = ((ms.length : Nat) : Int) := by simp [IV]
    rw [hsz] at hra
    refine wpAny_pyIter_range hra (range_small (by omega) (by omega) (by omega)) ?_
    rw [range_size (by omega)]
    dsimp only
    have F12 := F11.push (rangeO 0 ((ms.length : Int) - 0))
    have N12 := N11.push F11 (rangeO 0 ((ms.length : Int) - 0))
    have lI : ∀ q ∈ ((D8, LS vs n8) :: (R, W.listOf (tps.map (fun q => Value.ref q.1)).toArray n) :: (D4, LS zs n4) :: (D2, LS xs n2) :: (L' + 1 + 1 + 1, oc1) :: (L' + 1 + 1, oc2) :: (L' + 1, oc3) :: tps), q.1 < h11.objs.size := fun q hq => Heap.lt_size (N11 q hq).1
    have hIL' : h11.objs.size ≠ L' := Nat.ne_of_gt F11.ns.lt
    clear F11 N11 hra hk11
    have hIh : h11.objs.size < (h11.push (rangeO 0 ((ms.length : Int) - 0))).objs.size := by rw [Heap.size_push]; exact Nat.lt_succ_self _
    generalize h11.objs.size = I at *
    generalize h11.push (rangeO 0 ((ms.length : Int) - 0)) = h12 at *
    refine ⟨I, [I], [I], ms.length, _, _, g, _, _, rfl, Walks.range rfl I 0 1 ms.length, ?_, ?_, ?_, F12, news_tail N12, ?_, ?_, ?_, ?_⟩
    · simp [sizeLine_eq]; omega
    · have h1 := (N12 _ (.head _)).1
      exact h1
    · intro b hb
      rw [List.mem_singleton.mp hb]
      exact hIh
    · intro b hb
      rw [List.mem_singleton.mp hb]
      exact ⟨hIL', (N12 _ (.head _)).2.2, fun q hq => Nat.ne_of_lt (lI q hq)⟩
    · intro C i v s₃ m₃ E' hin hv hC hn hm3 hk
      refine oneTest ?_
      obtain ⟨t, rfl⟩ := hv
      obtain ⟨h7, gs7, d7, tk7, os7⟩ := s₃
      dsimp only at hn hk hC
      rw [show (0 + (i : Int) * 1) = (i : Int) from by omega] at hm3
      have F7 := blockFr hn
      have N7 : News (trunc C h7) C h7 [] := fun _ hq => nomatch hq
      have st7 : ∀ q ∈ ((D8, LS vs n8) :: (R, W.listOf (tps.map (fun q => Value.ref q.1)).toArray n) :: (D4, LS zs n4) :: (D2, LS xs n2) :: (L' + 1 + 1 + 1, oc1) :: (L' + 1 + 1, oc2) :: (L' + 1, oc3) :: tps), (trunc C h7).get? q.1 = some q.2 := fun q hq => by
        have h1 := (N12 q (.tail _ hq)).1
        rw [trunc_lt (Nat.lt_trans (Heap.lt_size h1) hC)]
        exact hk _ _ (by simpa using Nat.ne_of_lt (lI q hq)) h1
      have hcA : CellAt (L' + 1 + 1) (.ref D2) (trunc C h7) := ⟨oc2, st7 (L' + 1 + 1, oc2) (by simp), hoc2⟩
      have hcB : CellAt (L' + 1 + 1 + 1) (.ref D4) (trunc C h7) := ⟨oc1, st7 (L' + 1 + 1 + 1, oc1) (by simp), hoc1⟩
      have hD2 := st7 (D2, LS xs n2) (by simp)
      have hD4 := st7 (D4, LS zs n4) (by simp)
      obtain ⟨q, hq⟩ : ∃ q, zs[i]? = some q := ⟨_, List.getElem?_eq_getElem (by omega)⟩
      clear F12 N12
      (repeat' (first | ((with_reducible show @ite Prop _ _ _ _); first | refine if_pos_p (by decide) ?_ | refine if_neg_p (by decide) ?_) | ((with_reducible show wpAny _ _ (eval (Expr.Name _ _) (compEnvC _ _ _ _)) _ _ _); first | ((with_reducible refine' nmOwnF ?ca ?cb ?cd ?ce ?cf ?_); (case ca => with_reducible assumption); (case cb => with_reducible assumption); (case cd => rfl); (case ce => rfl); (case cf => decide)) | ((with_reducible refine' nmCellF ?ca ?cg ?cb ?cd ?ce ?cf ?_); (case cg => with_reducible assumption); (case ca => rfl); (case cb => with_reducible assumption); (case cd => rfl); (case ce => rfl); (case cf => decide))) | ((with_reducible show wpAny _ _ _ _ _ _); (fail_if_success (with_reducible (first | refine at1 ?_ | refine at2 ?_ | refine at3 ?_ | refine at5 ?_ | refine at12 ?_ | refine at14 ?_ | refine at17 ?_ | refine at15 ?_ | refine at16 ?_ | refine at25 ?_ | refine at9 ?_ | refine at10 ?_ | refine at11 ?_ | refine at18 ?_ | refine at19 ?_ | refine at20 ?_ | refine at21 ?_ | refine at22 ?_ | refine at23 ?_ | refine at24 ?_))); (try dsimp only); walk1)))
      dsimp only
      refine' sliceT (s := ⟨_, _, _, _, _⟩) (items := (SV zs).toArray) (lo := none) (hi := some (i : Int)) (st := none) F7 N7 ?e1 .none (.int _ _) .none ?e2 ?_ ?e3 ?e4
      case e1 => exact ⟨_, F7.keep _ _ hD4, rfl, _, rfl⟩
      case e2 => exact fun h => nomatch h
      case e3 => with_unfolding_all rfl
      case e4 => simp only [List.size_toArray, SV, List.length_map, sizeLine_eq]; omega
      intro h13 S13 F13 N13 _
      rw [pick_upto, show (SV zs).take i = SV (zs.take i) from (List.map_take ..).symm] at N13
      (repeat' (first | ((with_reducible show @ite Prop _ _ _ _); first | refine if_pos_p (by decide) ?_ | refine if_neg_p (by decide) ?_) | ((with_reducible show wpAny _ _ (eval (Expr.Name _ _) (compEnvC _ _ _ _)) _ _ _); first | ((with_reducible refine' nmOwnF ?ca ?cb ?cd ?ce ?cf ?_); (case ca => with_reducible assumption); (case cb => with_reducible assumption); (case cd => rfl); (case ce => rfl); (case cf => decide)) | ((with_reducible refine' nmCellF ?ca ?cg ?cb ?cd ?ce ?cf ?_); (case cg => with_reducible assumption); (case ca => rfl); (case cb => with_reducible assumption); (case cd => rfl); (case ce => rfl); (case cf => decide))) | ((with_reducible show wpAny _ _ _ _ _ _); (fail_if_success (with_reducible (first | refine at1 ?_ | refine at2 ?_ | refine at3 ?_ | refine at5 ?_ | refine at12 ?_ | refine at14 ?_ | refine at17 ?_ | refine at15 ?_ | refine at16 ?_ | refine at25 ?_ | refine at9 ?_ | refine at10 ?_ | refine at11 ?_ | refine at18 ?_ | refine at19 ?_ | refine at20 ?_ | refine at21 ?_ | refine at22 ?_ | refine at23 ?_ | refine at24 ?_))); (try dsimp only); walk1)))
      refine' itemT (items := (SV zs).toArray) (x := .str q.1 q.2) ?i1 ?i2 ?i3 ?i4 ?_ ?i5
      case i1 => exact ⟨_, F13.keep _ _ hD4, rfl, _, rfl⟩
      case i2 => omega
      case i3 => omega
      case i4 =>
        rw [Int.toNat_natCast]
        simp only [SV, List.getElem?_toArray, List.getElem?_map, hq]; rfl
      case i5 => with_unfolding_all rfl
      (repeat' (first | ((with_reducible show @ite Prop _ _ _ _); first | refine if_pos_p (by decide) ?_ | refine if_neg_p (by decide) ?_) | ((with_reducible show wpAny _ _ (eval (Expr.Name _ _) (compEnvC _ _ _ _)) _ _ _); first | ((with_reducible refine' nmOwnF ?ca ?cb ?cd ?ce ?cf ?_); (case ca => with_reducible assumption); (case cb => with_reducible assumption); (case cd => rfl); (case ce => rfl); (case cf => decide)) | ((with_reducible refine' nmCellF ?ca ?cg ?cb ?cd ?ce ?cf ?_); (case cg => with_reducible assumption); (case ca => rfl); (case cb => with_reducible assumption); (case cd => rfl); (case ce => rfl); (case cf => decide))) | ((with_reducible show wpAny _ _ _ _ _ _); (fail_if_success (with_reducible (first | refine at1 ?_ | refine at2 ?_ | refine at3 ?_ | refine at5 ?_ | refine at12 ?_ | refine at14 ?_ | refine at17 ?_ | refine at15 ?_ | refine at16 ?_ | refine at25 ?_ | refine at9 ?_ | refine at10 ?_ | refine at11 ?_ | refine at18 ?_ | refine at19 ?_ | refine at20 ?_ | refine at21 ?_ | refine at22 ?_ | refine at23 ?_ | refine at24 ?_))); (try dsimp only); walk1)))
      refine cntLS (xs := zs.take i) ⟨_, (N13 _ (.head _)).1, rfl, _, rfl⟩ ?_
      have hD2' : h13.IsList D2 (SV xs).toArray := ⟨_, F13.keep _ _ hD2, rfl, _, rfl⟩
      (repeat' (first | ((with_reducible show @ite Prop _ _ _ _); first | refine if_pos_p (by decide) ?_ | refine if_neg_p (by decide) ?_) | ((with_reducible show wpAny _ _ (eval (Expr.Name _ _) (compEnvC _ _ _ _)) _ _ _); first | ((with_reducible refine' nmOwnF ?ca ?cb ?cd ?ce ?cf ?_); (case ca => with_reducible assumption); (case cb => with_reducible assumption); (case cd => rfl); (case ce => rfl); (case cf => decide)) | ((with_reducible refine' nmCellF ?ca ?cg ?cb ?cd ?ce ?cf ?_); (case cg => with_reducible assumption); (case ca => rfl); (case cb => with_reducible assumption); (case cd => rfl); (case ce => rfl); (case cf => decide))) | ((with_reducible show wpAny _ _ _ _ _ _); (fail_if_success (with_reducible (first | refine at1 ?_ | refine at2 ?_ | refine at3 ?_ | refine at5 ?_ | refine at12 ?_ | refine at14 ?_ | refine at17 ?_ | refine at15 ?_ | refine at16 ?_ | refine at25 ?_ | refine at9 ?_ | refine at10 ?_ | refine at11 ?_ | refine at18 ?_ | refine at19 ?_ | refine at20 ?_ | refine at21 ?_ | refine at22 ?_ | refine at23 ?_ | refine at24 ?_))); (try dsimp only); walk1)))
      have hD2n : h13.NoDictAt (.ref D2) := ⟨_, F13.keep _ _ hD2, rfl⟩
      refine getMethod_list_of PySem.F.slot_list_count rfl hD2' hD2n ?_
      (repeat' (first | ((with_reducible show @ite Prop _ _ _ _); first | refine if_pos_p (by decide) ?_ | refine if_neg_p (by decide) ?_) | ((with_reducible show wpAny _ _ (eval (Expr.Name _ _) (compEnvC _ _ _ _)) _ _ _); first | ((with_reducible refine' nmOwnF ?ca ?cb ?cd ?ce ?cf ?_); (case ca => with_reducible assumption); (case cb => with_reducible assumption); (case cd => rfl); (case ce => rfl); (case cf => decide)) | ((with_reducible refine' nmCellF ?ca ?cg ?cb ?cd ?ce ?cf ?_); (case cg => with_reducible assumption); (case ca => rfl); (case cb => with_reducible assumption); (case cd => rfl); (case ce => rfl); (case cf => decide))) | ((with_reducible show wpAny _ _ _ _ _ _); (fail_if_success (with_reducible (first | refine at1 ?_ | refine at2 ?_ | refine at3 ?_ | refine at5 ?_ | refine at12 ?_ | refine at14 ?_ | refine at17 ?_ | refine at15 ?_ | refine at16 ?_ | refine at25 ?_ | refine at9 ?_ | refine at10 ?_ | refine at11 ?_ | refine at18 ?_ | refine at19 ?_ | refine at20 ?_ | refine at21 ?_ | refine at22 ?_ | refine at23 ?_ | refine at24 ?_))); (try dsimp only); walk1)))
      refine' itemT (items := (SV zs).toArray) (x := .str q.1 q.2) ?i1 ?i2 ?i3 ?i4 ?_ ?i5
      case i1 => exact ⟨_, F13.keep _ _ hD4, rfl, _, rfl⟩
      case i2 => omega
      case i3 => omega
      case i4 =>
        rw [Int.toNat_natCast]
        simp only [SV, List.getElem?_toArray, List.getElem?_map, hq]; rfl
      case i5 => with_unfolding_all rfl
      (repeat' (first | ((with_reducible show @ite Prop _ _ _ _); first | refine if_pos_p (by decide) ?_ | refine if_neg_p (by decide) ?_) | ((with_reducible show wpAny _ _ (eval (Expr.Name _ _) (compEnvC _ _ _ _)) _ _ _); first | ((with_reducible refine' nmOwnF ?ca ?cb ?cd ?ce ?cf ?_); (case ca => with_reducible assumption); (case cb => with_reducible assumption); (case cd => rfl); (case ce => rfl); (case cf => decide)) | ((with_reducible refine' nmCellF ?ca ?cg ?cb ?cd ?ce ?cf ?_); (case cg => with_reducible assumption); (case ca => rfl); (case cb => with_reducible assumption); (case cd => rfl); (case ce => rfl); (case cf => decide))) | ((with_reducible show wpAny _ _ _ _ _ _); (fail_if_success (with_reducible (first | refine at1 ?_ | refine at2 ?_ | refine at3 ?_ | refine at5 ?_ | refine at12 ?_ | refine at14 ?_ | refine at17 ?_ | refine at15 ?_ | refine at16 ?_ | refine at25 ?_ | refine at9 ?_ | refine at10 ?_ | refine at11 ?_ | refine at18 ?_ | refine at19 ?_ | refine at20 ?_ | refine at21 ?_ | refine at22 ?_ | refine at23 ?_ | refine at24 ?_))); (try dsimp only); walk1)))
      refine cntLS (xs := xs) hD2' ?_
      (repeat' (first | ((with_reducible show @ite Prop _ _ _ _); first | refine if_pos_p (by decide) ?_ | refine if_neg_p (by decide) ?_) | ((with_reducible show wpAny _ _ (eval (Expr.Name _ _) (compEnvC _ _ _ _)) _ _ _); first | ((with_reducible refine' nmOwnF ?ca ?cb ?cd ?ce ?cf ?_); (case ca => with_reducible assumption); (case cb => with_reducible assumption); (case cd => rfl); (case ce => rfl); (case cf => decide)) | ((with_reducible refine' nmCellF ?ca ?cg ?cb ?cd ?ce ?cf ?_); (case cg => with_reducible assumption); (case ca => rfl); (case cb => with_reducible assumption); (case cd => rfl); (case ce => rfl); (case cf => decide))) | ((with_reducible show wpAny _ _ _ _ _ _); (fail_if_success (with_reducible (first | refine at1 ?_ | refine at2 ?_ | refine at3 ?_ | refine at5 ?_ | refine at12 ?_ | refine at14 ?_ | refine at17 ?_ | refine at15 ?_ | refine at16 ?_ | refine at25 ?_ | refine at9 ?_ | refine at10 ?_ | refine at11 ?_ | refine at18 ?_ | refine at19 ?_ | refine at20 ?_ | refine at21 ?_ | refine at22 ?_ | refine at23 ?_ | refine at24 ?_))); (try dsimp only); walk1)))
      refine (show _ ∧ _ ∧ True from ⟨?_, blockEnd hn F13, trivial⟩)
      unfold pL
      rw [List.getElem?_map, hq, ← List.map_take]
      simp only [Option.map_some, Int.ofNat_le]
    · intro C i v s₃ m₃ E' hin hv _ hC hn hm3 hk
      obtain ⟨t, rfl⟩ := hv
      obtain ⟨h7, gs7, d7, tk7, os7⟩ := s₃
      dsimp only at hn hk hC
      rw [show (0 + (i : Int) * 1) = (i : Int) from by omega] at hm3
      have F7 := blockFr hn
      have N7 : News (trunc C h7) C h7 [] := fun _ hq => nomatch hq
      have st7 : ∀ q ∈ ((D8, LS vs n8) :: (R, W.listOf (tps.map (fun q => Value.ref q.1)).toArray n) :: (D4, LS zs n4) :: (D2, LS xs n2) :: (L' + 1 + 1 + 1, oc1) :: (L' + 1 + 1, oc2) :: (L' + 1, oc3) :: tps), (trunc C h7).get? q.1 = some q.2 := fun q hq => by
        have h1 := (N12 q (.tail _ hq)).1
        rw [trunc_lt (Nat.lt_trans (Heap.lt_size h1) hC)]
        exact hk _ _ (by simpa using Nat.ne_of_lt (lI q hq)) h1
      have hcB : CellAt (L' + 1 + 1 + 1) (.ref D4) (trunc C h7) := ⟨oc1, st7 (L' + 1 + 1 + 1, oc1) (by simp), hoc1⟩
      have hD4 := st7 (D4, LS zs n4) (by simp)
      obtain ⟨q, hq⟩ : ∃ q, zs[i]? = some q := ⟨_, List.getElem?_eq_getElem (by omega)⟩
      clear F12 N12
      (repeat' (first | ((with_reducible show @ite Prop _ _ _ _); first | refine if_pos_p (by decide) ?_ | refine if_neg_p (by decide) ?_) | ((with_reducible show wpAny _ _ (eval (Expr.Name _ _) (compEnvC _ _ _ _)) _ _ _); first | ((with_reducible refine' nmOwnF ?ca ?cb ?cd ?ce ?cf ?_); (case ca => with_reducible assumption); (case cb => with_reducible assumption); (case cd => rfl); (case ce => rfl); (case cf => decide)) | ((with_reducible refine' nmCellF ?ca ?cg ?cb ?cd ?ce ?cf ?_); (case cg => with_reducible assumption); (case ca => rfl); (case cb => with_reducible assumption); (case cd => rfl); (case ce => rfl); (case cf => decide))) | ((with_reducible show wpAny _ _ _ _ _ _); (fail_if_success (with_reducible (first | refine at1 ?_ | refine at2 ?_ | refine at3 ?_ | refine at5 ?_ | refine at12 ?_ | refine at14 ?_ | refine at17 ?_ | refine at15 ?_ | refine at16 ?_ | refine at25 ?_ | refine at9 ?_ | refine at10 ?_ | refine at11 ?_ | refine at18 ?_ | refine at19 ?_ | refine at20 ?_ | refine at21 ?_ | refine at22 ?_ | refine at23 ?_ | refine at24 ?_))); (try dsimp only); walk1)))
      refine' itemT (items := (SV zs).toArray) (x := .str q.1 q.2) ?i1 ?i2 ?i3 ?i4 ?_ ?i5
      case i1 => exact ⟨_, F7.keep _ _ hD4, rfl, _, rfl⟩
      case i2 => omega
      case i3 => omega
      case i4 =>
        rw [Int.toNat_natCast]
        simp only [SV, List.getElem?_toArray, List.getElem?_map, hq]; rfl
      case i5 => with_unfolding_all rfl
      (try (repeat' (first | ((with_reducible show @ite Prop _ _ _ _); first | refine if_pos_p (by decide) ?_ | refine if_neg_p (by decide) ?_) | ((with_reducible show wpAny _ _ (eval (Expr.Name _ _) (compEnvC _ _ _ _)) _ _ _); first | ((with_reducible refine' nmOwnF ?ca ?cb ?cd ?ce ?cf ?_); (case ca => with_reducible assumption); (case cb => with_reducible assumption); (case cd => rfl); (case ce => rfl); (case cf => decide)) | ((with_reducible refine' nmCellF ?ca ?cg ?cb ?cd ?ce ?cf ?_); (case cg => with_reducible assumption); (case ca => rfl); (case cb => with_reducible assumption); (case cd => rfl); (case ce => rfl); (case cf => decide))) | ((with_reducible show wpAny _ _ _ _ _ _); (fail_if_success (with_reducible (first | refine at1 ?_ | refine at2 ?_ | refine at3 ?_ | refine at5 ?_ | refine at12 ?_ | refine at14 ?_ | refine at17 ?_ | refine at15 ?_ | refine at16 ?_ | refine at25 ?_ | refine at9 ?_ | refine at10 ?_ | refine at11 ?_ | refine at18 ?_ | refine at19 ?_ | refine at20 ?_ | refine at21 ?_ | refine at22 ?_ | refine at23 ?_ | refine at24 ?_))); (try dsimp only); walk1))))
      refine (show _ ∧ _ ∧ True from ⟨⟨q, hq, rfl⟩, blockEnd hn F7, trivial⟩)
    · intro D9 C9 ys h13 tk13 hD9 hLD9 hDC9 F13 k9 N13 hP9
      (repeat' (first | ((with_reducible show @ite Prop _ _ _ _); first | refine if_pos_p (by decide) ?_ | refine if_neg_p (by decide) ?_) | ((with_reducible show wpAny _ _ (eval (Expr.Name _ _) (compEnvC _ _ _ _)) _ _ _); first | ((with_reducible refine' nmOwnF ?ca ?cb ?cd ?ce ?cf ?_); (case ca => with_reducible assumption); (case cb => with_reducible assumption); (case cd => rfl); (case ce => rfl); (case cf => decide)) | ((with_reducible refine' nmCellF ?ca ?cg ?cb ?cd ?ce ?cf ?_); (case cg => with_reducible assumption); (case ca => rfl); (case cb => with_reducible assumption); (case cd => rfl); (case ce => rfl); (case cf => decide))) | ((with_reducible show wpAny _ _ _ _ _ _); (fail_if_success (with_reducible (first | refine at1 ?_ | refine at2 ?_ | refine at3 ?_ | refine at5 ?_ | refine at12 ?_ | refine at14 ?_ | refine at17 ?_ | refine at15 ?_ | refine at16 ?_ | refine at25 ?_ | refine at9 ?_ | refine at10 ?_ | refine at11 ?_ | refine at18 ?_ | refine at19 ?_ | refine at20 ?_ | refine at21 ?_ | refine at22 ?_ | refine at23 ?_ | refine at24 ?_))); (try dsimp only); walk1)))
      obtain ⟨ls, hls, hle⟩ := left_out hP9
      have hys : ys = (SV ls).toArray := by rw [← hls]
      subst hys
      have F14 := (show Fr g L' _ _ by assumption)
      have N14 := (show News g L' _ _ by assumption)
      rename_i l14 h14 _ _ _
      obtain ⟨t2, N14⟩ : ∃ t2, News g L' h14 ((l14, W.listOf #[Value.int 2 t2] 0) :: (D9, W.listOf (SV ls).toArray k9) :: (D8, LS vs n8) :: (R, W.listOf (tps.map (fun q => Value.ref q.1)).toArray n) :: (D4, LS zs n4) :: (D2, LS xs n2) :: (L' + 1 + 1 + 1, oc1) :: (L' + 1 + 1, oc2) :: (L' + 1, oc3) :: tps) := ⟨_, N14⟩
      refine len_list (items := (SV vs).toArray) ⟨_, (N14 (D8, LS vs n8) (by simp)).1, rfl, _, rfl⟩ (by simp [SV]; omega) ?_
      have hsv : ((SV vs).toArray.size : Int) = (vs.length : Nat) := by simp [SV]
      rw [hsv]
      refine mul_list (s := ⟨_, _, _, _, _⟩) F14 N14 (N14 _ (.head _)).1 (by omega) (by omega) (by simp; omega) ?_
      intro h15 F15 N15
      clear F14 N14
      dsimp only at N15 ⊢
      generalize h14.objs.size = S15 at N15 ⊢
      obtain ⟨y9, hy9, N15⟩ : ∃ y9 : Array Value, y9.toList = List.replicate vs.length (Value.int 2 t2) ∧ News g L' h15 ((S15, W.listOf y9 0) :: (l14, W.listOf #[Value.int 2 t2] 0) :: (D9, W.listOf (SV ls).toArray k9) :: (D8, LS vs n8) :: (R, W.listOf (tps.map (fun q => Value.ref q.1)).toArray n) :: (D4, LS zs n4) :: (D2, LS xs n2) :: (L' + 1 + 1 + 1, oc1) :: (L' + 1 + 1, oc2) :: (L' + 1, oc3) :: tps) := by
        refine ⟨_, ?_, N15⟩
        rw [if_neg (by simp), Int.toNat_natCast, fold_rep]
        rfl
      (repeat' (first | ((with_reducible show @ite Prop _ _ _ _); first | refine if_pos_p (by decide) ?_ | refine if_neg_p (by decide) ?_) | ((with_reducible show wpAny _ _ (eval (Expr.Name _ _) (compEnvC _ _ _ _)) _ _ _); first | ((with_reducible refine' nmOwnF ?ca ?cb ?cd ?ce ?cf ?_); (case ca => with_reducible assumption); (case cb => with_reducible assumption); (case cd => rfl); (case ce => rfl); (case cf => decide)) | ((with_reducible refine' nmCellF ?ca ?cg ?cb ?cd ?ce ?cf ?_); (case cg => with_reducible assumption); (case ca => rfl); (case cb => with_reducible assumption); (case cd => rfl); (case ce => rfl); (case cf => decide))) | ((with_reducible show wpAny _ _ _ _ _ _); (fail_if_success (with_reducible (first | refine at1 ?_ | refine at2 ?_ | refine at3 ?_ | refine at5 ?_ | refine at12 ?_ | refine at14 ?_ | refine at17 ?_ | refine at15 ?_ | refine at16 ?_ | refine at25 ?_ | refine at9 ?_ | refine at10 ?_ | refine at11 ?_ | refine at18 ?_ | refine at19 ?_ | refine at20 ?_ | refine at21 ?_ | refine at22 ?_ | refine at23 ?_ | refine at24 ?_))); (try dsimp only); walk1)))
      have F16 := (show Fr g L' _ _ by assumption)
      have N16 := (show News g L' _ _ by assumption)
      obtain ⟨as, RR⟩ := due_reads (ts := (dueCS (xs.map Prod.fst) (zs.map Prod.fst) (2 * ms.length)).map fun r => PyData.tuple [.int r.1, .int r.2.1, .str r.2.2]) (ws := List.replicate vs.length (PyData.int 2)) (N16 _ (.head _)).1 (N16 (D2, LS xs n2) (by simp)).1 (N16 (D4, LS zs n4) (by simp)).1 (N16 (R, W.listOf (tps.map (fun q => Value.ref q.1)).toArray n) (by simp)).1 (N16 (D8, LS vs n8) (by simp)).1 (N16 (D9, LS ls k9) (by simp)).1 (N16 (S15, W.listOf y9 0) (by simp)).1
        (by rw [← hres]; exact reads_tupsS (fun q hq => (N16 q (by simp [hq])).1) hP) (by rw [hy9]; exact reads_twos2 _ _ _)
      have e1 : vs.map Prod.fst = ((ms.map Prod.fst).reverse.filter (bitM r)).map lrS := by
        rw [hve, ← List.map_reverse, List.filter_map]; rfl
      have e2 : ls.map Prod.fst = leftS (xs.map Prod.fst) (zs.map Prod.fst) := by
        rw [hle]
        unfold leftS
        rw [List.length_map, hzl]
      have e3 : vs.length = (((ms.map Prod.fst).reverse.filter (bitM r)).map lrS).length := by rw [← e1, List.length_map]
      rw [e1, e2, e3] at RR
      exact hQ _ _ _ as RR F16.keep
end Mine
end
section
open PySem PySem.W PyProof.Rows PySem.Calls PyProof.V PyProof.Rows.TI
set_option Elab.async false
set_option maxRecDepth 100000
set_option maxHeartbeats 2000000
namespace Mine
theorem fillup16 : PySem.Challenge.rw_oy0181_01 = PySem.Challenge.rw_oy0181_01 ∧ KK = KK := by k_fill; exact ⟨rfl, rfl⟩
variable {prog : Program} {w : World} {p : Program} {loose : List Str} {mean : ExcName → Option Value} {mg mb : Str → Option Value}
theorem due_call (dp un : Nat) (gd : Option (List Code)) (fr : Option (List Env)) (h₀ : Heap) (s : Shared) (Q E : Value → Shared → Prop) (lm : Addr) (ms : List (Int × Tok)) (r : Int) (tr : Tok)
   (X : (KK w.params).In h₀) (T : Top p loose mean mg mb h₀) (hst : h₀.StaysIn s.heap) (hdp : dp + 40 < recursionLimit) (hun : un + 200 < cLine)
   (hl : s.heap.IsList lm (IV ms).toArray) (hms : ms.length ≤ 20) (hr : 0 < r) (hr2 : r ≤ 256) (hm1 : ∀ m ∈ ms, 0 ≤ m.1 ∧ TypeOK m.1) (hm2 : ∀ m ∈ ms, 0 ≤ offM m.1 r ∧ TypeOK (offM m.1 r))
   (hQ : ∀ h' tk R as, Reads h' (.ref R) (dueD ((ms.map Prod.fst).map lrS) ((ms.map Prod.fst).map fun m => lrS (offM m r)) (2 * ms.length) (((ms.map Prod.fst).reverse.filter (bitM r)).map lrS)) as → (∀ b o, s.heap.get? b = some o → h'.get? b = some o) → Q (.ref R) { s with heap := h', toks := tk })
   : wpAny (model prog w) (Ar dp un gd fr) (PySem.call (.ref 235) [.ref lm, .int r tr]) Q E s := by
  refine' callMC (binds := [("modes", .ref lm), ("right", .int r tr)]) [] X T hst ?a ?b ?ep ?eb ?es ?c ?d ?e ?f ?g ?_ ?h ?i ?j
  case a => exact fun _ h => nomatch h
  case b => k_is
  case ep => conv => lhs; whnf
  case eb => conv => lhs; whnf
  case es => conv => lhs; whnf
  case c => k_is
  case d => show dp < _; omega
  case e => exact BindsTo.of_eq rfl
  case f => intro n x hx; simp only [List.mem_cons, List.not_mem_nil, or_false] at hx; rcases hx with rfl | rfl; exact .inl rfl; exact .inr ⟨rfl, rfl⟩
  case g => decide
  case h => rfl
  case i => rfl
  case j => rfl
  intro g L' h₁ tk cells F' N' hcells hcn X' TT hlt0 hg
  clear X T
  obtain ⟨oc1, oc2, oc3, rfl, hoc1, hoc2, hoc3⟩ := CellsAre.three hcells
  replace hoc3 : oc3.data = .cell (some (.int r tr)) := hoc3
  replace hoc1 : oc1.data = .cell none := hoc1
  replace hoc2 : oc2.data = .cell none := hoc2
  have F1 : Fr g L' h₁ (fun y => if y = Str.ofString "modes" then some (.ref lm) else none) := F'
  have N1 : News g L' h₁ ([(L' + 1 + 1 + 1, oc1)] ++ (L' + 1 + 1, oc2) :: [(L' + 1, oc3)]) := N'
  clear F' N'
  have hG : g.IsList lm (IV ms).toArray := let ⟨o, a, q⟩ := hl; ⟨o, hg _ _ a (fun q => nomatch q), q⟩
  (repeat' (first | ((with_reducible show @ite Prop _ _ _ _); first | refine if_pos_p (by decide) ?_ | refine if_neg_p (by decide) ?_) | ((with_reducible show wpAny _ _ (eval (Expr.Name _ _) (compEnvC _ _ _ _)) _ _ _); first | ((with_reducible refine' nmOwnF ?ca ?cb ?cd ?ce ?cf ?_); (case ca => with_reducible assumption); (case cb => with_reducible assumption); (case cd => rfl); (case ce => rfl); (case cf => decide)) | ((with_reducible refine' nmCellF ?ca ?cg ?cb ?cd ?ce ?cf ?_); (case cg => with_reducible assumption); (case ca => rfl); (case cb => with_reducible assumption); (case cd => rfl); (case ce => rfl); (case cf => decide))) | ((with_reducible show wpAny _ _ _ _ _ _); (fail_if_success (with_reducible (first | refine at1 ?_ | refine at2 ?_ | refine at3 ?_ | refine at5 ?_ | refine at12 ?_ | refine at14 ?_ | refine at15 ?_ | refine at16 ?_ | refine at9 ?_ | refine at10 ?_ | refine at11 ?_ | refine at18 ?_ | refine at19 ?_ | refine at20 ?_))); (try dsimp only); walk1)))
  with_reducible refine' compT (fun _ => true) (fun v y => ∀ n t, v = .int n t → ∃ t', y = .str (lrS n) t') ?c1 ?c2 ?c3 ?c4 ?c5 ?c6 ?_ ?c7
  case c1 => rfl
  case c2 => rfl
  case c3 => decide
  case c4 => rfl
  case c5 => decide
  case c6 => rfl
  case c7 => intro _; rfl
  (repeat' (first | ((with_reducible show @ite Prop _ _ _ _); first | refine if_pos_p (by decide) ?_ | refine if_neg_p (by decide) ?_) | ((with_reducible show wpAny _ _ (eval (Expr.Name _ _) (compEnvC _ _ _ _)) _ _ _); first | ((with_reducible refine' nmOwnF ?ca ?cb ?cd ?ce ?cf ?_); (case ca => with_reducible assumption); (case cb => with_reducible assumption); (case cd => rfl); (case ce => rfl); (case cf => decide)) | ((with_reducible refine' nmCellF ?ca ?cg ?cb ?cd ?ce ?cf ?_); (case cg => with_reducible assumption); (case ca => rfl); (case cb => with_reducible assumption); (case cd => rfl); (case ce => rfl); (case cf => decide))) | ((with_reducible show wpAny _ _ _ _ _ _); (fail_if_success (with_reducible (first | refine at1 ?_ | refine at2 ?_ | refine at3 ?_ | refine at5 ?_ | refine at12 ?_ | refine at14 ?_ | refine at15 ?_ | refine at16 ?_ | refine at9 ?_ | refine at10 ?_ | refine at11 ?_ | refine at18 ?_ | refine at19 ?_ | refine at20 ?_))); (try dsimp only); walk1)))
  refine ⟨lm, (IV ms).toArray, rfl, (let ⟨o, a, q⟩ := hG; ⟨o, F1.keep _ _ a, q⟩), ?_, ?_, ?_, ?_⟩
  · simp [IV, sizeLine_eq]; omega
  · intro C v s₃ m₃ E' _ _ _ _ _
    exact noTest ⟨rfl, KeepsTo.refl _ _⟩
  · intro C v s₃ m₃ E' hv _ hC hn hm3 hk
    obtain ⟨⟨n, t⟩, hnm, rfl⟩ := mem_IV hv
    obtain ⟨h7, gs7, d7, tk7, os7⟩ := s₃
    dsimp only at hn hk hC
    have F7 := blockFr hn
    have N7 : News (trunc C h7) C h7 [] := fun _ hq => nomatch hq
    have st7 : g.StaysIn (trunc C h7) := fun b o e => blockStays hC hk b o (F1.keep b o e)
    have X7 := X'.keeps st7
    have T7 := TT.keeps st7
    clear F1 N1 X' TT
    (repeat' (first | ((with_reducible show @ite Prop _ _ _ _); first | refine if_pos_p (by decide) ?_ | refine if_neg_p (by decide) ?_) | ((with_reducible show wpAny _ _ (eval (Expr.Name _ _) (compEnvC _ _ _ _)) _ _ _); first | ((with_reducible refine' nmOwnF ?ca ?cb ?cd ?ce ?cf ?_); (case ca => with_reducible assumption); (case cb => with_reducible assumption); (case cd => rfl); (case ce => rfl); (case cf => decide)) | ((with_reducible refine' nmCellF ?ca ?cg ?cb ?cd ?ce ?cf ?_); (case cg => with_reducible assumption); (case ca => rfl); (case cb => with_reducible assumption); (case cd => rfl); (case ce => rfl); (case cf => decide))) | ((with_reducible show wpAny _ _ _ _ _ _); (fail_if_success (with_reducible (first | refine at1 ?_ | refine at2 ?_ | refine at3 ?_ | refine at5 ?_ | refine at12 ?_ | refine at14 ?_ | refine at15 ?_ | refine at16 ?_ | refine at9 ?_ | refine at10 ?_ | refine at11 ?_ | refine at18 ?_ | refine at19 ?_ | refine at20 ?_))); (try dsimp only); walk1)))
    refine ⟨X7.keeps F7.keep, ?_⟩
    refine lr_call (dp + 1) (un + 3) gd _ (trunc C h7) _ _ _ _ _ X7 T7 F7.keep (by omega) (by omega) (hm1 _ hnm).1 (hm1 _ hnm).2.lt (hm1 _ hnm).2 ?_
    intro h9 tk9 t9 hk9
    exact ⟨fun n' t' e => by cases e; exact ⟨_, rfl⟩, keepsTo_of hk9⟩
  · intro D2 h8 tk8 ys hD2 hp2 hF2 hk2
    dsimp only at hk2 hD2 ⊢
    replace hF2 : Paired (fun v y => ∀ n t, v = Value.int n t → ∃ t', y = Value.str (lrS n) t') (IV ms) ys.toList := by
      rw [show (IV ms).toArray.toList = IV ms from rfl, filter_all] at hF2; exact hF2
    obtain ⟨xs, hxs, hxe⟩ := paired_strs lrS _ _ hF2
    have hys : ys = (SV xs).toArray := by rw [← hxs]
    subst hys
    have hxl : xs.length = ms.length := by simpa using congrArg List.length hxe
    obtain ⟨n2, hp2⟩ := hp2
    have F2 := F1.keeps hk2
    have gn1 : ∀ b, h₁.get? b = none → g.get? b = none ∧ b ≠ L' := by
      intro b hb
      constructor
      · cases q : g.get? b with
        | none => rfl
        | some o => rw [F1.keep _ _ q] at hb; cases hb
      · intro e
        obtain ⟨o, _, _, ho, _⟩ := F1.ns
        rw [e, ho] at hb
        cases hb
    have N2 : News g L' h8 ((D2, LS xs n2) :: (L' + 1 + 1 + 1, oc1) :: (L' + 1 + 1, oc2) :: [(L' + 1, oc3)]) := news_cons hp2 (gn1 _ hD2).2 (gn1 _ hD2).1 fun q hq => ⟨hk2 _ _ (N1 q hq).1, (N1 q hq).2⟩
    have hD2d : D2 ≠ L' + 1 + 1 + 1 := fun e => by have := (N1 (L' + 1 + 1 + 1, oc1) (.head _)).1; rw [← e, hD2] at this; cases this
    have hD2c : D2 ≠ L' + 1 + 1 := fun e => by have := (N1 (L' + 1 + 1, oc2) (.tail _ (.head _))).1; rw [← e, hD2] at this; cases this
    clear F1 N1 hF2 hk2 hxs gn1
    (repeat' (first | ((with_reducible show @ite Prop _ _ _ _); first | refine if_pos_p (by decide) ?_ | refine if_neg_p (by decide) ?_) | ((with_reducible show wpAny _ _ (eval (Expr.Name _ _) (compEnvC _ _ _ _)) _ _ _); first | ((with_reducible refine' nmOwnF ?ca ?cb ?cd ?ce ?cf ?_); (case ca => with_reducible assumption); (case cb => with_reducible assumption); (case cd => rfl); (case ce => rfl); (case cf => decide)) | ((with_reducible refine' nmCellF ?ca ?cg ?cb ?cd ?ce ?cf ?_); (case cg => with_reducible assumption); (case ca => rfl); (case cb => with_reducible assumption); (case cd => rfl); (case ce => rfl); (case cf => decide))) | ((with_reducible show wpAny _ _ _ _ _ _); (fail_if_success (with_reducible (first | refine at1 ?_ | refine at2 ?_ | refine at3 ?_ | refine at5 ?_ | refine at12 ?_ | refine at14 ?_ | refine at15 ?_ | refine at16 ?_ | refine at9 ?_ | refine at10 ?_ | refine at11 ?_ | refine at18 ?_ | refine at19 ?_ | refine at20 ?_))); (try dsimp only); walk1)))
    have F3 := (show Fr g L' _ _ by assumption)
    have N3 := (show News g L' _ _ by assumption)
    rename_i h3 oc4 F3' N3' hoc4
    clear F3' N3'
    with_reducible refine' compT (fun _ => true) (fun v y => ∀ n t, v = .int n t → ∃ t', y = .str (lrS (offM n r)) t') ?c1 ?c2 ?c3 ?c4 ?c5 ?c6 ?_ ?c7
    case c1 => rfl
    case c2 => rfl
    case c3 => decide
    case c4 => rfl
    case c5 => decide
    case c6 => rfl
    case c7 => intro _; rfl
    (repeat' (first | ((with_reducible show @ite Prop _ _ _ _); first | refine if_pos_p (by decide) ?_ | refine if_neg_p (by decide) ?_) | ((with_reducible show wpAny _ _ (eval (Expr.Name _ _) (compEnvC _ _ _ _)) _ _ _); first | ((with_reducible refine' nmOwnF ?ca ?cb ?cd ?ce ?cf ?_); (case ca => with_reducible assumption); (case cb => with_reducible assumption); (case cd => rfl); (case ce => rfl); (case cf => decide)) | ((with_reducible refine' nmCellF ?ca ?cg ?cb ?cd ?ce ?cf ?_); (case cg => with_reducible assumption); (case ca => rfl); (case cb => with_reducible assumption); (case cd => rfl); (case ce => rfl); (case cf => decide))) | ((with_reducible show wpAny _ _ _ _ _ _); (fail_if_success (with_reducible (first | refine at1 ?_ | refine at2 ?_ | refine at3 ?_ | refine at5 ?_ | refine at12 ?_ | refine at14 ?_ | refine at15 ?_ | refine at16 ?_ | refine at9 ?_ | refine at10 ?_ | refine at11 ?_ | refine at18 ?_ | refine at19 ?_ | refine at20 ?_))); (try dsimp only); walk1)))
    refine ⟨lm, (IV ms).toArray, rfl, (let ⟨o, a, q⟩ := hG; ⟨o, F3.keep _ _ a, q⟩), ?_, ?_, ?_, ?_⟩
    · simp [IV, sizeLine_eq]; omega
    · intro C v s₃ m₃ E' _ _ _ _ _
      exact noTest ⟨rfl, KeepsTo.refl _ _⟩
    · intro C v s₃ m₃ E' hv _ hC hn hm3 hk
      obtain ⟨⟨n, t⟩, hnm, rfl⟩ := mem_IV hv
      obtain ⟨h7, gs7, d7, tk7, os7⟩ := s₃
      dsimp only at hn hk hC
      have F7 := blockFr hn
      have N7 : News (trunc C h7) C h7 [] := fun _ hq => nomatch hq
      have st7 : g.StaysIn (trunc C h7) := fun b o e => blockStays hC hk b o (F3.keep b o e)
      have X7 := X'.keeps st7
      have T7 := TT.keeps st7
      have hcell7 : CellAt (L' + 1) (.int r tr) (trunc C h7) := ⟨oc3, blockStays hC hk _ _ (N3 (L' + 1, oc3) (by simp)).1, hoc3⟩
      have hb0 := hm1 _ hnm
      have hb1 : (0 : Int) ≤ n ∧ n < 65536 := ⟨hb0.1, hb0.2.lt⟩
      have hb2 := hm2 _ hnm
      clear F3 N3 X' TT
      (repeat' (first | ((with_reducible show @ite Prop _ _ _ _); first | refine if_pos_p (by decide) ?_ | refine if_neg_p (by decide) ?_) | ((with_reducible show wpAny _ _ (eval (Expr.Name _ _) (compEnvC _ _ _ _)) _ _ _); first | ((with_reducible refine' nmOwnF ?ca ?cb ?cd ?ce ?cf ?_); (case ca => with_reducible assumption); (case cb => with_reducible assumption); (case cd => rfl); (case ce => rfl); (case cf => decide)) | ((with_reducible refine' nmCellF ?ca ?cg ?cb ?cd ?ce ?cf ?_); (case cg => with_reducible assumption); (case ca => rfl); (case cb => with_reducible assumption); (case cd => rfl); (case ce => rfl); (case cf => decide))) | ((with_reducible show wpAny _ _ _ _ _ _); (fail_if_success (with_reducible (first | refine at1 ?_ | refine at2 ?_ | refine at3 ?_ | refine at5 ?_ | refine at12 ?_ | refine at14 ?_ | refine at15 ?_ | refine at16 ?_ | refine at9 ?_ | refine at10 ?_ | refine at11 ?_ | refine at18 ?_ | refine at19 ?_ | refine at20 ?_))); (try dsimp only); walk1)))
      refine ⟨X7.keeps F7.keep, ?_⟩
      refine lr_call (dp + 1) (un + 3) gd _ (trunc C h7) _ _ _ _ _ X7 T7 F7.keep (by omega) (by omega) hb2.1 hb2.2.lt hb2.2 ?_
      intro h9 tk9 t9 hk9
      exact ⟨fun n' t' e => by cases e; exact ⟨_, rfl⟩, keepsTo_of hk9⟩
    · intro D4 h8 tk8 ys hD4 hp4 hF4 hk4
      dsimp only at hk4 hD4 ⊢
      replace hF4 : Paired (fun v y => ∀ n t, v = Value.int n t → ∃ t', y = Value.str (lrS (offM n r)) t') (IV ms) ys.toList := by
        rw [show (IV ms).toArray.toList = IV ms from rfl, filter_all] at hF4; exact hF4
      obtain ⟨zs, hzs, hze⟩ := paired_strs (fun n => lrS (offM n r)) _ _ hF4
      have hys : ys = (SV zs).toArray := by rw [← hzs]
      subst hys
      have hzl : zs.length = ms.length := by simpa using congrArg List.length hze
      obtain ⟨n4, hp4⟩ := hp4
      have F5 := F3.keeps hk4
      have gn3 : ∀ b, h3.get? b = none → g.get? b = none ∧ b ≠ L' := by
        intro b hb
        constructor
        · cases q : g.get? b with
          | none => rfl
          | some o => rw [F3.keep _ _ q] at hb; cases hb
        · intro e
          obtain ⟨o, _, _, ho, _⟩ := F3.ns
          rw [e, ho] at hb
          cases hb
      have N5 : News g L' h8 ((D4, LS zs n4) :: (D2, LS xs n2) :: (L' + 1 + 1 + 1, oc1) :: (L' + 1 + 1, oc4) :: [(L' + 1, oc3)]) := news_cons hp4 (gn3 _ hD4).2 (gn3 _ hD4).1 fun q hq => ⟨hk4 _ _ (N3 q hq).1, (N3 q hq).2⟩
      have hD4c : D4 ≠ L' + 1 + 1 + 1 := fun e => by have := (N3 (L' + 1 + 1 + 1, oc1) (.tail _ (.head _))).1; rw [← e, hD4] at this; cases this
      clear F3 N3 hF4 hk4 hzs gn3
      walk1
      rename_i h9 oc5 _ _ hoc5
      have F9 := (show Fr g L' _ _ by assumption)
      have N9 := (show News g L' _ _ by assumption)
      have key : ∀ (Q0 : Flow → Shared → Prop), (∀ h' tk R as, Reads h' (.ref R) (dueD (xs.map Prod.fst) (zs.map Prod.fst) (2 * ms.length) (((ms.map Prod.fst).reverse.filter (bitM r)).map lrS)) as → (∀ b o, g.get? b = some o → h'.get? b = some o) → Q0 (.ret (.ref R)) { s with heap := h', toks := tk }) →
          wpAny (model prog w) ((Ar dp un gd fr).deeper (dueEnv L')) (execs (List.drop 2 (bodyIn (st 40))) (dueEnv L')) Q0 (fun _ _ => False) { s with heap := h9, toks := tk8 } := fun Q0 hQ0 =>
        due_loop dp un gd fr g L' { s with heap := h9, toks := tk8 } lm D2 D4 ms xs zs n2 n4 oc5 oc4 oc3 Q0 X' TT (by omega) (by omega) F9 N9 hoc5 hoc4 hG hms hxl hzl
          (fun h' tk mm R n tps res F eM eC N hP hres => due_tail dp un gd fr g L' { s with heap := h', toks := tk } lm D2 D4 R ms r tr xs zs n2 n4 n oc5 oc4 oc3 mm tps res Q0 X' TT (by omega) (by omega) F eM eC N hP hres hoc5 hoc4 hoc3 hG hms hxl hzl hr hr2 hm1 hQ0)
      unfold dueEnv at key
      generalize hb : List.drop 2 (bodyIn (st 40)) = body at key
      conv at hb => lhs; whnf
      subst hb
      generalize hs : scopeIn (st 40) = scope at key
      conv at hs => lhs; whnf
      subst hs
      rw [hxe, hze] at key
      refine key _ fun h' tk R as hR hk => ?_
      exact hQ _ _ _ as hR fun b o e => hk b o (hg b o e (fun h => nomatch h))
end Mine
end
section
open PySem PySem.W PyProof.Rows PySem.Calls Spec
set_option Elab.async false
set_option maxRecDepth 10000
set_option maxHeartbeats 400000
namespace Mine
theorem lt_set (d c : Nat) : ∀ (q : Nat) (a b : List Nat), a[q]? = some c → b[q]? = some c → ltCps (a.set q d) (b.set q d) = ltCps a b
  | _, [], _, h, _ => by simp at h
  | _, _ :: _, [], _, h => by simp at h
  | 0, x :: a, y :: b, h1, h2 => by
    simp only [List.getElem?_cons_zero, Option.some.injEq] at h1 h2
    subst h1 h2
    simp [ltCps]
  | q + 1, x :: a, y :: b, h1, h2 => by
    simp only [List.getElem?_cons_succ] at h1 h2
    simp only [List.set_cons_succ, ltCps, lt_set d c q a b h1 h2]
def leS (x y : Str) : Prop := ltCps y.cps.toList x.cps.toList = false
theorem leS_iff (x y : Str) : leS x y ↔ x.cps.toList ≤ y.cps.toList := by
  unfold leS
  rw [ltCps_eq, decide_eq_false_iff_not, List.not_lt]
theorem leS_trans {x y z : Str} (h1 : leS x y) (h2 : leS y z) : leS x z := by
  rw [leS_iff] at *
  exact List.le_trans h1 h2
theorem leS_anti {x y : Str} (h1 : leS x y) (h2 : leS y x) : x = y := by
  rw [leS_iff] at *
  have := List.le_antisymm h1 h2
  cases x; cases y
  simp only [Str.mk.injEq]
  exact Array.toList_inj.mp this
theorem rising_pw : ∀ (l : List Str) (p : Str), risingS p l = true → (∀ x ∈ l, leS p x) ∧ l.Pairwise leS
  | [], _, _ => ⟨(fun _ h => nomatch h), .nil⟩
  | x :: r, p, h => by
    unfold risingS at h
    rw [Bool.and_eq_true] at h
    have h1 : leS p x := by unfold leS; simpa using h.1
    obtain ⟨h2, h3⟩ := rising_pw r x h.2
    refine ⟨?_, .cons h2 h3⟩
    intro y hy
    rcases List.mem_cons.mp hy with rfl | hy
    · exact h1
    · exact leS_trans h1 (h2 y hy)
theorem sortedS_pw {l : List Str} (h : sortedS l = true) : l.Pairwise leS := by
  cases l with
  | nil => exact .nil
  | cons x r =>
    obtain ⟨h2, h3⟩ := rising_pw r x h
    exact .cons h2 h3
theorem sorted_unique {a b : List Str} (ha : a.Pairwise leS) (hb : b.Pairwise leS) (hp : a.Perm b) : a = b :=
  List.Perm.eq_of_pairwise (fun _ _ _ _ h1 h2 => leS_anti h1 h2) ha hb hp
/-- the place q of a text is made a dash -/
def offS (q : Nat) (x : Str) : Str := ⟨(x.cps.toList.set q 45).toArray⟩
theorem offS_le {q c : Nat} {x y : Str} (hx : x.cps.toList[q]? = some c) (hy : y.cps.toList[q]? = some c) (h : leS x y) : leS (offS q x) (offS q y) := by
  unfold leS at *
  show ltCps (y.cps.toList.set q 45) (x.cps.toList.set q 45) = false
  rw [lt_set 45 c q _ _ hy hx]; exact h
theorem map_off_pw {q c : Nat} : ∀ {l : List Str}, (∀ x ∈ l, x.cps.toList[q]? = some c) → l.Pairwise leS → (l.map (offS q)).Pairwise leS
  | [], _, _ => .nil
  | x :: l, hc, .cons h1 h2 => by
    refine .cons ?_ (map_off_pw (fun y hy => hc y (.tail _ hy)) h2)
    intro y hy
    obtain ⟨z, hz, rfl⟩ := List.mem_map.mp hy
    exact offS_le (hc x (.head _)) (hc z (.tail _ hz)) (h1 z hz)
/-- a row that has the sign c at q beside the same row without it -/
theorem lev_of {q c : Nat} {x : Str} (h1 : x.cps.toList[q]? = some c) (h2 : x.cps.toList.length ≤ 16) (hc : c = 114 ∨ c = 119) : LevPair x (offS q x) := by
  have hq : q < x.cps.toList.length := (List.getElem?_eq_some_iff.mp h1).1
  have e : x.cps.toList = x.cps.toList.take q ++ c :: x.cps.toList.drop (q + 1) := by
    conv => lhs; rw [← List.take_append_drop q x.cps.toList]
    rw [List.drop_eq_getElem_cons hq, (List.getElem?_eq_some_iff.mp h1).2]
  have hl : (x.cps.toList.take q).length = q := by rw [List.length_take]; omega
  refine ⟨x.cps.toList.take q, x.cps.toList.drop (q + 1), c, ?_, ?_, hc, ?_⟩
  · cases x
    simp only [mkS, Str.mk.injEq]
    rw [← e]
  · unfold offS mkS
    congr 2
    rw [List.set_eq_take_append_cons_drop, if_pos hq]
  · rw [List.length_take, List.length_drop]; omega
/-- in order, what is missing and what is left stand side by side -/
theorem lev_all {q c : Nat} {a b M Lf : List Str} (hc : c = 114 ∨ c = 119) (hM : ∀ x ∈ M, x.cps.toList[q]? = some c ∧ x.cps.toList.length ≤ 16) (hL : Lf.Perm (M.map (offS q))) (ha : a.Perm M) (hb : b.Perm Lf)
    (sa : sortedS a = true) (sb : sortedS b = true) (i : Nat) (x y : Str) (hx : a[i]? = some x) (hy : b[i]? = some y) : LevPair x y := by
  have hma : ∀ x ∈ a, x.cps.toList[q]? = some c ∧ x.cps.toList.length ≤ 16 := fun x h => hM x (ha.mem_iff.mp h)
  have e : b = a.map (offS q) := sorted_unique (sortedS_pw sb) (map_off_pw (fun x h => (hma x h).1) (sortedS_pw sa)) (hb.trans (hL.trans (ha.map _).symm))
  rw [e, List.getElem?_map, hx] at hy
  cases hy
  have := hma x (List.mem_of_getElem? hx)
  exact lev_of this.1 this.2 hc
end Mine
end
section
open PySem PySem.W PyProof.Rows PySem.Calls Spec
set_option Elab.async false
set_option maxRecDepth 10000
set_option maxHeartbeats 400000
namespace Mine
def bt (n i : Nat) : Bool := n / 2 ^ i % 2 == 1
def rcS (b : Bool) : Nat := if b then 114 else 45
def wcS (b : Bool) : Nat := if b then 119 else 45
def xcS (S s : Nat) (b sp : Bool) : Nat := if sp then (if b then s else S) else (if b then 120 else 45)
def topS (n : Nat) : Nat := if n / 4096 = 4 then 100 else if n / 4096 = 8 then 45 else 108
/-- a row's signs -/
def rowL (n : Nat) : List Nat := [topS n, rcS (bt n 8), wcS (bt n 7), xcS 83 115 (bt n 6) (bt n 11), rcS (bt n 5), wcS (bt n 4), xcS 83 115 (bt n 3) (bt n 10), rcS (bt n 2), wcS (bt n 1), xcS 84 116 (bt n 0) (bt n 9)]
theorem band_nat (n k : Nat) : Builtin.bitAnd (n : Int) (k : Int) = ((n &&& k : Nat) : Int) := by
  unfold Builtin.bitAnd
  rw [show decide (0 ≤ (n : Int)) = true from by simp, show decide (0 ≤ (k : Int)) = true from by simp]
  rfl
theorem and_lit (n i k : Nat) (h : k = 2 ^ i) : n &&& k = if bt n i then k else 0 := by
  rw [h]
  have hb : bt n i = n.testBit i := by rw [Nat.testBit_eq_decide_div_mod_eq]; unfold bt; exact (Bool.beq_eq_decide_eq _ _)
  apply Nat.eq_of_testBit_eq
  intro j
  rw [Nat.testBit_and, Nat.testBit_two_pow, hb]
  by_cases e : i = j
  · subst e
    cases q : n.testBit i
    · simp
    · simp [Nat.testBit_two_pow]
  · cases q : n.testBit i
    · simp [e]
    · simp [e, Nat.testBit_two_pow]
theorem hit1 (n i k : Nat) (h : k = 2 ^ i) : (Builtin.bitAnd (n : Int) (k : Int) == (k : Int)) = bt n i := by
  have hk : 0 < k := by rw [h]; exact Nat.two_pow_pos i
  rw [band_nat, and_lit n i k h]
  cases bt n i
  · simp; omega
  · simp
theorem hit2 (n i j a b k : Nat) (ha : a = 2 ^ i) (hb : b = 2 ^ j) (hk : k = a ||| b) (h1 : a ≠ k) (h2 : b ≠ k) (h3 : k ≠ 0) : (Builtin.bitAnd (n : Int) (k : Int) == (k : Int)) = (bt n i && bt n j) := by
  rw [band_nat]
  have e : n &&& k = (n &&& a) ||| (n &&& b) := by rw [hk, Nat.and_or_distrib_left]
  rw [e, and_lit n i a ha, and_lit n j b hb]
  cases bt n i <;> cases bt n j
  · simp; omega
  · simp; omega
  · simp; omega
  · simp; omega
theorem top_bits (n : Nat) (h : n / 4096 = 4 ∨ n / 4096 = 8 ∨ n / 4096 = 10) : n &&& 61440 = n / 4096 * 4096 := by
  have e : (61440 : Nat) = 32768 ||| (16384 ||| (8192 ||| 4096)) := by decide
  rw [e, Nat.and_or_distrib_left, Nat.and_or_distrib_left, Nat.and_or_distrib_left, and_lit n 15 _ rfl, and_lit n 14 _ rfl, and_lit n 13 _ rfl, and_lit n 12 _ rfl]
  unfold bt
  have h15 : n / 2 ^ 15 = n / 4096 / 8 := by omega
  have h14 : n / 2 ^ 14 = n / 4096 / 4 := by omega
  have h13 : n / 2 ^ 13 = n / 4096 / 2 := by omega
  have h12 : n / 2 ^ 12 = n / 4096 := by omega
  rw [h15, h14, h13, h12]
  rcases h with h | h | h <;> rw [h] <;> decide
theorem fm0 (n : Nat) (h : n / 4096 = 4 ∨ n / 4096 = 8 ∨ n / 4096 = 10) : fmChr n 0 = mkS [topS n] := by
  show fmOf 0 (n : Int) [(160, (40960, 435), (Str.ofString "l", 463)), (161, (49152, 437), (Str.ofString "s", 464)), (162, (32768, 431), (Str.ofString "-", 465)), (163, (24576, 429), (Str.ofString "b", 466)), (164, (16384, 425), (Str.ofString "d", 467)), (165, (8192, 427), (Str.ofString "c", 468)), (166, (4096, 433), (Str.ofString "p", 469))] = _
  have hb : Builtin.bitAnd (n : Int) 61440 = ((n / 4096 * 4096 : Nat) : Int) := by
    rw [← top_bits n h]; exact band_nat n 61440
  unfold fmOf topS
  simp only [List.find?, fmHit, hb, if_true]
  rcases h with h | h | h <;> rw [h] <;> decide +kernel
theorem dash : Str.ofString "-" = mkS [45] := by decide +kernel
theorem fm1 (n : Nat) (a t : Nat) (i k j : Nat) (hk : k = 2 ^ j) (x : String) (c u : Nat) (hx : Str.ofString x = mkS [c]) : fmOf (i + 1) (n : Int) [(a, ((k : Int), t), (Str.ofString x, u))] = mkS [if bt n j then c else 45] := by
  unfold fmOf
  have := hit1 n j k hk
  simp only [List.find?, fmHit, Nat.succ_ne_zero, if_false]
  rw [this]
  cases bt n j
  · exact dash
  · exact hx
theorem fm3 (n : Nat) (a1 a2 a3 t1 t2 t3 u1 u2 u3 : Nat) (i A B K x y : Nat) (hA : A = 2 ^ x) (hB : B = 2 ^ y) (hK : K = A ||| B) (h1 : A ≠ K) (h2 : B ≠ K) (h3 : K ≠ 0) (s1 s2 : String) (c1 c2 : Nat) (e1 : Str.ofString s1 = mkS [c1]) (e2 : Str.ofString s2 = mkS [c2]) :
    fmOf (i + 1) (n : Int) [(a1, ((K : Int), t1), (Str.ofString s1, u1)), (a2, ((A : Int), t2), (Str.ofString s2, u2)), (a3, ((B : Int), t3), (Str.ofString "x", u3))] = mkS [xcS c2 c1 (bt n y) (bt n x)] := by
  unfold fmOf
  have k1 := hit2 n x y A B K hA hB hK h1 h2 h3
  have k2 := hit1 n x A hA
  have k3 := hit1 n y B hB
  simp only [List.find?, fmHit, Nat.succ_ne_zero, if_false]
  rw [k1, k2, k3]
  cases bt n x <;> cases bt n y
  · exact dash
  · exact (by decide +kernel : Str.ofString "x" = mkS [120])
  · exact e2
  · exact e1
theorem fmS_row (n : Nat) (h : n / 4096 = 4 ∨ n / 4096 = 8 ∨ n / 4096 = 10) : fmS n = mkS (rowL n) := by
  have h1 : fmChr n 1 = mkS [rcS (bt n 8)] := fm1 n _ _ 0 256 8 rfl "r" 114 _ (by decide +kernel)
  have h2 : fmChr n 2 = mkS [wcS (bt n 7)] := fm1 n _ _ 1 128 7 rfl "w" 119 _ (by decide +kernel)
  have h3 : fmChr n 3 = mkS [xcS 83 115 (bt n 6) (bt n 11)] := fm3 n _ _ _ _ _ _ _ _ _ 2 2048 64 2112 11 6 rfl rfl rfl (by decide) (by decide) (by decide) "s" "S" 115 83 (by decide +kernel) (by decide +kernel)
  have h4 : fmChr n 4 = mkS [rcS (bt n 5)] := fm1 n _ _ 3 32 5 rfl "r" 114 _ (by decide +kernel)
  have h5 : fmChr n 5 = mkS [wcS (bt n 4)] := fm1 n _ _ 4 16 4 rfl "w" 119 _ (by decide +kernel)
  have h6 : fmChr n 6 = mkS [xcS 83 115 (bt n 3) (bt n 10)] := fm3 n _ _ _ _ _ _ _ _ _ 5 1024 8 1032 10 3 rfl rfl rfl (by decide) (by decide) (by decide) "s" "S" 115 83 (by decide +kernel) (by decide +kernel)
  have h7 : fmChr n 7 = mkS [rcS (bt n 2)] := fm1 n _ _ 6 4 2 rfl "r" 114 _ (by decide +kernel)
  have h8 : fmChr n 8 = mkS [wcS (bt n 1)] := fm1 n _ _ 7 2 1 rfl "w" 119 _ (by decide +kernel)
  have h9 : fmChr n 9 = mkS [xcS 84 116 (bt n 0) (bt n 9)] := fm3 n _ _ _ _ _ _ _ _ _ 8 512 1 513 9 0 rfl rfl rfl (by decide) (by decide) (by decide) "t" "T" 116 84 (by decide +kernel) (by decide +kernel)
  have hr : List.range 10 = [0, 1, 2, 3, 4, 5, 6, 7, 8, 9] := by decide
  unfold fmS
  rw [hr]
  simp only [List.map_cons, List.map_nil, fm0 n h, h1, h2, h3, h4, h5, h6, h7, h8, h9]
  unfold rowL
  generalize topS n = c0
  generalize rcS (bt n 8) = c1
  generalize wcS (bt n 7) = c2
  generalize xcS 83 115 (bt n 6) (bt n 11) = c3
  generalize rcS (bt n 5) = c4
  generalize wcS (bt n 4) = c5
  generalize xcS 83 115 (bt n 3) (bt n 10) = c6
  generalize rcS (bt n 2) = c7
  generalize wcS (bt n 1) = c8
  generalize xcS 84 116 (bt n 0) (bt n 9) = c9
  rfl
end Mine
end
section
open PySem PySem.W PyProof.Rows PySem.Calls Spec
set_option Elab.async false
set_option maxRecDepth 10000
set_option maxHeartbeats 400000
namespace Mine
theorem fdivN (n k : Nat) : (n : Int).fdiv (k : Int) = ((n / k : Nat) : Int) := by
  rw [Int.fdiv_eq_ediv_of_nonneg _ (by omega)]; rfl
theorem fmodN (n k : Nat) : (n : Int).fmod (k : Int) = ((n % k : Nat) : Int) := by
  rw [Int.fmod_eq_emod_of_nonneg _ (by omega)]; rfl
theorem bt01 (n i : Nat) : n / 2 ^ i % 2 = if bt n i then 1 else 0 := by
  unfold bt
  by_cases q : n / 2 ^ i % 2 = 1
  · simp [q]
  · simp [q]; omega
theorem trip (x : Str) (S s : Nat) (h0 : Txt.item x 0 = mkS [45]) (h1 : Txt.item x 1 = mkS [120]) (h2 : Txt.item x 2 = mkS [S]) (h3 : Txt.item x 3 = mkS [s]) (a b c d : Bool) :
    Txt.item (Str.ofString "-r") (((if a then 1 else 0 : Nat)) : Int) ++ Txt.item (Str.ofString "-w") (((if b then 1 else 0 : Nat)) : Int) ++ Txt.item x (((if c then 1 else 0) + (if d then 1 else 0) * 2 : Nat) : Int) = mkS [rcS a, wcS b, xcS S s c d] := by
  have r0 : Txt.item (Str.ofString "-r") 0 = mkS [45] := by decide +kernel
  have r1 : Txt.item (Str.ofString "-r") 1 = mkS [114] := by decide +kernel
  have w0 : Txt.item (Str.ofString "-w") 0 = mkS [45] := by decide +kernel
  have w1 : Txt.item (Str.ofString "-w") 1 = mkS [119] := by decide +kernel
  have ea : Txt.item (Str.ofString "-r") (((if a then 1 else 0 : Nat)) : Int) = mkS [rcS a] := by cases a; exact r0; exact r1
  have eb : Txt.item (Str.ofString "-w") (((if b then 1 else 0 : Nat)) : Int) = mkS [wcS b] := by cases b; exact w0; exact w1
  have ec : Txt.item x (((if c then 1 else 0) + (if d then 1 else 0) * 2 : Nat) : Int) = mkS [xcS S s c d] := by
    cases c <;> cases d
    · exact h0
    · exact h2
    · exact h1
    · exact h3
  rw [ea, eb, ec]
  rfl
theorem lrK_nat (n k p8 p2 : Nat) (x : Str) (h8 : (8 : Int) ^ ((k : Int)).toNat = (p8 : Nat)) (h2 : (2 : Int) ^ ((k : Int)).toNat = (p2 : Nat)) : lrK n k x =
    Txt.item (Str.ofString "-r") ((n / p8 % 8 / 4 : Nat) : Int) ++ Txt.item (Str.ofString "-w") ((n / p8 % 8 / 2 % 2 : Nat) : Int) ++ Txt.item x ((n / p8 % 8 % 2 + n / 512 / p2 % 2 * 2 : Nat) : Int) := by
  unfold lrK
  rw [h8, h2, fdivN n p8, show (512 : Int) = ((512 : Nat) : Int) from rfl, fdivN n 512, fdivN _ p2, show (8 : Int) = ((8 : Nat) : Int) from rfl, fmodN, show (4 : Int) = ((4 : Nat) : Int) from rfl, show (2 : Int) = ((2 : Nat) : Int) from rfl, fdivN, fdivN, fmodN, fmodN, fmodN]
  rfl
theorem oct4 (m : Nat) : m % 8 / 4 = m / 4 % 2 := by omega
theorem oct2 (m : Nat) : m % 8 / 2 % 2 = m / 2 % 2 := by omega
theorem oct1 (m : Nat) : m % 8 % 2 = m % 2 := by omega
theorem lrK2 (n : Nat) : lrK n 2 (Str.ofString "-xSs") = mkS [rcS (bt n 8), wcS (bt n 7), xcS 83 115 (bt n 6) (bt n 11)] := by
  rw [show (2 : Int) = ((2 : Nat) : Int) from rfl, lrK_nat n 2 64 4 _ rfl rfl, ← trip (Str.ofString "-xSs") 83 115 (by decide +kernel) (by decide +kernel) (by decide +kernel) (by decide +kernel)]
  rw [← bt01, ← bt01, ← bt01, ← bt01]
  rw [oct4, oct2, oct1, Nat.div_div_eq_div_mul, Nat.div_div_eq_div_mul, Nat.div_div_eq_div_mul]
theorem lrK1 (n : Nat) : lrK n 1 (Str.ofString "-xSs") = mkS [rcS (bt n 5), wcS (bt n 4), xcS 83 115 (bt n 3) (bt n 10)] := by
  rw [show (1 : Int) = ((1 : Nat) : Int) from rfl, lrK_nat n 1 8 2 _ rfl rfl, ← trip (Str.ofString "-xSs") 83 115 (by decide +kernel) (by decide +kernel) (by decide +kernel) (by decide +kernel)]
  rw [← bt01, ← bt01, ← bt01, ← bt01]
  rw [oct4, oct2, oct1, Nat.div_div_eq_div_mul, Nat.div_div_eq_div_mul, Nat.div_div_eq_div_mul]
theorem lrK0 (n : Nat) : lrK n 0 (Str.ofString "-xTt") = mkS [rcS (bt n 2), wcS (bt n 1), xcS 84 116 (bt n 0) (bt n 9)] := by
  rw [show (0 : Int) = ((0 : Nat) : Int) from rfl, lrK_nat n 0 1 1 _ rfl rfl, ← trip (Str.ofString "-xTt") 84 116 (by decide +kernel) (by decide +kernel) (by decide +kernel) (by decide +kernel)]
  rw [← bt01, ← bt01, ← bt01, ← bt01]
  rw [oct4, oct2, oct1, Nat.div_div_eq_div_mul, Nat.div_div_eq_div_mul, Nat.div_div_eq_div_mul]
theorem lrTop_row (n : Nat) (h : n / 4096 = 4 ∨ n / 4096 = 8 ∨ n / 4096 = 10) : lrTop n = mkS [topS n] := by
  unfold lrTop topS
  rw [show (4096 : Int) = ((4096 : Nat) : Int) from rfl, fdivN]
  rcases h with h | h | h <;> rw [h] <;> decide +kernel
theorem lrS_row (n : Nat) (h : n / 4096 = 4 ∨ n / 4096 = 8 ∨ n / 4096 = 10) : lrS n = mkS (rowL n) := by
  unfold lrS lrPre
  rw [lrTop_row n h, lrK2, lrK1, lrK0]
  rfl
theorem TypeOK.nat {n : Nat} (h : TypeOK n) : n / 4096 = 4 ∨ n / 4096 = 8 ∨ n / 4096 = 10 := by
  unfold TypeOK at h
  rw [show (4096 : Int) = ((4096 : Nat) : Int) from rfl, fdivN] at h
  omega
theorem row_same {m : Int} (h0 : 0 ≤ m) (h : TypeOK m) : fmS m = lrS m := by
  obtain ⟨n, rfl⟩ := Int.eq_ofNat_of_zero_le h0
  rw [fmS_row n h.nat, lrS_row n h.nat]
end Mine
end
section
open PySem PySem.W PyProof.Rows PySem.Calls PyProof.V PyProof.Rows.TI
set_option Elab.async false
set_option maxRecDepth 100000
set_option maxHeartbeats 2000000
namespace Mine
theorem fillup17 : PySem.Challenge.rw_oy0181_01 = PySem.Challenge.rw_oy0181_01 ∧ KK = KK := by k_fill; exact ⟨rfl, rfl⟩
variable {prog : Program} {w : World} {p : Program} {loose : List Str} {mean : ExcName → Option Value} {mg mb : Str → Option Value}
def rightF (k : Int) : Int := if k = 0 then 128 else if k = 1 then 256 else if k = 2 then 16 else if k = 3 then 32 else if k = 4 then 2 else 4
theorem ivInts : ∀ (l : List (Int × Tok)), IntsAre (IV l) (l.map Prod.fst)
  | [] => .nil
  | p :: l => .cons p.1 p.2 (ivInts l)
/-- what the plain law has to show -/
structure PlainLaw (Ms : List Int) (r : Int) : Prop where
  r0 : 0 < r
  r1 : r ≤ 256
  len : Ms.length ≤ 20
  hm1 : ∀ m ∈ Ms, 0 ≤ m ∧ TypeOK m
  hm2 : ∀ m ∈ Ms, 0 ≤ offM m r ∧ TypeOK (offM m r)
  lev : ∀ xs zs : List (Str × Tok), xs.map Prod.fst = Ms.map fmS → zs.map Prod.fst = Ms.map (fun n => fmS (Builtin.bitAnd n (Builtin.bitNot r))) → ∀ a b : List Str, a.Perm ((uldF xs.reverse zs []).1.map Prod.fst) → b.Perm ((uldF xs.reverse zs []).2.map Prod.fst) →
     sortedS a = true → sortedS b = true → ∀ (i : Nat) (x y : Str), a[i]? = some x → b[i]? = some y → LevPair x y
  same : ∀ xs zs : List (Str × Tok), xs.map Prod.fst = Ms.map fmS → zs.map Prod.fst = Ms.map (fun n => fmS (Builtin.bitAnd n (Builtin.bitNot r))) →
     toldD xs zs = dueD (Ms.map lrS) (Ms.map fun m => lrS (offM m r)) (2 * Ms.length) ((Ms.reverse.filter (bitM r)).map lrS)
  fine : PySem.SeqAt.shaped (dueD (Ms.map lrS) (Ms.map fun m => lrS (offM m r)) (2 * Ms.length) ((Ms.reverse.filter (bitM r)).map lrS)) = true
theorem law_body (g : Heap) (L : Addr) (s : Shared) (l fa : Addr) (cd : Value) (ns : List (Int × Tok)) (Q : Flow → Shared → Prop) (E : Value → Shared → Prop)
   (X' : (KK w.params).In g) (TT : Top p loose mean mg mb g)
   (F : Fr g L s.heap (fun y => if y = Str.ofString "script" then some (.ref l) else none)) (N : News g L s.heap [])
   (hl : g.IsList l (IV ns).toArray) (hns : ns.length ≤ 63)
   (PL : PlainLaw (modesF (ns.map Prod.fst)) (rightF (((ns.take 4).map Prod.fst).sum.fmod 6)))
   (hQ : ∀ h' tk, (∀ b o, g.get? b = some o → h'.get? b = some o) → Q (.ret (.bool true)) { s with heap := h', toks := tk }) :
   wpAny (model prog w) (callerA.deeper (envOf (Str.ofString "law") (scopeIn (st 41)) L fa cd)) (execs (bodyIn (st 41)) (envOf (Str.ofString "law") (scopeIn (st 41)) L fa cd)) Q E s := by
  generalize hb : bodyIn (st 41) = body
  conv at hb => lhs; whnf
  subst hb
  generalize hs : scopeIn (st 41) = scope at *
  conv at hs => lhs; whnf
  subst hs
  (repeat' (first | ((with_reducible show @ite Prop _ _ _ _); first | refine if_pos_p (by decide) ?_ | refine if_neg_p (by decide) ?_) | ((with_reducible show wpAny _ _ (eval (Expr.Name _ _) (compEnvC _ _ _ _)) _ _ _); first | ((with_reducible refine' nmOwnF ?ca ?cb ?cd ?ce ?cf ?_); (case ca => with_reducible assumption); (case cb => with_reducible assumption); (case cd => rfl); (case ce => rfl); (case cf => decide)) | ((with_reducible refine' nmCellF ?ca ?cg ?cb ?cd ?ce ?cf ?_); (case cg => with_reducible assumption); (case ca => rfl); (case cb => with_reducible assumption); (case cd => rfl); (case ce => rfl); (case cf => decide))) | ((with_reducible show wpAny _ _ _ _ _ _); (fail_if_success (with_reducible (first | refine at1 ?_ | refine at2 ?_ | refine at3 ?_ | refine at5 ?_ | refine at12 ?_ | refine at14 ?_ | refine at17 ?_ | refine at15 ?_ | refine at16 ?_ | refine at25 ?_ | refine at9 ?_ | refine at10 ?_ | refine at11 ?_ | refine at18 ?_ | refine at19 ?_ | refine at20 ?_ | refine at21 ?_ | refine at26 ?_ | refine at27 ?_ | refine at22 ?_ | refine at23 ?_ | refine at24 ?_))); (try dsimp only); walk1)))
  have F2 := (show Fr g L _ _ by assumption)
  have N2 := (show News g L _ _ by assumption)
  refine' sliceT (s := ⟨_, _, _, _, _⟩) (items := (IV ns).toArray) (lo := none) (hi := some ((4 : Nat) : Int)) (st := none) F2 N2 ?d1 .none (.int _ _) .none ?d2 ?_ ?d3 ?d4
  case d1 => exact let ⟨o, a, r⟩ := hl; ⟨o, F2.keep _ _ a, r⟩
  case d2 => exact fun h => nomatch h
  case d3 => with_unfolding_all rfl
  case d4 => simp only [List.size_toArray, IV, List.length_map, sizeLine_eq]; omega
  intro h4 D4 F4 N4 l4
  rw [pick_upto, show (IV ns).take 4 = IV (ns.take 4) from (List.map_take ..).symm] at N4
  clear F2 N2
  (repeat' (first | ((with_reducible show @ite Prop _ _ _ _); first | refine if_pos_p (by decide) ?_ | refine if_neg_p (by decide) ?_) | ((with_reducible show wpAny _ _ (eval (Expr.Name _ _) (compEnvC _ _ _ _)) _ _ _); first | ((with_reducible refine' nmOwnF ?ca ?cb ?cd ?ce ?cf ?_); (case ca => with_reducible assumption); (case cb => with_reducible assumption); (case cd => rfl); (case ce => rfl); (case cf => decide)) | ((with_reducible refine' nmCellF ?ca ?cg ?cb ?cd ?ce ?cf ?_); (case cg => with_reducible assumption); (case ca => rfl); (case cb => with_reducible assumption); (case cd => rfl); (case ce => rfl); (case cf => decide))) | ((with_reducible show wpAny _ _ _ _ _ _); (fail_if_success (with_reducible (first | refine at1 ?_ | refine at2 ?_ | refine at3 ?_ | refine at5 ?_ | refine at12 ?_ | refine at14 ?_ | refine at17 ?_ | refine at15 ?_ | refine at16 ?_ | refine at25 ?_ | refine at9 ?_ | refine at10 ?_ | refine at11 ?_ | refine at18 ?_ | refine at19 ?_ | refine at20 ?_ | refine at21 ?_ | refine at26 ?_ | refine at27 ?_ | refine at22 ?_ | refine at23 ?_ | refine at24 ?_))); (try dsimp only); walk1)))
  have F5 := (show Fr g L _ _ by assumption)
  have N5 := (show News g L _ _ by assumption)
  refine sumK (s := ⟨_, _, _, _, _⟩) rfl F5 N5 ⟨_, (N5 _ (.head _)).1, rfl, _, rfl⟩ (ivInts (ns.take 4)) ?_
  intro h6 tk6 t6 F6 N6
  clear F4 N4 F5 N5
  generalize hS : ((ns.take 4).map Prod.fst).sum = S
  (try dsimp only at N6)
  generalize s.toks = tk0 at N6 ⊢
  rename_i R0 _ _ _ _
  obtain ⟨tx1, tx2, tx3, tx4, tx5, tx6, N6⟩ : ∃ a b c d e f, News g L h6 [(R0, W.listOf #[Value.int 128 a, Value.int 256 b, Value.int 16 c, Value.int 32 d, Value.int 2 e, Value.int 4 f] 0)] := ⟨_, _, _, _, _, _, news_tail N6⟩
  (repeat' (first | ((with_reducible show @ite Prop _ _ _ _); first | refine if_pos_p (by decide) ?_ | refine if_neg_p (by decide) ?_) | ((with_reducible show wpAny _ _ (eval (Expr.Name _ _) (compEnvC _ _ _ _)) _ _ _); first | ((with_reducible refine' nmOwnF ?ca ?cb ?cd ?ce ?cf ?_); (case ca => with_reducible assumption); (case cb => with_reducible assumption); (case cd => rfl); (case ce => rfl); (case cf => decide)) | ((with_reducible refine' nmCellF ?ca ?cg ?cb ?cd ?ce ?cf ?_); (case cg => with_reducible assumption); (case ca => rfl); (case cb => with_reducible assumption); (case cd => rfl); (case ce => rfl); (case cf => decide))) | ((with_reducible show wpAny _ _ _ _ _ _); (fail_if_success (with_reducible (first | refine at1 ?_ | refine at2 ?_ | refine at3 ?_ | refine at5 ?_ | refine at12 ?_ | refine at14 ?_ | refine at17 ?_ | refine at15 ?_ | refine at16 ?_ | refine at25 ?_ | refine at9 ?_ | refine at10 ?_ | refine at11 ?_ | refine at18 ?_ | refine at19 ?_ | refine at20 ?_ | refine at21 ?_ | refine at26 ?_ | refine at27 ?_ | refine at22 ?_ | refine at23 ?_ | refine at24 ?_))); (try dsimp only); walk1)))
  have hr6 : S.fmod 6 = 0 ∨ S.fmod 6 = 1 ∨ S.fmod 6 = 2 ∨ S.fmod 6 = 3 ∨ S.fmod 6 = 4 ∨ S.fmod 6 = 5 := by rw [Int.fmod_eq_emod_of_nonneg _ (by decide)]; omega
  obtain ⟨tx, hx⟩ : ∃ tx, #[Value.int 128 tx1, Value.int 256 tx2, Value.int 16 tx3, Value.int 32 tx4, Value.int 2 tx5, Value.int 4 tx6][(S.fmod 6).toNat]? = some (.int (rightF (S.fmod 6)) tx) := by
    rcases hr6 with h | h | h | h | h | h <;> rw [h] <;> exact ⟨_, rfl⟩
  have hr7 : 0 ≤ S.fmod 6 ∧ S.fmod 6 < 6 := by omega
  refine' itemT (x := .int (rightF (S.fmod 6)) tx) ?i1 ?i2 ?i3 hx ?_ ?i5
  case i1 => exact ⟨_, (N6 _ (.head _)).1, rfl, _, rfl⟩
  case i2 => omega
  case i3 => omega
  case i5 => with_unfolding_all rfl
  (repeat' (first | ((with_reducible show @ite Prop _ _ _ _); first | refine if_pos_p (by decide) ?_ | refine if_neg_p (by decide) ?_) | ((with_reducible show wpAny _ _ (eval (Expr.Name _ _) (compEnvC _ _ _ _)) _ _ _); first | ((with_reducible refine' nmOwnF ?ca ?cb ?cd ?ce ?cf ?_); (case ca => with_reducible assumption); (case cb => with_reducible assumption); (case cd => rfl); (case ce => rfl); (case cf => decide)) | ((with_reducible refine' nmCellF ?ca ?cg ?cb ?cd ?ce ?cf ?_); (case cg => with_reducible assumption); (case ca => rfl); (case cb => with_reducible assumption); (case cd => rfl); (case ce => rfl); (case cf => decide))) | ((with_reducible show wpAny _ _ _ _ _ _); (fail_if_success (with_reducible (first | refine at1 ?_ | refine at2 ?_ | refine at3 ?_ | refine at5 ?_ | refine at12 ?_ | refine at14 ?_ | refine at17 ?_ | refine at15 ?_ | refine at16 ?_ | refine at25 ?_ | refine at9 ?_ | refine at10 ?_ | refine at11 ?_ | refine at18 ?_ | refine at19 ?_ | refine at20 ?_ | refine at21 ?_ | refine at26 ?_ | refine at27 ?_ | refine at22 ?_ | refine at23 ?_ | refine at24 ?_))); (try dsimp only); walk1)))
  have F8 := (show Fr g L _ _ by assumption)
  rw [hS] at PL
  generalize rightF (S.fmod 6) = r at *
  refine ⟨X'.keeps F8.keep, ?_⟩
  refine lm_call (1 + claimMargin + 1) (4 + 3) (some []) _ g _ _ _ l ns X' TT F8.keep (by decide) (by decide) (let ⟨o, a, r⟩ := hl; ⟨o, F8.keep _ _ a, r⟩) (by omega) ?_
  intro h9 tk9 Rm ms hk9 hRm hpl hme
  dsimp only at hk9 hRm ⊢
  rw [← hme] at PL
  obtain ⟨nm, hpl⟩ := hpl
  have F9 := F8.keeps hk9
  have hRL : Rm ≠ L := by
    rintro rfl
    obtain ⟨o, _, _, ho, _⟩ := F8.ns
    rw [hRm] at ho; cases ho
  have hRg : g.get? Rm = none := by
    cases q : g.get? Rm with
    | none => rfl
    | some o => rw [F8.keep _ _ q] at hRm; cases hRm
  have N9 : News g L h9 [(Rm, W.listOf (IV ms).toArray nm)] := news_cons hpl hRL hRg (fun _ hq => nomatch hq)
  clear F8 hx hk9
  (repeat' (first | ((with_reducible show @ite Prop _ _ _ _); first | refine if_pos_p (by decide) ?_ | refine if_neg_p (by decide) ?_) | ((with_reducible show wpAny _ _ (eval (Expr.Name _ _) (compEnvC _ _ _ _)) _ _ _); first | ((with_reducible refine' nmOwnF ?ca ?cb ?cd ?ce ?cf ?_); (case ca => with_reducible assumption); (case cb => with_reducible assumption); (case cd => rfl); (case ce => rfl); (case cf => decide)) | ((with_reducible refine' nmCellF ?ca ?cg ?cb ?cd ?ce ?cf ?_); (case cg => with_reducible assumption); (case ca => rfl); (case cb => with_reducible assumption); (case cd => rfl); (case ce => rfl); (case cf => decide))) | ((with_reducible show wpAny _ _ _ _ _ _); (fail_if_success (with_reducible (first | refine at1 ?_ | refine at2 ?_ | refine at3 ?_ | refine at5 ?_ | refine at12 ?_ | refine at14 ?_ | refine at17 ?_ | refine at15 ?_ | refine at16 ?_ | refine at25 ?_ | refine at9 ?_ | refine at10 ?_ | refine at11 ?_ | refine at18 ?_ | refine at19 ?_ | refine at20 ?_ | refine at21 ?_ | refine at26 ?_ | refine at27 ?_ | refine at22 ?_ | refine at23 ?_ | refine at24 ?_))); (try dsimp only); walk1)))
  have F10 := (show Fr g L _ _ by assumption)
  have N10 := (show News g L _ _ by assumption)
  obtain ⟨oL, es, ep, hoL, hdL, hsL⟩ := F10.ns
  refine ⟨X'.keeps F10.keep, ?_⟩
  refine told_call (1 + claimMargin + 1) (4 + 3) (some []) [envOf (Str.ofString "law") (scopeIn (st 41)) L fa cd] [(L, oL)] g _ _ _ Rm ms r _ X' TT F10.keep (by decide) (by decide) ?_ ?_ ⟨_, (N10 _ (.head _)).1, rfl, _, rfl⟩ ?_ ?_ ?_ (by have := PL.r0; omega) PL.lev ?_
  · intro q hq
    rw [List.mem_singleton.mp hq]
    exact ⟨hoL, Heap.get?_none_of_le F10.above⟩
  · exact ⟨by show ScopeKind.function ≠ ScopeKind.module; decide, rfl, ⟨es, ep, hdL⟩, trivial⟩
  · simpa using hRL
  · have := PL.len; simpa using this
  · intro m hm
    have := PL.hm1 m.1 (List.mem_map_of_mem hm)
    exact ⟨this.1, this.2.lt⟩
  intro h11 tk11 R1 as1 frs xs zs hxe hze RR SU hfr hk11
  dsimp only at hk11 ⊢
  obtain _ | ⟨pL, frs2⟩ := frs
  · exact SU.elim
  obtain ⟨eL, ⟨sl, esl⟩, _⟩ := SU
  obtain ⟨aL, oL2⟩ := pL
  dsimp only at eL esl
  subst eL esl
  have F11 := (⟨LCg.NsObj.ns (show LCg.NsObj { oL with slots := sl } _ from ⟨es, ep, hdL, hsL⟩) (hfr (aL, { oL with slots := sl }) (.head _)),
    fun b o e => hk11 b o (F10.keep b o e) (fun hb => by rw [List.mem_singleton.mp hb, Heap.get?_none_of_le F10.above] at e; cases e), F10.above⟩ : Fr g aL h11 _)
  have N11 : News g aL h11 [(Rm, W.listOf (IV ms).toArray nm)] := by
    intro q hq
    rw [List.mem_singleton.mp hq]
    exact ⟨hk11 _ _ (N10 _ (.head _)).1 (by simpa using hRL), hRL, hRg⟩
  clear F10 N10 hfr hk11 hoL hdL hsL
  (repeat' (first | ((with_reducible show @ite Prop _ _ _ _); first | refine if_pos_p (by decide) ?_ | refine if_neg_p (by decide) ?_) | ((with_reducible show wpAny _ _ (eval (Expr.Name _ _) (compEnvC _ _ _ _)) _ _ _); first | ((with_reducible refine' nmOwnF ?ca ?cb ?cd ?ce ?cf ?_); (case ca => with_reducible assumption); (case cb => with_reducible assumption); (case cd => rfl); (case ce => rfl); (case cf => decide)) | ((with_reducible refine' nmCellF ?ca ?cg ?cb ?cd ?ce ?cf ?_); (case cg => with_reducible assumption); (case ca => rfl); (case cb => with_reducible assumption); (case cd => rfl); (case ce => rfl); (case cf => decide))) | ((with_reducible show wpAny _ _ _ _ _ _); (fail_if_success (with_reducible (first | refine at1 ?_ | refine at2 ?_ | refine at3 ?_ | refine at5 ?_ | refine at12 ?_ | refine at14 ?_ | refine at17 ?_ | refine at15 ?_ | refine at16 ?_ | refine at25 ?_ | refine at9 ?_ | refine at10 ?_ | refine at11 ?_ | refine at18 ?_ | refine at19 ?_ | refine at20 ?_ | refine at21 ?_ | refine at26 ?_ | refine at27 ?_ | refine at22 ?_ | refine at23 ?_ | refine at24 ?_))); (try dsimp only); walk1)))
  have F12 := (show Fr g aL _ _ by assumption)
  have N12 := (show News g aL _ _ by assumption)
  refine ⟨X'.keeps F12.keep, ?_⟩
  refine due_call (1 + claimMargin + 1) (4 + 3) (some []) _ g _ _ _ Rm ms r _ X' TT F12.keep (by decide) (by decide) ⟨_, (N12 _ (.head _)).1, rfl, _, rfl⟩ ?_ PL.r0 PL.r1 ?_ ?_ ?_
  · have := PL.len; simpa using this
  · intro m hm
    exact PL.hm1 m.1 (List.mem_map_of_mem hm)
  · intro m hm
    exact PL.hm2 m.1 (List.mem_map_of_mem hm)
  intro h13 tk13 R2 as2 RD hk13
  dsimp only at hk13 ⊢
  have hlen : ms.length = (ms.map Prod.fst).length := (List.length_map _).symm
  rw [hlen] at RD
  have RT2 := Reads.keeps hk13 RR
  rw [PL.same xs zs hxe hze] at RT2
  refine eq_dataH RT2 RD PL.fine PL.fine (by show 4 + 3 + 64 < cLine; decide) ?_
  rw [PySem.SeqAt.eqv_refl _ (PySem.SeqAt.canLay_of_shaped PL.fine)]
  exact hQ _ _ fun b o e => hk13 b o (F12.keep b o e)
end Mine
end
section
open PySem PySem.W PyProof.Rows PySem.Calls Spec
set_option Elab.async false
set_option maxRecDepth 10000
set_option maxHeartbeats 1000000
namespace Mine
/-- the right r is the bit e; it stands at q of a row, as the sign c -/
structure RightOK (r e q c : Nat) : Prop where
  re : r = 2 ^ e
  r1 : r ≤ 256
  off : ∀ n, rowL (n - n / r % 2 * r) = (rowL n).set q 45
  here : ∀ n, (rowL n)[q]? = some (if bt n e then c else 45)
  ch : c = 114 ∨ c = 119
  top : ∀ n, (n - n / r % 2 * r) / 4096 = n / 4096
theorem bt_eq (n i : Nat) : bt n i = n.testBit i := by rw [Nat.testBit_eq_decide_div_mod_eq]; unfold bt; exact (Bool.beq_eq_decide_eq _ _)
theorem bt_off {n o e i : Nat} (h1 : o % 2 ^ e = n % 2 ^ e) (h2 : o / 2 ^ (e + 1) = n / 2 ^ (e + 1)) (h : i ≠ e) : bt o i = bt n i := by
  rw [bt_eq, bt_eq]
  rcases Nat.lt_or_gt_of_ne h with h | h
  · have := congrArg (fun x => x.testBit i) h1
    simp only [Nat.testBit_mod_two_pow, h, decide_true, Bool.true_and] at this
    exact this
  · have := congrArg (fun x => x.testBit (i - (e + 1))) h2
    simp only [Nat.testBit_div_two_pow] at this
    rw [Nat.sub_add_cancel h] at this
    exact this
theorem row_off {n o e q : Nat} (h1 : o % 2 ^ e = n % 2 ^ e) (h2 : o / 2 ^ (e + 1) = n / 2 ^ (e + 1)) (h3 : bt o e = false) (h4 : o / 4096 = n / 4096) (hq : (e, q) ∈ [(8, 1), (7, 2), (5, 4), (4, 5), (2, 7), (1, 8)]) : rowL o = (rowL n).set q 45 := by
  unfold rowL topS
  rw [h4]
  simp only [List.mem_cons, List.not_mem_nil, or_false, Prod.mk.injEq] at hq
  rcases hq with ⟨rfl, rfl⟩ | ⟨rfl, rfl⟩ | ⟨rfl, rfl⟩ | ⟨rfl, rfl⟩ | ⟨rfl, rfl⟩ | ⟨rfl, rfl⟩
  · rw [h3, bt_off (i := 0) h1 h2 (by decide), bt_off (i := 1) h1 h2 (by decide), bt_off (i := 2) h1 h2 (by decide), bt_off (i := 3) h1 h2 (by decide), bt_off (i := 4) h1 h2 (by decide), bt_off (i := 5) h1 h2 (by decide), bt_off (i := 6) h1 h2 (by decide), bt_off (i := 7) h1 h2 (by decide), bt_off (i := 9) h1 h2 (by decide), bt_off (i := 10) h1 h2 (by decide), bt_off (i := 11) h1 h2 (by decide)]; rfl
  · rw [h3, bt_off (i := 0) h1 h2 (by decide), bt_off (i := 1) h1 h2 (by decide), bt_off (i := 2) h1 h2 (by decide), bt_off (i := 3) h1 h2 (by decide), bt_off (i := 4) h1 h2 (by decide), bt_off (i := 5) h1 h2 (by decide), bt_off (i := 6) h1 h2 (by decide), bt_off (i := 8) h1 h2 (by decide), bt_off (i := 9) h1 h2 (by decide), bt_off (i := 10) h1 h2 (by decide), bt_off (i := 11) h1 h2 (by decide)]; rfl
  · rw [h3, bt_off (i := 0) h1 h2 (by decide), bt_off (i := 1) h1 h2 (by decide), bt_off (i := 2) h1 h2 (by decide), bt_off (i := 3) h1 h2 (by decide), bt_off (i := 4) h1 h2 (by decide), bt_off (i := 6) h1 h2 (by decide), bt_off (i := 7) h1 h2 (by decide), bt_off (i := 8) h1 h2 (by decide), bt_off (i := 9) h1 h2 (by decide), bt_off (i := 10) h1 h2 (by decide), bt_off (i := 11) h1 h2 (by decide)]; rfl
  · rw [h3, bt_off (i := 0) h1 h2 (by decide), bt_off (i := 1) h1 h2 (by decide), bt_off (i := 2) h1 h2 (by decide), bt_off (i := 3) h1 h2 (by decide), bt_off (i := 5) h1 h2 (by decide), bt_off (i := 6) h1 h2 (by decide), bt_off (i := 7) h1 h2 (by decide), bt_off (i := 8) h1 h2 (by decide), bt_off (i := 9) h1 h2 (by decide), bt_off (i := 10) h1 h2 (by decide), bt_off (i := 11) h1 h2 (by decide)]; rfl
  · rw [h3, bt_off (i := 0) h1 h2 (by decide), bt_off (i := 1) h1 h2 (by decide), bt_off (i := 3) h1 h2 (by decide), bt_off (i := 4) h1 h2 (by decide), bt_off (i := 5) h1 h2 (by decide), bt_off (i := 6) h1 h2 (by decide), bt_off (i := 7) h1 h2 (by decide), bt_off (i := 8) h1 h2 (by decide), bt_off (i := 9) h1 h2 (by decide), bt_off (i := 10) h1 h2 (by decide), bt_off (i := 11) h1 h2 (by decide)]; rfl
  · rw [h3, bt_off (i := 0) h1 h2 (by decide), bt_off (i := 2) h1 h2 (by decide), bt_off (i := 3) h1 h2 (by decide), bt_off (i := 4) h1 h2 (by decide), bt_off (i := 5) h1 h2 (by decide), bt_off (i := 6) h1 h2 (by decide), bt_off (i := 7) h1 h2 (by decide), bt_off (i := 8) h1 h2 (by decide), bt_off (i := 9) h1 h2 (by decide), bt_off (i := 10) h1 h2 (by decide), bt_off (i := 11) h1 h2 (by decide)]; rfl
theorem off_parts (n e : Nat) (he : e ≤ 11) : (n - n / 2 ^ e % 2 * 2 ^ e) % 2 ^ e = n % 2 ^ e ∧ (n - n / 2 ^ e % 2 * 2 ^ e) / 2 ^ (e + 1) = n / 2 ^ (e + 1) ∧ bt (n - n / 2 ^ e % 2 * 2 ^ e) e = false ∧
    (n - n / 2 ^ e % 2 * 2 ^ e) / 4096 = n / 4096 := by
  have hP : 0 < 2 ^ e := Nat.two_pow_pos e
  have h4 : (4096 : Nat) = 2 ^ (e + 1) * 2 ^ (11 - e) := by
    rw [← Nat.pow_add, show e + 1 + (11 - e) = 12 from by omega]
  have h0 := Nat.div_add_mod n (2 ^ e)
  have hl := Nat.mod_lt n hP
  have hs : 2 ^ (e + 1) = 2 ^ e * 2 := Nat.pow_succ 2 e
  unfold bt
  rw [h4]
  simp only [hs, ← Nat.div_div_eq_div_mul]
  generalize 2 ^ e = P at *
  generalize n / P = k at *
  generalize n % P = l at *
  have ho : n - k % 2 * P = P * (k - k % 2) + l := by
    rw [← h0, Nat.mul_sub, Nat.mul_comm (k % 2) P]
    have : P * (k % 2) ≤ P * k := Nat.mul_le_mul_left P (Nat.mod_le k 2)
    omega
  have hm : (n - k % 2 * P) % P = l := by rw [ho, Nat.mul_add_mod, Nat.mod_eq_of_lt hl]
  have hd : (n - k % 2 * P) / P = k - k % 2 := by rw [ho, Nat.mul_add_div hP, Nat.div_eq_of_lt hl, Nat.add_zero]
  have h2 : (k - k % 2) / 2 = k / 2 := by omega
  have h3 : (k - k % 2) % 2 = 0 := by omega
  refine ⟨hm, ?_, ?_, ?_⟩
  · rw [hd, h2]
  · rw [hd, h3]; rfl
  · rw [hd, h2]
theorem right_of (e q c : Nat) (he : 2 ^ e ≤ 256) (hq : (e, q) ∈ [(8, 1), (7, 2), (5, 4), (4, 5), (2, 7), (1, 8)]) (hc : c = 114 ∨ c = 119) (hh : ∀ n, (rowL n)[q]? = some (if bt n e then c else 45)) : RightOK (2 ^ e) e q c :=
  have h11 : e ≤ 11 := by
    have : 2 ^ e ≤ 2 ^ 8 := he
    have := (Nat.pow_le_pow_iff_right (by decide : 1 < 2)).mp this
    omega
  ⟨rfl, he, fun n => have h := off_parts n e h11; row_off h.1 h.2.1 h.2.2.1 h.2.2.2 hq, hh, hc, fun n => (off_parts n e h11).2.2.2⟩
theorem right128 : RightOK 128 7 2 119 := right_of 7 2 119 (by decide) (by decide) (by decide) (fun n => rfl)
theorem right256 : RightOK 256 8 1 114 := right_of 8 1 114 (by decide) (by decide) (by decide) (fun n => rfl)
theorem right16 : RightOK 16 4 5 119 := right_of 4 5 119 (by decide) (by decide) (by decide) (fun n => rfl)
theorem right32 : RightOK 32 5 4 114 := right_of 5 4 114 (by decide) (by decide) (by decide) (fun n => rfl)
theorem right2 : RightOK 2 1 8 119 := right_of 1 8 119 (by decide) (by decide) (by decide) (fun n => rfl)
theorem right4 : RightOK 4 2 7 114 := right_of 2 7 114 (by decide) (by decide) (by decide) (fun n => rfl)
theorem right_all (k : Int) : ∃ r e q c, rightF k = ((r : Nat) : Int) ∧ RightOK r e q c := by
  unfold rightF
  split
  · exact ⟨128, 7, 2, 119, rfl, right128⟩
  split
  · exact ⟨256, 8, 1, 114, rfl, right256⟩
  split
  · exact ⟨16, 4, 5, 119, rfl, right16⟩
  split
  · exact ⟨32, 5, 4, 114, rfl, right32⟩
  split
  · exact ⟨2, 1, 8, 119, rfl, right2⟩
  · exact ⟨4, 2, 7, 114, rfl, right4⟩
section
variable {r e q c : Nat} (R : RightOK r e q c)
include R
theorem RightOK.pos : 0 < r := by rw [R.re]; exact Nat.two_pow_pos e
theorem RightOK.le (n : Nat) : n / r % 2 * r ≤ n :=
  Nat.le_trans (Nat.mul_le_mul_right r (Nat.mod_le _ _)) (Nat.div_mul_le_self n r)
theorem RightOK.offN (n : Nat) : offM n r = ((n - n / r % 2 * r : Nat) : Int) := by
  unfold offM
  have h := R.le n
  rw [fdivN, show (2 : Int) = ((2 : Nat) : Int) from rfl, fmodN, Int.ofNat_sub h]
  rfl
theorem RightOK.bitN (n : Nat) : bitM r n = bt n e := by
  unfold bitM bt
  rw [fdivN, show (2 : Int) = ((2 : Nat) : Int) from rfl, fmodN, R.re]
  rcases Nat.mod_two_eq_zero_or_one (n / 2 ^ e) with h | h <;> rw [h] <;> rfl
theorem RightOK.bandN (n : Nat) : Builtin.bitAnd n (Builtin.bitNot r) = offM n r := by
  have h1 : Builtin.bitAnd (n : Int) (Builtin.bitNot r) = n - ((n &&& r : Nat) : Int) := by
    have e1 : Builtin.bitNot (r : Int) = -r - 1 := rfl
    have e2 : Builtin.bitNot (Builtin.bitNot (r : Int)) = r := by show -(-(r : Int) - 1) - 1 = r; omega
    unfold Builtin.bitAnd
    rw [show decide (0 ≤ (n : Int)) = true from by simp, show decide (0 ≤ Builtin.bitNot (r : Int)) = false from by rw [e1]; simp; omega]
    dsimp only
    rw [e2]
    rfl
  rw [h1, R.offN, Int.ofNat_sub (R.le n), and_lit n e r R.re]
  have h3 : n / r % 2 = if bt n e then 1 else 0 := by rw [R.re]; exact bt01 n e
  rw [h3]
  cases bt n e
  · simp
  · simp
theorem RightOK.off_ok {m : Int} (h0 : 0 ≤ m) (h : TypeOK m) : 0 ≤ offM m r ∧ TypeOK (offM m r) := by
  obtain ⟨n, rfl⟩ := Int.eq_ofNat_of_zero_le h0
  rw [R.offN]
  refine ⟨by omega, ?_⟩
  unfold TypeOK at *
  rw [show (4096 : Int) = ((4096 : Nat) : Int) from rfl, fdivN] at *
  rw [R.top]; exact h
theorem RightOK.lr_off {m : Int} (h0 : 0 ≤ m) (h : TypeOK m) : lrS (offM m r) = offS q (lrS m) := by
  have h2 := R.off_ok h0 h
  obtain ⟨n, rfl⟩ := Int.eq_ofNat_of_zero_le h0
  rw [R.offN] at *
  rw [lrS_row _ h2.2.nat, lrS_row n h.nat, R.off]
  rfl
theorem RightOK.sign {m : Int} (h0 : 0 ≤ m) (h : TypeOK m) : (lrS m).cps.toList[q]? = some (if bitM r m then c else 45) := by
  obtain ⟨n, rfl⟩ := Int.eq_ofNat_of_zero_le h0
  rw [lrS_row n h.nat, R.bitN]
  exact R.here n
theorem RightOK.off_no {m : Int} (h0 : 0 ≤ m) (hb : bitM r m = false) : offM m r = m := by
  obtain ⟨n, rfl⟩ := Int.eq_ofNat_of_zero_le h0
  rw [R.bitN] at hb
  rw [R.offN]
  have h3 : n / r % 2 = if bt n e then 1 else 0 := by rw [R.re]; exact bt01 n e
  rw [h3, hb]
  simp
end
theorem lr_len {m : Int} (h0 : 0 ≤ m) (h : TypeOK m) : (lrS m).cps.toList.length = 10 := by
  obtain ⟨n, rfl⟩ := Int.eq_ofNat_of_zero_le h0
  rw [lrS_row n h.nat]; rfl
theorem lr_fine {m : Int} (h0 : 0 ≤ m) (h : TypeOK m) : PyData.strOk (lrS m) = true := by
  obtain ⟨n, rfl⟩ := Int.eq_ofNat_of_zero_le h0
  rw [lrS_row n h.nat]
  unfold PyData.strOk mkS
  rw [← Array.all_toList]
  unfold rowL
  have hr : ∀ b, rcS b < 0x110000 := by decide
  have hw : ∀ b, wcS b < 0x110000 := by decide
  have hx : ∀ b d, xcS 83 115 b d < 0x110000 := by decide
  have ht : ∀ b d, xcS 84 116 b d < 0x110000 := by decide
  have h0 : topS n < 0x110000 := by unfold topS; split; decide; split <;> decide
  simp [hr, hw, hx, ht, h0]
theorem count_map (f : Int → Str) (v : Str) (l : List Int) : (l.map f).count v = l.countP fun m => f m == v := by
  rw [List.count, List.countP_map]; rfl
theorem countP_two (p b : Int → Bool) : ∀ l : List Int, l.countP p = l.countP (fun m => p m && b m) + l.countP (fun m => p m && !b m)
  | [] => rfl
  | m :: l => by
    rw [List.countP_cons, List.countP_cons, List.countP_cons, countP_two p b l]
    cases p m <;> cases b m <;> simp <;> omega
theorem lay_strs : ∀ l : List Str, (∀ x ∈ l, PyData.strOk x = true) → PyData.canLayAll0 (l.map .str) = true
  | [], _ => rfl
  | x :: l, h => by
    rw [List.map_cons]
    show (PyData.canLay0 (.str x) && PyData.canLayAll0 (l.map .str)) = true
    rw [lay_strs l fun y hy => h y (.tail _ hy)]
    show (PyData.strOk x && true) = true
    rw [h x (.head _)]; rfl
theorem lay_tups : ∀ l : List (Int × Int × Str), (∀ r ∈ l, PyData.strOk r.2.2 = true) → PyData.canLayAll0 (l.map fun r => .tuple [.int r.1, .int r.2.1, .str r.2.2]) = true
  | [], _ => rfl
  | x :: l, h => by
    rw [List.map_cons]
    show (PyData.canLay0 (.tuple [.int x.1, .int x.2.1, .str x.2.2]) && PyData.canLayAll0 (l.map fun r => .tuple [.int r.1, .int r.2.1, .str r.2.2])) = true
    rw [lay_tups l fun y hy => h y (.tail _ hy)]
    show ((true && (true && (PyData.strOk x.2.2 && true))) && true) = true
    rw [h x (.head _)]; rfl
theorem lay_twos : ∀ n, PyData.canLayAll0 (List.replicate n (.int 2)) = true
  | 0 => rfl
  | n + 1 => by
    rw [List.replicate_succ]
    show (true && PyData.canLayAll0 (List.replicate n (.int 2))) = true
    rw [lay_twos n]; rfl
theorem depth_le (k : Nat) : ∀ l : List PyData, (∀ x ∈ l, PyData.depth x ≤ k) → PyData.depthAll l ≤ k
  | [], _ => Nat.zero_le _
  | x :: l, h => by
    show max (PyData.depth x) (PyData.depthAll l) ≤ k
    exact Nat.max_le.mpr ⟨h x (.head _), depth_le k l fun y hy => h y (.tail _ hy)⟩
theorem dueCS_mem (A B : List Str) : ∀ n, ∀ r ∈ dueCS A B n, r.2.2 ∈ A ++ B
  | 0, r, h => nomatch h
  | n + 1, r, h => by
    rcases List.mem_append.mp (show r ∈ dueCS A B n ++ dueStepS A B n from h) with h | h
    · exact dueCS_mem A B n r h
    · unfold dueStepS at h
      split at h
      · rename_i x hx
        split at h
        · rw [List.mem_singleton.mp h]
          exact List.mem_of_getElem? hx
        · cases h
      · cases h
theorem remF_mem {c : Str → Nat} {ys : List Str} {x : Str} (h : x ∈ remF c ys) : x ∈ ys := by
  have h1 := List.count_pos_iff.mpr h
  rw [remF_count] at h1
  exact List.count_pos_iff.mp (by omega)
theorem due_fine (A B M : List Str) (n : Nat) (hA : ∀ x ∈ A, PyData.strOk x = true) (hB : ∀ x ∈ B, PyData.strOk x = true) (hM : ∀ x ∈ M, PyData.strOk x = true) : PySem.SeqAt.shaped (dueD A B n M) = true := by
  unfold PySem.SeqAt.shaped
  rw [Bool.and_eq_true]
  have h3 := lay_tups (dueCS A B n) fun r hr => by
    rcases List.mem_append.mp (dueCS_mem A B n r hr) with h | h
    · exact hA _ h
    · exact hB _ h
  have h5 := lay_strs (leftS A B) fun x hx => hB x (by rw [leftS_eq] at hx; exact remF_mem hx)
  constructor
  · unfold dueD
    show (PyData.canLayAll0 (A.map .str) && (PyData.canLayAll0 (B.map .str) && (PyData.canLayAll0 ((dueCS A B n).map fun r => .tuple [.int r.1, .int r.2.1, .str r.2.2]) && (PyData.canLayAll0 (M.map .str) && (PyData.canLayAll0 ((leftS A B).map .str) && (PyData.canLayAll0 (List.replicate M.length (.int 2)) && true)))))) = true
    rw [lay_strs A hA, lay_strs B hB, h3, lay_strs M hM, h5, lay_twos]
    rfl
  · rw [decide_eq_true_eq]
    have s0 : ∀ l : List Str, PyData.depth (.list (l.map .str)) ≤ 2 := fun l => by
      show PyData.depthAll (l.map .str) + 1 ≤ 2
      have := depth_le 1 (l.map PyData.str) (fun x hx => by obtain ⟨y, _, rfl⟩ := List.mem_map.mp hx; exact Nat.zero_le _)
      omega
    have s1 : PyData.depth (.list ((dueCS A B n).map fun r => .tuple [.int r.1, .int r.2.1, .str r.2.2])) ≤ 2 := by
      show PyData.depthAll ((dueCS A B n).map fun r => .tuple [.int r.1, .int r.2.1, .str r.2.2]) + 1 ≤ 2
      have := depth_le 1 ((dueCS A B n).map fun r => PyData.tuple [.int r.1, .int r.2.1, .str r.2.2]) (fun x hx => by obtain ⟨y, _, rfl⟩ := List.mem_map.mp hx; exact Nat.le_refl _)
      omega
    have s2 : PyData.depth (.list (List.replicate M.length (.int 2))) ≤ 2 := by
      show PyData.depthAll (List.replicate M.length (.int 2)) + 1 ≤ 2
      have := depth_le 1 (List.replicate M.length (PyData.int 2)) (fun x hx => by rw [(List.mem_replicate.mp hx).2]; exact Nat.zero_le _)
      omega
    unfold dueD
    show PyData.depthAll _ + 1 ≤ 64
    have := depth_le 2 [.list (A.map .str), .list (B.map .str), .list ((dueCS A B n).map fun r => .tuple [.int r.1, .int r.2.1, .str r.2.2]), .list (M.map .str), .list ((leftS A B).map .str), .list (List.replicate M.length (.int 2))] (fun x hx => by
      simp only [List.mem_cons, List.not_mem_nil, or_false] at hx
      rcases hx with rfl | rfl | rfl | rfl | rfl | rfl
      · exact s0 _
      · exact s0 _
      · exact s1
      · exact s0 _
      · exact s0 _
      · exact s2)
    omega
theorem plain_law (Ms : List Int) (r e q c : Nat) (R : RightOK r e q c) (hlen : Ms.length ≤ 20) (hm1 : ∀ m ∈ Ms, 0 ≤ m ∧ TypeOK m) : PlainLaw Ms r := by
  have hm2 : ∀ m ∈ Ms, 0 ≤ offM m r ∧ TypeOK (offM m r) := fun m hm => R.off_ok (hm1 m hm).1 (hm1 m hm).2
  generalize hA : Ms.map lrS = A
  generalize hB : Ms.map (fun m => lrS (offM m r)) = B
  have eA : Ms.map fmS = A := by rw [← hA]; exact List.map_congr_left fun m hm => row_same (hm1 m hm).1 (hm1 m hm).2
  have eB : Ms.map (fun n => fmS (Builtin.bitAnd n (Builtin.bitNot r))) = B := by
    rw [← hB]
    refine List.map_congr_left fun m hm => ?_
    have h2 := hm2 m hm
    have h1 := (hm1 m hm).1
    have e1 : Builtin.bitAnd m (Builtin.bitNot r) = offM m r := by
      obtain ⟨n, rfl⟩ := Int.eq_ofNat_of_zero_le h1
      exact R.bandN n
    rw [e1]
    exact row_same h2.1 h2.2
  have hc45 : c ≠ 45 := by rcases R.ch with h | h <;> rw [h] <;> decide
  -- the test of a row
  have hF : ∃ Fp : Str → Bool, ∀ v, Fp v = (v.cps.toList[q]? == some c) := ⟨_, fun _ => rfl⟩
  obtain ⟨Fp, hFp⟩ := hF
  have F1 : ∀ m ∈ Ms, Fp (lrS m) = bitM r m := fun m hm => by
    rw [hFp, R.sign (hm1 m hm).1 (hm1 m hm).2]
    cases bitM r m
    · simpa using Ne.symm hc45
    · simp
  have F2 : ∀ m ∈ Ms, Fp (lrS (offM m r)) = false := fun m hm => by
    rw [hFp, R.lr_off (hm1 m hm).1 (hm1 m hm).2]
    have h1 := R.sign (hm1 m hm).1 (hm1 m hm).2
    have hq := (List.getElem?_eq_some_iff.mp h1).1
    show (((lrS m).cps.toList.set q 45)[q]? == some c) = false
    rw [List.getElem?_set_self hq]
    simpa using Ne.symm hc45
  have hBF : ∀ v, Fp v = true → v ∉ B := fun v hv hmem => by
    rw [← hB] at hmem
    obtain ⟨m, hm2', rfl⟩ := List.mem_map.mp hmem
    rw [F2 m hm2'] at hv; cases hv
  have cA : ∀ v, Fp v = false → A.count v = Ms.countP fun m => (lrS (offM m r) == v) && !bitM r m := fun v hv => by
    rw [← hA, count_map]
    refine List.countP_congr fun m hm => ?_
    constructor
    · intro h
      have hv2 : lrS m = v := by simpa using h
      have hb : bitM r m = false := by rw [← F1 m hm, hv2]; exact hv
      rw [R.off_no (hm1 m hm).1 hb, hb]
      simpa using hv2
    · intro h
      rw [Bool.and_eq_true] at h
      have hb : bitM r m = false := by simpa using h.2
      have h1 := h.1
      rw [R.off_no (hm1 m hm).1 hb] at h1
      exact h1
  have cB : ∀ v, B.count v = (Ms.countP fun m => (lrS (offM m r) == v) && bitM r m) + Ms.countP fun m => (lrS (offM m r) == v) && !bitM r m := fun v => by
    rw [← hB, count_map]; exact countP_two _ _ _
  have hMA : A.reverse.filter Fp = (Ms.reverse.filter (bitM r)).map lrS := by
    rw [← hA, ← List.map_reverse, List.filter_map]
    congr 1
    refine List.filter_congr fun m hm => ?_
    exact F1 m (List.mem_reverse.mp hm)
  have hMlen : A.length = Ms.length := by rw [← hA, List.length_map]
  have hBlen : B.length = Ms.length := by rw [← hB, List.length_map]
  -- what the difference gives
  have miss : ∀ xs zs : List (Str × Tok), xs.map Prod.fst = A → zs.map Prod.fst = B → (uldF xs.reverse zs []).1.map Prod.fst = (Ms.reverse.filter (bitM r)).map lrS := fun xs zs hx hz => by
    rw [uld_miss Fp xs.reverse zs [] ?_ ?_, List.map_reverse, hx, ← hMA]
    · rfl
    · intro v hv
      rw [List.map_reverse, hx, hz, List.count_reverse, cA v hv, cB v]
      omega
    · intro v hv; rw [hz]; exact hBF v hv
  have left : ∀ xs zs : List (Str × Tok), xs.map Prod.fst = A → zs.map Prod.fst = B → (uldF xs.reverse zs []).2.map Prod.fst = leftS A B := fun xs zs hx hz => by
    rw [uld_left B xs.reverse zs [] (fun _ => 0) (by rw [hz, remF_zero]), leftS_eq]
    apply remF_congr
    intro z
    rw [List.map_reverse, hx, List.count_reverse, Nat.zero_add]
  have hperm : (leftS A B).Perm (((Ms.reverse.filter (bitM r)).map lrS).map (offS q)) := by
    rw [List.perm_iff_count]
    intro v
    rw [leftS_eq, remF_count]
    have e1 : ((Ms.reverse.filter (bitM r)).map lrS).map (offS q) = (Ms.reverse.filter (bitM r)).map fun m => lrS (offM m r) := by
      rw [List.map_map]
      refine List.map_congr_left fun m hm => ?_
      have hm' := List.mem_reverse.mp (List.mem_filter.mp hm).1
      exact (R.lr_off (hm1 m hm').1 (hm1 m hm').2).symm
    rw [e1, count_map, List.countP_filter, (List.reverse_perm Ms).countP_eq]
    cases hv : Fp v with
    | true =>
      rw [List.count_eq_zero.mpr (hBF v hv), Nat.zero_sub]
      symm
      rw [List.countP_eq_zero]
      intro m hm h
      rw [Bool.and_eq_true] at h
      have : lrS (offM m r) = v := by simpa using h.1
      rw [← this, F2 m hm] at hv; cases hv
    | false => rw [cA v hv, cB v]; omega
  have hrow : ∀ x ∈ (Ms.reverse.filter (bitM r)).map lrS, x.cps.toList[q]? = some c ∧ x.cps.toList.length ≤ 16 := fun x hx => by
    obtain ⟨m, hm, rfl⟩ := List.mem_map.mp hx
    obtain ⟨hm, hb⟩ := List.mem_filter.mp hm
    have hm' := List.mem_reverse.mp hm
    refine ⟨?_, by rw [lr_len (hm1 m hm').1 (hm1 m hm').2]; omega⟩
    rw [R.sign (hm1 m hm').1 (hm1 m hm').2, hb]; rfl
  refine ⟨by have := R.pos; omega, by have := R.r1; omega, hlen, hm1, hm2, ?_, ?_, ?_⟩
  · intro xs zs hx hz a b ha hb sa sb i x y hax hby
    rw [eA] at hx
    rw [eB] at hz
    rw [miss xs zs hx hz] at ha
    rw [left xs zs hx hz] at hb
    exact lev_all R.ch hrow hperm ha hb sa sb i x y hax hby
  · intro xs zs hx hz
    rw [eA] at hx
    rw [eB] at hz
    rw [hA, hB]
    have h1 := miss xs zs hx hz
    have h2 := left xs zs hx hz
    have h3 := cdF_eq xs zs
    have l1 : xs.length = Ms.length := by rw [← List.length_map (f := Prod.fst), hx, hMlen]
    have l2 : zs.length = Ms.length := by rw [← List.length_map (f := Prod.fst), hz, hBlen]
    rw [hx, hz, l1, l2, show Ms.length + Ms.length = 2 * Ms.length from by omega] at h3
    unfold toldD dueD
    rw [← h1, ← h2, ← h3, ← hx, ← hz]
    simp only [List.map_map, List.length_map]
    rfl
  · rw [hA, hB]
    refine due_fine _ _ _ _ ?_ ?_ ?_
    · intro x hx
      rw [← hA] at hx
      obtain ⟨m, hm, rfl⟩ := List.mem_map.mp hx
      exact lr_fine (hm1 m hm).1 (hm1 m hm).2
    · intro x hx
      rw [← hB] at hx
      obtain ⟨m, hm, rfl⟩ := List.mem_map.mp hx
      exact lr_fine (hm2 m hm).1 (hm2 m hm).2
    · intro x hx
      obtain ⟨m, hm, rfl⟩ := List.mem_map.mp hx
      have hm' := List.mem_reverse.mp (List.mem_filter.mp hm).1
      exact lr_fine (hm1 m hm').1 (hm1 m hm').2
theorem modes_ok (ns : List Int) : ∀ m ∈ modesF ns, 0 ≤ m ∧ TypeOK m := by
  have lit : ∀ m ∈ [(33188 : Int), 33060, 33152, 35309, 33060, 16877], 0 ≤ m ∧ TypeOK m := by
    unfold TypeOK; decide
  have elm : ∀ n : Int, 0 ≤ elemF n ∧ TypeOK (elemF n) := fun n => by
    have hl : 0 ≤ (n.fdiv 3).fmod 4096 ∧ (n.fdiv 3).fmod 4096 < 4096 := by rw [Int.fmod_eq_emod_of_nonneg _ (by decide)]; omega
    unfold elemF typeF TypeOK
    generalize (n.fdiv 3).fmod 4096 = low at hl ⊢
    rw [Int.fdiv_eq_ediv_of_nonneg _ (by decide)]
    split
    · omega
    split
    · omega
    · omega
  intro m hm
  rcases List.mem_append.mp (show m ∈ [(33188 : Int), 33060, 33152, 35309, 33060, 16877] ++ (ns.take 4).map elemF from hm) with h | h
  · exact lit m h
  · obtain ⟨n, _, rfl⟩ := List.mem_map.mp h
    exact elm n
theorem modes_len (ns : List Int) : (modesF ns).length ≤ 20 := by
  unfold modesF
  rw [List.length_append, List.length_map, List.length_take]
  simp only [List.length_cons, List.length_nil]
  omega
theorem plain_all (ns : List Int) (k : Int) : PlainLaw (modesF ns) (rightF k) := by
  obtain ⟨r, e, q, c, hr, R⟩ := right_all k
  rw [hr]
  exact plain_law (modesF ns) r e q c R (modes_len ns) (modes_ok ns)
end Mine
end
section
open PySem PySem.W PyProof.Rows PySem.Calls PyProof.V PyProof.Rows.TI
set_option Elab.async false
set_option maxRecDepth 100000
set_option maxHeartbeats 2000000
namespace Mine
theorem ints_iv : ∀ {vs : List Value} {ns : List Int}, IntsAre vs ns → ∃ l : List (Int × Tok), vs = IV l ∧ l.map Prod.fst = ns
  | _, _, .nil => ⟨[], rfl, rfl⟩
  | _, _, .cons n t h => by
    obtain ⟨l, rfl, e⟩ := ints_iv h
    exact ⟨(n, t) :: l, rfl, by simp [e]⟩
theorem lawTry (PL : ∀ ns : List Int, ns.length ≤ 63 → PlainLaw (modesF ns) (rightF ((ns.take 4).sum.fmod 6))) : PySem.Challenge.rw_oy0181_01.Holds := by
  refine hdl ?_
  k_fill
  intro w s₀ s₁ mg mb G Y fa o pm cd doc dV kV ho hd hcd hD hmg hg args vals as hpre hlay hrd hwl hlo
  have KX := kIn_of Y
  refine Ground.open G ?_
  intro T B D TE TW
  try (refine guard_noD D (by decide +kernel) ?_; clear D)
  have TA := at_of_top T
  try (obtain ⟨_, _, he, B0⟩ := based_of_top T rfl hmg ho hd; have he' : cd = _ := he; subst he'; clear he)
  clear hmg
  wrow_args hpre hlay hrd hwl hlo
  refine enter_call ?_
  w_top on
  (try refine codeAny_mono ?_ (fun _ _ g => GoodW.toG g))
  have K0 := below_caller (Top.heap T)
  w_call any ho hd hcd hD T F
  clear hd TA
  k_drop
  rename_i ca _ nsI _ _ _ _ _ _ _ l vals _ hL _ _ _ hI _ hlen _ h1 N1
  obtain ⟨ns, rfl, hns⟩ : ∃ ns : List (Int × Tok), vals = IV ns ∧ ns.map Prod.fst = nsI := ints_iv hI
  have hlen2 : ns.length ≤ 63 := by rw [← List.length_map (f := Prod.fst), hns]; omega
  have hPL := PL nsI (by omega)
  rw [← hns, ← List.map_take] at hPL
  have F1 : Fr s₁.heap s₁.heap.objs.size h1 (fun y => if y = Str.ofString "script" then some (.ref l) else none) := Fr.congr F fun y => by
    show List.lookup y [(Str.ofString "script", Value.ref l)] = _
    rw [lkI]; rfl
  refine law_body (s₁.heap) _ ⟨_, _, _, _, _⟩ l fa _ ns _ _ KX T F1 N1 hL hlen2 hPL ?_
  intro h' tk hk
  refine ⟨.inl ⟨_, .bool true, [], rfl, ?_, .bool true, ?_, ?_⟩, hk, rfl, hg⟩
  · intro cls; with_unfolding_all rfl
  · with_unfolding_all rfl
  · exact fun _ => ⟨.nil, fun _ h => nomatch h⟩
end Mine
end
set_option Elab.async false
theorem PySem.Challenge.cw_oy0181_01_holds : PySem.Challenge.rw_oy0181_01.Holds :=
  Mine.lawTry fun ns _ => Mine.plain_all ns _
